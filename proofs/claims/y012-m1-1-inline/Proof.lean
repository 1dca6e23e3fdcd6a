import JvmDerived
import JvmDerived.Pilot.@@N@@Statement
import JvmDerived.Pilot.@@N@@Code
set_option linter.unusedVariables false
set_option linter.unusedSimpArgs false
@@BLOCK:TracedD.lean.txt@@
namespace Jvm.OwnGo
open Sem ClassFile Op Lib Jvm.Stand Jvm.Free Jvm.LawKit Jvm.RoadKit Bundle
section OwnFacts
variable {Z : State} {h h' : Heap} {a b t : Addr} {C n d : String} {v w : Value} {ws : List Addr} {bo : Bool} {ka kb : ClassId} {ty : FieldType} {z : Int32} {vs : List Value} {dv : Value} {cs : List Int32} {sl : Nat}
theorem Sta_keep (F : Sta Z h C n d v) (K : Keep h h' []) : Sta Z h' C n d v := by
  obtain ⟨cf, i, k, f, st, cell, h1, h2, h3, h4, h5, h6, h7⟩ := F
  exact ⟨cf, i, k, f, st, cell, h1, h2, h3, h4, K.2.1 _ _ h5 nin0, h6, h7⟩
theorem Ins_keep (F : Ins Z h a C bo) (K : Keep h h' ws) : Ins Z h' a C bo := by
  obtain ⟨cell, cT, h1, h2, h3⟩ := F
  obtain ⟨c', q, r1, r2, r3⟩ := K.2.2 a cell h1
  exact ⟨c', cT, q, h2, by rw [r1, r2]; exact h3⟩
theorem own_sto {y : Addr} (F : Arv Z h a ka ty z vs dv) (O : Ovr Z ka C) (I : Ins Z h y C true) : Sto Z h a (.ref y) := by
  obtain ⟨cl, A, q, -⟩ := F
  exact Sto.ofV A q O I
theorem own_alt {x t t' : Addr} {n : Nat} (g : t' = t ∨ n ≤ t') (h1 : x ≠ t) (h2 : x < n) : x ≠ t' := g.elim (fun q => by rw [q]; exact h1) (fun q => Nat.ne_of_lt (Nat.lt_of_lt_of_le h2 q))
theorem own_alt_le {t t' : Addr} {m n : Nat} (g : t' = t ∨ n ≤ t') (h1 : m ≤ t) (h2 : m ≤ n) : m ≤ t' := g.elim (fun q => by rw [q]; exact h1) (fun q => Nat.le_trans h2 q)
theorem Sta_keepE (F : Sta Z h C n d v) (K : Keep h h' ws) (q : ∀ x ∈ ws, ∃ Cx, Exa Z h x Cx) : Sta Z h' C n d v := by
  obtain ⟨cf, i, k, f, st, cell, h1, h2, h3, h4, h5, h6, h7⟩ := F
  refine ⟨cf, i, k, f, st, cell, h1, h2, h3, h4, K.2.1 _ _ h5 (fun hm => ?_), h6, h7⟩
  obtain ⟨Cx, c1, k1, e1, -, -, e4, -⟩ := q _ hm
  cases e1.symm.trans h5
  rw [e4] at h6; cases h6
theorem own_ne_arv {a0 : Array Value} {nk : Nat} (F : Exa Z h a C) (wi : (Cond.instantiable C nk).before a0 Z = true) (G : Arv Z h b ka ty z vs dv) : a ≠ b := by
  obtain ⟨cl, A, -⟩ := G
  exact ne_arr F wi A
/-- the String at a: one byte a char, its array at t -/
def Str (Z : State) (h : Heap) (a t : Addr) (kb : ClassId) (cs : List Int32) : Prop :=
  Exa Z h a "java/lang/String" ∧ Fld Z h a "java/lang/String" "coder" "B" (.int 0) ∧ Fld Z h a "java/lang/String" "value" "[B" (.ref t) ∧ Arv Z h t kb .byte (Int32.ofNat cs.length) ((cs.map fun c => c.toInt8.toInt32).map Value.int) (.int 0) ∧ cs.length ≤ 4000 ∧ ∀ c ∈ cs, ¬ c < 0 ∧ ¬ (255 : Int32) < c
theorem Str.keep (S : Str Z h a t kb cs) (K : Keep h h' ws) (q : a ∉ ws) (r : t ∉ ws) : Str Z h' a t kb cs := ⟨S.1.keep K, S.2.1.keep K q, S.2.2.1.keep K q, S.2.2.2.1.keep K r, S.2.2.2.2⟩
theorem Str.ext (S : Str Z h a t kb cs) (E : Ext h h') : Str Z h' a t kb cs := ⟨S.1.ext E, S.2.1.ext E, S.2.2.1.ext E, S.2.2.2.1.ext E, S.2.2.2.2⟩
theorem Str.other (S : Str Z h a t kb cs) (W : Wr h h' b sl v) (q : a ≠ b) (r : t ≠ b) : Str Z h' a t kb cs := ⟨S.1.wr W, S.2.1.other W (Or.inl q), S.2.2.1.other W (Or.inl q), S.2.2.2.1.other W r, S.2.2.2.2⟩
theorem Str.tlt (S : Str Z h a t kb cs) : t < h.size := S.2.2.2.1.lt
/-- C's chain of superclasses does not meet K, a class that can be made -/
theorem own_root {a0 : Array Value} {O K : String} {nk : Nat} (w : (Cond.noSuperclass O).before a0 Z = true) (wk : (Cond.instantiable K nk).before a0 Z = true) (hn : O ≠ K) : NS Z O K := by
  obtain ⟨c, k, h1, h2, h3, -, -⟩ := Cond.noSuperclass_spec w
  obtain ⟨t, kt, g1, -⟩ := Cond.instantiable_spec wk
  have ne := ids_ne h1 g1 hn
  refine ⟨c, t, h1, g1, fun fuel => ?_⟩
  cases fuel with
  | zero => rfl
  | succ f => simp [Vm.isSubclassAux, ne, h2, h3]
theorem own_no {a0 : Array Value} {C S K : String} {nk : Nat} (w : (Cond.superclass C S).before a0 Z = true) (wk : (Cond.instantiable K nk).before a0 Z = true) (n : NS Z C K) (hn : C ≠ K) : ∃ c t, Z.vm.findClass C = some c ∧ Z.vm.findClass K = some t ∧ Z.vm.assignable c t = false := by
  obtain ⟨c, t, h0, g0, n3⟩ := n
  obtain ⟨p, k, kp, h1, h2, h3, h4, h5, -, h7⟩ := Cond.superclass_spec h0 w
  obtain ⟨t', k', g1, g2, g3, g4, -⟩ := Cond.instantiable_spec wk
  cases g0.symm.trans g1
  have g5 : k'.isInterface = false := by
    cases hi : k'.isInterface <;> simp [hi] at g4 ⊢
  have ne := ids_ne h0 g0 hn
  refine ⟨c, t, h0, g0, ?_⟩
  show Z.vm.assignableAux (255 + 1) c t = false
  simp [Vm.assignableAux, ne, h2, g2, h5, g3, g5, Vm.isSubclass, n3]
/-- the boxes that stood before -/
def Box (Z : State) (h : Heap) (a : Addr) (K d : String) (z : Int32) (val : Int32 → Value) : Prop :=
  ∃ c : Cell, Arr Z h a c (.object K) ∧ c.slots.size = z.toNatClampNeg ∧ ¬ z < 0 ∧ ∀ j : Int32, ¬ (j < 0 ∨ c.slots.size ≤ j.toNatClampNeg) → ∃ b : Addr, c.slots[j.toNatClampNeg]? = some (.ref b) ∧ Exa Z h b K ∧ Fld Z h b K "value" d (val j)
theorem Box.start {K : String} {val : Int32 → Value} {c : Cell} (F : Bxs Z a c K d z val) : Box Z Z.heap a K d z val := ⟨c, F.1, F.2.1, F.2.2.1, F.2.2.2⟩
theorem Box.keep {K : String} {val : Int32 → Value} (F : Box Z h a K d z val) (Kp : Keep h h' []) : Box Z h' a K d z val := by
  obtain ⟨c, f1, f2, f3, f4⟩ := F
  refine ⟨c, ⟨Kp.2.1 _ _ f1.1 nin0, f1.2⟩, f2, f3, fun j hj => ?_⟩
  obtain ⟨b, q1, q2, q3⟩ := f4 j hj
  exact ⟨b, q1, q2.keep Kp, q3.keep Kp nin0⟩
end OwnFacts
end Jvm.OwnGo
namespace Jvm.OwnGo
open Sem ClassFile Op Lib Jvm.Stand Jvm.Free Jvm.LawKit Jvm.RoadKit Bundle
section OwnGo
variable {Z : State} {a0 : Array Value} {tb : List Jvm.Cond} {p : Program} {l : Launch} {e : Env} {R : Room} {s : State} {m : MethodId} {args : Array Value} {below : List Frame} {meth : Method} {c : Code} {own mname : String} {bytes : ByteArray} {maxL : Nat} {ret : Option FieldType} {n0 : Nat} {Q : Option Value → Heap → List Addr → Prop} {Q2 : Option Value → Heap → Prop} {fs : List Addr} {h : Heap} {k n : Nat} {pc : Nat} {Ls : Array Slot} {St : List Value} {EL : List (String × Nat)}
/-- what is fixed in the walk of one body -/
def Cx (Z : State) (a0 : Array Value) (tb : List Jvm.Cond) (p : Program) (s : State) (m : MethodId) (meth : Method) (c : Code) (own mname : String) (bytes : ByteArray) (maxL : Nat) (ret : Option FieldType) (n0 : Nat) : Prop :=
  p.tables.exec = Jvm.exec ∧ Z.Warmed39 s.vm ∧ s.vm.findClass own = some m.cls ∧ c.code = bytes ∧ c.maxLocals = maxL ∧ meth.sig.returnType = ret ∧ meth.locks = false ∧ (∀ d ∈ tb, d.before a0 Z = true) ∧ meth.name = mname ∧ n0 ≤ s.heap.size
theorem Cx.hx (C : Cx Z a0 tb p s m meth c own mname bytes maxL ret n0) : p.tables.exec = Jvm.exec := C.1
theorem Cx.hZ (C : Cx Z a0 tb p s m meth c own mname bytes maxL ret n0) : Z.Warmed39 s.vm := C.2.1
theorem Cx.hown (C : Cx Z a0 tb p s m meth c own mname bytes maxL ret n0) : s.vm.findClass own = some m.cls := C.2.2.1
theorem Cx.hby (C : Cx Z a0 tb p s m meth c own mname bytes maxL ret n0) : c.code = bytes := C.2.2.2.1
theorem Cx.hml (C : Cx Z a0 tb p s m meth c own mname bytes maxL ret n0) : c.maxLocals = maxL := C.2.2.2.2.1
theorem Cx.hret (C : Cx Z a0 tb p s m meth c own mname bytes maxL ret n0) : meth.sig.returnType = ret := C.2.2.2.2.2.1
theorem Cx.hlk (C : Cx Z a0 tb p s m meth c own mname bytes maxL ret n0) : meth.locks = false := C.2.2.2.2.2.2.1
theorem Cx.hw (C : Cx Z a0 tb p s m meth c own mname bytes maxL ret n0) {d : Jvm.Cond} (hd : d ∈ tb) : d.before a0 Z = true := C.2.2.2.2.2.2.2.1 d hd
theorem Cx.hnm (C : Cx Z a0 tb p s m meth c own mname bytes maxL ret n0) : meth.name = mname := C.2.2.2.2.2.2.2.2.1
theorem Cx.hn0 (C : Cx Z a0 tb p s m meth c own mname bytes maxL ret n0) : n0 ≤ s.heap.size := C.2.2.2.2.2.2.2.2.2
theorem Cx.hownAt (C : Cx Z a0 tb p s m meth c own mname bytes maxL ret n0) {vm0 : Vm} (hZ : Z.Warmed39 vm0) : vm0.findClass own = some m.cls := by
  rw [hZ.alike.findClass, ← C.hZ.alike.findClass]; exact C.hown
/-- what holds of the tables and the heap all along: the literals' invariant, and which new cells may be written -/
def Inv (Z : State) (EL : List (String × Nat)) (s : State) (vm0 : Vm) (n0 : Nat) (fs : List Addr) (h : Heap) : Prop :=
  n0 ≤ h.size ∧ (∀ x ∈ fs, n0 ≤ x ∧ x < h.size ∧ Safe Z EL vm0 h x) ∧ (∃ k0, s.Since vm0 k0 ∧ k0 ≤ h.size) ∧ Z.Warmed39 vm0 ∧ CHv Z EL vm0 h ∧ CHr Z EL s.vm s.heap vm0 h
theorem Inv.hZ {vm0 : Vm} (I : Inv Z EL s vm0 n0 fs h) : Z.Warmed39 vm0 := I.2.2.2.1
theorem Inv.ext {vm0 : Vm} {h' : Heap} (I : Inv Z EL s vm0 n0 fs h) (E : Ext h h') : Inv Z EL s vm0 n0 fs h' := by
  obtain ⟨i1, i2, ⟨k0, i3, i4⟩, i5, i6, i7⟩ := I
  exact ⟨Nat.le_trans i1 E.1, fun x hx => ⟨(i2 x hx).1, Nat.lt_of_lt_of_le (i2 x hx).2.1 E.1, (i2 x hx).2.2.ext E i6⟩, ⟨k0, i3, Nat.le_trans i4 E.1⟩, i5, i6.ext E, i7.trans (CHr.ext E i6)⟩
theorem Inv.new {vm0 : Vm} {h' : Heap} (I : Inv Z EL s vm0 n0 fs h) (E : Ext h h') (q : h.size < h'.size) : Inv Z EL s vm0 n0 (h.size :: fs) h' := by
  have J := I.ext E
  refine ⟨J.1, fun x hx => ?_, J.2.2⟩
  rcases List.mem_cons.mp hx with rfl | hx
  · exact ⟨I.1, q, (Safe.new (Nat.le_refl _)).ext E I.2.2.2.2.1⟩
  · exact J.2.1 x hx
theorem Inv.wr {vm0 : Vm} {h' : Heap} {a : Addr} {sl : Nat} {v : Value} (I : Inv Z EL s vm0 n0 fs h) (W : Wr h h' a sl v) (ha : a ∈ fs) : Inv Z EL s vm0 n0 fs h' := by
  obtain ⟨i1, i2, ⟨k0, i3, i4⟩, i5, i6, i7⟩ := I
  have hs := W.size
  have S := (i2 a ha).2.2
  exact ⟨by omega, fun x hx => ⟨(i2 x hx).1, by rw [hs]; exact (i2 x hx).2.1, Safe.wr W S i6 (i2 x hx).2.2⟩, ⟨k0, i3, by omega⟩, i5, i6.wr W S, i7.trans (CHr.wr W S i6)⟩
theorem Inv.kept {vm0 : Vm} {h' : Heap} {a : Addr} (I : Inv Z EL s vm0 n0 fs h) (K : Keep h h' [a]) (ha : a ∈ fs) : Inv Z EL s vm0 n0 fs h' := by
  obtain ⟨i1, i2, ⟨k0, i3, i4⟩, i5, i6, i7⟩ := I
  have S : ∀ x ∈ [a], Safe Z EL vm0 h x := fun x hx => by cases List.mem_singleton.mp hx; exact (i2 a ha).2.2
  exact ⟨Nat.le_trans i1 K.1, fun x hx => ⟨(i2 x hx).1, Nat.lt_of_lt_of_le (i2 x hx).2.1 K.1, (i2 x hx).2.2.keep K S i6⟩, ⟨k0, i3, Nat.le_trans i4 K.1⟩, i5, i6.keep K S, i7.trans (CHr.keep K S i6)⟩
theorem Inv.ge {vm0 : Vm} {a : Addr} (I : Inv Z EL s vm0 n0 fs h) (ha : a ∈ fs) : n0 ≤ a := (I.2.1 a ha).1
theorem Inv.less {vm0 : Vm} {fs' : List Addr} (I : Inv Z EL s vm0 n0 fs h) (q : ∀ x ∈ fs', x ∈ fs) : Inv Z EL s vm0 n0 fs' h := ⟨I.1, fun x hx => I.2.1 x (q x hx), I.2.2⟩
/-- a body that tells of no new cell that its caller may write -/
def nq (Q : Option Value → Heap → Prop) : Option Value → Heap → List Addr → Prop := fun v h ns => ns = [] ∧ Q v h
/-- from every state that stands at frame f over the heap h, the body ends well -/
def Go (Z : State) (EL : List (String × Nat)) (p : Program) (l : Launch) (e : Env) (R : Room) (s : State) (m : MethodId) (args : Array Value) (below : List Frame) (meth : Method) (c : Code) (n0 : Nat) (Q : Option Value → Heap → List Addr → Prop) (fs : List Addr) (h : Heap) (k n : Nat) (f : JFrame) : Prop :=
  ∀ vm0 T locs, Stand p l e R (s.setVm vm0) m args below meth c T locs k n → T.heap = h → Fr n0 locs → Inv Z EL s vm0 n0 fs h →
    ∃ s₂ o, Steps p.tables e below (T.setTop f) s₂ ∧ s₂.status = .running ∧ Ended s₂ below o ∧ ∃ v L ns, o = .returned v ∧ (Q v s₂.heap ns ∧ Fr n0 L) ∧ (∀ x ∈ ns, n0 ≤ x ∧ x < s₂.heap.size ∧ Safe Z EL s₂.vm s₂.heap x) ∧ CHr Z EL s.vm s.heap s₂.vm s₂.heap ∧ ReturnedEndW s o s₂ L R.cells R.slots
theorem Go.step {f f' : JFrame} (H : ∀ T : State, At T m c below → ∀ t, Steps p.tables e below (T.setTop f') t → Steps p.tables e below (T.setTop f) t) (K : Go Z EL p l e R s m args below meth c n0 Q fs h k n f') : Go Z EL p l e R s m args below meth c n0 Q fs h k n f := by
  intro vm0 T locs X eT N I
  obtain ⟨s2, o, st, r⟩ := K vm0 T locs X eT N I
  exact ⟨s2, o, H T X.here s2 st, r⟩
theorem Go.less {f : JFrame} {fs' : List Addr} (K : Go Z EL p l e R s m args below meth c n0 Q fs' h k n f) (q : ∀ x ∈ fs', x ∈ fs) : Go Z EL p l e R s m args below meth c n0 Q fs h k n f := by
  intro vm0 T locs X eT N I
  exact K vm0 T locs X eT N (I.less q)
theorem Go.size {f : JFrame} (K : n0 ≤ h.size → Go Z EL p l e R s m args below meth c n0 Q fs h k n f) : Go Z EL p l e R s m args below meth c n0 Q fs h k n f := by
  intro vm0 T locs X eT N I
  exact K I.1 vm0 T locs X eT N I
theorem Go.ge {f : JFrame} {a : Addr} (ha : a ∈ fs) (K : n0 ≤ a → Go Z EL p l e R s m args below meth c n0 Q fs h k n f) : Go Z EL p l e R s m args below meth c n0 Q fs h k n f := by
  intro vm0 T locs X eT N I
  exact K (I.ge ha) vm0 T locs X eT N I
theorem g_iload (C : Cx Z a0 tb p s m meth c own mname bytes maxL ret n0) {j : Nat} {z : Int32} (hd : decode bytes pc = .ok (.iload j, 2)) (hl : Ls[j]? = some (.val (.int z))) (K : Go Z EL p l e R s m args below meth c n0 Q fs h k n (mkF m (pc + 2) Ls (.int z :: St))) : Go Z EL p l e R s m args below meth c n0 Q fs h k n (mkF m pc Ls (St)) :=
  Go.step (fun T A t st => XS.iload A C.hx rfl (hb C.hby hd) hl st) K
theorem g_iloadN (C : Cx Z a0 tb p s m meth c own mname bytes maxL ret n0) {j : Fin 4} {z : Int32} (hd : decode bytes pc = .ok (.iload_n j, 1)) (hl : Ls[j.val]? = some (.val (.int z))) (K : Go Z EL p l e R s m args below meth c n0 Q fs h k n (mkF m (pc + 1) Ls (.int z :: St))) : Go Z EL p l e R s m args below meth c n0 Q fs h k n (mkF m pc Ls (St)) :=
  Go.step (fun T A t st => XS.iloadN A C.hx rfl (hb C.hby hd) hl st) K
theorem g_aload (C : Cx Z a0 tb p s m meth c own mname bytes maxL ret n0) {j : Nat} {v : Value} (hd : decode bytes pc = .ok (.aload j, 2)) (hl : Ls[j]? = some (.val v)) (hv : v.isRef = true) (K : Go Z EL p l e R s m args below meth c n0 Q fs h k n (mkF m (pc + 2) Ls (v :: St))) : Go Z EL p l e R s m args below meth c n0 Q fs h k n (mkF m pc Ls (St)) :=
  Go.step (fun T A t st => XS.aload A C.hx rfl (hb C.hby hd) hl hv st) K
theorem g_aloadN (C : Cx Z a0 tb p s m meth c own mname bytes maxL ret n0) {j : Fin 4} {v : Value} (hd : decode bytes pc = .ok (.aload_n j, 1)) (hl : Ls[j.val]? = some (.val v)) (hv : v.isRef = true) (K : Go Z EL p l e R s m args below meth c n0 Q fs h k n (mkF m (pc + 1) Ls (v :: St))) : Go Z EL p l e R s m args below meth c n0 Q fs h k n (mkF m pc Ls (St)) :=
  Go.step (fun T A t st => XS.aloadN A C.hx rfl (hb C.hby hd) hl hv st) K
theorem g_istore (C : Cx Z a0 tb p s m meth c own mname bytes maxL ret n0) {j : Nat} {z : Int32} (l' : Array Slot) (hd : decode bytes pc = .ok (.istore j, 2)) (hl : storeLocals Ls j (.int z) = some l') (K : Go Z EL p l e R s m args below meth c n0 Q fs h k n (mkF m (pc + 2) l' St)) : Go Z EL p l e R s m args below meth c n0 Q fs h k n (mkF m pc Ls (.int z :: St)) :=
  Go.step (fun T A t st => XS.istore A C.hx rfl (hb C.hby hd) rfl hl st) K
theorem g_istoreN (C : Cx Z a0 tb p s m meth c own mname bytes maxL ret n0) {j : Fin 4} {z : Int32} (l' : Array Slot) (hd : decode bytes pc = .ok (.istore_n j, 1)) (hl : storeLocals Ls j.val (.int z) = some l') (K : Go Z EL p l e R s m args below meth c n0 Q fs h k n (mkF m (pc + 1) l' St)) : Go Z EL p l e R s m args below meth c n0 Q fs h k n (mkF m pc Ls (.int z :: St)) :=
  Go.step (fun T A t st => XS.istoreN A C.hx rfl (hb C.hby hd) rfl hl st) K
theorem g_astore (C : Cx Z a0 tb p s m meth c own mname bytes maxL ret n0) {j : Nat} {v : Value} (l' : Array Slot) (hd : decode bytes pc = .ok (.astore j, 2)) (hv : v.isRef = true) (hl : storeLocals Ls j v = some l') (K : Go Z EL p l e R s m args below meth c n0 Q fs h k n (mkF m (pc + 2) l' St)) : Go Z EL p l e R s m args below meth c n0 Q fs h k n (mkF m pc Ls (v :: St)) :=
  Go.step (fun T A t st => XS.astore A C.hx rfl (hb C.hby hd) rfl hv hl st) K
theorem g_astoreN (C : Cx Z a0 tb p s m meth c own mname bytes maxL ret n0) {j : Fin 4} {v : Value} (l' : Array Slot) (hd : decode bytes pc = .ok (.astore_n j, 1)) (hv : v.isRef = true) (hl : storeLocals Ls j.val v = some l') (K : Go Z EL p l e R s m args below meth c n0 Q fs h k n (mkF m (pc + 1) l' St)) : Go Z EL p l e R s m args below meth c n0 Q fs h k n (mkF m pc Ls (v :: St)) :=
  Go.step (fun T A t st => XS.astoreN A C.hx rfl (hb C.hby hd) rfl hv hl st) K
theorem g_iconst (C : Cx Z a0 tb p s m meth c own mname bytes maxL ret n0) {i : Int} (z : Int32) (hd : decode bytes pc = .ok (.iconst i, 1)) (hz : Int32.ofInt i = z) (K : Go Z EL p l e R s m args below meth c n0 Q fs h k n (mkF m (pc + 1) Ls (.int z :: St))) : Go Z EL p l e R s m args below meth c n0 Q fs h k n (mkF m pc Ls (St)) :=
  Go.step (fun T A t st => XS.iconst A C.hx rfl (hb C.hby hd) (hz ▸ st)) K
theorem g_bipush (C : Cx Z a0 tb p s m meth c own mname bytes maxL ret n0) {i : Int} (z : Int32) (hd : decode bytes pc = .ok (.bipush i, 2)) (hz : (Int8.ofInt i).toInt32 = z) (K : Go Z EL p l e R s m args below meth c n0 Q fs h k n (mkF m (pc + 2) Ls (.int z :: St))) : Go Z EL p l e R s m args below meth c n0 Q fs h k n (mkF m pc Ls (St)) :=
  Go.step (fun T A t st => XS.bipush A C.hx rfl (hb C.hby hd) (hz ▸ st)) K
theorem g_sipush (C : Cx Z a0 tb p s m meth c own mname bytes maxL ret n0) {i : Int} (z : Int32) (hd : decode bytes pc = .ok (.sipush i, 3)) (hz : (Int16.ofInt i).toInt32 = z) (K : Go Z EL p l e R s m args below meth c n0 Q fs h k n (mkF m (pc + 3) Ls (.int z :: St))) : Go Z EL p l e R s m args below meth c n0 Q fs h k n (mkF m pc Ls (St)) :=
  Go.step (fun T A t st => XS.sipush A C.hx rfl (hb C.hby hd) (hz ▸ st)) K
theorem g_aconst_null (C : Cx Z a0 tb p s m meth c own mname bytes maxL ret n0)  (hd : decode bytes pc = .ok (.aconst_null, 1))  (K : Go Z EL p l e R s m args below meth c n0 Q fs h k n (mkF m (pc + 1) Ls (.null :: St))) : Go Z EL p l e R s m args below meth c n0 Q fs h k n (mkF m pc Ls (St)) :=
  Go.step (fun T A t st => XS.aconstNull A C.hx rfl (hb C.hby hd) st) K
theorem g_iadd (C : Cx Z a0 tb p s m meth c own mname bytes maxL ret n0) {x y : Int32} (hd : decode bytes pc = .ok (.iadd, 1))  (K : Go Z EL p l e R s m args below meth c n0 Q fs h k n (mkF m (pc + 1) Ls (.int (x + y) :: St))) : Go Z EL p l e R s m args below meth c n0 Q fs h k n (mkF m pc Ls (.int y :: .int x :: St)) :=
  Go.step (fun T A t st => XS.iadd A C.hx rfl (hb C.hby hd) rfl st) K
theorem g_isub (C : Cx Z a0 tb p s m meth c own mname bytes maxL ret n0) {x y : Int32} (hd : decode bytes pc = .ok (.isub, 1))  (K : Go Z EL p l e R s m args below meth c n0 Q fs h k n (mkF m (pc + 1) Ls (.int (x - y) :: St))) : Go Z EL p l e R s m args below meth c n0 Q fs h k n (mkF m pc Ls (.int y :: .int x :: St)) :=
  Go.step (fun T A t st => XS.isub A C.hx rfl (hb C.hby hd) rfl st) K
theorem g_iand (C : Cx Z a0 tb p s m meth c own mname bytes maxL ret n0) {x y : Int32} (hd : decode bytes pc = .ok (.iand, 1))  (K : Go Z EL p l e R s m args below meth c n0 Q fs h k n (mkF m (pc + 1) Ls (.int (x &&& y) :: St))) : Go Z EL p l e R s m args below meth c n0 Q fs h k n (mkF m pc Ls (.int y :: .int x :: St)) :=
  Go.step (fun T A t st => XS.iand A C.hx rfl (hb C.hby hd) rfl st) K
theorem g_ishl (C : Cx Z a0 tb p s m meth c own mname bytes maxL ret n0) {x y : Int32} (hd : decode bytes pc = .ok (.ishl, 1))  (K : Go Z EL p l e R s m args below meth c n0 Q fs h k n (mkF m (pc + 1) Ls (.int (x <<< (y &&& 31)) :: St))) : Go Z EL p l e R s m args below meth c n0 Q fs h k n (mkF m pc Ls (.int y :: .int x :: St)) :=
  Go.step (fun T A t st => XS.ishl A C.hx rfl (hb C.hby hd) rfl st) K
theorem g_ishr (C : Cx Z a0 tb p s m meth c own mname bytes maxL ret n0) {x y : Int32} (hd : decode bytes pc = .ok (.ishr, 1))  (K : Go Z EL p l e R s m args below meth c n0 Q fs h k n (mkF m (pc + 1) Ls (.int (x >>> (y &&& 31)) :: St))) : Go Z EL p l e R s m args below meth c n0 Q fs h k n (mkF m pc Ls (.int y :: .int x :: St)) :=
  Go.step (fun T A t st => XS.ishr A C.hx rfl (hb C.hby hd) rfl st) K
theorem g_i2b (C : Cx Z a0 tb p s m meth c own mname bytes maxL ret n0) {x : Int32} (hd : decode bytes pc = .ok (.i2b, 1))  (K : Go Z EL p l e R s m args below meth c n0 Q fs h k n (mkF m (pc + 1) Ls (.int (x.toInt8.toInt32) :: St))) : Go Z EL p l e R s m args below meth c n0 Q fs h k n (mkF m pc Ls (.int x :: St)) :=
  Go.step (fun T A t st => XS.i2b A C.hx rfl (hb C.hby hd) rfl st) K
theorem g_i2c (C : Cx Z a0 tb p s m meth c own mname bytes maxL ret n0) {x : Int32} (hd : decode bytes pc = .ok (.i2c, 1))  (K : Go Z EL p l e R s m args below meth c n0 Q fs h k n (mkF m (pc + 1) Ls (.int (x.toUInt32.toUInt16.toUInt32.toInt32) :: St))) : Go Z EL p l e R s m args below meth c n0 Q fs h k n (mkF m pc Ls (.int x :: St)) :=
  Go.step (fun T A t st => XS.i2c A C.hx rfl (hb C.hby hd) rfl st) K
theorem g_dup (C : Cx Z a0 tb p s m meth c own mname bytes maxL ret n0) {v : Value} (hd : decode bytes pc = .ok (.dup, 1)) (hc : v.category = 1) (K : Go Z EL p l e R s m args below meth c n0 Q fs h k n (mkF m (pc + 1) Ls (v :: v :: St))) : Go Z EL p l e R s m args below meth c n0 Q fs h k n (mkF m pc Ls (v :: St)) :=
  Go.step (fun T A t st => XS.dup A C.hx rfl (hb C.hby hd) rfl hc st) K
theorem g_pop (C : Cx Z a0 tb p s m meth c own mname bytes maxL ret n0) {v : Value} (hd : decode bytes pc = .ok (.pop, 1)) (hc : v.category = 1) (K : Go Z EL p l e R s m args below meth c n0 Q fs h k n (mkF m (pc + 1) Ls St)) : Go Z EL p l e R s m args below meth c n0 Q fs h k n (mkF m pc Ls (v :: St)) :=
  Go.step (fun T A t st => XS.pop A C.hx rfl (hb C.hby hd) rfl hc st) K
theorem g_goto (C : Cx Z a0 tb p s m meth c own mname bytes maxL ret n0)  {o : Int} (pc' : Nat) (hd : decode bytes pc = .ok (.goto o, 3))  (ho : 0 ≤ (pc : Int) + o) (hp : ((pc : Int) + o).toNat = pc') (K : Go Z EL p l e R s m args below meth c n0 Q fs h k n (mkF m pc' Ls St)) : Go Z EL p l e R s m args below meth c n0 Q fs h k n (mkF m pc Ls (St)) :=
  Go.step (fun T A t st => XS.goto A C.hx rfl rfl (hb C.hby hd) ho hp st) K
theorem g_if_t (C : Cx Z a0 tb p s m meth c own mname bytes maxL ret n0) {cd : ClassFile.Cond} {x : Int32} {o : Int} (pc' : Nat) (hd : decode bytes pc = .ok (.ifCond cd o, 3)) (hc : ifCond.holds cd x = true) (ho : 0 ≤ (pc : Int) + o) (hp : ((pc : Int) + o).toNat = pc') (K : Go Z EL p l e R s m args below meth c n0 Q fs h k n (mkF m pc' Ls St)) : Go Z EL p l e R s m args below meth c n0 Q fs h k n (mkF m pc Ls (.int x :: St)) :=
  Go.step (fun T A t st => XS.ifYes A C.hx rfl rfl (hb C.hby hd) rfl hc ho hp st) K
theorem g_icmp_t (C : Cx Z a0 tb p s m meth c own mname bytes maxL ret n0) {cd : ClassFile.Cond} {x y : Int32} {o : Int} (pc' : Nat) (hd : decode bytes pc = .ok (.if_icmp cd o, 3)) (hc : if_icmp.holds cd x y = true) (ho : 0 ≤ (pc : Int) + o) (hp : ((pc : Int) + o).toNat = pc') (K : Go Z EL p l e R s m args below meth c n0 Q fs h k n (mkF m pc' Ls St)) : Go Z EL p l e R s m args below meth c n0 Q fs h k n (mkF m pc Ls (.int y :: .int x :: St)) :=
  Go.step (fun T A t st => XS.icmpYes A C.hx rfl rfl (hb C.hby hd) rfl hc ho hp st) K
theorem g_ifnonnull_t (C : Cx Z a0 tb p s m meth c own mname bytes maxL ret n0) {b : Addr} {o : Int} (pc' : Nat) (hd : decode bytes pc = .ok (.ifnonnull o, 3))  (ho : 0 ≤ (pc : Int) + o) (hp : ((pc : Int) + o).toNat = pc') (K : Go Z EL p l e R s m args below meth c n0 Q fs h k n (mkF m pc' Ls St)) : Go Z EL p l e R s m args below meth c n0 Q fs h k n (mkF m pc Ls (.ref b :: St)) :=
  Go.step (fun T A t st => XS.ifnonnullYes A C.hx rfl rfl (hb C.hby hd) rfl ho hp st) K
theorem g_if_f (C : Cx Z a0 tb p s m meth c own mname bytes maxL ret n0) {cd : ClassFile.Cond} {x : Int32} {o : Int} (hd : decode bytes pc = .ok (.ifCond cd o, 3)) (hc : ifCond.holds cd x = false) (K : Go Z EL p l e R s m args below meth c n0 Q fs h k n (mkF m (pc + 3) Ls St)) : Go Z EL p l e R s m args below meth c n0 Q fs h k n (mkF m pc Ls (.int x :: St)) :=
  Go.step (fun T A t st => XS.ifNo A C.hx rfl (hb C.hby hd) rfl hc st) K
theorem g_icmp_f (C : Cx Z a0 tb p s m meth c own mname bytes maxL ret n0) {cd : ClassFile.Cond} {x y : Int32} {o : Int} (hd : decode bytes pc = .ok (.if_icmp cd o, 3)) (hc : if_icmp.holds cd x y = false) (K : Go Z EL p l e R s m args below meth c n0 Q fs h k n (mkF m (pc + 3) Ls St)) : Go Z EL p l e R s m args below meth c n0 Q fs h k n (mkF m pc Ls (.int y :: .int x :: St)) :=
  Go.step (fun T A t st => XS.icmpNo A C.hx rfl (hb C.hby hd) rfl hc st) K
theorem g_ifnull_f (C : Cx Z a0 tb p s m meth c own mname bytes maxL ret n0) {b : Addr} {o : Int} (hd : decode bytes pc = .ok (.ifnull o, 3))  (K : Go Z EL p l e R s m args below meth c n0 Q fs h k n (mkF m (pc + 3) Ls St)) : Go Z EL p l e R s m args below meth c n0 Q fs h k n (mkF m pc Ls (.ref b :: St)) :=
  Go.step (fun T A t st => XS.ifnullNo A C.hx rfl (hb C.hby hd) rfl st) K
theorem g_new (C : Cx Z a0 tb p s m meth c own mname bytes maxL ret n0) {index ns : Nat} {Cn : String} (w : Jvm.Cond.classLink own index Cn ∈ tb) (wi : Jvm.Cond.instantiable Cn ns ∈ tb) (wz : Jvm.Cond.initialized Cn ∈ tb) (hd : decode bytes pc = .ok (.new index, 3)) (hc : k + 1 ≤ R.cells) (hl : n + ns ≤ R.slots)
    (K : ∀ a h', a = h.size → Ext h h' → Exa Z h' a Cn → (∀ {O nm d : String} {ty : FieldType}, Laid Z a0 Cn O nm d → parseFieldDescriptor d = some ty → Fld Z h' a O nm d (defaultValue ty)) → Go Z EL p l e R s m args below meth c n0 Q (a :: fs) h' (k + 1) (n + ns) (mkF m (pc + 3) Ls (.ref a :: St))) : Go Z EL p l e R s m args below meth c n0 Q fs h k n (mkF m pc Ls St) := by
  intro vm0 T locs X eT N I
  have hZ : Z.Warmed39 (s.setVm vm0).vm := I.hZ
  have hown : (s.setVm vm0).vm.findClass own = some m.cls := C.hownAt I.hZ
  obtain ⟨T', h', X', e', E', A', D', -, st⟩ := newO X C.hx hZ hown (C.hw w) (C.hw wi) (C.hw wz) eT (g := mkF m pc Ls St) rfl (hb C.hby hd) hc hl
  obtain ⟨s2, o, st2, r⟩ := K h.size h' rfl E' A' D' vm0 T' locs X' e' N (I.new E' A'.lt)
  exact ⟨s2, o, st _ st2, r⟩
theorem g_newarray (C : Cx Z a0 tb p s m meth c own mname bytes maxL ret n0) {aty : ArrayType} {z : Int32} (w : Jvm.Cond.arrayClass (newarray.typeOf aty) ∈ tb) (hd : decode bytes pc = .ok (.newarray aty, 2)) (hz : ¬ z < 0) (cap : Nat) (hcap : z.toNatClampNeg ≤ cap) (hbig : cap * 8 ≤ 536870912) (hc : k + 1 ≤ R.cells) (hl : n + cap ≤ R.slots) (ad : String) (had : "[" ++ (newarray.typeOf aty).toString = ad)
    (K : ∀ a h' ka, a = h.size → Ext h h' → Arv Z h' a ka (newarray.typeOf aty) z [] (defaultValue (newarray.typeOf aty)) → Exa Z h' a ad → Go Z EL p l e R s m args below meth c n0 Q (a :: fs) h' (k + 1) (n + cap) (mkF m (pc + 2) Ls (.ref a :: St))) : Go Z EL p l e R s m args below meth c n0 Q fs h k n (mkF m pc Ls (.int z :: St)) := by
  intro vm0 T locs X eT N I
  have hZ : Z.Warmed39 (s.setVm vm0).vm := I.hZ
  have hown : (s.setVm vm0).vm.findClass own = some m.cls := C.hownAt I.hZ
  obtain ⟨T', h', ka, X', e', E', A', Ex', st⟩ := newPE X C.hx hZ (C.hw w) eT (g := mkF m pc Ls (.int z :: St)) rfl (hb C.hby hd) rfl hz hcap hbig hc hl had
  obtain ⟨s2, o, st2, r⟩ := K h.size h' ka rfl E' (Arv.new A' hz) Ex' vm0 T' locs X' e' N (I.new E' A'.lt)
  exact ⟨s2, o, st _ st2, r⟩
theorem g_castore (C : Cx Z a0 tb p s m meth c own mname bytes maxL ret n0) {a : Addr} {ka : ClassId} {z j : Int32} {x : Int32} {vs : List Value} {dv : Value} (F : Arv Z h a ka .char z vs dv) (ha : a ∈ fs) (hd : decode bytes pc = .ok (.castore, 1)) (hj : ¬ j < 0 ∧ j < z) (i : Nat) (hi : j.toNatClampNeg = i) (hl : i < vs.length)
    (K : ∀ h', Wr h h' a j.toNatClampNeg (.int (nar .char x)) → Arv Z h' a ka .char z (vs.set i (.int (nar .char x))) dv → Go Z EL p l e R s m args below meth c n0 Q fs h' k n (mkF m (pc + 1) Ls St)) : Go Z EL p l e R s m args below meth c n0 Q fs h k n (mkF m pc Ls (.int x :: .int j :: .ref a :: St)) := by
  intro vm0 T locs X eT N I
  have hZ : Z.Warmed39 (s.setVm vm0).vm := I.hZ
  have hown : (s.setVm vm0).vm.findClass own = some m.cls := C.hownAt I.hZ
  obtain ⟨cl, A, q, S, Nn, H, G⟩ := F
  obtain ⟨T', h', X', e', W', st⟩ := stC X C.hx hZ eT A (j := j) (inb_of S hj) (g := mkF m pc Ls (.int x :: .int j :: .ref a :: St)) rfl rfl (hb C.hby hd)
  obtain ⟨s2, o, st2, r⟩ := K h' W' (Arv.set A q S Nn H G (fits_nar_char x) W' i hi hl) vm0 T' _ X' e' (Fr.snoc X' N (I.ge ha)) (I.wr W' ha)
  exact ⟨s2, o, st _ st2, r⟩
theorem g_bastore (C : Cx Z a0 tb p s m meth c own mname bytes maxL ret n0) {a : Addr} {ka : ClassId} {z j : Int32} {x : Int32} {vs : List Value} {dv : Value} (F : Arv Z h a ka .byte z vs dv) (ha : a ∈ fs) (hd : decode bytes pc = .ok (.bastore, 1)) (hj : ¬ j < 0 ∧ j < z) (i : Nat) (hi : j.toNatClampNeg = i) (hl : i < vs.length)
    (K : ∀ h', Wr h h' a j.toNatClampNeg (.int (nar .byte x)) → Arv Z h' a ka .byte z (vs.set i (.int (nar .byte x))) dv → Go Z EL p l e R s m args below meth c n0 Q fs h' k n (mkF m (pc + 1) Ls St)) : Go Z EL p l e R s m args below meth c n0 Q fs h k n (mkF m pc Ls (.int x :: .int j :: .ref a :: St)) := by
  intro vm0 T locs X eT N I
  have hZ : Z.Warmed39 (s.setVm vm0).vm := I.hZ
  have hown : (s.setVm vm0).vm.findClass own = some m.cls := C.hownAt I.hZ
  obtain ⟨cl, A, q, S, Nn, H, G⟩ := F
  obtain ⟨T', h', X', e', W', st⟩ := stB X C.hx hZ eT A (j := j) (inb_of S hj) (g := mkF m pc Ls (.int x :: .int j :: .ref a :: St)) rfl rfl (hb C.hby hd)
  obtain ⟨s2, o, st2, r⟩ := K h' W' (Arv.set A q S Nn H G (fits_nar_byte x) W' i hi hl) vm0 T' _ X' e' (Fr.snoc X' N (I.ge ha)) (I.wr W' ha)
  exact ⟨s2, o, st _ st2, r⟩
theorem g_arraylength (C : Cx Z a0 tb p s m meth c own mname bytes maxL ret n0) {a : Addr} {ka : ClassId} {ty : FieldType} {z : Int32} {vs : List Value} {dv : Value} (F : Arv Z h a ka ty z vs dv) (hd : decode bytes pc = .ok (.arraylength, 1))
    (K : Go Z EL p l e R s m args below meth c n0 Q fs h k n (mkF m (pc + 1) Ls (.int z :: St))) : Go Z EL p l e R s m args below meth c n0 Q fs h k n (mkF m pc Ls (.ref a :: St)) := by
  intro vm0 T locs X eT N I
  have hZ : Z.Warmed39 (s.setVm vm0).vm := I.hZ
  have hown : (s.setVm vm0).vm.findClass own = some m.cls := C.hownAt I.hZ
  obtain ⟨cl, A, q, S, Nn, H, G⟩ := F
  obtain ⟨s2, o, st2, r⟩ := K vm0 T locs X eT N I
  refine ⟨s2, o, X.arraylength C.hx (by rw [eT]; exact A.1) (State.isArrayOf_alike hZ.alike A.2.1) (g := mkF m pc Ls (.ref a :: St)) rfl rfl (hb C.hby hd) _ ?_, r⟩
  rw [len_of S Nn]; exact st2
theorem g_arraycopy (C : Cx Z a0 tb p s m meth c own mname bytes maxL ret n0) {index : Nat} {a b : Addr} {ka kb : ClassId} {ty : FieldType} {z z' sp dp nn : Int32} {vs vd : List Value} {dv dd : Value} (w1 : Jvm.Cond.methodLink own index Jvm.Stand.acN ∈ tb) (w2 : Jvm.Cond.native Jvm.Stand.acN ∈ tb) (w3 : Jvm.Cond.static Jvm.Stand.acN ∈ tb) (w4 : Jvm.Cond.initialized "java/lang/System" ∈ tb)
    (A : Arv Z h a ka ty z vs dv) (B : Arv Z h b kb ty z' vd dd) (hty : refKind ty = false) (h1 : ¬ sp < 0) (h2 : ¬ dp < 0) (h3 : ¬ nn < 0) (h4 : sp.toNatClampNeg + nn.toNatClampNeg ≤ z.toNatClampNeg) (h5 : dp.toNatClampNeg + nn.toNatClampNeg ≤ z'.toNatClampNeg) (us : List Value) (hus : us = (List.range nn.toNatClampNeg).map fun i => vs.getD (sp.toNatClampNeg + i) dv) (hlv : dp.toNatClampNeg + nn.toNatClampNeg ≤ vd.length)
    (hb' : b ∈ fs) (hsz : Ls.size = maxL) (hd : decode bytes pc = .ok (.invokestatic index, 3)) (hf : 1 ≤ R.frames) (W : Nat) (hW : (St.map fun v => v.category).sum ≤ W) (hlo : W + (nativeFrameWords "java/lang/System" "arraycopy" 5 + 11) ≤ R.locals)
    (K : ∀ h', Keep h h' [b] → Arv Z h' b kb ty z' (vd.take dp.toNatClampNeg ++ us ++ vd.drop (dp.toNatClampNeg + nn.toNatClampNeg)) dd → Go Z EL p l e R s m args below meth c n0 Q fs h' k n (mkF m (pc + 3) Ls St)) : Go Z EL p l e R s m args below meth c n0 Q fs h k n (mkF m pc Ls (.int nn :: .int dp :: .ref b :: .int sp :: .ref a :: St)) := by
  intro vm0 T locs X eT N I
  have hZ : Z.Warmed39 (s.setVm vm0).vm := I.hZ
  have hown : (s.setVm vm0).vm.findClass own = some m.cls := C.hownAt I.hZ
  obtain ⟨T', h', L, X', e', N', K', V', st⟩ := cpA X C.hx hZ hown (C.hw w1) (C.hw w2) (C.hw w3) (C.hw w4) eT A B (Or.inl ⟨rfl, hty⟩) h1 h2 h3 h4 h5 hus hlv N (I.ge hb') (g := mkF m pc Ls (.int nn :: .int dp :: .ref b :: .int sp :: .ref a :: St)) rfl (hsz.trans C.hml.symm) rfl (hb C.hby hd) hf (W := W) (by show 2 * 0 + _ ≤ _; omega) hlo
  obtain ⟨s2, o, st2, r⟩ := K h' K' V' vm0 T' L X' e' N' (I.kept K' hb')
  exact ⟨s2, o, st _ st2, r⟩
theorem g_getfield (C : Cx Z a0 tb p s m meth c own mname bytes maxL ret n0) {index : Nat} {R0 O nm d : String} {a : Addr} {v : Value} (w : Jvm.Cond.fieldLink own index R0 nm d ∈ tb) (via : Via Z R0 O nm d) (F : Fld Z h a O nm d v) (hd : decode bytes pc = .ok (.getfield index, 3))
    (K : Go Z EL p l e R s m args below meth c n0 Q fs h k n (mkF m (pc + 3) Ls (v :: St))) : Go Z EL p l e R s m args below meth c n0 Q fs h k n (mkF m pc Ls (.ref a :: St)) := by
  intro vm0 T locs X eT N I
  have hZ : Z.Warmed39 (s.setVm vm0).vm := I.hZ
  have hown : (s.setVm vm0).vm.findClass own = some m.cls := C.hownAt I.hZ
  obtain ⟨T', X', e', st⟩ := getF X C.hx hZ hown (host := "") (Or.inl (C.hw w)) via eT F (g := mkF m pc Ls (.ref a :: St)) rfl rfl (hb C.hby hd)
  obtain ⟨s2, o, st2, r⟩ := K vm0 T' locs X' e' N I
  exact ⟨s2, o, st _ st2, r⟩
theorem g_putfield (C : Cx Z a0 tb p s m meth c own mname bytes maxL ret n0) {index kk : Nat} {R0 O nm d Cn : String} {a : Addr} {v old : Value} (ty : FieldType) (w : Jvm.Cond.fieldLink own index R0 nm d ∈ tb) (via : Via Z R0 O nm d) (F : Fld Z h a O nm d old) (E : Exa Z h a Cn) (hl : Jvm.Cond.lays Cn O nm d ∈ tb ∨ (Jvm.Cond.laysFinal Cn O nm d ∈ tb ∧ own = O ∧ mname = "<init>")) (wi : Jvm.Cond.instantiable Cn kk ∈ tb)
    (hty : parseFieldDescriptor d = some ty) (hn : narrow ty v = v) (hf : fits ty v = true) (ha : a ∈ fs) (hd : decode bytes pc = .ok (.putfield index, 3))
    (K : ∀ h', Wr h h' a (Jvm.RoadKit.slotOf Z O nm d) v → Fld Z h' a O nm d v → Go Z EL p l e R s m args below meth c n0 Q fs h' k n (mkF m (pc + 3) Ls St)) : Go Z EL p l e R s m args below meth c n0 Q fs h k n (mkF m pc Ls (v :: .ref a :: St)) := by
  intro vm0 T locs X eT N I
  have hZ : Z.Warmed39 (s.setVm vm0).vm := I.hZ
  have hown : (s.setVm vm0).vm.findClass own = some m.cls := C.hownAt I.hZ
  obtain ⟨T', h', X', e', W', st⟩ := putF X C.hx hZ hown (host := "") (Or.inl (C.hw w)) via eT F E (hl.imp (fun q => C.hw q) (fun q => ⟨C.hw q.1, q.2.1, C.hnm.trans q.2.2⟩)) (C.hw wi) (ty := ty) hty hn hf (g := mkF m pc Ls (v :: .ref a :: St)) rfl rfl (hb C.hby hd)
  obtain ⟨s2, o, st2, r⟩ := K h' W' (F.same W') vm0 T' _ X' e' (Fr.snoc X' N (I.ge ha)) (I.wr W' ha)
  exact ⟨s2, o, st _ st2, r⟩
theorem g_putfieldZ (C : Cx Z a0 tb p s m meth c own mname bytes maxL ret n0) {index kk : Nat} {R0 O nm d Cn : String} {a : Addr} {x : Int32} {old : Value} (ty : FieldType) (v' : Value) (w : Jvm.Cond.fieldLink own index R0 nm d ∈ tb) (via : Via Z R0 O nm d) (F : Fld Z h a O nm d old) (E : Exa Z h a Cn) (hl : Jvm.Cond.lays Cn O nm d ∈ tb ∨ (Jvm.Cond.laysFinal Cn O nm d ∈ tb ∧ own = O ∧ mname = "<init>")) (wi : Jvm.Cond.instantiable Cn kk ∈ tb)
    (hty : parseFieldDescriptor d = some ty) (hn : narrow ty (.int x) = v') (hf : fits ty v' = true) (ha : a ∈ fs) (hd : decode bytes pc = .ok (.putfield index, 3))
    (K : ∀ h', Wr h h' a (Jvm.RoadKit.slotOf Z O nm d) v' → Fld Z h' a O nm d v' → Go Z EL p l e R s m args below meth c n0 Q fs h' k n (mkF m (pc + 3) Ls St)) : Go Z EL p l e R s m args below meth c n0 Q fs h k n (mkF m pc Ls (.int x :: .ref a :: St)) := by
  intro vm0 T locs X eT N I
  have hZ : Z.Warmed39 (s.setVm vm0).vm := I.hZ
  have hown : (s.setVm vm0).vm.findClass own = some m.cls := C.hownAt I.hZ
  obtain ⟨T', h', X', e', W', st⟩ := putFN X C.hx hZ hown (C.hw w) via eT F E (hl.imp (fun q => C.hw q) (fun q => ⟨C.hw q.1, q.2.1, C.hnm.trans q.2.2⟩)) (C.hw wi) (ty := ty) (v' := v') hty hn hf (g := mkF m pc Ls (.int x :: .ref a :: St)) rfl rfl (hb C.hby hd)
  obtain ⟨s2, o, st2, r⟩ := K h' W' (F.same W') vm0 T' _ X' e' (Fr.snoc X' N (I.ge ha)) (I.wr W' ha)
  exact ⟨s2, o, st _ st2, r⟩
theorem g_getstatic (C : Cx Z a0 tb p s m meth c own mname bytes maxL ret n0) {index : Nat} {R0 O nm d : String} {v : Value} (w : Jvm.Cond.fieldLink own index R0 nm d ∈ tb) (via : Via Z R0 O nm d) (F : Sta Z h O nm d v) (hd : decode bytes pc = .ok (.getstatic index, 3))
    (K : Go Z EL p l e R s m args below meth c n0 Q fs h k n (mkF m (pc + 3) Ls (v :: St))) : Go Z EL p l e R s m args below meth c n0 Q fs h k n (mkF m pc Ls St) := by
  intro vm0 T locs X eT N I
  have hZ : Z.Warmed39 (s.setVm vm0).vm := I.hZ
  have hown : (s.setVm vm0).vm.findClass own = some m.cls := C.hownAt I.hZ
  obtain ⟨T', X', e', st⟩ := getS2 X C.hx hZ hown (host := "") (Or.inl (C.hw w)) via eT F (g := mkF m pc Ls St) rfl (hb C.hby hd)
  obtain ⟨s2, o, st2, r⟩ := K vm0 T' locs X' e' N I
  exact ⟨s2, o, st _ st2, r⟩
theorem g_initO (C : Cx Z a0 tb p s m meth c own mname bytes maxL ret n0) {index : Nat} {a : Addr} (w1 : Jvm.Cond.methodLink own index Lib.objectInit ∈ tb) (w2 : Jvm.Cond.instanceMethod Lib.objectInit ∈ tb) (w3 : Jvm.Cond.code Lib.objectInit ⟨#[0xb1]⟩ 1 none ∈ tb) (hsz : Ls.size = maxL) (hd : decode bytes pc = .ok (.invokespecial index, 3)) (hf : 1 ≤ R.frames) (W : Nat) (hW : (St.map fun v => v.category).sum ≤ W) (hl : W + 12 ≤ R.locals)
    (K : Go Z EL p l e R s m args below meth c n0 Q fs h k n (mkF m (pc + 3) Ls St)) : Go Z EL p l e R s m args below meth c n0 Q fs h k n (mkF m pc Ls (.ref a :: St)) := by
  intro vm0 T locs X eT N I
  have hZ : Z.Warmed39 (s.setVm vm0).vm := I.hZ
  have hown : (s.setVm vm0).vm.findClass own = some m.cls := C.hownAt I.hZ
  obtain ⟨T', X', e', st⟩ := initO X C.hx hZ hown (C.hw w1) (C.hw w2) (C.hw w3) eT (g := mkF m pc Ls (.ref a :: St)) rfl (hsz.trans C.hml.symm) rfl (hb C.hby hd) hf (W := W) (by show 2 * 0 + _ ≤ _; omega) hl
  obtain ⟨s2, o, st2, r⟩ := K vm0 T' locs X' e' N I
  exact ⟨s2, o, st _ st2, r⟩
theorem own_end {vm0 : Vm} {k0 : Nat} {v : Option Value} {T : State} {ff : List Frame} {L : List Loc} {kc kn : Nat} (hS : s.Since vm0 k0) (hk0 : k0 ≤ T.heap.size) (hW : (s.setVm vm0).WarmedH (T.setFrames ff).vm) (hs : (s.setVm vm0).sameButNew ({ T.setFrames ff with vm := (s.setVm vm0).vm } : State) L kc kn) : ReturnedEndW s (.returned v) (T.setFrames ff) L kc kn := by
  have q := hS.trans (hW.since (T.setFrames ff).heap.size) hk0
  exact ⟨⟨_, rfl⟩, q.1, q.2, hs.setVm s.vm⟩
theorem g_ldcS (C : Cx Z a0 tb p s m meth c own mname bytes maxL ret n0) (hEL : EW Z a0 EL) {index : Nat} {text : String} (w : Jvm.Cond.stringLink own index text ∈ tb) (wS : ∀ a ∈ Bundle.stringAtoms, a ∈ tb) (hmem : (own, index) ∈ EL) (cs : List Int32) (ht : (∀ c ∈ text.toList, c.toNat < 256) ∧ text.toList.map (fun c => Value.int (Jvm.Lit.byteI c.toNat.toUInt16)) = (cs.map fun c => c.toInt8.toInt32).map Value.int) (hcs : cs.length ≤ 4000) (hb8 : ∀ c ∈ cs, ¬ c < 0 ∧ ¬ (255 : Int32) < c)
    (hd : decode bytes pc = .ok (.ldc index, 2)) (nn : Nat) (hn : 4 * text.toList.length ≤ nn) (hbig : nn ≤ 536870912) (hc : k + 2 ≤ R.cells) (hl : n + (nn + 4) ≤ R.slots)
    (K : ∀ a b kb h', Ext h h' → Str Z h' a b kb cs → (∀ x ∈ fs, x ≠ a ∧ x ≠ b) → Go Z EL p l e R s m args below meth c n0 Q fs h' (k + 2) (n + (nn + 4)) (mkF m (pc + 2) Ls (.ref a :: St))) : Go Z EL p l e R s m args below meth c n0 Q fs h k n (mkF m pc Ls St) := by
  intro vm0 T locs X eT N I
  have hZ : Z.Warmed39 (s.setVm vm0).vm := I.hZ
  have hown : (s.setVm vm0).vm.findClass own = some m.cls := C.hownAt I.hZ
  obtain ⟨k0, hS, hk0⟩ := I.2.2.1
  have e31 : (Int32.ofNat cs.length).toInt = cs.length := Int32.toInt_ofNat_of_lt (by omega)
  have hz : ¬ Int32.ofNat cs.length < 0 := by
    rw [Int32.lt_iff_toInt_lt, e31]; show ¬ (cs.length : Int) < 0; omega
  have hlen : (Int32.ofNat cs.length).toNatClampNeg = ((cs.map fun c => c.toInt8.toInt32).map Value.int).length := by
    rw [Int32.toNatClampNeg, e31]; simp
  obtain ⟨a, T', h', k1, b, kb, X', e', E', hS', hk1, hZ', hown', s1, s2, s3, s4, s5, s6, hC, hL, hne, st⟩ := ldcCH X C.hx hZ hown (C.hw w) (fun a ha => C.hw (wS a ha)) eT hS hk0 hEL hmem I.2.2.2.2.1 ht hz hlen (g := mkF m pc Ls St) rfl (hb C.hby hd) hn hbig hc hl
  have I' : Inv Z EL s T'.vm n0 fs h' := ⟨Nat.le_trans I.1 hC.2.1, fun x hx => ⟨(I.2.1 x hx).1, Nat.lt_of_lt_of_le (I.2.1 x hx).2.1 hC.2.1, hC.safe (I.2.1 x hx).2.1 (I.2.1 x hx).2.2⟩, ⟨k1, hS', hk1⟩, hZ', hC.1, I.2.2.2.2.2.trans hC⟩
  obtain ⟨s2', o, st2, r⟩ := K a b kb h' E' ⟨s1, s2, s3, s4, hcs, hb8⟩ (fun x hx => hne x (I'.2.1 x hx).2.2) T'.vm T' locs X' e' N I'
  exact ⟨s2', o, st _ st2, r⟩
theorem own_narref {t : FieldType} {v : Value} (ht : t.isReference = true) (hv : v.isRef = true) : narrow t v = v := by
  rcases ref_cases hv with rfl | ⟨b, rfl⟩ <;> cases t <;> first | rfl | (cases ht)
theorem g_returnX (C : Cx Z a0 tb p s m meth c own mname bytes maxL ret n0) (hEL : EW Z a0 EL)  (ns : List Addr) (hns : ∀ x ∈ ns, x ∈ fs) (hret : ret = none) (hd : decode bytes pc = .ok (.return_, 1)) (hk : k ≤ R.cells) (hn : n ≤ R.slots) (hQ : Q (none) h ns) : Go Z EL p l e R s m args below meth c n0 Q fs h k n (mkF m pc Ls ([])) := by
  intro vm0 T locs X eT N I
  have hZ : Z.Warmed39 (s.setVm vm0).vm := I.hZ
  have hown : (s.setVm vm0).vm.findClass own = some m.cls := C.hownAt I.hZ
  obtain ⟨ff, hr, hrun, hended, hW, hsame⟩ := X.leave (v := none) (fun _ => rfl) C.hlk
  refine ⟨_, _, X.returnOut C.hx (C.hret.trans hret) (hb C.hby hd) hr, hrun, hended, _, _, ns, rfl, ⟨by rw [show (T.setFrames ff).heap = T.heap from rfl, eT]; exact hQ, N⟩, ?_, ?_, ?_⟩
  · intro y hy
    have J := CHv.at X I.hZ hEL I.2.2.2.2.1
    have q := I.2.1 y (hns y hy)
    rw [show (T.setFrames ff).heap = h from eT]
    exact ⟨q.1, q.2.1, J.safe q.2.1 q.2.2⟩
  · exact (by rw [show (T.setFrames ff).heap = h from eT]; exact (show CHr Z EL s.vm s.heap T.vm h from I.2.2.2.2.2.trans (CHv.at X I.hZ hEL I.2.2.2.2.1)))
  · obtain ⟨k0, hS, hk0⟩ := I.2.2.1
    exact own_end hS (by rw [← eT] at hk0; exact hk0) hW (hsame.mono hk hn)
theorem g_return (C : Cx Z a0 tb p s m meth c own mname bytes maxL ret n0) (hEL : EW Z a0 EL)  (hret : ret = none) (hd : decode bytes pc = .ok (.return_, 1)) (hk : k ≤ R.cells) (hn : n ≤ R.slots) (hQ : Q2 (none) h) : Go Z EL p l e R s m args below meth c n0 (nq Q2) fs h k n (mkF m pc Ls ([])) :=
  g_returnX C hEL [] all0 hret hd hk hn ⟨rfl, hQ⟩
theorem g_ireturnIX (C : Cx Z a0 tb p s m meth c own mname bytes maxL ret n0) (hEL : EW Z a0 EL) {z : Int32} (ns : List Addr) (hns : ∀ x ∈ ns, x ∈ fs) (hret : ret = some .int) (hd : decode bytes pc = .ok (.ireturn, 1)) (hk : k ≤ R.cells) (hn : n ≤ R.slots) (hQ : Q (some (.int z)) h ns) : Go Z EL p l e R s m args below meth c n0 Q fs h k n (mkF m pc Ls (.int z :: St)) := by
  intro vm0 T locs X eT N I
  have hZ : Z.Warmed39 (s.setVm vm0).vm := I.hZ
  have hown : (s.setVm vm0).vm.findClass own = some m.cls := C.hownAt I.hZ
  obtain ⟨ff, hr, hrun, hended, hW, hsame⟩ := X.leave (v := some (.int z)) (fun q => by rw [C.hret, hret] at q; cases q) C.hlk
  refine ⟨_, _, retOut X C.hx (t := .int) (C.hret.trans hret) rfl (Or.inl ⟨rfl, Or.inl rfl, z, rfl⟩) (hb C.hby hd) hr, hrun, hended, _, _, ns, rfl, ⟨by rw [show (T.setFrames ff).heap = T.heap from rfl, eT]; exact hQ, N⟩, ?_, ?_, ?_⟩
  · intro y hy
    have J := CHv.at X I.hZ hEL I.2.2.2.2.1
    have q := I.2.1 y (hns y hy)
    rw [show (T.setFrames ff).heap = h from eT]
    exact ⟨q.1, q.2.1, J.safe q.2.1 q.2.2⟩
  · exact (by rw [show (T.setFrames ff).heap = h from eT]; exact (show CHr Z EL s.vm s.heap T.vm h from I.2.2.2.2.2.trans (CHv.at X I.hZ hEL I.2.2.2.2.1)))
  · obtain ⟨k0, hS, hk0⟩ := I.2.2.1
    exact own_end hS (by rw [← eT] at hk0; exact hk0) hW (hsame.mono hk hn)
theorem g_ireturnI (C : Cx Z a0 tb p s m meth c own mname bytes maxL ret n0) (hEL : EW Z a0 EL) {z : Int32} (hret : ret = some .int) (hd : decode bytes pc = .ok (.ireturn, 1)) (hk : k ≤ R.cells) (hn : n ≤ R.slots) (hQ : Q2 (some (.int z)) h) : Go Z EL p l e R s m args below meth c n0 (nq Q2) fs h k n (mkF m pc Ls (.int z :: St)) :=
  g_ireturnIX C hEL [] all0 hret hd hk hn ⟨rfl, hQ⟩
theorem g_ireturnNX (C : Cx Z a0 tb p s m meth c own mname bytes maxL ret n0) (hEL : EW Z a0 EL) {z : Int32} {t : FieldType} (ns : List Addr) (hns : ∀ x ∈ ns, x ∈ fs) (hret : ret = some t) (ht : t = .boolean ∨ t = .byte ∨ t = .char ∨ t = .short) (hd : decode bytes pc = .ok (.ireturn, 1)) (hk : k ≤ R.cells) (hn : n ≤ R.slots) (hQ : Q (some (.int (nar t z))) h ns) : Go Z EL p l e R s m args below meth c n0 Q fs h k n (mkF m pc Ls (.int z :: St)) := by
  intro vm0 T locs X eT N I
  have hZ : Z.Warmed39 (s.setVm vm0).vm := I.hZ
  have hown : (s.setVm vm0).vm.findClass own = some m.cls := C.hownAt I.hZ
  obtain ⟨ff, hr, hrun, hended, hW, hsame⟩ := X.leave (v := some (.int (nar t z))) (fun q => by rw [C.hret, hret] at q; cases q) C.hlk
  refine ⟨_, _, retN X C.hx (C.hret.trans hret) ht (hb C.hby hd) hr, hrun, hended, _, _, ns, rfl, ⟨by rw [show (T.setFrames ff).heap = T.heap from rfl, eT]; exact hQ, N⟩, ?_, ?_, ?_⟩
  · intro y hy
    have J := CHv.at X I.hZ hEL I.2.2.2.2.1
    have q := I.2.1 y (hns y hy)
    rw [show (T.setFrames ff).heap = h from eT]
    exact ⟨q.1, q.2.1, J.safe q.2.1 q.2.2⟩
  · exact (by rw [show (T.setFrames ff).heap = h from eT]; exact (show CHr Z EL s.vm s.heap T.vm h from I.2.2.2.2.2.trans (CHv.at X I.hZ hEL I.2.2.2.2.1)))
  · obtain ⟨k0, hS, hk0⟩ := I.2.2.1
    exact own_end hS (by rw [← eT] at hk0; exact hk0) hW (hsame.mono hk hn)
theorem g_ireturnN (C : Cx Z a0 tb p s m meth c own mname bytes maxL ret n0) (hEL : EW Z a0 EL) {z : Int32} {t : FieldType} (hret : ret = some t) (ht : t = .boolean ∨ t = .byte ∨ t = .char ∨ t = .short) (hd : decode bytes pc = .ok (.ireturn, 1)) (hk : k ≤ R.cells) (hn : n ≤ R.slots) (hQ : Q2 (some (.int (nar t z))) h) : Go Z EL p l e R s m args below meth c n0 (nq Q2) fs h k n (mkF m pc Ls (.int z :: St)) :=
  g_ireturnNX C hEL [] all0 hret ht hd hk hn ⟨rfl, hQ⟩
theorem g_areturnX (C : Cx Z a0 tb p s m meth c own mname bytes maxL ret n0) (hEL : EW Z a0 EL) {v : Value} {t : FieldType} (ns : List Addr) (hns : ∀ x ∈ ns, x ∈ fs) (hret : ret = some t) (ht : t.isReference = true) (hv : v.isRef = true) (hd : decode bytes pc = .ok (.areturn, 1)) (hk : k ≤ R.cells) (hn : n ≤ R.slots) (hQ : Q (some v) h ns) : Go Z EL p l e R s m args below meth c n0 Q fs h k n (mkF m pc Ls (v :: St)) := by
  intro vm0 T locs X eT N I
  have hZ : Z.Warmed39 (s.setVm vm0).vm := I.hZ
  have hown : (s.setVm vm0).vm.findClass own = some m.cls := C.hownAt I.hZ
  obtain ⟨ff, hr, hrun, hended, hW, hsame⟩ := X.leave (v := some v) (fun q => by rw [C.hret, hret] at q; cases q) C.hlk
  refine ⟨_, _, retOut X C.hx (C.hret.trans hret) (own_narref ht hv) (Or.inr (Or.inr (Or.inr (Or.inr ⟨rfl, ht, hv⟩)))) (hb C.hby hd) hr, hrun, hended, _, _, ns, rfl, ⟨by rw [show (T.setFrames ff).heap = T.heap from rfl, eT]; exact hQ, N⟩, ?_, ?_, ?_⟩
  · intro y hy
    have J := CHv.at X I.hZ hEL I.2.2.2.2.1
    have q := I.2.1 y (hns y hy)
    rw [show (T.setFrames ff).heap = h from eT]
    exact ⟨q.1, q.2.1, J.safe q.2.1 q.2.2⟩
  · exact (by rw [show (T.setFrames ff).heap = h from eT]; exact (show CHr Z EL s.vm s.heap T.vm h from I.2.2.2.2.2.trans (CHv.at X I.hZ hEL I.2.2.2.2.1)))
  · obtain ⟨k0, hS, hk0⟩ := I.2.2.1
    exact own_end hS (by rw [← eT] at hk0; exact hk0) hW (hsame.mono hk hn)
theorem g_areturn (C : Cx Z a0 tb p s m meth c own mname bytes maxL ret n0) (hEL : EW Z a0 EL) {v : Value} {t : FieldType} (hret : ret = some t) (ht : t.isReference = true) (hv : v.isRef = true) (hd : decode bytes pc = .ok (.areturn, 1)) (hk : k ≤ R.cells) (hn : n ≤ R.slots) (hQ : Q2 (some v) h) : Go Z EL p l e R s m args below meth c n0 (nq Q2) fs h k n (mkF m pc Ls (v :: St)) :=
  g_areturnX C hEL [] all0 hret ht hv hd hk hn ⟨rfl, hQ⟩
/-- a body's contract: called so, over this heap, it returns with Q, and the literals' invariant goes on -/
def Met (l : Launch) (Z : State) (EL : List (String × Nat)) (y : MethodName) (bytes : ByteArray) (maxL : Nat) (ret : Option FieldType) (ws : List Jvm.Cond) (rm : Room) (fs : List Addr) (as' : Array Value) (h : Heap) (n0 : Nat) (Q : Option Value → Heap → List Addr → Prop) : Prop :=
  n0 ≤ h.size → (∀ x ∈ fs, n0 ≤ x ∧ x < h.size) → MetFree l y (head1 (Jvm.Cond.code y bytes maxL ret :: ws) rm) (fun a U => a = as' ∧ Z.Warmed39 U.vm ∧ U.heap = h ∧ CHv Z EL U.vm h ∧ ∀ x ∈ fs, Safe Z EL U.vm h x) (fun _ _ _ _ _ => True) (fun _ U o U' => ∃ v L ns, o = .returned v ∧ (Q v U'.heap ns ∧ Fr n0 L) ∧ (∀ x ∈ ns, n0 ≤ x ∧ x < U'.heap.size ∧ Safe Z EL U'.vm U'.heap x) ∧ CHr Z EL U.vm U.heap U'.vm U'.heap ∧ ReturnedEndW U o U' L rm.cells rm.slots)
theorem met_of {y : MethodName} {ws : List Jvm.Cond} {as' : Array Value} (hpl : plainFor y = true) (hw : ∀ d ∈ tb, d.before a0 Z = true) (Ls : Array Slot) (hef : ∀ m : MethodId, entryFrame m as' maxL = mkF m 0 Ls [])
    (H : ∀ p e s m below meth c, Cx Z a0 tb p s m meth c y.cls y.name bytes maxL ret n0 → Go Z EL p l e R s m as' below meth c n0 Q fs h 0 0 (mkF m 0 Ls [])) : Met l Z EL y bytes maxL ret ws R fs as' h n0 Q := by
  intro hn0 hfs
  refine MetFree.of_bodySF hpl hisR ?_
  intro p e s m args below meth c s₁ Bd hml0 hP hK
  obtain ⟨rfl, hZ, hh, hH, hsf⟩ := hP
  have X0 : Stand p l e R (s.setVm s.vm) m args below meth c s₁ [] 0 0 := Stand.of_body Bd
  have e0 : s₁.heap = h := by rw [← hh, Bd.state]; rfl
  have C : Cx Z a0 tb p s m meth c y.cls y.name bytes maxL ret n0 := ⟨Bd.exec, hZ, findClass_of_methodNamed Bd.named, Bd.bytes, hml0, Bd.returns, Bd.notSynchronized, hw, (name_of_methodNamed Bd.named Bd.method).1, by rw [hh]; exact hn0⟩
  have I : Inv Z EL s s.vm n0 fs h := ⟨hn0, fun x hx => ⟨(hfs x hx).1, (hfs x hx).2, hsf x hx⟩, ⟨0, (State.WarmedH.refl s).since 0, Nat.zero_le _⟩, hZ, hH, by rw [hh]; exact CHr.refl hH⟩
  obtain ⟨s2, o, st, r⟩ := H p e s m below meth c C s.vm s₁ [] X0 e0 (Fr.nil n0) I
  exact ⟨s2, o, castTop (hef m) st, r⟩
/-- the same as the caller needs it -/
def Ct (l : Launch) (Z : State) (EL : List (String × Nat)) (y : MethodName) (maxL : Nat) (rm : Room) (fs : List Addr) (as' : Array Value) (h : Heap) (n0 : Nat) (Q : Option Value → Heap → List Addr → Prop) : Prop :=
  ∀ ⦃R : Room⦄ ⦃p : Program⦄ ⦃e : Env⦄ ⦃below : List Frame⦄ ⦃s : State⦄ ⦃vm0 : Vm⦄ ⦃args : Array Value⦄ ⦃len W : Nat⦄, Z.Warmed39 vm0 → n0 ≤ h.size → (∀ x ∈ fs, n0 ≤ x ∧ x < h.size ∧ Safe Z EL vm0 h x) → CHv Z EL vm0 h → rm.frames + 1 ≤ R.frames → W + (maxL + 11) + rm.locals ≤ R.locals →
    BackS l R p e below (s.setVm vm0) args y len W (fun A a => a = as' ∧ A.U.heap = h ∧ A.cells + rm.cells ≤ R.cells ∧ A.slots + rm.slots ≤ R.slots) (fun A _ v B => ∃ L ns, (Q v B.U.heap ns ∧ Fr n0 L) ∧ B.locs = A.locs ++ L ∧ B.cells = A.cells + rm.cells ∧ B.slots = A.slots + rm.slots ∧ (∀ x ∈ ns, n0 ≤ x ∧ x < B.U.heap.size ∧ Safe Z EL B.U.vm B.U.heap x) ∧ CHr Z EL vm0 h B.U.vm B.U.heap)
theorem ct_of {y : MethodName} {rm : Room} {as' : Array Value} (hEL : EW Z a0 EL) (hw : ∀ d ∈ tb, d.before a0 Z = true) (wc : Jvm.Cond.code y bytes maxL ret ∈ tb) (wz : Jvm.Cond.initialized y.cls ∈ tb) (M : Met l Z EL y bytes maxL ret [] rm fs as' h n0 Q) : Ct l Z EL y maxL rm fs as' h n0 Q := by
  intro R p e below s vm0 args len W hZ hn0 hfs H hf hl
  exact BackS.of_freeW (bytes := bytes) (maxL := maxL) (ret := ret) (E := fun _ first o t L k n => k = rm.cells ∧ n = rm.slots ∧ (∃ v ns, o = .returned v ∧ (Q v t.heap ns ∧ Fr n0 L) ∧ ∀ x ∈ ns, n0 ≤ x ∧ x < t.heap.size ∧ Safe Z EL t.vm t.heap x) ∧ CHr Z EL first.vm first.heap t.vm t.heap) (M hn0 fun x hx => ⟨(hfs x hx).1, (hfs x hx).2.1⟩) hf hl
    (fun m meth c A a Y hp => have hU : Z.Warmed39 A.U.vm := wtrans (s := s.setVm vm0) hZ Y.warmed
      ⟨by show (Cond.and _ .tt).before a A.U = true; rw [Cond.before_and, mv hU (hw _ wc)]; rfl, mv hU (hw _ wc), mv hU (hw _ wz), hp.2.2.1, hp.2.2.2⟩)
    (fun m meth c A a g mk Y hp => ⟨hp.1, wtrans (s := s.setVm vm0) hZ Y.warmed, hp.2.1, (CHv.at Y hZ hEL H).1, fun x hx => (CHv.at Y hZ hEL H).safe (hfs x hx).2.1 (hfs x hx).2.2⟩) (fun _ _ _ _ _ _ _ _ _ => trivial)
    (fun _ _ _ _ ⟨v, L, ns, h1, h2, hs, h3, h4⟩ => ⟨L, _, _, h4, rfl, rfl, ⟨v, ns, h1, h2, hs⟩, h3⟩)
    (fun m meth c A a g mk v t L k n Y hp _ _ ⟨e1, e2, ⟨v', ns, e3, e4, e6⟩, e5⟩ => by
      cases e3; subst e1 e2
      refine ⟨L, ns, e4, rfl, rfl, rfl, e6, (CHv.at Y hZ hEL H).trans ?_⟩
      rw [← hp.2.1]; exact e5)
/-- a callee that interns nothing -/
theorem ct_back {y : MethodName} {rm : Room} {as' : Array Value} (hEL : EW Z a0 EL) (hK : ∀ v h', Q2 v h' → Keep h h' fs)
    (B0 : ∀ {R : Room} {p : Program} {e : Env} {below : List Frame} {s : State} {args : Array Value} {len W : Nat}, Z.Warmed39 s.vm → n0 ≤ h.size → (∀ x ∈ fs, n0 ≤ x) → rm.frames + 1 ≤ R.frames → W + (maxL + 11) + rm.locals ≤ R.locals →
      Back l R p e below s args y len W (fun A a => a = as' ∧ A.U.heap = h ∧ A.cells + rm.cells ≤ R.cells ∧ A.slots + rm.slots ≤ R.slots) (fun A _ v B => ∃ L, (Q2 v B.U.heap ∧ Fr n0 L) ∧ B.locs = A.locs ++ L ∧ B.cells = A.cells + rm.cells ∧ B.slots = A.slots + rm.slots)) : Ct l Z EL y maxL rm fs as' h n0 (nq Q2) := by
  intro R p e below s vm0 args len W hZ hn0 hfs H hf hl m meth c A g ig mk a X hg hsize hdg hW hn hp
  obtain ⟨v, B, X', ⟨L, ⟨q1, q2⟩, q3, q4, q5⟩, hsteps⟩ := B0 (s := s.setVm vm0) hZ hn0 (fun x hx => (hfs x hx).1) hf hl m meth c A g ig mk a X hg hsize hdg hW hn hp
  have K := hK _ _ q1
  have c1 := CHr.keep K (fun x hx => (hfs x hx).2.2) H
  have c2 := CHv.at X' hZ hEL c1.1
  exact ⟨v, B, X'.retabled X'.warmed.wide, X'.warmed.since _, by rw [hp.2.1]; exact K.1, ⟨L, [], ⟨⟨rfl, q1⟩, q2⟩, q3, q4, q5, all0, c1.trans c2⟩, hsteps⟩
theorem own_inv {vm0 vm1 : Vm} {h' : Heap} {k1 : Nat} {ns : List Addr} (I : Inv Z EL s vm0 n0 fs h) (hS : (s.setVm vm0).Since vm1 k1) (hk : k1 ≤ h'.size) (hle : h.size ≤ k1) (hns : ∀ x ∈ ns, n0 ≤ x ∧ x < h'.size ∧ Safe Z EL vm1 h' x) (hC : CHr Z EL vm0 h vm1 h') : Inv Z EL s vm1 n0 (ns ++ fs) h' := by
  obtain ⟨i1, i2, ⟨k0, i3, i4⟩, i5, i6, i7⟩ := I
  refine ⟨Nat.le_trans i1 hC.2.1, fun x hx => ?_, ⟨k1, i3.trans hS (Nat.le_trans i4 hle), hk⟩, State.Warmed39.trans (t := s.setVm vm0) i5 hS.1, hC.1, i7.trans hC⟩
  rcases List.mem_append.mp hx with hx | hx
  · exact hns x hx
  · exact ⟨(i2 x hx).1, Nat.lt_of_lt_of_le (i2 x hx).2.1 hC.2.1, hC.safe (i2 x hx).2.1 (i2 x hx).2.2⟩
theorem g_staticX (C : Cx Z a0 tb p s m meth c own mname bytes maxL ret n0) {index : Nat} {y : MethodName} {yb : ByteArray} {yr : Option FieldType} {yl' : Nat} (w1 : Jvm.Cond.methodLink own index y ∈ tb) (w2 : Jvm.Cond.static y ∈ tb) (w3 : Jvm.Cond.initialized y.cls ∈ tb) (w4 : Jvm.Cond.code y yb yl' yr ∈ tb) (hy : y.cls ≠ "java/lang/invoke/MethodHandle" ∧ y.cls ≠ "java/lang/invoke/VarHandle") {rm : Room} {fs0 : List Addr} (argsL : List Value) {Qy : Option Value → Heap → List Addr → Prop} {yl : Nat} (K0 : Ct l Z EL y yl rm fs0 argsL.toArray h n0 Qy) (hfs : ∀ x ∈ fs0, x ∈ fs) (hf : rm.frames + 1 ≤ R.frames) (W : Nat) (hlo : W + (yl + 11) + rm.locals ≤ R.locals) (hsz : Ls.size = maxL) {sig : MethodDescriptor} (hdesc : parseMethodDescriptor y.desc = some sig) (hlen : argsL.length = sig.parameters.length) (rest : List Value) (hs : St = argsL.reverse ++ rest) (hW : (rest.map fun v => v.category).sum ≤ W) (hd : decode bytes pc = .ok (.invokestatic index, 3)) (hc : k + rm.cells ≤ R.cells) (hn : n + rm.slots ≤ R.slots)
    (K : ∀ v h' ns, Qy v h' ns → Go Z EL p l e R s m args below meth c n0 Q (ns ++ fs) h' (k + rm.cells) (n + rm.slots) (mkF m (pc + 3) Ls (v.toList ++ rest))) : Go Z EL p l e R s m args below meth c n0 Q fs h k n (mkF m pc Ls St) := by
  intro vm0 T locs X eT N I
  have hZ : Z.Warmed39 (s.setVm vm0).vm := I.hZ
  have hown : (s.setVm vm0).vm.findClass own = some m.cls := C.hownAt I.hZ
  obtain ⟨v, _, ⟨T', L', k', n'⟩, -, X', hS, hgr, ⟨Lc, ns, ⟨hQ, hN⟩, hl', hk', hn', hns, hC⟩, st⟩ := callSS X C.hx hown (mvT hZ (C.hw w1)) (mvT hZ (C.hw w2)) (mvT hZ (C.hw w3)) (mvT hZ (C.hw w4)) hy (K0 (W := W) I.hZ I.1 (I.less hfs).2.1 I.2.2.2.2.1 hf hlo) (g := mkF m pc Ls St) rfl (hsz.trans C.hml.symm) (argsL := argsL) (rest := rest) (fun sg q => by cases hdesc.symm.trans q; exact hlen) hs (by show 2 * 0 + _ ≤ _; omega) (hb C.hby hd) (fun _ _ => ⟨rfl, eT, hc, hn⟩)
  dsimp only [Pt.U, Pt.locs, Pt.cells, Pt.slots] at X' hl' hk' hn' st hQ hS hgr hC hns
  subst hl' hk' hn'
  obtain ⟨s2, o, st2, r⟩ := K v T'.heap ns hQ T'.vm T' _ X' rfl (N.app hN) (own_inv I hS (Nat.le_refl _) (by rw [← eT]; exact hgr) hns hC)
  exact ⟨s2, o, st.trans st2, r⟩
theorem g_static (C : Cx Z a0 tb p s m meth c own mname bytes maxL ret n0) {index : Nat} {y : MethodName} {yb : ByteArray} {yr : Option FieldType} {yl' : Nat} (w1 : Jvm.Cond.methodLink own index y ∈ tb) (w2 : Jvm.Cond.static y ∈ tb) (w3 : Jvm.Cond.initialized y.cls ∈ tb) (w4 : Jvm.Cond.code y yb yl' yr ∈ tb) (hy : y.cls ≠ "java/lang/invoke/MethodHandle" ∧ y.cls ≠ "java/lang/invoke/VarHandle") {rm : Room} {fs0 : List Addr} (argsL : List Value) {Qy : Option Value → Heap → Prop} {yl : Nat} (K0 : Ct l Z EL y yl rm fs0 argsL.toArray h n0 (nq Qy)) (hfs : ∀ x ∈ fs0, x ∈ fs) (hf : rm.frames + 1 ≤ R.frames) (W : Nat) (hlo : W + (yl + 11) + rm.locals ≤ R.locals) (hsz : Ls.size = maxL) {sig : MethodDescriptor} (hdesc : parseMethodDescriptor y.desc = some sig) (hlen : argsL.length = sig.parameters.length) (rest : List Value) (hs : St = argsL.reverse ++ rest) (hW : (rest.map fun v => v.category).sum ≤ W) (hd : decode bytes pc = .ok (.invokestatic index, 3)) (hc : k + rm.cells ≤ R.cells) (hn : n + rm.slots ≤ R.slots)
    (K : ∀ v h', Qy v h' → Go Z EL p l e R s m args below meth c n0 Q fs h' (k + rm.cells) (n + rm.slots) (mkF m (pc + 3) Ls (v.toList ++ rest))) : Go Z EL p l e R s m args below meth c n0 Q fs h k n (mkF m pc Ls St) :=
  g_staticX C w1 w2 w3 w4 hy argsL K0 hfs hf W hlo hsz hdesc hlen rest hs hW hd hc hn (fun v h' ns q => by obtain ⟨rfl, q⟩ := q; exact K v h' q)
theorem g_specialX (C : Cx Z a0 tb p s m meth c own mname bytes maxL ret n0) {index : Nat} {y : MethodName} {a : Addr} {yb : ByteArray} {yl' : Nat} (w1 : Jvm.Cond.methodLink own index y ∈ tb) (w2 : Jvm.Cond.instanceMethod y ∈ tb) (w4 : Jvm.Cond.code y yb yl' none ∈ tb) (hy1 : y.name = "<init>") (hy : y.cls ≠ "java/lang/invoke/MethodHandle" ∧ y.cls ≠ "java/lang/invoke/VarHandle") {rm : Room} {fs0 : List Addr} (argsL : List Value) {Qy : Option Value → Heap → List Addr → Prop} {yl : Nat} (K0 : Ct l Z EL y yl rm fs0 (.ref a :: argsL).toArray h n0 Qy) (hfs : ∀ x ∈ fs0, x ∈ fs) (hf : rm.frames + 1 ≤ R.frames) (W : Nat) (hlo : W + (yl + 11) + rm.locals ≤ R.locals) (hsz : Ls.size = maxL) {sig : MethodDescriptor} (hdesc : parseMethodDescriptor y.desc = some sig) (hlen : argsL.length = sig.parameters.length) (rest : List Value) (hs : St = argsL.reverse ++ .ref a :: rest) (hW : (rest.map fun v => v.category).sum ≤ W) (hd : decode bytes pc = .ok (.invokespecial index, 3)) (hc : k + rm.cells ≤ R.cells) (hn : n + rm.slots ≤ R.slots)
    (K : ∀ v h' ns, Qy v h' ns → Go Z EL p l e R s m args below meth c n0 Q (ns ++ fs) h' (k + rm.cells) (n + rm.slots) (mkF m (pc + 3) Ls (v.toList ++ rest))) : Go Z EL p l e R s m args below meth c n0 Q fs h k n (mkF m pc Ls St) := by
  intro vm0 T locs X eT N I
  have hZ : Z.Warmed39 (s.setVm vm0).vm := I.hZ
  have hown : (s.setVm vm0).vm.findClass own = some m.cls := C.hownAt I.hZ
  obtain ⟨v, _, ⟨T', L', k', n'⟩, -, X', hS, hgr, ⟨Lc, ns, ⟨hQ, hN⟩, hl', hk', hn', hns, hC⟩, st⟩ := X.specialBackS C.hx hy1 hown (mvT hZ (C.hw w1)) (mvT hZ (C.hw w2)) (mvT hZ (C.hw w4)) hy (K0 (W := W) I.hZ I.1 (I.less hfs).2.1 I.2.2.2.2.1 hf hlo) (g := mkF m pc Ls St) rfl (hsz.trans C.hml.symm) (Steps.refl _) (a := a) (argsL := argsL) (rest := rest) (fun sg q => by cases hdesc.symm.trans q; exact hlen) hs (by show 2 * 0 + _ ≤ _; omega) (hb C.hby hd) (fun _ _ => ⟨rfl, eT, hc, hn⟩)
  dsimp only [Pt.U, Pt.locs, Pt.cells, Pt.slots] at X' hl' hk' hn' st hQ hS hgr hC hns
  subst hl' hk' hn'
  obtain ⟨s2, o, st2, r⟩ := K v T'.heap ns hQ T'.vm T' _ X' rfl (N.app hN) (own_inv I hS (Nat.le_refl _) (by rw [← eT]; exact hgr) hns hC)
  exact ⟨s2, o, st.trans st2, r⟩
theorem g_special (C : Cx Z a0 tb p s m meth c own mname bytes maxL ret n0) {index : Nat} {y : MethodName} {a : Addr} {yb : ByteArray} {yl' : Nat} (w1 : Jvm.Cond.methodLink own index y ∈ tb) (w2 : Jvm.Cond.instanceMethod y ∈ tb) (w4 : Jvm.Cond.code y yb yl' none ∈ tb) (hy1 : y.name = "<init>") (hy : y.cls ≠ "java/lang/invoke/MethodHandle" ∧ y.cls ≠ "java/lang/invoke/VarHandle") {rm : Room} {fs0 : List Addr} (argsL : List Value) {Qy : Option Value → Heap → Prop} {yl : Nat} (K0 : Ct l Z EL y yl rm fs0 (.ref a :: argsL).toArray h n0 (nq Qy)) (hfs : ∀ x ∈ fs0, x ∈ fs) (hf : rm.frames + 1 ≤ R.frames) (W : Nat) (hlo : W + (yl + 11) + rm.locals ≤ R.locals) (hsz : Ls.size = maxL) {sig : MethodDescriptor} (hdesc : parseMethodDescriptor y.desc = some sig) (hlen : argsL.length = sig.parameters.length) (rest : List Value) (hs : St = argsL.reverse ++ .ref a :: rest) (hW : (rest.map fun v => v.category).sum ≤ W) (hd : decode bytes pc = .ok (.invokespecial index, 3)) (hc : k + rm.cells ≤ R.cells) (hn : n + rm.slots ≤ R.slots)
    (K : ∀ v h', Qy v h' → Go Z EL p l e R s m args below meth c n0 Q fs h' (k + rm.cells) (n + rm.slots) (mkF m (pc + 3) Ls (v.toList ++ rest))) : Go Z EL p l e R s m args below meth c n0 Q fs h k n (mkF m pc Ls St) :=
  g_specialX C w1 w2 w4 hy1 hy argsL K0 hfs hf W hlo hsz hdesc hlen rest hs hW hd hc hn (fun v h' ns q => by obtain ⟨rfl, q⟩ := q; exact K v h' q)
theorem g_virtualX (C : Cx Z a0 tb p s m meth c own mname bytes maxL ret n0) {index : Nat} {y z : MethodName} {Cn : String} {a : Addr} (E : Exa Z h a Cn) (w1 : Jvm.Cond.methodLink own index y ∈ tb) (w2 : Jvm.Cond.declares y ∈ tb) (hnf : ∀ {s' : State}, Z.Warmed39 s'.vm → NotFace s' y) (w3 : Jvm.Cond.selects Cn y z ∈ tb) (w4 : Jvm.Cond.instanceMethod z ∈ tb) (hy : y.cls ≠ "java/lang/invoke/MethodHandle" ∧ y.cls ≠ "java/lang/invoke/VarHandle") {rm : Room} {fs0 : List Addr} (argsL : List Value) {Qy : Option Value → Heap → List Addr → Prop} {yl : Nat} (K0 : Ct l Z EL z yl rm fs0 (.ref a :: argsL).toArray h n0 Qy) (hfs : ∀ x ∈ fs0, x ∈ fs) (hf : rm.frames + 1 ≤ R.frames) (W : Nat) (hlo : W + (yl + 11) + rm.locals ≤ R.locals) (hsz : Ls.size = maxL) {sig : MethodDescriptor} (hdesc : parseMethodDescriptor y.desc = some sig) (hlen : argsL.length = sig.parameters.length) (rest : List Value) (hs : St = argsL.reverse ++ .ref a :: rest) (hW : (rest.map fun v => v.category).sum ≤ W) (hd : decode bytes pc = .ok (.invokevirtual index, 3)) (hc : k + rm.cells ≤ R.cells) (hn : n + rm.slots ≤ R.slots)
    (K : ∀ v h' ns, Qy v h' ns → Go Z EL p l e R s m args below meth c n0 Q (ns ++ fs) h' (k + rm.cells) (n + rm.slots) (mkF m (pc + 3) Ls (v.toList ++ rest))) : Go Z EL p l e R s m args below meth c n0 Q fs h k n (mkF m pc Ls St) := by
  intro vm0 T locs X eT N I
  have hZ : Z.Warmed39 (s.setVm vm0).vm := I.hZ
  have hown : (s.setVm vm0).vm.findClass own = some m.cls := C.hownAt I.hZ
  obtain ⟨cq, kq, qa, qb, qc⟩ := isOf hZ eT E
  obtain ⟨v, _, ⟨T', L', k', n'⟩, -, X', hS, hgr, ⟨Lc, ns, ⟨hQ, hN⟩, hl', hk', hn', hns, hC⟩, st⟩ := X.virtualBackS C.hx hown (mvT hZ (C.hw w1)) (mvT hZ (C.hw w2)) (hnf hZ) (mvT hZ (C.hw w3)) (mvT hZ (C.hw w4)) hy (K0 (W := W) I.hZ I.1 (I.less hfs).2.1 I.2.2.2.2.1 hf hlo) qa qc (g := mkF m pc Ls St) rfl (hsz.trans C.hml.symm) (Steps.refl _) (argsL := argsL) (rest := rest) (fun sg q => by cases hdesc.symm.trans q; exact hlen) hs (by show 2 * 0 + _ ≤ _; omega) (hb C.hby hd) (fun _ _ => ⟨rfl, eT, hc, hn⟩)
  dsimp only [Pt.U, Pt.locs, Pt.cells, Pt.slots] at X' hl' hk' hn' st hQ hS hgr hC hns
  subst hl' hk' hn'
  obtain ⟨s2, o, st2, r⟩ := K v T'.heap ns hQ T'.vm T' _ X' rfl (N.app hN) (own_inv I hS (Nat.le_refl _) (by rw [← eT]; exact hgr) hns hC)
  exact ⟨s2, o, st.trans st2, r⟩
theorem g_virtual (C : Cx Z a0 tb p s m meth c own mname bytes maxL ret n0) {index : Nat} {y z : MethodName} {Cn : String} {a : Addr} (E : Exa Z h a Cn) (w1 : Jvm.Cond.methodLink own index y ∈ tb) (w2 : Jvm.Cond.declares y ∈ tb) (hnf : ∀ {s' : State}, Z.Warmed39 s'.vm → NotFace s' y) (w3 : Jvm.Cond.selects Cn y z ∈ tb) (w4 : Jvm.Cond.instanceMethod z ∈ tb) (hy : y.cls ≠ "java/lang/invoke/MethodHandle" ∧ y.cls ≠ "java/lang/invoke/VarHandle") {rm : Room} {fs0 : List Addr} (argsL : List Value) {Qy : Option Value → Heap → Prop} {yl : Nat} (K0 : Ct l Z EL z yl rm fs0 (.ref a :: argsL).toArray h n0 (nq Qy)) (hfs : ∀ x ∈ fs0, x ∈ fs) (hf : rm.frames + 1 ≤ R.frames) (W : Nat) (hlo : W + (yl + 11) + rm.locals ≤ R.locals) (hsz : Ls.size = maxL) {sig : MethodDescriptor} (hdesc : parseMethodDescriptor y.desc = some sig) (hlen : argsL.length = sig.parameters.length) (rest : List Value) (hs : St = argsL.reverse ++ .ref a :: rest) (hW : (rest.map fun v => v.category).sum ≤ W) (hd : decode bytes pc = .ok (.invokevirtual index, 3)) (hc : k + rm.cells ≤ R.cells) (hn : n + rm.slots ≤ R.slots)
    (K : ∀ v h', Qy v h' → Go Z EL p l e R s m args below meth c n0 Q fs h' (k + rm.cells) (n + rm.slots) (mkF m (pc + 3) Ls (v.toList ++ rest))) : Go Z EL p l e R s m args below meth c n0 Q fs h k n (mkF m pc Ls St) :=
  g_virtualX C E w1 w2 hnf w3 w4 hy argsL K0 hfs hf W hlo hsz hdesc hlen rest hs hW hd hc hn (fun v h' ns q => by obtain ⟨rfl, q⟩ := q; exact K v h' q)
theorem g_virtualUpX (C : Cx Z a0 tb p s m meth c own mname bytes maxL ret n0) {index : Nat} {y z : MethodName} {Cn owner : String} {a : Addr} (E : Exa Z h a Cn) (w1 : Jvm.Cond.methodLink own index y ∈ tb) (w0 : Jvm.Cond.sameMethod y.cls owner y.name y.desc ∈ tb) (w2 : Jvm.Cond.declares ⟨owner, y.name, y.desc⟩ ∈ tb) (ho : owner ≠ "java/lang/invoke/MethodHandle" ∧ owner ≠ "java/lang/invoke/VarHandle") (w3 : Jvm.Cond.selects Cn y z ∈ tb) (w4 : Jvm.Cond.instanceMethod z ∈ tb) {rm : Room} {fs0 : List Addr} (argsL : List Value) {Qy : Option Value → Heap → List Addr → Prop} {yl : Nat} (K0 : Ct l Z EL z yl rm fs0 (.ref a :: argsL).toArray h n0 Qy) (hfs : ∀ x ∈ fs0, x ∈ fs) (hf : rm.frames + 1 ≤ R.frames) (W : Nat) (hlo : W + (yl + 11) + rm.locals ≤ R.locals) (hsz : Ls.size = maxL) {sig : MethodDescriptor} (hdesc : parseMethodDescriptor y.desc = some sig) (hlen : argsL.length = sig.parameters.length) (rest : List Value) (hs : St = argsL.reverse ++ .ref a :: rest) (hW : (rest.map fun v => v.category).sum ≤ W) (hd : decode bytes pc = .ok (.invokevirtual index, 3)) (hc : k + rm.cells ≤ R.cells) (hn : n + rm.slots ≤ R.slots)
    (K : ∀ v h' ns, Qy v h' ns → Go Z EL p l e R s m args below meth c n0 Q (ns ++ fs) h' (k + rm.cells) (n + rm.slots) (mkF m (pc + 3) Ls (v.toList ++ rest))) : Go Z EL p l e R s m args below meth c n0 Q fs h k n (mkF m pc Ls St) := by
  intro vm0 T locs X eT N I
  have hZ : Z.Warmed39 (s.setVm vm0).vm := I.hZ
  have hown : (s.setVm vm0).vm.findClass own = some m.cls := C.hownAt I.hZ
  obtain ⟨cq, kq, qa, qb, qc⟩ := isOf hZ eT E
  obtain ⟨v, _, ⟨T', L', k', n'⟩, -, X', hS, hgr, ⟨Lc, ns, ⟨hQ, hN⟩, hl', hk', hn', hns, hC⟩, st⟩ := X.virtualBackUpS C.hx hown (mvT hZ (C.hw w1)) (mvT hZ (C.hw w0)) (mvT hZ (C.hw w2)) ho (mvT hZ (C.hw w3)) (mvT hZ (C.hw w4)) (K0 (W := W) I.hZ I.1 (I.less hfs).2.1 I.2.2.2.2.1 hf hlo) qa qc (g := mkF m pc Ls St) rfl (hsz.trans C.hml.symm) (Steps.refl _) (argsL := argsL) (rest := rest) (fun sg q => by cases hdesc.symm.trans q; exact hlen) hs (by show 2 * 0 + _ ≤ _; omega) (hb C.hby hd) (fun _ _ => ⟨rfl, eT, hc, hn⟩)
  dsimp only [Pt.U, Pt.locs, Pt.cells, Pt.slots] at X' hl' hk' hn' st hQ hS hgr hC hns
  subst hl' hk' hn'
  obtain ⟨s2, o, st2, r⟩ := K v T'.heap ns hQ T'.vm T' _ X' rfl (N.app hN) (own_inv I hS (Nat.le_refl _) (by rw [← eT]; exact hgr) hns hC)
  exact ⟨s2, o, st.trans st2, r⟩
theorem g_virtualUp (C : Cx Z a0 tb p s m meth c own mname bytes maxL ret n0) {index : Nat} {y z : MethodName} {Cn owner : String} {a : Addr} (E : Exa Z h a Cn) (w1 : Jvm.Cond.methodLink own index y ∈ tb) (w0 : Jvm.Cond.sameMethod y.cls owner y.name y.desc ∈ tb) (w2 : Jvm.Cond.declares ⟨owner, y.name, y.desc⟩ ∈ tb) (ho : owner ≠ "java/lang/invoke/MethodHandle" ∧ owner ≠ "java/lang/invoke/VarHandle") (w3 : Jvm.Cond.selects Cn y z ∈ tb) (w4 : Jvm.Cond.instanceMethod z ∈ tb) {rm : Room} {fs0 : List Addr} (argsL : List Value) {Qy : Option Value → Heap → Prop} {yl : Nat} (K0 : Ct l Z EL z yl rm fs0 (.ref a :: argsL).toArray h n0 (nq Qy)) (hfs : ∀ x ∈ fs0, x ∈ fs) (hf : rm.frames + 1 ≤ R.frames) (W : Nat) (hlo : W + (yl + 11) + rm.locals ≤ R.locals) (hsz : Ls.size = maxL) {sig : MethodDescriptor} (hdesc : parseMethodDescriptor y.desc = some sig) (hlen : argsL.length = sig.parameters.length) (rest : List Value) (hs : St = argsL.reverse ++ .ref a :: rest) (hW : (rest.map fun v => v.category).sum ≤ W) (hd : decode bytes pc = .ok (.invokevirtual index, 3)) (hc : k + rm.cells ≤ R.cells) (hn : n + rm.slots ≤ R.slots)
    (K : ∀ v h', Qy v h' → Go Z EL p l e R s m args below meth c n0 Q fs h' (k + rm.cells) (n + rm.slots) (mkF m (pc + 3) Ls (v.toList ++ rest))) : Go Z EL p l e R s m args below meth c n0 Q fs h k n (mkF m pc Ls St) :=
  g_virtualUpX C E w1 w0 w2 ho w3 w4 argsL K0 hfs hf W hlo hsz hdesc hlen rest hs hW hd hc hn (fun v h' ns q => by obtain ⟨rfl, q⟩ := q; exact K v h' q)
theorem g_privateX (C : Cx Z a0 tb p s m meth c own mname bytes maxL ret n0) {index : Nat} {y : MethodName} {a : Addr} {Cn : String} {yb : ByteArray} {yr : Option FieldType} {yl' : Nat} (E : Exa Z h a Cn) (w1 : Jvm.Cond.methodLink own index y ∈ tb) (w2 : Jvm.Cond.instanceMethod y ∈ tb) (hni : ∀ {s' : State}, Z.Warmed39 s'.vm → ∃ c k, s'.vm.findClass y.cls = some c ∧ s'.vm.classes[c]? = some k ∧ k.isInterface = false) (w5 : Jvm.Cond.privateMethod y ∈ tb) (w4 : Jvm.Cond.code y yb yl' yr ∈ tb) (hy : y.cls ≠ "java/lang/invoke/MethodHandle" ∧ y.cls ≠ "java/lang/invoke/VarHandle") {rm : Room} {fs0 : List Addr} (argsL : List Value) {Qy : Option Value → Heap → List Addr → Prop} {yl : Nat} (K0 : Ct l Z EL y yl rm fs0 (.ref a :: argsL).toArray h n0 Qy) (hfs : ∀ x ∈ fs0, x ∈ fs) (hf : rm.frames + 1 ≤ R.frames) (W : Nat) (hlo : W + (yl + 11) + rm.locals ≤ R.locals) (hsz : Ls.size = maxL) {sig : MethodDescriptor} (hdesc : parseMethodDescriptor y.desc = some sig) (hlen : argsL.length = sig.parameters.length) (rest : List Value) (hs : St = argsL.reverse ++ .ref a :: rest) (hW : (rest.map fun v => v.category).sum ≤ W) (hd : decode bytes pc = .ok (.invokevirtual index, 3)) (hc : k + rm.cells ≤ R.cells) (hn : n + rm.slots ≤ R.slots)
    (K : ∀ v h' ns, Qy v h' ns → Go Z EL p l e R s m args below meth c n0 Q (ns ++ fs) h' (k + rm.cells) (n + rm.slots) (mkF m (pc + 3) Ls (v.toList ++ rest))) : Go Z EL p l e R s m args below meth c n0 Q fs h k n (mkF m pc Ls St) := by
  intro vm0 T locs X eT N I
  have hZ : Z.Warmed39 (s.setVm vm0).vm := I.hZ
  have hown : (s.setVm vm0).vm.findClass own = some m.cls := C.hownAt I.hZ
  obtain ⟨cq, q1, q2⟩ := E.cell
  obtain ⟨cx, kx, cx1, cx2, cx3⟩ := hni hZ
  obtain ⟨v, _, ⟨T', L', k', n'⟩, -, X', hS, hgr, ⟨Lc, ns, ⟨hQ, hN⟩, hl', hk', hn', hns, hC⟩, st⟩ := privateBackS X C.hx hown (mvT hZ (C.hw w1)) (mvT hZ (C.hw w2)) (selects_self_of_private cx1 cx2 cx3 (Cond.privateMethod_at (mvP hZ (C.hw w5) (args := #[]))) (mvT hZ (C.hw w2)) hy) (Cond.privateMethod_at (mvP hZ (C.hw w5) (args := #[]))) (mvT hZ (C.hw w4)) hy (K0 (W := W) I.hZ I.1 (I.less hfs).2.1 I.2.2.2.2.1 hf hlo) (g := mkF m pc Ls St) rfl (hsz.trans C.hml.symm) (Steps.refl _) (a := a) (by rw [eT]; exact q1) q2 (argsL := argsL) (rest := rest) (fun sg q => by cases hdesc.symm.trans q; exact hlen) hs (by show 2 * 0 + _ ≤ _; omega) (hb C.hby hd) (fun _ _ => ⟨rfl, eT, hc, hn⟩)
  dsimp only [Pt.U, Pt.locs, Pt.cells, Pt.slots] at X' hl' hk' hn' st hQ hS hgr hC hns
  subst hl' hk' hn'
  obtain ⟨s2, o, st2, r⟩ := K v T'.heap ns hQ T'.vm T' _ X' rfl (N.app hN) (own_inv I hS (Nat.le_refl _) (by rw [← eT]; exact hgr) hns hC)
  exact ⟨s2, o, st.trans st2, r⟩
theorem g_private (C : Cx Z a0 tb p s m meth c own mname bytes maxL ret n0) {index : Nat} {y : MethodName} {a : Addr} {Cn : String} {yb : ByteArray} {yr : Option FieldType} {yl' : Nat} (E : Exa Z h a Cn) (w1 : Jvm.Cond.methodLink own index y ∈ tb) (w2 : Jvm.Cond.instanceMethod y ∈ tb) (hni : ∀ {s' : State}, Z.Warmed39 s'.vm → ∃ c k, s'.vm.findClass y.cls = some c ∧ s'.vm.classes[c]? = some k ∧ k.isInterface = false) (w5 : Jvm.Cond.privateMethod y ∈ tb) (w4 : Jvm.Cond.code y yb yl' yr ∈ tb) (hy : y.cls ≠ "java/lang/invoke/MethodHandle" ∧ y.cls ≠ "java/lang/invoke/VarHandle") {rm : Room} {fs0 : List Addr} (argsL : List Value) {Qy : Option Value → Heap → Prop} {yl : Nat} (K0 : Ct l Z EL y yl rm fs0 (.ref a :: argsL).toArray h n0 (nq Qy)) (hfs : ∀ x ∈ fs0, x ∈ fs) (hf : rm.frames + 1 ≤ R.frames) (W : Nat) (hlo : W + (yl + 11) + rm.locals ≤ R.locals) (hsz : Ls.size = maxL) {sig : MethodDescriptor} (hdesc : parseMethodDescriptor y.desc = some sig) (hlen : argsL.length = sig.parameters.length) (rest : List Value) (hs : St = argsL.reverse ++ .ref a :: rest) (hW : (rest.map fun v => v.category).sum ≤ W) (hd : decode bytes pc = .ok (.invokevirtual index, 3)) (hc : k + rm.cells ≤ R.cells) (hn : n + rm.slots ≤ R.slots)
    (K : ∀ v h', Qy v h' → Go Z EL p l e R s m args below meth c n0 Q fs h' (k + rm.cells) (n + rm.slots) (mkF m (pc + 3) Ls (v.toList ++ rest))) : Go Z EL p l e R s m args below meth c n0 Q fs h k n (mkF m pc Ls St) :=
  g_privateX C E w1 w2 hni w5 w4 hy argsL K0 hfs hf W hlo hsz hdesc hlen rest hs hW hd hc hn (fun v h' ns q => by obtain ⟨rfl, q⟩ := q; exact K v h' q)
theorem own_same {y : MethodName} (hy : y.cls ≠ "java/lang/invoke/MethodHandle" ∧ y.cls ≠ "java/lang/invoke/VarHandle") (hd : (Cond.declares y).before a0 Z = true) (hni : ∃ c k, Z.vm.findClass y.cls = some c ∧ Z.vm.classes[c]? = some k ∧ k.isInterface = false) : (Cond.sameMethod y.cls y.cls y.name y.desc).before a0 Z = true := by
  obtain ⟨m, meth, h1, -⟩ := Cond.declares_spec hd
  have h2 := State.methodFound?_of_named h1 hy
  obtain ⟨c, k, q1, q2, q3⟩ := hni
  have h3 : Z.methodNamed? ⟨y.cls, y.name, y.desc⟩ = some m := h1
  first | (simp [Cond.before, Cond.holds, Cond.value, q1, h2, q2, q3, h3]; done) | (simp [Cond.before, Cond.holds, Cond.value, q1, h2, q2, q3, h1]; done)
theorem g_superX (C : Cx Z a0 tb p s m meth c own mname bytes maxL ret n0) {index : Nat} {y : MethodName} {a : Addr} {Cn : String} {yb : ByteArray} {yr : Option FieldType} {yl' : Nat} (E : Exa Z h a Cn) (w1 : Jvm.Cond.methodLink own index y ∈ tb) (w2 : Jvm.Cond.declares y ∈ tb) (w3 : Jvm.Cond.instanceMethod y ∈ tb) (w5 : Jvm.Cond.superclass own y.cls ∈ tb) (hn1 : y.name ≠ "<init>") (w4 : Jvm.Cond.code y yb yl' yr ∈ tb) (hni : ∃ c k, Z.vm.findClass y.cls = some c ∧ Z.vm.classes[c]? = some k ∧ k.isInterface = false) (hy : y.cls ≠ "java/lang/invoke/MethodHandle" ∧ y.cls ≠ "java/lang/invoke/VarHandle") {rm : Room} {fs0 : List Addr} (argsL : List Value) {Qy : Option Value → Heap → List Addr → Prop} {yl : Nat} (K0 : Ct l Z EL y yl rm fs0 (.ref a :: argsL).toArray h n0 Qy) (hfs : ∀ x ∈ fs0, x ∈ fs) (hf : rm.frames + 1 ≤ R.frames) (W : Nat) (hlo : W + (yl + 11) + rm.locals ≤ R.locals) (hsz : Ls.size = maxL) {sig : MethodDescriptor} (hdesc : parseMethodDescriptor y.desc = some sig) (hlen : argsL.length = sig.parameters.length) (rest : List Value) (hs : St = argsL.reverse ++ .ref a :: rest) (hW : (rest.map fun v => v.category).sum ≤ W) (hd : decode bytes pc = .ok (.invokespecial index, 3)) (hc : k + rm.cells ≤ R.cells) (hn : n + rm.slots ≤ R.slots)
    (K : ∀ v h' ns, Qy v h' ns → Go Z EL p l e R s m args below meth c n0 Q (ns ++ fs) h' (k + rm.cells) (n + rm.slots) (mkF m (pc + 3) Ls (v.toList ++ rest))) : Go Z EL p l e R s m args below meth c n0 Q fs h k n (mkF m pc Ls St) := by
  intro vm0 T locs X eT N I
  have hZ : Z.Warmed39 (s.setVm vm0).vm := I.hZ
  have hown : (s.setVm vm0).vm.findClass own = some m.cls := C.hownAt I.hZ
  obtain ⟨v, _, ⟨T', L', k', n'⟩, -, X', hS, hgr, ⟨Lc, ns, ⟨hQ, hN⟩, hl', hk', hn', hns, hC⟩, st⟩ := superBackS X C.hx hZ hown (C.hw w1) (own_same hy (C.hw w2) hni) (C.hw w3) (C.hw w5) hn1 (K0 (W := W) I.hZ I.1 (I.less hfs).2.1 I.2.2.2.2.1 hf hlo) eT (Ins.self E) (g := mkF m pc Ls St) rfl (hsz.trans C.hml.symm) (C.hw w4) (argsL := argsL) (rest := rest) (fun sg q => by cases hdesc.symm.trans q; exact hlen) hs (by show 2 * 0 + _ ≤ _; omega) (hb C.hby hd) (fun _ _ => ⟨rfl, eT, hc, hn⟩)
  dsimp only [Pt.U, Pt.locs, Pt.cells, Pt.slots] at X' hl' hk' hn' st hQ hS hgr hC hns
  subst hl' hk' hn'
  obtain ⟨s2, o, st2, r⟩ := K v T'.heap ns hQ T'.vm T' _ X' rfl (N.app hN) (own_inv I hS (Nat.le_refl _) (by rw [← eT]; exact hgr) hns hC)
  exact ⟨s2, o, st.trans st2, r⟩
theorem g_super (C : Cx Z a0 tb p s m meth c own mname bytes maxL ret n0) {index : Nat} {y : MethodName} {a : Addr} {Cn : String} {yb : ByteArray} {yr : Option FieldType} {yl' : Nat} (E : Exa Z h a Cn) (w1 : Jvm.Cond.methodLink own index y ∈ tb) (w2 : Jvm.Cond.declares y ∈ tb) (w3 : Jvm.Cond.instanceMethod y ∈ tb) (w5 : Jvm.Cond.superclass own y.cls ∈ tb) (hn1 : y.name ≠ "<init>") (w4 : Jvm.Cond.code y yb yl' yr ∈ tb) (hni : ∃ c k, Z.vm.findClass y.cls = some c ∧ Z.vm.classes[c]? = some k ∧ k.isInterface = false) (hy : y.cls ≠ "java/lang/invoke/MethodHandle" ∧ y.cls ≠ "java/lang/invoke/VarHandle") {rm : Room} {fs0 : List Addr} (argsL : List Value) {Qy : Option Value → Heap → Prop} {yl : Nat} (K0 : Ct l Z EL y yl rm fs0 (.ref a :: argsL).toArray h n0 (nq Qy)) (hfs : ∀ x ∈ fs0, x ∈ fs) (hf : rm.frames + 1 ≤ R.frames) (W : Nat) (hlo : W + (yl + 11) + rm.locals ≤ R.locals) (hsz : Ls.size = maxL) {sig : MethodDescriptor} (hdesc : parseMethodDescriptor y.desc = some sig) (hlen : argsL.length = sig.parameters.length) (rest : List Value) (hs : St = argsL.reverse ++ .ref a :: rest) (hW : (rest.map fun v => v.category).sum ≤ W) (hd : decode bytes pc = .ok (.invokespecial index, 3)) (hc : k + rm.cells ≤ R.cells) (hn : n + rm.slots ≤ R.slots)
    (K : ∀ v h', Qy v h' → Go Z EL p l e R s m args below meth c n0 Q fs h' (k + rm.cells) (n + rm.slots) (mkF m (pc + 3) Ls (v.toList ++ rest))) : Go Z EL p l e R s m args below meth c n0 Q fs h k n (mkF m pc Ls St) :=
  g_superX C E w1 w2 w3 w5 hn1 w4 hni hy argsL K0 hfs hf W hlo hsz hdesc hlen rest hs hW hd hc hn (fun v h' ns q => by obtain ⟨rfl, q⟩ := q; exact K v h' q)
theorem ni_sel {y : MethodName} {Cn : String} (hw : ∀ d ∈ tb, d.before a0 Z = true) (w : Jvm.Cond.selects Cn y y ∈ tb) (wd : Jvm.Cond.declares y ∈ tb) {s' : State} (hZ : Z.Warmed39 s'.vm) : ∃ c k, s'.vm.findClass y.cls = some c ∧ s'.vm.classes[c]? = some k ∧ k.isInterface = false := by
  obtain ⟨m, meth, h1, -⟩ := Cond.declares_spec (mvT hZ (hw _ wd) : (Cond.declares y).before #[] s' = true)
  obtain ⟨k, q1, q2⟩ := notFace_of_selects (args := #[]) (mvT hZ (hw _ w)) m h1
  exact ⟨m.cls, k, findClass_of_methodNamed h1, q1, q2⟩
theorem nf_ni {y : MethodName} {s' : State} (q : ∃ c k, s'.vm.findClass y.cls = some c ∧ s'.vm.classes[c]? = some k ∧ k.isInterface = false) : NotFace s' y := fun r0 h0 => by
  obtain ⟨c, k, q1, q2, q3⟩ := q
  cases q1.symm.trans (findClass_of_methodNamed h0)
  exact ⟨k, q2, q3⟩
theorem nf_sel {y : MethodName} {Cn : String} (hw : ∀ d ∈ tb, d.before a0 Z = true) (w : Jvm.Cond.selects Cn y y ∈ tb) {s' : State} (hZ : Z.Warmed39 s'.vm) : NotFace s' y := notFace_of_selects (args := #[]) (mvT hZ (hw _ w))
end OwnGo
end Jvm.OwnGo
namespace Jvm.OwnGo
open Sem ClassFile Op Lib Jvm.Stand Jvm.Free Jvm.LawKit Jvm.RoadKit Bundle
section OwnBox
variable {Z : State} {a0 : Array Value} {tb : List Jvm.Cond} {p : Program} {l : Launch} {e : Env} {R : Room} {s : State} {m : MethodId} {args : Array Value} {below : List Frame} {meth : Method} {c : Code} {own mname : String} {bytes : ByteArray} {maxL : Nat} {ret : Option FieldType} {n0 : Nat} {Q : Option Value → Heap → List Addr → Prop} {Q2 : Option Value → Heap → Prop} {fs : List Addr} {h : Heap} {k n : Nat} {pc : Nat} {Ls : Array Slot} {St : List Value} {EL : List (String × Nat)}
end OwnBox
end Jvm.OwnGo
namespace Jvm.OwnGo
open Sem ClassFile Op Lib Jvm.Stand Jvm.Free Jvm.LawKit Jvm.RoadKit Bundle
section OwnK
variable {Z : State} {a0 : Array Value} {tb : List Jvm.Cond} {p : Program} {l : Launch} {e : Env} {R : Room} {s : State} {m : MethodId} {args : Array Value} {below : List Frame} {meth : Method} {c : Code} {own mname : String} {bytes : ByteArray} {maxL : Nat} {ret : Option FieldType} {n0 : Nat} {Q : Option Value → Heap → List Addr → Prop} {Q2 : Option Value → Heap → Prop} {fs : List Addr} {h : Heap} {k n : Nat} {pc : Nat} {Ls : Array Slot} {St : List Value} {EL : List (String × Nat)}
def MetK (l : Launch) (Z : State) (EL : List (String × Nat)) (y : MethodName) (bytes : ByteArray) (maxL : Nat) (ret : Option FieldType) (ws : List Jvm.Cond) (rm : Room) (fs : List Addr) (as' : Array Value) (h : Heap) (n0 : Nat) (Q : Option Value → Heap → List Addr → Prop) : Prop :=
  n0 ≤ h.size → (∀ x ∈ fs, n0 ≤ x ∧ x < h.size) → MetFree l y (head1 (Jvm.Cond.code y bytes maxL ret :: ws) rm) (fun a U => a = as' ∧ Z.Warmed39 U.vm ∧ U.heap = h ∧ CHv Z EL U.vm h ∧ ∀ x ∈ fs, Safe Z EL U.vm h x) (fun _ _ bl s _ => s.vm.MethodsKnown ∧ s.vm.FramesKnown bl) (fun _ U o U' => ∃ v L ns, o = .returned v ∧ (Q v U'.heap ns ∧ Fr n0 L) ∧ (∀ x ∈ ns, n0 ≤ x ∧ x < U'.heap.size ∧ Safe Z EL U'.vm U'.heap x) ∧ CHr Z EL U.vm U.heap U'.vm U'.heap ∧ ReturnedEndW U o U' L rm.cells rm.slots)
theorem met_ofK {y : MethodName} {ws : List Jvm.Cond} {as' : Array Value} (hpl : plainFor y = true) (hw : ∀ d ∈ tb, d.before a0 Z = true) (Ls : Array Slot) (hef : ∀ m : MethodId, entryFrame m as' maxL = mkF m 0 Ls [])
    (H : ∀ p e s m below meth c, Cx Z a0 tb p s m meth c y.cls y.name bytes maxL ret n0 → s.vm.MethodsKnown → s.vm.FramesKnown below → s.heap = h → Go Z EL p l e R s m as' below meth c n0 Q fs h 0 0 (mkF m 0 Ls [])) : MetK l Z EL y bytes maxL ret ws R fs as' h n0 Q := by
  intro hn0 hfs
  refine MetFree.of_bodySF hpl hisR ?_
  intro p e s m args below meth c s₁ Bd hml0 hP hK
  obtain ⟨rfl, hZ, hh, hH, hsf⟩ := hP
  have X0 : Stand p l e R (s.setVm s.vm) m args below meth c s₁ [] 0 0 := Stand.of_body Bd
  have e0 : s₁.heap = h := by rw [← hh, Bd.state]; rfl
  have C : Cx Z a0 tb p s m meth c y.cls y.name bytes maxL ret n0 := ⟨Bd.exec, hZ, findClass_of_methodNamed Bd.named, Bd.bytes, hml0, Bd.returns, Bd.notSynchronized, hw, (name_of_methodNamed Bd.named Bd.method).1, by rw [hh]; exact hn0⟩
  have I : Inv Z EL s s.vm n0 fs h := ⟨hn0, fun x hx => ⟨(hfs x hx).1, (hfs x hx).2, hsf x hx⟩, ⟨0, (State.WarmedH.refl s).since 0, Nat.zero_le _⟩, hZ, hH, by rw [hh]; exact CHr.refl hH⟩
  obtain ⟨s2, o, st, r⟩ := H p e s m below meth c C hK.1 hK.2 hh s.vm s₁ [] X0 e0 (Fr.nil n0) I
  exact ⟨s2, o, castTop (hef m) st, r⟩
def CtK (l : Launch) (Z : State) (EL : List (String × Nat)) (y : MethodName) (maxL : Nat) (rm : Room) (fs : List Addr) (as' : Array Value) (h : Heap) (n0 : Nat) (Q : Option Value → Heap → List Addr → Prop) : Prop :=
  ∀ ⦃R : Room⦄ ⦃p : Program⦄ ⦃e : Env⦄ ⦃below : List Frame⦄ ⦃s : State⦄ ⦃vm0 : Vm⦄ ⦃args : Array Value⦄ ⦃len W : Nat⦄, Z.Warmed39 vm0 → n0 ≤ h.size → (∀ x ∈ fs, n0 ≤ x ∧ x < h.size ∧ Safe Z EL vm0 h x) → CHv Z EL vm0 h → rm.frames + 1 ≤ R.frames → W + (maxL + 11) + rm.locals ≤ R.locals → vm0.MethodsKnown → vm0.FramesKnown below →
    BackS l R p e below (s.setVm vm0) args y len W (fun A a => a = as' ∧ A.U.heap = h ∧ A.cells + rm.cells ≤ R.cells ∧ A.slots + rm.slots ≤ R.slots) (fun A _ v B => ∃ L ns, (Q v B.U.heap ns ∧ Fr n0 L) ∧ B.locs = A.locs ++ L ∧ B.cells = A.cells + rm.cells ∧ B.slots = A.slots + rm.slots ∧ (∀ x ∈ ns, n0 ≤ x ∧ x < B.U.heap.size ∧ Safe Z EL B.U.vm B.U.heap x) ∧ CHr Z EL vm0 h B.U.vm B.U.heap)
theorem ct_ofK {y : MethodName} {rm : Room} {as' : Array Value} (hEL : EW Z a0 EL) (hw : ∀ d ∈ tb, d.before a0 Z = true) (wc : Jvm.Cond.code y bytes maxL ret ∈ tb) (wz : Jvm.Cond.initialized y.cls ∈ tb) (M : MetK l Z EL y bytes maxL ret [] rm fs as' h n0 Q) : CtK l Z EL y maxL rm fs as' h n0 Q := by
  intro R p e below s vm0 args len W hZ hn0 hfs H hf hl hTK hBelow
  exact BackS.of_freeWG (bytes := bytes) (maxL := maxL) (ret := ret) (E := fun _ first o t L k n => k = rm.cells ∧ n = rm.slots ∧ (∃ v ns, o = .returned v ∧ (Q v t.heap ns ∧ Fr n0 L) ∧ ∀ x ∈ ns, n0 ≤ x ∧ x < t.heap.size ∧ Safe Z EL t.vm t.heap x) ∧ CHr Z EL first.vm first.heap t.vm t.heap) (M hn0 fun x hx => ⟨(hfs x hx).1, (hfs x hx).2.1⟩) hf hl
    (fun m meth c A a Y hp => have hU : Z.Warmed39 A.U.vm := wtrans (s := s.setVm vm0) hZ Y.warmed
      ⟨by show (Cond.and _ .tt).before a A.U = true; rw [Cond.before_and, mv hU (hw _ wc)]; rfl, mv hU (hw _ wc), mv hU (hw _ wz), hp.2.2.1, hp.2.2.2⟩)
    (fun m meth c A a g mk Y hp => ⟨hp.1, wtrans (s := s.setVm vm0) hZ Y.warmed, hp.2.1, (CHv.at Y hZ hEL H).1, fun x hx => (CHv.at Y hZ hEL H).safe (hfs x hx).2.1 (hfs x hx).2.2⟩) (fun m meth c A a g mk Y _ hg => known_frames Y hg (show (s.setVm vm0).vm.MethodsKnown from hTK) (show (s.setVm vm0).vm.FramesKnown below from hBelow))
    (fun _ _ _ _ ⟨v, L, ns, h1, h2, hs, h3, h4⟩ => ⟨L, _, _, h4, rfl, rfl, ⟨v, ns, h1, h2, hs⟩, h3⟩)
    (fun m meth c A a g mk v t L k n Y hp _ _ ⟨e1, e2, ⟨v', ns, e3, e4, e6⟩, e5⟩ => by
      cases e3; subst e1 e2
      refine ⟨L, ns, e4, rfl, rfl, rfl, e6, (CHv.at Y hZ hEL H).trans ?_⟩
      rw [← hp.2.1]; exact e5)
theorem g_staticK (C : Cx Z a0 tb p s m meth c own mname bytes maxL ret n0) (hTK : s.vm.MethodsKnown) (hBelow : s.vm.FramesKnown below) {index : Nat} {y : MethodName} {yb : ByteArray} {yr : Option FieldType} {yl' : Nat} (w1 : Jvm.Cond.methodLink own index y ∈ tb) (w2 : Jvm.Cond.static y ∈ tb) (w3 : Jvm.Cond.initialized y.cls ∈ tb) (w4 : Jvm.Cond.code y yb yl' yr ∈ tb) (hy : y.cls ≠ "java/lang/invoke/MethodHandle" ∧ y.cls ≠ "java/lang/invoke/VarHandle") {rm : Room} {fs0 : List Addr} (argsL : List Value) {Qy : Option Value → Heap → List Addr → Prop} {yl : Nat} (K0 : CtK l Z EL y yl rm fs0 argsL.toArray h n0 Qy) (hfs : ∀ x ∈ fs0, x ∈ fs) (hf : rm.frames + 1 ≤ R.frames) (W : Nat) (hlo : W + (yl + 11) + rm.locals ≤ R.locals) (hsz : Ls.size = maxL) {sig : MethodDescriptor} (hdesc : parseMethodDescriptor y.desc = some sig) (hlen : argsL.length = sig.parameters.length) (rest : List Value) (hs : St = argsL.reverse ++ rest) (hW : (rest.map fun v => v.category).sum ≤ W) (hd : decode bytes pc = .ok (.invokestatic index, 3)) (hc : k + rm.cells ≤ R.cells) (hn : n + rm.slots ≤ R.slots)
    (K : ∀ v h' ns, Qy v h' ns → Go Z EL p l e R s m args below meth c n0 Q (ns ++ fs) h' (k + rm.cells) (n + rm.slots) (mkF m (pc + 3) Ls (v.toList ++ rest))) : Go Z EL p l e R s m args below meth c n0 Q fs h k n (mkF m pc Ls St) := by
  intro vm0 T locs X eT N I
  have hZ : Z.Warmed39 (s.setVm vm0).vm := I.hZ
  have hown : (s.setVm vm0).vm.findClass own = some m.cls := C.hownAt I.hZ
  obtain ⟨k9, hS9, -⟩ := I.2.2.1
  have hal : s.vm.Alike vm0 := hS9.1.alike
  obtain ⟨v, _, ⟨T', L', k', n'⟩, -, X', hS, hgr, ⟨Lc, ns, ⟨hQ, hN⟩, hl', hk', hn', hns, hC⟩, st⟩ := callSS X C.hx hown (mvT hZ (C.hw w1)) (mvT hZ (C.hw w2)) (mvT hZ (C.hw w3)) (mvT hZ (C.hw w4)) hy (K0 (W := W) I.hZ I.1 (I.less hfs).2.1 I.2.2.2.2.1 hf hlo (Vm.MethodsKnown.alikeC hal hTK) (Vm.FramesKnown.alikeC hal hBelow)) (g := mkF m pc Ls St) rfl (hsz.trans C.hml.symm) (argsL := argsL) (rest := rest) (fun sg q => by cases hdesc.symm.trans q; exact hlen) hs (by show 2 * 0 + _ ≤ _; omega) (hb C.hby hd) (fun _ _ => ⟨rfl, eT, hc, hn⟩)
  dsimp only [Pt.U, Pt.locs, Pt.cells, Pt.slots] at X' hl' hk' hn' st hQ hS hgr hC hns
  subst hl' hk' hn'
  obtain ⟨s2, o, st2, r⟩ := K v T'.heap ns hQ T'.vm T' _ X' rfl (N.app hN) (own_inv I hS (Nat.le_refl _) (by rw [← eT]; exact hgr) hns hC)
  exact ⟨s2, o, st.trans st2, r⟩
theorem g_newU (C : Cx Z a0 tb p s m meth c own mname bytes maxL ret n0) {index ns : Nat} {Cn : String} (w : Jvm.Cond.classLink own index Cn ∈ tb) (wi : Jvm.Cond.instantiable Cn ns ∈ tb) (wz : Jvm.Cond.initialized Cn ∈ tb) (hd : decode bytes pc = .ok (.new index, 3)) (hc : k + 1 ≤ R.cells) (hl : n + ns ≤ R.slots)
    (K : ∀ a h', a = h.size → Ext h h' → Exa Z h' a Cn → Unt h' a → (∀ {O nm d : String} {ty : FieldType}, Laid Z a0 Cn O nm d → parseFieldDescriptor d = some ty → Fld Z h' a O nm d (defaultValue ty)) → Go Z EL p l e R s m args below meth c n0 Q (a :: fs) h' (k + 1) (n + ns) (mkF m (pc + 3) Ls (.ref a :: St))) : Go Z EL p l e R s m args below meth c n0 Q fs h k n (mkF m pc Ls St) := by
  intro vm0 T locs X eT N I
  have hZ : Z.Warmed39 (s.setVm vm0).vm := I.hZ
  have hown : (s.setVm vm0).vm.findClass own = some m.cls := C.hownAt I.hZ
  obtain ⟨T', h', X', e', E', A', D', U', st⟩ := newO X C.hx hZ hown (C.hw w) (C.hw wi) (C.hw wz) eT (g := mkF m pc Ls St) rfl (hb C.hby hd) hc hl
  obtain ⟨s2, o, st2, r⟩ := K h.size h' rfl E' A' U' D' vm0 T' locs X' e' N (I.new E' A'.lt)
  exact ⟨s2, o, st _ st2, r⟩
end OwnK
end Jvm.OwnGo
namespace Jvm.OwnGo
open Sem ClassFile Op Lib Jvm.Stand Jvm.Free Jvm.LawKit Jvm.RoadKit Bundle Jvm.Free.Exc
section OwnF
variable {Z : State} {a0 : Array Value} {tb : List Jvm.Cond} {p : Program} {l : Launch} {e : Env} {R : Room} {s : State} {m : MethodId} {args : Array Value} {below : List Frame} {meth : Method} {c : Code} {own mname : String} {bytes : ByteArray} {maxL : Nat} {ret : Option FieldType} {n0 : Nat} {Q : Option Value → Heap → List Addr → Prop} {Q2 : Option Value → Heap → Prop} {fs : List Addr} {h : Heap} {k n : Nat} {pc : Nat} {Ls : Array Slot} {St : List Value} {EL : List (String × Nat)}
theorem g_specialK (C : Cx Z a0 tb p s m meth c own mname bytes maxL ret n0) (hTK : s.vm.MethodsKnown) (hBelow : s.vm.FramesKnown below) {index : Nat} {y : MethodName} {a : Addr} {yb : ByteArray} {yl' : Nat} (w1 : Jvm.Cond.methodLink own index y ∈ tb) (w2 : Jvm.Cond.instanceMethod y ∈ tb) (w4 : Jvm.Cond.code y yb yl' none ∈ tb) (hy1 : y.name = "<init>") (hy : y.cls ≠ "java/lang/invoke/MethodHandle" ∧ y.cls ≠ "java/lang/invoke/VarHandle") {rm : Room} {fs0 : List Addr} (argsL : List Value) {Qy : Option Value → Heap → List Addr → Prop} {yl : Nat} (K0 : CtK l Z EL y yl rm fs0 (.ref a :: argsL).toArray h n0 Qy) (hfs : ∀ x ∈ fs0, x ∈ fs) (hf : rm.frames + 1 ≤ R.frames) (W : Nat) (hlo : W + (yl + 11) + rm.locals ≤ R.locals) (hsz : Ls.size = maxL) {sig : MethodDescriptor} (hdesc : parseMethodDescriptor y.desc = some sig) (hlen : argsL.length = sig.parameters.length) (rest : List Value) (hs : St = argsL.reverse ++ .ref a :: rest) (hW : (rest.map fun v => v.category).sum ≤ W) (hd : decode bytes pc = .ok (.invokespecial index, 3)) (hc : k + rm.cells ≤ R.cells) (hn : n + rm.slots ≤ R.slots)
    (K : ∀ v h' ns, Qy v h' ns → Go Z EL p l e R s m args below meth c n0 Q (ns ++ fs) h' (k + rm.cells) (n + rm.slots) (mkF m (pc + 3) Ls (v.toList ++ rest))) : Go Z EL p l e R s m args below meth c n0 Q fs h k n (mkF m pc Ls St) := by
  intro vm0 T locs X eT N I
  have hZ : Z.Warmed39 (s.setVm vm0).vm := I.hZ
  have hown : (s.setVm vm0).vm.findClass own = some m.cls := C.hownAt I.hZ
  obtain ⟨k9, hS9, -⟩ := I.2.2.1
  have hal : s.vm.Alike vm0 := hS9.1.alike
  obtain ⟨v, _, ⟨T', L', k', n'⟩, -, X', hS, hgr, ⟨Lc, ns, ⟨hQ, hN⟩, hl', hk', hn', hns, hC⟩, st⟩ := X.specialBackS C.hx hy1 hown (mvT hZ (C.hw w1)) (mvT hZ (C.hw w2)) (mvT hZ (C.hw w4)) hy (K0 (W := W) I.hZ I.1 (I.less hfs).2.1 I.2.2.2.2.1 hf hlo (Vm.MethodsKnown.alikeC hal hTK) (Vm.FramesKnown.alikeC hal hBelow)) (g := mkF m pc Ls St) rfl (hsz.trans C.hml.symm) (Steps.refl _) (a := a) (argsL := argsL) (rest := rest) (fun sg q => by cases hdesc.symm.trans q; exact hlen) hs (by show 2 * 0 + _ ≤ _; omega) (hb C.hby hd) (fun _ _ => ⟨rfl, eT, hc, hn⟩)
  dsimp only [Pt.U, Pt.locs, Pt.cells, Pt.slots] at X' hl' hk' hn' st hQ hS hgr hC hns
  subst hl' hk' hn'
  obtain ⟨s2, o, st2, r⟩ := K v T'.heap ns hQ T'.vm T' _ X' rfl (N.app hN) (own_inv I hS (Nat.le_refl _) (by rw [← eT]; exact hgr) hns hC)
  exact ⟨s2, o, st.trans st2, r⟩
/-- what the sheet tells of Throwable and of the class rc beneath it -/
def thW (rc : String) : List Jvm.Cond := (excAtoms rc).eraseIdx 18
theorem thW_ok {rc : String} : (thW rc).all xOk = true := rfl
theorem own_pars {d : String} {sig : MethodDescriptor} {ps : List FieldType} (q : parseMethodDescriptor d = some sig) (h : (parseMethodDescriptor d).map (fun z => z.parameters) = some ps) : sig.parameters = ps := by
  rw [q] at h; exact Option.some.inj h
theorem own_thr {rc : String} {pl : Platform} (ow : pl.frameOwnsMonitors = true) (nf : pl.finalization = false) (hpl : pl.magicAccessors = ({} : Platform).magicAccessors) (w0 : ∀ d ∈ thW rc, d.before args s = true) :
    ∃ T : ThrowableC, T.Links pl s ∧ s.vm.findClass tN = some T.cT ∧ s.methodNamed? tFill = some T.fill ∧ s.methodNamed? tFill0 = some T.fill0 ∧ s.fieldFound? tN "stackTrace" steD = some (T.cT, T.kT, T.i17, T.fStack) ∧ s.fieldFound? tN "UNASSIGNED_STACK" steD = some (T.cT, T.kT, T.i13, T.fUnassigned) ∧ T.fStack.type = .array (.object "java/lang/StackTraceElement") := by
  have w : ∀ d, d ∈ thW rc → d.holds args s none s [] = true := fun d hd => w0 d hd
  obtain ⟨⟨ct, j0⟩, x0, y0, y1, y2, y3, y4, y5⟩ := Cond.native_spec (w (.native tFill0) (List.mem_of_getElem? (i := 5) rfl))
  have hc : s.vm.findClass tN = some ct := findClass_of_methodNamed y0
  obtain ⟨kt, hk, hnm⟩ := Vm.findClass_spec hc
  obtain ⟨_, kt2, _, _, hk2, _, _, _, _, hni⟩ := Cond.superclass_spec hc (w (.superclass tN "java/lang/Object") (List.mem_of_getElem? (i := 1) rfl))
  obtain rfl : kt = kt2 := Option.some.inj (hk.symm.trans hk2)
  obtain ⟨j0', x0', z0, z1, z2, z3, z4, z5, z6⟩ := Cond.ownMethod (x := tFill0) hc hk (w (.instanceMethod tFill0) (List.mem_of_getElem? (i := 4) rfl))
  obtain rfl : j0 = j0' := congrArg MethodId.idx (Option.some.inj (y0.symm.trans z0))
  obtain rfl : x0 = x0' := Option.some.inj (y1.symm.trans z1)
  obtain ⟨jf, xf, f0, f1, f2, f3, f4, _, _⟩ := Cond.ownMethod (x := tFill) hc hk (w (.instanceMethod tFill) (List.mem_of_getElem? (i := 2) rfl))
  obtain ⟨xf', cf, g1, g2, g3, g4, g5, g6, _, g8⟩ := Cond.codeSync_spec f0 (w (.codeSync tFill Jvm.LibCode.Throwable.Fill.code 1 (some (.object tN))) (List.mem_of_getElem? (i := 3) rfl))
  obtain rfl : xf = xf' := Option.some.inj (f1.symm.trans g1)
  obtain ⟨mo, xo, o0, o1, o2, o3⟩ := Cond.instanceMethod_spec (w (.instanceMethod oInit) (List.mem_of_getElem? (i := 8) rfl))
  obtain ⟨xo', co, p1, p2, p3, p4, _, p6, _, p8⟩ := Cond.code_spec o0 (w (.code oInit ⟨#[0xb1]⟩ 1 none) (List.mem_of_getElem? (i := 9) rfl))
  obtain rfl : xo = xo' := Option.some.inj (o1.symm.trans p1)
  obtain ⟨ko, o4, o5⟩ := Vm.findClass_spec (findClass_of_methodNamed o0)
  obtain ⟨o6, o7⟩ := name_of_methodNamed o0 o1
  obtain ⟨a1, b1, fl, l1, r1, hfl, q1⟩ := Cond.linkedMethod hc hk o0 (w (.methodLink tN 1 oInit) (List.mem_of_getElem? (i := 10) rfl)) pl hpl
  obtain ⟨a27, b27, fl', l27, r27, hfl2, q27⟩ := Cond.linkedMethod hc hk f0 (w (.methodLink tN 27 tFill) (List.mem_of_getElem? (i := 11) rfl)) pl hpl
  obtain rfl : fl = fl' := Option.some.inj (hfl.symm.trans hfl2)
  obtain ⟨a202, b202, fl', l202, r202, hfl3, q202⟩ := Cond.linkedMethod hc hk y0 (w (.methodLink tN 202 tFill0) (List.mem_of_getElem? (i := 12) rfl)) pl hpl
  obtain rfl : fl = fl' := Option.some.inj (hfl.symm.trans hfl3)
  obtain ⟨a7, i7, f7, l7, r7, e7, s7, n7, _, _, _⟩ := Cond.ownField (t := .object tN) hc hk (by decide +kernel) (w (.fieldLink tN 7 tN "cause" thD) (List.mem_of_getElem? (i := 13) rfl)) (w (.lays tN tN "cause" thD) (List.mem_of_getElem? (i := 14) rfl)) pl hpl
  obtain ⟨a17, i17, f17, l17, r17, e17, s17, n17, m17, t17, h17⟩ := Cond.ownField (t := .array (.object "java/lang/StackTraceElement")) hc hk (by decide +kernel) (w (.fieldLink tN 17 tN "stackTrace" steD) (List.mem_of_getElem? (i := 15) rfl)) (w (.lays tN tN "stackTrace" steD) (List.mem_of_getElem? (i := 16) rfl)) pl hpl
  obtain ⟨a24, i24, f24, l24, r24, e24, s24, n24, m24, _, h24⟩ := Cond.ownField (t := .object "java/util/List") hc hk (by decide +kernel) (w (.fieldLink tN 24 tN "suppressedExceptions" listD) (List.mem_of_getElem? (i := 17) rfl)) (w (.lays rc tN "suppressedExceptions" listD) (List.mem_of_getElem? (i := 28) rfl)) pl hpl
  obtain ⟨a13, i13, f13, st, _, l13, r13, e13, s13, _, _, hst, _, _, _, _, h13⟩ := Cond.ownStatic (t := .array (.object "java/lang/StackTraceElement")) hc hk (by decide +kernel) (w (.fieldLink tN 13 tN "UNASSIGNED_STACK" steD) (List.mem_of_getElem? (i := 18) rfl)) (w (.laysStatic tN "UNASSIGNED_STACK" steD) (List.mem_of_getElem? (i := 19) rfl)) pl hpl
  obtain ⟨a20, i20, f20, _, _, l20, r20, e20, s20, _, _, _, _, _, _, _, _⟩ := Cond.ownStatic (t := .object "java/util/List") hc hk (by decide +kernel) (w (.fieldLink tN 20 tN "SUPPRESSED_SENTINEL" listD) (List.mem_of_getElem? (i := 20) rfl)) (w (.laysStatic tN "SUPPRESSED_SENTINEL" listD) (List.mem_of_getElem? (i := 21) rfl)) pl hpl
  obtain ⟨cr, kr, _, _, _, _, hcr, hkr, _⟩ := Cond.lays_spec (w (.lays rc tN "stackTrace" steD) (List.mem_of_getElem? (i := 27) rfl))
  obtain ⟨_, _, u17, v17⟩ := Cond.laysAt hcr hkr h17 (w (.lays rc tN "stackTrace" steD) (List.mem_of_getElem? (i := 27) rfl))
  obtain ⟨_, _, u24, v24⟩ := Cond.laysAt hcr hkr h24 (w (.lays rc tN "suppressedExceptions" listD) (List.mem_of_getElem? (i := 28) rfl))
  refine ⟨{ cT := ct, kT := kt, cO := ct, aS := st, fillIdx := jf, fill0Idx := j0, initSIdx := jf, obj := mo, kObj := ko, methFill := xf, methFill0 := x0, methInitS := xf, methObj := xo, codeFill := cf, codeInitS := cf, codeObj := co, fBack := f7, fDepth := f7, fStack := f17, fCause := f7, fSupp := f24, fMsg := f7, fUnassigned := f13, fSentinel := f20, cfT := fl, ci1 := a1, n1 := b1, ci27 := a27, n27 := b27, ci202 := a202, n202 := b202, ci7 := a7, i7 := i7, ci13 := a13, i13 := i13, ci17 := a17, i17 := i17, ci20 := a20, i20 := i20, ci24 := a24, i24 := i24 }, ?_, hc, f0, y0, h17, h13, t17⟩
  constructor
  case owns => exact ow
  case noFinalization => exact nf
  case boot => exact Vm.findClass_boot hc hk
  case initialized => exact Cond.initialized_spec hc hk (w (.initialized tN) (List.mem_of_getElem? (i := 0) rfl))
  case fillParams => exact own_pars g8 (by decide +kernel)
  case fill0Params => exact own_pars y5 (by decide +kernel)
  case objParams => exact congrArg List.length (own_pars p8 (ps := []) (by decide +kernel))
  case objFound => exact (congrArg (fun d => lookupSpecial s.vm mo.cls "<init>" d = .method mo) o7).mpr (lookupSpecial_of_named o0 o1 o2)
  case stackApartSupp => exact Cond.laysApart u17 u24 v17 v24 (by rw [m17, m24]; decide)
  all_goals assumption
theorem g_fill (C : Cx Z a0 tb p s m meth c own mname bytes maxL ret n0) (ho : own = tN) (hst : l.stackTraces = true) (hTK : s.vm.MethodsKnown) (hBelow : s.vm.FramesKnown below) (hT0 : ThS Z s.heap) {rc : String} {nk : Nat} (hr : ∀ d ∈ thW rc, d.before a0 Z = true) (wi : Jvm.Cond.instantiable rc nk ∈ tb)
    {a u : Addr} (E : Exa Z h a rc) (U : Unt h a) (B : Fld Z h a "java/lang/Throwable" "backtrace" "Ljava/lang/Object;" .null) (F : Fld Z h a "java/lang/Throwable" "stackTrace" "[Ljava/lang/StackTraceElement;" (.ref u)) (S : Sta Z h "java/lang/Throwable" "UNASSIGNED_STACK" "[Ljava/lang/StackTraceElement;" (.ref u)) (ha : a ∈ fs) (hsz : Ls.size = maxL) (hd : decode bytes pc = .ok (.invokevirtual 27, 3)) (hf : 3 ≤ R.frames) (W : Nat) (hW : (St.map fun v => v.category).sum ≤ W) (hlo : W + 42 ≤ R.locals) (hc : k + 1 ≤ R.cells) (hn : n + 2752 ≤ R.slots)
    (K : ∀ h' old, Keep h h' [a] → Exa Z h' a rc → Fld Z h' a "java/lang/Throwable" "detailMessage" "Ljava/lang/String;" old → Go Z EL p l e R s m args below meth c n0 Q fs h' (k + 1) (n + 2752) (mkF m (pc + 3) Ls (.ref a :: St))) : Go Z EL p l e R s m args below meth c n0 Q fs h k n (mkF m pc Ls (.ref a :: St)) := by
  intro vm0 T locs X eT N I
  subst ho
  have hZ : Z.Warmed39 (s.setVm vm0).vm := I.hZ
  have hown : (s.setVm vm0).vm.findClass tN = some m.cls := C.hownAt I.hZ
  obtain ⟨k9, hS9, -⟩ := I.2.2.1
  have hal : s.vm.Alike vm0 := hS9.1.alike
  have w0 : ∀ d ∈ thW rc, d.before args (s.setVm vm0) = true := fun d hd => mvX (s := s.setVm vm0) hT0 hZ (List.all_eq_true.mp thW_ok d hd) (hr d hd)
  have w : ∀ d, d ∈ thW rc → d.holds args (s.setVm vm0) none (s.setVm vm0) [] = true := fun d hd => w0 d hd
  have htr : e.platform.stackTraces = true := by rw [X.admits.platform]; exact hst
  have hpl : e.platform.magicAccessors = ({} : Platform).magicAccessors := by rw [X.admits.platform]
  obtain ⟨Tc, L, fT, nF, nF0, gS, gU, tS⟩ := own_thr (args := args) (s := s.setVm vm0) (rc := rc) (pl := e.platform) (by rw [X.admits.platform]) (by rw [X.admits.platform]) hpl w0
  obtain ⟨cell, kZ, e1, e2, e3, e4, e5⟩ := id E
  obtain ⟨_, u1, u2, u3⟩ := id U
  cases e1.symm.trans u1
  obtain ⟨_, kz2, i1, i2, i3, _⟩ := Cond.instantiable_spec (C.hw wi)
  cases e2.symm.trans i1
  cases e3.symm.trans i2
  obtain ⟨kX, hk, he⟩ := hZ.alike.2.2 _ _ e3
  have hord : kX.kind = .ordinary := by rw [he]; exact i3
  have hsz2 : cell.slots.size = kX.instanceTypes.size := by rw [he]; exact e5 i3
  have hrc : (s.setVm vm0).vm.findClass rc = some cell.cls := by rw [hZ.alike.findClass]; exact e2
  have ride : ∀ {nm d : String} {v : Value} {f : Field} {c2 i2 : Nat} {k2 : Class}, Fld Z h a tN nm d v → (s.setVm vm0).fieldFound? tN nm d = some (c2, k2, i2, f) → cell.slots[f.slot]? = some v := fun {nm d v f c2 i2 k2} G g => by
    obtain ⟨_, cf3, k3, i3, f3, y1, y2, -, -, -, -, y7⟩ := G
    cases e1.symm.trans y1
    obtain ⟨k4, y8, -⟩ := State.fieldFound?_setVm hZ.alike y2
    have q := Option.some.inj ((show (s.setVm vm0).fieldFound? tN nm d = _ from y8).symm.trans g)
    have q2 : f3 = f := congrArg (fun z => z.2.2.2) q
    rw [← q2]; exact y7
  obtain ⟨a198, i198, fB, l198, r198, e198, s198, _, n198, t198, g198⟩ := Cond.ownField (t := .object "java/lang/Object") fT L.cls (by decide +kernel) (w (.fieldLink tN 198 tN "backtrace" obD) (List.mem_of_getElem? (i := 30) rfl)) (w (.lays tN tN "backtrace" obD) (List.mem_of_getElem? (i := 31) rfl)) e.platform hpl
  obtain ⟨_, _, cD, kD, iD, fD, _, _, gD, sD, _⟩ := Cond.lays_spec (w (.lays rc tN "depth" "I") (List.mem_of_getElem? (i := 36) rfl))
  obtain ⟨hkD, eD⟩ := State.fieldFound?_spec gD
  obtain rfl : cD = Tc.cT := Option.some.inj ((Cond.lays_declared (w (.lays rc tN "depth" "I") (List.mem_of_getElem? (i := 36) rfl)) gD).symm.trans fT)
  obtain rfl : kD = Tc.kT := Option.some.inj (hkD.symm.trans L.cls)
  obtain ⟨nD, tD⟩ := State.fieldFound?_type gD (t := .int) (by decide +kernel)
  have hfb := Cond.soleField_find fT L.cls (w (.soleField tN "backtrace") (List.mem_of_getElem? (i := 34) rfl)) e198 n198 s198
  have hfd := Cond.soleField_find fT L.cls (w (.soleField tN "depth") (List.mem_of_getElem? (i := 35) rfl)) eD nD sD
  obtain ⟨comp, cO, kO, -, -, hkO, hkindO, hO⟩ := Cond.arrayOver_spec (w (.arrayOver (.object "java/lang/Object")) (List.mem_of_getElem? (i := 33) rfl))
  obtain ⟨tyS, -⟩ := Cond.laysAt hrc hk gS (w (.lays rc tN "stackTrace" steD) (List.mem_of_getElem? (i := 27) rfl))
  obtain ⟨tyB, -⟩ := Cond.laysAt hrc hk g198 (w (.lays rc tN "backtrace" obD) (List.mem_of_getElem? (i := 32) rfl))
  obtain ⟨tyD, -⟩ := Cond.laysAt hrc hk gD (w (.lays rc tN "depth" "I") (List.mem_of_getElem? (i := 36) rfl))
  have tk : ∀ {f : Field} {v : Value}, kX.instanceTypes[f.slot]? = some f.type → fits f.type v = true → Jvm.Takes (s.setVm vm0) cell f v := fun {f v} h1 h2 => by
    obtain ⟨q1, q2⟩ := Takes.of_laid (v := v) hk hord h1 h2
    exact ⟨by rw [hsz2]; simpa using q1, by rw [u2]; exact q2⟩
  obtain ⟨cU, iU, kU, fU, st, cellS, z1, -, -, z4, z5, z6, z7⟩ := S
  obtain ⟨kU2, z8, hek⟩ := State.fieldFound?_setVm hZ.alike z1
  have qU := Option.some.inj ((show (s.setVm vm0).fieldFound? tN "UNASSIGNED_STACK" steD = _ from z8).symm.trans gU)
  have qf : fU = Tc.fUnassigned := congrArg (fun z => z.2.2.2) qU
  have qk : kU2 = Tc.kT := congrArg (fun z => z.2.1) qU
  have qs : Tc.aS = st := Option.some.inj (L.statics.symm.trans (by rw [← qk, hek]; exact z4))
  have hne : Tc.aS ≠ a := fun q => by
    rw [← qs, q] at z5
    cases z5.symm.trans e1
    rw [u2] at z6; cases z6
  have hsel0 : selectMethod e.platform (s.setVm vm0).vm cell.cls Tc.fill0 = .method Tc.fill0 := by
    obtain ⟨c2, r2, m2, q1, q2, q3, q4, -⟩ := Cond.selects_spec (w (.selects rc tFill0 tFill0) (List.mem_of_getElem? (i := 24) rfl))
    cases Option.some.inj (q1.symm.trans hrc)
    cases Option.some.inj (q2.symm.trans (State.methodFound?_of_named nF0 (by decide)))
    cases Option.some.inj (q3.symm.trans nF0)
    rw [Launch.admits_selectMethod X.admits]; exact q4
  have hSE := w0 (.selects rc tFill tFill) (List.mem_of_getElem? (i := 25) rfl)
  have hB := Jvm.Free.Str.fillPays (l := l) (R := R) (p := p) (e := e) (below := below) (s := s.setVm vm0) (sargs := args) (len := 3) (W := W) C.hx htr Tc L nF (u0 := ⟨.ref u, rfl⟩) (by intro q; cases q) (self := a) (cell := cell) (cellS := cellS) (fun _ q => by rw [u2] at q; cases q) (fun q => by rw [u2] at q; cases q) (by rw [u3]) (by rw [u3]) (ride F gS) hsel0 hne (fun q => by rw [q] at z6; cases z6) (by rw [← qf]; exact z7) (tk tyS (by rw [tS]; rfl))
    ⟨{ ci198 := a198, i198 := i198, fBack := fB }, ⟨l198, r198, e198, s198⟩, ride B g198⟩ (Vm.MethodsKnown.alikeC hal hTK) (Vm.FramesKnown.alikeC hal hBelow) fT hO hkO hkindO hfb hfd (fun x => tk tyB (by rw [t198]; rfl)) (fun x => tk tyD (by rw [tD]; rfl)) hf hlo
  obtain ⟨v6, vm6, ⟨T6, L6, c6, n6⟩, hW6, X6, ⟨hv6, vm7, lines, hli, hW7, hU6, hL6, hc6, hn6⟩, come⟩ := X.virtualBack C.hx (own := tN) (C := rc) (index := 27) (y := tFill) (z := tFill) hown (w0 (.methodLink tN 27 tFill) (List.mem_of_getElem? (i := 11) rfl)) (w0 (.declares tFill) (List.mem_of_getElem? (i := 23) rfl)) (notFace_of_selects hSE) hSE (w0 (.instanceMethod tFill) (List.mem_of_getElem? (i := 2) rfl)) (by decide) hB
    (b := a) (cB := cell.cls) hrc ⟨cell, by rw [eT]; exact e1, rfl, e4⟩ (g := mkF m pc Ls (.ref a :: St)) rfl (hsz.trans C.hml.symm) (Steps.refl _) (argsL := []) (rest := St)
    (fun sig q => by rw [show parseMethodDescriptor tFill.desc = some ⟨[], some (.object tN)⟩ from by decide +kernel] at q; rw [← Option.some.inj q]; rfl) rfl (by show 2 * 0 + _ ≤ _; omega) (hb C.hby hd)
    (fun vmx _ => ⟨rfl, hc, hn, by show T.heap[a]? = _; rw [eT]; exact e1, by show T.heap[Tc.aS]? = _; rw [eT, qs]; exact z5⟩)
  dsimp only [Pt.U, Pt.locs, Pt.cells, Pt.slots] at X6 hU6 hL6 hc6 hn6 come
  obtain ⟨Cn, hCn, k1, k2, k3⟩ : ∃ Cn : Cell, T6.heap = (h.push (traceHolder cO lines)).setIfInBounds a Cn ∧ Cn.cls = cell.cls ∧ Cn.vm = cell.vm ∧ Cn.slots.size = cell.slots.size := ⟨Jvm.Free.Str.filledOn Tc.toThrowableT fB fD cell ⟨.ref u, rfl⟩ T.heap.size lines.length.toInt32, by rw [hU6, ← eT]; rfl, rfl, rfl, by simp [Jvm.Free.Str.filledOn, Cell.setSlot]⟩
  have lt : a < h.size := (Array.getElem?_eq_some_iff.mp e1).1
  have atA : T6.heap[a]? = some Cn := by rw [hCn, Array.getElem?_setIfInBounds_self_of_lt (by rw [Array.size_push]; exact Nat.lt_succ_of_lt lt)]
  have off : ∀ x (cx : Cell), h[x]? = some cx → x ≠ a → T6.heap[x]? = some cx := fun x cx q ne => by
    rw [hCn, Array.getElem?_setIfInBounds_ne (Ne.symm ne), Array.getElem?_push, if_neg (Nat.ne_of_lt (Array.getElem?_eq_some_iff.mp q).1)]; exact q
  have KK : Keep h T6.heap [a] := ⟨by rw [hCn, Array.size_setIfInBounds, Array.size_push]; exact Nat.le_succ _, fun x cx q ne => off x cx q (fun z => ne (by rw [z]; exact List.mem_singleton_self a)), fun x cx q => by
    by_cases z : x = a
    · subst z
      cases q.symm.trans e1
      exact ⟨Cn, atA, k1, k2, k3⟩
    · exact ⟨cx, off x cx q z, rfl, rfl, rfl⟩⟩
  have E2 : Exa Z T6.heap a rc := E.keep KK
  obtain ⟨old, D2⟩ := fld_laid (O := tN) (n := "detailMessage") (d := msgD) E2 ⟨Cn, atA, by rw [k2, u2]; simp⟩ (C.hw wi) (Or.inl (hr _ (List.mem_of_getElem? (i := 29) rfl)))
  subst hL6 hc6 hn6 hv6
  obtain ⟨s2, o, st2, r'⟩ := K T6.heap old KK E2 D2 vm0 T6 _ (X6.more (Nat.le_refl _) (Nat.add_le_add_left (traceHolder_size_le cO hli) _)) rfl (N.app fun y hy => by
    have : y.base = a := by
      simp only [List.mem_cons, List.not_mem_nil, or_false] at hy
      rcases hy with rfl | rfl | rfl <;> rfl
    rw [this]; exact I.ge ha) (I.kept KK ha)
  exact ⟨s2, o, come.trans st2, r'⟩
end OwnF
end Jvm.OwnGo
/- laws to paste: Road.backV, Road.lenW, Road.chN (cut by pick.py; bodies as the Statement names them) -/
namespace Jvm.Pilot.@@N@@
namespace StrChars
open Jvm Sem ClassFile Op Lib Jvm.Stand Jvm.Free.XT Jvm.Free.ALB Jvm.Free.JM Jvm.Free
open Jvm.Lib.Cold (StaticIs)
/-- a char array whose places are chars -/
def Ch (a : Addr) (A : Cell) (U : State) : Prop := Arr .char a A U ∧ Typed .char A
theorem Ch.mv {a : Addr} {A : Cell} {U U' : State} (h : Ch a A U) (hal : U.vm.Alike U'.vm) (hh : U'.heap = U.heap) : Ch a A U' := ⟨h.1.mv hal hh, h.2⟩
theorem Ch.keep {a : Addr} {A : Cell} {U U' : State} (h : Ch a A U) (hal : U.vm.Alike U'.vm) (hk : U'.heap[a]? = some A) : Ch a A U' := ⟨h.1.keep hal hk, h.2⟩
/-- what place i of a char[]'s cell holds -/
def cv (A : Cell) (i : Nat) : Int32 := match A.slots[i]? with | some (.int x) => x | _ => 0
theorem Ch.get {a : Addr} {A : Cell} {U : State} (h : Ch a A U) {i : Nat} (hi : i < A.slots.size) : A.slots[i]? = some (.int (cv A i)) := by
  have e := Array.getElem?_eq_getElem hi
  have f := h.2 i _ e
  unfold cv; rw [e]
  generalize A.slots[i] = v at f
  cases v <;> simp [fits] at f ⊢
/-- the byte that i2b leaves of a char -/
def lo8 (x : Int32) : Int32 := x.toInt8.toInt32
theorem fits_lo8 (y : Int32) : fits .byte (.int (lo8 y)) = true := by
  have h1 := y.toInt8.le_toInt
  have h2 := y.toInt8.toInt_lt
  simp only [lo8, fits, Bool.and_eq_true, decide_eq_true_eq, Int32.le_iff_toInt_le, Int8.toInt_toInt32, show (-128 : Int32).toInt = -128 from by decide, show (127 : Int32).toInt = 127 from by decide]
  omega
/-- A' is A but that each place j of lo .. hi - 1 holds f j -/
def Laid (A A' : Cell) (lo hi : Nat) (f : Nat → Value) : Prop := A'.cls = A.cls ∧ A'.vm = A.vm ∧ A'.slots.size = A.slots.size ∧ ∀ i, A'.slots[i]? = if lo ≤ i ∧ i < hi then some (f i) else A.slots[i]?
theorem Laid.zero (A : Cell) (lo : Nat) (f : Nat → Value) : Laid A A lo (lo + 0) f := ⟨rfl, rfl, rfl, fun i => by rw [if_neg (by omega)]⟩
theorem Laid.step {A Ak : Cell} {lo k : Nat} {f : Nat → Value} {v : Value} (h : Laid A Ak lo k f) (hlo : lo ≤ k) (hk : k < Ak.slots.size) (hv : v = f k) : Laid A (Ak.setSlot k v) lo (k + 1) f := by
  refine ⟨h.1, h.2.1, by simpa [Cell.setSlot] using h.2.2.1, fun i => ?_⟩
  by_cases e : k = i
  · subst e; rw [Cell.slots_setSlot_self v hk, if_pos (by omega), hv]
  · rw [Cell.slots_setSlot_ne v e, h.2.2.2 i]
    by_cases q : lo ≤ i ∧ i < k
    · rw [if_pos q, if_pos (by omega)]
    · rw [if_neg q, if_neg (by omega)]
def U16 : String := "java/lang/StringUTF16"
namespace Cmp5
def yN : MethodName := ⟨"java/lang/StringUTF16", "compress", "([CI[BII)I"⟩
abbrev yB : ByteArray := jdk_52_method_21_code
theorem d0 : decode yB 0 = .ok (.iconst 0, 1) := by decide +kernel
theorem d1 : decode yB 1 = .ok (.istore 5, 2) := by decide +kernel
theorem d3 : decode yB 3 = .ok (.iload 5, 2) := by decide +kernel
theorem d5 : decode yB 5 = .ok (.iload 4, 2) := by decide +kernel
theorem d7 : decode yB 7 = .ok (.if_icmp (.ge) 37, 3) := by decide +kernel
theorem d10 : decode yB 10 = .ok (.aload_n 0, 1) := by decide +kernel
theorem d11 : decode yB 11 = .ok (.iload_n 1, 1) := by decide +kernel
theorem d12 : decode yB 12 = .ok (.caload, 1) := by decide +kernel
theorem d13 : decode yB 13 = .ok (.istore 6, 2) := by decide +kernel
theorem d15 : decode yB 15 = .ok (.iload 6, 2) := by decide +kernel
theorem d17 : decode yB 17 = .ok (.sipush 255, 3) := by decide +kernel
theorem d20 : decode yB 20 = .ok (.if_icmp (.le) 6, 3) := by decide +kernel
theorem d26 : decode yB 26 = .ok (.aload_n 2, 1) := by decide +kernel
theorem d27 : decode yB 27 = .ok (.iload_n 3, 1) := by decide +kernel
theorem d28 : decode yB 28 = .ok (.iload 6, 2) := by decide +kernel
theorem d30 : decode yB 30 = .ok (.i2b, 1) := by decide +kernel
theorem d31 : decode yB 31 = .ok (.bastore, 1) := by decide +kernel
theorem d32 : decode yB 32 = .ok (.iinc 1 1, 3) := by decide +kernel
theorem d35 : decode yB 35 = .ok (.iinc 3 1, 3) := by decide +kernel
theorem d38 : decode yB 38 = .ok (.iinc 5 1, 3) := by decide +kernel
theorem d41 : decode yB 41 = .ok (.goto (-38), 3) := by decide +kernel
theorem d44 : decode yB 44 = .ok (.iload 4, 2) := by decide +kernel
theorem d46 : decode yB 46 = .ok (.ireturn, 1) := by decide +kernel
def site : List Cond := []
def tab : Cond := tabOf yN yB 7 (some .int) site
def P (b : Addr) (A : Cell) (d : Addr) (B : Cell) (o q len : Nat) (args : Array Value) (s : State) : Prop := args = #[.ref b, .int (Int32.ofNat o), .ref d, .int (Int32.ofNat q), .int (Int32.ofNat len)] ∧ Ch b A s ∧ Arr .byte d B s ∧ b ≠ d ∧ o + len ≤ A.slots.size ∧ q + len ≤ B.slots.size ∧ ∀ i, i < len → ¬ 255 < cv A (o + i)
def E (b : Addr) (A : Cell) (d : Addr) (B : Cell) (o q len : Nat) (r : Option Value) (s u : State) : Prop := r = some (.int (Int32.ofNat len)) ∧ ∃ B', Put d B' s u ∧ Laid B B' q (q + len) (fun j => Value.int (lo8 (cv A (o + (j - q)))))
/-- no char of the range above 255: len; the places written hold each char's low byte -/
theorem law (l : Launch) (b : Addr) (A : Cell) (d : Addr) (B : Cell) (o q len : Nat) : Law l yN 5 5 0 0 yB 7 (some .int) site (P b A d B o q len) (E b A d B o q len) (copyLocs d q len) 0 0 := by
  refine Law.of_walk (plainFor_of_name (by decide +kernel)) (by decide +kernel) (by decide +kernel) (by decide) (fun _ _ h => by rw [h.1]; rfl) (fun _ U U' hal hh h => ⟨h.1, h.2.1.mv hal hh, h.2.2.1.mv hal hh, h.2.2.2⟩) (fun r U U' V V' h1 hal h2 h => ⟨h.1, h.2.elim fun B' q => ⟨B', q.1.mv h1 h2, q.2⟩⟩) ?_
  intro p e s m args below meth c s₁ X0 hexec hbytes hml hret hlk hnm hown hh0 W hP
  obtain ⟨rfl, hA, hB, hne, l1, l2, hp⟩ := hP
  have c1 : Steps p.tables e below (s₁.setTop (entryFrame m #[.ref b, .int (Int32.ofNat o), .ref d, .int (Int32.ofNat q), .int (Int32.ofNat len)] 7)) (s₁.setTop (mkF m 0 #[.val (.ref b), .val (.int (Int32.ofNat o)), .val (.ref d), .val (.int (Int32.ofNat q)), .val (.int (Int32.ofNat len)), .unset, .unset] [])) := entry rfl
  have hA0 := hA.1.mv X0.warmed.alike hh0
  have hB0 := hB.mv X0.warmed.alike hh0
  have a31 := hA.1.2.2.2
  have c2 : Steps p.tables e below (s₁.setTop (entryFrame m #[.ref b, .int (Int32.ofNat o), .ref d, .int (Int32.ofNat q), .int (Int32.ofNat len)] 7)) (s₁.setTop (mkF m 3 #[.val (.ref b), .val (.int (Int32.ofNat o)), .val (.ref d), .val (.int (Int32.ofNat q)), .val (.int (Int32.ofNat len)), .val (.int 0), .unset] [])) := c1.trans (by
    refine iconstV X0.here hexec rfl 0 (hb hbytes d0) (by decide) ?_
    refine XS.istore X0.here hexec rfl (hb hbytes d1) rfl rfl ?_
    exact Steps.refl _)
  have loop : ∀ (r i : Nat), i + r = len → ∀ (z : Slot), (z = .unset ∨ ∃ w, z = .val w ∧ w.category = 1) → ∀ (Tl : State) (Bk : Cell), Stand p l e { frames := 0, locals := 0, cells := 0, slots := 0 } s m #[.ref b, .int (Int32.ofNat o), .ref d, .int (Int32.ofNat q), .int (Int32.ofNat len)] below meth c Tl ([] ++ copyLocs d q i) 0 0 → Put d Bk s₁ Tl → Laid B Bk q (q + i) (fun j => Value.int (lo8 (cv A (o + (j - q))))) →
      Steps p.tables e below (s₁.setTop (entryFrame m #[.ref b, .int (Int32.ofNat o), .ref d, .int (Int32.ofNat q), .int (Int32.ofNat len)] 7)) (Tl.setTop (mkF m 3 #[.val (.ref b), .val (.int (Int32.ofNat (o + i))), .val (.ref d), .val (.int (Int32.ofNat (q + i))), .val (.int (Int32.ofNat len)), .val (.int (Int32.ofNat i)), z] [])) → ∃ (T' : State) (B' : Cell) (z' : Slot), Stand p l e { frames := 0, locals := 0, cells := 0, slots := 0 } s m #[.ref b, .int (Int32.ofNat o), .ref d, .int (Int32.ofNat q), .int (Int32.ofNat len)] below meth c T' ([] ++ copyLocs d q len) 0 0 ∧ Put d B' s₁ T' ∧ Laid B B' q (q + len) (fun j => Value.int (lo8 (cv A (o + (j - q))))) ∧
      Steps p.tables e below (s₁.setTop (entryFrame m #[.ref b, .int (Int32.ofNat o), .ref d, .int (Int32.ofNat q), .int (Int32.ofNat len)] 7)) (T'.setTop (mkF m 3 #[.val (.ref b), .val (.int (Int32.ofNat (o + len))), .val (.ref d), .val (.int (Int32.ofNat (q + len))), .val (.int (Int32.ofNat len)), .val (.int (Int32.ofNat len)), z'] [])) := by
    intro r
    induction r with
    | zero =>
      intro i hi z hz Tl Bk Xl pl fl cl
      have hil : i = len := by omega
      rw [hil] at Xl fl cl
      exact ⟨Tl, Bk, z, Xl, pl, fl, cl⟩
    | succ r ih =>
      intro i hi z hz Tl Bk Xl pl fl cl
      have all := X0.warmed.alike.symm.trans Xl.warmed.alike
      have hAl := hA0.keep all (pl.other hne hA0.1)
      have hBk := hB0.like all pl.1 fl.1 fl.2.1 fl.2.2.1
      have hlt : q + i < Bk.slots.size := by rw [fl.2.2.1]; omega
      have c3 : Steps p.tables e below (s₁.setTop (entryFrame m #[.ref b, .int (Int32.ofNat o), .ref d, .int (Int32.ofNat q), .int (Int32.ofNat len)] 7)) (Tl.setTop (mkF m 12 #[.val (.ref b), .val (.int (Int32.ofNat (o + i))), .val (.ref d), .val (.int (Int32.ofNat (q + i))), .val (.int (Int32.ofNat len)), .val (.int (Int32.ofNat i)), z] [.int (Int32.ofNat (o + i)), .ref b])) := cl.trans (by
        refine XS.iload Xl.here hexec rfl (hb hbytes d3) rfl ?_
        refine XS.iload Xl.here hexec rfl (hb hbytes d5) rfl ?_
        refine XS.icmpNo Xl.here hexec rfl (hb hbytes d7) rfl (ii_ge_f (lt32 (by omega) (by omega))) ?_
        refine XS.aloadN Xl.here hexec rfl (hb hbytes d10) rfl rfl ?_
        refine XS.iloadN Xl.here hexec rfl (hb hbytes d11) rfl ?_
        exact Steps.refl _)
      have c4 : Steps p.tables e below (s₁.setTop (entryFrame m #[.ref b, .int (Int32.ofNat o), .ref d, .int (Int32.ofNat q), .int (Int32.ofNat len)] 7)) (Tl.setTop (mkF m 13 #[.val (.ref b), .val (.int (Int32.ofNat (o + i))), .val (.ref d), .val (.int (Int32.ofNat (q + i))), .val (.int (Int32.ofNat len)), .val (.int (Int32.ofNat i)), z] [.int (cv A (o + i))])) := c3.trans (by
        refine Xl.aget hexec hAl rfl (hA.get (i := o + i) (by omega)) rfl rfl (hb hbytes d12) ?_
        exact Steps.refl _)
      have c5 : Steps p.tables e below (s₁.setTop (entryFrame m #[.ref b, .int (Int32.ofNat o), .ref d, .int (Int32.ofNat q), .int (Int32.ofNat len)] 7)) (Tl.setTop (mkF m 15 #[.val (.ref b), .val (.int (Int32.ofNat (o + i))), .val (.ref d), .val (.int (Int32.ofNat (q + i))), .val (.int (Int32.ofNat len)), .val (.int (Int32.ofNat i)), .val (.int (cv A (o + i)))] [])) := c4.trans (by
        refine XS.istoreS Xl.here hexec rfl (hb hbytes d13) rfl rfl hz ?_
        exact Steps.refl _)
      have c6 : Steps p.tables e below (s₁.setTop (entryFrame m #[.ref b, .int (Int32.ofNat o), .ref d, .int (Int32.ofNat q), .int (Int32.ofNat len)] 7)) (Tl.setTop (mkF m 31 #[.val (.ref b), .val (.int (Int32.ofNat (o + i))), .val (.ref d), .val (.int (Int32.ofNat (q + i))), .val (.int (Int32.ofNat len)), .val (.int (Int32.ofNat i)), .val (.int (cv A (o + i)))] [.int (lo8 (cv A (o + i))), .int (Int32.ofNat (q + i)), .ref d])) := c5.trans (by
        refine XS.iload Xl.here hexec rfl (hb hbytes d15) rfl ?_
        refine sipushV Xl.here hexec rfl 255 (hb hbytes d17) (by decide) ?_
        refine XS.icmpYes Xl.here hexec rfl (pc0 := 20) rfl (hb hbytes d20) rfl (ii_le_t (hp i (by omega))) (by decide) rfl ?_
        refine XS.aloadN Xl.here hexec rfl (hb hbytes d26) rfl rfl ?_
        refine XS.iloadN Xl.here hexec rfl (hb hbytes d27) rfl ?_
        refine XS.iload Xl.here hexec rfl (hb hbytes d28) rfl ?_
        refine i2b Xl.here hexec rfl (hb hbytes d30) rfl ?_
        exact Steps.refl _)
      obtain ⟨T7, X7, p7, st7⟩ := Xl.aput hexec hBk rfl hlt rfl (fits_lo8 (cv A (o + i))) (g := (mkF m 31 #[.val (.ref b), .val (.int (Int32.ofNat (o + i))), .val (.ref d), .val (.int (Int32.ofNat (q + i))), .val (.int (Int32.ofNat len)), .val (.int (Int32.ofNat i)), .val (.int (cv A (o + i)))] [.int (lo8 (cv A (o + i))), .int (Int32.ofNat (q + i)), .ref d])) rfl (rest := []) rfl (hb hbytes d31)
      have c8 : Steps p.tables e below (s₁.setTop (entryFrame m #[.ref b, .int (Int32.ofNat o), .ref d, .int (Int32.ofNat q), .int (Int32.ofNat len)] 7)) (T7.setTop (mkF m 32 #[.val (.ref b), .val (.int (Int32.ofNat (o + i))), .val (.ref d), .val (.int (Int32.ofNat (q + i))), .val (.int (Int32.ofNat len)), .val (.int (Int32.ofNat i)), .val (.int (cv A (o + i)))] [])) := c6.trans (st7 _ (Steps.refl _))
      have c9 : Steps p.tables e below (s₁.setTop (entryFrame m #[.ref b, .int (Int32.ofNat o), .ref d, .int (Int32.ofNat q), .int (Int32.ofNat len)] 7)) (T7.setTop (mkF m 3 #[.val (.ref b), .val (.int (Int32.ofNat (o + i) + 1)), .val (.ref d), .val (.int (Int32.ofNat (q + i) + 1)), .val (.int (Int32.ofNat len)), .val (.int (Int32.ofNat i + 1)), .val (.int (cv A (o + i)))] [])) := c8.trans (by
        refine iincV X7.here hexec rfl 1 (hb hbytes d32) (by decide) rfl rfl ?_
        refine iincV X7.here hexec rfl 1 (hb hbytes d35) (by decide) rfl rfl ?_
        refine iincV X7.here hexec rfl 1 (hb hbytes d38) (by decide) rfl rfl ?_
        refine XS.goto X7.here hexec rfl (pc0 := 41) rfl (hb hbytes d41) (by decide) rfl ?_
        exact Steps.refl _)
      have c10 : Steps p.tables e below (s₁.setTop (entryFrame m #[.ref b, .int (Int32.ofNat o), .ref d, .int (Int32.ofNat q), .int (Int32.ofNat len)] 7)) (T7.setTop (mkF m 3 #[.val (.ref b), .val (.int (Int32.ofNat (o + (i + 1)))), .val (.ref d), .val (.int (Int32.ofNat (q + (i + 1)))), .val (.int (Int32.ofNat len)), .val (.int (Int32.ofNat (i + 1))), .val (.int (cv A (o + i)))] [])) := by
        have := c9
        rw [succ32, succ32, succ32] at this
        exact this
      exact ih (i + 1) (by omega) _ (Or.inr ⟨_, rfl, rfl⟩) T7 _ (by rw [copyLocs_step, ← List.append_assoc]; exact X7) (pl.trans p7) (fl.step (by omega) hlt (by simp)) c10
  obtain ⟨T9, B9, z9, X9, p9, f9, g9⟩ := loop len 0 (by omega) .unset (Or.inl rfl) s₁ B (by simpa [copyLocs] using X0) ⟨hB0.1, fun _ _ => rfl, rfl⟩ (Laid.zero _ _ _) c2
  have c11 : Steps p.tables e below (s₁.setTop (entryFrame m #[.ref b, .int (Int32.ofNat o), .ref d, .int (Int32.ofNat q), .int (Int32.ofNat len)] 7)) (T9.setTop (mkF m 46 #[.val (.ref b), .val (.int (Int32.ofNat (o + len))), .val (.ref d), .val (.int (Int32.ofNat (q + len))), .val (.int (Int32.ofNat len)), .val (.int (Int32.ofNat len)), z9] [.int (Int32.ofNat len)])) := g9.trans (by
    refine XS.iload X9.here hexec rfl (hb hbytes d3) rfl ?_
    refine XS.iload X9.here hexec rfl (hb hbytes d5) rfl ?_
    refine XS.icmpYes X9.here hexec rfl (pc0 := 7) rfl (hb hbytes d7) rfl (ii_ge_t (nlt32 (by omega) (Nat.le_refl _))) (by decide) rfl ?_
    refine XS.iload X9.here hexec rfl (hb hbytes d44) rfl ?_
    exact Steps.refl _)
  exact ⟨T9, some (.int (Int32.ofNat len)), _, _, _, X9, by simp, rfl, rfl, (fun h => by cases h), ⟨rfl, B9, p9.from hh0, f9⟩, fun fs hl => c11.trans (X9.ireturnOut hexec hret rfl (Or.inl rfl) (hb hbytes d46) hl)⟩
end Cmp5
namespace Cmp3
def yN : MethodName := ⟨"java/lang/StringUTF16", "compress", "([CII)[B"⟩
abbrev yB : ByteArray := jdk_52_method_16_code
theorem d0 : decode yB 0 = .ok (.iload_n 2, 1) := by decide +kernel
theorem d1 : decode yB 1 = .ok (.newarray .byte, 2) := by decide +kernel
theorem d3 : decode yB 3 = .ok (.astore_n 3, 1) := by decide +kernel
theorem d4 : decode yB 4 = .ok (.aload_n 0, 1) := by decide +kernel
theorem d5 : decode yB 5 = .ok (.iload_n 1, 1) := by decide +kernel
theorem d6 : decode yB 6 = .ok (.aload_n 3, 1) := by decide +kernel
theorem d7 : decode yB 7 = .ok (.iconst 0, 1) := by decide +kernel
theorem d8 : decode yB 8 = .ok (.iload_n 2, 1) := by decide +kernel
theorem d9 : decode yB 9 = .ok (.invokestatic 115, 3) := by decide +kernel
theorem d12 : decode yB 12 = .ok (.istore 4, 2) := by decide +kernel
theorem d14 : decode yB 14 = .ok (.iload 4, 2) := by decide +kernel
theorem d16 : decode yB 16 = .ok (.iload_n 2, 1) := by decide +kernel
theorem d17 : decode yB 17 = .ok (.if_icmp (.eq) 40, 3) := by decide +kernel
theorem d57 : decode yB 57 = .ok (.aload_n 3, 1) := by decide +kernel
theorem d58 : decode yB 58 = .ok (.areturn, 1) := by decide +kernel
def site : List Cond := [.arrayClass .byte, Cmp5.tab] ++ staticW U16 115 Cmp5.yN
def tab : Cond := tabOf yN yB 6 (some (.array .byte)) site
def P (b : Addr) (A : Cell) (o len : Nat) (args : Array Value) (s : State) : Prop := args = #[.ref b, .int (Int32.ofNat o), .int (Int32.ofNat len)] ∧ Ch b A s ∧ o + len ≤ A.slots.size ∧ len ≤ 536870912 ∧ ∀ i, i < len → ¬ 255 < cv A (o + i)
def E (b : Addr) (A : Cell) (o len : Nat) (r : Option Value) (s u : State) : Prop := NewArr .byte "[B" len (fun j => .int (lo8 (cv A (o + j)))) r s u ∧ u.heap.size = s.heap.size + 1
/-- no char of the range above 255: a new byte[] of their low bytes -/
theorem law (l : Launch) (b : Addr) (A : Cell) (o len : Nat) : Law l yN 3 3 1 18 yB 6 (some (.array .byte)) site (P b A o len) (E b A o len) [] 1 len := by
  refine Law.of_walk (plainFor_of_name (by decide +kernel)) (by decide +kernel) (by decide +kernel) (by decide) (fun _ _ h => by rw [h.1]; rfl) (fun _ U U' hal hh h => ⟨h.1, h.2.1.mv hal hh, h.2.2⟩) (fun r U U' V V' h1 hal h2 h => ⟨NewArr.mv r U U' V V' h1 hal h2 h.1, by rw [h1, h2]; exact h.2⟩) ?_
  intro p e s m args below meth c s₁ X0 hexec hbytes hml hret hlk hnm hown hh0 W hP
  obtain ⟨rfl, hA, l1, l2, hp⟩ := hP
  have a31 := hA.1.2.2.2
  have c1 : Steps p.tables e below (s₁.setTop (entryFrame m #[.ref b, .int (Int32.ofNat o), .int (Int32.ofNat len)] 6)) (s₁.setTop (mkF m 0 #[.val (.ref b), .val (.int (Int32.ofNat o)), .val (.int (Int32.ofNat len)), .unset, .unset, .unset] [])) := entry rfl
  have c2 : Steps p.tables e below (s₁.setTop (entryFrame m #[.ref b, .int (Int32.ofNat o), .int (Int32.ofNat len)] 6)) (s₁.setTop (mkF m 1 #[.val (.ref b), .val (.int (Int32.ofNat o)), .val (.int (Int32.ofNat len)), .unset, .unset, .unset] [.int (Int32.ofNat len)])) := c1.trans (by
    refine XS.iloadN X0.here hexec rfl (hb hbytes d0) rfl ?_
    exact Steps.refl _)
  obtain ⟨T3, B3, X3, ba3, bs3, bv3, bh3, bf3, st3⟩ := X0.anew hexec (atype := .byte) (wk W (.arrayClass .byte)) rfl (by show len * 1 ≤ _; omega) (by omega) (g := (mkF m 1 #[.val (.ref b), .val (.int (Int32.ofNat o)), .val (.int (Int32.ofNat len)), .unset, .unset, .unset] [.int (Int32.ofNat len)])) rfl (hb hbytes d1) (rest := []) rfl (Nat.le_refl _) (by show 0 + len ≤ len; omega)
  rw [hh0] at ba3 st3
  have kp3 : XT.Kept s T3 := (XT.Kept.of_eq hh0).push bh3
  have hA3 := hA.keep X3.warmed.alike (kp3 _ _ hA.1.1)
  have hne : b ≠ s.heap.size := hA.1.ne
  have c4 : Steps p.tables e below (s₁.setTop (entryFrame m #[.ref b, .int (Int32.ofNat o), .int (Int32.ofNat len)] 6)) (T3.setTop (mkF m 3 #[.val (.ref b), .val (.int (Int32.ofNat o)), .val (.int (Int32.ofNat len)), .unset, .unset, .unset] [.ref s.heap.size])) := c2.trans (st3 _ (Steps.refl _))
  have c5 : Steps p.tables e below (s₁.setTop (entryFrame m #[.ref b, .int (Int32.ofNat o), .int (Int32.ofNat len)] 6)) (T3.setTop (mkF m 9 #[.val (.ref b), .val (.int (Int32.ofNat o)), .val (.int (Int32.ofNat len)), .val (.ref s.heap.size), .unset, .unset] [.int (Int32.ofNat len), .int 0, .ref s.heap.size, .int (Int32.ofNat o), .ref b])) := c4.trans (by
    refine XS.astoreN X3.here hexec rfl (hb hbytes d3) rfl rfl rfl ?_
    refine XS.aloadN X3.here hexec rfl (hb hbytes d4) rfl rfl ?_
    refine XS.iloadN X3.here hexec rfl (hb hbytes d5) rfl ?_
    refine XS.aloadN X3.here hexec rfl (hb hbytes d6) rfl rfl ?_
    refine iconstV X3.here hexec rfl 0 (hb hbytes d7) (by decide) ?_
    refine XS.iloadN X3.here hexec rfl (hb hbytes d8) rfl ?_
    exact Steps.refl _)
  obtain ⟨v6, T6, X6, E6, g6⟩ := X3.callS hexec (Cmp5.law l b A s.heap.size B3 o 0 len) hown (wks W (staticW U16 115 Cmp5.yN)) (wk W Cmp5.tab) (W := 0) (Nat.le_of_ble_eq_true rfl) (Nat.le_of_ble_eq_true rfl) (Nat.le_refl _) (by show 0 + len + 0 ≤ len; omega) (g := (mkF m 9 #[.val (.ref b), .val (.int (Int32.ofNat o)), .val (.int (Int32.ofNat len)), .val (.ref s.heap.size), .unset, .unset] [.int (Int32.ofNat len), .int (Int32.ofNat 0), .ref s.heap.size, .int (Int32.ofNat o), .ref b])) rfl (by rw [hml]; rfl) c5 (argsL := [.ref b, .int (Int32.ofNat o), .ref s.heap.size, .int (Int32.ofNat 0), .int (Int32.ofNat len)]) (rest := []) rfl rfl (by show 2 * 0 + 0 ≤ _; decide) (hb hbytes d9) (⟨rfl, hA3, ba3, hne, l1, by rw [bs3]; simp, hp⟩)
  obtain ⟨rfl, B6, p6, f6⟩ := E6
  have c7 : Steps p.tables e below (s₁.setTop (entryFrame m #[.ref b, .int (Int32.ofNat o), .int (Int32.ofNat len)] 6)) (T6.setTop (mkF m 12 #[.val (.ref b), .val (.int (Int32.ofNat o)), .val (.int (Int32.ofNat len)), .val (.ref s.heap.size), .unset, .unset] [.int (Int32.ofNat len)])) := g6
  have c8 : Steps p.tables e below (s₁.setTop (entryFrame m #[.ref b, .int (Int32.ofNat o), .int (Int32.ofNat len)] 6)) (T6.setTop (mkF m 58 #[.val (.ref b), .val (.int (Int32.ofNat o)), .val (.int (Int32.ofNat len)), .val (.ref s.heap.size), .val (.int (Int32.ofNat len)), .unset] [.ref s.heap.size])) := c7.trans (by
    refine XS.istore X6.here hexec rfl (hb hbytes d12) rfl rfl ?_
    refine XS.iload X6.here hexec rfl (hb hbytes d14) rfl ?_
    refine XS.iloadN X6.here hexec rfl (hb hbytes d16) rfl ?_
    refine XS.icmpYes X6.here hexec rfl (pc0 := 17) rfl (hb hbytes d17) rfl (ii_eq_t rfl) (by decide) rfl ?_
    refine XS.aloadN X6.here hexec rfl (hb hbytes d57) rfl rfl ?_
    exact Steps.refl _)
  have X8 := X6.wide (L' := []) (cells' := 1) (slots' := len) (fun x hx hlt => by
    simp only [List.nil_append, copyLocs, List.mem_map, List.mem_range] at hx
    obtain ⟨i, -, rfl⟩ := hx
    exact absurd hlt (Nat.lt_irrefl _)) (Nat.le_refl _) (by omega)
  exact ⟨T6, some (.ref s.heap.size), _, _, _, X8, rfl, rfl, rfl, (fun h => by cases h), ⟨⟨rfl, B6, ba3.like (X3.warmed.alike.symm.trans X6.warmed.alike) p6.1 f6.1 f6.2.1 f6.2.2.1, f6.2.1.trans bv3, by rw [X6.warmed.alike.findClass, f6.1]; exact bf3, by rw [f6.2.2.1, bs3]; simp, fun j hj => by rw [f6.2.2.2 j, if_pos (by omega)]; rfl, kp3.put p6 (Nat.le_refl _)⟩, by rw [p6.2.2, bh3, hh0]; simp⟩, fun fs hl => c8.trans (X8.areturnOut hexec rfl hret rfl (hb hbytes d58) hl)⟩
end Cmp3
namespace CodL
def yN : MethodName := ⟨"java/lang/StringUTF16", "coderFromArrayLen", "([BI)B"⟩
abbrev yB : ByteArray := jdk_52_method_15_code
theorem d0 : decode yB 0 = .ok (.iload_n 1, 1) := by decide +kernel
theorem d1 : decode yB 1 = .ok (.aload_n 0, 1) := by decide +kernel
theorem d2 : decode yB 2 = .ok (.arraylength, 1) := by decide +kernel
theorem d3 : decode yB 3 = .ok (.isub, 1) := by decide +kernel
theorem d4 : decode yB 4 = .ok (.bipush 31, 2) := by decide +kernel
theorem d6 : decode yB 6 = .ok (.iushr, 1) := by decide +kernel
theorem d7 : decode yB 7 = .ok (.i2b, 1) := by decide +kernel
theorem d8 : decode yB 8 = .ok (.ireturn, 1) := by decide +kernel
def site : List Cond := []
def tab : Cond := tabOf yN yB 2 (some .byte) site
def P (d : Addr) (B : Cell) (args : Array Value) (s : State) : Prop := args = #[.ref d, .int (Int32.ofNat B.slots.size)] ∧ Arr .byte d B s
def E (r : Option Value) (s u : State) : Prop := XT.PureE (some (.int 0)) r s u
/-- an array as long as the number of chars: LATIN1 -/
theorem law (l : Launch) (d : Addr) (B : Cell) : Law l yN 2 2 0 0 yB 2 (some .byte) site (P d B) E [] 0 0 := by
  refine Law.of_walk (plainFor_of_name (by decide +kernel)) (by decide +kernel) (by decide +kernel) (by decide) (fun _ _ h => by rw [h.1]; rfl) (fun _ U U' hal hh h => ⟨h.1, h.2.mv hal hh⟩) (fun r U U' V V' h1 hal h2 h => XT.PureE.mv r U U' V V' h1 hal h2 h) ?_
  intro p e s m args below meth c s₁ X0 hexec hbytes hml hret hlk hnm hown hh0 W hP
  obtain ⟨rfl, hB⟩ := hP
  have hB0 := hB.mv X0.warmed.alike hh0
  have c1 : Steps p.tables e below (s₁.setTop (entryFrame m #[.ref d, .int (Int32.ofNat B.slots.size)] 2)) (s₁.setTop (mkF m 0 #[.val (.ref d), .val (.int (Int32.ofNat B.slots.size))] [])) := entry rfl
  have c2 : Steps p.tables e below (s₁.setTop (entryFrame m #[.ref d, .int (Int32.ofNat B.slots.size)] 2)) (s₁.setTop (mkF m 2 #[.val (.ref d), .val (.int (Int32.ofNat B.slots.size))] [.ref d, .int (Int32.ofNat B.slots.size)])) := c1.trans (by
    refine XS.iloadN X0.here hexec rfl (hb hbytes d0) rfl ?_
    refine XS.aloadN X0.here hexec rfl (hb hbytes d1) rfl rfl ?_
    exact Steps.refl _)
  have c3 : Steps p.tables e below (s₁.setTop (entryFrame m #[.ref d, .int (Int32.ofNat B.slots.size)] 2)) (s₁.setTop (mkF m 8 #[.val (.ref d), .val (.int (Int32.ofNat B.slots.size))] [.int (lo8 (ushr (Int32.ofNat B.slots.size - Int32.ofNat B.slots.size) 31))])) := c2.trans (by
    refine X0.alen hexec hB0 rfl rfl (hb hbytes d2) ?_
    refine XS.isub X0.here hexec rfl (hb hbytes d3) rfl ?_
    refine bipushV X0.here hexec rfl 31 (hb hbytes d4) (by decide) ?_
    refine iushr X0.here hexec rfl (hb hbytes d6) rfl ?_
    refine i2b X0.here hexec rfl (hb hbytes d7) rfl ?_
    exact Steps.refl _)
  have e0 : lo8 (ushr (Int32.ofNat B.slots.size - Int32.ofNat B.slots.size) 31) = 0 := by rw [Int32.sub_self]; decide
  rw [e0] at c3
  exact ⟨s₁, some (.int 0), _, _, _, X0, rfl, rfl, rfl, (fun h => by cases h), ⟨rfl, hh0⟩, fun fs hl => c3.trans (X0.ireturnOut hexec hret rfl (Or.inr (Or.inr (Or.inl rfl))) (hb hbytes d8) hl)⟩
end CodL
/-- the String at a is Latin-1 over a new byte[] (the heap's one new cell): the low bytes of the len chars of A from o on; every cell but a is kept -/
def Got (a : Addr) (D : Cell) (fV fC : Field) (A : Cell) (o len : Nat) (r : Option Value) (s u : State) : Prop := r = none ∧ ∃ D' V : Cell, Blank "java/lang/String" a D' u ∧ Same D D' [fV.slot, fC.slot] ∧ D'.slots[fV.slot]? = some (.ref s.heap.size) ∧ D'.slots[fC.slot]? = some (.int 0) ∧ Arr .byte s.heap.size V u ∧ V.vm = .none ∧ u.vm.findClass "[B" = some V.cls ∧ V.slots.size = len ∧ (∀ j, j < len → V.slots[j]? = some (.int (lo8 (cv A (o + j))))) ∧ (∀ (y : Addr) (c : Cell), y ≠ a → s.heap[y]? = some c → u.heap[y]? = some c) ∧ u.heap.size = s.heap.size + 1
theorem Got.mv {a : Addr} {D A : Cell} {fV fC : Field} {o len : Nat} : ∀ r (U U' V V' : State), U'.heap = U.heap → V.vm.Alike V'.vm → V'.heap = V.heap → Got a D fV fC A o len r U V → Got a D fV fC A o len r U' V' :=
  fun r U U' V V' h1 hal h2 ⟨e0, D', X, a1, a2, a3, a4, a5, a6, a7, a8, a9, a10, a11⟩ => ⟨e0, D', X, a1.mv hal h2, a2, by rw [h1]; exact a3, a4, by rw [h1]; exact a5.mv hal h2, a6, by rw [hal.findClass]; exact a7, a8, a9, by rw [h1, h2]; exact a10, by rw [h1, h2]; exact a11⟩
namespace New4
def yN : MethodName := ⟨"java/lang/String", "<init>", "([CIILjava/lang/Void;)V"⟩
abbrev yB : ByteArray := jdk_42_method_149_code
theorem d0 : decode yB 0 = .ok (.aload_n 0, 1) := by decide +kernel
theorem d1 : decode yB 1 = .ok (.invokespecial 1, 3) := by decide +kernel
theorem d4 : decode yB 4 = .ok (.iload_n 3, 1) := by decide +kernel
theorem d5 : decode yB 5 = .ok (.ifCond (.ne) 22, 3) := by decide +kernel
theorem d27 : decode yB 27 = .ok (.getstatic 38, 3) := by decide +kernel
theorem d30 : decode yB 30 = .ok (.ifCond (.eq) 28, 3) := by decide +kernel
theorem d33 : decode yB 33 = .ok (.aload_n 1, 1) := by decide +kernel
theorem d34 : decode yB 34 = .ok (.iload_n 2, 1) := by decide +kernel
theorem d35 : decode yB 35 = .ok (.iload_n 3, 1) := by decide +kernel
theorem d36 : decode yB 36 = .ok (.invokestatic 177, 3) := by decide +kernel
theorem d39 : decode yB 39 = .ok (.astore 5, 2) := by decide +kernel
theorem d41 : decode yB 41 = .ok (.aload_n 0, 1) := by decide +kernel
theorem d42 : decode yB 42 = .ok (.aload 5, 2) := by decide +kernel
theorem d44 : decode yB 44 = .ok (.iload_n 3, 1) := by decide +kernel
theorem d45 : decode yB 45 = .ok (.invokestatic 47, 3) := by decide +kernel
theorem d48 : decode yB 48 = .ok (.putfield 15, 3) := by decide +kernel
theorem d51 : decode yB 51 = .ok (.aload_n 0, 1) := by decide +kernel
theorem d52 : decode yB 52 = .ok (.aload 5, 2) := by decide +kernel
theorem d54 : decode yB 54 = .ok (.putfield 9, 3) := by decide +kernel
theorem d57 : decode yB 57 = .ok (.return_, 1) := by decide +kernel
def site : List Cond := [.fieldLink "java/lang/String" 38 "java/lang/String" "COMPACT_STRINGS" "Z", Cmp3.tab, CodL.tab, .laysFinal "java/lang/String" "java/lang/String" "value" "[B", .fieldLink "java/lang/String" 9 "java/lang/String" "value" "[B", .laysFinal "java/lang/String" "java/lang/String" "coder" "B", .fieldLink "java/lang/String" 15 "java/lang/String" "coder" "B"] ++ objW "java/lang/String" 1 ++ staticW "java/lang/String" 177 Cmp3.yN ++ staticW "java/lang/String" 47 CodL.yN
def tab : Cond := tabOf yN yB 6 none site
def P (a : Addr) (D : Cell) (fV fC : Field) (b : Addr) (A : Cell) (z : Int32) (o len : Nat) (args : Array Value) (s : State) : Prop := args = #[.ref a, .ref b, .int (Int32.ofNat o), .int (Int32.ofNat len), .null] ∧ Blank "java/lang/String" a D s ∧ Found "java/lang/String" "value" "[B" fV s ∧ Found "java/lang/String" "coder" "B" fC s ∧ Ch b A s ∧ StaticIs s "java/lang/String" "COMPACT_STRINGS" "Z" (.int z) ∧ ¬ z = 0 ∧ 0 < len ∧ o + len ≤ A.slots.size ∧ len ≤ 536870912 ∧ ∀ i, i < len → ¬ 255 < cv A (o + i)
def E (a : Addr) (D : Cell) (fV fC : Field) (A : Cell) (o len : Nat) (r : Option Value) (s u : State) : Prop := Got a D fV fC A o len r s u
/-- len > 0, no char of the range above 255: a Latin-1 String of their low bytes -/
theorem law (l : Launch) (a : Addr) (D : Cell) (fV fC : Field) (b : Addr) (A : Cell) (z : Int32) (o len : Nat) : Law l yN 5 4 2 35 yB 6 none site (P a D fV fC b A z o len) (E a D fV fC A o len) [⟨a, fC.slot⟩, ⟨a, fV.slot⟩] 1 len := by
  refine Law.of_walk (plainFor_of_name (by decide +kernel)) (by decide +kernel) (by decide +kernel) (by decide) (fun _ _ h => by rw [h.1]; rfl) (fun _ U U' hal hh h => ⟨h.1, h.2.1.mv hal hh, h.2.2.1.al hal, h.2.2.2.1.al hal, h.2.2.2.2.1.mv hal hh, h.2.2.2.2.2.1.there hal hh, h.2.2.2.2.2.2⟩) (fun r U U' V V' h1 hal h2 h => Got.mv r U U' V V' h1 hal h2 h) ?_
  intro p e s m args below meth c s₁ X0 hexec hbytes hml hret hlk hnm hown hh0 W hP
  obtain ⟨rfl, hB, f1, f2, hA, s1, hz, l0, l1, l2, hp⟩ := hP
  have a31 := hA.1.2.2.2
  have c1 : Steps p.tables e below (s₁.setTop (entryFrame m #[.ref a, .ref b, .int (Int32.ofNat o), .int (Int32.ofNat len), .null] 6)) (s₁.setTop (mkF m 0 #[.val (.ref a), .val (.ref b), .val (.int (Int32.ofNat o)), .val (.int (Int32.ofNat len)), .val .null, .unset] [])) := entry rfl
  have c2 : Steps p.tables e below (s₁.setTop (entryFrame m #[.ref a, .ref b, .int (Int32.ofNat o), .int (Int32.ofNat len), .null] 6)) (s₁.setTop (mkF m 1 #[.val (.ref a), .val (.ref b), .val (.int (Int32.ofNat o)), .val (.int (Int32.ofNat len)), .val .null, .unset] [.ref a])) := c1.trans (by
    refine XS.aloadN X0.here hexec rfl (hb hbytes d0) rfl rfl ?_
    exact Steps.refl _)
  obtain ⟨T3, X3, q3, st3⟩ := X0.oinit hexec hown (wks W (objW "java/lang/String" 1)) (g := (mkF m 1 #[.val (.ref a), .val (.ref b), .val (.int (Int32.ofNat o)), .val (.int (Int32.ofNat len)), .val .null, .unset] [.ref a])) rfl (by rw [hml]; rfl) (rest := []) rfl (hb hbytes d1) (W := 0) (by show 2 * 0 + 0 ≤ _; decide) (Nat.le_of_ble_eq_true rfl) (Nat.le_of_ble_eq_true rfl)
  have hh3 := q3.trans hh0
  have c4 : Steps p.tables e below (s₁.setTop (entryFrame m #[.ref a, .ref b, .int (Int32.ofNat o), .int (Int32.ofNat len), .null] 6)) (T3.setTop (mkF m 27 #[.val (.ref a), .val (.ref b), .val (.int (Int32.ofNat o)), .val (.int (Int32.ofNat len)), .val .null, .unset] [])) := (c2.trans (st3 _ (Steps.refl _))).trans (by
    refine XS.iloadN X3.here hexec rfl (hb hbytes d4) rfl ?_
    refine XS.ifYes X3.here hexec rfl (pc0 := 5) rfl (hb hbytes d5) rfl (i0_ne_t (nz32 (by omega) l0)) (by decide) rfl ?_
    exact Steps.refl _)
  obtain ⟨T5, X5, q5, st5⟩ := X3.sget hexec hown (wk W (.fieldLink "java/lang/String" 38 "java/lang/String" "COMPACT_STRINGS" "Z")) s1 (fun _ _ h => by rw [hh3]; exact h) (g := (mkF m 27 #[.val (.ref a), .val (.ref b), .val (.int (Int32.ofNat o)), .val (.int (Int32.ofNat len)), .val .null, .unset] [])) rfl (hb hbytes d27)
  have hh5 := q5.trans hh3
  have c6 : Steps p.tables e below (s₁.setTop (entryFrame m #[.ref a, .ref b, .int (Int32.ofNat o), .int (Int32.ofNat len), .null] 6)) (T5.setTop (mkF m 30 #[.val (.ref a), .val (.ref b), .val (.int (Int32.ofNat o)), .val (.int (Int32.ofNat len)), .val .null, .unset] [.int z])) := c4.trans (st5 _ (Steps.refl _))
  have c7 : Steps p.tables e below (s₁.setTop (entryFrame m #[.ref a, .ref b, .int (Int32.ofNat o), .int (Int32.ofNat len), .null] 6)) (T5.setTop (mkF m 36 #[.val (.ref a), .val (.ref b), .val (.int (Int32.ofNat o)), .val (.int (Int32.ofNat len)), .val .null, .unset] [.int (Int32.ofNat len), .int (Int32.ofNat o), .ref b])) := c6.trans (by
    refine XS.ifNo X5.here hexec rfl (hb hbytes d30) rfl (i0_eq_f hz) ?_
    refine XS.aloadN X5.here hexec rfl (hb hbytes d33) rfl rfl ?_
    refine XS.iloadN X5.here hexec rfl (hb hbytes d34) rfl ?_
    refine XS.iloadN X5.here hexec rfl (hb hbytes d35) rfl ?_
    exact Steps.refl _)
  obtain ⟨v8, T8, X8, E8, g8⟩ := X5.callS hexec (Cmp3.law l b A o len) hown (wks W (staticW "java/lang/String" 177 Cmp3.yN)) (wk W Cmp3.tab) (W := 0) (Nat.le_of_ble_eq_true rfl) (Nat.le_of_ble_eq_true rfl) (Nat.le_refl _) (by show 0 + len ≤ len; omega) (g := (mkF m 36 #[.val (.ref a), .val (.ref b), .val (.int (Int32.ofNat o)), .val (.int (Int32.ofNat len)), .val .null, .unset] [.int (Int32.ofNat len), .int (Int32.ofNat o), .ref b])) rfl (by rw [hml]; rfl) c7 (argsL := [.ref b, .int (Int32.ofNat o), .int (Int32.ofNat len)]) (rest := []) rfl rfl (by show 2 * 0 + 0 ≤ _; decide) (hb hbytes d36) (⟨rfl, hA.mv X5.warmed.alike hh5, l1, l2, hp⟩)
  obtain ⟨e8, z8⟩ := E8
  obtain ⟨rfl, N, n1, n2, n3, n4, n5, n6⟩ := NewArr.mv _ T5 s _ _ hh5.symm (Vm.Alike.refl _) rfl e8
  rw [hh5] at z8
  have hB1 := hB.keep X8.warmed.alike (n6 _ _ hB.1)
  have hne : s.heap.size ≠ a := (Nat.ne_of_lt (Array.getElem?_eq_some_iff.mp hB.1).1).symm
  have c9 : Steps p.tables e below (s₁.setTop (entryFrame m #[.ref a, .ref b, .int (Int32.ofNat o), .int (Int32.ofNat len), .null] 6)) (T8.setTop (mkF m 39 #[.val (.ref a), .val (.ref b), .val (.int (Int32.ofNat o)), .val (.int (Int32.ofNat len)), .val .null, .unset] [.ref s.heap.size])) := g8
  have c10 : Steps p.tables e below (s₁.setTop (entryFrame m #[.ref a, .ref b, .int (Int32.ofNat o), .int (Int32.ofNat len), .null] 6)) (T8.setTop (mkF m 45 #[.val (.ref a), .val (.ref b), .val (.int (Int32.ofNat o)), .val (.int (Int32.ofNat len)), .val .null, .val (.ref s.heap.size)] [.int (Int32.ofNat N.slots.size), .ref s.heap.size, .ref a])) := by
    have hc : Steps p.tables e below (s₁.setTop (entryFrame m #[.ref a, .ref b, .int (Int32.ofNat o), .int (Int32.ofNat len), .null] 6)) (T8.setTop (mkF m 45 #[.val (.ref a), .val (.ref b), .val (.int (Int32.ofNat o)), .val (.int (Int32.ofNat len)), .val .null, .val (.ref s.heap.size)] [.int (Int32.ofNat len), .ref s.heap.size, .ref a])) := c9.trans (by
      refine XS.astore X8.here hexec rfl (hb hbytes d39) rfl rfl rfl ?_
      refine XS.aloadN X8.here hexec rfl (hb hbytes d41) rfl rfl ?_
      refine XS.aload X8.here hexec rfl (hb hbytes d42) rfl rfl ?_
      refine XS.iloadN X8.here hexec rfl (hb hbytes d44) rfl ?_
      exact Steps.refl _)
    rw [n4]; exact hc
  obtain ⟨v11, T11, X11, E11, g11⟩ := X8.callS hexec (CodL.law l s.heap.size N) hown (wks W (staticW "java/lang/String" 47 CodL.yN)) (wk W CodL.tab) (W := 1) (Nat.le_of_ble_eq_true rfl) (Nat.le_of_ble_eq_true rfl) (Nat.le_refl _) (by show 0 + len + 0 ≤ len; omega) (g := (mkF m 45 #[.val (.ref a), .val (.ref b), .val (.int (Int32.ofNat o)), .val (.int (Int32.ofNat len)), .val .null, .val (.ref s.heap.size)] [.int (Int32.ofNat N.slots.size), .ref s.heap.size, .ref a])) rfl (by rw [hml]; rfl) c10 (argsL := [.ref s.heap.size, .int (Int32.ofNat N.slots.size)]) (rest := [.ref a]) rfl rfl (by show 2 * 0 + (1 + 0) ≤ _; decide) (hb hbytes d45) (⟨rfl, n1⟩)
  obtain ⟨rfl, q11⟩ := E11
  have hB11 := hB1.mv (X8.warmed.alike.symm.trans X11.warmed.alike) q11
  have c12 : Steps p.tables e below (s₁.setTop (entryFrame m #[.ref a, .ref b, .int (Int32.ofNat o), .int (Int32.ofNat len), .null] 6)) (T11.setTop (mkF m 48 #[.val (.ref a), .val (.ref b), .val (.int (Int32.ofNat o)), .val (.int (Int32.ofNat len)), .val .null, .val (.ref s.heap.size)] [.int 0, .ref a])) := g11
  obtain ⟨T13, X13, p13, bl13, sl13, st13⟩ := X11.finit hexec hown (wk W (.fieldLink "java/lang/String" 15 "java/lang/String" "coder" "B")) (Or.inr ⟨_, (wk W (.laysFinal "java/lang/String" "java/lang/String" "coder" "B"))⟩) (Or.inl ⟨rfl, hnm⟩) f2 (Or.inl rfl) hB11 (t := .byte) (by decide +kernel) rfl (g := (mkF m 48 #[.val (.ref a), .val (.ref b), .val (.int (Int32.ofNat o)), .val (.int (Int32.ofNat len)), .val .null, .val (.ref s.heap.size)] [.int 0, .ref a])) rfl (rest := []) rfl (hb hbytes d48)
  have c14 : Steps p.tables e below (s₁.setTop (entryFrame m #[.ref a, .ref b, .int (Int32.ofNat o), .int (Int32.ofNat len), .null] 6)) (T13.setTop (mkF m 54 #[.val (.ref a), .val (.ref b), .val (.int (Int32.ofNat o)), .val (.int (Int32.ofNat len)), .val .null, .val (.ref s.heap.size)] [.ref s.heap.size, .ref a])) := (c12.trans (st13 _ (Steps.refl _))).trans (by
    refine XS.aloadN X13.here hexec rfl (hb hbytes d51) rfl rfl ?_
    refine XS.aload X13.here hexec rfl (hb hbytes d52) rfl rfl ?_
    exact Steps.refl _)
  obtain ⟨T15, X15, p15, bl15, sl15, st15⟩ := X13.finit hexec hown (wk W (.fieldLink "java/lang/String" 9 "java/lang/String" "value" "[B")) (Or.inr ⟨_, (wk W (.laysFinal "java/lang/String" "java/lang/String" "value" "[B"))⟩) (Or.inl ⟨rfl, hnm⟩) f1 (Or.inl rfl) bl13 (t := (.array .byte)) (by decide +kernel) rfl (g := (mkF m 54 #[.val (.ref a), .val (.ref b), .val (.int (Int32.ofNat o)), .val (.int (Int32.ofNat len)), .val .null, .val (.ref s.heap.size)] [.ref s.heap.size, .ref a])) rfl (rest := []) rfl (hb hbytes d54)
  have c16 : Steps p.tables e below (s₁.setTop (entryFrame m #[.ref a, .ref b, .int (Int32.ofNat o), .int (Int32.ofNat len), .null] 6)) (T15.setTop (mkF m 57 #[.val (.ref a), .val (.ref b), .val (.int (Int32.ofNat o)), .val (.int (Int32.ofNat len)), .val .null, .val (.ref s.heap.size)] [])) := c14.trans (st15 _ (Steps.refl _))
  have ap := apart (Or.inr ⟨_, (wk W (.laysFinal "java/lang/String" "java/lang/String" "value" "[B"))⟩) (Or.inr ⟨_, (wk W (.laysFinal "java/lang/String" "java/lang/String" "coder" "B"))⟩) f1 f2 (t₁ := .array .byte) (t₂ := .byte) (by decide +kernel) (by decide +kernel) (by decide)
  have al := X8.warmed.alike.symm.trans X15.warmed.alike
  have n7 : T11.heap[s.heap.size]? = some N := by rw [q11]; exact n1.1
  exact ⟨T15, none, _, _, _, X15, by simp, rfl, by omega, (fun _ => rfl), ⟨rfl, _, N, bl15, ((Same.refl D _).set _ (by simp)).set _ (by simp), sl15, (Cell.slots_setSlot_ne _ ap).trans sl13, n1.keep al (p15.other hne (p13.other hne n7)), n2, by rw [al.findClass]; exact n3, n4, n5, fun y c h1 h2 => p15.other h1 (p13.other h1 (by rw [q11]; exact n6 y c h2)), by rw [p15.2.2, p13.2.2, q11]; exact z8⟩, fun fs hl => c16.trans (X15.returnOut hexec hret (hb hbytes d57) hl)⟩
end New4
namespace New1
def yN : MethodName := ⟨"java/lang/String", "<init>", "([C)V"⟩
abbrev yB : ByteArray := jdk_42_method_3_code
theorem d0 : decode yB 0 = .ok (.aload_n 0, 1) := by decide +kernel
theorem d1 : decode yB 1 = .ok (.aload_n 1, 1) := by decide +kernel
theorem d2 : decode yB 2 = .ok (.iconst 0, 1) := by decide +kernel
theorem d3 : decode yB 3 = .ok (.aload_n 1, 1) := by decide +kernel
theorem d4 : decode yB 4 = .ok (.arraylength, 1) := by decide +kernel
theorem d5 : decode yB 5 = .ok (.aconst_null, 1) := by decide +kernel
theorem d6 : decode yB 6 = .ok (.invokespecial 27, 3) := by decide +kernel
theorem d9 : decode yB 9 = .ok (.return_, 1) := by decide +kernel
def site : List Cond := [New4.tab] ++ initW "java/lang/String" 27 New4.yN
def tab : Cond := tabOf yN yB 2 none site
def P (a : Addr) (D : Cell) (fV fC : Field) (b : Addr) (A : Cell) (z : Int32) (args : Array Value) (s : State) : Prop := args = #[.ref a, .ref b] ∧ Blank "java/lang/String" a D s ∧ Found "java/lang/String" "value" "[B" fV s ∧ Found "java/lang/String" "coder" "B" fC s ∧ Ch b A s ∧ StaticIs s "java/lang/String" "COMPACT_STRINGS" "Z" (.int z) ∧ ¬ z = 0 ∧ 0 < A.slots.size ∧ A.slots.size ≤ 536870912 ∧ ∀ i, i < A.slots.size → ¬ 255 < cv A i
def E (a : Addr) (D : Cell) (fV fC : Field) (A : Cell) (r : Option Value) (s u : State) : Prop := Got a D fV fC A 0 A.slots.size r s u
/-- new String(chars), not empty, no char above 255: a Latin-1 String of their low bytes -/
theorem law (l : Launch) (a : Addr) (D : Cell) (fV fC : Field) (b : Addr) (A : Cell) (z : Int32) : Law l yN 2 1 3 52 yB 2 none site (P a D fV fC b A z) (E a D fV fC A) [⟨a, fC.slot⟩, ⟨a, fV.slot⟩] 1 A.slots.size := by
  refine Law.of_walk (plainFor_of_name (by decide +kernel)) (by decide +kernel) (by decide +kernel) (by decide) (fun _ _ h => by rw [h.1]; rfl) (fun _ U U' hal hh h => ⟨h.1, h.2.1.mv hal hh, h.2.2.1.al hal, h.2.2.2.1.al hal, h.2.2.2.2.1.mv hal hh, h.2.2.2.2.2.1.there hal hh, h.2.2.2.2.2.2⟩) (fun r U U' V V' h1 hal h2 h => Got.mv r U U' V V' h1 hal h2 h) ?_
  intro p e s m args below meth c s₁ X0 hexec hbytes hml hret hlk hnm hown hh0 W hP
  obtain ⟨rfl, hB, f1, f2, hA, s1, hz, l0, l2, hp⟩ := hP
  have c1 : Steps p.tables e below (s₁.setTop (entryFrame m #[.ref a, .ref b] 2)) (s₁.setTop (mkF m 0 #[.val (.ref a), .val (.ref b)] [])) := entry rfl
  have c2 : Steps p.tables e below (s₁.setTop (entryFrame m #[.ref a, .ref b] 2)) (s₁.setTop (mkF m 6 #[.val (.ref a), .val (.ref b)] [.null, .int (Int32.ofNat A.slots.size), .int 0, .ref b, .ref a])) := c1.trans (by
    refine XS.aloadN X0.here hexec rfl (hb hbytes d0) rfl rfl ?_
    refine XS.aloadN X0.here hexec rfl (hb hbytes d1) rfl rfl ?_
    refine iconstV X0.here hexec rfl 0 (hb hbytes d2) (by decide) ?_
    refine XS.aloadN X0.here hexec rfl (hb hbytes d3) rfl rfl ?_
    refine X0.alen hexec (hA.1.mv X0.warmed.alike hh0) rfl rfl (hb hbytes d4) ?_
    refine XS.aconstNull X0.here hexec rfl (hb hbytes d5) ?_
    exact Steps.refl _)
  obtain ⟨v3, T3, X3, E3, g3⟩ := X0.callN hexec (New4.law l a D fV fC b A z 0 A.slots.size) rfl hown (wks W (initW "java/lang/String" 27 New4.yN)) (W New4.tab (by simp only [site, List.mem_cons, List.mem_append, true_or, or_true])) (W := 0) (Nat.le_of_ble_eq_true rfl) (Nat.le_of_ble_eq_true rfl) (Nat.le_refl _) (by show 0 + A.slots.size ≤ A.slots.size; omega) (g := (mkF m 6 #[.val (.ref a), .val (.ref b)] [.null, .int (Int32.ofNat A.slots.size), .int (Int32.ofNat 0), .ref b, .ref a])) rfl (by rw [hml]; rfl) c2 (argsL := [.ref b, .int (Int32.ofNat 0), .int (Int32.ofNat A.slots.size), .null]) (rest := []) rfl rfl (by show 2 * 0 + 0 ≤ _; decide) (hb hbytes d6) (⟨rfl, hB.mv X0.warmed.alike hh0, f1.al X0.warmed.alike, f2.al X0.warmed.alike, hA.mv X0.warmed.alike hh0, s1.there X0.warmed.alike hh0, hz, l0, by omega, l2, fun i hi => by rw [Nat.zero_add]; exact hp i hi⟩)
  have e0 := Got.mv _ s₁ s _ _ hh0.symm (Vm.Alike.refl _) rfl E3
  obtain rfl := e0.1
  have c4 : Steps p.tables e below (s₁.setTop (entryFrame m #[.ref a, .ref b] 2)) (T3.setTop (mkF m 9 #[.val (.ref a), .val (.ref b)] [])) := g3
  exact ⟨T3, none, _, _, _, X3, by simp, rfl, by omega, (fun _ => rfl), e0, fun fs hl => c4.trans (X3.returnOut hexec hret (hb hbytes d9) hl)⟩
theorem pays {l : Launch} {R : Room} {p : Program} {e : Env} {below : List Frame} {s : State} {sargs : Array Value} {len W : Nat} (a : Addr) (D : Cell) (fV fC : Field) (b : Addr) (A : Cell) (z : Int32) (htab : tab.before sargs s = true) (hfr : 4 ≤ R.frames) (hlo : W + 65 ≤ R.locals) :
    Back l R p e below s sargs yN len W (fun A₁ a₁ => A₁.cells + 1 ≤ R.cells ∧ A₁.slots + A.slots.size ≤ R.slots ∧ P a D fV fC b A z a₁ A₁.U) (fun A₁ _ v₁ B₁ => E a D fV fC A v₁ A₁.U B₁.U ∧ B₁.locs = A₁.locs ++ [⟨a, fC.slot⟩, ⟨a, fV.slot⟩] ∧ B₁.cells = A₁.cells + 1 ∧ B₁.slots = A₁.slots + A.slots.size) :=
  (law l a D fV fC b A z).pays htab hfr (by omega)
end New1
/-- the byte, read back as charAt reads it, is the char -/
theorem lo8_mask {x : Int32} (h0 : ¬ x < 0) (h1 : ¬ 255 < x) : lo8 x &&& 255 = x := by
  have t : ∀ k : Fin 256, lo8 (Int32.ofNat k.val) &&& 255 = Int32.ofNat k.val := by decide +kernel
  rw [Int32.lt_iff_toInt_lt] at h0 h1
  have e0 : (0 : Int32).toInt = 0 := rfl
  have e1 : (255 : Int32).toInt = 255 := rfl
  obtain ⟨k, hk⟩ : ∃ k : Nat, x.toInt = k := ⟨x.toInt.toNat, by omega⟩
  have hx : x = Int32.ofNat k := Int32.toInt_inj.mp (by rw [hk, Int32.toInt_ofNat_small (by omega)])
  rw [hx]
  exact t ⟨k, by omega⟩
end StrChars
namespace StrChars.Road
open Jvm Sem ClassFile Op Lib Jvm.Stand Jvm.Free Jvm.Free.XT
open Jvm.Lib.Cold (StaticIs)
abbrev ST : String := "java/lang/String"
/-- every table word that New1's law asks, flat -/
abbrev words : List Jvm.Cond := [.code New1.yN New1.yB 2 none, .initialized ST, .methodLink ST 27 New4.yN, .instanceMethod New4.yN,
  .code New4.yN New4.yB 6 none, .fieldLink ST 38 ST "COMPACT_STRINGS" "Z", .laysFinal ST ST "value" "[B", .fieldLink ST 9 ST "value" "[B", .laysFinal ST ST "coder" "B", .fieldLink ST 15 ST "coder" "B",
  .methodLink ST 1 Lib.objectInit, .instanceMethod Lib.objectInit, .code Lib.objectInit ⟨#[0xb1]⟩ 1 none, .methodLink ST 177 Cmp3.yN, .static Cmp3.yN, .methodLink ST 47 CodL.yN, .static CodL.yN,
  .code Cmp3.yN Cmp3.yB 6 (some (.array .byte)), .initialized U16, .arrayClass .byte, .methodLink U16 115 Cmp5.yN, .static Cmp5.yN, .code Cmp5.yN Cmp5.yB 7 (some .int), .code CodL.yN CodL.yB 2 (some .byte)]
theorem tab_of {a : Array Value} {s : State} (h : ∀ w ∈ words, w.before a s = true) : New1.tab.before a s = true := by
  have h5 : Cmp5.tab.before a s = true := unparts (wk h (.code Cmp5.yN Cmp5.yB 7 (some .int))) (wks h (.initialized Cmp5.yN.cls :: Cmp5.site))
  have hc : CodL.tab.before a s = true := unparts (wk h (.code CodL.yN CodL.yB 2 (some .byte))) (wks h (.initialized CodL.yN.cls :: CodL.site))
  have q5 : ∀ w ∈ Cmp5.tab :: words, w.before a s = true := fun w hw => (List.mem_cons.mp hw).elim (fun e => e ▸ h5) (h w)
  have h3 : Cmp3.tab.before a s = true := unparts (wk q5 (.code Cmp3.yN Cmp3.yB 6 (some (.array .byte)))) (wks q5 (.initialized Cmp3.yN.cls :: Cmp3.site))
  have q3 : ∀ w ∈ Cmp3.tab :: CodL.tab :: words, w.before a s = true := fun w hw => (List.mem_cons.mp hw).elim (fun e => e ▸ h3) fun hw => (List.mem_cons.mp hw).elim (fun e => e ▸ hc) (h w)
  have h4 : New4.tab.before a s = true := unparts (wk q3 (.code New4.yN New4.yB 6 none)) (wks q3 (.initialized New4.yN.cls :: New4.site))
  have q4 : ∀ w ∈ New4.tab :: words, w.before a s = true := fun w hw => (List.mem_cons.mp hw).elim (fun e => e ▸ h4) (h w)
  exact unparts (wk q4 (.code New1.yN New1.yB 2 none)) (wks q4 (.initialized New1.yN.cls :: New1.site))
/-- the words ride from the start Z to the walk's own state -/
theorem moved {Z s : State} {a0 args : Array Value} (hZ : Z.Warmed39 s.vm) (hw : ∀ d ∈ words, d.before a0 Z = true) : ∀ d ∈ words, d.before args s = true := fun d hd => by
  have q := hw d hd
  have t : ∀ d ∈ words, d = .arrayClass .byte ∨ (d.onTables && d.keepsFace) = true := by decide +kernel
  rcases t d hd with rfl | t
  · exact RoadKit.mvA hZ q
  · exact RoadKit.mv hZ q t
/-- WHAT COMES BACK, over the tables of the start Z: h the heap at the call, h' behind it -/
def Q (Z : State) (x : Addr) (A : Cell) (h : Heap) (v : Option Value) (h' : Heap) (L : List Loc) : Prop := v = none ∧ (∀ y ∈ L, y.base = x) ∧ RoadKit.Keep h h' [x] ∧ h'.size = h.size + 1 ∧ RoadKit.Exa Z h' x ST ∧ RoadKit.Fld Z h' x ST "value" "[B" (.ref h.size) ∧ RoadKit.Fld Z h' x ST "coder" "B" (.int 0) ∧
  (∃ V : Cell, RoadKit.Arr Z h' h.size V .byte ∧ V.vm = .none ∧ Z.vm.findClass "[B" = some V.cls ∧ V.slots.size = A.slots.size ∧ ∀ j, j < A.slots.size → V.slots[j]? = some (.int (lo8 (cv A j)))) ∧
  ∀ (O n d : String) (w : Value), RoadKit.Fld Z h x O n d w → RoadKit.slotOf Z O n d ≠ RoadKit.slotOf Z ST "value" "[B" → RoadKit.slotOf Z O n d ≠ RoadKit.slotOf Z ST "coder" "B" → RoadKit.Fld Z h' x O n d w
/-- **new String(chars) AT A CALL, IN THE ROAD'S FORM**: for specialBack behind newO: x the fresh String, b the char[] with the cell A -/
theorem back {p : Program} {l : Launch} {e : Env} {R : Room} {s : State} {args : Array Value} {below : List Frame} {len W : Nat} {Z : State} {a0 : Array Value} {h : Heap} (hZ : Z.Warmed39 s.vm) (hw : ∀ d ∈ words, d.before a0 Z = true) {kI : Nat} (wi : (Jvm.Cond.instantiable ST kI).before a0 Z = true)
    {x b : Addr} {A : Cell} {z : Int32} {v0 c0 : Value} (E : RoadKit.Exa Z h x ST) (V : RoadKit.Fld Z h x ST "value" "[B" v0) (C : RoadKit.Fld Z h x ST "coder" "B" c0) (K : RoadKit.Arr Z h b A .char) (hty : Typed .char A) (S : RoadKit.Sta Z h ST "COMPACT_STRINGS" "Z" (.int z)) (hz : ¬ z = 0)
    (l0 : 0 < A.slots.size) (l2 : A.slots.size ≤ 536870912) (hp : ∀ i, i < A.slots.size → ¬ 255 < cv A i) (hfr : 4 ≤ R.frames) (hlo : W + 65 ≤ R.locals) :
    Back l R p e below s args New1.yN len W (fun P a => a = #[.ref x, .ref b] ∧ P.U.heap = h ∧ P.cells + 1 ≤ R.cells ∧ P.slots + A.slots.size ≤ R.slots)
      (fun P _ v B => ∃ L, Q Z x A h v B.U.heap L ∧ B.locs = P.locs ++ L ∧ B.cells = P.cells + 1 ∧ B.slots = P.slots + A.slots.size) := by
  intro m meth c P g ig mk a X hg hsize hdg hW hn hp'
  obtain ⟨rfl, rfl, r1, r2⟩ := hp'
  have al : Z.vm.Alike P.U.vm := hZ.alike.trans X.warmed.alike
  obtain ⟨D, cfV, kV, iV, fV, hD, gV, stV, knV, obV, asV, slV⟩ := id V
  obtain ⟨D', cfC, kC, iC, fC, hD', gC, stC, -, -, asC, slC⟩ := id C
  cases hD.symm.trans hD'
  obtain ⟨D2, kD, e1, e2, e3, e4, e5⟩ := id E
  cases hD.symm.trans e1
  obtain ⟨c2, k2, i1, i2, i3, -⟩ := Cond.instantiable_spec wi
  cases e2.symm.trans i1
  cases e3.symm.trans i2
  obtain ⟨kU, u1, u2⟩ := al.2.2 _ _ e3
  have hB : Blank ST x D P.U := ⟨hD, ⟨knV, fun q hq => by rw [hq] at obV; cases obV⟩, by rw [al.findClass]; exact e2, kU, u1, by rw [u2]; exact i3, by rw [u2]; exact e5 i3⟩
  have F1 : Found ST "value" "[B" fV P.U := ⟨SBG.found_only al ⟨cfV, kV, iV, gV⟩, stV⟩
  have F2 : Found ST "coder" "B" fC P.U := ⟨SBG.found_only al ⟨cfC, kC, iC, gC⟩, stC⟩
  have hA : Ch b A P.U := ⟨⟨K.1, State.isArrayOf_alike al K.2.1, K.2.2, by omega⟩, hty⟩
  have hS : StaticIs P.U ST "COMPACT_STRINGS" "Z" (.int z) := by
    obtain ⟨cfS, iS, kS, fS, st, cS, t1, t2, t3, t4, t5, t6, t7⟩ := S
    exact StaticIs.there (s := { Z with heap := P.U.heap }) ⟨cfS, iS, kS, fS, st, cS, t1, t2, t3, t4, t5, (fun q => by rw [q] at t6; cases t6), t7⟩ al rfl
  obtain ⟨v, B, X', ⟨⟨hv, E', V', q1, q2, q3, q4, q5, q6, q7, q8, q9, q10, q11⟩, hl, hc, hs⟩, st⟩ := New1.pays x D fV fC b A z (tab_of (moved hZ hw)) hfr hlo m meth c P g ig mk _ X hg hsize hdg hW hn ⟨r1, r2, rfl, hB, F1, F2, hA, hS, hz, l0, l2, hp⟩
  have al' : Z.vm.Alike B.U.vm := hZ.alike.trans X'.warmed.alike
  have hsz : E'.slots.size = D.slots.size := by
    obtain ⟨-, -, -, kB, w1, w2, w3⟩ := q1
    obtain ⟨kB', y1, y2⟩ := al'.2.2 _ _ e3
    rw [q2.2.1] at w1
    cases w1.symm.trans y1
    rw [w3, e5 i3, y2]
  refine ⟨v, B, X', ⟨_, ⟨hv, ?_, ⟨by omega, fun y cy hy hn' => q10 y cy (by simpa using hn') hy, fun y cy hy => ?_⟩, q11, ⟨E', _, q1.1, by rw [q2.2.1]; exact e2, by rw [q2.2.1]; exact e3, by rw [q2.1]; exact obV, fun _ => by rw [hsz]; exact e5 i3⟩,
    ⟨E', cfV, kV, iV, fV, q1.1, gV, stV, by rw [q2.1]; exact knV, by rw [q2.1]; exact obV, by rw [q2.2.1]; exact asV, q3⟩, ⟨E', cfC, kC, iC, fC, q1.1, gC, stC, by rw [q2.1]; exact knV, by rw [q2.1]; exact obV, by rw [q2.2.1]; exact asC, q4⟩,
    ⟨V', ⟨q5.1, State.isArrayOf_alike al'.symm q5.2.1, q5.2.2.1⟩, q6, by rw [← al'.findClass]; exact q7, q8, fun j hj => by have := q9 j hj; rwa [Nat.zero_add] at this⟩, fun O n d w F n1 n2 => ?_⟩, hl, hc, hs⟩, st⟩
  · intro y hy
    simp only [List.mem_cons, List.not_mem_nil, or_false] at hy
    rcases hy with rfl | rfl <;> rfl
  · by_cases q : y = x
    · subst q
      cases hD.symm.trans hy
      exact ⟨E', q1.1, q2.2.1, q2.1, hsz⟩
    · exact ⟨cy, q10 y cy q hy, rfl, rfl, rfl⟩
  · obtain ⟨D3, cf, k, i, f, g1, g2, g3, g4, g5, g6, g7⟩ := F
    cases hD.symm.trans g1
    simp only [RoadKit.slotOf, g2, gV, gC, Option.map_some, Option.getD_some] at n1 n2
    exact ⟨E', cf, k, i, f, q1.1, g2, g3, by rw [q2.1]; exact g4, by rw [q2.1]; exact g5, by rw [q2.2.1]; exact g6, by rw [q2.2.2 f.slot (by simp [n1, n2])]; exact g7⟩
end StrChars.Road
namespace StrChars.Road
open Jvm Sem ClassFile Op Lib Jvm.Stand Jvm.Free Jvm.Free.XT
/-- WHAT COMES BACK, the byte[] as a list of values -/
def QA (Z : State) (x : Addr) (zn : Int32) (cs : List Int32) (h : Heap) (v : Option Value) (h' : Heap) (L : List Loc) : Prop := v = none ∧ (∀ y ∈ L, y.base = x) ∧ RoadKit.Keep h h' [x] ∧ h'.size = h.size + 1 ∧ RoadKit.Exa Z h' x ST ∧ RoadKit.Fld Z h' x ST "value" "[B" (.ref h.size) ∧ RoadKit.Fld Z h' x ST "coder" "B" (.int 0) ∧
  (∃ kb, Z.vm.findClass "[B" = some kb ∧ RoadKit.Arv Z h' h.size kb .byte zn (cs.map fun c => .int (lo8 c)) (.int 0)) ∧
  ∀ (O n d : String) (w : Value), RoadKit.Fld Z h x O n d w → RoadKit.slotOf Z O n d ≠ RoadKit.slotOf Z ST "value" "[B" → RoadKit.slotOf Z O n d ≠ RoadKit.slotOf Z ST "coder" "B" → RoadKit.Fld Z h' x O n d w
/-- **new String(chars) AT A CALL, THE ARRAYS AS LISTS**: the char[] at b holds cs, not empty, no char above 255 -/
theorem backArv {p : Program} {l : Launch} {e : Env} {R : Room} {s : State} {args : Array Value} {below : List Frame} {len W : Nat} {Z : State} {a0 : Array Value} {h : Heap} (hZ : Z.Warmed39 s.vm) (hw : ∀ d ∈ words, d.before a0 Z = true) {kI : Nat} (wi : (Jvm.Cond.instantiable ST kI).before a0 Z = true)
    {x b : Addr} {k : ClassId} {zn z : Int32} {cs : List Int32} {dv v0 c0 : Value} (E : RoadKit.Exa Z h x ST) (V : RoadKit.Fld Z h x ST "value" "[B" v0) (C : RoadKit.Fld Z h x ST "coder" "B" c0) (K : RoadKit.Arv Z h b k .char zn (cs.map Value.int) dv) (S : RoadKit.Sta Z h ST "COMPACT_STRINGS" "Z" (.int z)) (hz : ¬ z = 0)
    (hlen : zn.toNatClampNeg = cs.length) (h0 : 0 < cs.length) (hbig : cs.length ≤ 536870912) (hall : ∀ c ∈ cs, ¬ 255 < c) (hfr : 4 ≤ R.frames) (hlo : W + 65 ≤ R.locals) :
    Back l R p e below s args New1.yN len W (fun P a => a = #[.ref x, .ref b] ∧ P.U.heap = h ∧ P.cells + 1 ≤ R.cells ∧ P.slots + cs.length ≤ R.slots)
      (fun P _ v B => ∃ L, QA Z x zn cs h v B.U.heap L ∧ B.locs = P.locs ++ L ∧ B.cells = P.cells + 1 ∧ B.slots = P.slots + cs.length) := by
  obtain ⟨A, K1, K2, K3, K4, K5, K6⟩ := K
  have e : A.slots.size = cs.length := K3.trans hlen
  have hat : ∀ (i : Nat) (hi : i < cs.length), A.slots[i]? = some (.int cs[i]) := fun i hi => by rw [K5 i (by omega)]; simp [List.getD_eq_getElem?_getD, hi]
  have hcv : ∀ (i : Nat) (hi : i < cs.length), cv A i = cs[i] := fun i hi => by unfold cv; rw [hat i hi]
  have hty : Typed .char A := fun i v hv => by
    have hi : i < A.slots.size := (Array.getElem?_eq_some_iff.mp hv).1
    have q := K5 i hi
    rw [hv] at q
    rw [Option.some.inj q]
    exact K6 i hi
  refine Back.mono (back hZ hw wi E V C K1 hty S hz (by omega) (by omega) (fun i hi => by rw [hcv i (by omega)]; exact hall _ (List.getElem_mem _)) hfr hlo) (fun P a hp => ⟨hp.1, hp.2.1, hp.2.2.1, by rw [e]; exact hp.2.2.2⟩) (fun P a v B hp hq => ?_)
  obtain ⟨L, ⟨q1, q2, q3, q4, q5, q6, q7, ⟨V', v1, v2, v3, v4, v5⟩, q9⟩, hl, hc, hs⟩ := hq
  refine ⟨L, ⟨q1, q2, q3, q4, q5, q6, q7, ⟨V'.cls, v3, V', v1, rfl, by rw [v4, e, hlen], K4, fun i hi => ?_, fun i hi => ?_⟩, q9⟩, hl, hc, by rw [hs, e]⟩
  · have hi' : i < cs.length := by omega
    rw [v5 i (by omega), hcv i hi']; simp [List.getD_eq_getElem?_getD, hi']
  · have hi' : i < cs.length := by omega
    simp only [List.getD_eq_getElem?_getD, List.getElem?_map, List.getElem?_eq_getElem hi', Option.map_some, Option.getD_some]
    exact fits_lo8 _
end StrChars.Road
namespace StrChars.Road
open Jvm Sem ClassFile Op Lib Jvm.Stand Jvm.Free Jvm.Free.XT
/-- WHAT COMES BACK, in the writer's own shape -/
def QV (Z : State) (x : Addr) (N : Int32) (bs : List Int32) (h : Heap) (n0 : Nat) (v : Option Value) (h' : Heap) (L : List Loc) : Prop := v = none ∧ RoadKit.Fr n0 L ∧ RoadKit.Keep h h' [x] ∧ RoadKit.Exa Z h' x ST ∧ RoadKit.Fld Z h' x ST "coder" "B" (.int 0) ∧
  ∃ (t : Addr) (kb : ClassId), n0 ≤ t ∧ h.size ≤ t ∧ ¬ t = x ∧ RoadKit.Fld Z h' x ST "value" "[B" (.ref t) ∧ RoadKit.Arv Z h' t kb .byte N (bs.map Value.int) (.int 0)
/-- **new String(chars) AT A CALL, FOR THE WRITER**: a char[] of n known ints, each 0 to 255 -/
theorem backV {p : Program} {l : Launch} {e : Env} {R : Room} {s : State} {args : Array Value} {below : List Frame} {len W : Nat} {Z : State} {a0 : Array Value} {h : Heap} (hZ : Z.Warmed39 s.vm) (hw : ∀ d ∈ words, d.before a0 Z = true) {kI : Nat} (wi : (Jvm.Cond.instantiable ST kI).before a0 Z = true)
    {x b : Addr} {kC : ClassId} {cs bs : List Int32} {d v0 c0 : Value} {z N : Int32} {n n0 : Nat} (hx0 : n0 ≤ x) (hh0 : n0 ≤ h.size) (E : RoadKit.Exa Z h x ST) (V : RoadKit.Fld Z h x ST "value" "[B" v0) (C : RoadKit.Fld Z h x ST "coder" "B" c0) (K : RoadKit.Arv Z h b kC .char N (cs.map Value.int) d) (S : RoadKit.Sta Z h ST "COMPACT_STRINGS" "Z" (.int z)) (hz : ¬ z = 0)
    (hn : cs.length = n) (hN : N = Int32.ofNat n) (l0 : 0 < n) (l2 : n ≤ 4000) (hp : ∀ c ∈ cs, ¬ c < 0 ∧ ¬ (255 : Int32) < c) (hb : bs = cs.map (fun c => c.toInt8.toInt32)) (hfr : 4 ≤ R.frames) (hlo : W + 65 ≤ R.locals) :
    Back l R p e below s args (⟨"java/lang/String", "<init>", "([C)V"⟩ : MethodName) len W (fun P a => a = #[.ref x, .ref b] ∧ P.U.heap = h ∧ P.cells + 1 ≤ R.cells ∧ P.slots + n ≤ R.slots)
      (fun P _ v B => ∃ L, QV Z x N bs h n0 v B.U.heap L ∧ B.locs = P.locs ++ L ∧ B.cells = P.cells + 1 ∧ B.slots = P.slots + n) := by
  subst hn hN hb
  refine Back.mono (backArv hZ hw wi E V C K S hz (n32 (by omega)) l0 (by omega) (fun c hc => (hp c hc).2) hfr hlo) (fun P a hp => hp) (fun P a v B hp hq => ?_)
  obtain ⟨L, ⟨q1, q2, q3, q4, q5, q6, q7, ⟨kb, v1, v2⟩, q9⟩, hl, hc, hs⟩ := hq
  exact ⟨L, ⟨q1, fun y hy => by rw [q2 y hy]; exact hx0, q3, q5, q7, h.size, kb, hh0, Nat.le_refl _, Nat.ne_of_gt E.lt, q6, by rw [List.map_map]; exact v2⟩, hl, hc, hs⟩
end StrChars.Road
namespace StrChars
open Jvm Sem ClassFile Op Lib Jvm.Stand Jvm.Free.XT Jvm.Free.ALB Jvm.Free.JM Jvm.Free
open Jvm.Lib.Cold (StaticIs)
def hi8 (x : Int32) : Int32 := lo8 (x >>> ((8 : Int32) &&& 31))
/-- what StringUTF16.getChar makes of two bytes -/
def pairCh (u v : Int32) : Int32 := (((u &&& 255) <<< ((0 : Int32) &&& 31)) ||| ((v &&& 255) <<< ((8 : Int32) &&& 31))).toUInt32.toUInt16.toUInt32.toInt32
theorem shr0 (c : Int32) : c >>> ((0 : Int32) &&& 31) = c := by
  have e : ((0 : Int32) &&& 31) = 0 := by decide
  rw [e]
  apply Int32.toBitVec_inj.mp
  rw [Int32.toBitVec_shiftRight]
  have e1 : ((0 : Int32).toBitVec.smod 32) = 0#32 := by decide
  rw [e1, BitVec.sshiftRight_eq']
  exact BitVec.sshiftRight_zero
theorem lo8_and (x : Int32) : (lo8 x &&& 255).toBitVec.toNat = x.toBitVec.toNat % 256 := by
  have h : (lo8 x).toBitVec = (x.toBitVec.signExtend 8).signExtend 32 := by rw [lo8, Int8.toBitVec_toInt32, Int32.toBitVec_toInt8]
  rw [Int32.toBitVec_and, BitVec.toNat_and, h]
  have e : ((x.toBitVec.signExtend 8).signExtend 32).toNat % 256 = x.toBitVec.toNat % 256 := by
    rw [BitVec.toNat_signExtend]
    have hlt := x.toBitVec.isLt
    simp only [BitVec.toNat_setWidth, BitVec.toNat_signExtend]
    split <;> split <;> omega
  rw [← e]
  exact Nat.and_two_pow_sub_one_eq_mod _ 8
theorem pair_says {c : Int32} (h0 : ¬ c < 0) (h1 : ¬ 65535 < c) : pairCh (lo8 c) (hi8 c) = c := by
  rw [Int32.lt_iff_toInt_lt] at h0 h1
  have e0 : (0 : Int32).toInt = 0 := rfl
  have e1 : (65535 : Int32).toInt = 65535 := rfl
  have hc : c.toInt = c.toBitVec.toNat := by
    have := c.toBitVec.isLt
    have e : c.toInt = c.toBitVec.toInt := rfl
    rw [e] at h0 h1
    rw [e]
    rw [BitVec.toInt_eq_toNat_cond] at h0 h1 ⊢
    split at h0 <;> split <;> omega
  have hn : c.toBitVec.toNat < 65536 := by omega
  have a1 := lo8_and c
  have a2 : (hi8 c &&& 255).toBitVec.toNat = c.toBitVec.toNat / 256 := by
    rw [hi8, lo8_and]
    have e : ((8 : Int32) &&& 31) = 8 := by decide
    rw [e, Int32.toBitVec_shiftRight]
    have e2 : ((8 : Int32).toBitVec.smod 32) = 8#32 := by decide
    rw [e2, BitVec.sshiftRight_eq', BitVec.toNat_sshiftRight_of_msb_false (by rw [BitVec.msb_eq_false_iff_two_mul_lt]; omega)]
    show c.toBitVec.toNat >>> 8 % 256 = _
    rw [Nat.shiftRight_eq_div_pow]
    omega
  unfold pairCh
  apply Int32.toBitVec_inj.mp
  apply BitVec.eq_of_toNat_eq
  have f0 : ((0 : Int32) &&& 31) = 0 := by decide
  have f8 : ((8 : Int32) &&& 31) = 8 := by decide
  rw [f0, f8]
  have g : (((lo8 c &&& 255) <<< (0 : Int32)) ||| ((hi8 c &&& 255) <<< (8 : Int32))).toBitVec.toNat = c.toBitVec.toNat := by
    rw [Int32.toBitVec_or, Int32.toBitVec_shiftLeft, Int32.toBitVec_shiftLeft]
    have s0 : ((0 : Int32).toBitVec.smod 32) = 0#32 := by decide
    have s8 : ((8 : Int32).toBitVec.smod 32) = 8#32 := by decide
    rw [s0, s8, BitVec.toNat_or]
    simp only [BitVec.shiftLeft_eq', BitVec.toNat_shiftLeft, a1, a2]
    show (c.toBitVec.toNat % 256) <<< 0 % 2 ^ 32 ||| (c.toBitVec.toNat / 256) <<< 8 % 2 ^ 32 = _
    rw [Nat.shiftLeft_zero, Nat.mod_eq_of_lt (show c.toBitVec.toNat % 256 < 2 ^ 32 by omega), Nat.mod_eq_of_lt (show (c.toBitVec.toNat / 256) <<< 8 < 2 ^ 32 by rw [Nat.shiftLeft_eq]; omega), Nat.or_comm, ← Nat.shiftLeft_add_eq_or_of_lt (by omega), Nat.shiftLeft_eq]
    omega
  show BitVec.toNat (((((lo8 c &&& 255) <<< (0 : Int32)) ||| ((hi8 c &&& 255) <<< (8 : Int32))).toBitVec.setWidth 16).setWidth 32) = _
  rw [BitVec.toNat_setWidth, BitVec.toNat_setWidth, g]
  omega
end StrChars
namespace StrChars
open Jvm Sem ClassFile Op Lib Jvm.Stand Jvm.Free.XT Jvm.Free.ALB Jvm.Free.JM Jvm.Free
open Jvm.Lib.Cold (StaticIs)
theorem shr1 {n : Nat} (h : 2 * n < 2 ^ 31) : Int32.ofNat (2 * n) >>> ((1 : Int32) &&& 31) = Int32.ofNat n := by
  have e : ((1 : Int32) &&& 31) = 1 := by decide
  rw [e]
  apply Int32.toBitVec_inj.mp
  rw [Int32.toBitVec_shiftRight]
  have e1 : ((1 : Int32).toBitVec.smod 32) = 1#32 := by decide
  have hm : (BitVec.ofNat 32 (2 * n)).toNat = 2 * n := by rw [BitVec.toNat_ofNat, Nat.mod_eq_of_lt (by omega)]
  rw [e1, BitVec.sshiftRight_eq']
  apply BitVec.eq_of_toNat_eq
  show ((BitVec.ofNat 32 (2 * n)).sshiftRight 1).toNat = (BitVec.ofNat 32 n).toNat
  rw [BitVec.toNat_sshiftRight_of_msb_false (by rw [BitVec.msb_eq_false_iff_two_mul_lt, hm]; omega), hm, BitVec.toNat_ofNat, Nat.shiftRight_eq_div_pow]
  omega
/-- charAt's cast of a byte read back -/
def chr8 (u : Int32) : Int32 := (u &&& 255).toUInt32.toUInt16.toUInt32.toInt32
theorem chr8_lo8 {c : Int32} (h0 : ¬ c < 0) (h1 : ¬ 255 < c) : chr8 (lo8 c) = c := by
  have t : ∀ k : Fin 256, (Int32.ofNat k.val).toUInt32.toUInt16.toUInt32.toInt32 = Int32.ofNat k.val := by decide +kernel
  unfold chr8
  rw [lo8_mask h0 h1]
  rw [Int32.lt_iff_toInt_lt] at h0 h1
  have e0 : (0 : Int32).toInt = 0 := rfl
  have e1 : (255 : Int32).toInt = 255 := rfl
  obtain ⟨k, hk⟩ : ∃ k : Nat, c.toInt = k := ⟨c.toInt.toNat, by omega⟩
  have hx : c = Int32.ofNat k := Int32.toInt_inj.mp (by rw [hk, Int32.toInt_ofNat_small (by omega)])
  rw [hx]
  exact t ⟨k, by omega⟩
theorem narrow_ch {c : Int32} (h0 : ¬ c < 0) (h1 : ¬ 65535 < c) : narrow .char (.int c) = .int c := by
  have q : narrow .char (.int (pairCh (lo8 c) (hi8 c))) = .int (pairCh (lo8 c) (hi8 c)) := narrow_c _
  rwa [pair_says h0 h1] at q
/-- the array's cell V codes the n chars f 0 .. f (n - 1) by the coder cd, as the JDK does: coder 1 just where some char is above 255 -/
def Cod (cd : Int32) (n : Nat) (f : Nat → Int32) (V : Cell) : Prop := (cd = 0 ∧ V.slots.size = n ∧ ∀ j, j < n → V.slots[j]? = some (.int (lo8 (f j))) ∧ ¬ 255 < f j) ∨ (cd = 1 ∧ V.slots.size = 2 * n ∧ (∀ j, j < n → V.slots[2 * j]? = some (.int (lo8 (f j))) ∧ V.slots[2 * j + 1]? = some (.int (hi8 (f j)))) ∧ ∃ j, j < n ∧ 255 < f j)
theorem Cod.cd {cd : Int32} {n : Nat} {f : Nat → Int32} {V : Cell} (h : Cod cd n f V) : cd = 0 ∨ cd = 1 := h.imp (fun q => q.1) fun q => q.1
theorem Cod.len {cd : Int32} {n : Nat} {f : Nat → Int32} {V : Cell} (h : Cod cd n f V) (hs : V.slots.size < 2 ^ 31) : Int32.ofNat V.slots.size >>> (cd &&& 31) = Int32.ofNat n := by
  rcases h with ⟨rfl, h, -⟩ | ⟨rfl, h, -⟩
  · rw [shr0, h]
  · rw [h, shr1 (by omega)]
/-- **x is a String of the n chars f 0 .. f (n - 1)**, Latin-1 or UTF-16; its array at t has the cell V -/
def Txt (x t : Addr) (V : Cell) (cd : Int32) (n : Nat) (f : Nat → Int32) (U : State) : Prop := Exact "java/lang/String" x U ∧ Has x "java/lang/String" "value" "[B" (.ref t) U ∧ Has x "java/lang/String" "coder" "B" (.int cd) U ∧ XT.Arr .byte t V U ∧ Cod cd n f V ∧ ∀ j, j < n → ¬ f j < 0 ∧ ¬ 65535 < f j
theorem Txt.mv {x t : Addr} {V : Cell} {cd : Int32} {n : Nat} {f : Nat → Int32} {U U' : State} (h : Txt x t V cd n f U) (hal : U.vm.Alike U'.vm) (hh : U'.heap = U.heap) : Txt x t V cd n f U' := ⟨h.1.mv hal hh, h.2.1.mv hal hh, h.2.2.1.mv hal hh, h.2.2.2.1.mv hal hh, h.2.2.2.2⟩
namespace Cdr
def yN : MethodName := ⟨"java/lang/String", "coder", "()B"⟩
abbrev yB : ByteArray := jdk_42_method_152_code
theorem d0 : decode yB 0 = .ok (.getstatic 38, 3) := by decide +kernel
theorem d3 : decode yB 3 = .ok (.ifCond (.eq) 10, 3) := by decide +kernel
theorem d6 : decode yB 6 = .ok (.aload_n 0, 1) := by decide +kernel
theorem d7 : decode yB 7 = .ok (.getfield 15, 3) := by decide +kernel
theorem d10 : decode yB 10 = .ok (.goto 4, 3) := by decide +kernel
theorem d14 : decode yB 14 = .ok (.ireturn, 1) := by decide +kernel
def site : List Cond := [.fieldLink "java/lang/String" 38 "java/lang/String" "COMPACT_STRINGS" "Z", .fieldLink "java/lang/String" 15 "java/lang/String" "coder" "B"]
def tab : Cond := tabOf yN yB 1 (some .byte) site
def P (x : Addr) (cd z : Int32) (args : Array Value) (s : State) : Prop := args = #[.ref x] ∧ Has x "java/lang/String" "coder" "B" (.int cd) s ∧ (cd = 0 ∨ cd = 1) ∧ StaticIs s "java/lang/String" "COMPACT_STRINGS" "Z" (.int z) ∧ ¬ z = 0
def E (cd : Int32) (r : Option Value) (s u : State) : Prop := XT.PureE (some (.int cd)) r s u
theorem law (l : Launch) (x : Addr) (cd z : Int32) : Law l yN 1 0 0 0 yB 1 (some .byte) site (P x cd z) (E cd) [] 0 0 := by
  refine Law.of_walk (plainFor_of_name (by decide +kernel)) (by decide +kernel) (by decide +kernel) (by decide) (fun _ _ h => by rw [h.1]; rfl) (fun _ U U' hal hh h => ⟨h.1, h.2.1.mv hal hh, h.2.2.1, h.2.2.2.1.there hal hh, h.2.2.2.2⟩) (fun r U U' V V' h1 hal h2 h => XT.PureE.mv r U U' V V' h1 hal h2 h) ?_
  intro p e s m args below meth c s₁ X0 hexec hbytes hml hret hlk hnm hown hh0 W hP
  obtain ⟨rfl, hx, hc, s1, hz⟩ := hP
  have c1 : Steps p.tables e below (s₁.setTop (entryFrame m #[.ref x] 1)) (s₁.setTop (mkF m 0 #[.val (.ref x)] [])) := entry rfl
  obtain ⟨T2, X2, q2, st2⟩ := X0.sget hexec hown (wk W (.fieldLink "java/lang/String" 38 "java/lang/String" "COMPACT_STRINGS" "Z")) s1 (fun _ _ h => by rw [hh0]; exact h) (g := (mkF m 0 #[.val (.ref x)] [])) rfl (hb hbytes d0)
  have hh2 := q2.trans hh0
  have c3 : Steps p.tables e below (s₁.setTop (entryFrame m #[.ref x] 1)) (T2.setTop (mkF m 7 #[.val (.ref x)] [.ref x])) := (c1.trans (st2 _ (Steps.refl _))).trans (by
    refine XS.ifNo X2.here hexec rfl (hb hbytes d3) rfl (i0_eq_f hz) ?_
    refine XS.aloadN X2.here hexec rfl (hb hbytes d6) rfl rfl ?_
    exact Steps.refl _)
  obtain ⟨T4, X4, q4, st4⟩ := X2.hget hexec hown (wk W (.fieldLink "java/lang/String" 15 "java/lang/String" "coder" "B")) (hx.mv X2.warmed.alike hh2) (g := (mkF m 7 #[.val (.ref x)] [.ref x])) rfl (rest := []) rfl (hb hbytes d7)
  have c5 : Steps p.tables e below (s₁.setTop (entryFrame m #[.ref x] 1)) (T4.setTop (mkF m 14 #[.val (.ref x)] [.int cd])) := (c3.trans (st4 _ (Steps.refl _))).trans (by
    refine XS.goto X4.here hexec rfl (pc0 := 10) rfl (hb hbytes d10) (by decide) rfl ?_
    exact Steps.refl _)
  exact ⟨T4, some (.int cd), _, _, _, X4, rfl, rfl, rfl, (fun h => by cases h), ⟨rfl, q4.trans hh2⟩, fun fs hl => c5.trans (X4.ireturnOut hexec hret (by rcases hc with rfl | rfl <;> rfl) (Or.inr (Or.inr (Or.inl rfl))) (hb hbytes d14) hl)⟩
end Cdr
namespace Len
def yN : MethodName := ⟨"java/lang/String", "length", "()I"⟩
abbrev yB : ByteArray := jdk_42_method_54_code
theorem d0 : decode yB 0 = .ok (.aload_n 0, 1) := by decide +kernel
theorem d1 : decode yB 1 = .ok (.getfield 9, 3) := by decide +kernel
theorem d4 : decode yB 4 = .ok (.arraylength, 1) := by decide +kernel
theorem d5 : decode yB 5 = .ok (.aload_n 0, 1) := by decide +kernel
theorem d6 : decode yB 6 = .ok (.invokevirtual 335, 3) := by decide +kernel
theorem d9 : decode yB 9 = .ok (.ishr, 1) := by decide +kernel
theorem d10 : decode yB 10 = .ok (.ireturn, 1) := by decide +kernel
def site : List Cond := [.fieldLink "java/lang/String" 9 "java/lang/String" "value" "[B", Cdr.tab] ++ virtW "java/lang/String" 335 "java/lang/String" Cdr.yN Cdr.yN
def tab : Cond := tabOf yN yB 1 (some .int) site
def P (x t : Addr) (V : Cell) (cd : Int32) (n : Nat) (f : Nat → Int32) (z : Int32) (args : Array Value) (s : State) : Prop := args = #[.ref x] ∧ Txt x t V cd n f s ∧ StaticIs s "java/lang/String" "COMPACT_STRINGS" "Z" (.int z) ∧ ¬ z = 0
def E (n : Nat) (r : Option Value) (s u : State) : Prop := XT.PureE (some (.int (Int32.ofNat n))) r s u
/-- length() of a String of n chars, in either coding -/
theorem law (l : Launch) (x t : Addr) (V : Cell) (cd : Int32) (n : Nat) (f : Nat → Int32) (z : Int32) : Law l yN 1 0 1 13 yB 1 (some .int) site (P x t V cd n f z) (E n) [] 0 0 := by
  refine Law.of_walk (plainFor_of_name (by decide +kernel)) (by decide +kernel) (by decide +kernel) (by decide) (fun _ _ h => by rw [h.1]; rfl) (fun _ U U' hal hh h => ⟨h.1, h.2.1.mv hal hh, h.2.2.1.there hal hh, h.2.2.2⟩) (fun r U U' V V' h1 hal h2 h => XT.PureE.mv r U U' V V' h1 hal h2 h) ?_
  intro p e s m args below meth c s₁ X0 hexec hbytes hml hret hlk hnm hown hh0 W hP
  obtain ⟨rfl, hx, s1, hz⟩ := hP
  have v31 := hx.2.2.2.1.2.2.2
  have c1 : Steps p.tables e below (s₁.setTop (entryFrame m #[.ref x] 1)) (s₁.setTop (mkF m 1 #[.val (.ref x)] [.ref x])) := Steps.trans (entry rfl) (by
    show Steps p.tables e below (s₁.setTop (mkF m 0 #[.val (.ref x)] [])) _
    refine XS.aloadN X0.here hexec rfl (hb hbytes d0) rfl rfl ?_
    exact Steps.refl _)
  obtain ⟨T2, X2, q2, st2⟩ := X0.hget hexec hown (wk W (.fieldLink "java/lang/String" 9 "java/lang/String" "value" "[B")) (hx.mv X0.warmed.alike hh0).2.1 (g := (mkF m 1 #[.val (.ref x)] [.ref x])) rfl (rest := []) rfl (hb hbytes d1)
  have hh2 := q2.trans hh0
  have hx2 := hx.mv X2.warmed.alike hh2
  have c3 : Steps p.tables e below (s₁.setTop (entryFrame m #[.ref x] 1)) (T2.setTop (mkF m 6 #[.val (.ref x)] [.ref x, .int (Int32.ofNat V.slots.size)])) := (c1.trans (st2 _ (Steps.refl _))).trans (by
    refine X2.alen hexec hx2.2.2.2.1 rfl rfl (hb hbytes d4) ?_
    refine XS.aloadN X2.here hexec rfl (hb hbytes d5) rfl rfl ?_
    exact Steps.refl _)
  obtain ⟨v4, T4, X4, E4, g4⟩ := X2.callV hexec (Cdr.law l x cd z) hown (wks W (virtW "java/lang/String" 335 "java/lang/String" Cdr.yN Cdr.yN)) rfl (by decide) (wk W Cdr.tab) (W := 1) (Nat.le_of_ble_eq_true rfl) (Nat.le_of_ble_eq_true rfl) (Nat.le_refl _) (Nat.le_refl _) (hx2.1.fc X2.warmed.alike) hx2.1.is (g := (mkF m 6 #[.val (.ref x)] [.ref x, .int (Int32.ofNat V.slots.size)])) rfl (by rw [hml]; rfl) c3 (argsL := []) (rest := [.int (Int32.ofNat V.slots.size)]) rfl rfl (by show 2 * 0 + (1 + 0) ≤ _; decide) (hb hbytes d6) (⟨rfl, hx2.2.2.1, hx.2.2.2.2.1.cd, s1.there X2.warmed.alike hh2, hz⟩)
  obtain ⟨rfl, q4⟩ := E4
  have c5 : Steps p.tables e below (s₁.setTop (entryFrame m #[.ref x] 1)) (T4.setTop (mkF m 10 #[.val (.ref x)] [.int (Int32.ofNat V.slots.size >>> (cd &&& 31))])) := Steps.trans g4 (by
    refine ishr X4.here hexec rfl (hb hbytes d9) rfl ?_
    exact Steps.refl _)
  rw [hx.2.2.2.2.1.len v31] at c5
  exact ⟨T4, some (.int (Int32.ofNat n)), _, _, _, X4, rfl, rfl, rfl, (fun h => by cases h), ⟨rfl, q4.trans hh2⟩, fun fs hl => c5.trans (X4.ireturnOut hexec hret rfl (Or.inl rfl) (hb hbytes d10) hl)⟩
theorem pays {l : Launch} {R : Room} {p : Program} {e : Env} {below : List Frame} {s : State} {sargs : Array Value} {len W : Nat} (x t : Addr) (V : Cell) (cd : Int32) (n : Nat) (f : Nat → Int32) (z : Int32) (htab : tab.before sargs s = true) (hfr : 2 ≤ R.frames) (hlo : W + 25 ≤ R.locals) :
    Back l R p e below s sargs yN len W (fun A₁ a₁ => A₁.cells + 0 ≤ R.cells ∧ A₁.slots + 0 ≤ R.slots ∧ P x t V cd n f z a₁ A₁.U) (fun A₁ _ v₁ B₁ => E n v₁ A₁.U B₁.U ∧ B₁.locs = A₁.locs ++ [] ∧ B₁.cells = A₁.cells + 0 ∧ B₁.slots = A₁.slots + 0) :=
  (law l x t V cd n f z).pays htab hfr (by omega)
end Len
namespace IsL
def yN : MethodName := ⟨"java/lang/String", "isLatin1", "()Z"⟩
abbrev yB : ByteArray := jdk_42_method_154_code
theorem d0 : decode yB 0 = .ok (.getstatic 38, 3) := by decide +kernel
theorem d3 : decode yB 3 = .ok (.ifCond (.eq) 14, 3) := by decide +kernel
theorem d6 : decode yB 6 = .ok (.aload_n 0, 1) := by decide +kernel
theorem d7 : decode yB 7 = .ok (.getfield 15, 3) := by decide +kernel
theorem d10 : decode yB 10 = .ok (.ifCond (.ne) 7, 3) := by decide +kernel
theorem d13 : decode yB 13 = .ok (.iconst 1, 1) := by decide +kernel
theorem d14 : decode yB 14 = .ok (.goto 4, 3) := by decide +kernel
theorem d17 : decode yB 17 = .ok (.iconst 0, 1) := by decide +kernel
theorem d18 : decode yB 18 = .ok (.ireturn, 1) := by decide +kernel
def site : List Cond := [.fieldLink "java/lang/String" 38 "java/lang/String" "COMPACT_STRINGS" "Z", .fieldLink "java/lang/String" 15 "java/lang/String" "coder" "B"]
def tab : Cond := tabOf yN yB 1 (some .boolean) site
def P (x : Addr) (cd z : Int32) (args : Array Value) (s : State) : Prop := args = #[.ref x] ∧ Has x "java/lang/String" "coder" "B" (.int cd) s ∧ (cd = 0 ∨ cd = 1) ∧ StaticIs s "java/lang/String" "COMPACT_STRINGS" "Z" (.int z) ∧ ¬ z = 0
def E (cd : Int32) (r : Option Value) (s u : State) : Prop := XT.PureE (some (.int (1 - cd))) r s u
theorem law (l : Launch) (x : Addr) (cd z : Int32) : Law l yN 1 0 0 0 yB 1 (some .boolean) site (P x cd z) (E cd) [] 0 0 := by
  refine Law.of_walk (plainFor_of_name (by decide +kernel)) (by decide +kernel) (by decide +kernel) (by decide) (fun _ _ h => by rw [h.1]; rfl) (fun _ U U' hal hh h => ⟨h.1, h.2.1.mv hal hh, h.2.2.1, h.2.2.2.1.there hal hh, h.2.2.2.2⟩) (fun r U U' V V' h1 hal h2 h => XT.PureE.mv r U U' V V' h1 hal h2 h) ?_
  intro p e s m args below meth c s₁ X0 hexec hbytes hml hret hlk hnm hown hh0 W hP
  obtain ⟨rfl, hx, hc, s1, hz⟩ := hP
  have c1 : Steps p.tables e below (s₁.setTop (entryFrame m #[.ref x] 1)) (s₁.setTop (mkF m 0 #[.val (.ref x)] [])) := entry rfl
  obtain ⟨T2, X2, q2, st2⟩ := X0.sget hexec hown (wk W (.fieldLink "java/lang/String" 38 "java/lang/String" "COMPACT_STRINGS" "Z")) s1 (fun _ _ h => by rw [hh0]; exact h) (g := (mkF m 0 #[.val (.ref x)] [])) rfl (hb hbytes d0)
  have hh2 := q2.trans hh0
  have c3 : Steps p.tables e below (s₁.setTop (entryFrame m #[.ref x] 1)) (T2.setTop (mkF m 7 #[.val (.ref x)] [.ref x])) := (c1.trans (st2 _ (Steps.refl _))).trans (by
    refine XS.ifNo X2.here hexec rfl (hb hbytes d3) rfl (i0_eq_f hz) ?_
    refine XS.aloadN X2.here hexec rfl (hb hbytes d6) rfl rfl ?_
    exact Steps.refl _)
  obtain ⟨T4, X4, q4, st4⟩ := X2.hget hexec hown (wk W (.fieldLink "java/lang/String" 15 "java/lang/String" "coder" "B")) (hx.mv X2.warmed.alike hh2) (g := (mkF m 7 #[.val (.ref x)] [.ref x])) rfl (rest := []) rfl (hb hbytes d7)
  have c5 : Steps p.tables e below (s₁.setTop (entryFrame m #[.ref x] 1)) (T4.setTop (mkF m 10 #[.val (.ref x)] [.int cd])) := c3.trans (st4 _ (Steps.refl _))
  have c6 : Steps p.tables e below (s₁.setTop (entryFrame m #[.ref x] 1)) (T4.setTop (mkF m 18 #[.val (.ref x)] [.int (1 - cd)])) := by
    rcases hc with rfl | rfl
    · exact c5.trans (by
        refine XS.ifNo X4.here hexec rfl (hb hbytes d10) rfl (i0_ne_f rfl) ?_
        refine iconstV X4.here hexec rfl 1 (hb hbytes d13) (by decide) ?_
        refine XS.goto X4.here hexec rfl (pc0 := 14) rfl (hb hbytes d14) (by decide) rfl ?_
        exact Steps.refl _)
    · exact c5.trans (by
        refine XS.ifYes X4.here hexec rfl (pc0 := 10) rfl (hb hbytes d10) rfl (i0_ne_t (by decide)) (by decide) rfl ?_
        refine iconstV X4.here hexec rfl 0 (hb hbytes d17) (by decide) ?_
        exact Steps.refl _)
  exact ⟨T4, some (.int (1 - cd)), _, _, _, X4, rfl, rfl, rfl, (fun h => by cases h), ⟨rfl, q4.trans hh2⟩, fun fs hl => c6.trans (X4.ireturnOut hexec hret (by rcases hc with rfl | rfl <;> rfl) (Or.inr (Or.inl rfl)) (hb hbytes d18) hl)⟩
end IsL
namespace LChA
def yN : MethodName := ⟨"java/lang/StringLatin1", "charAt", "([BI)C"⟩
abbrev yB : ByteArray := jdk_43_method_2_code
theorem d0 : decode yB 0 = .ok (.iload_n 1, 1) := by decide +kernel
theorem d1 : decode yB 1 = .ok (.aload_n 0, 1) := by decide +kernel
theorem d2 : decode yB 2 = .ok (.arraylength, 1) := by decide +kernel
theorem d3 : decode yB 3 = .ok (.invokestatic 9, 3) := by decide +kernel
theorem d6 : decode yB 6 = .ok (.aload_n 0, 1) := by decide +kernel
theorem d7 : decode yB 7 = .ok (.iload_n 1, 1) := by decide +kernel
theorem d8 : decode yB 8 = .ok (.baload, 1) := by decide +kernel
theorem d9 : decode yB 9 = .ok (.sipush 255, 3) := by decide +kernel
theorem d12 : decode yB 12 = .ok (.iand, 1) := by decide +kernel
theorem d13 : decode yB 13 = .ok (.i2c, 1) := by decide +kernel
theorem d14 : decode yB 14 = .ok (.ireturn, 1) := by decide +kernel
def site : List Cond := [JO.Str_checkIndex.tab] ++ staticW "java/lang/StringLatin1" 9 JO.Str_checkIndex.yN
def tab : Cond := tabOf yN yB 2 (some .char) site
def P (t : Addr) (V : Cell) (i : Nat) (u : Int32) (fm : Value) (args : Array Value) (s : State) : Prop := args = #[.ref t, .int (Int32.ofNat i)] ∧ XT.Arr .byte t V s ∧ V.slots[i]? = some (.int u) ∧ (StaticIs s "jdk/internal/util/Preconditions" "SIOOBE_FORMATTER" "Ljava/util/function/BiFunction;" fm ∧ fm.isRef = true)
def E (u : Int32) (r : Option Value) (s w : State) : Prop := XT.PureE (some (.int (chr8 u))) r s w
theorem law (l : Launch) (t : Addr) (V : Cell) (i : Nat) (u : Int32) (fm : Value) : Law l yN 2 2 2 27 yB 2 (some .char) site (P t V i u fm) (E u) [] 0 0 := by
  refine Law.of_walk (plainFor_of_name (by decide +kernel)) (by decide +kernel) (by decide +kernel) (by decide) (fun _ _ h => by rw [h.1]; rfl) (fun _ U U' hal hh h => ⟨h.1, h.2.1.mv hal hh, h.2.2.1, h.2.2.2.1.there hal hh, h.2.2.2.2⟩) (fun r U U' V V' h1 hal h2 h => XT.PureE.mv r U U' V V' h1 hal h2 h) ?_
  intro p e s m args below meth c s₁ X0 hexec hbytes hml hret hlk hnm hown hh0 W hP
  obtain ⟨rfl, hV, hu, s1, rf⟩ := hP
  have v31 := hV.2.2.2
  have hi : i < V.slots.size := (Array.getElem?_eq_some_iff.mp hu).1
  have c1 : Steps p.tables e below (s₁.setTop (entryFrame m #[.ref t, .int (Int32.ofNat i)] 2)) (s₁.setTop (mkF m 0 #[.val (.ref t), .val (.int (Int32.ofNat i))] [])) := entry rfl
  have c2 : Steps p.tables e below (s₁.setTop (entryFrame m #[.ref t, .int (Int32.ofNat i)] 2)) (s₁.setTop (mkF m 3 #[.val (.ref t), .val (.int (Int32.ofNat i))] [.int (Int32.ofNat V.slots.size), .int (Int32.ofNat i)])) := c1.trans (by
    refine XS.iloadN X0.here hexec rfl (hb hbytes d0) rfl ?_
    refine XS.aloadN X0.here hexec rfl (hb hbytes d1) rfl rfl ?_
    refine X0.alen hexec (hV.mv X0.warmed.alike hh0) rfl rfl (hb hbytes d2) ?_
    exact Steps.refl _)
  obtain ⟨v3, T3, X3, E3, g3⟩ := X0.callS hexec (JO.Str_checkIndex.law l (Int32.ofNat i) (Int32.ofNat V.slots.size) fm) hown (wks W (staticW "java/lang/StringLatin1" 9 JO.Str_checkIndex.yN)) (wk W JO.Str_checkIndex.tab) (W := 0) (Nat.le_of_ble_eq_true rfl) (Nat.le_of_ble_eq_true rfl) (Nat.le_refl _) (Nat.le_refl _) (g := (mkF m 3 #[.val (.ref t), .val (.int (Int32.ofNat i))] [.int (Int32.ofNat V.slots.size), .int (Int32.ofNat i)])) rfl (by rw [hml]; rfl) c2 (argsL := [.int (Int32.ofNat i), .int (Int32.ofNat V.slots.size)]) (rest := []) rfl rfl (by show 2 * 0 + 0 ≤ _; decide) (hb hbytes d3) (⟨rfl, rf, s1.there X0.warmed.alike hh0, Int32.ofNat_not_neg (by omega), lt32 v31 hi⟩)
  obtain ⟨rfl, q3⟩ := E3
  have hh3 := q3.trans hh0
  have c4 : Steps p.tables e below (s₁.setTop (entryFrame m #[.ref t, .int (Int32.ofNat i)] 2)) (T3.setTop (mkF m 14 #[.val (.ref t), .val (.int (Int32.ofNat i))] [.int (chr8 u)])) := Steps.trans g3 (by
    refine XS.aloadN X3.here hexec rfl (hb hbytes d6) rfl rfl ?_
    refine XS.iloadN X3.here hexec rfl (hb hbytes d7) rfl ?_
    refine X3.aget hexec (hV.mv X3.warmed.alike hh3) rfl hu rfl rfl (hb hbytes d8) ?_
    refine sipushV X3.here hexec rfl 255 (hb hbytes d9) (by decide) ?_
    refine XS.iand X3.here hexec rfl (hb hbytes d12) rfl ?_
    refine i2c X3.here hexec rfl (hb hbytes d13) rfl ?_
    exact Steps.refl _)
  exact ⟨T3, some (.int (chr8 u)), _, _, _, X3, rfl, rfl, rfl, (fun h => by cases h), ⟨rfl, hh3⟩, fun fs hl => c4.trans (X3.ireturnOut hexec hret (narrow_c _) (Or.inr (Or.inr (Or.inr (Or.inl rfl)))) (hb hbytes d14) hl)⟩
end LChA
end StrChars
namespace StrChars.Road
open Jvm Sem ClassFile Op Lib Jvm.Stand Jvm.Free Jvm.Free.XT
open Jvm.Lib.Cold (StaticIs)
theorem consq {a : Array Value} {s : State} {c : Jvm.Cond} {L : List Jvm.Cond} (h0 : c.before a s = true) (h : ∀ w ∈ L, w.before a s = true) : ∀ w ∈ c :: L, w.before a s = true := fun w hw => (List.mem_cons.mp hw).elim (fun e => e ▸ h0) (h w)
/-- the words of String.length(), either coding -/
abbrev wordsLen : List Jvm.Cond := [.code Len.yN Len.yB 1 (some .int), .initialized ST, .fieldLink ST 9 ST "value" "[B", .fieldLink ST 38 ST "COMPACT_STRINGS" "Z", .fieldLink ST 15 ST "coder" "B", .code Cdr.yN Cdr.yB 1 (some .byte), .methodLink ST 335 Cdr.yN, .declares Cdr.yN, .selects ST Cdr.yN Cdr.yN, .instanceMethod Cdr.yN]
theorem tabLen_of {a : Array Value} {s : State} (h : ∀ w ∈ wordsLen, w.before a s = true) : Len.tab.before a s = true := by
  have hc : Cdr.tab.before a s = true := unparts (wk h (.code Cdr.yN Cdr.yB 1 (some .byte))) (wks h (.initialized Cdr.yN.cls :: Cdr.site))
  have q := consq hc h
  exact unparts (wk q (.code Len.yN Len.yB 1 (some .int))) (wks q (.initialized Len.yN.cls :: Len.site))
theorem movedLen {Z s : State} {a0 args : Array Value} (hZ : Z.Warmed39 s.vm) (hw : ∀ d ∈ wordsLen, d.before a0 Z = true) : ∀ d ∈ wordsLen, d.before args s = true := fun d hd => by
  have q := hw d hd
  have t : ∀ d ∈ wordsLen, d = .arrayClass .byte ∨ (d.onTables && d.keepsFace) = true := by decide +kernel
  rcases t d hd with rfl | t
  · exact RoadKit.mvA hZ q
  · exact RoadKit.mv hZ q t
/-- the bytes of the chars cs, low before high -/
def wideBytes : List Int32 → List Value
  | [] => []
  | c :: cs => .int (lo8 c) :: .int (hi8 c) :: wideBytes cs
theorem wide_lo (d : Value) : ∀ (cs : List Int32) (j : Nat), j < cs.length → (wideBytes cs).getD (2 * j) d = .int (lo8 (cs.getD j 0))
  | [], j, h => absurd h (Nat.not_lt_zero j)
  | c :: cs, 0, _ => rfl
  | c :: cs, j + 1, h => by
    have q := wide_lo d cs j (by simpa using h)
    rw [show 2 * (j + 1) = 2 * j + 1 + 1 from by omega]
    simpa [wideBytes] using q
theorem wide_hi (d : Value) : ∀ (cs : List Int32) (j : Nat), j < cs.length → (wideBytes cs).getD (2 * j + 1) d = .int (hi8 (cs.getD j 0))
  | [], j, h => absurd h (Nat.not_lt_zero j)
  | c :: cs, 0, _ => rfl
  | c :: cs, j + 1, h => by
    have q := wide_hi d cs j (by simpa using h)
    rw [show 2 * (j + 1) + 1 = 2 * j + 1 + 1 + 1 from by omega]
    simpa [wideBytes] using q
theorem low_at (d : Value) (cs : List Int32) (j : Nat) (h : j < cs.length) : (cs.map fun c => Value.int (lo8 c)).getD j d = .int (lo8 (cs.getD j 0)) := by
  simp [List.getD_eq_getElem?_getD, h]
/-- an array of N2 bytes vs codes the chars cs by the coder cd -/
def CodA (cs : List Int32) (cd N2 : Int32) (vs : List Value) : Prop := (cd = 0 ∧ N2 = Int32.ofNat cs.length ∧ vs = (cs.map fun c => Value.int (lo8 c)) ∧ ∀ c ∈ cs, ¬ 255 < c) ∨ (cd = 1 ∧ N2 = Int32.ofNat (2 * cs.length) ∧ vs = wideBytes cs ∧ ∃ c ∈ cs, 255 < c)
theorem CodA.cod {cs : List Int32} {cd N2 : Int32} {vs : List Value} {V : Cell} (h : CodA cs cd N2 vs) (hn : 2 * cs.length < 2 ^ 31) (hs : V.slots.size = N2.toNatClampNeg) (hv : RoadKit.Has V vs (.int 0)) : Cod cd cs.length (fun j => cs.getD j 0) V := by
  rcases h with ⟨rfl, rfl, rfl, h⟩ | ⟨rfl, rfl, rfl, c, hc, hw⟩
  · rw [n32 (by omega)] at hs
    exact Or.inl ⟨rfl, hs, fun j hj => ⟨by rw [hv j (by omega), low_at _ _ _ hj], by
      have e : cs.getD j 0 = cs[j] := by simp [List.getD_eq_getElem?_getD, hj]
      show ¬ 255 < cs.getD j 0
      rw [e]; exact h _ (List.getElem_mem _)⟩⟩
  · rw [n32 (by omega)] at hs
    obtain ⟨j, hj, rfl⟩ := List.getElem_of_mem hc
    exact Or.inr ⟨rfl, hs, fun j hj => ⟨by rw [hv _ (by omega), wide_lo _ _ _ hj], by rw [hv _ (by omega), wide_hi _ _ _ hj]⟩, j, hj, by
      have e : cs.getD j 0 = cs[j] := by simp [List.getD_eq_getElem?_getD, hj]
      show 255 < cs.getD j 0
      rw [e]; exact hw⟩
/-- an object of exactly java/lang/String, its two fields found: as the laws ask it -/
theorem strObj {Z U : State} {a0 : Array Value} {kI : Nat} (wi : (Jvm.Cond.instantiable ST kI).before a0 Z = true) (al : Z.vm.Alike U.vm) {x : Addr} {v0 c0 : Value} (E : RoadKit.Exa Z U.heap x ST) (V : RoadKit.Fld Z U.heap x ST "value" "[B" v0) (C : RoadKit.Fld Z U.heap x ST "coder" "B" c0) :
    ∃ (D : Cell) (fV fC : Field), Blank ST x D U ∧ Found ST "value" "[B" fV U ∧ Found ST "coder" "B" fC U ∧ D.slots[fV.slot]? = some v0 ∧ D.slots[fC.slot]? = some c0 ∧ RoadKit.slotOf Z ST "value" "[B" = fV.slot ∧ RoadKit.slotOf Z ST "coder" "B" = fC.slot := by
  obtain ⟨D, cfV, kV, iV, fV, hD, gV, stV, knV, obV, asV, slV⟩ := V
  obtain ⟨D', cfC, kC, iC, fC, hD', gC, stC, -, -, asC, slC⟩ := C
  cases hD.symm.trans hD'
  obtain ⟨D2, kD, e1, e2, e3, e4, e5⟩ := E
  cases hD.symm.trans e1
  obtain ⟨c2, k2, i1, i2, i3, -⟩ := Cond.instantiable_spec wi
  cases e2.symm.trans i1
  cases e3.symm.trans i2
  obtain ⟨kU, u1, u2⟩ := al.2.2 _ _ e3
  exact ⟨D, fV, fC, ⟨hD, ⟨knV, fun q hq => by rw [hq] at obV; cases obV⟩, by rw [al.findClass]; exact e2, kU, u1, by rw [u2]; exact i3, by rw [u2]; exact e5 i3⟩, ⟨SBG.found_only al ⟨cfV, kV, iV, gV⟩, stV⟩, ⟨SBG.found_only al ⟨cfC, kC, iC, gC⟩, stC⟩, slV, slC, by simp [RoadKit.slotOf, gV], by simp [RoadKit.slotOf, gC]⟩
theorem sta_is {Z U : State} (al : Z.vm.Alike U.vm) {C n d : String} {v : Value} (S : RoadKit.Sta Z U.heap C n d v) : StaticIs U C n d v := by
  obtain ⟨cfS, iS, kS, fS, st, cS, t1, t2, t3, t4, t5, t6, t7⟩ := S
  exact StaticIs.there (s := { Z with heap := U.heap }) ⟨cfS, iS, kS, fS, st, cS, t1, t2, t3, t4, t5, (fun q => by rw [q] at t6; cases t6), t7⟩ al rfl
/-- **length() OF SUCH A STRING** -/
theorem lenW {p : Program} {l : Launch} {e : Env} {R : Room} {s : State} {args : Array Value} {below : List Frame} {len W : Nat} {Z : State} {a0 : Array Value} {h : Heap} (hZ : Z.Warmed39 s.vm) (hw : ∀ d ∈ wordsLen, d.before a0 Z = true) {kI : Nat} (wi : (Jvm.Cond.instantiable ST kI).before a0 Z = true)
    {x t : Addr} {kb : ClassId} {cs : List Int32} {cd N2 z : Int32} {vs : List Value} (E : RoadKit.Exa Z h x ST) (V : RoadKit.Fld Z h x ST "value" "[B" (.ref t)) (C : RoadKit.Fld Z h x ST "coder" "B" (.int cd)) (K : RoadKit.Arv Z h t kb .byte N2 vs (.int 0)) (hc : CodA cs cd N2 vs) (hb : ∀ c ∈ cs, ¬ c < 0 ∧ ¬ (65535 : Int32) < c)
    (S : RoadKit.Sta Z h ST "COMPACT_STRINGS" "Z" (.int z)) (hz : ¬ z = 0) (l2 : cs.length ≤ 4000) (hfr : 2 ≤ R.frames) (hlo : W + 25 ≤ R.locals) :
    Back l R p e below s args (⟨"java/lang/String", "length", "()I"⟩ : MethodName) len W (fun P a => a = #[.ref x] ∧ P.U.heap = h ∧ P.cells + 0 ≤ R.cells ∧ P.slots + 0 ≤ R.slots)
      (fun P _ v B => ∃ L, (v = some (.int (Int32.ofNat cs.length)) ∧ L = [] ∧ B.U.heap = h) ∧ B.locs = P.locs ++ L ∧ B.cells = P.cells + 0 ∧ B.slots = P.slots + 0) := by
  obtain ⟨A, K1, K2, K3, K4, K5, K6⟩ := K
  have hcod := hc.cod (by omega) K3 K5
  intro m meth c P g ig mk a X hg hsize hdg hW hn hp'
  obtain ⟨rfl, rfl, r1, r2⟩ := hp'
  have al : Z.vm.Alike P.U.vm := hZ.alike.trans X.warmed.alike
  obtain ⟨D, fV, fC, hB, F1, F2, g1, g2, -, -⟩ := strObj wi al E V C
  have hx : Txt x t A cd cs.length (fun j => cs.getD j 0) P.U := ⟨⟨_, hB.2.2.1, D, hB.1, rfl, by cases q : D.vm <;> first | rfl | exact absurd q (hB.2.1.2 _)⟩, Has.of hB F1 g1, Has.of hB F2 g2, ⟨K1.1, State.isArrayOf_alike al K1.2.1, K1.2.2, by rcases hcod with ⟨-, q, -⟩ | ⟨-, q, -⟩ <;> omega⟩, hcod, fun j hj => by
    have e : cs.getD j 0 = cs[j] := by simp [List.getD_eq_getElem?_getD, hj]
    show ¬ cs.getD j 0 < 0 ∧ ¬ 65535 < cs.getD j 0
    rw [e]; exact hb _ (List.getElem_mem _)⟩
  obtain ⟨v, B, X', ⟨⟨hv, hh⟩, hl, hk, hs⟩, st⟩ := Len.pays x t A cd cs.length (fun j => cs.getD j 0) z (tabLen_of (movedLen hZ hw)) hfr hlo m meth c P g ig mk _ X hg hsize hdg hW hn ⟨r1, r2, rfl, hx, sta_is al S, hz⟩
  exact ⟨v, B, X', ⟨[], ⟨hv, rfl, hh⟩, hl, hk, hs⟩, st⟩
end StrChars.Road
namespace StrChars.Road
open Jvm Sem ClassFile Op Lib Jvm.Stand Jvm.Free Jvm.Free.XT
open Jvm.Lib.Cold (StaticIs)
/-- the road's facts of a String, as the laws ask it -/
theorem txt_of {Z U : State} {a0 : Array Value} {kI : Nat} (wi : (Jvm.Cond.instantiable ST kI).before a0 Z = true) (al : Z.vm.Alike U.vm) {x t : Addr} {kb : ClassId} {cs : List Int32} {cd N2 : Int32} {vs : List Value} (E : RoadKit.Exa Z U.heap x ST) (V : RoadKit.Fld Z U.heap x ST "value" "[B" (.ref t)) (C : RoadKit.Fld Z U.heap x ST "coder" "B" (.int cd)) (K : RoadKit.Arv Z U.heap t kb .byte N2 vs (.int 0)) (hc : CodA cs cd N2 vs) (hb : ∀ c ∈ cs, ¬ c < 0 ∧ ¬ (65535 : Int32) < c) (l2 : cs.length ≤ 4000) :
    ∃ A, Txt x t A cd cs.length (fun j => cs.getD j 0) U := by
  obtain ⟨A, K1, K2, K3, K4, K5, K6⟩ := K
  have hcod := hc.cod (by omega) K3 K5
  obtain ⟨D, fV, fC, hB, F1, F2, g1, g2, -, -⟩ := strObj wi al E V C
  exact ⟨A, ⟨_, hB.2.2.1, D, hB.1, rfl, by cases q : D.vm <;> first | rfl | exact absurd q (hB.2.1.2 _)⟩, Has.of hB F1 g1, Has.of hB F2 g2, ⟨K1.1, State.isArrayOf_alike al K1.2.1, K1.2.2, by rcases hcod with ⟨-, q, -⟩ | ⟨-, q, -⟩ <;> omega⟩, hcod, fun j hj => by
    have e : cs.getD j 0 = cs[j] := by simp [List.getD_eq_getElem?_getD, hj]
    show ¬ cs.getD j 0 < 0 ∧ ¬ 65535 < cs.getD j 0
    rw [e]; exact hb _ (List.getElem_mem _)⟩
end StrChars.Road
namespace StrChars
open Jvm Sem ClassFile Op Lib Jvm.Stand Jvm.Free.XT Jvm.Free.ALB Jvm.Free.JM Jvm.Free
open Jvm.Lib.Cold (StaticIs)
namespace ChN
def yN : MethodName := ⟨"java/lang/String", "charAt", "(I)C"⟩
abbrev yB : ByteArray := jdk_42_method_56_code
theorem d0 : decode yB 0 = .ok (.aload_n 0, 1) := by decide +kernel
theorem d1 : decode yB 1 = .ok (.invokevirtual 492, 3) := by decide +kernel
theorem d4 : decode yB 4 = .ok (.ifCond (.eq) 12, 3) := by decide +kernel
theorem d7 : decode yB 7 = .ok (.aload_n 0, 1) := by decide +kernel
theorem d8 : decode yB 8 = .ok (.getfield 9, 3) := by decide +kernel
theorem d11 : decode yB 11 = .ok (.iload_n 1, 1) := by decide +kernel
theorem d12 : decode yB 12 = .ok (.invokestatic 495, 3) := by decide +kernel
theorem d15 : decode yB 15 = .ok (.ireturn, 1) := by decide +kernel
def site : List Cond := [.fieldLink "java/lang/String" 9 "java/lang/String" "value" "[B", IsL.tab, LChA.tab] ++ virtW "java/lang/String" 492 "java/lang/String" IsL.yN IsL.yN ++ staticW "java/lang/String" 495 LChA.yN
def tab : Cond := tabOf yN yB 2 (some .char) site
def P (x t : Addr) (V : Cell) (n : Nat) (f : Nat → Int32) (z : Int32) (fm : Value) (i : Nat) (args : Array Value) (s : State) : Prop := args = #[.ref x, .int (Int32.ofNat i)] ∧ Txt x t V 0 n f s ∧ i < n ∧ StaticIs s "java/lang/String" "COMPACT_STRINGS" "Z" (.int z) ∧ ¬ z = 0 ∧ StaticIs s "jdk/internal/util/Preconditions" "SIOOBE_FORMATTER" "Ljava/util/function/BiFunction;" fm ∧ fm.isRef = true
def E (f : Nat → Int32) (i : Nat) (r : Option Value) (s u : State) : Prop := XT.PureE (some (.int (f i))) r s u
/-- charAt(i) of a Latin-1 String of n chars, i < n: f i -/
theorem law (l : Launch) (x t : Addr) (V : Cell) (n : Nat) (f : Nat → Int32) (z : Int32) (fm : Value) (i : Nat) : Law l yN 2 1 3 40 yB 2 (some .char) site (P x t V n f z fm i) (E f i) [] 0 0 := by
  refine Law.of_walk (plainFor_of_name (by decide +kernel)) (by decide +kernel) (by decide +kernel) (by decide) (fun _ _ h => by rw [h.1]; rfl) (fun _ U U' hal hh h => ⟨h.1, h.2.1.mv hal hh, h.2.2.1, h.2.2.2.1.there hal hh, h.2.2.2.2.1, h.2.2.2.2.2.1.there hal hh, h.2.2.2.2.2.2⟩) (fun r U U' V V' h1 hal h2 h => XT.PureE.mv r U U' V V' h1 hal h2 h) ?_
  intro p e s m args below meth c s₁ X0 hexec hbytes hml hret hlk hnm hown hh0 W hP
  obtain ⟨rfl, hx, hi, s1, hz, s3, rf⟩ := hP
  have v31 := hx.2.2.2.1.2.2.2
  have hr := hx.2.2.2.2.2 i hi
  have hx0 := hx.mv X0.warmed.alike hh0
  have c1 : Steps p.tables e below (s₁.setTop (entryFrame m #[.ref x, .int (Int32.ofNat i)] 2)) (s₁.setTop (mkF m 1 #[.val (.ref x), .val (.int (Int32.ofNat i))] [.ref x])) := Steps.trans (entry rfl) (by
    show Steps p.tables e below (s₁.setTop (mkF m 0 #[.val (.ref x), .val (.int (Int32.ofNat i))] [])) _
    refine XS.aloadN X0.here hexec rfl (hb hbytes d0) rfl rfl ?_
    exact Steps.refl _)
  obtain ⟨v2, T2, X2, E2, g2⟩ := X0.callV hexec (IsL.law l x 0 z) hown (wks W (virtW "java/lang/String" 492 "java/lang/String" IsL.yN IsL.yN)) rfl (by decide) (wk W IsL.tab) (W := 0) (Nat.le_of_ble_eq_true rfl) (Nat.le_of_ble_eq_true rfl) (Nat.le_refl _) (Nat.le_refl _) (hx0.1.fc X0.warmed.alike) hx0.1.is (g := (mkF m 1 #[.val (.ref x), .val (.int (Int32.ofNat i))] [.ref x])) rfl (by rw [hml]; rfl) c1 (argsL := []) (rest := []) rfl rfl (by show 2 * 0 + 0 ≤ _; decide) (hb hbytes d1) (⟨rfl, hx0.2.2.1, hx.2.2.2.2.1.cd, s1.there X0.warmed.alike hh0, hz⟩)
  obtain ⟨rfl, q2⟩ := E2
  have hh2 := q2.trans hh0
  have hx2 := hx.mv X2.warmed.alike hh2
  obtain ⟨-, k1, k2⟩ | ⟨k0, -⟩ := hx.2.2.2.2.1
  · have c3 : Steps p.tables e below (s₁.setTop (entryFrame m #[.ref x, .int (Int32.ofNat i)] 2)) (T2.setTop (mkF m 8 #[.val (.ref x), .val (.int (Int32.ofNat i))] [.ref x])) := Steps.trans g2 (by
      refine XS.ifNo X2.here hexec rfl (hb hbytes d4) rfl (i0_eq_f (by decide)) ?_
      refine XS.aloadN X2.here hexec rfl (hb hbytes d7) rfl rfl ?_
      exact Steps.refl _)
    obtain ⟨T4, X4, q4, st4⟩ := X2.hget hexec hown (wk W (.fieldLink "java/lang/String" 9 "java/lang/String" "value" "[B")) hx2.2.1 (g := (mkF m 8 #[.val (.ref x), .val (.int (Int32.ofNat i))] [.ref x])) rfl (rest := []) rfl (hb hbytes d8)
    have hh4 := q4.trans hh2
    have c5 : Steps p.tables e below (s₁.setTop (entryFrame m #[.ref x, .int (Int32.ofNat i)] 2)) (T4.setTop (mkF m 12 #[.val (.ref x), .val (.int (Int32.ofNat i))] [.int (Int32.ofNat i), .ref t])) := (c3.trans (st4 _ (Steps.refl _))).trans (by
      refine XS.iloadN X4.here hexec rfl (hb hbytes d11) rfl ?_
      exact Steps.refl _)
    obtain ⟨v6, T6, X6, E6, g6⟩ := X4.callS hexec (LChA.law l t V i (lo8 (f i)) fm) hown (wks W (staticW "java/lang/String" 495 LChA.yN)) (wk W LChA.tab) (W := 0) (Nat.le_of_ble_eq_true rfl) (Nat.le_of_ble_eq_true rfl) (Nat.le_refl _) (Nat.le_refl _) (g := (mkF m 12 #[.val (.ref x), .val (.int (Int32.ofNat i))] [.int (Int32.ofNat i), .ref t])) rfl (by rw [hml]; rfl) c5 (argsL := [.ref t, .int (Int32.ofNat i)]) (rest := []) rfl rfl (by show 2 * 0 + 0 ≤ _; decide) (hb hbytes d12) (⟨rfl, hx.2.2.2.1.mv X4.warmed.alike hh4, (k2 i hi).1, s3.there X4.warmed.alike hh4, rf⟩)
    obtain ⟨rfl, q6⟩ := E6
    rw [chr8_lo8 hr.1 (k2 i hi).2] at g6
    exact ⟨T6, some (.int (f i)), _, _, _, X6, rfl, rfl, rfl, (fun h => by cases h), ⟨rfl, q6.trans hh4⟩, fun fs hl => Steps.trans g6 (X6.ireturnOut hexec hret (narrow_ch hr.1 hr.2) (Or.inr (Or.inr (Or.inr (Or.inl rfl)))) (hb hbytes d15) hl)⟩
  · exact absurd k0 (by decide)
theorem pays {l : Launch} {R : Room} {p : Program} {e : Env} {below : List Frame} {s : State} {sargs : Array Value} {len W : Nat} (x t : Addr) (V : Cell) (n : Nat) (f : Nat → Int32) (z : Int32) (fm : Value) (i : Nat) (htab : tab.before sargs s = true) (hfr : 4 ≤ R.frames) (hlo : W + 53 ≤ R.locals) :
    Back l R p e below s sargs yN len W (fun A₁ a₁ => A₁.cells + 0 ≤ R.cells ∧ A₁.slots + 0 ≤ R.slots ∧ P x t V n f z fm i a₁ A₁.U) (fun A₁ _ v₁ B₁ => E f i v₁ A₁.U B₁.U ∧ B₁.locs = A₁.locs ++ [] ∧ B₁.cells = A₁.cells + 0 ∧ B₁.slots = A₁.slots + 0) :=
  (law l x t V n f z fm i).pays htab hfr (by omega)
end ChN
end StrChars
namespace StrChars.Road
open Jvm Sem ClassFile Op Lib Jvm.Stand Jvm.Free Jvm.Free.XT
open Jvm.Lib.Cold (StaticIs)
/-- the words of String.charAt(int), the Latin-1 road alone -/
abbrev wordsChN : List Jvm.Cond := [.code ChN.yN ChN.yB 2 (some .char), .initialized ST, .fieldLink ST 9 ST "value" "[B", .fieldLink ST 38 ST "COMPACT_STRINGS" "Z", .fieldLink ST 15 ST "coder" "B", .code IsL.yN IsL.yB 1 (some .boolean), .methodLink ST 492 IsL.yN, .declares IsL.yN, .selects ST IsL.yN IsL.yN, .instanceMethod IsL.yN,
  .methodLink ST 495 LChA.yN, .static LChA.yN, .code LChA.yN LChA.yB 2 (some .char), .initialized "java/lang/StringLatin1", .methodLink "java/lang/StringLatin1" 9 JO.Str_checkIndex.yN, .static JO.Str_checkIndex.yN, .code JO.Str_checkIndex.yN JO.Str_checkIndex.yB 2 none,
  .fieldLink ST 1053 "jdk/internal/util/Preconditions" "SIOOBE_FORMATTER" "Ljava/util/function/BiFunction;", .methodLink ST 1059 JC.PreCheck.yN, .static JC.PreCheck.yN, .code JC.PreCheck.yN JC.PreCheck.yB 3 (some .int), .initialized "jdk/internal/util/Preconditions"]
theorem tabChN_of {a : Array Value} {s : State} (h : ∀ w ∈ wordsChN, w.before a s = true) : ChN.tab.before a s = true := by
  have hp : JC.PreCheck.tab.before a s = true := unparts (wk h (.code JC.PreCheck.yN JC.PreCheck.yB 3 (some .int))) (wks h (.initialized JC.PreCheck.yN.cls :: JC.PreCheck.site))
  have qk := consq hp h
  have hk : JO.Str_checkIndex.tab.before a s = true := unparts (wk qk (.code JO.Str_checkIndex.yN JO.Str_checkIndex.yB 2 none)) (wks qk (.initialized JO.Str_checkIndex.yN.cls :: JO.Str_checkIndex.site))
  have ql := consq hk h
  have hl : LChA.tab.before a s = true := unparts (wk ql (.code LChA.yN LChA.yB 2 (some .char))) (wks ql (.initialized LChA.yN.cls :: LChA.site))
  have hi : IsL.tab.before a s = true := unparts (wk h (.code IsL.yN IsL.yB 1 (some .boolean))) (wks h (.initialized IsL.yN.cls :: IsL.site))
  have q := consq hi (consq hl h)
  exact unparts (wk q (.code ChN.yN ChN.yB 2 (some .char))) (wks q (.initialized ChN.yN.cls :: ChN.site))
theorem movedChN {Z s : State} {a0 args : Array Value} (hZ : Z.Warmed39 s.vm) (hw : ∀ d ∈ wordsChN, d.before a0 Z = true) : ∀ d ∈ wordsChN, d.before args s = true := fun d hd => by
  have t : ∀ d ∈ wordsChN, (d.onTables && d.keepsFace) = true := by decide +kernel
  exact RoadKit.mv hZ (hw d hd) (t d hd)
/-- **charAt(i) OF A LATIN-1 STRING**, i < n: the char -/
theorem chN {p : Program} {l : Launch} {e : Env} {R : Room} {s : State} {args : Array Value} {below : List Frame} {len W : Nat} {Z : State} {a0 : Array Value} {h : Heap} (hZ : Z.Warmed39 s.vm) (hw : ∀ d ∈ wordsChN, d.before a0 Z = true) {kI : Nat} (wi : (Jvm.Cond.instantiable ST kI).before a0 Z = true)
    {x t : Addr} {kb : ClassId} {cs : List Int32} {N2 z : Int32} {vs : List Value} {fm : Value} {i : Nat} {j : Int32} (E : RoadKit.Exa Z h x ST) (V : RoadKit.Fld Z h x ST "value" "[B" (.ref t)) (C : RoadKit.Fld Z h x ST "coder" "B" (.int 0)) (K : RoadKit.Arv Z h t kb .byte N2 vs (.int 0)) (hc : CodA cs 0 N2 vs) (hb : ∀ c ∈ cs, ¬ c < 0 ∧ ¬ (65535 : Int32) < c)
    (S : RoadKit.Sta Z h ST "COMPACT_STRINGS" "Z" (.int z)) (hz : ¬ z = 0) (F : RoadKit.Sta Z h "jdk/internal/util/Preconditions" "SIOOBE_FORMATTER" "Ljava/util/function/BiFunction;" fm) (rf : fm.isRef = true) (l2 : cs.length ≤ 4000) (hi : i < cs.length) (hj : j = Int32.ofNat i) (hfr : 4 ≤ R.frames) (hlo : W + 53 ≤ R.locals) :
    Back l R p e below s args (⟨"java/lang/String", "charAt", "(I)C"⟩ : MethodName) len W (fun P a => a = #[.ref x, .int j] ∧ P.U.heap = h ∧ P.cells + 0 ≤ R.cells ∧ P.slots + 0 ≤ R.slots)
      (fun P _ v B => ∃ L, (v = some (.int (cs.getD i 0)) ∧ L = [] ∧ B.U.heap = h) ∧ B.locs = P.locs ++ L ∧ B.cells = P.cells + 0 ∧ B.slots = P.slots + 0) := by
  subst hj
  intro m meth c P g ig mk a X hg hsize hdg hW hn hp'
  obtain ⟨rfl, rfl, r1, r2⟩ := hp'
  have al : Z.vm.Alike P.U.vm := hZ.alike.trans X.warmed.alike
  obtain ⟨A, hx⟩ := txt_of wi al E V C K hc hb l2
  obtain ⟨v, B, X', ⟨⟨hv, hh⟩, hl, hk, hs⟩, st⟩ := ChN.pays x t A cs.length (fun j => cs.getD j 0) z fm i (tabChN_of (movedChN hZ hw)) hfr hlo m meth c P g ig mk _ X hg hsize hdg hW hn ⟨r1, r2, rfl, hx, hi, sta_is al S, hz, sta_is al F, rf⟩
  exact ⟨v, B, X', ⟨[], ⟨hv, rfl, hh⟩, hl, hk, hs⟩, st⟩
end StrChars.Road
end Jvm.Pilot.@@N@@
namespace Jvm.Pilot.@@N@@
open Jvm Jvm.ClassFile Sem Op Lib Jvm.Free Jvm.Stand Jvm.LawKit Jvm.RoadKit Bundle Jvm.OwnGo Jvm.Pilot.@@N@@.Jvm.D
theorem w_0 : (Jvm.Cond.classLink "com/example/shapewalk/shapewalk/cli/OptionsMissingPinLaw" (7 : Nat) "java/lang/String") ∈ tables_1 := List.mem_of_getElem? (i := 0) rfl
theorem w_1 : (Jvm.Cond.instantiable "java/lang/String" (4 : Nat)) ∈ tables_1 := List.mem_of_getElem? (i := 1) rfl
theorem w_2 : (Jvm.Cond.initialized "java/lang/String") ∈ tables_1 := List.mem_of_getElem? (i := 2) rfl
theorem w_3 : (Jvm.Cond.arrayClass Jvm.ClassFile.FieldType.char) ∈ tables_1 := List.mem_of_getElem? (i := 3) rfl
theorem w_4 : (Jvm.Cond.methodLink "com/example/shapewalk/shapewalk/cli/OptionsMissingPinLaw" (9 : Nat) ({ cls := "java/lang/String", name := "<init>", desc := "([C)V" } : Jvm.MethodName)) ∈ tables_1 := List.mem_of_getElem? (i := 4) rfl
theorem w_5 : (Jvm.Cond.instanceMethod ({ cls := "java/lang/String", name := "<init>", desc := "([C)V" } : Jvm.MethodName)) ∈ tables_1 := List.mem_of_getElem? (i := 5) rfl
theorem w_6 : (Jvm.Cond.code ({ cls := "java/lang/String", name := "<init>", desc := "([C)V" } : Jvm.MethodName) jdk_42_method_3_code (2 : Nat) (Option.none : Option Jvm.ClassFile.FieldType)) ∈ tables_1 := List.mem_of_getElem? (i := 6) rfl
theorem w_7 : (Jvm.Cond.methodLink "java/lang/String" (27 : Nat) ({ cls := "java/lang/String", name := "<init>", desc := "([CIILjava/lang/Void;)V" } : Jvm.MethodName)) ∈ tables_1 := List.mem_of_getElem? (i := 7) rfl
theorem w_8 : (Jvm.Cond.instanceMethod ({ cls := "java/lang/String", name := "<init>", desc := "([CIILjava/lang/Void;)V" } : Jvm.MethodName)) ∈ tables_1 := List.mem_of_getElem? (i := 8) rfl
theorem w_10 : (Jvm.Cond.code ({ cls := "java/lang/String", name := "<init>", desc := "([CIILjava/lang/Void;)V" } : Jvm.MethodName) jdk_42_method_149_code (6 : Nat) (Option.none : Option Jvm.ClassFile.FieldType)) ∈ tables_1 := List.mem_of_getElem? (i := 10) rfl
theorem w_11 : (Jvm.Cond.methodLink "java/lang/String" (1 : Nat) ({ cls := "java/lang/Object", name := "<init>", desc := "()V" } : Jvm.MethodName)) ∈ tables_1 := List.mem_of_getElem? (i := 11) rfl
theorem w_12 : (Jvm.Cond.instanceMethod ({ cls := "java/lang/Object", name := "<init>", desc := "()V" } : Jvm.MethodName)) ∈ tables_1 := List.mem_of_getElem? (i := 12) rfl
theorem w_13 : (Jvm.Cond.code ({ cls := "java/lang/Object", name := "<init>", desc := "()V" } : Jvm.MethodName) object_method_1_code (1 : Nat) (Option.none : Option Jvm.ClassFile.FieldType)) ∈ tables_1 := List.mem_of_getElem? (i := 13) rfl
theorem w_14 : (Jvm.Cond.stringLink "java/lang/String" (7 : Nat) "") ∈ tables_1 := List.mem_of_getElem? (i := 14) rfl
theorem w_15 : (Jvm.Cond.arrayClass Jvm.ClassFile.FieldType.byte) ∈ tables_1 := List.mem_of_getElem? (i := 15) rfl
theorem w_16 : (Jvm.Cond.laysFinal "java/lang/String" "java/lang/String" "value" "[B") ∈ tables_1 := List.mem_of_getElem? (i := 16) rfl
theorem w_17 : (Jvm.Cond.laysFinal "java/lang/String" "java/lang/String" "coder" "B") ∈ tables_1 := List.mem_of_getElem? (i := 17) rfl
theorem w_20 : (Jvm.Cond.fieldLink "java/lang/String" (9 : Nat) "java/lang/String" "value" "[B") ∈ tables_1 := List.mem_of_getElem? (i := 20) rfl
theorem w_21 : (Jvm.Cond.fieldLink "java/lang/String" (15 : Nat) "java/lang/String" "coder" "B") ∈ tables_1 := List.mem_of_getElem? (i := 21) rfl
theorem w_22 : (Jvm.Cond.methodLink "com/example/shapewalk/shapewalk/cli/OptionsMissingPinLaw" (16 : Nat) ({ cls := "com/example/shapewalk/shapewalk/cli/Options", name := "missing", desc := "(Ljava/lang/String;)Lcom/example/shapewalk/shapewalk/cli/UsageException;" } : Jvm.MethodName)) ∈ tables_1 := List.mem_of_getElem? (i := 22) rfl
theorem w_23 : (Jvm.Cond.static ({ cls := "com/example/shapewalk/shapewalk/cli/Options", name := "missing", desc := "(Ljava/lang/String;)Lcom/example/shapewalk/shapewalk/cli/UsageException;" } : Jvm.MethodName)) ∈ tables_1 := List.mem_of_getElem? (i := 23) rfl
theorem w_24 : (Jvm.Cond.initialized "com/example/shapewalk/shapewalk/cli/Options") ∈ tables_1 := List.mem_of_getElem? (i := 24) rfl
theorem w_25 : (Jvm.Cond.code ({ cls := "com/example/shapewalk/shapewalk/cli/Options", name := "missing", desc := "(Ljava/lang/String;)Lcom/example/shapewalk/shapewalk/cli/UsageException;" } : Jvm.MethodName) prog_4_method_3_code (1 : Nat) (Option.some (Jvm.ClassFile.FieldType.object "com/example/shapewalk/shapewalk/cli/UsageException"))) ∈ tables_1 := List.mem_of_getElem? (i := 25) rfl
theorem w_26 : (Jvm.Cond.classLink "com/example/shapewalk/shapewalk/cli/Options" (57 : Nat) "com/example/shapewalk/shapewalk/cli/UsageException") ∈ tables_1 := List.mem_of_getElem? (i := 26) rfl
theorem w_27 : (Jvm.Cond.instantiable "com/example/shapewalk/shapewalk/cli/UsageException" (6 : Nat)) ∈ tables_1 := List.mem_of_getElem? (i := 27) rfl
theorem w_28 : (Jvm.Cond.initialized "com/example/shapewalk/shapewalk/cli/UsageException") ∈ tables_1 := List.mem_of_getElem? (i := 28) rfl
theorem w_29 : (Jvm.Cond.classLink "com/example/shapewalk/shapewalk/cli/Options" (59 : Nat) "java/lang/StringBuilder") ∈ tables_1 := List.mem_of_getElem? (i := 29) rfl
theorem w_30 : (Jvm.Cond.instantiable "java/lang/StringBuilder" (4 : Nat)) ∈ tables_1 := List.mem_of_getElem? (i := 30) rfl
theorem w_31 : (Jvm.Cond.initialized "java/lang/StringBuilder") ∈ tables_1 := List.mem_of_getElem? (i := 31) rfl
theorem w_32 : (Jvm.Cond.methodLink "com/example/shapewalk/shapewalk/cli/Options" (61 : Nat) ({ cls := "java/lang/StringBuilder", name := "<init>", desc := "()V" } : Jvm.MethodName)) ∈ tables_1 := List.mem_of_getElem? (i := 32) rfl
theorem w_33 : (Jvm.Cond.instanceMethod ({ cls := "java/lang/StringBuilder", name := "<init>", desc := "()V" } : Jvm.MethodName)) ∈ tables_1 := List.mem_of_getElem? (i := 33) rfl
theorem w_34 : (Jvm.Cond.code ({ cls := "java/lang/StringBuilder", name := "<init>", desc := "()V" } : Jvm.MethodName) jdk_67_method_1_code (1 : Nat) (Option.none : Option Jvm.ClassFile.FieldType)) ∈ tables_1 := List.mem_of_getElem? (i := 34) rfl
theorem w_35 : (Jvm.Cond.methodLink "java/lang/StringBuilder" (1 : Nat) ({ cls := "java/lang/AbstractStringBuilder", name := "<init>", desc := "(I)V" } : Jvm.MethodName)) ∈ tables_1 := List.mem_of_getElem? (i := 35) rfl
theorem w_36 : (Jvm.Cond.instanceMethod ({ cls := "java/lang/AbstractStringBuilder", name := "<init>", desc := "(I)V" } : Jvm.MethodName)) ∈ tables_1 := List.mem_of_getElem? (i := 36) rfl
theorem w_39 : (Jvm.Cond.initialized "java/lang/AbstractStringBuilder") ∈ tables_1 := List.mem_of_getElem? (i := 39) rfl
theorem w_40 : (Jvm.Cond.code ({ cls := "java/lang/AbstractStringBuilder", name := "<init>", desc := "(I)V" } : Jvm.MethodName) jdk_68_method_2_code (2 : Nat) (Option.none : Option Jvm.ClassFile.FieldType)) ∈ tables_1 := List.mem_of_getElem? (i := 40) rfl
theorem w_41 : (Jvm.Cond.methodLink "java/lang/AbstractStringBuilder" (3 : Nat) ({ cls := "java/lang/Object", name := "<init>", desc := "()V" } : Jvm.MethodName)) ∈ tables_1 := List.mem_of_getElem? (i := 41) rfl
theorem w_42 : (Jvm.Cond.fieldLink "java/lang/AbstractStringBuilder" (18 : Nat) "java/lang/String" "COMPACT_STRINGS" "Z") ∈ tables_1 := List.mem_of_getElem? (i := 42) rfl
theorem w_43 : (Jvm.Cond.fieldLink "java/lang/AbstractStringBuilder" (15 : Nat) "java/lang/AbstractStringBuilder" "value" "[B") ∈ tables_1 := List.mem_of_getElem? (i := 43) rfl
theorem w_44 : (Jvm.Cond.lays "java/lang/StringBuilder" "java/lang/AbstractStringBuilder" "value" "[B") ∈ tables_1 := List.mem_of_getElem? (i := 44) rfl
theorem w_45 : (Jvm.Cond.fieldLink "java/lang/AbstractStringBuilder" (22 : Nat) "java/lang/AbstractStringBuilder" "coder" "B") ∈ tables_1 := List.mem_of_getElem? (i := 45) rfl
theorem w_46 : (Jvm.Cond.lays "java/lang/StringBuilder" "java/lang/AbstractStringBuilder" "coder" "B") ∈ tables_1 := List.mem_of_getElem? (i := 46) rfl
theorem w_47 : (Jvm.Cond.methodLink "com/example/shapewalk/shapewalk/cli/Options" (62 : Nat) ({ cls := "java/lang/StringBuilder", name := "append", desc := "(Ljava/lang/String;)Ljava/lang/StringBuilder;" } : Jvm.MethodName)) ∈ tables_1 := List.mem_of_getElem? (i := 47) rfl
theorem w_48 : (Jvm.Cond.declares ({ cls := "java/lang/StringBuilder", name := "append", desc := "(Ljava/lang/String;)Ljava/lang/StringBuilder;" } : Jvm.MethodName)) ∈ tables_1 := List.mem_of_getElem? (i := 48) rfl
theorem w_49 : (Jvm.Cond.instanceMethod ({ cls := "java/lang/StringBuilder", name := "append", desc := "(Ljava/lang/String;)Ljava/lang/StringBuilder;" } : Jvm.MethodName)) ∈ tables_1 := List.mem_of_getElem? (i := 49) rfl
theorem w_50 : (Jvm.Cond.selects "java/lang/StringBuilder" ({ cls := "java/lang/StringBuilder", name := "append", desc := "(Ljava/lang/String;)Ljava/lang/StringBuilder;" } : Jvm.MethodName) ({ cls := "java/lang/StringBuilder", name := "append", desc := "(Ljava/lang/String;)Ljava/lang/StringBuilder;" } : Jvm.MethodName)) ∈ tables_1 := List.mem_of_getElem? (i := 50) rfl
theorem w_51 : (Jvm.Cond.code ({ cls := "java/lang/StringBuilder", name := "append", desc := "(Ljava/lang/String;)Ljava/lang/StringBuilder;" } : Jvm.MethodName) jdk_67_method_7_code (2 : Nat) (Option.some (Jvm.ClassFile.FieldType.object "java/lang/StringBuilder"))) ∈ tables_1 := List.mem_of_getElem? (i := 51) rfl
theorem w_52 : (Jvm.Cond.methodLink "java/lang/StringBuilder" (29 : Nat) ({ cls := "java/lang/AbstractStringBuilder", name := "append", desc := "(Ljava/lang/String;)Ljava/lang/AbstractStringBuilder;" } : Jvm.MethodName)) ∈ tables_1 := List.mem_of_getElem? (i := 52) rfl
theorem w_53 : (Jvm.Cond.instanceMethod ({ cls := "java/lang/AbstractStringBuilder", name := "append", desc := "(Ljava/lang/String;)Ljava/lang/AbstractStringBuilder;" } : Jvm.MethodName)) ∈ tables_1 := List.mem_of_getElem? (i := 53) rfl
theorem w_54 : (Jvm.Cond.superclass "java/lang/StringBuilder" "java/lang/AbstractStringBuilder") ∈ tables_1 := List.mem_of_getElem? (i := 54) rfl
theorem w_55 : (Jvm.Cond.declares ({ cls := "java/lang/AbstractStringBuilder", name := "append", desc := "(Ljava/lang/String;)Ljava/lang/AbstractStringBuilder;" } : Jvm.MethodName)) ∈ tables_1 := List.mem_of_getElem? (i := 55) rfl
theorem w_56 : (Jvm.Cond.code ({ cls := "java/lang/AbstractStringBuilder", name := "append", desc := "(Ljava/lang/String;)Ljava/lang/AbstractStringBuilder;" } : Jvm.MethodName) jdk_68_method_22_code (3 : Nat) (Option.some (Jvm.ClassFile.FieldType.object "java/lang/AbstractStringBuilder"))) ∈ tables_1 := List.mem_of_getElem? (i := 56) rfl
theorem w_57 : (Jvm.Cond.methodLink "java/lang/AbstractStringBuilder" (32 : Nat) ({ cls := "java/lang/String", name := "length", desc := "()I" } : Jvm.MethodName)) ∈ tables_1 := List.mem_of_getElem? (i := 57) rfl
theorem w_58 : (Jvm.Cond.declares ({ cls := "java/lang/String", name := "length", desc := "()I" } : Jvm.MethodName)) ∈ tables_1 := List.mem_of_getElem? (i := 58) rfl
theorem w_59 : (Jvm.Cond.instanceMethod ({ cls := "java/lang/String", name := "length", desc := "()I" } : Jvm.MethodName)) ∈ tables_1 := List.mem_of_getElem? (i := 59) rfl
theorem w_60 : (Jvm.Cond.selects "java/lang/String" ({ cls := "java/lang/String", name := "length", desc := "()I" } : Jvm.MethodName) ({ cls := "java/lang/String", name := "length", desc := "()I" } : Jvm.MethodName)) ∈ tables_1 := List.mem_of_getElem? (i := 60) rfl
theorem w_62 : (Jvm.Cond.methodLink "java/lang/String" (335 : Nat) ({ cls := "java/lang/String", name := "coder", desc := "()B" } : Jvm.MethodName)) ∈ tables_1 := List.mem_of_getElem? (i := 62) rfl
theorem w_63 : (Jvm.Cond.declares ({ cls := "java/lang/String", name := "coder", desc := "()B" } : Jvm.MethodName)) ∈ tables_1 := List.mem_of_getElem? (i := 63) rfl
theorem w_64 : (Jvm.Cond.instanceMethod ({ cls := "java/lang/String", name := "coder", desc := "()B" } : Jvm.MethodName)) ∈ tables_1 := List.mem_of_getElem? (i := 64) rfl
theorem w_65 : (Jvm.Cond.selects "java/lang/String" ({ cls := "java/lang/String", name := "coder", desc := "()B" } : Jvm.MethodName) ({ cls := "java/lang/String", name := "coder", desc := "()B" } : Jvm.MethodName)) ∈ tables_1 := List.mem_of_getElem? (i := 65) rfl
theorem w_66 : (Jvm.Cond.code ({ cls := "java/lang/String", name := "coder", desc := "()B" } : Jvm.MethodName) jdk_42_method_152_code (1 : Nat) (Option.some Jvm.ClassFile.FieldType.byte)) ∈ tables_1 := List.mem_of_getElem? (i := 66) rfl
theorem w_67 : (Jvm.Cond.fieldLink "java/lang/String" (38 : Nat) "java/lang/String" "COMPACT_STRINGS" "Z") ∈ tables_1 := List.mem_of_getElem? (i := 67) rfl
theorem w_68 : (Jvm.Cond.fieldLink "java/lang/AbstractStringBuilder" (79 : Nat) "java/lang/AbstractStringBuilder" "count" "I") ∈ tables_1 := List.mem_of_getElem? (i := 68) rfl
theorem w_69 : (Jvm.Cond.lays "java/lang/StringBuilder" "java/lang/AbstractStringBuilder" "count" "I") ∈ tables_1 := List.mem_of_getElem? (i := 69) rfl
theorem w_70 : (Jvm.Cond.methodLink "java/lang/AbstractStringBuilder" (100 : Nat) ({ cls := "java/lang/AbstractStringBuilder", name := "ensureCapacityInternal", desc := "(I)V" } : Jvm.MethodName)) ∈ tables_1 := List.mem_of_getElem? (i := 70) rfl
theorem w_71 : (Jvm.Cond.instanceMethod ({ cls := "java/lang/AbstractStringBuilder", name := "ensureCapacityInternal", desc := "(I)V" } : Jvm.MethodName)) ∈ tables_1 := List.mem_of_getElem? (i := 71) rfl
theorem w_72 : (Jvm.Cond.privateMethod ({ cls := "java/lang/AbstractStringBuilder", name := "ensureCapacityInternal", desc := "(I)V" } : Jvm.MethodName)) ∈ tables_1 := List.mem_of_getElem? (i := 72) rfl
theorem w_74 : (Jvm.Cond.code ({ cls := "java/lang/AbstractStringBuilder", name := "ensureCapacityInternal", desc := "(I)V" } : Jvm.MethodName) jdk_68_method_9_code (3 : Nat) (Option.none : Option Jvm.ClassFile.FieldType)) ∈ tables_1 := List.mem_of_getElem? (i := 74) rfl
theorem w_75 : (Jvm.Cond.methodLink "java/lang/AbstractStringBuilder" (208 : Nat) ({ cls := "java/lang/AbstractStringBuilder", name := "putStringAt", desc := "(ILjava/lang/String;)V" } : Jvm.MethodName)) ∈ tables_1 := List.mem_of_getElem? (i := 75) rfl
theorem w_76 : (Jvm.Cond.instanceMethod ({ cls := "java/lang/AbstractStringBuilder", name := "putStringAt", desc := "(ILjava/lang/String;)V" } : Jvm.MethodName)) ∈ tables_1 := List.mem_of_getElem? (i := 76) rfl
theorem w_77 : (Jvm.Cond.privateMethod ({ cls := "java/lang/AbstractStringBuilder", name := "putStringAt", desc := "(ILjava/lang/String;)V" } : Jvm.MethodName)) ∈ tables_1 := List.mem_of_getElem? (i := 77) rfl
theorem w_79 : (Jvm.Cond.code ({ cls := "java/lang/AbstractStringBuilder", name := "putStringAt", desc := "(ILjava/lang/String;)V" } : Jvm.MethodName) jdk_68_method_73_code (3 : Nat) (Option.none : Option Jvm.ClassFile.FieldType)) ∈ tables_1 := List.mem_of_getElem? (i := 79) rfl
theorem w_80 : (Jvm.Cond.methodLink "java/lang/AbstractStringBuilder" (397 : Nat) ({ cls := "java/lang/AbstractStringBuilder", name := "inflateIfNeededFor", desc := "(Ljava/lang/String;)V" } : Jvm.MethodName)) ∈ tables_1 := List.mem_of_getElem? (i := 80) rfl
theorem w_81 : (Jvm.Cond.instanceMethod ({ cls := "java/lang/AbstractStringBuilder", name := "inflateIfNeededFor", desc := "(Ljava/lang/String;)V" } : Jvm.MethodName)) ∈ tables_1 := List.mem_of_getElem? (i := 81) rfl
theorem w_82 : (Jvm.Cond.privateMethod ({ cls := "java/lang/AbstractStringBuilder", name := "inflateIfNeededFor", desc := "(Ljava/lang/String;)V" } : Jvm.MethodName)) ∈ tables_1 := List.mem_of_getElem? (i := 82) rfl
theorem w_84 : (Jvm.Cond.code ({ cls := "java/lang/AbstractStringBuilder", name := "inflateIfNeededFor", desc := "(Ljava/lang/String;)V" } : Jvm.MethodName) jdk_68_method_71_code (2 : Nat) (Option.none : Option Jvm.ClassFile.FieldType)) ∈ tables_1 := List.mem_of_getElem? (i := 84) rfl
theorem w_85 : (Jvm.Cond.methodLink "java/lang/AbstractStringBuilder" (40 : Nat) ({ cls := "java/lang/String", name := "coder", desc := "()B" } : Jvm.MethodName)) ∈ tables_1 := List.mem_of_getElem? (i := 85) rfl
theorem w_86 : (Jvm.Cond.methodLink "java/lang/AbstractStringBuilder" (399 : Nat) ({ cls := "java/lang/String", name := "getBytes", desc := "([BIB)V" } : Jvm.MethodName)) ∈ tables_1 := List.mem_of_getElem? (i := 86) rfl
theorem w_87 : (Jvm.Cond.declares ({ cls := "java/lang/String", name := "getBytes", desc := "([BIB)V" } : Jvm.MethodName)) ∈ tables_1 := List.mem_of_getElem? (i := 87) rfl
theorem w_88 : (Jvm.Cond.instanceMethod ({ cls := "java/lang/String", name := "getBytes", desc := "([BIB)V" } : Jvm.MethodName)) ∈ tables_1 := List.mem_of_getElem? (i := 88) rfl
theorem w_89 : (Jvm.Cond.selects "java/lang/String" ({ cls := "java/lang/String", name := "getBytes", desc := "([BIB)V" } : Jvm.MethodName) ({ cls := "java/lang/String", name := "getBytes", desc := "([BIB)V" } : Jvm.MethodName)) ∈ tables_1 := List.mem_of_getElem? (i := 89) rfl
theorem w_90 : (Jvm.Cond.code ({ cls := "java/lang/String", name := "getBytes", desc := "([BIB)V" } : Jvm.MethodName) jdk_42_method_147_code (4 : Nat) (Option.none : Option Jvm.ClassFile.FieldType)) ∈ tables_1 := List.mem_of_getElem? (i := 90) rfl
theorem w_91 : (Jvm.Cond.methodLink "java/lang/String" (212 : Nat) ({ cls := "java/lang/System", name := "arraycopy", desc := "(Ljava/lang/Object;ILjava/lang/Object;II)V" } : Jvm.MethodName)) ∈ tables_1 := List.mem_of_getElem? (i := 91) rfl
theorem w_92 : (Jvm.Cond.static ({ cls := "java/lang/System", name := "arraycopy", desc := "(Ljava/lang/Object;ILjava/lang/Object;II)V" } : Jvm.MethodName)) ∈ tables_1 := List.mem_of_getElem? (i := 92) rfl
theorem w_93 : (Jvm.Cond.initialized "java/lang/System") ∈ tables_1 := List.mem_of_getElem? (i := 93) rfl
theorem w_94 : (Jvm.Cond.native ({ cls := "java/lang/System", name := "arraycopy", desc := "(Ljava/lang/Object;ILjava/lang/Object;II)V" } : Jvm.MethodName)) ∈ tables_1 := List.mem_of_getElem? (i := 94) rfl
theorem w_95 : (Jvm.Cond.stringLink "com/example/shapewalk/shapewalk/cli/Options" (118 : Nat) " is required") ∈ tables_1 := List.mem_of_getElem? (i := 95) rfl
theorem w_96 : (Jvm.Cond.methodLink "com/example/shapewalk/shapewalk/cli/Options" (68 : Nat) ({ cls := "java/lang/StringBuilder", name := "toString", desc := "()Ljava/lang/String;" } : Jvm.MethodName)) ∈ tables_1 := List.mem_of_getElem? (i := 96) rfl
theorem w_97 : (Jvm.Cond.declares ({ cls := "java/lang/StringBuilder", name := "toString", desc := "()Ljava/lang/String;" } : Jvm.MethodName)) ∈ tables_1 := List.mem_of_getElem? (i := 97) rfl
theorem w_98 : (Jvm.Cond.instanceMethod ({ cls := "java/lang/StringBuilder", name := "toString", desc := "()Ljava/lang/String;" } : Jvm.MethodName)) ∈ tables_1 := List.mem_of_getElem? (i := 98) rfl
theorem w_99 : (Jvm.Cond.selects "java/lang/StringBuilder" ({ cls := "java/lang/StringBuilder", name := "toString", desc := "()Ljava/lang/String;" } : Jvm.MethodName) ({ cls := "java/lang/StringBuilder", name := "toString", desc := "()Ljava/lang/String;" } : Jvm.MethodName)) ∈ tables_1 := List.mem_of_getElem? (i := 99) rfl
theorem w_100 : (Jvm.Cond.code ({ cls := "java/lang/StringBuilder", name := "toString", desc := "()Ljava/lang/String;" } : Jvm.MethodName) jdk_67_method_42_code (1 : Nat) (Option.some (Jvm.ClassFile.FieldType.object "java/lang/String"))) ∈ tables_1 := List.mem_of_getElem? (i := 100) rfl
theorem w_101 : (Jvm.Cond.classLink "java/lang/StringBuilder" (18 : Nat) "java/lang/String") ∈ tables_1 := List.mem_of_getElem? (i := 101) rfl
theorem w_102 : (Jvm.Cond.methodLink "java/lang/StringBuilder" (137 : Nat) ({ cls := "java/lang/String", name := "<init>", desc := "(Ljava/lang/StringBuilder;)V" } : Jvm.MethodName)) ∈ tables_1 := List.mem_of_getElem? (i := 102) rfl
theorem w_103 : (Jvm.Cond.instanceMethod ({ cls := "java/lang/String", name := "<init>", desc := "(Ljava/lang/StringBuilder;)V" } : Jvm.MethodName)) ∈ tables_1 := List.mem_of_getElem? (i := 103) rfl
theorem w_104 : (Jvm.Cond.code ({ cls := "java/lang/String", name := "<init>", desc := "(Ljava/lang/StringBuilder;)V" } : Jvm.MethodName) jdk_42_method_53_code (2 : Nat) (Option.none : Option Jvm.ClassFile.FieldType)) ∈ tables_1 := List.mem_of_getElem? (i := 104) rfl
theorem w_105 : (Jvm.Cond.methodLink "java/lang/String" (489 : Nat) ({ cls := "java/lang/String", name := "<init>", desc := "(Ljava/lang/AbstractStringBuilder;Ljava/lang/Void;)V" } : Jvm.MethodName)) ∈ tables_1 := List.mem_of_getElem? (i := 105) rfl
theorem w_106 : (Jvm.Cond.instanceMethod ({ cls := "java/lang/String", name := "<init>", desc := "(Ljava/lang/AbstractStringBuilder;Ljava/lang/Void;)V" } : Jvm.MethodName)) ∈ tables_1 := List.mem_of_getElem? (i := 106) rfl
theorem w_107 : (Jvm.Cond.code ({ cls := "java/lang/String", name := "<init>", desc := "(Ljava/lang/AbstractStringBuilder;Ljava/lang/Void;)V" } : Jvm.MethodName) jdk_42_method_150_code (5 : Nat) (Option.none : Option Jvm.ClassFile.FieldType)) ∈ tables_1 := List.mem_of_getElem? (i := 107) rfl
theorem w_108 : (Jvm.Cond.methodLink "java/lang/String" (552 : Nat) ({ cls := "java/lang/AbstractStringBuilder", name := "getValue", desc := "()[B" } : Jvm.MethodName)) ∈ tables_1 := List.mem_of_getElem? (i := 108) rfl
theorem w_109 : (Jvm.Cond.declares ({ cls := "java/lang/AbstractStringBuilder", name := "getValue", desc := "()[B" } : Jvm.MethodName)) ∈ tables_1 := List.mem_of_getElem? (i := 109) rfl
theorem w_110 : (Jvm.Cond.instanceMethod ({ cls := "java/lang/AbstractStringBuilder", name := "getValue", desc := "()[B" } : Jvm.MethodName)) ∈ tables_1 := List.mem_of_getElem? (i := 110) rfl
theorem w_111 : (Jvm.Cond.selects "java/lang/StringBuilder" ({ cls := "java/lang/AbstractStringBuilder", name := "getValue", desc := "()[B" } : Jvm.MethodName) ({ cls := "java/lang/AbstractStringBuilder", name := "getValue", desc := "()[B" } : Jvm.MethodName)) ∈ tables_1 := List.mem_of_getElem? (i := 111) rfl
theorem w_112 : (Jvm.Cond.code ({ cls := "java/lang/AbstractStringBuilder", name := "getValue", desc := "()[B" } : Jvm.MethodName) jdk_68_method_64_code (1 : Nat) (Option.some (Jvm.ClassFile.FieldType.array Jvm.ClassFile.FieldType.byte))) ∈ tables_1 := List.mem_of_getElem? (i := 112) rfl
theorem w_113 : (Jvm.Cond.methodLink "java/lang/String" (549 : Nat) ({ cls := "java/lang/AbstractStringBuilder", name := "length", desc := "()I" } : Jvm.MethodName)) ∈ tables_1 := List.mem_of_getElem? (i := 113) rfl
theorem w_114 : (Jvm.Cond.declares ({ cls := "java/lang/AbstractStringBuilder", name := "length", desc := "()I" } : Jvm.MethodName)) ∈ tables_1 := List.mem_of_getElem? (i := 114) rfl
theorem w_115 : (Jvm.Cond.instanceMethod ({ cls := "java/lang/AbstractStringBuilder", name := "length", desc := "()I" } : Jvm.MethodName)) ∈ tables_1 := List.mem_of_getElem? (i := 115) rfl
theorem w_116 : (Jvm.Cond.selects "java/lang/StringBuilder" ({ cls := "java/lang/AbstractStringBuilder", name := "length", desc := "()I" } : Jvm.MethodName) ({ cls := "java/lang/StringBuilder", name := "length", desc := "()I" } : Jvm.MethodName)) ∈ tables_1 := List.mem_of_getElem? (i := 116) rfl
theorem w_117 : (Jvm.Cond.instanceMethod ({ cls := "java/lang/StringBuilder", name := "length", desc := "()I" } : Jvm.MethodName)) ∈ tables_1 := List.mem_of_getElem? (i := 117) rfl
theorem w_118 : (Jvm.Cond.code ({ cls := "java/lang/StringBuilder", name := "length", desc := "()I" } : Jvm.MethodName) jdk_67_method_93_code (1 : Nat) (Option.some Jvm.ClassFile.FieldType.int)) ∈ tables_1 := List.mem_of_getElem? (i := 118) rfl
theorem w_119 : (Jvm.Cond.methodLink "java/lang/StringBuilder" (343 : Nat) ({ cls := "java/lang/AbstractStringBuilder", name := "length", desc := "()I" } : Jvm.MethodName)) ∈ tables_1 := List.mem_of_getElem? (i := 119) rfl
theorem w_120 : (Jvm.Cond.code ({ cls := "java/lang/AbstractStringBuilder", name := "length", desc := "()I" } : Jvm.MethodName) jdk_68_method_6_code (1 : Nat) (Option.some Jvm.ClassFile.FieldType.int)) ∈ tables_1 := List.mem_of_getElem? (i := 120) rfl
theorem w_121 : (Jvm.Cond.methodLink "java/lang/String" (1047 : Nat) ({ cls := "java/lang/AbstractStringBuilder", name := "isLatin1", desc := "()Z" } : Jvm.MethodName)) ∈ tables_1 := List.mem_of_getElem? (i := 121) rfl
theorem w_122 : (Jvm.Cond.declares ({ cls := "java/lang/AbstractStringBuilder", name := "isLatin1", desc := "()Z" } : Jvm.MethodName)) ∈ tables_1 := List.mem_of_getElem? (i := 122) rfl
theorem w_123 : (Jvm.Cond.instanceMethod ({ cls := "java/lang/AbstractStringBuilder", name := "isLatin1", desc := "()Z" } : Jvm.MethodName)) ∈ tables_1 := List.mem_of_getElem? (i := 123) rfl
theorem w_124 : (Jvm.Cond.selects "java/lang/StringBuilder" ({ cls := "java/lang/AbstractStringBuilder", name := "isLatin1", desc := "()Z" } : Jvm.MethodName) ({ cls := "java/lang/AbstractStringBuilder", name := "isLatin1", desc := "()Z" } : Jvm.MethodName)) ∈ tables_1 := List.mem_of_getElem? (i := 124) rfl
theorem w_125 : (Jvm.Cond.code ({ cls := "java/lang/AbstractStringBuilder", name := "isLatin1", desc := "()Z" } : Jvm.MethodName) jdk_68_method_68_code (1 : Nat) (Option.some Jvm.ClassFile.FieldType.boolean)) ∈ tables_1 := List.mem_of_getElem? (i := 125) rfl
theorem w_126 : (Jvm.Cond.methodLink "java/lang/String" (54 : Nat) ({ cls := "java/util/Arrays", name := "copyOfRange", desc := "([BII)[B" } : Jvm.MethodName)) ∈ tables_1 := List.mem_of_getElem? (i := 126) rfl
theorem w_127 : (Jvm.Cond.static ({ cls := "java/util/Arrays", name := "copyOfRange", desc := "([BII)[B" } : Jvm.MethodName)) ∈ tables_1 := List.mem_of_getElem? (i := 127) rfl
theorem w_128 : (Jvm.Cond.initialized "java/util/Arrays") ∈ tables_1 := List.mem_of_getElem? (i := 128) rfl
theorem w_129 : (Jvm.Cond.code ({ cls := "java/util/Arrays", name := "copyOfRange", desc := "([BII)[B" } : Jvm.MethodName) jdk_65_method_132_code (3 : Nat) (Option.some (Jvm.ClassFile.FieldType.array Jvm.ClassFile.FieldType.byte))) ∈ tables_1 := List.mem_of_getElem? (i := 129) rfl
theorem w_130 : (Jvm.Cond.methodLink "java/util/Arrays" (339 : Nat) ({ cls := "java/util/Arrays", name := "copyOfRangeByte", desc := "([BII)[B" } : Jvm.MethodName)) ∈ tables_1 := List.mem_of_getElem? (i := 130) rfl
theorem w_131 : (Jvm.Cond.static ({ cls := "java/util/Arrays", name := "copyOfRangeByte", desc := "([BII)[B" } : Jvm.MethodName)) ∈ tables_1 := List.mem_of_getElem? (i := 131) rfl
theorem w_132 : (Jvm.Cond.code ({ cls := "java/util/Arrays", name := "copyOfRangeByte", desc := "([BII)[B" } : Jvm.MethodName) jdk_65_method_133_code (5 : Nat) (Option.some (Jvm.ClassFile.FieldType.array Jvm.ClassFile.FieldType.byte))) ∈ tables_1 := List.mem_of_getElem? (i := 132) rfl
theorem w_133 : (Jvm.Cond.methodLink "java/util/Arrays" (343 : Nat) ({ cls := "java/util/Arrays", name := "checkLength", desc := "(II)V" } : Jvm.MethodName)) ∈ tables_1 := List.mem_of_getElem? (i := 133) rfl
theorem w_134 : (Jvm.Cond.static ({ cls := "java/util/Arrays", name := "checkLength", desc := "(II)V" } : Jvm.MethodName)) ∈ tables_1 := List.mem_of_getElem? (i := 134) rfl
theorem w_135 : (Jvm.Cond.code ({ cls := "java/util/Arrays", name := "checkLength", desc := "(II)V" } : Jvm.MethodName) jdk_65_method_131_code (2 : Nat) (Option.none : Option Jvm.ClassFile.FieldType)) ∈ tables_1 := List.mem_of_getElem? (i := 135) rfl
theorem w_136 : (Jvm.Cond.methodLink "java/util/Arrays" (304 : Nat) ({ cls := "java/lang/Math", name := "min", desc := "(II)I" } : Jvm.MethodName)) ∈ tables_1 := List.mem_of_getElem? (i := 136) rfl
theorem w_137 : (Jvm.Cond.static ({ cls := "java/lang/Math", name := "min", desc := "(II)I" } : Jvm.MethodName)) ∈ tables_1 := List.mem_of_getElem? (i := 137) rfl
theorem w_138 : (Jvm.Cond.initialized "java/lang/Math") ∈ tables_1 := List.mem_of_getElem? (i := 138) rfl
theorem w_139 : (Jvm.Cond.code ({ cls := "java/lang/Math", name := "min", desc := "(II)I" } : Jvm.MethodName) jdk_29_method_69_code (2 : Nat) (Option.some Jvm.ClassFile.FieldType.int)) ∈ tables_1 := List.mem_of_getElem? (i := 139) rfl
theorem w_140 : (Jvm.Cond.methodLink "java/util/Arrays" (150 : Nat) ({ cls := "java/lang/System", name := "arraycopy", desc := "(Ljava/lang/Object;ILjava/lang/Object;II)V" } : Jvm.MethodName)) ∈ tables_1 := List.mem_of_getElem? (i := 140) rfl
theorem w_141 : (Jvm.Cond.methodLink "com/example/shapewalk/shapewalk/cli/Options" (72 : Nat) ({ cls := "com/example/shapewalk/shapewalk/cli/UsageException", name := "<init>", desc := "(Ljava/lang/String;)V" } : Jvm.MethodName)) ∈ tables_1 := List.mem_of_getElem? (i := 141) rfl
theorem w_142 : (Jvm.Cond.instanceMethod ({ cls := "com/example/shapewalk/shapewalk/cli/UsageException", name := "<init>", desc := "(Ljava/lang/String;)V" } : Jvm.MethodName)) ∈ tables_1 := List.mem_of_getElem? (i := 142) rfl
theorem w_143 : (Jvm.Cond.code ({ cls := "com/example/shapewalk/shapewalk/cli/UsageException", name := "<init>", desc := "(Ljava/lang/String;)V" } : Jvm.MethodName) prog_7_method_1_code (2 : Nat) (Option.none : Option Jvm.ClassFile.FieldType)) ∈ tables_1 := List.mem_of_getElem? (i := 143) rfl
theorem w_144 : (Jvm.Cond.methodLink "com/example/shapewalk/shapewalk/cli/UsageException" (1 : Nat) ({ cls := "java/lang/Exception", name := "<init>", desc := "(Ljava/lang/String;)V" } : Jvm.MethodName)) ∈ tables_1 := List.mem_of_getElem? (i := 144) rfl
theorem w_145 : (Jvm.Cond.instanceMethod ({ cls := "java/lang/Exception", name := "<init>", desc := "(Ljava/lang/String;)V" } : Jvm.MethodName)) ∈ tables_1 := List.mem_of_getElem? (i := 145) rfl
theorem w_147 : (Jvm.Cond.initialized "java/lang/Exception") ∈ tables_1 := List.mem_of_getElem? (i := 147) rfl
theorem w_148 : (Jvm.Cond.code ({ cls := "java/lang/Exception", name := "<init>", desc := "(Ljava/lang/String;)V" } : Jvm.MethodName) jdk_59_method_2_code (2 : Nat) (Option.none : Option Jvm.ClassFile.FieldType)) ∈ tables_1 := List.mem_of_getElem? (i := 148) rfl
theorem w_149 : (Jvm.Cond.methodLink "java/lang/Exception" (7 : Nat) ({ cls := "java/lang/Throwable", name := "<init>", desc := "(Ljava/lang/String;)V" } : Jvm.MethodName)) ∈ tables_1 := List.mem_of_getElem? (i := 149) rfl
theorem w_150 : (Jvm.Cond.instanceMethod ({ cls := "java/lang/Throwable", name := "<init>", desc := "(Ljava/lang/String;)V" } : Jvm.MethodName)) ∈ tables_1 := List.mem_of_getElem? (i := 150) rfl
theorem w_153 : (Jvm.Cond.initialized "java/lang/Throwable") ∈ tables_1 := List.mem_of_getElem? (i := 153) rfl
theorem w_154 : (Jvm.Cond.code ({ cls := "java/lang/Throwable", name := "<init>", desc := "(Ljava/lang/String;)V" } : Jvm.MethodName) jdk_78_method_2_code (2 : Nat) (Option.none : Option Jvm.ClassFile.FieldType)) ∈ tables_1 := List.mem_of_getElem? (i := 154) rfl
theorem w_155 : (Jvm.Cond.methodLink "java/lang/Throwable" (1 : Nat) ({ cls := "java/lang/Object", name := "<init>", desc := "()V" } : Jvm.MethodName)) ∈ tables_1 := List.mem_of_getElem? (i := 155) rfl
theorem w_156 : (Jvm.Cond.fieldLink "java/lang/Throwable" (7 : Nat) "java/lang/Throwable" "cause" "Ljava/lang/Throwable;") ∈ tables_1 := List.mem_of_getElem? (i := 156) rfl
theorem w_157 : (Jvm.Cond.lays "com/example/shapewalk/shapewalk/cli/UsageException" "java/lang/Throwable" "cause" "Ljava/lang/Throwable;") ∈ tables_1 := List.mem_of_getElem? (i := 157) rfl
theorem w_158 : (Jvm.Cond.fieldLink "java/lang/Throwable" (13 : Nat) "java/lang/Throwable" "UNASSIGNED_STACK" "[Ljava/lang/StackTraceElement;") ∈ tables_1 := List.mem_of_getElem? (i := 158) rfl
theorem w_159 : (Jvm.Cond.fieldLink "java/lang/Throwable" (17 : Nat) "java/lang/Throwable" "stackTrace" "[Ljava/lang/StackTraceElement;") ∈ tables_1 := List.mem_of_getElem? (i := 159) rfl
theorem w_160 : (Jvm.Cond.lays "com/example/shapewalk/shapewalk/cli/UsageException" "java/lang/Throwable" "stackTrace" "[Ljava/lang/StackTraceElement;") ∈ tables_1 := List.mem_of_getElem? (i := 160) rfl
theorem w_161 : (Jvm.Cond.fieldLink "java/lang/Throwable" (20 : Nat) "java/lang/Throwable" "SUPPRESSED_SENTINEL" "Ljava/util/List;") ∈ tables_1 := List.mem_of_getElem? (i := 161) rfl
theorem w_162 : (Jvm.Cond.fieldLink "java/lang/Throwable" (24 : Nat) "java/lang/Throwable" "suppressedExceptions" "Ljava/util/List;") ∈ tables_1 := List.mem_of_getElem? (i := 162) rfl
theorem w_163 : (Jvm.Cond.lays "com/example/shapewalk/shapewalk/cli/UsageException" "java/lang/Throwable" "suppressedExceptions" "Ljava/util/List;") ∈ tables_1 := List.mem_of_getElem? (i := 163) rfl
theorem w_187 : (Jvm.Cond.lays "com/example/shapewalk/shapewalk/cli/UsageException" "java/lang/Throwable" "detailMessage" "Ljava/lang/String;") ∈ tables_1 := List.mem_of_getElem? (i := 187) rfl
theorem w_188 : (Jvm.Cond.lays "com/example/shapewalk/shapewalk/cli/UsageException" "java/lang/Throwable" "backtrace" "Ljava/lang/Object;") ∈ tables_1 := List.mem_of_getElem? (i := 188) rfl
theorem w_189 : (Jvm.Cond.lays "com/example/shapewalk/shapewalk/cli/UsageException" "java/lang/Throwable" "depth" "I") ∈ tables_1 := List.mem_of_getElem? (i := 189) rfl
theorem w_191 : (Jvm.Cond.fieldLink "java/lang/Throwable" (31 : Nat) "java/lang/Throwable" "detailMessage" "Ljava/lang/String;") ∈ tables_1 := List.mem_of_getElem? (i := 191) rfl
theorem w_192 : (Jvm.Cond.methodLink "com/example/shapewalk/shapewalk/cli/OptionsMissingPinLaw" (22 : Nat) ({ cls := "com/example/shapewalk/shapewalk/cli/UsageException", name := "getMessage", desc := "()Ljava/lang/String;" } : Jvm.MethodName)) ∈ tables_1 := List.mem_of_getElem? (i := 192) rfl
theorem w_193 : (Jvm.Cond.sameMethod "com/example/shapewalk/shapewalk/cli/UsageException" "java/lang/Throwable" "getMessage" "()Ljava/lang/String;") ∈ tables_1 := List.mem_of_getElem? (i := 193) rfl
theorem w_194 : (Jvm.Cond.declares ({ cls := "java/lang/Throwable", name := "getMessage", desc := "()Ljava/lang/String;" } : Jvm.MethodName)) ∈ tables_1 := List.mem_of_getElem? (i := 194) rfl
theorem w_195 : (Jvm.Cond.instanceMethod ({ cls := "java/lang/Throwable", name := "getMessage", desc := "()Ljava/lang/String;" } : Jvm.MethodName)) ∈ tables_1 := List.mem_of_getElem? (i := 195) rfl
theorem w_196 : (Jvm.Cond.selects "com/example/shapewalk/shapewalk/cli/UsageException" ({ cls := "com/example/shapewalk/shapewalk/cli/UsageException", name := "getMessage", desc := "()Ljava/lang/String;" } : Jvm.MethodName) ({ cls := "java/lang/Throwable", name := "getMessage", desc := "()Ljava/lang/String;" } : Jvm.MethodName)) ∈ tables_1 := List.mem_of_getElem? (i := 196) rfl
theorem w_197 : (Jvm.Cond.code ({ cls := "java/lang/Throwable", name := "getMessage", desc := "()Ljava/lang/String;" } : Jvm.MethodName) jdk_78_method_6_code (1 : Nat) (Option.some (Jvm.ClassFile.FieldType.object "java/lang/String"))) ∈ tables_1 := List.mem_of_getElem? (i := 197) rfl
theorem w_198 : (Jvm.Cond.methodLink "com/example/shapewalk/shapewalk/cli/OptionsMissingPinLaw" (28 : Nat) ({ cls := "java/lang/String", name := "length", desc := "()I" } : Jvm.MethodName)) ∈ tables_1 := List.mem_of_getElem? (i := 198) rfl
theorem w_199 : (Jvm.Cond.methodLink "com/example/shapewalk/shapewalk/cli/OptionsMissingPinLaw" (36 : Nat) ({ cls := "com/example/shapewalk/shapewalk/cli/OptionsMissingPinLaw", name := "suffix", desc := "(Ljava/lang/String;I)Z" } : Jvm.MethodName)) ∈ tables_1 := List.mem_of_getElem? (i := 199) rfl
theorem w_200 : (Jvm.Cond.static ({ cls := "com/example/shapewalk/shapewalk/cli/OptionsMissingPinLaw", name := "suffix", desc := "(Ljava/lang/String;I)Z" } : Jvm.MethodName)) ∈ tables_1 := List.mem_of_getElem? (i := 200) rfl
theorem w_201 : (Jvm.Cond.initialized "com/example/shapewalk/shapewalk/cli/OptionsMissingPinLaw") ∈ tables_1 := List.mem_of_getElem? (i := 201) rfl
theorem w_202 : (Jvm.Cond.code ({ cls := "com/example/shapewalk/shapewalk/cli/OptionsMissingPinLaw", name := "suffix", desc := "(Ljava/lang/String;I)Z" } : Jvm.MethodName) method_3_code (2 : Nat) (Option.some Jvm.ClassFile.FieldType.boolean)) ∈ tables_1 := List.mem_of_getElem? (i := 202) rfl
theorem w_203 : (Jvm.Cond.methodLink "com/example/shapewalk/shapewalk/cli/OptionsMissingPinLaw" (32 : Nat) ({ cls := "java/lang/String", name := "charAt", desc := "(I)C" } : Jvm.MethodName)) ∈ tables_1 := List.mem_of_getElem? (i := 203) rfl
theorem w_204 : (Jvm.Cond.declares ({ cls := "java/lang/String", name := "charAt", desc := "(I)C" } : Jvm.MethodName)) ∈ tables_1 := List.mem_of_getElem? (i := 204) rfl
theorem w_205 : (Jvm.Cond.instanceMethod ({ cls := "java/lang/String", name := "charAt", desc := "(I)C" } : Jvm.MethodName)) ∈ tables_1 := List.mem_of_getElem? (i := 205) rfl
theorem w_206 : (Jvm.Cond.selects "java/lang/String" ({ cls := "java/lang/String", name := "charAt", desc := "(I)C" } : Jvm.MethodName) ({ cls := "java/lang/String", name := "charAt", desc := "(I)C" } : Jvm.MethodName)) ∈ tables_1 := List.mem_of_getElem? (i := 206) rfl
theorem w_215 : (Jvm.Cond.initialized "java/lang/StringLatin1") ∈ tables_1 := List.mem_of_getElem? (i := 215) rfl
theorem w_235 : (Jvm.Cond.methodLink "com/example/shapewalk/shapewalk/cli/OptionsMissingPinLaw" (12 : Nat) ({ cls := "java/lang/String", name := "valueOf", desc := "(C)Ljava/lang/String;" } : Jvm.MethodName)) ∈ tables_1 := List.mem_of_getElem? (i := 235) rfl
theorem w_236 : (Jvm.Cond.static ({ cls := "java/lang/String", name := "valueOf", desc := "(C)Ljava/lang/String;" } : Jvm.MethodName)) ∈ tables_1 := List.mem_of_getElem? (i := 236) rfl
theorem w_237 : (Jvm.Cond.code ({ cls := "java/lang/String", name := "valueOf", desc := "(C)Ljava/lang/String;" } : Jvm.MethodName) jdk_42_method_139_code (1 : Nat) (Option.some (Jvm.ClassFile.FieldType.object "java/lang/String"))) ∈ tables_1 := List.mem_of_getElem? (i := 237) rfl
theorem w_238 : (Jvm.Cond.methodLink "java/lang/String" (1015 : Nat) ({ cls := "java/lang/StringLatin1", name := "canEncode", desc := "(C)Z" } : Jvm.MethodName)) ∈ tables_1 := List.mem_of_getElem? (i := 238) rfl
theorem w_239 : (Jvm.Cond.static ({ cls := "java/lang/StringLatin1", name := "canEncode", desc := "(C)Z" } : Jvm.MethodName)) ∈ tables_1 := List.mem_of_getElem? (i := 239) rfl
theorem w_240 : (Jvm.Cond.code ({ cls := "java/lang/StringLatin1", name := "canEncode", desc := "(C)Z" } : Jvm.MethodName) jdk_43_method_3_code (1 : Nat) (Option.some Jvm.ClassFile.FieldType.boolean)) ∈ tables_1 := List.mem_of_getElem? (i := 240) rfl
theorem w_241 : (Jvm.Cond.classLink "java/lang/String" (10 : Nat) "java/lang/String") ∈ tables_1 := List.mem_of_getElem? (i := 241) rfl
theorem w_242 : (Jvm.Cond.methodLink "java/lang/String" (1018 : Nat) ({ cls := "java/lang/StringLatin1", name := "toBytes", desc := "(C)[B" } : Jvm.MethodName)) ∈ tables_1 := List.mem_of_getElem? (i := 242) rfl
theorem w_243 : (Jvm.Cond.static ({ cls := "java/lang/StringLatin1", name := "toBytes", desc := "(C)[B" } : Jvm.MethodName)) ∈ tables_1 := List.mem_of_getElem? (i := 243) rfl
theorem w_244 : (Jvm.Cond.code ({ cls := "java/lang/StringLatin1", name := "toBytes", desc := "(C)[B" } : Jvm.MethodName) jdk_43_method_46_code (1 : Nat) (Option.some (Jvm.ClassFile.FieldType.array Jvm.ClassFile.FieldType.byte))) ∈ tables_1 := List.mem_of_getElem? (i := 244) rfl
theorem w_245 : (Jvm.Cond.methodLink "java/lang/String" (209 : Nat) ({ cls := "java/lang/String", name := "<init>", desc := "([BB)V" } : Jvm.MethodName)) ∈ tables_1 := List.mem_of_getElem? (i := 245) rfl
theorem w_246 : (Jvm.Cond.instanceMethod ({ cls := "java/lang/String", name := "<init>", desc := "([BB)V" } : Jvm.MethodName)) ∈ tables_1 := List.mem_of_getElem? (i := 246) rfl
theorem w_247 : (Jvm.Cond.code ({ cls := "java/lang/String", name := "<init>", desc := "([BB)V" } : Jvm.MethodName) jdk_42_method_151_code (3 : Nat) (Option.none : Option Jvm.ClassFile.FieldType)) ∈ tables_1 := List.mem_of_getElem? (i := 247) rfl
/-- a char of one byte -/
def Ch8 (c : Int32) : Prop := ¬ c < 0 ∧ ¬ (255 : Int32) < c
theorem ch8_mask (x : Int32) : Ch8 (x &&& 255) := by
  have h : (x &&& 255).toBitVec.toNat < 256 := by
    simp only [Int32.toBitVec_and, BitVec.toNat_and]
    exact Nat.lt_succ_of_le Nat.and_le_right
  have e : (x &&& 255) = Int32.ofNat (x &&& 255).toBitVec.toNat := by
    apply Int32.toBitVec_inj.mp
    show _ = BitVec.ofNat 32 _
    rw [BitVec.ofNat_toNat]; simp
  rw [e]
  exact (by decide +kernel : ∀ k : Fin 256, ¬ Int32.ofNat k.val < 0 ∧ ¬ (255 : Int32) < Int32.ofNat k.val) ⟨_, h⟩
theorem ch8_fin {c : Int32} (h : Ch8 c) : ∃ k : Fin 256, c = Int32.ofNat k.val := by
  obtain ⟨h1, h2⟩ := h
  rw [Int32.lt_iff_toInt_lt] at h1 h2
  have e1 : (0 : Int32).toInt = 0 := (by decide)
  have e2 : (255 : Int32).toInt = 255 := (by decide)
  have e3 : (Int32.ofNat c.toInt.toNat).toInt = (c.toInt.toNat : Int) := Int32.toInt_ofNat_of_lt (by omega)
  refine ⟨⟨c.toInt.toNat, by omega⟩, Int32.toInt_inj.mp ?_⟩
  show c.toInt = (Int32.ofNat c.toInt.toNat).toInt
  rw [e3]
  omega
theorem nar_ch8 {c : Int32} (h : Ch8 c) : nar .char c = c := by
  obtain ⟨k, rfl⟩ := ch8_fin h
  exact (by decide +kernel : ∀ k : Fin 256, nar .char (Int32.ofNat k.val) = Int32.ofNat k.val) k
theorem ch8_i2c (x : Int32) : Ch8 ((x &&& 255).toUInt32.toUInt16.toUInt32.toInt32) := by
  rw [i2c_mask]; exact ch8_mask x
theorem ch8_l2c (x : Int64) : Ch8 ((x &&& 255).toInt32.toUInt32.toUInt16.toUInt32.toInt32) := by
  rw [Int64.toInt32_and]; exact ch8_i2c x.toInt32
theorem own_allc {c : Int32} {cs : List Int32} (h : Ch8 c) (r : ∀ c ∈ cs, ¬ c < 0 ∧ ¬ (255 : Int32) < c) : ∀ x ∈ c :: cs, ¬ x < 0 ∧ ¬ (255 : Int32) < x := fun x hx => (List.mem_cons.mp hx).elim (fun e => e ▸ h) (r x)
theorem own_sA : ∀ a ∈ Bundle.stringAtoms, a ∈ tables_1 := by decide +kernel

theorem ct_newS {l : Launch} {Z : State} {a0 : Array Value} {EL : List (String × Nat)} (hEL : EW Z a0 EL) (hw : ∀ d ∈ tables_1, d.before a0 Z = true) {h : Heap} {x b : Addr} {kC : ClassId} {cs : List Int32} {d v0 c0 : Value} {z : Int32} {n n0 : Nat} (E : Exa Z h x "java/lang/String") (V : Fld Z h x "java/lang/String" "value" "[B" v0) (C : Fld Z h x "java/lang/String" "coder" "B" c0) (K : Arv Z h b kC .char (Int32.ofNat n) (cs.map Value.int) d) (S : Sta Z h "java/lang/String" "COMPACT_STRINGS" "Z" (.int z)) (hz : ¬ z = 0) (hn : cs.length = n) (l0 : 0 < n) (l2 : n ≤ 4000) (hp : ∀ c ∈ cs, ¬ c < 0 ∧ ¬ (255 : Int32) < c) :
    Ct l Z EL (⟨"java/lang/String", "<init>", "([C)V"⟩ : MethodName) 2 ({ frames := 3, cells := 1, slots := n, locals := 52 } : Room) [x] #[.ref x, .ref b] h n0 (nq fun v h' => v = none ∧ Keep h h' [x] ∧ ∃ t kb, h.size ≤ t ∧ t ≠ x ∧ Str Z h' x t kb cs) := by
  have hws : ∀ d ∈ StrChars.Road.words, d.before a0 Z = true := fun d hd => hw d ((by decide +kernel : ∀ d ∈ StrChars.Road.words, d ∈ tables_1) d hd)
  refine ct_back hEL (fun v h' q => q.2.1) ?_
  intro R p e below s args len W hZ hn0 hfs hf hl
  refine Back.mono (StrChars.Road.backV hZ hws (hw _ w_1) (hfs _ (List.mem_cons_self ..)) hn0 E V C K S hz hn rfl l0 l2 hp rfl hf (by simp only [] at hl; omega)) (fun P a q => q) (fun P a v B hp' hq => ?_)
  obtain ⟨L, ⟨q1, q2, q3, q4, q5, t, kb, r1, r2, r3, r4, r5⟩, hl', hc', hs'⟩ := hq
  exact ⟨L, ⟨⟨q1, q3, t, kb, r2, r3, q4, q5, r4, by rw [hn]; exact r5, by rw [hn]; exact l2, hp⟩, q2⟩, hl', hc', hs'⟩
theorem own_cod {cs : List Int32} (hp : ∀ c ∈ cs, ¬ c < 0 ∧ ¬ (255 : Int32) < c) : StrChars.Road.CodA cs 0 (Int32.ofNat cs.length) ((cs.map fun c => c.toInt8.toInt32).map Value.int) := Or.inl ⟨rfl, rfl, by rw [List.map_map]; rfl, fun c hc => (hp c hc).2⟩
theorem own_up {cs : List Int32} (hp : ∀ c ∈ cs, ¬ c < 0 ∧ ¬ (255 : Int32) < c) : ∀ c ∈ cs, ¬ c < 0 ∧ ¬ (65535 : Int32) < c := fun c hc => ⟨(hp c hc).1, fun q => (hp c hc).2 (by
  rw [Int32.lt_iff_toInt_lt] at q ⊢
  have e1 : (255 : Int32).toInt = 255 := by decide
  have e2 : (65535 : Int32).toInt = 65535 := by decide
  omega)⟩
theorem ct_len {l : Launch} {Z : State} {a0 : Array Value} {EL : List (String × Nat)} (hEL : EW Z a0 EL) (hw : ∀ d ∈ tables_1, d.before a0 Z = true) {h : Heap} {z : Int32} {n0 : Nat} {x t : Addr} {kb : ClassId} {cs : List Int32} (S : Str Z h x t kb cs) (Sz : Sta Z h "java/lang/String" "COMPACT_STRINGS" "Z" (.int z)) (hz : ¬ z = 0) :
    Ct l Z EL (⟨"java/lang/String", "length", "()I"⟩ : MethodName) 1 ({ frames := 1, cells := 0, slots := 0, locals := 13 } : Room) [] #[.ref x] h n0 (nq fun v h' => v = some (.int (Int32.ofNat cs.length)) ∧ h' = h) := by
  have hws : ∀ d ∈ StrChars.Road.wordsLen, d.before a0 Z = true := fun d hd => hw d ((by decide +kernel : ∀ d ∈ StrChars.Road.wordsLen, d ∈ tables_1) d hd)
  refine ct_back hEL (fun v h' q => (by rw [q.2]; exact Keep.refl _ _)) ?_
  intro R p e below s args len W hZ hn0 hfs hf hl
  refine Back.mono (StrChars.Road.lenW hZ hws (hw _ w_1) S.1 S.2.2.1 S.2.1 S.2.2.2.1 (own_cod S.2.2.2.2.2) (own_up S.2.2.2.2.2) Sz hz S.2.2.2.2.1 hf (by simp only [] at hl; omega)) (fun P a q => q) (fun P a v B hp' hq => ?_)
  obtain ⟨L, ⟨q1, rfl, q3⟩, hl', hc', hs'⟩ := hq
  exact ⟨[], ⟨⟨q1, q3⟩, Fr.nil _⟩, hl', hc', hs'⟩
theorem ct_ch {l : Launch} {Z : State} {a0 : Array Value} {EL : List (String × Nat)} (hEL : EW Z a0 EL) (hw : ∀ d ∈ tables_1, d.before a0 Z = true) {h : Heap} {z : Int32} {n0 : Nat} {x t : Addr} {kb : ClassId} {cs : List Int32} {fm : Value} (S : Str Z h x t kb cs) (Sz : Sta Z h "java/lang/String" "COMPACT_STRINGS" "Z" (.int z)) (hz : ¬ z = 0) (F : Sta Z h "jdk/internal/util/Preconditions" "SIOOBE_FORMATTER" "Ljava/util/function/BiFunction;" fm) (rf : fm.isRef = true) (i : Nat) (hi : i < cs.length) (j : Int32) (hj : j = Int32.ofNat i) :
    Ct l Z EL (⟨"java/lang/String", "charAt", "(I)C"⟩ : MethodName) 2 ({ frames := 3, cells := 0, slots := 0, locals := 40 } : Room) [] #[.ref x, .int j] h n0 (nq fun v h' => v = some (.int (cs.getD i 0)) ∧ h' = h) := by
  have hws : ∀ d ∈ StrChars.Road.wordsChN, d.before a0 Z = true := fun d hd => hw d ((by decide +kernel : ∀ d ∈ StrChars.Road.wordsChN, d ∈ tables_1) d hd)
  refine ct_back hEL (fun v h' q => (by rw [q.2]; exact Keep.refl _ _)) ?_
  intro R p e below s args len W hZ hn0 hfs hf hl
  refine Back.mono (StrChars.Road.chN hZ hws (hw _ w_1) S.1 S.2.2.1 S.2.1 S.2.2.2.1 (own_cod S.2.2.2.2.2) (own_up S.2.2.2.2.2) Sz hz F rf S.2.2.2.2.1 hi hj hf (by simp only [] at hl; omega)) (fun P a q => q) (fun P a v B hp' hq => ?_)
  obtain ⟨L, ⟨q1, rfl, q3⟩, hl', hc', hs'⟩ := hq
  exact ⟨[], ⟨⟨q1, q3⟩, Fr.nil _⟩, hl', hc', hs'⟩

theorem on_lt {a b : Nat} (ha : a ≤ 100000) (hb : b ≤ 100000) : (Int32.ofNat a < Int32.ofNat b) ↔ a < b := by
  rw [Int32.lt_iff_toInt_lt, Int32.toInt_ofNat_of_lt (by omega), Int32.toInt_ofNat_of_lt (by omega)]; omega
theorem on_eq {a b : Nat} (ha : a ≤ 100000) (hb : b ≤ 100000) : (Int32.ofNat a = Int32.ofNat b) ↔ a = b := by
  rw [← Int32.toInt_inj, Int32.toInt_ofNat_of_lt (by omega), Int32.toInt_ofNat_of_lt (by omega)]; omega
theorem on_add (a b : Nat) : Int32.ofNat a + Int32.ofNat b = Int32.ofNat (a + b) := (Int32.ofNat_add a b).symm
theorem on_sub {a b : Nat} (h : b ≤ a) : Int32.ofNat a - Int32.ofNat b = Int32.ofNat (a - b) := by
  have q : Int32.ofNat a = Int32.ofNat (a - b) + Int32.ofNat b := by rw [on_add, Nat.sub_add_cancel h]
  rw [q, Int32.add_sub_cancel]
theorem on_pos {a b : Nat} (ha : a ≤ 100000) (hb : b ≤ 100000) : (0 : Int32) < Int32.ofNat a - Int32.ofNat b ↔ b < a := by
  have e1 : (Int32.ofNat a).toInt = a := Int32.toInt_ofNat_of_lt (by omega)
  have e2 : (Int32.ofNat b).toInt = b := Int32.toInt_ofNat_of_lt (by omega)
  have e3 : (Int32.ofNat a - Int32.ofNat b).toInt = (a : Int) - b := by rw [XT.sub32 (by rw [e1, e2]; unfold XT.fits32; omega), e1, e2]
  rw [Int32.lt_iff_toInt_lt, e3]
  show (0 : Int) < (a : Int) - b ↔ b < a
  omega
theorem on_nat {a : Nat} (ha : a ≤ 100000) : (Int32.ofNat a).toNatClampNeg = a := by
  show (Int32.ofNat a).toInt.toNat = a
  rw [Int32.toInt_ofNat_of_lt (by omega)] <;> rfl
theorem on_nn {a : Nat} (ha : a ≤ 100000) : ¬ Int32.ofNat a < 0 := fun q => absurd ((on_lt (b := 0) ha (Nat.zero_le _)).mp q) (Nat.not_lt_zero _)
theorem on_gt0 {a : Nat} (ha : a ≤ 100000) (h : 0 < a) : (0 : Int32) < Int32.ofNat a := (on_lt (a := 0) (Nat.zero_le _) ha).mpr h
theorem on_ne0 {a : Nat} (ha : a ≤ 100000) (h : 0 < a) : ¬ Int32.ofNat a = 0 := fun q => absurd ((on_eq (b := 0) ha (Nat.zero_le _)).mp q) (Nat.ne_of_gt h)
theorem on_nmax {a : Nat} (ha : a ≤ 100000) : ¬ Int32.ofNat a = (2147483647 : Int32) := fun q => by
  have e1 : (Int32.ofNat a).toInt = a := Int32.toInt_ofNat_of_lt (by omega)
  have e2 : (2147483647 : Int32).toInt = 2147483647 := by decide
  rw [q, e2] at e1
  omega
theorem on_nbig {a : Nat} (ha : a ≤ 100000) : ¬ (2147483639 : Int32) < Int32.ofNat a := by
  have e1 : (Int32.ofNat a).toInt = a := Int32.toInt_ofNat_of_lt (by omega)
  have e2 : (2147483639 : Int32).toInt = 2147483639 := by decide
  rw [Int32.lt_iff_toInt_lt, e1, e2]
  omega
theorem on_min {a b : Nat} (ha : a ≤ 100000) (hb : b ≤ 100000) : (if Int32.ofNat b < Int32.ofNat a then Int32.ofNat b else Int32.ofNat a) = Int32.ofNat (min a b) := by
  by_cases q : b < a
  · rw [if_pos ((on_lt hb ha).mpr q), Nat.min_eq_right (Nat.le_of_lt q)]
  · rw [if_neg (fun h => q ((on_lt hb ha).mp h)), Nat.min_eq_left (Nat.le_of_not_lt q)]
theorem on_max {a b : Nat} (ha : a ≤ 100000) (hb : b ≤ 100000) : (if Int32.ofNat a < Int32.ofNat b then Int32.ofNat b else Int32.ofNat a) = Int32.ofNat (max a b) := by
  by_cases q : a < b
  · rw [if_pos ((on_lt ha hb).mpr q), Nat.max_eq_right (Nat.le_of_lt q)]
  · rw [if_neg (fun h => q ((on_lt ha hb).mp h)), Nat.max_eq_left (Nat.le_of_not_lt q)]
theorem on_z : (0 : Int32).toNatClampNeg = 0 := rfl
theorem oc_0 {m z : Nat} (hm : m ≤ 100000) (hz : z ≤ 100000) (h : m ≤ z) : (0 : Int32).toNatClampNeg + (Int32.ofNat m).toNatClampNeg ≤ (Int32.ofNat z).toNatClampNeg := by
  have e1 := on_nat hm
  have e2 := on_nat hz
  have e0 := on_z
  omega
theorem oc_n {k m z : Nat} (hk : k ≤ 100000) (hm : m ≤ 100000) (hz : z ≤ 100000) (h : k + m ≤ z) : (Int32.ofNat k).toNatClampNeg + (Int32.ofNat m).toNatClampNeg ≤ (Int32.ofNat z).toNatClampNeg := by
  have e1 := on_nat hk
  have e2 := on_nat hm
  have e3 := on_nat hz
  omega
theorem oc_l (vs : List Value) (d : Value) {k m : Nat} (hk : k ≤ 100000) (hm : m ≤ 100000) (e : vs.length = k) : (Int32.ofNat k).toNatClampNeg + (Int32.ofNat m).toNatClampNeg ≤ (vs ++ List.replicate m d).length := by
  have e1 := on_nat hk
  have e2 := on_nat hm
  rw [List.length_append, List.length_replicate]
  omega
theorem oc_l0 (d : Value) {m : Nat} (hm : m ≤ 100000) : (0 : Int32).toNatClampNeg + (Int32.ofNat m).toNatClampNeg ≤ ([] ++ List.replicate m d).length := by
  have e1 := on_nat hm
  have e0 := on_z
  rw [List.length_append, List.length_replicate, List.length_nil]
  omega
theorem own_shr0 (x : Int32) : x >>> ((0 : Int32) &&& 31) = x := by
  rw [show ((0 : Int32) &&& 31) = 0 from by decide, Int32.shiftRight_zero]
theorem own_shl0 (x : Int32) : x <<< ((0 : Int32) &&& 31) = x := by
  rw [show ((0 : Int32) &&& 31) = 0 from by decide, Int32.shiftLeft_zero]
def bts (cs : List Int32) : List Value := (cs.map fun c => c.toInt8.toInt32).map Value.int
theorem bts_len (cs : List Int32) : (bts cs).length = cs.length := by simp [bts]
/-- the StringBuilder at sb holds the chars cs -/
def SBd (Z : State) (h : Heap) (sb t : Addr) (kt : ClassId) (cap : Nat) (cs : List Int32) : Prop :=
  Exa Z h sb "java/lang/StringBuilder" ∧ Fld Z h sb "java/lang/AbstractStringBuilder" "coder" "B" (.int 0) ∧ Fld Z h sb "java/lang/AbstractStringBuilder" "value" "[B" (.ref t) ∧ Fld Z h sb "java/lang/AbstractStringBuilder" "count" "I" (.int (Int32.ofNat cs.length)) ∧ Arv Z h t kt .byte (Int32.ofNat cap) (bts cs) (.int 0) ∧ cs.length ≤ cap ∧ cap ≤ 80 ∧ (∀ c ∈ cs, ¬ c < 0 ∧ ¬ (255 : Int32) < c) ∧ Exa Z h t "[B"
theorem own_us (vs : List Value) (d : Value) (i m : Nat) (hi : i ≤ 100000) (hm : m ≤ 100000) (h : i + m ≤ vs.length) : (vs.drop i).take m = (List.range (Int32.ofNat m).toNatClampNeg).map fun j => vs.getD ((Int32.ofNat i).toNatClampNeg + j) d := by
  have e1 := on_nat hi
  have e2 := on_nat hm
  rw [e1, e2]
  apply List.ext_getElem
  · rw [List.length_take, List.length_drop, List.length_map, List.length_range]; omega
  · intro j h1 h2
    have hj : j < m := by rw [List.length_map, List.length_range] at h2; exact h2
    have hv : i + j < vs.length := by omega
    have e3 : vs.getD (i + j) d = vs[i + j] := by
      rw [List.getD_eq_getElem?_getD, List.getElem?_eq_getElem hv] <;> rfl
    first | (rw [List.getElem_take, List.getElem_drop, List.getElem_map, List.getElem_range, e3]; done) | (simp only [List.getElem_take, List.getElem_drop, List.getElem_map, List.getElem_range, e3]; done)
theorem own_us0 (vs : List Value) (d : Value) (hm : vs.length ≤ 100000) : vs = (List.range (Int32.ofNat vs.length).toNatClampNeg).map fun j => vs.getD ((0 : Int32).toNatClampNeg + j) d := by
  have q := own_us vs d 0 vs.length (Nat.zero_le _) hm (Nat.le_of_eq (Nat.zero_add _))
  rw [List.drop_zero, List.take_of_length_le (Nat.le_refl _)] at q
  exact q
theorem own_put (us ws : List Value) (d : Value) (k m : Nat) (hk : k ≤ 100000) (hm : m ≤ 100000) (e : us.length = k) : (us ++ List.replicate m d).take (Int32.ofNat k).toNatClampNeg ++ ws ++ (us ++ List.replicate m d).drop ((Int32.ofNat k).toNatClampNeg + (Int32.ofNat m).toNatClampNeg) = us ++ ws := by
  have e1 := on_nat hk
  have e2 := on_nat hm
  have l : (us ++ List.replicate m d).length ≤ k + m := by rw [List.length_append, List.length_replicate]; omega
  rw [e1, e2, List.take_left' e, List.drop_eq_nil_of_le l, List.append_nil]
theorem own_put0 (ws : List Value) (d : Value) (m : Nat) (hm : m ≤ 100000) : ([] ++ List.replicate m d).take (0 : Int32).toNatClampNeg ++ ws ++ ([] ++ List.replicate m d).drop ((0 : Int32).toNatClampNeg + (Int32.ofNat m).toNatClampNeg) = ws := by
  have e1 := on_nat hm
  have l : ([] ++ List.replicate m d).length ≤ 0 + m := by rw [List.length_append, List.length_replicate, List.length_nil]; omega
  rw [e1, on_z, List.take_zero, List.drop_eq_nil_of_le l, List.append_nil, List.nil_append]
theorem own_all (vs : List Value) (d : Value) (cap : Nat) (hc : cap ≤ 100000) (h : vs.length ≤ cap) : ∀ i, vs.getD i d = (([] ++ List.replicate cap d).take (0 : Int32).toNatClampNeg ++ ((List.range (Int32.ofNat cap).toNatClampNeg).map fun j => vs.getD ((0 : Int32).toNatClampNeg + j) d) ++ ([] ++ List.replicate cap d).drop ((0 : Int32).toNatClampNeg + (Int32.ofNat cap).toNatClampNeg)).getD i d := by
  intro i
  rw [own_put0 _ _ _ hc, on_nat hc, on_z]
  simp only [Nat.zero_add, List.getD_eq_getElem?_getD, List.getElem?_map]
  by_cases q : i < cap
  · rw [List.getElem?_range q] <;> rfl
  · have q1 : vs[i]? = none := List.getElem?_eq_none (by omega)
    have q2 : (List.range cap)[i]? = none := List.getElem?_eq_none (by rw [List.length_range]; omega)
    rw [q1, q2] <;> rfl
theorem bts_app (cs ds : List Int32) : bts (cs ++ ds) = bts cs ++ bts ds := by simp [bts]
theorem bts_cut (cs : List Int32) (i m : Nat) : ((bts cs).drop i).take m = bts ((cs.drop i).take m) := by
  first | (unfold bts; rw [List.map_take, List.map_take, List.map_drop, List.map_drop]; done) | (simp [bts]; done)
theorem own_mem_app {cs ds : List Int32} (h1 : ∀ c ∈ cs, ¬ c < 0 ∧ ¬ (255 : Int32) < c) (h2 : ∀ c ∈ ds, ¬ c < 0 ∧ ¬ (255 : Int32) < c) : ∀ c ∈ cs ++ ds, ¬ c < 0 ∧ ¬ (255 : Int32) < c := fun c hc => (List.mem_append.mp hc).elim (h1 c) (h2 c)
theorem own_mem_cut {cs : List Int32} {i m : Nat} (h1 : ∀ c ∈ cs, ¬ c < 0 ∧ ¬ (255 : Int32) < c) : ∀ c ∈ (cs.drop i).take m, ¬ c < 0 ∧ ¬ (255 : Int32) < c := fun c hc => h1 c (List.mem_of_mem_drop (List.mem_of_mem_take hc))

theorem d_jdk_42_method_149_code_0 : decode jdk_42_method_149_code 0 = .ok (.aload_n 0, 1) := by decide +kernel
theorem d_jdk_42_method_149_code_1 : decode jdk_42_method_149_code 1 = .ok (.invokespecial 1, 3) := by decide +kernel
theorem d_jdk_42_method_149_code_4 : decode jdk_42_method_149_code 4 = .ok (.iload_n 3, 1) := by decide +kernel
theorem d_jdk_42_method_149_code_5 : decode jdk_42_method_149_code 5 = .ok (.ifCond .ne 22, 3) := by decide +kernel
theorem d_jdk_42_method_149_code_8 : decode jdk_42_method_149_code 8 = .ok (.aload_n 0, 1) := by decide +kernel
theorem d_jdk_42_method_149_code_9 : decode jdk_42_method_149_code 9 = .ok (.ldc 7, 2) := by decide +kernel
theorem d_jdk_42_method_149_code_11 : decode jdk_42_method_149_code 11 = .ok (.getfield 9, 3) := by decide +kernel
theorem d_jdk_42_method_149_code_14 : decode jdk_42_method_149_code 14 = .ok (.putfield 9, 3) := by decide +kernel
theorem d_jdk_42_method_149_code_17 : decode jdk_42_method_149_code 17 = .ok (.aload_n 0, 1) := by decide +kernel
theorem d_jdk_42_method_149_code_18 : decode jdk_42_method_149_code 18 = .ok (.ldc 7, 2) := by decide +kernel
theorem d_jdk_42_method_149_code_20 : decode jdk_42_method_149_code 20 = .ok (.getfield 15, 3) := by decide +kernel
theorem d_jdk_42_method_149_code_23 : decode jdk_42_method_149_code 23 = .ok (.putfield 15, 3) := by decide +kernel
theorem d_jdk_42_method_149_code_26 : decode jdk_42_method_149_code 26 = .ok (.return_, 1) := by decide +kernel
theorem pn_java_lang_String : plainName "java/lang/String" = true := by first | (simp [plainName, overriddenIn]; done) | decide +kernel
set_option maxRecDepth 65536 in
set_option maxHeartbeats 40000000 in
theorem rm_S4e (l : Launch) (Z : State) (a0 : Array Value) (hw : ∀ d ∈ tables_1, d.before a0 Z = true) (hEL : EW Z a0 consts_1) {ws : List Jvm.Cond} (x b : Addr) (h0 : Heap) (n0 : Nat) (E1 : Exa Z h0 x "java/lang/String") (F1 : Fld Z h0 x "java/lang/String" "value" "[B" .null) (F2 : Fld Z h0 x "java/lang/String" "coder" "B" (.int 0)) :
    Met l Z consts_1 (⟨"java/lang/String", "<init>", "([CIILjava/lang/Void;)V"⟩ : MethodName) jdk_42_method_149_code 6 none ws ({ frames := 1, cells := 4, slots := 8, locals := 14 } : Room) [x] #[(.ref x), (.ref b), (.int (0 : Int32)), (.int (0 : Int32)), .null] h0 n0 (nq (fun v h => v = none ∧ Keep h0 h [x] ∧ ∃ t kb, t ≠ x ∧ Str Z h x t kb [])) := by
  refine met_of (plainFor_of_name pn_java_lang_String) hw #[.val (.ref x), .val (.ref b), .val (.int (0 : Int32)), .val (.int (0 : Int32)), .val .null, .unset] (fun m => by first | rfl | (simp [entryFrame, mkF, argsToLocals, Value.category]; done)) ?_
  intro p e s m below meth c C0
  have C : Cx Z a0 tables_1 p s m meth c "java/lang/String" "<init>" jdk_42_method_149_code 6 none n0 := C0
  refine g_aloadN C d_jdk_42_method_149_code_0 rfl rfl ?_
  refine g_initO C w_11 w_12 w_13 rfl d_jdk_42_method_149_code_1 (by decide) 0 (Nat.le_of_eq rfl) (by decide) ?_
  refine g_iloadN C d_jdk_42_method_149_code_4 rfl ?_
  refine g_if_f C d_jdk_42_method_149_code_5 (XT.i0_ne_f (by decide)) ?_
  refine g_aloadN C d_jdk_42_method_149_code_8 rfl rfl ?_
  refine g_ldcS C hEL w_14 own_sA (List.mem_of_getElem? (i := 1) rfl) [] ⟨by decide +kernel, by decide +kernel⟩ (by decide) (by decide) d_jdk_42_method_149_code_9 0 (by decide +kernel) (by decide) (by decide) (by decide) ?_
  intro a101 t101 kb101 h101 E101 S101 X101
  refine g_getfield C w_20 Via.refl S101.2.2.1 d_jdk_42_method_149_code_11 ?_
  have K102 : Keep h0 h101 [] := (Keep.refl h0 []).ext E101
  have F103 := (F1.keep K102 nin0)
  have E104 := (E1.keep K102)
  refine g_putfield C (.array .byte) w_20 Via.refl F103 E104 (Or.inr ⟨w_16, rfl, rfl⟩) w_1 (by decide) rfl rfl (List.mem_of_getElem? (i := 0) rfl) d_jdk_42_method_149_code_14 ?_
  intro h105 W105 F105
  refine g_aloadN C d_jdk_42_method_149_code_17 rfl rfl ?_
  refine g_ldcS C hEL w_14 own_sA (List.mem_of_getElem? (i := 1) rfl) [] ⟨by decide +kernel, by decide +kernel⟩ (by decide) (by decide) d_jdk_42_method_149_code_18 0 (by decide +kernel) (by decide) (by decide) (by decide) ?_
  intro a106 t106 kb106 h106 E106 S106 X106
  refine g_getfield C w_21 Via.refl S106.2.1 d_jdk_42_method_149_code_20 ?_
  have F107 := (((F2.ext E101).other W105 (Or.inr (slot_ne (Or.inr (C.hw w_17)) (Or.inr (C.hw w_16)) (by decide) (t := .byte) (t' := (.array .byte)) (by decide) (by decide)))).ext E106)
  have E108 := ((E104.wr W105).ext E106)
  refine g_putfieldZ C .byte (.int (0 : Int32)) w_21 Via.refl F107 E108 (Or.inr ⟨w_17, rfl, rfl⟩) w_1 (by decide) rfl (by decide) (List.mem_of_getElem? (i := 0) rfl) d_jdk_42_method_149_code_23 ?_
  intro h109 W109 F109
  refine g_return C hEL rfl d_jdk_42_method_149_code_26 (by decide) (by decide) ?_
  have E110 := (E108.wr W109)
  have K111 : Keep h105 h106 [] := (Keep.refl h105 []).ext E106
  have F112 := ((F105.ext E106).other W109 (Or.inr (slot_ne (Or.inr (C.hw w_16)) (Or.inr (C.hw w_17)) (by decide) (t := (.array .byte)) (t' := .byte) (by decide) (by decide))))
  have V113 := (((S101.2.2.2.1.other W105 (Ne.symm (X101 _ (List.mem_of_getElem? (i := 0) rfl)).2)).ext E106).other W109 (Ne.symm (X101 _ (List.mem_of_getElem? (i := 0) rfl)).2))
  exact ⟨rfl, (((((Keep.refl _ _).ext E101).wr W105 (Or.inl (List.mem_cons_self ..))).ext E106).wr W109 (Or.inl (List.mem_cons_self ..))), t101, _, (Ne.symm (X101 _ (List.mem_of_getElem? (i := 0) rfl)).2), E110, F109, F112, V113, by decide, fun _ q => nomatch q⟩
theorem d_jdk_42_method_3_code_0 : decode jdk_42_method_3_code 0 = .ok (.aload_n 0, 1) := by decide +kernel
theorem d_jdk_42_method_3_code_1 : decode jdk_42_method_3_code 1 = .ok (.aload_n 1, 1) := by decide +kernel
theorem d_jdk_42_method_3_code_2 : decode jdk_42_method_3_code 2 = .ok (.iconst 0, 1) := by decide +kernel
theorem d_jdk_42_method_3_code_3 : decode jdk_42_method_3_code 3 = .ok (.aload_n 1, 1) := by decide +kernel
theorem d_jdk_42_method_3_code_4 : decode jdk_42_method_3_code 4 = .ok (.arraylength, 1) := by decide +kernel
theorem d_jdk_42_method_3_code_5 : decode jdk_42_method_3_code 5 = .ok (.aconst_null, 1) := by decide +kernel
theorem d_jdk_42_method_3_code_6 : decode jdk_42_method_3_code 6 = .ok (.invokespecial 27, 3) := by decide +kernel
theorem d_jdk_42_method_3_code_9 : decode jdk_42_method_3_code 9 = .ok (.return_, 1) := by decide +kernel
theorem pd___CIILjava_lang_Void__V : parseMethodDescriptor "([CIILjava/lang/Void;)V" = some ⟨[(.array .char), .int, .int, (.object "java/lang/Void")], none⟩ := by decide +kernel
set_option maxRecDepth 65536 in
set_option maxHeartbeats 40000000 in
theorem rm_S1e (l : Launch) (Z : State) (a0 : Array Value) (hw : ∀ d ∈ tables_1, d.before a0 Z = true) (hEL : EW Z a0 consts_1) {ws : List Jvm.Cond} (x b : Addr) (kc : ClassId) (h0 : Heap) (n0 : Nat) (E1 : Exa Z h0 x "java/lang/String") (F1 : Fld Z h0 x "java/lang/String" "value" "[B" .null) (F2 : Fld Z h0 x "java/lang/String" "coder" "B" (.int 0)) (Vb : Arv Z h0 b kc .char (0 : Int32) [] (.int 0)) :
    Met l Z consts_1 (⟨"java/lang/String", "<init>", "([C)V"⟩ : MethodName) jdk_42_method_3_code 2 none ws ({ frames := 2, cells := 4, slots := 8, locals := 31 } : Room) [x] #[(.ref x), (.ref b)] h0 n0 (nq (fun v h => v = none ∧ Keep h0 h [x] ∧ ∃ t kb, t ≠ x ∧ Str Z h x t kb [])) := by
  refine met_of (plainFor_of_name pn_java_lang_String) hw #[.val (.ref x), .val (.ref b)] (fun m => by first | rfl | (simp [entryFrame, mkF, argsToLocals, Value.category]; done)) ?_
  intro p e s m below meth c C0
  have C : Cx Z a0 tables_1 p s m meth c "java/lang/String" "<init>" jdk_42_method_3_code 2 none n0 := C0
  refine g_aloadN C d_jdk_42_method_3_code_0 rfl rfl ?_
  refine g_aloadN C d_jdk_42_method_3_code_1 rfl rfl ?_
  refine g_iconst C 0 d_jdk_42_method_3_code_2 rfl ?_
  refine g_aloadN C d_jdk_42_method_3_code_3 rfl rfl ?_
  refine g_arraylength C Vb d_jdk_42_method_3_code_4 ?_
  refine g_aconst_null C d_jdk_42_method_3_code_5 ?_
  refine g_special C (a := x) w_7 w_8 w_10 rfl (by decide) [(.ref b), (.int (0 : Int32)), (.int (0 : Int32)), .null] (ct_of hEL hw w_10 w_2 (rm_S4e l Z a0 hw hEL x b h0 n0 E1 F1 F2)) (allS (List.mem_of_getElem? (i := 0) rfl) all0) (by decide) 0 (by decide) rfl pd___CIILjava_lang_Void__V rfl [] rfl (Nat.le_of_eq rfl) d_jdk_42_method_3_code_6 (by decide) (by decide) ?_
  intro v114 h114 Q114
  obtain ⟨rfl, KC114, t114, kb114, tx114, S114⟩ := Q114
  refine g_return C hEL rfl d_jdk_42_method_3_code_9 (by decide) (by decide) ?_
  exact ⟨rfl, KC114, _, _, tx114, S114⟩
theorem d_jdk_42_method_151_code_0 : decode jdk_42_method_151_code 0 = .ok (.aload_n 0, 1) := by decide +kernel
theorem d_jdk_42_method_151_code_1 : decode jdk_42_method_151_code 1 = .ok (.invokespecial 1, 3) := by decide +kernel
theorem d_jdk_42_method_151_code_4 : decode jdk_42_method_151_code 4 = .ok (.aload_n 0, 1) := by decide +kernel
theorem d_jdk_42_method_151_code_5 : decode jdk_42_method_151_code 5 = .ok (.aload_n 1, 1) := by decide +kernel
theorem d_jdk_42_method_151_code_6 : decode jdk_42_method_151_code 6 = .ok (.putfield 9, 3) := by decide +kernel
theorem d_jdk_42_method_151_code_9 : decode jdk_42_method_151_code 9 = .ok (.aload_n 0, 1) := by decide +kernel
theorem d_jdk_42_method_151_code_10 : decode jdk_42_method_151_code 10 = .ok (.iload_n 2, 1) := by decide +kernel
theorem d_jdk_42_method_151_code_11 : decode jdk_42_method_151_code 11 = .ok (.putfield 15, 3) := by decide +kernel
theorem d_jdk_42_method_151_code_14 : decode jdk_42_method_151_code 14 = .ok (.return_, 1) := by decide +kernel
set_option maxRecDepth 65536 in
set_option maxHeartbeats 40000000 in
theorem rm_sbb (l : Launch) (Z : State) (a0 : Array Value) (hw : ∀ d ∈ tables_1, d.before a0 Z = true) (hEL : EW Z a0 consts_1) {ws : List Jvm.Cond} (x t : Addr) (h0 : Heap) (n0 : Nat) (E1 : Exa Z h0 x "java/lang/String") (F1 : Fld Z h0 x "java/lang/String" "value" "[B" .null) (F2 : Fld Z h0 x "java/lang/String" "coder" "B" (.int 0)) :
    Met l Z consts_1 (⟨"java/lang/String", "<init>", "([BB)V"⟩ : MethodName) jdk_42_method_151_code 3 none ws ({ frames := 1, cells := 0, slots := 0, locals := 12 } : Room) [x] #[(.ref x), (.ref t), (.int (0 : Int32))] h0 n0 (nq (fun v h => v = none ∧ Keep h0 h [x] ∧ Exa Z h x "java/lang/String" ∧ Fld Z h x "java/lang/String" "coder" "B" (.int 0) ∧ Fld Z h x "java/lang/String" "value" "[B" (.ref t))) := by
  refine met_of (plainFor_of_name pn_java_lang_String) hw #[.val (.ref x), .val (.ref t), .val (.int (0 : Int32))] (fun m => by first | rfl | (simp [entryFrame, mkF, argsToLocals, Value.category]; done)) ?_
  intro p e s m below meth c C0
  have C : Cx Z a0 tables_1 p s m meth c "java/lang/String" "<init>" jdk_42_method_151_code 3 none n0 := C0
  refine g_aloadN C d_jdk_42_method_151_code_0 rfl rfl ?_
  refine g_initO C w_11 w_12 w_13 rfl d_jdk_42_method_151_code_1 (by decide) 0 (Nat.le_of_eq rfl) (by decide) ?_
  refine g_aloadN C d_jdk_42_method_151_code_4 rfl rfl ?_
  refine g_aloadN C d_jdk_42_method_151_code_5 rfl rfl ?_
  refine g_putfield C (.array .byte) w_20 Via.refl F1 E1 (Or.inr ⟨w_16, rfl, rfl⟩) w_1 (by decide) rfl rfl (List.mem_of_getElem? (i := 0) rfl) d_jdk_42_method_151_code_6 ?_
  intro h115 W115 F115
  refine g_aloadN C d_jdk_42_method_151_code_9 rfl rfl ?_
  refine g_iloadN C d_jdk_42_method_151_code_10 rfl ?_
  have F116 := (F2.other W115 (Or.inr (slot_ne (Or.inr (C.hw w_17)) (Or.inr (C.hw w_16)) (by decide) (t := .byte) (t' := (.array .byte)) (by decide) (by decide))))
  have E117 := (E1.wr W115)
  refine g_putfieldZ C .byte (.int (0 : Int32)) w_21 Via.refl F116 E117 (Or.inr ⟨w_17, rfl, rfl⟩) w_1 (by decide) rfl (by decide) (List.mem_of_getElem? (i := 0) rfl) d_jdk_42_method_151_code_11 ?_
  intro h118 W118 F118
  refine g_return C hEL rfl d_jdk_42_method_151_code_14 (by decide) (by decide) ?_
  have E119 := (E117.wr W118)
  have F120 := (F115.other W118 (Or.inr (slot_ne (Or.inr (C.hw w_16)) (Or.inr (C.hw w_17)) (by decide) (t := (.array .byte)) (t' := .byte) (by decide) (by decide))))
  exact ⟨rfl, (((Keep.refl _ _).wr W115 (Or.inl (List.mem_cons_self ..))).wr W118 (Or.inl (List.mem_cons_self ..))), E119, F118, F120⟩
theorem d_jdk_43_method_3_code_0 : decode jdk_43_method_3_code 0 = .ok (.iload_n 0, 1) := by decide +kernel
theorem d_jdk_43_method_3_code_1 : decode jdk_43_method_3_code 1 = .ok (.sipush 255, 3) := by decide +kernel
theorem d_jdk_43_method_3_code_4 : decode jdk_43_method_3_code 4 = .ok (.if_icmp .gt 7, 3) := by decide +kernel
theorem d_jdk_43_method_3_code_7 : decode jdk_43_method_3_code 7 = .ok (.iconst 1, 1) := by decide +kernel
theorem d_jdk_43_method_3_code_8 : decode jdk_43_method_3_code 8 = .ok (.goto 4, 3) := by decide +kernel
theorem d_jdk_43_method_3_code_12 : decode jdk_43_method_3_code 12 = .ok (.ireturn, 1) := by decide +kernel
theorem pn_java_lang_StringLatin1 : plainName "java/lang/StringLatin1" = true := by first | (simp [plainName, overriddenIn]; done) | decide +kernel
set_option maxRecDepth 65536 in
set_option maxHeartbeats 40000000 in
theorem rm_ce (l : Launch) (Z : State) (a0 : Array Value) (hw : ∀ d ∈ tables_1, d.before a0 Z = true) (hEL : EW Z a0 consts_1) {ws : List Jvm.Cond} (q : Int32) (h0 : Heap) (n0 : Nat) (hq : Ch8 q) :
    Met l Z consts_1 (⟨"java/lang/StringLatin1", "canEncode", "(C)Z"⟩ : MethodName) jdk_43_method_3_code 1 (some .boolean) ws ({ frames := 0, cells := 0, slots := 0, locals := 0 } : Room) [] #[(.int q)] h0 n0 (nq (fun v h => v = some (.int 1) ∧ h = h0)) := by
  refine met_of (plainFor_of_name pn_java_lang_StringLatin1) hw #[.val (.int q)] (fun m => by first | rfl | (simp [entryFrame, mkF, argsToLocals, Value.category]; done)) ?_
  intro p e s m below meth c C0
  have C : Cx Z a0 tables_1 p s m meth c "java/lang/StringLatin1" "canEncode" jdk_43_method_3_code 1 (some .boolean) n0 := C0
  refine g_iloadN C d_jdk_43_method_3_code_0 rfl ?_
  refine g_sipush C 255 d_jdk_43_method_3_code_1 rfl ?_
  refine g_icmp_f C d_jdk_43_method_3_code_4 (XT.ii_gt_f hq.2) ?_
  refine g_iconst C 1 d_jdk_43_method_3_code_7 rfl ?_
  refine g_goto C 12 d_jdk_43_method_3_code_8 (by decide) (by decide) ?_
  refine g_ireturnN C hEL (t := .boolean) rfl (by simp) d_jdk_43_method_3_code_12 (by decide) (by decide) ?_
  exact ⟨rfl, rfl⟩
theorem own_narb (q : Int32) : nar .byte (q.toInt8.toInt32) = q.toInt8.toInt32 := by
  first | (simp [nar]; done) | exact congrArg Int8.toInt32 (Int8.toInt8_toInt32 _)

theorem d_jdk_43_method_46_code_0 : decode jdk_43_method_46_code 0 = .ok (.iconst 1, 1) := by decide +kernel
theorem d_jdk_43_method_46_code_1 : decode jdk_43_method_46_code 1 = .ok (.newarray .byte, 2) := by decide +kernel
theorem d_jdk_43_method_46_code_3 : decode jdk_43_method_46_code 3 = .ok (.dup, 1) := by decide +kernel
theorem d_jdk_43_method_46_code_4 : decode jdk_43_method_46_code 4 = .ok (.iconst 0, 1) := by decide +kernel
theorem d_jdk_43_method_46_code_5 : decode jdk_43_method_46_code 5 = .ok (.iload_n 0, 1) := by decide +kernel
theorem d_jdk_43_method_46_code_6 : decode jdk_43_method_46_code 6 = .ok (.i2b, 1) := by decide +kernel
theorem d_jdk_43_method_46_code_7 : decode jdk_43_method_46_code 7 = .ok (.bastore, 1) := by decide +kernel
theorem d_jdk_43_method_46_code_8 : decode jdk_43_method_46_code 8 = .ok (.areturn, 1) := by decide +kernel
set_option maxRecDepth 65536 in
set_option maxHeartbeats 40000000 in
theorem rm_tb (l : Launch) (Z : State) (a0 : Array Value) (hw : ∀ d ∈ tables_1, d.before a0 Z = true) (hEL : EW Z a0 consts_1) {ws : List Jvm.Cond} (q : Int32) (h0 : Heap) (n0 : Nat) :
    Met l Z consts_1 (⟨"java/lang/StringLatin1", "toBytes", "(C)[B"⟩ : MethodName) jdk_43_method_46_code 1 (some (.array .byte)) ws ({ frames := 0, cells := 1, slots := 1, locals := 0 } : Room) [] #[(.int q)] h0 n0 (nq (fun v h => ∃ b k', v = some (.ref b) ∧ Keep h0 h [] ∧ h0.size ≤ b ∧ Arv Z h b k' .byte (1 : Int32) [.int (q.toInt8.toInt32)] (.int (0 : Int32)))) := by
  refine met_of (plainFor_of_name pn_java_lang_StringLatin1) hw #[.val (.int q)] (fun m => by first | rfl | (simp [entryFrame, mkF, argsToLocals, Value.category]; done)) ?_
  intro p e s m below meth c C0
  have C : Cx Z a0 tables_1 p s m meth c "java/lang/StringLatin1" "toBytes" jdk_43_method_46_code 1 (some (.array .byte)) n0 := C0
  refine g_iconst C 1 d_jdk_43_method_46_code_0 rfl ?_
  refine g_newarray C (aty := .byte) w_15 d_jdk_43_method_46_code_1 (by decide) 1 (by decide) (by decide) (by decide) (by decide) "[B" rfl ?_
  intro b121 h121 ka121 g121 E121 V121 A121
  replace V121 : Arv Z h121 b121 ka121 .byte (1 : Int32) [(.int (0 : Int32))] (.int (0 : Int32)) := V121.pad (pad_rep [] _ 1)
  refine g_dup C d_jdk_43_method_46_code_3 rfl ?_
  refine g_iconst C 0 d_jdk_43_method_46_code_4 rfl ?_
  refine g_iloadN C d_jdk_43_method_46_code_5 rfl ?_
  refine g_i2b C d_jdk_43_method_46_code_6 ?_
  refine g_bastore C V121 (List.mem_of_getElem? (i := 0) rfl) d_jdk_43_method_46_code_7 ⟨by decide, by decide⟩ 0 rfl (Nat.le_of_ble_eq_true rfl) ?_
  intro h122 W122 V122
  replace V122 : Arv Z h122 b121 ka121 .byte (1 : Int32) [(.int (nar .byte (q.toInt8.toInt32)))] (.int (0 : Int32)) := V122
  refine g_areturn C hEL (t := (.array .byte)) rfl rfl rfl d_jdk_43_method_46_code_8 (by decide) (by decide) ?_
  have K123 : Keep h0 h121 [] := (Keep.refl h0 []).ext E121
  have K124 : Keep h0 h122 [] := K123.wr W122 (Or.inr (Nat.le_of_eq g121.symm))
  have V0 := V122
  rw [own_narb] at V0
  exact ⟨b121, _, rfl, K124, (Nat.le_of_eq g121.symm), V0⟩
theorem d_jdk_42_method_139_code_0 : decode jdk_42_method_139_code 0 = .ok (.getstatic 38, 3) := by decide +kernel
theorem d_jdk_42_method_139_code_3 : decode jdk_42_method_139_code 3 = .ok (.ifCond .eq 23, 3) := by decide +kernel
theorem d_jdk_42_method_139_code_6 : decode jdk_42_method_139_code 6 = .ok (.iload_n 0, 1) := by decide +kernel
theorem d_jdk_42_method_139_code_7 : decode jdk_42_method_139_code 7 = .ok (.invokestatic 1015, 3) := by decide +kernel
theorem d_jdk_42_method_139_code_10 : decode jdk_42_method_139_code 10 = .ok (.ifCond .eq 16, 3) := by decide +kernel
theorem d_jdk_42_method_139_code_13 : decode jdk_42_method_139_code 13 = .ok (.new 10, 3) := by decide +kernel
theorem d_jdk_42_method_139_code_16 : decode jdk_42_method_139_code 16 = .ok (.dup, 1) := by decide +kernel
theorem d_jdk_42_method_139_code_17 : decode jdk_42_method_139_code 17 = .ok (.iload_n 0, 1) := by decide +kernel
theorem d_jdk_42_method_139_code_18 : decode jdk_42_method_139_code 18 = .ok (.invokestatic 1018, 3) := by decide +kernel
theorem d_jdk_42_method_139_code_21 : decode jdk_42_method_139_code 21 = .ok (.iconst 0, 1) := by decide +kernel
theorem d_jdk_42_method_139_code_22 : decode jdk_42_method_139_code 22 = .ok (.invokespecial 209, 3) := by decide +kernel
theorem d_jdk_42_method_139_code_25 : decode jdk_42_method_139_code 25 = .ok (.areturn, 1) := by decide +kernel
theorem pd__C_Z : parseMethodDescriptor "(C)Z" = some ⟨[.char], some .boolean⟩ := by decide +kernel
theorem pd__C__B : parseMethodDescriptor "(C)[B" = some ⟨[.char], some (.array .byte)⟩ := by decide +kernel
theorem pd___BB_V : parseMethodDescriptor "([BB)V" = some ⟨[(.array .byte), .byte], none⟩ := by decide +kernel
set_option maxRecDepth 65536 in
set_option maxHeartbeats 40000000 in
theorem rm_vo (l : Launch) (Z : State) (a0 : Array Value) (hw : ∀ d ∈ tables_1, d.before a0 Z = true) (hEL : EW Z a0 consts_1) {ws : List Jvm.Cond} (q zc : Int32) (h0 : Heap) (n0 : Nat) (hq : Ch8 q) (Szc : Sta Z h0 "java/lang/String" "COMPACT_STRINGS" "Z" (.int zc)) (hzc : ¬ (zc = (0 : Int32))) :
    Met l Z consts_1 (⟨"java/lang/String", "valueOf", "(C)Ljava/lang/String;"⟩ : MethodName) jdk_42_method_139_code 1 (some (.object "java/lang/String")) ws ({ frames := 2, cells := 2, slots := 5, locals := 40 } : Room) [] #[(.int q)] h0 n0 (nq (fun v h => ∃ a t k', v = some (.ref a) ∧ Keep h0 h [] ∧ h0.size ≤ a ∧ h0.size ≤ t ∧ Str Z h a t k' [q])) := by
  refine met_of (plainFor_of_name pn_java_lang_String) hw #[.val (.int q)] (fun m => by first | rfl | (simp [entryFrame, mkF, argsToLocals, Value.category]; done)) ?_
  intro p e s m below meth c C0
  have C : Cx Z a0 tables_1 p s m meth c "java/lang/String" "valueOf" jdk_42_method_139_code 1 (some (.object "java/lang/String")) n0 := C0
  refine g_getstatic C w_67 Via.refl Szc d_jdk_42_method_139_code_0 ?_
  refine g_if_f C d_jdk_42_method_139_code_3 (XT.i0_eq_f hzc) ?_
  refine g_iloadN C d_jdk_42_method_139_code_6 rfl ?_
  refine g_static C w_238 w_239 w_215 w_240 (by decide) [(.int q)] (ct_of hEL hw w_240 w_215 (rm_ce l Z a0 hw hEL q h0 n0 hq)) all0 (by decide) 0 (by decide) rfl pd__C_Z rfl [] rfl (Nat.le_of_eq rfl) d_jdk_42_method_139_code_7 (by decide) (by decide) ?_
  intro v125 h125 Q125
  obtain ⟨rfl, e125⟩ := Q125
  replace e125 := e125.symm
  subst e125
  refine g_if_f C d_jdk_42_method_139_code_10 (XT.i0_eq_f (by decide)) ?_
  refine g_new C w_241 w_1 w_2 d_jdk_42_method_139_code_13 (by decide) (by decide) ?_
  intro b126 h126 g126 E126 A126 D126
  refine g_dup C d_jdk_42_method_139_code_16 rfl ?_
  refine g_iloadN C d_jdk_42_method_139_code_17 rfl ?_
  refine g_static C w_242 w_243 w_215 w_244 (by decide) [(.int q)] (ct_of hEL hw w_244 w_215 (rm_tb l Z a0 hw hEL q h126 n0 )) all0 (by decide) 2 (by decide) rfl pd__C__B rfl [(.ref b126), (.ref b126)] rfl (Nat.le_of_eq rfl) d_jdk_42_method_139_code_18 (by decide) (by decide) ?_
  intro v127 h127 Q127
  obtain ⟨b127, k127, rfl, KC127, le127, V127⟩ := Q127
  refine g_iconst C 0 d_jdk_42_method_139_code_21 rfl ?_
  have K128 : Keep h126 h127 [] := (Keep.refl h126 []).trans KC127 all0
  have E129 := (A126.keep K128)
  have F130 := ((D126 (Or.inr (C.hw w_16)) (ty := (.array .byte)) (by decide)).keep K128 nin0)
  have F131 := ((D126 (Or.inr (C.hw w_17)) (ty := .byte) (by decide)).keep K128 nin0)
  refine g_special C (a := b126) w_245 w_246 w_247 rfl (by decide) [(.ref b127), (.int (0 : Int32))] (ct_of hEL hw w_247 w_2 (rm_sbb l Z a0 hw hEL b126 b127 h127 n0 E129 F130 F131)) (allS (List.mem_of_getElem? (i := 0) rfl) all0) (by decide) 1 (by decide) rfl pd___BB_V rfl [(.ref b126)] rfl (Nat.le_of_eq rfl) d_jdk_42_method_139_code_22 (by decide) (by decide) ?_
  intro v132 h132 Q132
  obtain ⟨rfl, KC132, X132, G1132, G2132⟩ := Q132
  refine g_areturn C hEL (t := (.object "java/lang/String")) rfl rfl rfl d_jdk_42_method_139_code_25 (by decide) (by decide) ?_
  have K133 : Keep h0 h126 [] := (Keep.refl h0 []).ext E126
  have K134 : Keep h0 h127 [] := K133.trans KC127 all0
  have K135 : Keep h0 h132 [] := K134.trans KC132 (allS (Or.inr (Nat.le_of_eq g126.symm)) all0)
  have V136 := (V127.keep KC132 (ninS (Ne.symm (Nat.ne_of_lt (Nat.lt_of_lt_of_le A126.lt le127))) nin0))
  exact ⟨b126, b127, _, rfl, K135, (Nat.le_of_eq g126.symm), (Nat.le_trans K133.1 le127), X132, G1132, G2132, V136, Nat.le_of_ble_eq_true rfl, own_allc hq (fun _ q => nomatch q)⟩
theorem d_jdk_68_method_2_code_0 : decode jdk_68_method_2_code 0 = .ok (.aload_n 0, 1) := by decide +kernel
theorem d_jdk_68_method_2_code_1 : decode jdk_68_method_2_code 1 = .ok (.invokespecial 3, 3) := by decide +kernel
theorem d_jdk_68_method_2_code_4 : decode jdk_68_method_2_code 4 = .ok (.getstatic 18, 3) := by decide +kernel
theorem d_jdk_68_method_2_code_7 : decode jdk_68_method_2_code 7 = .ok (.ifCond .eq 18, 3) := by decide +kernel
theorem d_jdk_68_method_2_code_10 : decode jdk_68_method_2_code 10 = .ok (.aload_n 0, 1) := by decide +kernel
theorem d_jdk_68_method_2_code_11 : decode jdk_68_method_2_code 11 = .ok (.iload_n 1, 1) := by decide +kernel
theorem d_jdk_68_method_2_code_12 : decode jdk_68_method_2_code 12 = .ok (.newarray .byte, 2) := by decide +kernel
theorem d_jdk_68_method_2_code_14 : decode jdk_68_method_2_code 14 = .ok (.putfield 15, 3) := by decide +kernel
theorem d_jdk_68_method_2_code_17 : decode jdk_68_method_2_code 17 = .ok (.aload_n 0, 1) := by decide +kernel
theorem d_jdk_68_method_2_code_18 : decode jdk_68_method_2_code 18 = .ok (.iconst 0, 1) := by decide +kernel
theorem d_jdk_68_method_2_code_19 : decode jdk_68_method_2_code 19 = .ok (.putfield 22, 3) := by decide +kernel
theorem d_jdk_68_method_2_code_22 : decode jdk_68_method_2_code 22 = .ok (.goto 16, 3) := by decide +kernel
theorem d_jdk_68_method_2_code_38 : decode jdk_68_method_2_code 38 = .ok (.return_, 1) := by decide +kernel
theorem pn_java_lang_AbstractStringBuilder : plainName "java/lang/AbstractStringBuilder" = true := by first | (simp [plainName, overriddenIn]; done) | decide +kernel
set_option maxRecDepth 65536 in
set_option maxHeartbeats 40000000 in
theorem rm_ai (l : Launch) (Z : State) (a0 : Array Value) (hw : ∀ d ∈ tables_1, d.before a0 Z = true) (hEL : EW Z a0 consts_1) {ws : List Jvm.Cond} (sb : Addr) (zc : Int32) (h0 : Heap) (n0 : Nat) (E1 : Exa Z h0 sb "java/lang/StringBuilder") (F1 : Fld Z h0 sb "java/lang/AbstractStringBuilder" "value" "[B" .null) (F2 : Fld Z h0 sb "java/lang/AbstractStringBuilder" "coder" "B" (.int 0)) (F3 : Fld Z h0 sb "java/lang/AbstractStringBuilder" "count" "I" (.int 0)) (Szc : Sta Z h0 "java/lang/String" "COMPACT_STRINGS" "Z" (.int zc)) (hzc : ¬ (zc = (0 : Int32))) :
    Met l Z consts_1 (⟨"java/lang/AbstractStringBuilder", "<init>", "(I)V"⟩ : MethodName) jdk_68_method_2_code 2 none ws ({ frames := 1, cells := 1, slots := 16, locals := 14 } : Room) [sb] #[(.ref sb), (.int (16 : Int32))] h0 n0 (fun v h ns => ∃ t kt, ns = [t] ∧ v = none ∧ Keep h0 h [sb] ∧ h0.size ≤ t ∧ SBd Z h sb t kt 16 []) := by
  refine met_of (plainFor_of_name pn_java_lang_AbstractStringBuilder) hw #[.val (.ref sb), .val (.int (16 : Int32))] (fun m => by first | rfl | (simp [entryFrame, mkF, argsToLocals, Value.category]; done)) ?_
  intro p e s m below meth c C0
  have C : Cx Z a0 tables_1 p s m meth c "java/lang/AbstractStringBuilder" "<init>" jdk_68_method_2_code 2 none n0 := C0
  refine g_aloadN C d_jdk_68_method_2_code_0 rfl rfl ?_
  refine g_initO C w_41 w_12 w_13 rfl d_jdk_68_method_2_code_1 (by decide) 0 (Nat.le_of_eq rfl) (by decide) ?_
  refine g_getstatic C w_42 Via.refl Szc d_jdk_68_method_2_code_4 ?_
  refine g_if_f C d_jdk_68_method_2_code_7 (XT.i0_eq_f hzc) ?_
  refine g_aloadN C d_jdk_68_method_2_code_10 rfl rfl ?_
  refine g_iloadN C d_jdk_68_method_2_code_11 rfl ?_
  refine g_newarray C (aty := .byte) w_15 d_jdk_68_method_2_code_12 (by decide) 16 (by decide) (by decide) (by decide) (by decide) "[B" rfl ?_
  intro b137 h137 ka137 g137 E137 V137 A137
  replace V137 : Arv Z h137 b137 ka137 .byte (16 : Int32) [(.int (0 : Int32)), (.int (0 : Int32)), (.int (0 : Int32)), (.int (0 : Int32)), (.int (0 : Int32)), (.int (0 : Int32)), (.int (0 : Int32)), (.int (0 : Int32)), (.int (0 : Int32)), (.int (0 : Int32)), (.int (0 : Int32)), (.int (0 : Int32)), (.int (0 : Int32)), (.int (0 : Int32)), (.int (0 : Int32)), (.int (0 : Int32))] (.int (0 : Int32)) := V137.pad (pad_rep [] _ 16)
  have K138 : Keep h0 h137 [] := (Keep.refl h0 []).ext E137
  have F139 := (F1.keep K138 nin0)
  have E140 := (E1.keep K138)
  refine g_putfield C (.array .byte) w_43 Via.refl F139 E140 (Or.inl w_44) w_30 (by decide) rfl rfl (List.mem_of_getElem? (i := 1) rfl) d_jdk_68_method_2_code_14 ?_
  intro h141 W141 F141
  refine g_aloadN C d_jdk_68_method_2_code_17 rfl rfl ?_
  refine g_iconst C 0 d_jdk_68_method_2_code_18 rfl ?_
  have F142 := ((F2.ext E137).other W141 (Or.inr (slot_ne (Or.inl (C.hw w_46)) (Or.inl (C.hw w_44)) (by decide) (t := .byte) (t' := (.array .byte)) (by decide) (by decide))))
  have E143 := (E140.wr W141)
  refine g_putfieldZ C .byte (.int (0 : Int32)) w_45 Via.refl F142 E143 (Or.inl w_46) w_30 (by decide) rfl (by decide) (List.mem_of_getElem? (i := 1) rfl) d_jdk_68_method_2_code_19 ?_
  intro h144 W144 F144
  refine g_goto C 38 d_jdk_68_method_2_code_22 (by decide) (by decide) ?_
  refine g_returnX C hEL [b137] (allS (List.mem_of_getElem? (i := 0) rfl) all0) rfl d_jdk_68_method_2_code_38 (by decide) (by decide) ?_
  have E145 := (E143.wr W144)
  have F146 := (F141.other W144 (Or.inr (slot_ne (Or.inl (C.hw w_44)) (Or.inl (C.hw w_46)) (by decide) (t := (.array .byte)) (t' := .byte) (by decide) (by decide))))
  have F147 := (((F3.ext E137).other W141 (Or.inr (slot_ne (Or.inl (C.hw w_69)) (Or.inl (C.hw w_44)) (by decide) (t := .int) (t' := (.array .byte)) (by decide) (by decide)))).other W144 (Or.inr (slot_ne (Or.inl (C.hw w_69)) (Or.inl (C.hw w_46)) (by decide) (t := .int) (t' := .byte) (by decide) (by decide))))
  have V148 := ((V137.other W141 (Ne.symm (Nat.ne_of_lt (Nat.lt_of_lt_of_le E1.lt (Nat.le_of_eq g137.symm))))).other W144 (Ne.symm (Nat.ne_of_lt (Nat.lt_of_lt_of_le E1.lt (Nat.le_of_eq g137.symm)))))
  have E149 := ((A137.wr W141).wr W144)
  exact ⟨b137, _, rfl, rfl, ((((Keep.refl _ _).ext E137).wr W141 (Or.inl (List.mem_of_getElem? (i := 0) rfl))).wr W144 (Or.inl (List.mem_of_getElem? (i := 0) rfl))), (Nat.le_of_eq g137.symm), E145, F144, F146, F147, V148.pad (fun i => (pad_rep [] _ 16 i).symm), by decide, by decide, (fun _ q => nomatch q), E149⟩
theorem d_jdk_67_method_1_code_0 : decode jdk_67_method_1_code 0 = .ok (.aload_n 0, 1) := by decide +kernel
theorem d_jdk_67_method_1_code_1 : decode jdk_67_method_1_code 1 = .ok (.bipush 16, 2) := by decide +kernel
theorem d_jdk_67_method_1_code_3 : decode jdk_67_method_1_code 3 = .ok (.invokespecial 1, 3) := by decide +kernel
theorem d_jdk_67_method_1_code_6 : decode jdk_67_method_1_code 6 = .ok (.return_, 1) := by decide +kernel
theorem pn_java_lang_StringBuilder : plainName "java/lang/StringBuilder" = true := by first | (simp [plainName, overriddenIn]; done) | decide +kernel
theorem pd__I_V : parseMethodDescriptor "(I)V" = some ⟨[.int], none⟩ := by decide +kernel
set_option maxRecDepth 65536 in
set_option maxHeartbeats 40000000 in
theorem rm_si (l : Launch) (Z : State) (a0 : Array Value) (hw : ∀ d ∈ tables_1, d.before a0 Z = true) (hEL : EW Z a0 consts_1) {ws : List Jvm.Cond} (sb : Addr) (zc : Int32) (h0 : Heap) (n0 : Nat) (E1 : Exa Z h0 sb "java/lang/StringBuilder") (F1 : Fld Z h0 sb "java/lang/AbstractStringBuilder" "value" "[B" .null) (F2 : Fld Z h0 sb "java/lang/AbstractStringBuilder" "coder" "B" (.int 0)) (F3 : Fld Z h0 sb "java/lang/AbstractStringBuilder" "count" "I" (.int 0)) (Szc : Sta Z h0 "java/lang/String" "COMPACT_STRINGS" "Z" (.int zc)) (hzc : ¬ (zc = (0 : Int32))) :
    Met l Z consts_1 (⟨"java/lang/StringBuilder", "<init>", "()V"⟩ : MethodName) jdk_67_method_1_code 1 none ws ({ frames := 2, cells := 1, slots := 16, locals := 28 } : Room) [sb] #[(.ref sb)] h0 n0 (fun v h ns => ∃ t kt, ns = [t] ∧ v = none ∧ Keep h0 h [sb] ∧ h0.size ≤ t ∧ SBd Z h sb t kt 16 []) := by
  refine met_of (plainFor_of_name pn_java_lang_StringBuilder) hw #[.val (.ref sb)] (fun m => by first | rfl | (simp [entryFrame, mkF, argsToLocals, Value.category]; done)) ?_
  intro p e s m below meth c C0
  have C : Cx Z a0 tables_1 p s m meth c "java/lang/StringBuilder" "<init>" jdk_67_method_1_code 1 none n0 := C0
  refine g_aloadN C d_jdk_67_method_1_code_0 rfl rfl ?_
  refine g_bipush C 16 d_jdk_67_method_1_code_1 rfl ?_
  refine g_specialX C (a := sb) w_35 w_36 w_40 rfl (by decide) [(.int (16 : Int32))] (ct_of hEL hw w_40 w_39 (rm_ai l Z a0 hw hEL sb zc h0 n0 E1 F1 F2 F3 Szc hzc)) (allS (List.mem_of_getElem? (i := 0) rfl) all0) (by decide) 0 (by decide) rfl pd__I_V rfl [] rfl (Nat.le_of_eq rfl) d_jdk_67_method_1_code_3 (by decide) (by decide) ?_
  intro v150 h150 ns150 Q150
  obtain ⟨t150, kt150, rfl, rfl, KC150, le150, SB150⟩ := Q150
  refine g_returnX C hEL [t150] (allS (List.mem_of_getElem? (i := 0) rfl) all0) rfl d_jdk_67_method_1_code_6 (by decide) (by decide) ?_
  exact ⟨_, _, rfl, rfl, KC150, le150, SB150⟩
theorem d_jdk_29_method_69_code_0 : decode jdk_29_method_69_code 0 = .ok (.iload_n 0, 1) := by decide +kernel
theorem d_jdk_29_method_69_code_1 : decode jdk_29_method_69_code 1 = .ok (.iload_n 1, 1) := by decide +kernel
theorem d_jdk_29_method_69_code_2 : decode jdk_29_method_69_code 2 = .ok (.if_icmp .gt 7, 3) := by decide +kernel
theorem d_jdk_29_method_69_code_5 : decode jdk_29_method_69_code 5 = .ok (.iload_n 0, 1) := by decide +kernel
theorem d_jdk_29_method_69_code_6 : decode jdk_29_method_69_code 6 = .ok (.goto 4, 3) := by decide +kernel
theorem d_jdk_29_method_69_code_9 : decode jdk_29_method_69_code 9 = .ok (.iload_n 1, 1) := by decide +kernel
theorem d_jdk_29_method_69_code_10 : decode jdk_29_method_69_code 10 = .ok (.ireturn, 1) := by decide +kernel
set_option maxRecDepth 65536 in
set_option maxHeartbeats 40000000 in
theorem rm_min (l : Launch) (Z : State) (a0 : Array Value) (hw : ∀ d ∈ tables_1, d.before a0 Z = true) (hEL : EW Z a0 consts_1) {ws : List Jvm.Cond} (x y : Int32) (h0 : Heap) (n0 : Nat) :
    Met l Z consts_1 (⟨"java/lang/Math", "min", "(II)I"⟩ : MethodName) jdk_29_method_69_code 2 (some .int) ws ({ frames := 0, cells := 0, slots := 0, locals := 0 } : Room) [] #[(.int x), (.int y)] h0 n0 (nq (fun v h => v = some (.int (if y < x then y else x)) ∧ h = h0)) := by
  refine met_of (Jvm.Free.JP.mathPlain rfl (by decide +kernel)) hw #[.val (.int x), .val (.int y)] (fun m => by first | rfl | (simp [entryFrame, mkF, argsToLocals, Value.category]; done)) ?_
  intro p e s m below meth c C0
  have C : Cx Z a0 tables_1 p s m meth c "java/lang/Math" "min" jdk_29_method_69_code 2 (some .int) n0 := C0
  refine g_iloadN C d_jdk_29_method_69_code_0 rfl ?_
  refine g_iloadN C d_jdk_29_method_69_code_1 rfl ?_
  by_cases hc151 : y < x
  · refine g_icmp_t C 9 d_jdk_29_method_69_code_2 (XT.ii_gt_t hc151) (by decide) (by decide) ?_
    refine g_iloadN C d_jdk_29_method_69_code_9 rfl ?_
    refine g_ireturnI C hEL rfl d_jdk_29_method_69_code_10 (by decide) (by decide) ?_
    exact ⟨by simp [hc151], rfl⟩
  · refine g_icmp_f C d_jdk_29_method_69_code_2 (XT.ii_gt_f hc151) ?_
    refine g_iloadN C d_jdk_29_method_69_code_5 rfl ?_
    refine g_goto C 10 d_jdk_29_method_69_code_6 (by decide) (by decide) ?_
    refine g_ireturnI C hEL rfl d_jdk_29_method_69_code_10 (by decide) (by decide) ?_
    exact ⟨by simp [hc151], rfl⟩
theorem d_jdk_65_method_131_code_0 : decode jdk_65_method_131_code 0 = .ok (.iload_n 1, 1) := by decide +kernel
theorem d_jdk_65_method_131_code_1 : decode jdk_65_method_131_code 1 = .ok (.iload_n 0, 1) := by decide +kernel
theorem d_jdk_65_method_131_code_2 : decode jdk_65_method_131_code 2 = .ok (.if_icmp .ge 35, 3) := by decide +kernel
theorem d_jdk_65_method_131_code_37 : decode jdk_65_method_131_code 37 = .ok (.return_, 1) := by decide +kernel
theorem pn_java_util_Arrays : plainName "java/util/Arrays" = true := by first | (simp [plainName, overriddenIn]; done) | decide +kernel
set_option maxRecDepth 65536 in
set_option maxHeartbeats 40000000 in
theorem rm_cl (l : Launch) (Z : State) (a0 : Array Value) (hw : ∀ d ∈ tables_1, d.before a0 Z = true) (hEL : EW Z a0 consts_1) {ws : List Jvm.Cond} (x y : Int32) (h0 : Heap) (n0 : Nat) (hxy : ¬ y < x) :
    Met l Z consts_1 (⟨"java/util/Arrays", "checkLength", "(II)V"⟩ : MethodName) jdk_65_method_131_code 2 none ws ({ frames := 0, cells := 0, slots := 0, locals := 0 } : Room) [] #[(.int x), (.int y)] h0 n0 (nq (fun v h => v = none ∧ h = h0)) := by
  refine met_of (plainFor_of_name pn_java_util_Arrays) hw #[.val (.int x), .val (.int y)] (fun m => by first | rfl | (simp [entryFrame, mkF, argsToLocals, Value.category]; done)) ?_
  intro p e s m below meth c C0
  have C : Cx Z a0 tables_1 p s m meth c "java/util/Arrays" "checkLength" jdk_65_method_131_code 2 none n0 := C0
  refine g_iloadN C d_jdk_65_method_131_code_0 rfl ?_
  refine g_iloadN C d_jdk_65_method_131_code_1 rfl ?_
  refine g_icmp_t C 37 d_jdk_65_method_131_code_2 (XT.ii_ge_t hxy) (by decide) (by decide) ?_
  refine g_return C hEL rfl d_jdk_65_method_131_code_37 (by decide) (by decide) ?_
  exact ⟨rfl, rfl⟩
theorem d_jdk_68_method_9_code_0 : decode jdk_68_method_9_code 0 = .ok (.aload_n 0, 1) := by decide +kernel
theorem d_jdk_68_method_9_code_1 : decode jdk_68_method_9_code 1 = .ok (.getfield 15, 3) := by decide +kernel
theorem d_jdk_68_method_9_code_4 : decode jdk_68_method_9_code 4 = .ok (.arraylength, 1) := by decide +kernel
theorem d_jdk_68_method_9_code_5 : decode jdk_68_method_9_code 5 = .ok (.aload_n 0, 1) := by decide +kernel
theorem d_jdk_68_method_9_code_6 : decode jdk_68_method_9_code 6 = .ok (.getfield 22, 3) := by decide +kernel
theorem d_jdk_68_method_9_code_9 : decode jdk_68_method_9_code 9 = .ok (.ishr, 1) := by decide +kernel
theorem d_jdk_68_method_9_code_10 : decode jdk_68_method_9_code 10 = .ok (.istore_n 2, 1) := by decide +kernel
theorem d_jdk_68_method_9_code_11 : decode jdk_68_method_9_code 11 = .ok (.iload_n 1, 1) := by decide +kernel
theorem d_jdk_68_method_9_code_12 : decode jdk_68_method_9_code 12 = .ok (.iload_n 2, 1) := by decide +kernel
theorem d_jdk_68_method_9_code_13 : decode jdk_68_method_9_code 13 = .ok (.isub, 1) := by decide +kernel
theorem d_jdk_68_method_9_code_14 : decode jdk_68_method_9_code 14 = .ok (.ifCond .le 24, 3) := by decide +kernel
theorem d_jdk_68_method_9_code_38 : decode jdk_68_method_9_code 38 = .ok (.return_, 1) := by decide +kernel
set_option maxRecDepth 65536 in
set_option maxHeartbeats 40000000 in
theorem rm_ec (l : Launch) (Z : State) (a0 : Array Value) (hw : ∀ d ∈ tables_1, d.before a0 Z = true) (hEL : EW Z a0 consts_1) {ws : List Jvm.Cond} (sb t : Addr) (kt : ClassId) (cap need : Nat) (cs : List Int32) (h0 : Heap) (n0 : Nat) (S0 : SBd Z h0 sb t kt cap cs) (hnd : need ≤ 40) (hcs : cs.length ≤ need) (hcap : need ≤ cap) :
    Met l Z consts_1 (⟨"java/lang/AbstractStringBuilder", "ensureCapacityInternal", "(I)V"⟩ : MethodName) jdk_68_method_9_code 3 none ws ({ frames := 3, cells := 1, slots := 100, locals := 60 } : Room) [sb, t] #[(.ref sb), (.int (Int32.ofNat need))] h0 n0 (fun v h ns => ∃ t' kt' cap', ns = [t'] ∧ v = none ∧ Keep h0 h [sb] ∧ (t' = t ∨ h0.size ≤ t') ∧ SBd Z h sb t' kt' cap' cs ∧ need ≤ cap' ∧ cap' = cap) := by
  refine met_of (plainFor_of_name pn_java_lang_AbstractStringBuilder) hw #[.val (.ref sb), .val (.int (Int32.ofNat need)), .unset] (fun m => by first | rfl | (simp [entryFrame, mkF, argsToLocals, Value.category]; done)) ?_
  intro p e s m below meth c C0
  have C : Cx Z a0 tables_1 p s m meth c "java/lang/AbstractStringBuilder" "ensureCapacityInternal" jdk_68_method_9_code 3 none n0 := C0
  have hl0 := S0.2.2.2.2.2.1
  have hl1 := S0.2.2.2.2.2.2.1
  refine g_aloadN C d_jdk_68_method_9_code_0 rfl rfl ?_
  refine g_getfield C w_43 Via.refl S0.2.2.1 d_jdk_68_method_9_code_1 ?_
  refine g_arraylength C S0.2.2.2.2.1 d_jdk_68_method_9_code_4 ?_
  refine g_aloadN C d_jdk_68_method_9_code_5 rfl rfl ?_
  refine g_getfield C w_45 Via.refl S0.2.1 d_jdk_68_method_9_code_6 ?_
  refine g_ishr C d_jdk_68_method_9_code_9 ?_
  rw [own_shr0]
  refine g_istoreN C #[.val (.ref sb), .val (.int (Int32.ofNat need)), .val (.int (Int32.ofNat cap))] d_jdk_68_method_9_code_10 rfl ?_
  refine g_iloadN C d_jdk_68_method_9_code_11 rfl ?_
  refine g_iloadN C d_jdk_68_method_9_code_12 rfl ?_
  refine g_isub C d_jdk_68_method_9_code_13 ?_
  refine g_if_t C 38 d_jdk_68_method_9_code_14 (XT.i0_le_t (fun q => absurd ((on_pos (by omega) (by omega)).mp q) (by omega))) (by decide) (by decide) ?_
  refine g_returnX C hEL [t] (allS (List.mem_of_getElem? (i := 1) rfl) all0) rfl d_jdk_68_method_9_code_38 (by decide) (by decide) ?_
  exact ⟨t, _, cap, rfl, rfl, (Keep.refl _ _), Or.inl rfl, S0, hcap, rfl⟩
theorem d_jdk_42_method_152_code_0 : decode jdk_42_method_152_code 0 = .ok (.getstatic 38, 3) := by decide +kernel
theorem d_jdk_42_method_152_code_3 : decode jdk_42_method_152_code 3 = .ok (.ifCond .eq 10, 3) := by decide +kernel
theorem d_jdk_42_method_152_code_6 : decode jdk_42_method_152_code 6 = .ok (.aload_n 0, 1) := by decide +kernel
theorem d_jdk_42_method_152_code_7 : decode jdk_42_method_152_code 7 = .ok (.getfield 15, 3) := by decide +kernel
theorem d_jdk_42_method_152_code_10 : decode jdk_42_method_152_code 10 = .ok (.goto 4, 3) := by decide +kernel
theorem d_jdk_42_method_152_code_14 : decode jdk_42_method_152_code 14 = .ok (.ireturn, 1) := by decide +kernel
set_option maxRecDepth 65536 in
set_option maxHeartbeats 40000000 in
theorem rm_cod (l : Launch) (Z : State) (a0 : Array Value) (hw : ∀ d ∈ tables_1, d.before a0 Z = true) (hEL : EW Z a0 consts_1) {ws : List Jvm.Cond} (s : Addr) (zc : Int32) (h0 : Heap) (n0 : Nat) (Fc : Fld Z h0 s "java/lang/String" "coder" "B" (.int 0)) (Szc : Sta Z h0 "java/lang/String" "COMPACT_STRINGS" "Z" (.int zc)) (hzc : ¬ (zc = (0 : Int32))) :
    Met l Z consts_1 (⟨"java/lang/String", "coder", "()B"⟩ : MethodName) jdk_42_method_152_code 1 (some .byte) ws ({ frames := 0, cells := 0, slots := 0, locals := 0 } : Room) [] #[(.ref s)] h0 n0 (nq (fun v h => v = some (.int 0) ∧ h = h0)) := by
  refine met_of (plainFor_of_name pn_java_lang_String) hw #[.val (.ref s)] (fun m => by first | rfl | (simp [entryFrame, mkF, argsToLocals, Value.category]; done)) ?_
  intro p e sT m below meth c C0
  have C : Cx Z a0 tables_1 p sT m meth c "java/lang/String" "coder" jdk_42_method_152_code 1 (some .byte) n0 := C0
  refine g_getstatic C w_67 Via.refl Szc d_jdk_42_method_152_code_0 ?_
  refine g_if_f C d_jdk_42_method_152_code_3 (XT.i0_eq_f hzc) ?_
  refine g_aloadN C d_jdk_42_method_152_code_6 rfl rfl ?_
  refine g_getfield C w_21 Via.refl Fc d_jdk_42_method_152_code_7 ?_
  refine g_goto C 14 d_jdk_42_method_152_code_10 (by decide) (by decide) ?_
  refine g_ireturnN C hEL (t := .byte) rfl (by simp) d_jdk_42_method_152_code_14 (by decide) (by decide) ?_
  exact ⟨rfl, rfl⟩
theorem d_jdk_42_method_147_code_0 : decode jdk_42_method_147_code 0 = .ok (.aload_n 0, 1) := by decide +kernel
theorem d_jdk_42_method_147_code_1 : decode jdk_42_method_147_code 1 = .ok (.invokevirtual 335, 3) := by decide +kernel
theorem d_jdk_42_method_147_code_4 : decode jdk_42_method_147_code 4 = .ok (.iload_n 3, 1) := by decide +kernel
theorem d_jdk_42_method_147_code_5 : decode jdk_42_method_147_code 5 = .ok (.if_icmp .ne 23, 3) := by decide +kernel
theorem d_jdk_42_method_147_code_8 : decode jdk_42_method_147_code 8 = .ok (.aload_n 0, 1) := by decide +kernel
theorem d_jdk_42_method_147_code_9 : decode jdk_42_method_147_code 9 = .ok (.getfield 9, 3) := by decide +kernel
theorem d_jdk_42_method_147_code_12 : decode jdk_42_method_147_code 12 = .ok (.iconst 0, 1) := by decide +kernel
theorem d_jdk_42_method_147_code_13 : decode jdk_42_method_147_code 13 = .ok (.aload_n 1, 1) := by decide +kernel
theorem d_jdk_42_method_147_code_14 : decode jdk_42_method_147_code 14 = .ok (.iload_n 2, 1) := by decide +kernel
theorem d_jdk_42_method_147_code_15 : decode jdk_42_method_147_code 15 = .ok (.iload_n 3, 1) := by decide +kernel
theorem d_jdk_42_method_147_code_16 : decode jdk_42_method_147_code 16 = .ok (.ishl, 1) := by decide +kernel
theorem d_jdk_42_method_147_code_17 : decode jdk_42_method_147_code 17 = .ok (.aload_n 0, 1) := by decide +kernel
theorem d_jdk_42_method_147_code_18 : decode jdk_42_method_147_code 18 = .ok (.getfield 9, 3) := by decide +kernel
theorem d_jdk_42_method_147_code_21 : decode jdk_42_method_147_code 21 = .ok (.arraylength, 1) := by decide +kernel
theorem d_jdk_42_method_147_code_22 : decode jdk_42_method_147_code 22 = .ok (.invokestatic 212, 3) := by decide +kernel
theorem d_jdk_42_method_147_code_25 : decode jdk_42_method_147_code 25 = .ok (.goto 18, 3) := by decide +kernel
theorem d_jdk_42_method_147_code_43 : decode jdk_42_method_147_code 43 = .ok (.return_, 1) := by decide +kernel
theorem pd___B : parseMethodDescriptor "()B" = some ⟨[], some .byte⟩ := by decide +kernel
set_option maxRecDepth 65536 in
set_option maxHeartbeats 40000000 in
theorem rm_gb (l : Launch) (Z : State) (a0 : Array Value) (hw : ∀ d ∈ tables_1, d.before a0 Z = true) (hEL : EW Z a0 consts_1) {ws : List Jvm.Cond} (s2 t2 t : Addr) (k2 kt : ClassId) (cap : Nat) (cs ds : List Int32) (zc : Int32) (h0 : Heap) (n0 : Nat) (S2 : Str Z h0 s2 t2 k2 ds) (hn4 : t2 ≠ t) (Vt : Arv Z h0 t kt .byte (Int32.ofNat cap) (bts cs) (.int (0 : Int32))) (hfit : cs.length + ds.length ≤ cap) (hcap : cap ≤ 1000) (Szc : Sta Z h0 "java/lang/String" "COMPACT_STRINGS" "Z" (.int zc)) (hzc : ¬ (zc = (0 : Int32))) :
    Met l Z consts_1 (⟨"java/lang/String", "getBytes", "([BIB)V"⟩ : MethodName) jdk_42_method_147_code 4 none ws ({ frames := 2, cells := 0, slots := 0, locals := 26 } : Room) [t] #[(.ref s2), (.ref t), (.int (Int32.ofNat cs.length)), (.int (0 : Int32))] h0 n0 (nq (fun v h => v = none ∧ Keep h0 h [t] ∧ Arv Z h t kt .byte (Int32.ofNat cap) (bts (cs ++ ds)) (.int (0 : Int32)))) := by
  refine met_of (plainFor_of_name pn_java_lang_String) hw #[.val (.ref s2), .val (.ref t), .val (.int (Int32.ofNat cs.length)), .val (.int (0 : Int32))] (fun m => by first | rfl | (simp [entryFrame, mkF, argsToLocals, Value.category]; done)) ?_
  intro p e s m below meth c C0
  have C : Cx Z a0 tables_1 p s m meth c "java/lang/String" "getBytes" jdk_42_method_147_code 4 none n0 := C0
  refine g_aloadN C d_jdk_42_method_147_code_0 rfl rfl ?_
  refine g_virtual C S2.1 w_62 w_63 (fun hZ => nf_sel hw w_65 hZ) w_65 w_64 (by decide) [] (ct_of hEL hw w_66 w_2 (rm_cod l Z a0 hw hEL s2 zc h0 n0 S2.2.1 Szc hzc)) all0 (by decide) 0 (by decide) rfl pd___B rfl [] rfl (Nat.le_of_eq rfl) d_jdk_42_method_147_code_1 (by decide) (by decide) ?_
  intro v153 h153 Q153
  obtain ⟨rfl, e153⟩ := Q153
  replace e153 := e153.symm
  subst e153
  refine g_iloadN C d_jdk_42_method_147_code_4 rfl ?_
  refine g_icmp_f C d_jdk_42_method_147_code_5 (XT.ii_ne_f (by decide)) ?_
  refine g_aloadN C d_jdk_42_method_147_code_8 rfl rfl ?_
  refine g_getfield C w_20 Via.refl S2.2.2.1 d_jdk_42_method_147_code_9 ?_
  refine g_iconst C 0 d_jdk_42_method_147_code_12 rfl ?_
  refine g_aloadN C d_jdk_42_method_147_code_13 rfl rfl ?_
  refine g_iloadN C d_jdk_42_method_147_code_14 rfl ?_
  refine g_iloadN C d_jdk_42_method_147_code_15 rfl ?_
  refine g_ishl C d_jdk_42_method_147_code_16 ?_
  rw [own_shl0]
  refine g_aloadN C d_jdk_42_method_147_code_17 rfl rfl ?_
  refine g_getfield C w_20 Via.refl S2.2.2.1 d_jdk_42_method_147_code_18 ?_
  refine g_arraylength C S2.2.2.2.1 d_jdk_42_method_147_code_21 ?_
  refine g_arraycopy C w_91 w_94 w_92 w_93 S2.2.2.2.1 (Vt.pad (pad_rep _ _ ds.length)) rfl (by decide) (on_nn (by omega)) (on_nn (by omega)) (oc_0 (by omega) (by omega) (Nat.le_refl _)) (oc_n (by omega) (by omega) (by omega) hfit) (bts ds) ?_ (oc_l (bts cs) _ (by omega) (by omega) (bts_len cs)) (List.mem_of_getElem? (i := 0) rfl) rfl d_jdk_42_method_147_code_22 (by decide) 0 (Nat.le_of_eq rfl) (by decide) ?_
  · have q := own_us0 (bts ds) (.int (0 : Int32)) (by rw [bts_len]; omega)
    rw [bts_len] at q
    exact q
  intro h154 KC154 V154
  rw [own_put (bts cs) (bts ds) (.int (0 : Int32)) cs.length ds.length (by omega) (by omega) (bts_len _), ← bts_app] at V154
  refine g_goto C 43 d_jdk_42_method_147_code_25 (by decide) (by decide) ?_
  refine g_return C hEL rfl d_jdk_42_method_147_code_43 (by decide) (by decide) ?_
  exact ⟨rfl, KC154, V154⟩
theorem d_jdk_68_method_71_code_0 : decode jdk_68_method_71_code 0 = .ok (.getstatic 18, 3) := by decide +kernel
theorem d_jdk_68_method_71_code_3 : decode jdk_68_method_71_code 3 = .ok (.ifCond .eq 18, 3) := by decide +kernel
theorem d_jdk_68_method_71_code_6 : decode jdk_68_method_71_code 6 = .ok (.aload_n 0, 1) := by decide +kernel
theorem d_jdk_68_method_71_code_7 : decode jdk_68_method_71_code 7 = .ok (.getfield 22, 3) := by decide +kernel
theorem d_jdk_68_method_71_code_10 : decode jdk_68_method_71_code 10 = .ok (.aload_n 1, 1) := by decide +kernel
theorem d_jdk_68_method_71_code_11 : decode jdk_68_method_71_code 11 = .ok (.invokevirtual 40, 3) := by decide +kernel
theorem d_jdk_68_method_71_code_14 : decode jdk_68_method_71_code 14 = .ok (.if_icmp .eq 7, 3) := by decide +kernel
theorem d_jdk_68_method_71_code_21 : decode jdk_68_method_71_code 21 = .ok (.return_, 1) := by decide +kernel
set_option maxRecDepth 65536 in
set_option maxHeartbeats 40000000 in
theorem rm_in (l : Launch) (Z : State) (a0 : Array Value) (hw : ∀ d ∈ tables_1, d.before a0 Z = true) (hEL : EW Z a0 consts_1) {ws : List Jvm.Cond} (sb s2 t2 : Addr) (k2 : ClassId) (ds : List Int32) (zc : Int32) (h0 : Heap) (n0 : Nat) (S2 : Str Z h0 s2 t2 k2 ds) (Fc : Fld Z h0 sb "java/lang/AbstractStringBuilder" "coder" "B" (.int 0)) (Szc : Sta Z h0 "java/lang/String" "COMPACT_STRINGS" "Z" (.int zc)) (hzc : ¬ (zc = (0 : Int32))) :
    Met l Z consts_1 (⟨"java/lang/AbstractStringBuilder", "inflateIfNeededFor", "(Ljava/lang/String;)V"⟩ : MethodName) jdk_68_method_71_code 2 none ws ({ frames := 2, cells := 0, slots := 0, locals := 26 } : Room) [] #[(.ref sb), (.ref s2)] h0 n0 (nq (fun v h => v = none ∧ h = h0)) := by
  refine met_of (plainFor_of_name pn_java_lang_AbstractStringBuilder) hw #[.val (.ref sb), .val (.ref s2)] (fun m => by first | rfl | (simp [entryFrame, mkF, argsToLocals, Value.category]; done)) ?_
  intro p e s m below meth c C0
  have C : Cx Z a0 tables_1 p s m meth c "java/lang/AbstractStringBuilder" "inflateIfNeededFor" jdk_68_method_71_code 2 none n0 := C0
  refine g_getstatic C w_42 Via.refl Szc d_jdk_68_method_71_code_0 ?_
  refine g_if_f C d_jdk_68_method_71_code_3 (XT.i0_eq_f hzc) ?_
  refine g_aloadN C d_jdk_68_method_71_code_6 rfl rfl ?_
  refine g_getfield C w_45 Via.refl Fc d_jdk_68_method_71_code_7 ?_
  refine g_aloadN C d_jdk_68_method_71_code_10 rfl rfl ?_
  refine g_virtual C S2.1 w_85 w_63 (fun hZ => nf_sel hw w_65 hZ) w_65 w_64 (by decide) [] (ct_of hEL hw w_66 w_2 (rm_cod l Z a0 hw hEL s2 zc h0 n0 S2.2.1 Szc hzc)) all0 (by decide) 1 (by decide) rfl pd___B rfl [(.int (0 : Int32))] rfl (Nat.le_of_eq rfl) d_jdk_68_method_71_code_11 (by decide) (by decide) ?_
  intro v155 h155 Q155
  obtain ⟨rfl, e155⟩ := Q155
  replace e155 := e155.symm
  subst e155
  refine g_icmp_t C 21 d_jdk_68_method_71_code_14 (XT.ii_eq_t (by decide)) (by decide) (by decide) ?_
  refine g_return C hEL rfl d_jdk_68_method_71_code_21 (by decide) (by decide) ?_
  exact ⟨rfl, rfl⟩
theorem d_jdk_68_method_73_code_0 : decode jdk_68_method_73_code 0 = .ok (.aload_n 0, 1) := by decide +kernel
theorem d_jdk_68_method_73_code_1 : decode jdk_68_method_73_code 1 = .ok (.aload_n 2, 1) := by decide +kernel
theorem d_jdk_68_method_73_code_2 : decode jdk_68_method_73_code 2 = .ok (.invokevirtual 397, 3) := by decide +kernel
theorem d_jdk_68_method_73_code_5 : decode jdk_68_method_73_code 5 = .ok (.aload_n 2, 1) := by decide +kernel
theorem d_jdk_68_method_73_code_6 : decode jdk_68_method_73_code 6 = .ok (.aload_n 0, 1) := by decide +kernel
theorem d_jdk_68_method_73_code_7 : decode jdk_68_method_73_code 7 = .ok (.getfield 15, 3) := by decide +kernel
theorem d_jdk_68_method_73_code_10 : decode jdk_68_method_73_code 10 = .ok (.iload_n 1, 1) := by decide +kernel
theorem d_jdk_68_method_73_code_11 : decode jdk_68_method_73_code 11 = .ok (.aload_n 0, 1) := by decide +kernel
theorem d_jdk_68_method_73_code_12 : decode jdk_68_method_73_code 12 = .ok (.getfield 22, 3) := by decide +kernel
theorem d_jdk_68_method_73_code_15 : decode jdk_68_method_73_code 15 = .ok (.invokevirtual 399, 3) := by decide +kernel
theorem d_jdk_68_method_73_code_18 : decode jdk_68_method_73_code 18 = .ok (.return_, 1) := by decide +kernel
theorem pd__Ljava_lang_String__V : parseMethodDescriptor "(Ljava/lang/String;)V" = some ⟨[(.object "java/lang/String")], none⟩ := by decide +kernel
theorem pd___BIB_V : parseMethodDescriptor "([BIB)V" = some ⟨[(.array .byte), .int, .byte], none⟩ := by decide +kernel
set_option maxRecDepth 65536 in
set_option maxHeartbeats 40000000 in
theorem rm_ps (l : Launch) (Z : State) (a0 : Array Value) (hw : ∀ d ∈ tables_1, d.before a0 Z = true) (hEL : EW Z a0 consts_1) {ws : List Jvm.Cond} (sb t s2 t2 : Addr) (kt k2 : ClassId) (cap : Nat) (cs ds : List Int32) (zc : Int32) (h0 : Heap) (n0 : Nat) (S0 : SBd Z h0 sb t kt cap cs) (S2 : Str Z h0 s2 t2 k2 ds) (hn1 : s2 ≠ sb) (hn2 : s2 ≠ t) (hn3 : t2 ≠ sb) (hn4 : t2 ≠ t) (hfit : cs.length + ds.length ≤ cap) (hcap : cap ≤ 1000) (Szc : Sta Z h0 "java/lang/String" "COMPACT_STRINGS" "Z" (.int zc)) (hzc : ¬ (zc = (0 : Int32))) :
    Met l Z consts_1 (⟨"java/lang/AbstractStringBuilder", "putStringAt", "(ILjava/lang/String;)V"⟩ : MethodName) jdk_68_method_73_code 3 none ws ({ frames := 3, cells := 0, slots := 0, locals := 44 } : Room) [t] #[(.ref sb), (.int (Int32.ofNat cs.length)), (.ref s2)] h0 n0 (nq (fun v h => v = none ∧ Keep h0 h [t] ∧ Arv Z h t kt .byte (Int32.ofNat cap) (bts (cs ++ ds)) (.int (0 : Int32)))) := by
  refine met_of (plainFor_of_name pn_java_lang_AbstractStringBuilder) hw #[.val (.ref sb), .val (.int (Int32.ofNat cs.length)), .val (.ref s2)] (fun m => by first | rfl | (simp [entryFrame, mkF, argsToLocals, Value.category]; done)) ?_
  intro p e s m below meth c C0
  have C : Cx Z a0 tables_1 p s m meth c "java/lang/AbstractStringBuilder" "putStringAt" jdk_68_method_73_code 3 none n0 := C0
  refine g_aloadN C d_jdk_68_method_73_code_0 rfl rfl ?_
  refine g_aloadN C d_jdk_68_method_73_code_1 rfl rfl ?_
  refine g_private C S0.1 w_80 w_81 (fun hZ => ni_sel hw w_111 w_109 hZ) w_82 w_84 (by decide) [(.ref s2)] (ct_of hEL hw w_84 w_39 (rm_in l Z a0 hw hEL sb s2 t2 _ ds zc h0 n0 S2 S0.2.1 Szc hzc)) all0 (by decide) 0 (by decide) rfl pd__Ljava_lang_String__V rfl [] rfl (Nat.le_of_eq rfl) d_jdk_68_method_73_code_2 (by decide) (by decide) ?_
  intro v156 h156 Q156
  obtain ⟨rfl, e156⟩ := Q156
  replace e156 := e156.symm
  subst e156
  refine g_aloadN C d_jdk_68_method_73_code_5 rfl rfl ?_
  refine g_aloadN C d_jdk_68_method_73_code_6 rfl rfl ?_
  refine g_getfield C w_43 Via.refl S0.2.2.1 d_jdk_68_method_73_code_7 ?_
  refine g_iloadN C d_jdk_68_method_73_code_10 rfl ?_
  refine g_aloadN C d_jdk_68_method_73_code_11 rfl rfl ?_
  refine g_getfield C w_45 Via.refl S0.2.1 d_jdk_68_method_73_code_12 ?_
  refine g_virtual C S2.1 w_86 w_87 (fun hZ => nf_sel hw w_89 hZ) w_89 w_88 (by decide) [(.ref t), (.int (Int32.ofNat cs.length)), (.int (0 : Int32))] (ct_of hEL hw w_90 w_2 (rm_gb l Z a0 hw hEL s2 t2 t _ _ cap cs ds zc h0 n0 S2 hn4 S0.2.2.2.2.1 hfit hcap Szc hzc)) (allS (List.mem_of_getElem? (i := 0) rfl) all0) (by decide) 0 (by decide) rfl pd___BIB_V rfl [] rfl (Nat.le_of_eq rfl) d_jdk_68_method_73_code_15 (by decide) (by decide) ?_
  intro v157 h157 Q157
  obtain ⟨rfl, KC157, V157⟩ := Q157
  refine g_return C hEL rfl d_jdk_68_method_73_code_18 (by decide) (by decide) ?_
  exact ⟨rfl, KC157, V157⟩
theorem d_jdk_68_method_22_code_0 : decode jdk_68_method_22_code 0 = .ok (.aload_n 1, 1) := by decide +kernel
theorem d_jdk_68_method_22_code_1 : decode jdk_68_method_22_code 1 = .ok (.ifnonnull 8, 3) := by decide +kernel
theorem d_jdk_68_method_22_code_9 : decode jdk_68_method_22_code 9 = .ok (.aload_n 1, 1) := by decide +kernel
theorem d_jdk_68_method_22_code_10 : decode jdk_68_method_22_code 10 = .ok (.invokevirtual 32, 3) := by decide +kernel
theorem d_jdk_68_method_22_code_13 : decode jdk_68_method_22_code 13 = .ok (.istore_n 2, 1) := by decide +kernel
theorem d_jdk_68_method_22_code_14 : decode jdk_68_method_22_code 14 = .ok (.aload_n 0, 1) := by decide +kernel
theorem d_jdk_68_method_22_code_15 : decode jdk_68_method_22_code 15 = .ok (.aload_n 0, 1) := by decide +kernel
theorem d_jdk_68_method_22_code_16 : decode jdk_68_method_22_code 16 = .ok (.getfield 79, 3) := by decide +kernel
theorem d_jdk_68_method_22_code_19 : decode jdk_68_method_22_code 19 = .ok (.iload_n 2, 1) := by decide +kernel
theorem d_jdk_68_method_22_code_20 : decode jdk_68_method_22_code 20 = .ok (.iadd, 1) := by decide +kernel
theorem d_jdk_68_method_22_code_21 : decode jdk_68_method_22_code 21 = .ok (.invokevirtual 100, 3) := by decide +kernel
theorem d_jdk_68_method_22_code_24 : decode jdk_68_method_22_code 24 = .ok (.aload_n 0, 1) := by decide +kernel
theorem d_jdk_68_method_22_code_25 : decode jdk_68_method_22_code 25 = .ok (.aload_n 0, 1) := by decide +kernel
theorem d_jdk_68_method_22_code_26 : decode jdk_68_method_22_code 26 = .ok (.getfield 79, 3) := by decide +kernel
theorem d_jdk_68_method_22_code_29 : decode jdk_68_method_22_code 29 = .ok (.aload_n 1, 1) := by decide +kernel
theorem d_jdk_68_method_22_code_30 : decode jdk_68_method_22_code 30 = .ok (.invokevirtual 208, 3) := by decide +kernel
theorem d_jdk_68_method_22_code_33 : decode jdk_68_method_22_code 33 = .ok (.aload_n 0, 1) := by decide +kernel
theorem d_jdk_68_method_22_code_34 : decode jdk_68_method_22_code 34 = .ok (.dup, 1) := by decide +kernel
theorem d_jdk_68_method_22_code_35 : decode jdk_68_method_22_code 35 = .ok (.getfield 79, 3) := by decide +kernel
theorem d_jdk_68_method_22_code_38 : decode jdk_68_method_22_code 38 = .ok (.iload_n 2, 1) := by decide +kernel
theorem d_jdk_68_method_22_code_39 : decode jdk_68_method_22_code 39 = .ok (.iadd, 1) := by decide +kernel
theorem d_jdk_68_method_22_code_40 : decode jdk_68_method_22_code 40 = .ok (.putfield 79, 3) := by decide +kernel
theorem d_jdk_68_method_22_code_43 : decode jdk_68_method_22_code 43 = .ok (.aload_n 0, 1) := by decide +kernel
theorem d_jdk_68_method_22_code_44 : decode jdk_68_method_22_code 44 = .ok (.areturn, 1) := by decide +kernel
theorem pd___I : parseMethodDescriptor "()I" = some ⟨[], some .int⟩ := by decide +kernel
theorem pd__ILjava_lang_String__V : parseMethodDescriptor "(ILjava/lang/String;)V" = some ⟨[.int, (.object "java/lang/String")], none⟩ := by decide +kernel
set_option maxRecDepth 65536 in
set_option maxHeartbeats 40000000 in
theorem rm_aa (l : Launch) (Z : State) (a0 : Array Value) (hw : ∀ d ∈ tables_1, d.before a0 Z = true) (hEL : EW Z a0 consts_1) {ws : List Jvm.Cond} (sb t s2 t2 : Addr) (kt k2 : ClassId) (cap : Nat) (cs ds : List Int32) (zc : Int32) (h0 : Heap) (n0 : Nat) (S0 : SBd Z h0 sb t kt cap cs) (S2 : Str Z h0 s2 t2 k2 ds) (hn1 : s2 ≠ sb) (hn2 : s2 ≠ t) (hn3 : t2 ≠ sb) (hn4 : t2 ≠ t) (hst : sb ≠ t) (htot : cs.length + ds.length ≤ 40) (Szc : Sta Z h0 "java/lang/String" "COMPACT_STRINGS" "Z" (.int zc)) (hzc : ¬ (zc = (0 : Int32))) (hcap : cs.length + ds.length ≤ cap) :
    Met l Z consts_1 (⟨"java/lang/AbstractStringBuilder", "append", "(Ljava/lang/String;)Ljava/lang/AbstractStringBuilder;"⟩ : MethodName) jdk_68_method_22_code 3 (some (.object "java/lang/AbstractStringBuilder")) ws ({ frames := 4, cells := 1, slots := 100, locals := 80 } : Room) [sb, t] #[(.ref sb), (.ref s2)] h0 n0 (fun v h ns => ∃ t' kt' cap', ns = [t'] ∧ v = some (.ref sb) ∧ Keep h0 h [sb, t] ∧ (t' = t ∨ h0.size ≤ t') ∧ SBd Z h sb t' kt' cap' (cs ++ ds) ∧ cap' = cap) := by
  refine met_of (plainFor_of_name pn_java_lang_AbstractStringBuilder) hw #[.val (.ref sb), .val (.ref s2), .unset] (fun m => by first | rfl | (simp [entryFrame, mkF, argsToLocals, Value.category]; done)) ?_
  intro p e s m below meth c C0
  have C : Cx Z a0 tables_1 p s m meth c "java/lang/AbstractStringBuilder" "append" jdk_68_method_22_code 3 (some (.object "java/lang/AbstractStringBuilder")) n0 := C0
  refine g_aloadN C d_jdk_68_method_22_code_0 rfl rfl ?_
  refine g_ifnonnull_t C 9 d_jdk_68_method_22_code_1 (by decide) (by decide) ?_
  refine g_aloadN C d_jdk_68_method_22_code_9 rfl rfl ?_
  refine g_virtual C S2.1 w_57 w_58 (fun hZ => nf_sel hw w_60 hZ) w_60 w_59 (by decide) [] (ct_len hEL hw S2 Szc hzc) all0 (by decide) 0 (by decide) rfl pd___I rfl [] rfl (Nat.le_of_eq rfl) d_jdk_68_method_22_code_10 (by decide) (by decide) ?_
  intro v158 h158 Q158
  obtain ⟨rfl, e158⟩ := Q158
  replace e158 := e158.symm
  subst e158
  refine g_istoreN C #[.val (.ref sb), .val (.ref s2), .val (.int (Int32.ofNat ds.length))] d_jdk_68_method_22_code_13 rfl ?_
  refine g_aloadN C d_jdk_68_method_22_code_14 rfl rfl ?_
  refine g_aloadN C d_jdk_68_method_22_code_15 rfl rfl ?_
  refine g_getfield C w_68 Via.refl S0.2.2.2.1 d_jdk_68_method_22_code_16 ?_
  refine g_iloadN C d_jdk_68_method_22_code_19 rfl ?_
  refine g_iadd C d_jdk_68_method_22_code_20 ?_
  rw [on_add]
  refine g_privateX C S0.1 w_70 w_71 (fun hZ => ni_sel hw w_111 w_109 hZ) w_72 w_74 (by decide) [(.int (Int32.ofNat (cs.length + ds.length)))] (ct_of hEL hw w_74 w_39 (rm_ec l Z a0 hw hEL sb t _ cap (cs.length + ds.length) cs h0 n0 S0 (by omega) (by omega) hcap)) (allS (List.mem_of_getElem? (i := 0) rfl) (allS (List.mem_of_getElem? (i := 1) rfl) all0)) (by decide) 0 (by decide) rfl pd__I_V rfl [] rfl (Nat.le_of_eq rfl) d_jdk_68_method_22_code_21 (by decide) (by decide) ?_
  intro v159 h159 ns159 Q159
  obtain ⟨t'159, kt'159, cap'159, rfl, rfl, KC159, or159, SB159, hc159, ec159⟩ := Q159
  have hq1159 : s2 ≠ t'159 := or159.elim (fun q => by rw [q]; exact hn2) (fun q => Nat.ne_of_lt (Nat.lt_of_lt_of_le S2.1.lt q))
  have hq2159 : t2 ≠ t'159 := or159.elim (fun q => by rw [q]; exact hn4) (fun q => Nat.ne_of_lt (Nat.lt_of_lt_of_le S2.2.2.2.1.lt q))
  have hq3159 : sb ≠ t'159 := or159.elim (fun q => by rw [q]; exact hst) (fun q => Nat.ne_of_lt (Nat.lt_of_lt_of_le S0.1.lt q))
  refine g_aloadN C d_jdk_68_method_22_code_24 rfl rfl ?_
  refine g_aloadN C d_jdk_68_method_22_code_25 rfl rfl ?_
  refine g_getfield C w_68 Via.refl SB159.2.2.2.1 d_jdk_68_method_22_code_26 ?_
  refine g_aloadN C d_jdk_68_method_22_code_29 rfl rfl ?_
  have S160 := (S2.keep KC159 (ninS hn1 nin0) (ninS hn3 nin0))
  have T161 := (Sta_keepE Szc KC159 (allS ⟨_, S0.1⟩ all0))
  refine g_private C SB159.1 w_75 w_76 (fun hZ => ni_sel hw w_111 w_109 hZ) w_77 w_79 (by decide) [(.int (Int32.ofNat cs.length)), (.ref s2)] (ct_of hEL hw w_79 w_39 (rm_ps l Z a0 hw hEL sb t'159 s2 t2 _ _ cap'159 cs ds zc h159 n0 SB159 S160 hn1 hq1159 hn3 hq2159 hc159 (by have := SB159.2.2.2.2.2.2.1; omega) T161 hzc)) (allS (List.mem_of_getElem? (i := 0) rfl) all0) (by decide) 0 (by decide) rfl pd__ILjava_lang_String__V rfl [] rfl (Nat.le_of_eq rfl) d_jdk_68_method_22_code_30 (by decide) (by decide) ?_
  intro v162 h162 Q162
  obtain ⟨rfl, KC162, V162⟩ := Q162
  refine g_aloadN C d_jdk_68_method_22_code_33 rfl rfl ?_
  refine g_dup C d_jdk_68_method_22_code_34 rfl ?_
  have F163 := (SB159.2.2.2.1.keep KC162 (ninS hq3159 nin0))
  refine g_getfield C w_68 Via.refl F163 d_jdk_68_method_22_code_35 ?_
  refine g_iloadN C d_jdk_68_method_22_code_38 rfl ?_
  refine g_iadd C d_jdk_68_method_22_code_39 ?_
  have E164 := (SB159.1.keep KC162)
  refine g_putfield C .int w_68 Via.refl F163 E164 (Or.inl w_69) w_30 (by decide) rfl rfl (List.mem_of_getElem? (i := 1) rfl) d_jdk_68_method_22_code_40 ?_
  intro h165 W165 F165
  refine g_aloadN C d_jdk_68_method_22_code_43 rfl rfl ?_
  refine g_areturnX C hEL (t := (.object "java/lang/AbstractStringBuilder")) [t'159] (allS (List.mem_of_getElem? (i := 0) rfl) all0) rfl rfl rfl d_jdk_68_method_22_code_44 (by decide) (by decide) ?_
  have E166 := (E164.wr W165)
  have F167 := ((SB159.2.1.keep KC162 (ninS hq3159 nin0)).other W165 (Or.inr (slot_ne (Or.inl (C.hw w_46)) (Or.inl (C.hw w_69)) (by decide) (t := .byte) (t' := .int) (by decide) (by decide))))
  have F168 := ((SB159.2.2.1.keep KC162 (ninS hq3159 nin0)).other W165 (Or.inr (slot_ne (Or.inl (C.hw w_44)) (Or.inl (C.hw w_69)) (by decide) (t := (.array .byte)) (t' := .int) (by decide) (by decide))))
  have V169 := (V162.other W165 (Ne.symm hq3159))
  have E170 := ((SB159.2.2.2.2.2.2.2.2.keep KC162).wr W165)
  exact ⟨t'159, _, _, rfl, rfl, ((((Keep.refl _ _).trans KC159 (allS (Or.inl (List.mem_of_getElem? (i := 0) rfl)) all0)).trans KC162 (allS (or159.elim (fun q => Or.inl (by rw [q]; exact List.mem_of_getElem? (i := 1) rfl)) Or.inr) all0)).wr W165 (Or.inl (List.mem_of_getElem? (i := 0) rfl))), or159, ⟨E166, F167, F168, (by rw [List.length_append, ← on_add]; exact F165), V169, by rw [List.length_append]; exact hc159, SB159.2.2.2.2.2.2.1, own_mem_app S0.2.2.2.2.2.2.2.1 S2.2.2.2.2.2, E170⟩, ec159⟩
theorem d_jdk_67_method_7_code_0 : decode jdk_67_method_7_code 0 = .ok (.aload_n 0, 1) := by decide +kernel
theorem d_jdk_67_method_7_code_1 : decode jdk_67_method_7_code 1 = .ok (.aload_n 1, 1) := by decide +kernel
theorem d_jdk_67_method_7_code_2 : decode jdk_67_method_7_code 2 = .ok (.invokespecial 29, 3) := by decide +kernel
theorem d_jdk_67_method_7_code_5 : decode jdk_67_method_7_code 5 = .ok (.pop, 1) := by decide +kernel
theorem d_jdk_67_method_7_code_6 : decode jdk_67_method_7_code 6 = .ok (.aload_n 0, 1) := by decide +kernel
theorem d_jdk_67_method_7_code_7 : decode jdk_67_method_7_code 7 = .ok (.areturn, 1) := by decide +kernel
theorem pd__Ljava_lang_String__Ljava_lang_AbstractStringBuilder_ : parseMethodDescriptor "(Ljava/lang/String;)Ljava/lang/AbstractStringBuilder;" = some ⟨[(.object "java/lang/String")], some (.object "java/lang/AbstractStringBuilder")⟩ := by decide +kernel
set_option maxRecDepth 65536 in
set_option maxHeartbeats 40000000 in
theorem rm_sa (l : Launch) (Z : State) (a0 : Array Value) (hw : ∀ d ∈ tables_1, d.before a0 Z = true) (hEL : EW Z a0 consts_1) {ws : List Jvm.Cond} (sb t s2 t2 : Addr) (kt k2 : ClassId) (cap : Nat) (cs ds : List Int32) (zc : Int32) (h0 : Heap) (n0 : Nat) (S0 : SBd Z h0 sb t kt cap cs) (S2 : Str Z h0 s2 t2 k2 ds) (hn1 : s2 ≠ sb) (hn2 : s2 ≠ t) (hn3 : t2 ≠ sb) (hn4 : t2 ≠ t) (hst : sb ≠ t) (htot : cs.length + ds.length ≤ 40) (Szc : Sta Z h0 "java/lang/String" "COMPACT_STRINGS" "Z" (.int zc)) (hzc : ¬ (zc = (0 : Int32))) (hcap : cs.length + ds.length ≤ cap) :
    Met l Z consts_1 (⟨"java/lang/StringBuilder", "append", "(Ljava/lang/String;)Ljava/lang/StringBuilder;"⟩ : MethodName) jdk_67_method_7_code 2 (some (.object "java/lang/StringBuilder")) ws ({ frames := 5, cells := 1, slots := 100, locals := 96 } : Room) [sb, t] #[(.ref sb), (.ref s2)] h0 n0 (fun v h ns => ∃ t' kt' cap', ns = [t'] ∧ v = some (.ref sb) ∧ Keep h0 h [sb, t] ∧ (t' = t ∨ h0.size ≤ t') ∧ SBd Z h sb t' kt' cap' (cs ++ ds) ∧ cap' = cap) := by
  refine met_of (plainFor_of_name pn_java_lang_StringBuilder) hw #[.val (.ref sb), .val (.ref s2)] (fun m => by first | rfl | (simp [entryFrame, mkF, argsToLocals, Value.category]; done)) ?_
  intro p e s m below meth c C0
  have C : Cx Z a0 tables_1 p s m meth c "java/lang/StringBuilder" "append" jdk_67_method_7_code 2 (some (.object "java/lang/StringBuilder")) n0 := C0
  refine g_aloadN C d_jdk_67_method_7_code_0 rfl rfl ?_
  refine g_aloadN C d_jdk_67_method_7_code_1 rfl rfl ?_
  refine g_superX C S0.1 w_52 w_55 w_53 w_54 (by decide) w_56 (ni_sel hw w_111 w_109 (State.Warmed39.refl Z)) (by decide) [(.ref s2)] (ct_of hEL hw w_56 w_39 (rm_aa l Z a0 hw hEL sb t s2 t2 _ _ cap cs ds zc h0 n0 S0 S2 hn1 hn2 hn3 hn4 hst htot Szc hzc hcap)) (allS (List.mem_of_getElem? (i := 0) rfl) (allS (List.mem_of_getElem? (i := 1) rfl) all0)) (by decide) 0 (by decide) rfl pd__Ljava_lang_String__Ljava_lang_AbstractStringBuilder_ rfl [] rfl (Nat.le_of_eq rfl) d_jdk_67_method_7_code_2 (by decide) (by decide) ?_
  intro v171 h171 ns171 Q171
  obtain ⟨t'171, kt'171, cap'171, rfl, rfl, KC171, or171, SB171, ec171⟩ := Q171
  refine g_pop C d_jdk_67_method_7_code_5 rfl ?_
  refine g_aloadN C d_jdk_67_method_7_code_6 rfl rfl ?_
  refine g_areturnX C hEL (t := (.object "java/lang/StringBuilder")) [t'171] (allS (List.mem_of_getElem? (i := 0) rfl) all0) rfl rfl rfl d_jdk_67_method_7_code_7 (by decide) (by decide) ?_
  exact ⟨_, _, _, rfl, rfl, KC171, or171, SB171, ec171⟩
theorem d_jdk_65_method_133_code_0 : decode jdk_65_method_133_code 0 = .ok (.iload_n 1, 1) := by decide +kernel
theorem d_jdk_65_method_133_code_1 : decode jdk_65_method_133_code 1 = .ok (.iload_n 2, 1) := by decide +kernel
theorem d_jdk_65_method_133_code_2 : decode jdk_65_method_133_code 2 = .ok (.invokestatic 343, 3) := by decide +kernel
theorem d_jdk_65_method_133_code_5 : decode jdk_65_method_133_code 5 = .ok (.iload_n 2, 1) := by decide +kernel
theorem d_jdk_65_method_133_code_6 : decode jdk_65_method_133_code 6 = .ok (.iload_n 1, 1) := by decide +kernel
theorem d_jdk_65_method_133_code_7 : decode jdk_65_method_133_code 7 = .ok (.isub, 1) := by decide +kernel
theorem d_jdk_65_method_133_code_8 : decode jdk_65_method_133_code 8 = .ok (.istore_n 3, 1) := by decide +kernel
theorem d_jdk_65_method_133_code_9 : decode jdk_65_method_133_code 9 = .ok (.iload_n 3, 1) := by decide +kernel
theorem d_jdk_65_method_133_code_10 : decode jdk_65_method_133_code 10 = .ok (.newarray .byte, 2) := by decide +kernel
theorem d_jdk_65_method_133_code_12 : decode jdk_65_method_133_code 12 = .ok (.astore 4, 2) := by decide +kernel
theorem d_jdk_65_method_133_code_14 : decode jdk_65_method_133_code 14 = .ok (.aload_n 0, 1) := by decide +kernel
theorem d_jdk_65_method_133_code_15 : decode jdk_65_method_133_code 15 = .ok (.iload_n 1, 1) := by decide +kernel
theorem d_jdk_65_method_133_code_16 : decode jdk_65_method_133_code 16 = .ok (.aload 4, 2) := by decide +kernel
theorem d_jdk_65_method_133_code_18 : decode jdk_65_method_133_code 18 = .ok (.iconst 0, 1) := by decide +kernel
theorem d_jdk_65_method_133_code_19 : decode jdk_65_method_133_code 19 = .ok (.aload_n 0, 1) := by decide +kernel
theorem d_jdk_65_method_133_code_20 : decode jdk_65_method_133_code 20 = .ok (.arraylength, 1) := by decide +kernel
theorem d_jdk_65_method_133_code_21 : decode jdk_65_method_133_code 21 = .ok (.iload_n 1, 1) := by decide +kernel
theorem d_jdk_65_method_133_code_22 : decode jdk_65_method_133_code 22 = .ok (.isub, 1) := by decide +kernel
theorem d_jdk_65_method_133_code_23 : decode jdk_65_method_133_code 23 = .ok (.iload_n 3, 1) := by decide +kernel
theorem d_jdk_65_method_133_code_24 : decode jdk_65_method_133_code 24 = .ok (.invokestatic 304, 3) := by decide +kernel
theorem d_jdk_65_method_133_code_27 : decode jdk_65_method_133_code 27 = .ok (.invokestatic 150, 3) := by decide +kernel
theorem d_jdk_65_method_133_code_30 : decode jdk_65_method_133_code 30 = .ok (.aload 4, 2) := by decide +kernel
theorem d_jdk_65_method_133_code_32 : decode jdk_65_method_133_code 32 = .ok (.areturn, 1) := by decide +kernel
theorem pd__II_I : parseMethodDescriptor "(II)I" = some ⟨[.int, .int], some .int⟩ := by decide +kernel
theorem pd__II_V : parseMethodDescriptor "(II)V" = some ⟨[.int, .int], none⟩ := by decide +kernel
set_option maxRecDepth 65536 in
set_option maxHeartbeats 40000000 in
theorem rm_crb (l : Launch) (Z : State) (a0 : Array Value) (hw : ∀ d ∈ tables_1, d.before a0 Z = true) (hEL : EW Z a0 consts_1) {ws : List Jvm.Cond} (t : Addr) (kt : ClassId) (cap i j : Nat) (cs : List Int32) (h0 : Heap) (n0 : Nat) (Vt : Arv Z h0 t kt .byte (Int32.ofNat cap) (bts cs) (.int (0 : Int32))) (hij : i ≤ j) (hjl : j ≤ cs.length) (hlc : cs.length ≤ cap) (hc100 : j ≤ 100) (hcap : cap ≤ 1000) :
    Met l Z consts_1 (⟨"java/util/Arrays", "copyOfRangeByte", "([BII)[B"⟩ : MethodName) jdk_65_method_133_code 5 (some (.array .byte)) ws ({ frames := 1, cells := 1, slots := 100, locals := 24 } : Room) [] #[(.ref t), (.int (Int32.ofNat i)), (.int (Int32.ofNat j))] h0 n0 (nq (fun v h => ∃ b k', v = some (.ref b) ∧ Keep h0 h [] ∧ h0.size ≤ b ∧ Arv Z h b k' .byte (Int32.ofNat (j - i)) (bts ((cs.drop i).take (j - i))) (.int (0 : Int32)))) := by
  refine met_of (plainFor_of_name pn_java_util_Arrays) hw #[.val (.ref t), .val (.int (Int32.ofNat i)), .val (.int (Int32.ofNat j)), .unset, .unset] (fun m => by first | rfl | (simp [entryFrame, mkF, argsToLocals, Value.category]; done)) ?_
  intro p e s m below meth c C0
  have C : Cx Z a0 tables_1 p s m meth c "java/util/Arrays" "copyOfRangeByte" jdk_65_method_133_code 5 (some (.array .byte)) n0 := C0
  refine g_iloadN C d_jdk_65_method_133_code_0 rfl ?_
  refine g_iloadN C d_jdk_65_method_133_code_1 rfl ?_
  refine g_static C w_133 w_134 w_128 w_135 (by decide) [(.int (Int32.ofNat i)), (.int (Int32.ofNat j))] (ct_of hEL hw w_135 w_128 (rm_cl l Z a0 hw hEL (Int32.ofNat i) (Int32.ofNat j) h0 n0 (by rw [on_lt (by omega) (by omega)]; omega))) all0 (by decide) 0 (by decide) rfl pd__II_V rfl [] rfl (Nat.le_of_eq rfl) d_jdk_65_method_133_code_2 (by decide) (by decide) ?_
  intro v172 h172 Q172
  obtain ⟨rfl, e172⟩ := Q172
  replace e172 := e172.symm
  subst e172
  refine g_iloadN C d_jdk_65_method_133_code_5 rfl ?_
  refine g_iloadN C d_jdk_65_method_133_code_6 rfl ?_
  refine g_isub C d_jdk_65_method_133_code_7 ?_
  rw [on_sub hij]
  refine g_istoreN C #[.val (.ref t), .val (.int (Int32.ofNat i)), .val (.int (Int32.ofNat j)), .val (.int (Int32.ofNat (j - i))), .unset] d_jdk_65_method_133_code_8 rfl ?_
  refine g_iloadN C d_jdk_65_method_133_code_9 rfl ?_
  refine g_newarray C (aty := .byte) w_15 d_jdk_65_method_133_code_10 (on_nn (by omega)) 100 (by rw [on_nat (by omega)]; omega) (by decide) (by decide) (by decide) "[B" rfl ?_
  intro b173 h173 ka173 g173 E173 V173 A173
  replace V173 : Arv Z h173 b173 ka173 .byte (Int32.ofNat (j - i)) [] (.int (0 : Int32)) := V173
  refine g_astore C #[.val (.ref t), .val (.int (Int32.ofNat i)), .val (.int (Int32.ofNat j)), .val (.int (Int32.ofNat (j - i))), .val (.ref b173)] d_jdk_65_method_133_code_12 rfl rfl ?_
  refine g_aloadN C d_jdk_65_method_133_code_14 rfl rfl ?_
  refine g_iloadN C d_jdk_65_method_133_code_15 rfl ?_
  refine g_aload C d_jdk_65_method_133_code_16 rfl rfl ?_
  refine g_iconst C 0 d_jdk_65_method_133_code_18 rfl ?_
  refine g_aloadN C d_jdk_65_method_133_code_19 rfl rfl ?_
  have K174 : Keep h0 h173 [] := (Keep.refl h0 []).ext E173
  have V175 := (Vt.keep K174 nin0)
  refine g_arraylength C V175 d_jdk_65_method_133_code_20 ?_
  refine g_iloadN C d_jdk_65_method_133_code_21 rfl ?_
  refine g_isub C d_jdk_65_method_133_code_22 ?_
  rw [on_sub (by omega)]
  refine g_iloadN C d_jdk_65_method_133_code_23 rfl ?_
  refine g_static C w_136 w_137 w_138 w_139 (by decide) [(.int (Int32.ofNat (cap - i))), (.int (Int32.ofNat (j - i)))] (ct_of hEL hw w_139 w_138 (rm_min l Z a0 hw hEL (Int32.ofNat (cap - i)) (Int32.ofNat (j - i)) h173 n0 )) all0 (by decide) 4 (by decide) rfl pd__II_I rfl [(.int (0 : Int32)), (.ref b173), (.int (Int32.ofNat i)), (.ref t)] rfl (Nat.le_of_eq rfl) d_jdk_65_method_133_code_24 (by decide) (by decide) ?_
  intro v176 h176 Q176
  obtain ⟨ev176, e176⟩ := Q176
  replace e176 := e176.symm
  subst e176
  replace ev176 : v176 = some (.int (Int32.ofNat (j - i))) := ev176.trans (by rw [on_min (by omega) (by omega), Nat.min_eq_right (by omega)])
  subst ev176
  refine g_arraycopy C w_140 w_94 w_92 w_93 V175 (V173.pad (pad_rep [] _ (j - i))) rfl (on_nn (by omega)) (by decide) (on_nn (by omega)) (oc_n (by omega) (by omega) (by omega) (by omega)) (oc_0 (by omega) (by omega) (Nat.le_refl _)) (((bts cs).drop i).take (j - i)) (own_us (bts cs) _ i (j - i) (by omega) (by omega) (by rw [bts_len]; omega)) (oc_l0 _ (by omega)) (List.mem_of_getElem? (i := 0) rfl) rfl d_jdk_65_method_133_code_27 (by decide) 0 (Nat.le_of_eq rfl) (by decide) ?_
  intro h177 KC177 V177
  rw [own_put0 (((bts cs).drop i).take (j - i)) (.int (0 : Int32)) (j - i) (by omega), bts_cut] at V177
  refine g_aload C d_jdk_65_method_133_code_30 rfl rfl ?_
  refine g_areturn C hEL (t := (.array .byte)) rfl rfl rfl d_jdk_65_method_133_code_32 (by decide) (by decide) ?_
  have K178 : Keep h0 h177 [] := K174.trans KC177 (allS (Or.inr (Nat.le_of_eq g173.symm)) all0)
  exact ⟨b173, _, rfl, K178, (Nat.le_of_eq g173.symm), V177⟩
theorem d_jdk_65_method_132_code_0 : decode jdk_65_method_132_code 0 = .ok (.iload_n 1, 1) := by decide +kernel
theorem d_jdk_65_method_132_code_1 : decode jdk_65_method_132_code 1 = .ok (.ifCond .ne 9, 3) := by decide +kernel
theorem d_jdk_65_method_132_code_4 : decode jdk_65_method_132_code 4 = .ok (.iload_n 2, 1) := by decide +kernel
theorem d_jdk_65_method_132_code_5 : decode jdk_65_method_132_code 5 = .ok (.aload_n 0, 1) := by decide +kernel
theorem d_jdk_65_method_132_code_6 : decode jdk_65_method_132_code 6 = .ok (.arraylength, 1) := by decide +kernel
theorem d_jdk_65_method_132_code_7 : decode jdk_65_method_132_code 7 = .ok (.if_icmp .eq 10, 3) := by decide +kernel
theorem d_jdk_65_method_132_code_10 : decode jdk_65_method_132_code 10 = .ok (.aload_n 0, 1) := by decide +kernel
theorem d_jdk_65_method_132_code_11 : decode jdk_65_method_132_code 11 = .ok (.iload_n 1, 1) := by decide +kernel
theorem d_jdk_65_method_132_code_12 : decode jdk_65_method_132_code 12 = .ok (.iload_n 2, 1) := by decide +kernel
theorem d_jdk_65_method_132_code_13 : decode jdk_65_method_132_code 13 = .ok (.invokestatic 339, 3) := by decide +kernel
theorem d_jdk_65_method_132_code_16 : decode jdk_65_method_132_code 16 = .ok (.areturn, 1) := by decide +kernel
theorem pd___BII__B : parseMethodDescriptor "([BII)[B" = some ⟨[(.array .byte), .int, .int], some (.array .byte)⟩ := by decide +kernel
set_option maxRecDepth 65536 in
set_option maxHeartbeats 40000000 in
theorem rm_c00 (l : Launch) (Z : State) (a0 : Array Value) (hw : ∀ d ∈ tables_1, d.before a0 Z = true) (hEL : EW Z a0 consts_1) {ws : List Jvm.Cond} (t : Addr) (kt : ClassId) (cap j : Nat) (cs : List Int32) (h0 : Heap) (n0 : Nat) (Vt : Arv Z h0 t kt .byte (Int32.ofNat cap) (bts cs) (.int (0 : Int32))) (hjl : j ≤ cs.length) (hlc : cs.length ≤ cap) (hc100 : j ≤ 100) (hcap : cap ≤ 1000) (hncap : j < cap) :
    Met l Z consts_1 (⟨"java/util/Arrays", "copyOfRange", "([BII)[B"⟩ : MethodName) jdk_65_method_132_code 3 (some (.array .byte)) ws ({ frames := 2, cells := 1, slots := 100, locals := 44 } : Room) [] #[(.ref t), (.int (0 : Int32)), (.int (Int32.ofNat j))] h0 n0 (nq (fun v h => ∃ b k', v = some (.ref b) ∧ Keep h0 h [] ∧ h0.size ≤ b ∧ Arv Z h b k' .byte (Int32.ofNat (j - 0)) (bts ((cs.drop 0).take (j - 0))) (.int (0 : Int32)))) := by
  refine met_of (plainFor_of_name pn_java_util_Arrays) hw #[.val (.ref t), .val (.int (0 : Int32)), .val (.int (Int32.ofNat j))] (fun m => by first | rfl | (simp [entryFrame, mkF, argsToLocals, Value.category]; done)) ?_
  intro p e s m below meth c C0
  have C : Cx Z a0 tables_1 p s m meth c "java/util/Arrays" "copyOfRange" jdk_65_method_132_code 3 (some (.array .byte)) n0 := C0
  refine g_iloadN C d_jdk_65_method_132_code_0 rfl ?_
  refine g_if_f C d_jdk_65_method_132_code_1 (XT.i0_ne_f (by decide)) ?_
  refine g_iloadN C d_jdk_65_method_132_code_4 rfl ?_
  refine g_aloadN C d_jdk_65_method_132_code_5 rfl rfl ?_
  refine g_arraylength C Vt d_jdk_65_method_132_code_6 ?_
  refine g_icmp_f C d_jdk_65_method_132_code_7 (XT.ii_eq_f (by rw [on_eq (by omega) (by omega)]; omega)) ?_
  refine g_aloadN C d_jdk_65_method_132_code_10 rfl rfl ?_
  refine g_iloadN C d_jdk_65_method_132_code_11 rfl ?_
  refine g_iloadN C d_jdk_65_method_132_code_12 rfl ?_
  refine g_static C w_130 w_131 w_128 w_132 (by decide) [(.ref t), (.int (0 : Int32)), (.int (Int32.ofNat j))] (ct_of hEL hw w_132 w_128 (rm_crb l Z a0 hw hEL t _ cap 0 j cs h0 n0 Vt (Nat.zero_le _) hjl hlc hc100 hcap)) all0 (by decide) 0 (by decide) rfl pd___BII__B rfl [] rfl (Nat.le_of_eq rfl) d_jdk_65_method_132_code_13 (by decide) (by decide) ?_
  intro v179 h179 Q179
  obtain ⟨b179, k179, rfl, KC179, le179, V179⟩ := Q179
  refine g_areturn C hEL (t := (.array .byte)) rfl rfl rfl d_jdk_65_method_132_code_16 (by decide) (by decide) ?_
  have K180 : Keep h0 h179 [] := (Keep.refl h0 []).trans KC179 all0
  exact ⟨b179, _, rfl, K180, le179, V179⟩
theorem d_jdk_68_method_64_code_0 : decode jdk_68_method_64_code 0 = .ok (.aload_n 0, 1) := by decide +kernel
theorem d_jdk_68_method_64_code_1 : decode jdk_68_method_64_code 1 = .ok (.getfield 15, 3) := by decide +kernel
theorem d_jdk_68_method_64_code_4 : decode jdk_68_method_64_code 4 = .ok (.areturn, 1) := by decide +kernel
set_option maxRecDepth 65536 in
set_option maxHeartbeats 40000000 in
theorem rm_gv (l : Launch) (Z : State) (a0 : Array Value) (hw : ∀ d ∈ tables_1, d.before a0 Z = true) (hEL : EW Z a0 consts_1) {ws : List Jvm.Cond} (sb t : Addr) (kt : ClassId) (cap : Nat) (cs : List Int32) (h0 : Heap) (n0 : Nat) (S0 : SBd Z h0 sb t kt cap cs) :
    Met l Z consts_1 (⟨"java/lang/AbstractStringBuilder", "getValue", "()[B"⟩ : MethodName) jdk_68_method_64_code 1 (some (.array .byte)) ws ({ frames := 0, cells := 0, slots := 0, locals := 0 } : Room) [] #[(.ref sb)] h0 n0 (nq (fun v h => v = some (.ref t) ∧ h = h0)) := by
  refine met_of (plainFor_of_name pn_java_lang_AbstractStringBuilder) hw #[.val (.ref sb)] (fun m => by first | rfl | (simp [entryFrame, mkF, argsToLocals, Value.category]; done)) ?_
  intro p e s m below meth c C0
  have C : Cx Z a0 tables_1 p s m meth c "java/lang/AbstractStringBuilder" "getValue" jdk_68_method_64_code 1 (some (.array .byte)) n0 := C0
  refine g_aloadN C d_jdk_68_method_64_code_0 rfl rfl ?_
  refine g_getfield C w_43 Via.refl S0.2.2.1 d_jdk_68_method_64_code_1 ?_
  refine g_areturn C hEL (t := (.array .byte)) rfl rfl rfl d_jdk_68_method_64_code_4 (by decide) (by decide) ?_
  exact ⟨rfl, rfl⟩
theorem d_jdk_68_method_6_code_0 : decode jdk_68_method_6_code 0 = .ok (.aload_n 0, 1) := by decide +kernel
theorem d_jdk_68_method_6_code_1 : decode jdk_68_method_6_code 1 = .ok (.getfield 79, 3) := by decide +kernel
theorem d_jdk_68_method_6_code_4 : decode jdk_68_method_6_code 4 = .ok (.ireturn, 1) := by decide +kernel
set_option maxRecDepth 65536 in
set_option maxHeartbeats 40000000 in
theorem rm_la (l : Launch) (Z : State) (a0 : Array Value) (hw : ∀ d ∈ tables_1, d.before a0 Z = true) (hEL : EW Z a0 consts_1) {ws : List Jvm.Cond} (sb t : Addr) (kt : ClassId) (cap : Nat) (cs : List Int32) (h0 : Heap) (n0 : Nat) (S0 : SBd Z h0 sb t kt cap cs) :
    Met l Z consts_1 (⟨"java/lang/AbstractStringBuilder", "length", "()I"⟩ : MethodName) jdk_68_method_6_code 1 (some .int) ws ({ frames := 0, cells := 0, slots := 0, locals := 0 } : Room) [] #[(.ref sb)] h0 n0 (nq (fun v h => v = some (.int (Int32.ofNat cs.length)) ∧ h = h0)) := by
  refine met_of (plainFor_of_name pn_java_lang_AbstractStringBuilder) hw #[.val (.ref sb)] (fun m => by first | rfl | (simp [entryFrame, mkF, argsToLocals, Value.category]; done)) ?_
  intro p e s m below meth c C0
  have C : Cx Z a0 tables_1 p s m meth c "java/lang/AbstractStringBuilder" "length" jdk_68_method_6_code 1 (some .int) n0 := C0
  refine g_aloadN C d_jdk_68_method_6_code_0 rfl rfl ?_
  refine g_getfield C w_68 Via.refl S0.2.2.2.1 d_jdk_68_method_6_code_1 ?_
  refine g_ireturnI C hEL rfl d_jdk_68_method_6_code_4 (by decide) (by decide) ?_
  exact ⟨rfl, rfl⟩
theorem d_jdk_67_method_93_code_0 : decode jdk_67_method_93_code 0 = .ok (.aload_n 0, 1) := by decide +kernel
theorem d_jdk_67_method_93_code_1 : decode jdk_67_method_93_code 1 = .ok (.invokespecial 343, 3) := by decide +kernel
theorem d_jdk_67_method_93_code_4 : decode jdk_67_method_93_code 4 = .ok (.ireturn, 1) := by decide +kernel
set_option maxRecDepth 65536 in
set_option maxHeartbeats 40000000 in
theorem rm_ls (l : Launch) (Z : State) (a0 : Array Value) (hw : ∀ d ∈ tables_1, d.before a0 Z = true) (hEL : EW Z a0 consts_1) {ws : List Jvm.Cond} (sb t : Addr) (kt : ClassId) (cap : Nat) (cs : List Int32) (h0 : Heap) (n0 : Nat) (S0 : SBd Z h0 sb t kt cap cs) :
    Met l Z consts_1 (⟨"java/lang/StringBuilder", "length", "()I"⟩ : MethodName) jdk_67_method_93_code 1 (some .int) ws ({ frames := 1, cells := 0, slots := 0, locals := 13 } : Room) [] #[(.ref sb)] h0 n0 (nq (fun v h => v = some (.int (Int32.ofNat cs.length)) ∧ h = h0)) := by
  refine met_of (plainFor_of_name pn_java_lang_StringBuilder) hw #[.val (.ref sb)] (fun m => by first | rfl | (simp [entryFrame, mkF, argsToLocals, Value.category]; done)) ?_
  intro p e s m below meth c C0
  have C : Cx Z a0 tables_1 p s m meth c "java/lang/StringBuilder" "length" jdk_67_method_93_code 1 (some .int) n0 := C0
  refine g_aloadN C d_jdk_67_method_93_code_0 rfl rfl ?_
  refine g_super C S0.1 w_119 w_114 w_115 w_54 (by decide) w_120 (ni_sel hw w_111 w_109 (State.Warmed39.refl Z)) (by decide) [] (ct_of hEL hw w_120 w_39 (rm_la l Z a0 hw hEL sb t _ cap cs h0 n0 S0)) all0 (by decide) 0 (by decide) rfl pd___I rfl [] rfl (Nat.le_of_eq rfl) d_jdk_67_method_93_code_1 (by decide) (by decide) ?_
  intro v181 h181 Q181
  obtain ⟨rfl, e181⟩ := Q181
  replace e181 := e181.symm
  subst e181
  refine g_ireturnI C hEL rfl d_jdk_67_method_93_code_4 (by decide) (by decide) ?_
  exact ⟨rfl, rfl⟩
theorem d_jdk_68_method_68_code_0 : decode jdk_68_method_68_code 0 = .ok (.getstatic 18, 3) := by decide +kernel
theorem d_jdk_68_method_68_code_3 : decode jdk_68_method_68_code 3 = .ok (.ifCond .eq 14, 3) := by decide +kernel
theorem d_jdk_68_method_68_code_6 : decode jdk_68_method_68_code 6 = .ok (.aload_n 0, 1) := by decide +kernel
theorem d_jdk_68_method_68_code_7 : decode jdk_68_method_68_code 7 = .ok (.getfield 22, 3) := by decide +kernel
theorem d_jdk_68_method_68_code_10 : decode jdk_68_method_68_code 10 = .ok (.ifCond .ne 7, 3) := by decide +kernel
theorem d_jdk_68_method_68_code_13 : decode jdk_68_method_68_code 13 = .ok (.iconst 1, 1) := by decide +kernel
theorem d_jdk_68_method_68_code_14 : decode jdk_68_method_68_code 14 = .ok (.goto 4, 3) := by decide +kernel
theorem d_jdk_68_method_68_code_18 : decode jdk_68_method_68_code 18 = .ok (.ireturn, 1) := by decide +kernel
set_option maxRecDepth 65536 in
set_option maxHeartbeats 40000000 in
theorem rm_il (l : Launch) (Z : State) (a0 : Array Value) (hw : ∀ d ∈ tables_1, d.before a0 Z = true) (hEL : EW Z a0 consts_1) {ws : List Jvm.Cond} (sb t : Addr) (kt : ClassId) (cap : Nat) (cs : List Int32) (zc : Int32) (h0 : Heap) (n0 : Nat) (S0 : SBd Z h0 sb t kt cap cs) (Szc : Sta Z h0 "java/lang/String" "COMPACT_STRINGS" "Z" (.int zc)) (hzc : ¬ (zc = (0 : Int32))) :
    Met l Z consts_1 (⟨"java/lang/AbstractStringBuilder", "isLatin1", "()Z"⟩ : MethodName) jdk_68_method_68_code 1 (some .boolean) ws ({ frames := 0, cells := 0, slots := 0, locals := 0 } : Room) [] #[(.ref sb)] h0 n0 (nq (fun v h => v = some (.int 1) ∧ h = h0)) := by
  refine met_of (plainFor_of_name pn_java_lang_AbstractStringBuilder) hw #[.val (.ref sb)] (fun m => by first | rfl | (simp [entryFrame, mkF, argsToLocals, Value.category]; done)) ?_
  intro p e s m below meth c C0
  have C : Cx Z a0 tables_1 p s m meth c "java/lang/AbstractStringBuilder" "isLatin1" jdk_68_method_68_code 1 (some .boolean) n0 := C0
  refine g_getstatic C w_42 Via.refl Szc d_jdk_68_method_68_code_0 ?_
  refine g_if_f C d_jdk_68_method_68_code_3 (XT.i0_eq_f hzc) ?_
  refine g_aloadN C d_jdk_68_method_68_code_6 rfl rfl ?_
  refine g_getfield C w_45 Via.refl S0.2.1 d_jdk_68_method_68_code_7 ?_
  refine g_if_f C d_jdk_68_method_68_code_10 (XT.i0_ne_f (by decide)) ?_
  refine g_iconst C 1 d_jdk_68_method_68_code_13 rfl ?_
  refine g_goto C 18 d_jdk_68_method_68_code_14 (by decide) (by decide) ?_
  refine g_ireturnN C hEL (t := .boolean) rfl (by simp) d_jdk_68_method_68_code_18 (by decide) (by decide) ?_
  exact ⟨rfl, rfl⟩
theorem d_jdk_42_method_150_code_0 : decode jdk_42_method_150_code 0 = .ok (.aload_n 0, 1) := by decide +kernel
theorem d_jdk_42_method_150_code_1 : decode jdk_42_method_150_code 1 = .ok (.invokespecial 1, 3) := by decide +kernel
theorem d_jdk_42_method_150_code_4 : decode jdk_42_method_150_code 4 = .ok (.aload_n 1, 1) := by decide +kernel
theorem d_jdk_42_method_150_code_5 : decode jdk_42_method_150_code 5 = .ok (.invokevirtual 552, 3) := by decide +kernel
theorem d_jdk_42_method_150_code_8 : decode jdk_42_method_150_code 8 = .ok (.astore_n 3, 1) := by decide +kernel
theorem d_jdk_42_method_150_code_9 : decode jdk_42_method_150_code 9 = .ok (.aload_n 1, 1) := by decide +kernel
theorem d_jdk_42_method_150_code_10 : decode jdk_42_method_150_code 10 = .ok (.invokevirtual 549, 3) := by decide +kernel
theorem d_jdk_42_method_150_code_13 : decode jdk_42_method_150_code 13 = .ok (.istore 4, 2) := by decide +kernel
theorem d_jdk_42_method_150_code_15 : decode jdk_42_method_150_code 15 = .ok (.aload_n 1, 1) := by decide +kernel
theorem d_jdk_42_method_150_code_16 : decode jdk_42_method_150_code 16 = .ok (.invokevirtual 1047, 3) := by decide +kernel
theorem d_jdk_42_method_150_code_19 : decode jdk_42_method_150_code 19 = .ok (.ifCond .eq 22, 3) := by decide +kernel
theorem d_jdk_42_method_150_code_22 : decode jdk_42_method_150_code 22 = .ok (.aload_n 0, 1) := by decide +kernel
theorem d_jdk_42_method_150_code_23 : decode jdk_42_method_150_code 23 = .ok (.iconst 0, 1) := by decide +kernel
theorem d_jdk_42_method_150_code_24 : decode jdk_42_method_150_code 24 = .ok (.putfield 15, 3) := by decide +kernel
theorem d_jdk_42_method_150_code_27 : decode jdk_42_method_150_code 27 = .ok (.aload_n 0, 1) := by decide +kernel
theorem d_jdk_42_method_150_code_28 : decode jdk_42_method_150_code 28 = .ok (.aload_n 3, 1) := by decide +kernel
theorem d_jdk_42_method_150_code_29 : decode jdk_42_method_150_code 29 = .ok (.iconst 0, 1) := by decide +kernel
theorem d_jdk_42_method_150_code_30 : decode jdk_42_method_150_code 30 = .ok (.iload 4, 2) := by decide +kernel
theorem d_jdk_42_method_150_code_32 : decode jdk_42_method_150_code 32 = .ok (.invokestatic 54, 3) := by decide +kernel
theorem d_jdk_42_method_150_code_35 : decode jdk_42_method_150_code 35 = .ok (.putfield 9, 3) := by decide +kernel
theorem d_jdk_42_method_150_code_38 : decode jdk_42_method_150_code 38 = .ok (.goto 59, 3) := by decide +kernel
theorem d_jdk_42_method_150_code_97 : decode jdk_42_method_150_code 97 = .ok (.return_, 1) := by decide +kernel
theorem pd___Z : parseMethodDescriptor "()Z" = some ⟨[], some .boolean⟩ := by decide +kernel
theorem pd____B : parseMethodDescriptor "()[B" = some ⟨[], some (.array .byte)⟩ := by decide +kernel
set_option maxRecDepth 65536 in
set_option maxHeartbeats 40000000 in
theorem rm_s5 (l : Launch) (Z : State) (a0 : Array Value) (hw : ∀ d ∈ tables_1, d.before a0 Z = true) (hEL : EW Z a0 consts_1) {ws : List Jvm.Cond} (x sb t : Addr) (kt : ClassId) (cap : Nat) (cs : List Int32) (zc : Int32) (h0 : Heap) (n0 : Nat) (S0 : SBd Z h0 sb t kt cap cs) (E1 : Exa Z h0 x "java/lang/String") (F1 : Fld Z h0 x "java/lang/String" "value" "[B" .null) (F2 : Fld Z h0 x "java/lang/String" "coder" "B" (.int 0)) (hlen : cs.length ≤ 100) (hxs : x ≠ sb) (hxt : x ≠ t) (hncap : cs.length < cap) (Szc : Sta Z h0 "java/lang/String" "COMPACT_STRINGS" "Z" (.int zc)) (hzc : ¬ (zc = (0 : Int32))) :
    Met l Z consts_1 (⟨"java/lang/String", "<init>", "(Ljava/lang/AbstractStringBuilder;Ljava/lang/Void;)V"⟩ : MethodName) jdk_42_method_150_code 5 none ws ({ frames := 3, cells := 1, slots := 100, locals := 66 } : Room) [x] #[(.ref x), (.ref sb), .null] h0 n0 (nq (fun v h => v = none ∧ Keep h0 h [x] ∧ ∃ t' k', h0.size ≤ t' ∧ Str Z h x t' k' cs)) := by
  refine met_of (plainFor_of_name pn_java_lang_String) hw #[.val (.ref x), .val (.ref sb), .val .null, .unset, .unset] (fun m => by first | rfl | (simp [entryFrame, mkF, argsToLocals, Value.category]; done)) ?_
  intro p e s m below meth c C0
  have C : Cx Z a0 tables_1 p s m meth c "java/lang/String" "<init>" jdk_42_method_150_code 5 none n0 := C0
  refine g_aloadN C d_jdk_42_method_150_code_0 rfl rfl ?_
  refine g_initO C w_11 w_12 w_13 rfl d_jdk_42_method_150_code_1 (by decide) 0 (Nat.le_of_eq rfl) (by decide) ?_
  refine g_aloadN C d_jdk_42_method_150_code_4 rfl rfl ?_
  refine g_virtual C S0.1 w_108 w_109 (fun hZ => nf_sel hw w_111 hZ) w_111 w_110 (by decide) [] (ct_of hEL hw w_112 w_39 (rm_gv l Z a0 hw hEL sb t _ cap cs h0 n0 ⟨S0.1, S0.2.1, S0.2.2.1, S0.2.2.2.1, S0.2.2.2.2.1, S0.2.2.2.2.2.1, S0.2.2.2.2.2.2.1, S0.2.2.2.2.2.2.2.1, S0.2.2.2.2.2.2.2.2⟩)) all0 (by decide) 0 (by decide) rfl pd____B rfl [] rfl (Nat.le_of_eq rfl) d_jdk_42_method_150_code_5 (by decide) (by decide) ?_
  intro v182 h182 Q182
  obtain ⟨rfl, e182⟩ := Q182
  replace e182 := e182.symm
  subst e182
  refine g_astoreN C #[.val (.ref x), .val (.ref sb), .val .null, .val (.ref t), .unset] d_jdk_42_method_150_code_8 rfl rfl ?_
  refine g_aloadN C d_jdk_42_method_150_code_9 rfl rfl ?_
  refine g_virtual C S0.1 w_113 w_114 (fun hZ => nf_ni (ni_sel hw w_111 w_109 hZ)) w_116 w_117 (by decide) [] (ct_of hEL hw w_118 w_31 (rm_ls l Z a0 hw hEL sb t _ cap cs h0 n0 ⟨S0.1, S0.2.1, S0.2.2.1, S0.2.2.2.1, S0.2.2.2.2.1, S0.2.2.2.2.2.1, S0.2.2.2.2.2.2.1, S0.2.2.2.2.2.2.2.1, S0.2.2.2.2.2.2.2.2⟩)) all0 (by decide) 0 (by decide) rfl pd___I rfl [] rfl (Nat.le_of_eq rfl) d_jdk_42_method_150_code_10 (by decide) (by decide) ?_
  intro v183 h183 Q183
  obtain ⟨rfl, e183⟩ := Q183
  replace e183 := e183.symm
  subst e183
  refine g_istore C #[.val (.ref x), .val (.ref sb), .val .null, .val (.ref t), .val (.int (Int32.ofNat cs.length))] d_jdk_42_method_150_code_13 rfl ?_
  refine g_aloadN C d_jdk_42_method_150_code_15 rfl rfl ?_
  refine g_virtual C S0.1 w_121 w_122 (fun hZ => nf_sel hw w_124 hZ) w_124 w_123 (by decide) [] (ct_of hEL hw w_125 w_39 (rm_il l Z a0 hw hEL sb t _ cap cs zc h0 n0 ⟨S0.1, S0.2.1, S0.2.2.1, S0.2.2.2.1, S0.2.2.2.2.1, S0.2.2.2.2.2.1, S0.2.2.2.2.2.2.1, S0.2.2.2.2.2.2.2.1, S0.2.2.2.2.2.2.2.2⟩ Szc hzc)) all0 (by decide) 0 (by decide) rfl pd___Z rfl [] rfl (Nat.le_of_eq rfl) d_jdk_42_method_150_code_16 (by decide) (by decide) ?_
  intro v184 h184 Q184
  obtain ⟨rfl, e184⟩ := Q184
  replace e184 := e184.symm
  subst e184
  refine g_if_f C d_jdk_42_method_150_code_19 (XT.i0_eq_f (by decide)) ?_
  refine g_aloadN C d_jdk_42_method_150_code_22 rfl rfl ?_
  refine g_iconst C 0 d_jdk_42_method_150_code_23 rfl ?_
  refine g_putfieldZ C .byte (.int (0 : Int32)) w_21 Via.refl F2 E1 (Or.inr ⟨w_17, rfl, rfl⟩) w_1 (by decide) rfl (by decide) (List.mem_of_getElem? (i := 0) rfl) d_jdk_42_method_150_code_24 ?_
  intro h185 W185 F185
  refine g_aloadN C d_jdk_42_method_150_code_27 rfl rfl ?_
  refine g_aloadN C d_jdk_42_method_150_code_28 rfl rfl ?_
  refine g_iconst C 0 d_jdk_42_method_150_code_29 rfl ?_
  refine g_iload C d_jdk_42_method_150_code_30 rfl ?_
  have V186 := (S0.2.2.2.2.1.other W185 (Ne.symm hxt))
  refine g_static C w_126 w_127 w_128 w_129 (by decide) [(.ref t), (.int (0 : Int32)), (.int (Int32.ofNat cs.length))] (ct_of hEL hw w_129 w_128 (rm_c00 l Z a0 hw hEL t _ cap cs.length cs h185 n0 V186 (Nat.le_refl _) S0.2.2.2.2.2.1 hlen (by have := S0.2.2.2.2.2.2.1; omega) hncap)) all0 (by decide) 1 (by decide) rfl pd___BII__B rfl [(.ref x)] rfl (Nat.le_of_eq rfl) d_jdk_42_method_150_code_32 (by decide) (by decide) ?_
  intro v187 h187 Q187
  obtain ⟨b187, k187, rfl, KC187, le187, V187⟩ := Q187
  rw [Nat.sub_zero, List.drop_zero, List.take_of_length_le (Nat.le_refl _)] at V187
  have F188 := ((F1.other W185 (Or.inr (slot_ne (Or.inr (C.hw w_16)) (Or.inr (C.hw w_17)) (by decide) (t := (.array .byte)) (t' := .byte) (by decide) (by decide)))).keep KC187 nin0)
  have E189 := ((E1.wr W185).keep KC187)
  refine g_putfield C (.array .byte) w_20 Via.refl F188 E189 (Or.inr ⟨w_16, rfl, rfl⟩) w_1 (by decide) rfl rfl (List.mem_of_getElem? (i := 0) rfl) d_jdk_42_method_150_code_35 ?_
  intro h190 W190 F190
  refine g_goto C 97 d_jdk_42_method_150_code_38 (by decide) (by decide) ?_
  refine g_return C hEL rfl d_jdk_42_method_150_code_97 (by decide) (by decide) ?_
  have E191 := (E189.wr W190)
  have K192 : Keep h185 h187 [] := (Keep.refl h185 []).trans KC187 all0
  have F193 := ((F185.keep KC187 nin0).other W190 (Or.inr (slot_ne (Or.inr (C.hw w_17)) (Or.inr (C.hw w_16)) (by decide) (t := .byte) (t' := (.array .byte)) (by decide) (by decide))))
  have E194 := (E1.wr W185)
  have V195 := (V187.other W190 (Ne.symm (Nat.ne_of_lt (Nat.lt_of_lt_of_le E194.lt le187))))
  exact ⟨rfl, ((((Keep.refl _ _).wr W185 (Or.inl (List.mem_of_getElem? (i := 0) rfl))).trans KC187 all0).wr W190 (Or.inl (List.mem_of_getElem? (i := 0) rfl))), b187, _, (Nat.le_trans (Nat.le_trans (Nat.le_refl _) (Nat.le_of_eq W185.size.symm)) le187), E191, F193, F190, V195, by omega, S0.2.2.2.2.2.2.2.1⟩
theorem d_jdk_42_method_53_code_0 : decode jdk_42_method_53_code 0 = .ok (.aload_n 0, 1) := by decide +kernel
theorem d_jdk_42_method_53_code_1 : decode jdk_42_method_53_code 1 = .ok (.aload_n 1, 1) := by decide +kernel
theorem d_jdk_42_method_53_code_2 : decode jdk_42_method_53_code 2 = .ok (.aconst_null, 1) := by decide +kernel
theorem d_jdk_42_method_53_code_3 : decode jdk_42_method_53_code 3 = .ok (.invokespecial 489, 3) := by decide +kernel
theorem d_jdk_42_method_53_code_6 : decode jdk_42_method_53_code 6 = .ok (.return_, 1) := by decide +kernel
theorem pd__Ljava_lang_AbstractStringBuilder_Ljava_lang_Void__V : parseMethodDescriptor "(Ljava/lang/AbstractStringBuilder;Ljava/lang/Void;)V" = some ⟨[(.object "java/lang/AbstractStringBuilder"), (.object "java/lang/Void")], none⟩ := by decide +kernel
set_option maxRecDepth 65536 in
set_option maxHeartbeats 40000000 in
theorem rm_s3 (l : Launch) (Z : State) (a0 : Array Value) (hw : ∀ d ∈ tables_1, d.before a0 Z = true) (hEL : EW Z a0 consts_1) {ws : List Jvm.Cond} (x sb t : Addr) (kt : ClassId) (cap : Nat) (cs : List Int32) (zc : Int32) (h0 : Heap) (n0 : Nat) (S0 : SBd Z h0 sb t kt cap cs) (E1 : Exa Z h0 x "java/lang/String") (F1 : Fld Z h0 x "java/lang/String" "value" "[B" .null) (F2 : Fld Z h0 x "java/lang/String" "coder" "B" (.int 0)) (hlen : cs.length ≤ 100) (hxs : x ≠ sb) (hxt : x ≠ t) (hncap : cs.length < cap) (Szc : Sta Z h0 "java/lang/String" "COMPACT_STRINGS" "Z" (.int zc)) (hzc : ¬ (zc = (0 : Int32))) :
    Met l Z consts_1 (⟨"java/lang/String", "<init>", "(Ljava/lang/StringBuilder;)V"⟩ : MethodName) jdk_42_method_53_code 2 none ws ({ frames := 4, cells := 1, slots := 100, locals := 84 } : Room) [x] #[(.ref x), (.ref sb)] h0 n0 (nq (fun v h => v = none ∧ Keep h0 h [x] ∧ ∃ t' k', h0.size ≤ t' ∧ Str Z h x t' k' cs)) := by
  refine met_of (plainFor_of_name pn_java_lang_String) hw #[.val (.ref x), .val (.ref sb)] (fun m => by first | rfl | (simp [entryFrame, mkF, argsToLocals, Value.category]; done)) ?_
  intro p e s m below meth c C0
  have C : Cx Z a0 tables_1 p s m meth c "java/lang/String" "<init>" jdk_42_method_53_code 2 none n0 := C0
  refine g_aloadN C d_jdk_42_method_53_code_0 rfl rfl ?_
  refine g_aloadN C d_jdk_42_method_53_code_1 rfl rfl ?_
  refine g_aconst_null C d_jdk_42_method_53_code_2 ?_
  refine g_special C (a := x) w_105 w_106 w_107 rfl (by decide) [(.ref sb), .null] (ct_of hEL hw w_107 w_2 (rm_s5 l Z a0 hw hEL x sb t _ cap cs zc h0 n0 S0 E1 F1 F2 hlen hxs hxt hncap Szc hzc)) (allS (List.mem_of_getElem? (i := 0) rfl) all0) (by decide) 0 (by decide) rfl pd__Ljava_lang_AbstractStringBuilder_Ljava_lang_Void__V rfl [] rfl (Nat.le_of_eq rfl) d_jdk_42_method_53_code_3 (by decide) (by decide) ?_
  intro v196 h196 Q196
  obtain ⟨rfl, KC196, t196, k196, le196, S196⟩ := Q196
  refine g_return C hEL rfl d_jdk_42_method_53_code_6 (by decide) (by decide) ?_
  exact ⟨rfl, KC196, _, _, le196, S196⟩
theorem d_jdk_67_method_42_code_0 : decode jdk_67_method_42_code 0 = .ok (.new 18, 3) := by decide +kernel
theorem d_jdk_67_method_42_code_3 : decode jdk_67_method_42_code 3 = .ok (.dup, 1) := by decide +kernel
theorem d_jdk_67_method_42_code_4 : decode jdk_67_method_42_code 4 = .ok (.aload_n 0, 1) := by decide +kernel
theorem d_jdk_67_method_42_code_5 : decode jdk_67_method_42_code 5 = .ok (.invokespecial 137, 3) := by decide +kernel
theorem d_jdk_67_method_42_code_8 : decode jdk_67_method_42_code 8 = .ok (.areturn, 1) := by decide +kernel
theorem pd__Ljava_lang_StringBuilder__V : parseMethodDescriptor "(Ljava/lang/StringBuilder;)V" = some ⟨[(.object "java/lang/StringBuilder")], none⟩ := by decide +kernel
set_option maxRecDepth 65536 in
set_option maxHeartbeats 40000000 in
theorem rm_ts (l : Launch) (Z : State) (a0 : Array Value) (hw : ∀ d ∈ tables_1, d.before a0 Z = true) (hEL : EW Z a0 consts_1) {ws : List Jvm.Cond} (sb t : Addr) (kt : ClassId) (cap : Nat) (cs : List Int32) (zc : Int32) (h0 : Heap) (n0 : Nat) (S0 : SBd Z h0 sb t kt cap cs) (hlen : cs.length ≤ 100) (hncap : cs.length < cap) (Szc : Sta Z h0 "java/lang/String" "COMPACT_STRINGS" "Z" (.int zc)) (hzc : ¬ (zc = (0 : Int32))) :
    Met l Z consts_1 (⟨"java/lang/StringBuilder", "toString", "()Ljava/lang/String;"⟩ : MethodName) jdk_67_method_42_code 1 (some (.object "java/lang/String")) ws ({ frames := 5, cells := 2, slots := 104, locals := 102 } : Room) [] #[(.ref sb)] h0 n0 (nq (fun v h => ∃ a t' k', v = some (.ref a) ∧ Keep h0 h [] ∧ h0.size ≤ a ∧ h0.size ≤ t' ∧ Str Z h a t' k' cs)) := by
  refine met_of (plainFor_of_name pn_java_lang_StringBuilder) hw #[.val (.ref sb)] (fun m => by first | rfl | (simp [entryFrame, mkF, argsToLocals, Value.category]; done)) ?_
  intro p e s m below meth c C0
  have C : Cx Z a0 tables_1 p s m meth c "java/lang/StringBuilder" "toString" jdk_67_method_42_code 1 (some (.object "java/lang/String")) n0 := C0
  refine g_new C w_101 w_1 w_2 d_jdk_67_method_42_code_0 (by decide) (by decide) ?_
  intro b197 h197 g197 E197 A197 D197
  refine g_dup C d_jdk_67_method_42_code_3 rfl ?_
  refine g_aloadN C d_jdk_67_method_42_code_4 rfl rfl ?_
  have K198 : Keep h0 h197 [] := (Keep.refl h0 []).ext E197
  have E199 := (S0.1.keep K198)
  have F200 := (S0.2.1.keep K198 nin0)
  have F201 := (S0.2.2.1.keep K198 nin0)
  have F202 := (S0.2.2.2.1.keep K198 nin0)
  have V203 := (S0.2.2.2.2.1.keep K198 nin0)
  have E204 := (S0.2.2.2.2.2.2.2.2.keep K198)
  refine g_special C (a := b197) w_102 w_103 w_104 rfl (by decide) [(.ref sb)] (ct_of hEL hw w_104 w_2 (rm_s3 l Z a0 hw hEL b197 sb t _ cap cs zc h197 n0 ⟨E199, F200, F201, F202, V203, S0.2.2.2.2.2.1, S0.2.2.2.2.2.2.1, S0.2.2.2.2.2.2.2.1, E204⟩ A197 (D197 (Or.inr (C.hw w_16)) (ty := (.array .byte)) (by decide)) (D197 (Or.inr (C.hw w_17)) (ty := .byte) (by decide)) hlen (Ne.symm (Nat.ne_of_lt (Nat.lt_of_lt_of_le S0.1.lt (Nat.le_of_eq g197.symm)))) (Ne.symm (Nat.ne_of_lt (Nat.lt_of_lt_of_le S0.2.2.2.2.1.lt (Nat.le_of_eq g197.symm)))) hncap (Sta_keep Szc K198) hzc)) (allS (List.mem_of_getElem? (i := 0) rfl) all0) (by decide) 1 (by decide) rfl pd__Ljava_lang_StringBuilder__V rfl [(.ref b197)] rfl (Nat.le_of_eq rfl) d_jdk_67_method_42_code_5 (by decide) (by decide) ?_
  intro v205 h205 Q205
  obtain ⟨rfl, KC205, t205, k205, le205, S205⟩ := Q205
  refine g_areturn C hEL (t := (.object "java/lang/String")) rfl rfl rfl d_jdk_67_method_42_code_8 (by decide) (by decide) ?_
  have K206 : Keep h0 h205 [] := K198.trans KC205 (allS (Or.inr (Nat.le_of_eq g197.symm)) all0)
  exact ⟨b197, _, _, rfl, K206, (Nat.le_of_eq g197.symm), (Nat.le_trans K198.1 le205), S205⟩
theorem own_thw : ∀ d ∈ thW "com/example/shapewalk/shapewalk/cli/UsageException", d ∈ tables_1 := by decide +kernel

theorem d_jdk_78_method_2_code_0 : decode jdk_78_method_2_code 0 = .ok (.aload_n 0, 1) := by decide +kernel
theorem d_jdk_78_method_2_code_1 : decode jdk_78_method_2_code 1 = .ok (.invokespecial 1, 3) := by decide +kernel
theorem d_jdk_78_method_2_code_4 : decode jdk_78_method_2_code 4 = .ok (.aload_n 0, 1) := by decide +kernel
theorem d_jdk_78_method_2_code_5 : decode jdk_78_method_2_code 5 = .ok (.aload_n 0, 1) := by decide +kernel
theorem d_jdk_78_method_2_code_6 : decode jdk_78_method_2_code 6 = .ok (.putfield 7, 3) := by decide +kernel
theorem d_jdk_78_method_2_code_9 : decode jdk_78_method_2_code 9 = .ok (.aload_n 0, 1) := by decide +kernel
theorem d_jdk_78_method_2_code_10 : decode jdk_78_method_2_code 10 = .ok (.getstatic 13, 3) := by decide +kernel
theorem d_jdk_78_method_2_code_13 : decode jdk_78_method_2_code 13 = .ok (.putfield 17, 3) := by decide +kernel
theorem d_jdk_78_method_2_code_16 : decode jdk_78_method_2_code 16 = .ok (.aload_n 0, 1) := by decide +kernel
theorem d_jdk_78_method_2_code_17 : decode jdk_78_method_2_code 17 = .ok (.getstatic 20, 3) := by decide +kernel
theorem d_jdk_78_method_2_code_20 : decode jdk_78_method_2_code 20 = .ok (.putfield 24, 3) := by decide +kernel
theorem d_jdk_78_method_2_code_23 : decode jdk_78_method_2_code 23 = .ok (.aload_n 0, 1) := by decide +kernel
theorem d_jdk_78_method_2_code_24 : decode jdk_78_method_2_code 24 = .ok (.invokevirtual 27, 3) := by decide +kernel
theorem d_jdk_78_method_2_code_27 : decode jdk_78_method_2_code 27 = .ok (.pop, 1) := by decide +kernel
theorem d_jdk_78_method_2_code_28 : decode jdk_78_method_2_code 28 = .ok (.aload_n 0, 1) := by decide +kernel
theorem d_jdk_78_method_2_code_29 : decode jdk_78_method_2_code 29 = .ok (.aload_n 1, 1) := by decide +kernel
theorem d_jdk_78_method_2_code_30 : decode jdk_78_method_2_code 30 = .ok (.putfield 31, 3) := by decide +kernel
theorem d_jdk_78_method_2_code_33 : decode jdk_78_method_2_code 33 = .ok (.return_, 1) := by decide +kernel
theorem pn_java_lang_Throwable : plainName "java/lang/Throwable" = true := by first | (simp [plainName, overriddenIn]; done) | decide +kernel
set_option maxRecDepth 65536 in
set_option maxHeartbeats 40000000 in
theorem rm_ti (l : Launch) (Z : State) (a0 : Array Value) (hw : ∀ d ∈ tables_1, d.before a0 Z = true) (hEL : EW Z a0 consts_1) {ws : List Jvm.Cond} (a1 s2 us ss : Addr) (h0 : Heap) (n0 : Nat) (E1 : Exa Z h0 a1 "com/example/shapewalk/shapewalk/cli/UsageException") (U1 : Unt h0 a1) (F1 : Fld Z h0 a1 "java/lang/Throwable" "cause" "Ljava/lang/Throwable;" .null) (F2 : Fld Z h0 a1 "java/lang/Throwable" "stackTrace" "[Ljava/lang/StackTraceElement;" .null) (F3 : Fld Z h0 a1 "java/lang/Throwable" "suppressedExceptions" "Ljava/util/List;" .null) (F4 : Fld Z h0 a1 "java/lang/Throwable" "backtrace" "Ljava/lang/Object;" .null) (F5 : Fld Z h0 a1 "java/lang/Throwable" "detailMessage" "Ljava/lang/String;" .null) (Sus : Sta Z h0 "java/lang/Throwable" "UNASSIGNED_STACK" "[Ljava/lang/StackTraceElement;" (.ref us)) (Sss : Sta Z h0 "java/lang/Throwable" "SUPPRESSED_SENTINEL" "Ljava/util/List;" (.ref ss)) (hT : ThS Z h0) (hst : l.stackTraces = true) :
    MetK l Z consts_1 (⟨"java/lang/Throwable", "<init>", "(Ljava/lang/String;)V"⟩ : MethodName) jdk_78_method_2_code 2 none ws ({ frames := 3, cells := 1, slots := 2752, locals := 42 } : Room) [a1] #[(.ref a1), (.ref s2)] h0 n0 (nq (fun v h => v = none ∧ Keep h0 h [a1] ∧ Exa Z h a1 "com/example/shapewalk/shapewalk/cli/UsageException" ∧ Fld Z h a1 "java/lang/Throwable" "detailMessage" "Ljava/lang/String;" (.ref s2))) := by
  refine met_ofK (plainFor_of_name pn_java_lang_Throwable) hw #[.val (.ref a1), .val (.ref s2)] (fun m => by first | rfl | (simp [entryFrame, mkF, argsToLocals, Value.category]; done)) ?_
  intro p e s m below meth c C0 hTK hBelow hh
  have C : Cx Z a0 tables_1 p s m meth c "java/lang/Throwable" "<init>" jdk_78_method_2_code 2 none n0 := C0
  refine g_aloadN C d_jdk_78_method_2_code_0 rfl rfl ?_
  refine g_initO C w_155 w_12 w_13 rfl d_jdk_78_method_2_code_1 (by decide) 0 (Nat.le_of_eq rfl) (by decide) ?_
  refine g_aloadN C d_jdk_78_method_2_code_4 rfl rfl ?_
  refine g_aloadN C d_jdk_78_method_2_code_5 rfl rfl ?_
  refine g_putfield C (.object "java/lang/Throwable") w_156 Via.refl F1 E1 (Or.inl w_157) w_27 (by decide) rfl rfl (List.mem_of_getElem? (i := 0) rfl) d_jdk_78_method_2_code_6 ?_
  intro h207 W207 F207
  refine g_aloadN C d_jdk_78_method_2_code_9 rfl rfl ?_
  have T208 := (Sta.wr W207 Sus)
  refine g_getstatic C w_158 Via.refl T208 d_jdk_78_method_2_code_10 ?_
  have F209 := (F2.other W207 (Or.inr (slot_ne (Or.inl (C.hw w_160)) (Or.inl (C.hw w_157)) (by decide) (t := (.array (.object "java/lang/StackTraceElement"))) (t' := (.object "java/lang/Throwable")) (by decide) (by decide))))
  have E210 := (E1.wr W207)
  refine g_putfield C (.array (.object "java/lang/StackTraceElement")) w_159 Via.refl F209 E210 (Or.inl w_160) w_27 (by decide) rfl rfl (List.mem_of_getElem? (i := 0) rfl) d_jdk_78_method_2_code_13 ?_
  intro h211 W211 F211
  refine g_aloadN C d_jdk_78_method_2_code_16 rfl rfl ?_
  have T212 := (Sta.wr W211 (Sta.wr W207 Sss))
  refine g_getstatic C w_161 Via.refl T212 d_jdk_78_method_2_code_17 ?_
  have F213 := ((F3.other W207 (Or.inr (slot_ne (Or.inl (C.hw w_163)) (Or.inl (C.hw w_157)) (by decide) (t := (.object "java/util/List")) (t' := (.object "java/lang/Throwable")) (by decide) (by decide)))).other W211 (Or.inr (slot_ne (Or.inl (C.hw w_163)) (Or.inl (C.hw w_160)) (by decide) (t := (.object "java/util/List")) (t' := (.array (.object "java/lang/StackTraceElement"))) (by decide) (by decide))))
  have E214 := (E210.wr W211)
  refine g_putfield C (.object "java/util/List") w_162 Via.refl F213 E214 (Or.inl w_163) w_27 (by decide) rfl rfl (List.mem_of_getElem? (i := 0) rfl) d_jdk_78_method_2_code_20 ?_
  intro h215 W215 F215
  refine g_aloadN C d_jdk_78_method_2_code_23 rfl rfl ?_
  have E217 := (E214.wr W215)
  have U218 := (Unt.wr W215 (Unt.wr W211 (Unt.wr W207 U1)))
  have F219 := (((F4.other W207 (Or.inr (slot_ne (Or.inl (C.hw w_188)) (Or.inl (C.hw w_157)) (by decide) (t := (.object "java/lang/Object")) (t' := (.object "java/lang/Throwable")) (by decide) (by decide)))).other W211 (Or.inr (slot_ne (Or.inl (C.hw w_188)) (Or.inl (C.hw w_160)) (by decide) (t := (.object "java/lang/Object")) (t' := (.array (.object "java/lang/StackTraceElement"))) (by decide) (by decide)))).other W215 (Or.inr (slot_ne (Or.inl (C.hw w_188)) (Or.inl (C.hw w_163)) (by decide) (t := (.object "java/lang/Object")) (t' := (.object "java/util/List")) (by decide) (by decide))))
  have F220 := (F211.other W215 (Or.inr (slot_ne (Or.inl (C.hw w_160)) (Or.inl (C.hw w_163)) (by decide) (t := (.array (.object "java/lang/StackTraceElement"))) (t' := (.object "java/util/List")) (by decide) (by decide))))
  have T221 := (Sta.wr W215 (Sta.wr W211 T208))
  refine g_fill C rfl hst hTK hBelow (by rw [hh]; exact hT) (rc := "com/example/shapewalk/shapewalk/cli/UsageException") (fun d hd => hw d (own_thw d hd)) w_27 E217 U218 F219 F220 T221 (List.mem_of_getElem? (i := 0) rfl) rfl d_jdk_78_method_2_code_24 (by decide) 0 (Nat.le_of_eq rfl) (by decide) (by decide) (by decide) ?_
  intro h216 old216 KC216 X216 D216
  refine g_pop C d_jdk_78_method_2_code_27 rfl ?_
  refine g_aloadN C d_jdk_78_method_2_code_28 rfl rfl ?_
  refine g_aloadN C d_jdk_78_method_2_code_29 rfl rfl ?_
  refine g_putfield C (.object "java/lang/String") w_191 Via.refl D216 X216 (Or.inl w_187) w_27 (by decide) rfl rfl (List.mem_of_getElem? (i := 0) rfl) d_jdk_78_method_2_code_30 ?_
  intro h222 W222 F222
  refine g_return C hEL rfl d_jdk_78_method_2_code_33 (by decide) (by decide) ?_
  have E223 := (X216.wr W222)
  exact ⟨rfl, ((((((Keep.refl _ _).wr W207 (Or.inl (List.mem_cons_self ..))).wr W211 (Or.inl (List.mem_cons_self ..))).wr W215 (Or.inl (List.mem_cons_self ..))).trans KC216 (allS (Or.inl (List.mem_cons_self ..)) all0)).wr W222 (Or.inl (List.mem_cons_self ..))), E223, F222⟩
theorem d_jdk_59_method_2_code_0 : decode jdk_59_method_2_code 0 = .ok (.aload_n 0, 1) := by decide +kernel
theorem d_jdk_59_method_2_code_1 : decode jdk_59_method_2_code 1 = .ok (.aload_n 1, 1) := by decide +kernel
theorem d_jdk_59_method_2_code_2 : decode jdk_59_method_2_code 2 = .ok (.invokespecial 7, 3) := by decide +kernel
theorem d_jdk_59_method_2_code_5 : decode jdk_59_method_2_code 5 = .ok (.return_, 1) := by decide +kernel
theorem pn_java_lang_Exception : plainName "java/lang/Exception" = true := by first | (simp [plainName, overriddenIn]; done) | decide +kernel
set_option maxRecDepth 65536 in
set_option maxHeartbeats 40000000 in
theorem rm_ei (l : Launch) (Z : State) (a0 : Array Value) (hw : ∀ d ∈ tables_1, d.before a0 Z = true) (hEL : EW Z a0 consts_1) {ws : List Jvm.Cond} (a1 s2 us ss : Addr) (h0 : Heap) (n0 : Nat) (E1 : Exa Z h0 a1 "com/example/shapewalk/shapewalk/cli/UsageException") (U1 : Unt h0 a1) (F1 : Fld Z h0 a1 "java/lang/Throwable" "cause" "Ljava/lang/Throwable;" .null) (F2 : Fld Z h0 a1 "java/lang/Throwable" "stackTrace" "[Ljava/lang/StackTraceElement;" .null) (F3 : Fld Z h0 a1 "java/lang/Throwable" "suppressedExceptions" "Ljava/util/List;" .null) (F4 : Fld Z h0 a1 "java/lang/Throwable" "backtrace" "Ljava/lang/Object;" .null) (F5 : Fld Z h0 a1 "java/lang/Throwable" "detailMessage" "Ljava/lang/String;" .null) (Sus : Sta Z h0 "java/lang/Throwable" "UNASSIGNED_STACK" "[Ljava/lang/StackTraceElement;" (.ref us)) (Sss : Sta Z h0 "java/lang/Throwable" "SUPPRESSED_SENTINEL" "Ljava/util/List;" (.ref ss)) (hT : ThS Z h0) (hst : l.stackTraces = true) :
    MetK l Z consts_1 (⟨"java/lang/Exception", "<init>", "(Ljava/lang/String;)V"⟩ : MethodName) jdk_59_method_2_code 2 none ws ({ frames := 4, cells := 1, slots := 2752, locals := 55 } : Room) [a1] #[(.ref a1), (.ref s2)] h0 n0 (nq (fun v h => v = none ∧ Keep h0 h [a1] ∧ Exa Z h a1 "com/example/shapewalk/shapewalk/cli/UsageException" ∧ Fld Z h a1 "java/lang/Throwable" "detailMessage" "Ljava/lang/String;" (.ref s2))) := by
  refine met_ofK (plainFor_of_name pn_java_lang_Exception) hw #[.val (.ref a1), .val (.ref s2)] (fun m => by first | rfl | (simp [entryFrame, mkF, argsToLocals, Value.category]; done)) ?_
  intro p e s m below meth c C0 hTK hBelow hh
  have C : Cx Z a0 tables_1 p s m meth c "java/lang/Exception" "<init>" jdk_59_method_2_code 2 none n0 := C0
  refine g_aloadN C d_jdk_59_method_2_code_0 rfl rfl ?_
  refine g_aloadN C d_jdk_59_method_2_code_1 rfl rfl ?_
  refine g_specialK C hTK hBelow (a := a1) w_149 w_150 w_154 rfl (by decide) [(.ref s2)] (ct_ofK hEL hw w_154 w_153 (rm_ti l Z a0 hw hEL a1 s2 us ss h0 n0 E1 U1 F1 F2 F3 F4 F5 Sus Sss hT hst)) (allS (List.mem_of_getElem? (i := 0) rfl) all0) (by decide) 0 (by decide) rfl pd__Ljava_lang_String__V rfl [] rfl (Nat.le_of_eq rfl) d_jdk_59_method_2_code_2 (by decide) (by decide) ?_
  intro v224 h224 ns224 Q224
  obtain ⟨rfl, rfl, KC224, X224, D224⟩ := Q224
  refine g_return C hEL rfl d_jdk_59_method_2_code_5 (by decide) (by decide) ?_
  exact ⟨rfl, ((Keep.refl _ _).trans KC224 (allS (Or.inl (List.mem_cons_self ..)) all0)), X224, D224⟩
theorem d_prog_7_method_1_code_0 : decode prog_7_method_1_code 0 = .ok (.aload_n 0, 1) := by decide +kernel
theorem d_prog_7_method_1_code_1 : decode prog_7_method_1_code 1 = .ok (.aload_n 1, 1) := by decide +kernel
theorem d_prog_7_method_1_code_2 : decode prog_7_method_1_code 2 = .ok (.invokespecial 1, 3) := by decide +kernel
theorem d_prog_7_method_1_code_5 : decode prog_7_method_1_code 5 = .ok (.return_, 1) := by decide +kernel
theorem pn_com_example_shapewalk_shapewalk_cli_UsageException : plainName "com/example/shapewalk/shapewalk/cli/UsageException" = true := by first | (simp [plainName, overriddenIn]; done) | decide +kernel
set_option maxRecDepth 65536 in
set_option maxHeartbeats 40000000 in
theorem rm_ui (l : Launch) (Z : State) (a0 : Array Value) (hw : ∀ d ∈ tables_1, d.before a0 Z = true) (hEL : EW Z a0 consts_1) {ws : List Jvm.Cond} (a1 s2 us ss : Addr) (h0 : Heap) (n0 : Nat) (E1 : Exa Z h0 a1 "com/example/shapewalk/shapewalk/cli/UsageException") (U1 : Unt h0 a1) (F1 : Fld Z h0 a1 "java/lang/Throwable" "cause" "Ljava/lang/Throwable;" .null) (F2 : Fld Z h0 a1 "java/lang/Throwable" "stackTrace" "[Ljava/lang/StackTraceElement;" .null) (F3 : Fld Z h0 a1 "java/lang/Throwable" "suppressedExceptions" "Ljava/util/List;" .null) (F4 : Fld Z h0 a1 "java/lang/Throwable" "backtrace" "Ljava/lang/Object;" .null) (F5 : Fld Z h0 a1 "java/lang/Throwable" "detailMessage" "Ljava/lang/String;" .null) (Sus : Sta Z h0 "java/lang/Throwable" "UNASSIGNED_STACK" "[Ljava/lang/StackTraceElement;" (.ref us)) (Sss : Sta Z h0 "java/lang/Throwable" "SUPPRESSED_SENTINEL" "Ljava/util/List;" (.ref ss)) (hT : ThS Z h0) (hst : l.stackTraces = true) :
    MetK l Z consts_1 (⟨"com/example/shapewalk/shapewalk/cli/UsageException", "<init>", "(Ljava/lang/String;)V"⟩ : MethodName) prog_7_method_1_code 2 none ws ({ frames := 5, cells := 1, slots := 2752, locals := 68 } : Room) [a1] #[(.ref a1), (.ref s2)] h0 n0 (nq (fun v h => v = none ∧ Keep h0 h [a1] ∧ Exa Z h a1 "com/example/shapewalk/shapewalk/cli/UsageException" ∧ Fld Z h a1 "java/lang/Throwable" "detailMessage" "Ljava/lang/String;" (.ref s2))) := by
  refine met_ofK (plainFor_of_name pn_com_example_shapewalk_shapewalk_cli_UsageException) hw #[.val (.ref a1), .val (.ref s2)] (fun m => by first | rfl | (simp [entryFrame, mkF, argsToLocals, Value.category]; done)) ?_
  intro p e s m below meth c C0 hTK hBelow hh
  have C : Cx Z a0 tables_1 p s m meth c "com/example/shapewalk/shapewalk/cli/UsageException" "<init>" prog_7_method_1_code 2 none n0 := C0
  refine g_aloadN C d_prog_7_method_1_code_0 rfl rfl ?_
  refine g_aloadN C d_prog_7_method_1_code_1 rfl rfl ?_
  refine g_specialK C hTK hBelow (a := a1) w_144 w_145 w_148 rfl (by decide) [(.ref s2)] (ct_ofK hEL hw w_148 w_147 (rm_ei l Z a0 hw hEL a1 s2 us ss h0 n0 E1 U1 F1 F2 F3 F4 F5 Sus Sss hT hst)) (allS (List.mem_of_getElem? (i := 0) rfl) all0) (by decide) 0 (by decide) rfl pd__Ljava_lang_String__V rfl [] rfl (Nat.le_of_eq rfl) d_prog_7_method_1_code_2 (by decide) (by decide) ?_
  intro v225 h225 ns225 Q225
  obtain ⟨rfl, rfl, KC225, X225, D225⟩ := Q225
  refine g_return C hEL rfl d_prog_7_method_1_code_5 (by decide) (by decide) ?_
  exact ⟨rfl, ((Keep.refl _ _).trans KC225 (allS (Or.inl (List.mem_cons_self ..)) all0)), X225, D225⟩
theorem d_prog_4_method_3_code_0 : decode prog_4_method_3_code 0 = .ok (.new 57, 3) := by decide +kernel
theorem d_prog_4_method_3_code_3 : decode prog_4_method_3_code 3 = .ok (.dup, 1) := by decide +kernel
theorem d_prog_4_method_3_code_4 : decode prog_4_method_3_code 4 = .ok (.new 59, 3) := by decide +kernel
theorem d_prog_4_method_3_code_7 : decode prog_4_method_3_code 7 = .ok (.dup, 1) := by decide +kernel
theorem d_prog_4_method_3_code_8 : decode prog_4_method_3_code 8 = .ok (.invokespecial 61, 3) := by decide +kernel
theorem d_prog_4_method_3_code_11 : decode prog_4_method_3_code 11 = .ok (.aload_n 0, 1) := by decide +kernel
theorem d_prog_4_method_3_code_12 : decode prog_4_method_3_code 12 = .ok (.invokevirtual 62, 3) := by decide +kernel
theorem d_prog_4_method_3_code_15 : decode prog_4_method_3_code 15 = .ok (.ldc 118, 2) := by decide +kernel
theorem d_prog_4_method_3_code_17 : decode prog_4_method_3_code 17 = .ok (.invokevirtual 62, 3) := by decide +kernel
theorem d_prog_4_method_3_code_20 : decode prog_4_method_3_code 20 = .ok (.invokevirtual 68, 3) := by decide +kernel
theorem d_prog_4_method_3_code_23 : decode prog_4_method_3_code 23 = .ok (.invokespecial 72, 3) := by decide +kernel
theorem d_prog_4_method_3_code_26 : decode prog_4_method_3_code 26 = .ok (.areturn, 1) := by decide +kernel
theorem pn_com_example_shapewalk_shapewalk_cli_Options : plainName "com/example/shapewalk/shapewalk/cli/Options" = true := by first | (simp [plainName, overriddenIn]; done) | decide +kernel
theorem pd___Ljava_lang_String_ : parseMethodDescriptor "()Ljava/lang/String;" = some ⟨[], some (.object "java/lang/String")⟩ := by decide +kernel
theorem pd___V : parseMethodDescriptor "()V" = some ⟨[], none⟩ := by decide +kernel
theorem pd__Ljava_lang_String__Ljava_lang_StringBuilder_ : parseMethodDescriptor "(Ljava/lang/String;)Ljava/lang/StringBuilder;" = some ⟨[(.object "java/lang/String")], some (.object "java/lang/StringBuilder")⟩ := by decide +kernel
set_option maxRecDepth 65536 in
set_option maxHeartbeats 40000000 in
theorem rm_miss (l : Launch) (Z : State) (a0 : Array Value) (hw : ∀ d ∈ tables_1, d.before a0 Z = true) (hEL : EW Z a0 consts_1) {ws : List Jvm.Cond} (s2 t2 us ss : Addr) (k2 : ClassId) (ds : List Int32) (zc : Int32) (h0 : Heap) (n0 : Nat) (S2 : Str Z h0 s2 t2 k2 ds) (hds : ds.length ≤ 3) (Sus : Sta Z h0 "java/lang/Throwable" "UNASSIGNED_STACK" "[Ljava/lang/StackTraceElement;" (.ref us)) (Sss : Sta Z h0 "java/lang/Throwable" "SUPPRESSED_SENTINEL" "Ljava/util/List;" (.ref ss)) (hT : ThS Z h0) (hst : l.stackTraces = true) (Szc : Sta Z h0 "java/lang/String" "COMPACT_STRINGS" "Z" (.int zc)) (hzc : ¬ (zc = (0 : Int32))) :
    MetK l Z consts_1 (⟨"com/example/shapewalk/shapewalk/cli/Options", "missing", "(Ljava/lang/String;)Lcom/example/shapewalk/shapewalk/cli/UsageException;"⟩ : MethodName) prog_4_method_3_code 1 (some (.object "com/example/shapewalk/shapewalk/cli/UsageException")) ws ({ frames := 8, cells := 16, slots := 3300, locals := 130 } : Room) [] #[(.ref s2)] h0 n0 (nq (fun v h => ∃ a g t' k', v = some (.ref a) ∧ Keep h0 h [] ∧ Exa Z h a "com/example/shapewalk/shapewalk/cli/UsageException" ∧ Fld Z h a "java/lang/Throwable" "detailMessage" "Ljava/lang/String;" (.ref g) ∧ Str Z h g t' k' (([] ++ ds) ++ [32, 105, 115, 32, 114, 101, 113, 117, 105, 114, 101, 100]))) := by
  refine met_ofK (plainFor_of_name pn_com_example_shapewalk_shapewalk_cli_Options) hw #[.val (.ref s2)] (fun m => by first | rfl | (simp [entryFrame, mkF, argsToLocals, Value.category]; done)) ?_
  intro p e s m below meth c C0 hTK hBelow hh
  have C : Cx Z a0 tables_1 p s m meth c "com/example/shapewalk/shapewalk/cli/Options" "missing" prog_4_method_3_code 1 (some (.object "com/example/shapewalk/shapewalk/cli/UsageException")) n0 := C0
  refine g_newU C w_26 w_27 w_28 d_prog_4_method_3_code_0 (by decide) (by decide) ?_
  intro b226 h226 g226 E226 A226 U226 D226
  refine g_dup C d_prog_4_method_3_code_3 rfl ?_
  refine g_newU C w_29 w_30 w_31 d_prog_4_method_3_code_4 (by decide) (by decide) ?_
  intro b227 h227 g227 E227 A227 U227 D227
  refine g_dup C d_prog_4_method_3_code_7 rfl ?_
  have K228 : Keep h0 h226 [] := (Keep.refl h0 []).ext E226
  have K229 : Keep h0 h227 [] := K228.ext E227
  refine g_specialX C (a := b227) w_32 w_33 w_34 rfl (by decide) [] (ct_of hEL hw w_34 w_31 (rm_si l Z a0 hw hEL b227 zc h227 n0 A227 (D227 (Or.inl (C.hw w_44)) (ty := (.array .byte)) (by decide)) (D227 (Or.inl (C.hw w_46)) (ty := .byte) (by decide)) (D227 (Or.inl (C.hw w_69)) (ty := .int) (by decide)) (Sta_keep Szc K229) hzc)) (allS (List.mem_of_getElem? (i := 0) rfl) all0) (by decide) 3 (by decide) rfl pd___V rfl [(.ref b227), (.ref b226), (.ref b226)] rfl (Nat.le_of_eq rfl) d_prog_4_method_3_code_8 (by decide) (by decide) ?_
  intro v230 h230 ns230 Q230
  obtain ⟨t230, kt230, rfl, rfl, KC230, le230, SB230⟩ := Q230
  refine g_aloadN C d_prog_4_method_3_code_11 rfl rfl ?_
  have E232 := (S2.1.keep K228)
  have K233 : Keep h226 h227 [] := (Keep.refl h226 []).ext E227
  have E234 := (E232.keep K233)
  have S235 := (S2.keep K228 nin0 nin0)
  have S236 := (S235.keep K233 nin0 nin0)
  have K237 : Keep h0 h230 [] := K229.trans KC230 (allS (Or.inr (Nat.le_trans K228.1 (Nat.le_of_eq g227.symm))) all0)
  have S238 := (S2.keep K237 nin0 nin0)
  refine g_virtualX C SB230.1 w_47 w_48 (fun hZ => nf_sel hw w_50 hZ) w_50 w_49 (by decide) [(.ref s2)] (ct_of hEL hw w_51 w_31 (rm_sa l Z a0 hw hEL b227 t230 s2 t2 _ _ 16 [] ds zc h230 n0 SB230 S238 (Nat.ne_of_lt (Nat.lt_of_lt_of_le E232.lt (Nat.le_of_eq g227.symm))) (Nat.ne_of_lt (Nat.lt_of_lt_of_le E234.lt le230)) (Nat.ne_of_lt (Nat.lt_of_lt_of_le S235.tlt (Nat.le_of_eq g227.symm))) (Nat.ne_of_lt (Nat.lt_of_lt_of_le S236.tlt le230)) (Nat.ne_of_lt (Nat.lt_of_lt_of_le A227.lt le230)) (by first | omega | (simp only [List.length_append, List.length_cons, List.length_nil]; omega)) (Sta_keep Szc K237) hzc (by first | omega | (simp only [List.length_append, List.length_cons, List.length_nil]; omega)))) (allS (List.mem_of_getElem? (i := 1) rfl) (allS (List.mem_of_getElem? (i := 0) rfl) all0)) (by decide) 2 (by decide) rfl pd__Ljava_lang_String__Ljava_lang_StringBuilder_ rfl [(.ref b226), (.ref b226)] rfl (Nat.le_of_eq rfl) d_prog_4_method_3_code_12 (by decide) (by decide) ?_
  intro v231 h231 ns231 Q231
  obtain ⟨t'231, kt'231, cap'231, rfl, rfl, KC231, or231, SB231, ec231⟩ := Q231
  refine g_ldcS C hEL w_95 own_sA (List.mem_of_getElem? (i := 0) rfl) [32, 105, 115, 32, 114, 101, 113, 117, 105, 114, 101, 100] ⟨by decide +kernel, by decide +kernel⟩ (by decide) (by decide) d_prog_4_method_3_code_15 48 (by decide +kernel) (by decide) (by decide) (by decide) ?_
  intro a239 t239 kb239 h239 E239 S239 X239
  have K241 : Keep h231 h239 [] := (Keep.refl h231 []).ext E239
  have E242 := (SB231.1.keep K241)
  have F243 := (SB231.2.1.keep K241 nin0)
  have F244 := (SB231.2.2.1.keep K241 nin0)
  have F245 := (SB231.2.2.2.1.keep K241 nin0)
  have V246 := (SB231.2.2.2.2.1.keep K241 nin0)
  have E247 := (SB231.2.2.2.2.2.2.2.2.keep K241)
  have K248 : Keep h0 h231 [] := K237.trans KC231 (allS (Or.inr (Nat.le_trans K228.1 (Nat.le_of_eq g227.symm))) (allS (Or.inr (Nat.le_trans K229.1 le230)) all0))
  have K249 : Keep h0 h239 [] := K248.ext E239
  refine g_virtualX C E242 w_47 w_48 (fun hZ => nf_sel hw w_50 hZ) w_50 w_49 (by decide) [(.ref a239)] (ct_of hEL hw w_51 w_31 (rm_sa l Z a0 hw hEL b227 t'231 a239 t239 _ _ cap'231 ([] ++ ds) [32, 105, 115, 32, 114, 101, 113, 117, 105, 114, 101, 100] zc h239 n0 ⟨E242, F243, F244, F245, V246, SB231.2.2.2.2.2.1, SB231.2.2.2.2.2.2.1, SB231.2.2.2.2.2.2.2.1, E247⟩ S239 (Ne.symm (X239 _ (List.mem_of_getElem? (i := 2) rfl)).1) (Ne.symm (X239 _ (List.mem_of_getElem? (i := 0) rfl)).1) (Ne.symm (X239 _ (List.mem_of_getElem? (i := 2) rfl)).2) (Ne.symm (X239 _ (List.mem_of_getElem? (i := 0) rfl)).2) (own_alt or231 (Nat.ne_of_lt (Nat.lt_of_lt_of_le A227.lt le230)) SB230.1.lt) (by first | omega | (simp only [List.length_append, List.length_cons, List.length_nil]; omega)) (Sta_keep Szc K249) hzc (by first | omega | (simp only [List.length_append, List.length_cons, List.length_nil]; omega)))) (allS (List.mem_of_getElem? (i := 2) rfl) (allS (List.mem_of_getElem? (i := 0) rfl) all0)) (by decide) 2 (by decide) rfl pd__Ljava_lang_String__Ljava_lang_StringBuilder_ rfl [(.ref b226), (.ref b226)] rfl (Nat.le_of_eq rfl) d_prog_4_method_3_code_17 (by decide) (by decide) ?_
  intro v240 h240 ns240 Q240
  obtain ⟨t'240, kt'240, cap'240, rfl, rfl, KC240, or240, SB240, ec240⟩ := Q240
  have K250 : Keep h0 h240 [] := K249.trans KC240 (allS (Or.inr (Nat.le_trans K228.1 (Nat.le_of_eq g227.symm))) (allS (Or.inr (own_alt_le or231 (Nat.le_trans K229.1 le230) K237.1)) all0))
  refine g_virtual C SB240.1 w_96 w_97 (fun hZ => nf_sel hw w_99 hZ) w_99 w_98 (by decide) [] (ct_of hEL hw w_100 w_31 (rm_ts l Z a0 hw hEL b227 t'240 _ cap'240 (([] ++ ds) ++ [32, 105, 115, 32, 114, 101, 113, 117, 105, 114, 101, 100]) zc h240 n0 SB240 (by first | omega | (simp only [List.length_append, List.length_cons, List.length_nil]; omega)) (by first | omega | (simp only [List.length_append, List.length_cons, List.length_nil]; omega)) (Sta_keep Szc K250) hzc)) all0 (by decide) 2 (by decide) rfl pd___Ljava_lang_String_ rfl [(.ref b226), (.ref b226)] rfl (Nat.le_of_eq rfl) d_prog_4_method_3_code_20 (by decide) (by decide) ?_
  intro v251 h251 Q251
  obtain ⟨a251, t251, k251, rfl, KC251, le251, lt251, S251⟩ := Q251
  have K252 : Keep h226 h230 [] := K233.trans KC230 (allS (Or.inr (Nat.le_of_eq g227.symm)) all0)
  have K253 : Keep h226 h231 [] := K252.trans KC231 (allS (Or.inr (Nat.le_of_eq g227.symm)) (allS (Or.inr (Nat.le_trans K233.1 le230)) all0))
  have K254 : Keep h226 h239 [] := K253.ext E239
  have K255 : Keep h226 h240 [] := K254.trans KC240 (allS (Or.inr (Nat.le_of_eq g227.symm)) (allS (Or.inr (own_alt_le or231 (Nat.le_trans K233.1 le230) K252.1)) all0))
  have K256 : Keep h226 h251 [] := K255.trans KC251 all0
  have E257 := (A226.keep K256)
  have U258 := (Unt.keep K256 nin0 U226)
  have F259 := ((D226 (Or.inl (C.hw w_157)) (ty := (.object "java/lang/Throwable")) (by decide)).keep K256 nin0)
  have F260 := ((D226 (Or.inl (C.hw w_160)) (ty := (.array (.object "java/lang/StackTraceElement"))) (by decide)).keep K256 nin0)
  have F261 := ((D226 (Or.inl (C.hw w_163)) (ty := (.object "java/util/List")) (by decide)).keep K256 nin0)
  have F262 := ((D226 (Or.inl (C.hw w_188)) (ty := (.object "java/lang/Object")) (by decide)).keep K256 nin0)
  have F263 := ((D226 (Or.inl (C.hw w_187)) (ty := (.object "java/lang/String")) (by decide)).keep K256 nin0)
  have K264 : Keep h0 h251 [] := K250.trans KC251 all0
  have TH265 := (ThS.keep K264 (fun _ q => nomatch q) hT)
  refine g_specialK C hTK hBelow (a := b226) w_141 w_142 w_143 rfl (by decide) [(.ref a251)] (ct_ofK hEL hw w_143 w_28 (rm_ui l Z a0 hw hEL b226 a251 us ss h251 n0 E257 U258 F259 F260 F261 F262 F263 (Sta_keep Sus K264) (Sta_keep Sss K264) TH265 hst)) (allS (List.mem_of_getElem? (i := 4) rfl) all0) (by decide) 1 (by decide) rfl pd__Ljava_lang_String__V rfl [(.ref b226)] rfl (Nat.le_of_eq rfl) d_prog_4_method_3_code_23 (by decide) (by decide) ?_
  intro v266 h266 ns266 Q266
  obtain ⟨rfl, rfl, KC266, X266, D266⟩ := Q266
  refine g_areturn C hEL (t := (.object "com/example/shapewalk/shapewalk/cli/UsageException")) rfl rfl rfl d_prog_4_method_3_code_26 (by decide) (by decide) ?_
  have K267 : Keep h0 h266 [] := K264.trans KC266 (allS (Or.inr (Nat.le_of_eq g226.symm)) all0)
  have E268 := (A226.keep K255)
  have S269 := (S251.keep KC266 (ninS (Ne.symm (Nat.ne_of_lt (Nat.lt_of_lt_of_le E268.lt le251))) nin0) (ninS (Ne.symm (Nat.ne_of_lt (Nat.lt_of_lt_of_le E268.lt lt251))) nin0))
  exact ⟨b226, a251, _, _, rfl, K267, X266, D266, S269⟩
theorem d_jdk_78_method_6_code_0 : decode jdk_78_method_6_code 0 = .ok (.aload_n 0, 1) := by decide +kernel
theorem d_jdk_78_method_6_code_1 : decode jdk_78_method_6_code 1 = .ok (.getfield 31, 3) := by decide +kernel
theorem d_jdk_78_method_6_code_4 : decode jdk_78_method_6_code 4 = .ok (.areturn, 1) := by decide +kernel
set_option maxRecDepth 65536 in
set_option maxHeartbeats 40000000 in
theorem rm_gm (l : Launch) (Z : State) (a0 : Array Value) (hw : ∀ d ∈ tables_1, d.before a0 Z = true) (hEL : EW Z a0 consts_1) {ws : List Jvm.Cond} (a1 g : Addr) (h0 : Heap) (n0 : Nat) (F1 : Fld Z h0 a1 "java/lang/Throwable" "detailMessage" "Ljava/lang/String;" (.ref g)) :
    Met l Z consts_1 (⟨"java/lang/Throwable", "getMessage", "()Ljava/lang/String;"⟩ : MethodName) jdk_78_method_6_code 1 (some (.object "java/lang/String")) ws ({ frames := 0, cells := 0, slots := 0, locals := 0 } : Room) [] #[(.ref a1)] h0 n0 (nq (fun v h => v = some (.ref g) ∧ h = h0)) := by
  refine met_of (plainFor_of_name pn_java_lang_Throwable) hw #[.val (.ref a1)] (fun m => by first | rfl | (simp [entryFrame, mkF, argsToLocals, Value.category]; done)) ?_
  intro p e s m below meth c C0
  have C : Cx Z a0 tables_1 p s m meth c "java/lang/Throwable" "getMessage" jdk_78_method_6_code 1 (some (.object "java/lang/String")) n0 := C0
  refine g_aloadN C d_jdk_78_method_6_code_0 rfl rfl ?_
  refine g_getfield C w_191 Via.refl F1 d_jdk_78_method_6_code_1 ?_
  refine g_areturn C hEL (t := (.object "java/lang/String")) rfl rfl rfl d_jdk_78_method_6_code_4 (by decide) (by decide) ?_
  exact ⟨rfl, rfl⟩
theorem d_method_3_code_0 : decode method_3_code 0 = .ok (.aload_n 0, 1) := by decide +kernel
theorem d_method_3_code_1 : decode method_3_code 1 = .ok (.iload_n 1, 1) := by decide +kernel
theorem d_method_3_code_2 : decode method_3_code 2 = .ok (.invokevirtual 32, 3) := by decide +kernel
theorem d_method_3_code_5 : decode method_3_code 5 = .ok (.bipush 32, 2) := by decide +kernel
theorem d_method_3_code_7 : decode method_3_code 7 = .ok (.if_icmp .ne 145, 3) := by decide +kernel
theorem d_method_3_code_10 : decode method_3_code 10 = .ok (.aload_n 0, 1) := by decide +kernel
theorem d_method_3_code_11 : decode method_3_code 11 = .ok (.iload_n 1, 1) := by decide +kernel
theorem d_method_3_code_12 : decode method_3_code 12 = .ok (.iconst 1, 1) := by decide +kernel
theorem d_method_3_code_13 : decode method_3_code 13 = .ok (.iadd, 1) := by decide +kernel
theorem d_method_3_code_14 : decode method_3_code 14 = .ok (.invokevirtual 32, 3) := by decide +kernel
theorem d_method_3_code_17 : decode method_3_code 17 = .ok (.bipush 105, 2) := by decide +kernel
theorem d_method_3_code_19 : decode method_3_code 19 = .ok (.if_icmp .ne 133, 3) := by decide +kernel
theorem d_method_3_code_22 : decode method_3_code 22 = .ok (.aload_n 0, 1) := by decide +kernel
theorem d_method_3_code_23 : decode method_3_code 23 = .ok (.iload_n 1, 1) := by decide +kernel
theorem d_method_3_code_24 : decode method_3_code 24 = .ok (.iconst 2, 1) := by decide +kernel
theorem d_method_3_code_25 : decode method_3_code 25 = .ok (.iadd, 1) := by decide +kernel
theorem d_method_3_code_26 : decode method_3_code 26 = .ok (.invokevirtual 32, 3) := by decide +kernel
theorem d_method_3_code_29 : decode method_3_code 29 = .ok (.bipush 115, 2) := by decide +kernel
theorem d_method_3_code_31 : decode method_3_code 31 = .ok (.if_icmp .ne 121, 3) := by decide +kernel
theorem d_method_3_code_34 : decode method_3_code 34 = .ok (.aload_n 0, 1) := by decide +kernel
theorem d_method_3_code_35 : decode method_3_code 35 = .ok (.iload_n 1, 1) := by decide +kernel
theorem d_method_3_code_36 : decode method_3_code 36 = .ok (.iconst 3, 1) := by decide +kernel
theorem d_method_3_code_37 : decode method_3_code 37 = .ok (.iadd, 1) := by decide +kernel
theorem d_method_3_code_38 : decode method_3_code 38 = .ok (.invokevirtual 32, 3) := by decide +kernel
theorem d_method_3_code_41 : decode method_3_code 41 = .ok (.bipush 32, 2) := by decide +kernel
theorem d_method_3_code_43 : decode method_3_code 43 = .ok (.if_icmp .ne 109, 3) := by decide +kernel
theorem d_method_3_code_46 : decode method_3_code 46 = .ok (.aload_n 0, 1) := by decide +kernel
theorem d_method_3_code_47 : decode method_3_code 47 = .ok (.iload_n 1, 1) := by decide +kernel
theorem d_method_3_code_48 : decode method_3_code 48 = .ok (.iconst 4, 1) := by decide +kernel
theorem d_method_3_code_49 : decode method_3_code 49 = .ok (.iadd, 1) := by decide +kernel
theorem d_method_3_code_50 : decode method_3_code 50 = .ok (.invokevirtual 32, 3) := by decide +kernel
theorem d_method_3_code_53 : decode method_3_code 53 = .ok (.bipush 114, 2) := by decide +kernel
theorem d_method_3_code_55 : decode method_3_code 55 = .ok (.if_icmp .ne 97, 3) := by decide +kernel
theorem d_method_3_code_58 : decode method_3_code 58 = .ok (.aload_n 0, 1) := by decide +kernel
theorem d_method_3_code_59 : decode method_3_code 59 = .ok (.iload_n 1, 1) := by decide +kernel
theorem d_method_3_code_60 : decode method_3_code 60 = .ok (.iconst 5, 1) := by decide +kernel
theorem d_method_3_code_61 : decode method_3_code 61 = .ok (.iadd, 1) := by decide +kernel
theorem d_method_3_code_62 : decode method_3_code 62 = .ok (.invokevirtual 32, 3) := by decide +kernel
theorem d_method_3_code_65 : decode method_3_code 65 = .ok (.bipush 101, 2) := by decide +kernel
theorem d_method_3_code_67 : decode method_3_code 67 = .ok (.if_icmp .ne 85, 3) := by decide +kernel
theorem d_method_3_code_70 : decode method_3_code 70 = .ok (.aload_n 0, 1) := by decide +kernel
theorem d_method_3_code_71 : decode method_3_code 71 = .ok (.iload_n 1, 1) := by decide +kernel
theorem d_method_3_code_72 : decode method_3_code 72 = .ok (.bipush 6, 2) := by decide +kernel
theorem d_method_3_code_74 : decode method_3_code 74 = .ok (.iadd, 1) := by decide +kernel
theorem d_method_3_code_75 : decode method_3_code 75 = .ok (.invokevirtual 32, 3) := by decide +kernel
theorem d_method_3_code_78 : decode method_3_code 78 = .ok (.bipush 113, 2) := by decide +kernel
theorem d_method_3_code_80 : decode method_3_code 80 = .ok (.if_icmp .ne 72, 3) := by decide +kernel
theorem d_method_3_code_83 : decode method_3_code 83 = .ok (.aload_n 0, 1) := by decide +kernel
theorem d_method_3_code_84 : decode method_3_code 84 = .ok (.iload_n 1, 1) := by decide +kernel
theorem d_method_3_code_85 : decode method_3_code 85 = .ok (.bipush 7, 2) := by decide +kernel
theorem d_method_3_code_87 : decode method_3_code 87 = .ok (.iadd, 1) := by decide +kernel
theorem d_method_3_code_88 : decode method_3_code 88 = .ok (.invokevirtual 32, 3) := by decide +kernel
theorem d_method_3_code_91 : decode method_3_code 91 = .ok (.bipush 117, 2) := by decide +kernel
theorem d_method_3_code_93 : decode method_3_code 93 = .ok (.if_icmp .ne 59, 3) := by decide +kernel
theorem d_method_3_code_96 : decode method_3_code 96 = .ok (.aload_n 0, 1) := by decide +kernel
theorem d_method_3_code_97 : decode method_3_code 97 = .ok (.iload_n 1, 1) := by decide +kernel
theorem d_method_3_code_98 : decode method_3_code 98 = .ok (.bipush 8, 2) := by decide +kernel
theorem d_method_3_code_100 : decode method_3_code 100 = .ok (.iadd, 1) := by decide +kernel
theorem d_method_3_code_101 : decode method_3_code 101 = .ok (.invokevirtual 32, 3) := by decide +kernel
theorem d_method_3_code_104 : decode method_3_code 104 = .ok (.bipush 105, 2) := by decide +kernel
theorem d_method_3_code_106 : decode method_3_code 106 = .ok (.if_icmp .ne 46, 3) := by decide +kernel
theorem d_method_3_code_109 : decode method_3_code 109 = .ok (.aload_n 0, 1) := by decide +kernel
theorem d_method_3_code_110 : decode method_3_code 110 = .ok (.iload_n 1, 1) := by decide +kernel
theorem d_method_3_code_111 : decode method_3_code 111 = .ok (.bipush 9, 2) := by decide +kernel
theorem d_method_3_code_113 : decode method_3_code 113 = .ok (.iadd, 1) := by decide +kernel
theorem d_method_3_code_114 : decode method_3_code 114 = .ok (.invokevirtual 32, 3) := by decide +kernel
theorem d_method_3_code_117 : decode method_3_code 117 = .ok (.bipush 114, 2) := by decide +kernel
theorem d_method_3_code_119 : decode method_3_code 119 = .ok (.if_icmp .ne 33, 3) := by decide +kernel
theorem d_method_3_code_122 : decode method_3_code 122 = .ok (.aload_n 0, 1) := by decide +kernel
theorem d_method_3_code_123 : decode method_3_code 123 = .ok (.iload_n 1, 1) := by decide +kernel
theorem d_method_3_code_124 : decode method_3_code 124 = .ok (.bipush 10, 2) := by decide +kernel
theorem d_method_3_code_126 : decode method_3_code 126 = .ok (.iadd, 1) := by decide +kernel
theorem d_method_3_code_127 : decode method_3_code 127 = .ok (.invokevirtual 32, 3) := by decide +kernel
theorem d_method_3_code_130 : decode method_3_code 130 = .ok (.bipush 101, 2) := by decide +kernel
theorem d_method_3_code_132 : decode method_3_code 132 = .ok (.if_icmp .ne 20, 3) := by decide +kernel
theorem d_method_3_code_135 : decode method_3_code 135 = .ok (.aload_n 0, 1) := by decide +kernel
theorem d_method_3_code_136 : decode method_3_code 136 = .ok (.iload_n 1, 1) := by decide +kernel
theorem d_method_3_code_137 : decode method_3_code 137 = .ok (.bipush 11, 2) := by decide +kernel
theorem d_method_3_code_139 : decode method_3_code 139 = .ok (.iadd, 1) := by decide +kernel
theorem d_method_3_code_140 : decode method_3_code 140 = .ok (.invokevirtual 32, 3) := by decide +kernel
theorem d_method_3_code_143 : decode method_3_code 143 = .ok (.bipush 100, 2) := by decide +kernel
theorem d_method_3_code_145 : decode method_3_code 145 = .ok (.if_icmp .ne 7, 3) := by decide +kernel
theorem d_method_3_code_148 : decode method_3_code 148 = .ok (.iconst 1, 1) := by decide +kernel
theorem d_method_3_code_149 : decode method_3_code 149 = .ok (.goto 4, 3) := by decide +kernel
theorem d_method_3_code_153 : decode method_3_code 153 = .ok (.ireturn, 1) := by decide +kernel
theorem pn_com_example_shapewalk_shapewalk_cli_OptionsMissingPinLaw : plainName "com/example/shapewalk/shapewalk/cli/OptionsMissingPinLaw" = true := by first | (simp [plainName, overriddenIn]; done) | decide +kernel
theorem pd__I_C : parseMethodDescriptor "(I)C" = some ⟨[.int], some .char⟩ := by decide +kernel
set_option maxRecDepth 65536 in
set_option maxHeartbeats 40000000 in
theorem rm_suf0 (l : Launch) (Z : State) (a0 : Array Value) (hw : ∀ d ∈ tables_1, d.before a0 Z = true) (hEL : EW Z a0 consts_1) {ws : List Jvm.Cond} (s t : Addr) (kb : ClassId) (zc : Int32) (fm : Value) (h0 : Heap) (n0 : Nat) (S0 : Str Z h0 s t kb [32, 105, 115, 32, 114, 101, 113, 117, 105, 114, 101, 100]) (Szc : Sta Z h0 "java/lang/String" "COMPACT_STRINGS" "Z" (.int zc)) (hzc : ¬ (zc = (0 : Int32))) (Sfm : Sta Z h0 "jdk/internal/util/Preconditions" "SIOOBE_FORMATTER" "Ljava/util/function/BiFunction;" fm) (hfm : fm.isRef = true) :
    Met l Z consts_1 (⟨"com/example/shapewalk/shapewalk/cli/OptionsMissingPinLaw", "suffix", "(Ljava/lang/String;I)Z"⟩ : MethodName) method_3_code 2 (some .boolean) ws ({ frames := 4, cells := 0, slots := 0, locals := 60 } : Room) [] #[(.ref s), (.int (0 : Int32))] h0 n0 (nq (fun v h => v = some (.int 1) ∧ h = h0)) := by
  refine met_of (plainFor_of_name pn_com_example_shapewalk_shapewalk_cli_OptionsMissingPinLaw) hw #[.val (.ref s), .val (.int (0 : Int32))] (fun m => by first | rfl | (simp [entryFrame, mkF, argsToLocals, Value.category]; done)) ?_
  intro p e sT m below meth c C0
  have C : Cx Z a0 tables_1 p sT m meth c "com/example/shapewalk/shapewalk/cli/OptionsMissingPinLaw" "suffix" method_3_code 2 (some .boolean) n0 := C0
  refine g_aloadN C d_method_3_code_0 rfl rfl ?_
  refine g_iloadN C d_method_3_code_1 rfl ?_
  refine g_virtual C S0.1 w_203 w_204 (fun hZ => nf_sel hw w_206 hZ) w_206 w_205 (by decide) [(.int (0 : Int32))] (ct_ch hEL hw S0 Szc hzc Sfm hfm 0 (Nat.le_of_ble_eq_true rfl) (0 : Int32) rfl) all0 (by decide) 0 (by decide) rfl pd__I_C rfl [] rfl (Nat.le_of_eq rfl) d_method_3_code_2 (by decide) (by decide) ?_
  intro v270 h270 Q270
  obtain ⟨ev270, e270⟩ := Q270
  replace e270 := e270.symm
  subst e270
  replace ev270 : v270 = some (.int (32 : Int32)) := ev270
  subst ev270
  refine g_bipush C 32 d_method_3_code_5 rfl ?_
  refine g_icmp_f C d_method_3_code_7 (XT.ii_ne_f (by decide)) ?_
  refine g_aloadN C d_method_3_code_10 rfl rfl ?_
  refine g_iloadN C d_method_3_code_11 rfl ?_
  refine g_iconst C 1 d_method_3_code_12 rfl ?_
  refine g_iadd C d_method_3_code_13 ?_
  rw [show ((0 : Int32) + (1 : Int32)) = (1 : Int32) from by decide]
  refine g_virtual C S0.1 w_203 w_204 (fun hZ => nf_sel hw w_206 hZ) w_206 w_205 (by decide) [(.int (1 : Int32))] (ct_ch hEL hw S0 Szc hzc Sfm hfm 1 (Nat.le_of_ble_eq_true rfl) (1 : Int32) rfl) all0 (by decide) 0 (by decide) rfl pd__I_C rfl [] rfl (Nat.le_of_eq rfl) d_method_3_code_14 (by decide) (by decide) ?_
  intro v271 h271 Q271
  obtain ⟨ev271, e271⟩ := Q271
  replace e271 := e271.symm
  subst e271
  replace ev271 : v271 = some (.int (105 : Int32)) := ev271
  subst ev271
  refine g_bipush C 105 d_method_3_code_17 rfl ?_
  refine g_icmp_f C d_method_3_code_19 (XT.ii_ne_f (by decide)) ?_
  refine g_aloadN C d_method_3_code_22 rfl rfl ?_
  refine g_iloadN C d_method_3_code_23 rfl ?_
  refine g_iconst C 2 d_method_3_code_24 rfl ?_
  refine g_iadd C d_method_3_code_25 ?_
  rw [show ((0 : Int32) + (2 : Int32)) = (2 : Int32) from by decide]
  refine g_virtual C S0.1 w_203 w_204 (fun hZ => nf_sel hw w_206 hZ) w_206 w_205 (by decide) [(.int (2 : Int32))] (ct_ch hEL hw S0 Szc hzc Sfm hfm 2 (Nat.le_of_ble_eq_true rfl) (2 : Int32) rfl) all0 (by decide) 0 (by decide) rfl pd__I_C rfl [] rfl (Nat.le_of_eq rfl) d_method_3_code_26 (by decide) (by decide) ?_
  intro v272 h272 Q272
  obtain ⟨ev272, e272⟩ := Q272
  replace e272 := e272.symm
  subst e272
  replace ev272 : v272 = some (.int (115 : Int32)) := ev272
  subst ev272
  refine g_bipush C 115 d_method_3_code_29 rfl ?_
  refine g_icmp_f C d_method_3_code_31 (XT.ii_ne_f (by decide)) ?_
  refine g_aloadN C d_method_3_code_34 rfl rfl ?_
  refine g_iloadN C d_method_3_code_35 rfl ?_
  refine g_iconst C 3 d_method_3_code_36 rfl ?_
  refine g_iadd C d_method_3_code_37 ?_
  rw [show ((0 : Int32) + (3 : Int32)) = (3 : Int32) from by decide]
  refine g_virtual C S0.1 w_203 w_204 (fun hZ => nf_sel hw w_206 hZ) w_206 w_205 (by decide) [(.int (3 : Int32))] (ct_ch hEL hw S0 Szc hzc Sfm hfm 3 (Nat.le_of_ble_eq_true rfl) (3 : Int32) rfl) all0 (by decide) 0 (by decide) rfl pd__I_C rfl [] rfl (Nat.le_of_eq rfl) d_method_3_code_38 (by decide) (by decide) ?_
  intro v273 h273 Q273
  obtain ⟨ev273, e273⟩ := Q273
  replace e273 := e273.symm
  subst e273
  replace ev273 : v273 = some (.int (32 : Int32)) := ev273
  subst ev273
  refine g_bipush C 32 d_method_3_code_41 rfl ?_
  refine g_icmp_f C d_method_3_code_43 (XT.ii_ne_f (by decide)) ?_
  refine g_aloadN C d_method_3_code_46 rfl rfl ?_
  refine g_iloadN C d_method_3_code_47 rfl ?_
  refine g_iconst C 4 d_method_3_code_48 rfl ?_
  refine g_iadd C d_method_3_code_49 ?_
  rw [show ((0 : Int32) + (4 : Int32)) = (4 : Int32) from by decide]
  refine g_virtual C S0.1 w_203 w_204 (fun hZ => nf_sel hw w_206 hZ) w_206 w_205 (by decide) [(.int (4 : Int32))] (ct_ch hEL hw S0 Szc hzc Sfm hfm 4 (Nat.le_of_ble_eq_true rfl) (4 : Int32) rfl) all0 (by decide) 0 (by decide) rfl pd__I_C rfl [] rfl (Nat.le_of_eq rfl) d_method_3_code_50 (by decide) (by decide) ?_
  intro v274 h274 Q274
  obtain ⟨ev274, e274⟩ := Q274
  replace e274 := e274.symm
  subst e274
  replace ev274 : v274 = some (.int (114 : Int32)) := ev274
  subst ev274
  refine g_bipush C 114 d_method_3_code_53 rfl ?_
  refine g_icmp_f C d_method_3_code_55 (XT.ii_ne_f (by decide)) ?_
  refine g_aloadN C d_method_3_code_58 rfl rfl ?_
  refine g_iloadN C d_method_3_code_59 rfl ?_
  refine g_iconst C 5 d_method_3_code_60 rfl ?_
  refine g_iadd C d_method_3_code_61 ?_
  rw [show ((0 : Int32) + (5 : Int32)) = (5 : Int32) from by decide]
  refine g_virtual C S0.1 w_203 w_204 (fun hZ => nf_sel hw w_206 hZ) w_206 w_205 (by decide) [(.int (5 : Int32))] (ct_ch hEL hw S0 Szc hzc Sfm hfm 5 (Nat.le_of_ble_eq_true rfl) (5 : Int32) rfl) all0 (by decide) 0 (by decide) rfl pd__I_C rfl [] rfl (Nat.le_of_eq rfl) d_method_3_code_62 (by decide) (by decide) ?_
  intro v275 h275 Q275
  obtain ⟨ev275, e275⟩ := Q275
  replace e275 := e275.symm
  subst e275
  replace ev275 : v275 = some (.int (101 : Int32)) := ev275
  subst ev275
  refine g_bipush C 101 d_method_3_code_65 rfl ?_
  refine g_icmp_f C d_method_3_code_67 (XT.ii_ne_f (by decide)) ?_
  refine g_aloadN C d_method_3_code_70 rfl rfl ?_
  refine g_iloadN C d_method_3_code_71 rfl ?_
  refine g_bipush C 6 d_method_3_code_72 rfl ?_
  refine g_iadd C d_method_3_code_74 ?_
  rw [show ((0 : Int32) + (6 : Int32)) = (6 : Int32) from by decide]
  refine g_virtual C S0.1 w_203 w_204 (fun hZ => nf_sel hw w_206 hZ) w_206 w_205 (by decide) [(.int (6 : Int32))] (ct_ch hEL hw S0 Szc hzc Sfm hfm 6 (Nat.le_of_ble_eq_true rfl) (6 : Int32) rfl) all0 (by decide) 0 (by decide) rfl pd__I_C rfl [] rfl (Nat.le_of_eq rfl) d_method_3_code_75 (by decide) (by decide) ?_
  intro v276 h276 Q276
  obtain ⟨ev276, e276⟩ := Q276
  replace e276 := e276.symm
  subst e276
  replace ev276 : v276 = some (.int (113 : Int32)) := ev276
  subst ev276
  refine g_bipush C 113 d_method_3_code_78 rfl ?_
  refine g_icmp_f C d_method_3_code_80 (XT.ii_ne_f (by decide)) ?_
  refine g_aloadN C d_method_3_code_83 rfl rfl ?_
  refine g_iloadN C d_method_3_code_84 rfl ?_
  refine g_bipush C 7 d_method_3_code_85 rfl ?_
  refine g_iadd C d_method_3_code_87 ?_
  rw [show ((0 : Int32) + (7 : Int32)) = (7 : Int32) from by decide]
  refine g_virtual C S0.1 w_203 w_204 (fun hZ => nf_sel hw w_206 hZ) w_206 w_205 (by decide) [(.int (7 : Int32))] (ct_ch hEL hw S0 Szc hzc Sfm hfm 7 (Nat.le_of_ble_eq_true rfl) (7 : Int32) rfl) all0 (by decide) 0 (by decide) rfl pd__I_C rfl [] rfl (Nat.le_of_eq rfl) d_method_3_code_88 (by decide) (by decide) ?_
  intro v277 h277 Q277
  obtain ⟨ev277, e277⟩ := Q277
  replace e277 := e277.symm
  subst e277
  replace ev277 : v277 = some (.int (117 : Int32)) := ev277
  subst ev277
  refine g_bipush C 117 d_method_3_code_91 rfl ?_
  refine g_icmp_f C d_method_3_code_93 (XT.ii_ne_f (by decide)) ?_
  refine g_aloadN C d_method_3_code_96 rfl rfl ?_
  refine g_iloadN C d_method_3_code_97 rfl ?_
  refine g_bipush C 8 d_method_3_code_98 rfl ?_
  refine g_iadd C d_method_3_code_100 ?_
  rw [show ((0 : Int32) + (8 : Int32)) = (8 : Int32) from by decide]
  refine g_virtual C S0.1 w_203 w_204 (fun hZ => nf_sel hw w_206 hZ) w_206 w_205 (by decide) [(.int (8 : Int32))] (ct_ch hEL hw S0 Szc hzc Sfm hfm 8 (Nat.le_of_ble_eq_true rfl) (8 : Int32) rfl) all0 (by decide) 0 (by decide) rfl pd__I_C rfl [] rfl (Nat.le_of_eq rfl) d_method_3_code_101 (by decide) (by decide) ?_
  intro v278 h278 Q278
  obtain ⟨ev278, e278⟩ := Q278
  replace e278 := e278.symm
  subst e278
  replace ev278 : v278 = some (.int (105 : Int32)) := ev278
  subst ev278
  refine g_bipush C 105 d_method_3_code_104 rfl ?_
  refine g_icmp_f C d_method_3_code_106 (XT.ii_ne_f (by decide)) ?_
  refine g_aloadN C d_method_3_code_109 rfl rfl ?_
  refine g_iloadN C d_method_3_code_110 rfl ?_
  refine g_bipush C 9 d_method_3_code_111 rfl ?_
  refine g_iadd C d_method_3_code_113 ?_
  rw [show ((0 : Int32) + (9 : Int32)) = (9 : Int32) from by decide]
  refine g_virtual C S0.1 w_203 w_204 (fun hZ => nf_sel hw w_206 hZ) w_206 w_205 (by decide) [(.int (9 : Int32))] (ct_ch hEL hw S0 Szc hzc Sfm hfm 9 (Nat.le_of_ble_eq_true rfl) (9 : Int32) rfl) all0 (by decide) 0 (by decide) rfl pd__I_C rfl [] rfl (Nat.le_of_eq rfl) d_method_3_code_114 (by decide) (by decide) ?_
  intro v279 h279 Q279
  obtain ⟨ev279, e279⟩ := Q279
  replace e279 := e279.symm
  subst e279
  replace ev279 : v279 = some (.int (114 : Int32)) := ev279
  subst ev279
  refine g_bipush C 114 d_method_3_code_117 rfl ?_
  refine g_icmp_f C d_method_3_code_119 (XT.ii_ne_f (by decide)) ?_
  refine g_aloadN C d_method_3_code_122 rfl rfl ?_
  refine g_iloadN C d_method_3_code_123 rfl ?_
  refine g_bipush C 10 d_method_3_code_124 rfl ?_
  refine g_iadd C d_method_3_code_126 ?_
  rw [show ((0 : Int32) + (10 : Int32)) = (10 : Int32) from by decide]
  refine g_virtual C S0.1 w_203 w_204 (fun hZ => nf_sel hw w_206 hZ) w_206 w_205 (by decide) [(.int (10 : Int32))] (ct_ch hEL hw S0 Szc hzc Sfm hfm 10 (Nat.le_of_ble_eq_true rfl) (10 : Int32) rfl) all0 (by decide) 0 (by decide) rfl pd__I_C rfl [] rfl (Nat.le_of_eq rfl) d_method_3_code_127 (by decide) (by decide) ?_
  intro v280 h280 Q280
  obtain ⟨ev280, e280⟩ := Q280
  replace e280 := e280.symm
  subst e280
  replace ev280 : v280 = some (.int (101 : Int32)) := ev280
  subst ev280
  refine g_bipush C 101 d_method_3_code_130 rfl ?_
  refine g_icmp_f C d_method_3_code_132 (XT.ii_ne_f (by decide)) ?_
  refine g_aloadN C d_method_3_code_135 rfl rfl ?_
  refine g_iloadN C d_method_3_code_136 rfl ?_
  refine g_bipush C 11 d_method_3_code_137 rfl ?_
  refine g_iadd C d_method_3_code_139 ?_
  rw [show ((0 : Int32) + (11 : Int32)) = (11 : Int32) from by decide]
  refine g_virtual C S0.1 w_203 w_204 (fun hZ => nf_sel hw w_206 hZ) w_206 w_205 (by decide) [(.int (11 : Int32))] (ct_ch hEL hw S0 Szc hzc Sfm hfm 11 (Nat.le_of_ble_eq_true rfl) (11 : Int32) rfl) all0 (by decide) 0 (by decide) rfl pd__I_C rfl [] rfl (Nat.le_of_eq rfl) d_method_3_code_140 (by decide) (by decide) ?_
  intro v281 h281 Q281
  obtain ⟨ev281, e281⟩ := Q281
  replace e281 := e281.symm
  subst e281
  replace ev281 : v281 = some (.int (100 : Int32)) := ev281
  subst ev281
  refine g_bipush C 100 d_method_3_code_143 rfl ?_
  refine g_icmp_f C d_method_3_code_145 (XT.ii_ne_f (by decide)) ?_
  refine g_iconst C 1 d_method_3_code_148 rfl ?_
  refine g_goto C 153 d_method_3_code_149 (by decide) (by decide) ?_
  refine g_ireturnN C hEL (t := .boolean) rfl (by simp) d_method_3_code_153 (by decide) (by decide) ?_
  exact ⟨rfl, rfl⟩
set_option maxRecDepth 65536 in
set_option maxHeartbeats 40000000 in
theorem rm_suf1 (l : Launch) (Z : State) (a0 : Array Value) (hw : ∀ d ∈ tables_1, d.before a0 Z = true) (hEL : EW Z a0 consts_1) {ws : List Jvm.Cond} (s t : Addr) (kb : ClassId) (c0 : Int32) (zc : Int32) (fm : Value) (h0 : Heap) (n0 : Nat) (S0 : Str Z h0 s t kb [c0, 32, 105, 115, 32, 114, 101, 113, 117, 105, 114, 101, 100]) (Szc : Sta Z h0 "java/lang/String" "COMPACT_STRINGS" "Z" (.int zc)) (hzc : ¬ (zc = (0 : Int32))) (Sfm : Sta Z h0 "jdk/internal/util/Preconditions" "SIOOBE_FORMATTER" "Ljava/util/function/BiFunction;" fm) (hfm : fm.isRef = true) :
    Met l Z consts_1 (⟨"com/example/shapewalk/shapewalk/cli/OptionsMissingPinLaw", "suffix", "(Ljava/lang/String;I)Z"⟩ : MethodName) method_3_code 2 (some .boolean) ws ({ frames := 4, cells := 0, slots := 0, locals := 60 } : Room) [] #[(.ref s), (.int (1 : Int32))] h0 n0 (nq (fun v h => v = some (.int 1) ∧ h = h0)) := by
  refine met_of (plainFor_of_name pn_com_example_shapewalk_shapewalk_cli_OptionsMissingPinLaw) hw #[.val (.ref s), .val (.int (1 : Int32))] (fun m => by first | rfl | (simp [entryFrame, mkF, argsToLocals, Value.category]; done)) ?_
  intro p e sT m below meth c C0
  have C : Cx Z a0 tables_1 p sT m meth c "com/example/shapewalk/shapewalk/cli/OptionsMissingPinLaw" "suffix" method_3_code 2 (some .boolean) n0 := C0
  refine g_aloadN C d_method_3_code_0 rfl rfl ?_
  refine g_iloadN C d_method_3_code_1 rfl ?_
  refine g_virtual C S0.1 w_203 w_204 (fun hZ => nf_sel hw w_206 hZ) w_206 w_205 (by decide) [(.int (1 : Int32))] (ct_ch hEL hw S0 Szc hzc Sfm hfm 1 (Nat.le_of_ble_eq_true rfl) (1 : Int32) rfl) all0 (by decide) 0 (by decide) rfl pd__I_C rfl [] rfl (Nat.le_of_eq rfl) d_method_3_code_2 (by decide) (by decide) ?_
  intro v282 h282 Q282
  obtain ⟨ev282, e282⟩ := Q282
  replace e282 := e282.symm
  subst e282
  replace ev282 : v282 = some (.int (32 : Int32)) := ev282
  subst ev282
  refine g_bipush C 32 d_method_3_code_5 rfl ?_
  refine g_icmp_f C d_method_3_code_7 (XT.ii_ne_f (by decide)) ?_
  refine g_aloadN C d_method_3_code_10 rfl rfl ?_
  refine g_iloadN C d_method_3_code_11 rfl ?_
  refine g_iconst C 1 d_method_3_code_12 rfl ?_
  refine g_iadd C d_method_3_code_13 ?_
  rw [show ((1 : Int32) + (1 : Int32)) = (2 : Int32) from by decide]
  refine g_virtual C S0.1 w_203 w_204 (fun hZ => nf_sel hw w_206 hZ) w_206 w_205 (by decide) [(.int (2 : Int32))] (ct_ch hEL hw S0 Szc hzc Sfm hfm 2 (Nat.le_of_ble_eq_true rfl) (2 : Int32) rfl) all0 (by decide) 0 (by decide) rfl pd__I_C rfl [] rfl (Nat.le_of_eq rfl) d_method_3_code_14 (by decide) (by decide) ?_
  intro v283 h283 Q283
  obtain ⟨ev283, e283⟩ := Q283
  replace e283 := e283.symm
  subst e283
  replace ev283 : v283 = some (.int (105 : Int32)) := ev283
  subst ev283
  refine g_bipush C 105 d_method_3_code_17 rfl ?_
  refine g_icmp_f C d_method_3_code_19 (XT.ii_ne_f (by decide)) ?_
  refine g_aloadN C d_method_3_code_22 rfl rfl ?_
  refine g_iloadN C d_method_3_code_23 rfl ?_
  refine g_iconst C 2 d_method_3_code_24 rfl ?_
  refine g_iadd C d_method_3_code_25 ?_
  rw [show ((1 : Int32) + (2 : Int32)) = (3 : Int32) from by decide]
  refine g_virtual C S0.1 w_203 w_204 (fun hZ => nf_sel hw w_206 hZ) w_206 w_205 (by decide) [(.int (3 : Int32))] (ct_ch hEL hw S0 Szc hzc Sfm hfm 3 (Nat.le_of_ble_eq_true rfl) (3 : Int32) rfl) all0 (by decide) 0 (by decide) rfl pd__I_C rfl [] rfl (Nat.le_of_eq rfl) d_method_3_code_26 (by decide) (by decide) ?_
  intro v284 h284 Q284
  obtain ⟨ev284, e284⟩ := Q284
  replace e284 := e284.symm
  subst e284
  replace ev284 : v284 = some (.int (115 : Int32)) := ev284
  subst ev284
  refine g_bipush C 115 d_method_3_code_29 rfl ?_
  refine g_icmp_f C d_method_3_code_31 (XT.ii_ne_f (by decide)) ?_
  refine g_aloadN C d_method_3_code_34 rfl rfl ?_
  refine g_iloadN C d_method_3_code_35 rfl ?_
  refine g_iconst C 3 d_method_3_code_36 rfl ?_
  refine g_iadd C d_method_3_code_37 ?_
  rw [show ((1 : Int32) + (3 : Int32)) = (4 : Int32) from by decide]
  refine g_virtual C S0.1 w_203 w_204 (fun hZ => nf_sel hw w_206 hZ) w_206 w_205 (by decide) [(.int (4 : Int32))] (ct_ch hEL hw S0 Szc hzc Sfm hfm 4 (Nat.le_of_ble_eq_true rfl) (4 : Int32) rfl) all0 (by decide) 0 (by decide) rfl pd__I_C rfl [] rfl (Nat.le_of_eq rfl) d_method_3_code_38 (by decide) (by decide) ?_
  intro v285 h285 Q285
  obtain ⟨ev285, e285⟩ := Q285
  replace e285 := e285.symm
  subst e285
  replace ev285 : v285 = some (.int (32 : Int32)) := ev285
  subst ev285
  refine g_bipush C 32 d_method_3_code_41 rfl ?_
  refine g_icmp_f C d_method_3_code_43 (XT.ii_ne_f (by decide)) ?_
  refine g_aloadN C d_method_3_code_46 rfl rfl ?_
  refine g_iloadN C d_method_3_code_47 rfl ?_
  refine g_iconst C 4 d_method_3_code_48 rfl ?_
  refine g_iadd C d_method_3_code_49 ?_
  rw [show ((1 : Int32) + (4 : Int32)) = (5 : Int32) from by decide]
  refine g_virtual C S0.1 w_203 w_204 (fun hZ => nf_sel hw w_206 hZ) w_206 w_205 (by decide) [(.int (5 : Int32))] (ct_ch hEL hw S0 Szc hzc Sfm hfm 5 (Nat.le_of_ble_eq_true rfl) (5 : Int32) rfl) all0 (by decide) 0 (by decide) rfl pd__I_C rfl [] rfl (Nat.le_of_eq rfl) d_method_3_code_50 (by decide) (by decide) ?_
  intro v286 h286 Q286
  obtain ⟨ev286, e286⟩ := Q286
  replace e286 := e286.symm
  subst e286
  replace ev286 : v286 = some (.int (114 : Int32)) := ev286
  subst ev286
  refine g_bipush C 114 d_method_3_code_53 rfl ?_
  refine g_icmp_f C d_method_3_code_55 (XT.ii_ne_f (by decide)) ?_
  refine g_aloadN C d_method_3_code_58 rfl rfl ?_
  refine g_iloadN C d_method_3_code_59 rfl ?_
  refine g_iconst C 5 d_method_3_code_60 rfl ?_
  refine g_iadd C d_method_3_code_61 ?_
  rw [show ((1 : Int32) + (5 : Int32)) = (6 : Int32) from by decide]
  refine g_virtual C S0.1 w_203 w_204 (fun hZ => nf_sel hw w_206 hZ) w_206 w_205 (by decide) [(.int (6 : Int32))] (ct_ch hEL hw S0 Szc hzc Sfm hfm 6 (Nat.le_of_ble_eq_true rfl) (6 : Int32) rfl) all0 (by decide) 0 (by decide) rfl pd__I_C rfl [] rfl (Nat.le_of_eq rfl) d_method_3_code_62 (by decide) (by decide) ?_
  intro v287 h287 Q287
  obtain ⟨ev287, e287⟩ := Q287
  replace e287 := e287.symm
  subst e287
  replace ev287 : v287 = some (.int (101 : Int32)) := ev287
  subst ev287
  refine g_bipush C 101 d_method_3_code_65 rfl ?_
  refine g_icmp_f C d_method_3_code_67 (XT.ii_ne_f (by decide)) ?_
  refine g_aloadN C d_method_3_code_70 rfl rfl ?_
  refine g_iloadN C d_method_3_code_71 rfl ?_
  refine g_bipush C 6 d_method_3_code_72 rfl ?_
  refine g_iadd C d_method_3_code_74 ?_
  rw [show ((1 : Int32) + (6 : Int32)) = (7 : Int32) from by decide]
  refine g_virtual C S0.1 w_203 w_204 (fun hZ => nf_sel hw w_206 hZ) w_206 w_205 (by decide) [(.int (7 : Int32))] (ct_ch hEL hw S0 Szc hzc Sfm hfm 7 (Nat.le_of_ble_eq_true rfl) (7 : Int32) rfl) all0 (by decide) 0 (by decide) rfl pd__I_C rfl [] rfl (Nat.le_of_eq rfl) d_method_3_code_75 (by decide) (by decide) ?_
  intro v288 h288 Q288
  obtain ⟨ev288, e288⟩ := Q288
  replace e288 := e288.symm
  subst e288
  replace ev288 : v288 = some (.int (113 : Int32)) := ev288
  subst ev288
  refine g_bipush C 113 d_method_3_code_78 rfl ?_
  refine g_icmp_f C d_method_3_code_80 (XT.ii_ne_f (by decide)) ?_
  refine g_aloadN C d_method_3_code_83 rfl rfl ?_
  refine g_iloadN C d_method_3_code_84 rfl ?_
  refine g_bipush C 7 d_method_3_code_85 rfl ?_
  refine g_iadd C d_method_3_code_87 ?_
  rw [show ((1 : Int32) + (7 : Int32)) = (8 : Int32) from by decide]
  refine g_virtual C S0.1 w_203 w_204 (fun hZ => nf_sel hw w_206 hZ) w_206 w_205 (by decide) [(.int (8 : Int32))] (ct_ch hEL hw S0 Szc hzc Sfm hfm 8 (Nat.le_of_ble_eq_true rfl) (8 : Int32) rfl) all0 (by decide) 0 (by decide) rfl pd__I_C rfl [] rfl (Nat.le_of_eq rfl) d_method_3_code_88 (by decide) (by decide) ?_
  intro v289 h289 Q289
  obtain ⟨ev289, e289⟩ := Q289
  replace e289 := e289.symm
  subst e289
  replace ev289 : v289 = some (.int (117 : Int32)) := ev289
  subst ev289
  refine g_bipush C 117 d_method_3_code_91 rfl ?_
  refine g_icmp_f C d_method_3_code_93 (XT.ii_ne_f (by decide)) ?_
  refine g_aloadN C d_method_3_code_96 rfl rfl ?_
  refine g_iloadN C d_method_3_code_97 rfl ?_
  refine g_bipush C 8 d_method_3_code_98 rfl ?_
  refine g_iadd C d_method_3_code_100 ?_
  rw [show ((1 : Int32) + (8 : Int32)) = (9 : Int32) from by decide]
  refine g_virtual C S0.1 w_203 w_204 (fun hZ => nf_sel hw w_206 hZ) w_206 w_205 (by decide) [(.int (9 : Int32))] (ct_ch hEL hw S0 Szc hzc Sfm hfm 9 (Nat.le_of_ble_eq_true rfl) (9 : Int32) rfl) all0 (by decide) 0 (by decide) rfl pd__I_C rfl [] rfl (Nat.le_of_eq rfl) d_method_3_code_101 (by decide) (by decide) ?_
  intro v290 h290 Q290
  obtain ⟨ev290, e290⟩ := Q290
  replace e290 := e290.symm
  subst e290
  replace ev290 : v290 = some (.int (105 : Int32)) := ev290
  subst ev290
  refine g_bipush C 105 d_method_3_code_104 rfl ?_
  refine g_icmp_f C d_method_3_code_106 (XT.ii_ne_f (by decide)) ?_
  refine g_aloadN C d_method_3_code_109 rfl rfl ?_
  refine g_iloadN C d_method_3_code_110 rfl ?_
  refine g_bipush C 9 d_method_3_code_111 rfl ?_
  refine g_iadd C d_method_3_code_113 ?_
  rw [show ((1 : Int32) + (9 : Int32)) = (10 : Int32) from by decide]
  refine g_virtual C S0.1 w_203 w_204 (fun hZ => nf_sel hw w_206 hZ) w_206 w_205 (by decide) [(.int (10 : Int32))] (ct_ch hEL hw S0 Szc hzc Sfm hfm 10 (Nat.le_of_ble_eq_true rfl) (10 : Int32) rfl) all0 (by decide) 0 (by decide) rfl pd__I_C rfl [] rfl (Nat.le_of_eq rfl) d_method_3_code_114 (by decide) (by decide) ?_
  intro v291 h291 Q291
  obtain ⟨ev291, e291⟩ := Q291
  replace e291 := e291.symm
  subst e291
  replace ev291 : v291 = some (.int (114 : Int32)) := ev291
  subst ev291
  refine g_bipush C 114 d_method_3_code_117 rfl ?_
  refine g_icmp_f C d_method_3_code_119 (XT.ii_ne_f (by decide)) ?_
  refine g_aloadN C d_method_3_code_122 rfl rfl ?_
  refine g_iloadN C d_method_3_code_123 rfl ?_
  refine g_bipush C 10 d_method_3_code_124 rfl ?_
  refine g_iadd C d_method_3_code_126 ?_
  rw [show ((1 : Int32) + (10 : Int32)) = (11 : Int32) from by decide]
  refine g_virtual C S0.1 w_203 w_204 (fun hZ => nf_sel hw w_206 hZ) w_206 w_205 (by decide) [(.int (11 : Int32))] (ct_ch hEL hw S0 Szc hzc Sfm hfm 11 (Nat.le_of_ble_eq_true rfl) (11 : Int32) rfl) all0 (by decide) 0 (by decide) rfl pd__I_C rfl [] rfl (Nat.le_of_eq rfl) d_method_3_code_127 (by decide) (by decide) ?_
  intro v292 h292 Q292
  obtain ⟨ev292, e292⟩ := Q292
  replace e292 := e292.symm
  subst e292
  replace ev292 : v292 = some (.int (101 : Int32)) := ev292
  subst ev292
  refine g_bipush C 101 d_method_3_code_130 rfl ?_
  refine g_icmp_f C d_method_3_code_132 (XT.ii_ne_f (by decide)) ?_
  refine g_aloadN C d_method_3_code_135 rfl rfl ?_
  refine g_iloadN C d_method_3_code_136 rfl ?_
  refine g_bipush C 11 d_method_3_code_137 rfl ?_
  refine g_iadd C d_method_3_code_139 ?_
  rw [show ((1 : Int32) + (11 : Int32)) = (12 : Int32) from by decide]
  refine g_virtual C S0.1 w_203 w_204 (fun hZ => nf_sel hw w_206 hZ) w_206 w_205 (by decide) [(.int (12 : Int32))] (ct_ch hEL hw S0 Szc hzc Sfm hfm 12 (Nat.le_of_ble_eq_true rfl) (12 : Int32) rfl) all0 (by decide) 0 (by decide) rfl pd__I_C rfl [] rfl (Nat.le_of_eq rfl) d_method_3_code_140 (by decide) (by decide) ?_
  intro v293 h293 Q293
  obtain ⟨ev293, e293⟩ := Q293
  replace e293 := e293.symm
  subst e293
  replace ev293 : v293 = some (.int (100 : Int32)) := ev293
  subst ev293
  refine g_bipush C 100 d_method_3_code_143 rfl ?_
  refine g_icmp_f C d_method_3_code_145 (XT.ii_ne_f (by decide)) ?_
  refine g_iconst C 1 d_method_3_code_148 rfl ?_
  refine g_goto C 153 d_method_3_code_149 (by decide) (by decide) ?_
  refine g_ireturnN C hEL (t := .boolean) rfl (by simp) d_method_3_code_153 (by decide) (by decide) ?_
  exact ⟨rfl, rfl⟩
set_option maxRecDepth 65536 in
set_option maxHeartbeats 40000000 in
theorem rm_suf2 (l : Launch) (Z : State) (a0 : Array Value) (hw : ∀ d ∈ tables_1, d.before a0 Z = true) (hEL : EW Z a0 consts_1) {ws : List Jvm.Cond} (s t : Addr) (kb : ClassId) (c0 c1 : Int32) (zc : Int32) (fm : Value) (h0 : Heap) (n0 : Nat) (S0 : Str Z h0 s t kb [c0, c1, 32, 105, 115, 32, 114, 101, 113, 117, 105, 114, 101, 100]) (Szc : Sta Z h0 "java/lang/String" "COMPACT_STRINGS" "Z" (.int zc)) (hzc : ¬ (zc = (0 : Int32))) (Sfm : Sta Z h0 "jdk/internal/util/Preconditions" "SIOOBE_FORMATTER" "Ljava/util/function/BiFunction;" fm) (hfm : fm.isRef = true) :
    Met l Z consts_1 (⟨"com/example/shapewalk/shapewalk/cli/OptionsMissingPinLaw", "suffix", "(Ljava/lang/String;I)Z"⟩ : MethodName) method_3_code 2 (some .boolean) ws ({ frames := 4, cells := 0, slots := 0, locals := 60 } : Room) [] #[(.ref s), (.int (2 : Int32))] h0 n0 (nq (fun v h => v = some (.int 1) ∧ h = h0)) := by
  refine met_of (plainFor_of_name pn_com_example_shapewalk_shapewalk_cli_OptionsMissingPinLaw) hw #[.val (.ref s), .val (.int (2 : Int32))] (fun m => by first | rfl | (simp [entryFrame, mkF, argsToLocals, Value.category]; done)) ?_
  intro p e sT m below meth c C0
  have C : Cx Z a0 tables_1 p sT m meth c "com/example/shapewalk/shapewalk/cli/OptionsMissingPinLaw" "suffix" method_3_code 2 (some .boolean) n0 := C0
  refine g_aloadN C d_method_3_code_0 rfl rfl ?_
  refine g_iloadN C d_method_3_code_1 rfl ?_
  refine g_virtual C S0.1 w_203 w_204 (fun hZ => nf_sel hw w_206 hZ) w_206 w_205 (by decide) [(.int (2 : Int32))] (ct_ch hEL hw S0 Szc hzc Sfm hfm 2 (Nat.le_of_ble_eq_true rfl) (2 : Int32) rfl) all0 (by decide) 0 (by decide) rfl pd__I_C rfl [] rfl (Nat.le_of_eq rfl) d_method_3_code_2 (by decide) (by decide) ?_
  intro v294 h294 Q294
  obtain ⟨ev294, e294⟩ := Q294
  replace e294 := e294.symm
  subst e294
  replace ev294 : v294 = some (.int (32 : Int32)) := ev294
  subst ev294
  refine g_bipush C 32 d_method_3_code_5 rfl ?_
  refine g_icmp_f C d_method_3_code_7 (XT.ii_ne_f (by decide)) ?_
  refine g_aloadN C d_method_3_code_10 rfl rfl ?_
  refine g_iloadN C d_method_3_code_11 rfl ?_
  refine g_iconst C 1 d_method_3_code_12 rfl ?_
  refine g_iadd C d_method_3_code_13 ?_
  rw [show ((2 : Int32) + (1 : Int32)) = (3 : Int32) from by decide]
  refine g_virtual C S0.1 w_203 w_204 (fun hZ => nf_sel hw w_206 hZ) w_206 w_205 (by decide) [(.int (3 : Int32))] (ct_ch hEL hw S0 Szc hzc Sfm hfm 3 (Nat.le_of_ble_eq_true rfl) (3 : Int32) rfl) all0 (by decide) 0 (by decide) rfl pd__I_C rfl [] rfl (Nat.le_of_eq rfl) d_method_3_code_14 (by decide) (by decide) ?_
  intro v295 h295 Q295
  obtain ⟨ev295, e295⟩ := Q295
  replace e295 := e295.symm
  subst e295
  replace ev295 : v295 = some (.int (105 : Int32)) := ev295
  subst ev295
  refine g_bipush C 105 d_method_3_code_17 rfl ?_
  refine g_icmp_f C d_method_3_code_19 (XT.ii_ne_f (by decide)) ?_
  refine g_aloadN C d_method_3_code_22 rfl rfl ?_
  refine g_iloadN C d_method_3_code_23 rfl ?_
  refine g_iconst C 2 d_method_3_code_24 rfl ?_
  refine g_iadd C d_method_3_code_25 ?_
  rw [show ((2 : Int32) + (2 : Int32)) = (4 : Int32) from by decide]
  refine g_virtual C S0.1 w_203 w_204 (fun hZ => nf_sel hw w_206 hZ) w_206 w_205 (by decide) [(.int (4 : Int32))] (ct_ch hEL hw S0 Szc hzc Sfm hfm 4 (Nat.le_of_ble_eq_true rfl) (4 : Int32) rfl) all0 (by decide) 0 (by decide) rfl pd__I_C rfl [] rfl (Nat.le_of_eq rfl) d_method_3_code_26 (by decide) (by decide) ?_
  intro v296 h296 Q296
  obtain ⟨ev296, e296⟩ := Q296
  replace e296 := e296.symm
  subst e296
  replace ev296 : v296 = some (.int (115 : Int32)) := ev296
  subst ev296
  refine g_bipush C 115 d_method_3_code_29 rfl ?_
  refine g_icmp_f C d_method_3_code_31 (XT.ii_ne_f (by decide)) ?_
  refine g_aloadN C d_method_3_code_34 rfl rfl ?_
  refine g_iloadN C d_method_3_code_35 rfl ?_
  refine g_iconst C 3 d_method_3_code_36 rfl ?_
  refine g_iadd C d_method_3_code_37 ?_
  rw [show ((2 : Int32) + (3 : Int32)) = (5 : Int32) from by decide]
  refine g_virtual C S0.1 w_203 w_204 (fun hZ => nf_sel hw w_206 hZ) w_206 w_205 (by decide) [(.int (5 : Int32))] (ct_ch hEL hw S0 Szc hzc Sfm hfm 5 (Nat.le_of_ble_eq_true rfl) (5 : Int32) rfl) all0 (by decide) 0 (by decide) rfl pd__I_C rfl [] rfl (Nat.le_of_eq rfl) d_method_3_code_38 (by decide) (by decide) ?_
  intro v297 h297 Q297
  obtain ⟨ev297, e297⟩ := Q297
  replace e297 := e297.symm
  subst e297
  replace ev297 : v297 = some (.int (32 : Int32)) := ev297
  subst ev297
  refine g_bipush C 32 d_method_3_code_41 rfl ?_
  refine g_icmp_f C d_method_3_code_43 (XT.ii_ne_f (by decide)) ?_
  refine g_aloadN C d_method_3_code_46 rfl rfl ?_
  refine g_iloadN C d_method_3_code_47 rfl ?_
  refine g_iconst C 4 d_method_3_code_48 rfl ?_
  refine g_iadd C d_method_3_code_49 ?_
  rw [show ((2 : Int32) + (4 : Int32)) = (6 : Int32) from by decide]
  refine g_virtual C S0.1 w_203 w_204 (fun hZ => nf_sel hw w_206 hZ) w_206 w_205 (by decide) [(.int (6 : Int32))] (ct_ch hEL hw S0 Szc hzc Sfm hfm 6 (Nat.le_of_ble_eq_true rfl) (6 : Int32) rfl) all0 (by decide) 0 (by decide) rfl pd__I_C rfl [] rfl (Nat.le_of_eq rfl) d_method_3_code_50 (by decide) (by decide) ?_
  intro v298 h298 Q298
  obtain ⟨ev298, e298⟩ := Q298
  replace e298 := e298.symm
  subst e298
  replace ev298 : v298 = some (.int (114 : Int32)) := ev298
  subst ev298
  refine g_bipush C 114 d_method_3_code_53 rfl ?_
  refine g_icmp_f C d_method_3_code_55 (XT.ii_ne_f (by decide)) ?_
  refine g_aloadN C d_method_3_code_58 rfl rfl ?_
  refine g_iloadN C d_method_3_code_59 rfl ?_
  refine g_iconst C 5 d_method_3_code_60 rfl ?_
  refine g_iadd C d_method_3_code_61 ?_
  rw [show ((2 : Int32) + (5 : Int32)) = (7 : Int32) from by decide]
  refine g_virtual C S0.1 w_203 w_204 (fun hZ => nf_sel hw w_206 hZ) w_206 w_205 (by decide) [(.int (7 : Int32))] (ct_ch hEL hw S0 Szc hzc Sfm hfm 7 (Nat.le_of_ble_eq_true rfl) (7 : Int32) rfl) all0 (by decide) 0 (by decide) rfl pd__I_C rfl [] rfl (Nat.le_of_eq rfl) d_method_3_code_62 (by decide) (by decide) ?_
  intro v299 h299 Q299
  obtain ⟨ev299, e299⟩ := Q299
  replace e299 := e299.symm
  subst e299
  replace ev299 : v299 = some (.int (101 : Int32)) := ev299
  subst ev299
  refine g_bipush C 101 d_method_3_code_65 rfl ?_
  refine g_icmp_f C d_method_3_code_67 (XT.ii_ne_f (by decide)) ?_
  refine g_aloadN C d_method_3_code_70 rfl rfl ?_
  refine g_iloadN C d_method_3_code_71 rfl ?_
  refine g_bipush C 6 d_method_3_code_72 rfl ?_
  refine g_iadd C d_method_3_code_74 ?_
  rw [show ((2 : Int32) + (6 : Int32)) = (8 : Int32) from by decide]
  refine g_virtual C S0.1 w_203 w_204 (fun hZ => nf_sel hw w_206 hZ) w_206 w_205 (by decide) [(.int (8 : Int32))] (ct_ch hEL hw S0 Szc hzc Sfm hfm 8 (Nat.le_of_ble_eq_true rfl) (8 : Int32) rfl) all0 (by decide) 0 (by decide) rfl pd__I_C rfl [] rfl (Nat.le_of_eq rfl) d_method_3_code_75 (by decide) (by decide) ?_
  intro v300 h300 Q300
  obtain ⟨ev300, e300⟩ := Q300
  replace e300 := e300.symm
  subst e300
  replace ev300 : v300 = some (.int (113 : Int32)) := ev300
  subst ev300
  refine g_bipush C 113 d_method_3_code_78 rfl ?_
  refine g_icmp_f C d_method_3_code_80 (XT.ii_ne_f (by decide)) ?_
  refine g_aloadN C d_method_3_code_83 rfl rfl ?_
  refine g_iloadN C d_method_3_code_84 rfl ?_
  refine g_bipush C 7 d_method_3_code_85 rfl ?_
  refine g_iadd C d_method_3_code_87 ?_
  rw [show ((2 : Int32) + (7 : Int32)) = (9 : Int32) from by decide]
  refine g_virtual C S0.1 w_203 w_204 (fun hZ => nf_sel hw w_206 hZ) w_206 w_205 (by decide) [(.int (9 : Int32))] (ct_ch hEL hw S0 Szc hzc Sfm hfm 9 (Nat.le_of_ble_eq_true rfl) (9 : Int32) rfl) all0 (by decide) 0 (by decide) rfl pd__I_C rfl [] rfl (Nat.le_of_eq rfl) d_method_3_code_88 (by decide) (by decide) ?_
  intro v301 h301 Q301
  obtain ⟨ev301, e301⟩ := Q301
  replace e301 := e301.symm
  subst e301
  replace ev301 : v301 = some (.int (117 : Int32)) := ev301
  subst ev301
  refine g_bipush C 117 d_method_3_code_91 rfl ?_
  refine g_icmp_f C d_method_3_code_93 (XT.ii_ne_f (by decide)) ?_
  refine g_aloadN C d_method_3_code_96 rfl rfl ?_
  refine g_iloadN C d_method_3_code_97 rfl ?_
  refine g_bipush C 8 d_method_3_code_98 rfl ?_
  refine g_iadd C d_method_3_code_100 ?_
  rw [show ((2 : Int32) + (8 : Int32)) = (10 : Int32) from by decide]
  refine g_virtual C S0.1 w_203 w_204 (fun hZ => nf_sel hw w_206 hZ) w_206 w_205 (by decide) [(.int (10 : Int32))] (ct_ch hEL hw S0 Szc hzc Sfm hfm 10 (Nat.le_of_ble_eq_true rfl) (10 : Int32) rfl) all0 (by decide) 0 (by decide) rfl pd__I_C rfl [] rfl (Nat.le_of_eq rfl) d_method_3_code_101 (by decide) (by decide) ?_
  intro v302 h302 Q302
  obtain ⟨ev302, e302⟩ := Q302
  replace e302 := e302.symm
  subst e302
  replace ev302 : v302 = some (.int (105 : Int32)) := ev302
  subst ev302
  refine g_bipush C 105 d_method_3_code_104 rfl ?_
  refine g_icmp_f C d_method_3_code_106 (XT.ii_ne_f (by decide)) ?_
  refine g_aloadN C d_method_3_code_109 rfl rfl ?_
  refine g_iloadN C d_method_3_code_110 rfl ?_
  refine g_bipush C 9 d_method_3_code_111 rfl ?_
  refine g_iadd C d_method_3_code_113 ?_
  rw [show ((2 : Int32) + (9 : Int32)) = (11 : Int32) from by decide]
  refine g_virtual C S0.1 w_203 w_204 (fun hZ => nf_sel hw w_206 hZ) w_206 w_205 (by decide) [(.int (11 : Int32))] (ct_ch hEL hw S0 Szc hzc Sfm hfm 11 (Nat.le_of_ble_eq_true rfl) (11 : Int32) rfl) all0 (by decide) 0 (by decide) rfl pd__I_C rfl [] rfl (Nat.le_of_eq rfl) d_method_3_code_114 (by decide) (by decide) ?_
  intro v303 h303 Q303
  obtain ⟨ev303, e303⟩ := Q303
  replace e303 := e303.symm
  subst e303
  replace ev303 : v303 = some (.int (114 : Int32)) := ev303
  subst ev303
  refine g_bipush C 114 d_method_3_code_117 rfl ?_
  refine g_icmp_f C d_method_3_code_119 (XT.ii_ne_f (by decide)) ?_
  refine g_aloadN C d_method_3_code_122 rfl rfl ?_
  refine g_iloadN C d_method_3_code_123 rfl ?_
  refine g_bipush C 10 d_method_3_code_124 rfl ?_
  refine g_iadd C d_method_3_code_126 ?_
  rw [show ((2 : Int32) + (10 : Int32)) = (12 : Int32) from by decide]
  refine g_virtual C S0.1 w_203 w_204 (fun hZ => nf_sel hw w_206 hZ) w_206 w_205 (by decide) [(.int (12 : Int32))] (ct_ch hEL hw S0 Szc hzc Sfm hfm 12 (Nat.le_of_ble_eq_true rfl) (12 : Int32) rfl) all0 (by decide) 0 (by decide) rfl pd__I_C rfl [] rfl (Nat.le_of_eq rfl) d_method_3_code_127 (by decide) (by decide) ?_
  intro v304 h304 Q304
  obtain ⟨ev304, e304⟩ := Q304
  replace e304 := e304.symm
  subst e304
  replace ev304 : v304 = some (.int (101 : Int32)) := ev304
  subst ev304
  refine g_bipush C 101 d_method_3_code_130 rfl ?_
  refine g_icmp_f C d_method_3_code_132 (XT.ii_ne_f (by decide)) ?_
  refine g_aloadN C d_method_3_code_135 rfl rfl ?_
  refine g_iloadN C d_method_3_code_136 rfl ?_
  refine g_bipush C 11 d_method_3_code_137 rfl ?_
  refine g_iadd C d_method_3_code_139 ?_
  rw [show ((2 : Int32) + (11 : Int32)) = (13 : Int32) from by decide]
  refine g_virtual C S0.1 w_203 w_204 (fun hZ => nf_sel hw w_206 hZ) w_206 w_205 (by decide) [(.int (13 : Int32))] (ct_ch hEL hw S0 Szc hzc Sfm hfm 13 (Nat.le_of_ble_eq_true rfl) (13 : Int32) rfl) all0 (by decide) 0 (by decide) rfl pd__I_C rfl [] rfl (Nat.le_of_eq rfl) d_method_3_code_140 (by decide) (by decide) ?_
  intro v305 h305 Q305
  obtain ⟨ev305, e305⟩ := Q305
  replace e305 := e305.symm
  subst e305
  replace ev305 : v305 = some (.int (100 : Int32)) := ev305
  subst ev305
  refine g_bipush C 100 d_method_3_code_143 rfl ?_
  refine g_icmp_f C d_method_3_code_145 (XT.ii_ne_f (by decide)) ?_
  refine g_iconst C 1 d_method_3_code_148 rfl ?_
  refine g_goto C 153 d_method_3_code_149 (by decide) (by decide) ?_
  refine g_ireturnN C hEL (t := .boolean) rfl (by simp) d_method_3_code_153 (by decide) (by decide) ?_
  exact ⟨rfl, rfl⟩
set_option maxRecDepth 65536 in
set_option maxHeartbeats 40000000 in
theorem rm_suf3 (l : Launch) (Z : State) (a0 : Array Value) (hw : ∀ d ∈ tables_1, d.before a0 Z = true) (hEL : EW Z a0 consts_1) {ws : List Jvm.Cond} (s t : Addr) (kb : ClassId) (c0 c1 c2 : Int32) (zc : Int32) (fm : Value) (h0 : Heap) (n0 : Nat) (S0 : Str Z h0 s t kb [c0, c1, c2, 32, 105, 115, 32, 114, 101, 113, 117, 105, 114, 101, 100]) (Szc : Sta Z h0 "java/lang/String" "COMPACT_STRINGS" "Z" (.int zc)) (hzc : ¬ (zc = (0 : Int32))) (Sfm : Sta Z h0 "jdk/internal/util/Preconditions" "SIOOBE_FORMATTER" "Ljava/util/function/BiFunction;" fm) (hfm : fm.isRef = true) :
    Met l Z consts_1 (⟨"com/example/shapewalk/shapewalk/cli/OptionsMissingPinLaw", "suffix", "(Ljava/lang/String;I)Z"⟩ : MethodName) method_3_code 2 (some .boolean) ws ({ frames := 4, cells := 0, slots := 0, locals := 60 } : Room) [] #[(.ref s), (.int (3 : Int32))] h0 n0 (nq (fun v h => v = some (.int 1) ∧ h = h0)) := by
  refine met_of (plainFor_of_name pn_com_example_shapewalk_shapewalk_cli_OptionsMissingPinLaw) hw #[.val (.ref s), .val (.int (3 : Int32))] (fun m => by first | rfl | (simp [entryFrame, mkF, argsToLocals, Value.category]; done)) ?_
  intro p e sT m below meth c C0
  have C : Cx Z a0 tables_1 p sT m meth c "com/example/shapewalk/shapewalk/cli/OptionsMissingPinLaw" "suffix" method_3_code 2 (some .boolean) n0 := C0
  refine g_aloadN C d_method_3_code_0 rfl rfl ?_
  refine g_iloadN C d_method_3_code_1 rfl ?_
  refine g_virtual C S0.1 w_203 w_204 (fun hZ => nf_sel hw w_206 hZ) w_206 w_205 (by decide) [(.int (3 : Int32))] (ct_ch hEL hw S0 Szc hzc Sfm hfm 3 (Nat.le_of_ble_eq_true rfl) (3 : Int32) rfl) all0 (by decide) 0 (by decide) rfl pd__I_C rfl [] rfl (Nat.le_of_eq rfl) d_method_3_code_2 (by decide) (by decide) ?_
  intro v306 h306 Q306
  obtain ⟨ev306, e306⟩ := Q306
  replace e306 := e306.symm
  subst e306
  replace ev306 : v306 = some (.int (32 : Int32)) := ev306
  subst ev306
  refine g_bipush C 32 d_method_3_code_5 rfl ?_
  refine g_icmp_f C d_method_3_code_7 (XT.ii_ne_f (by decide)) ?_
  refine g_aloadN C d_method_3_code_10 rfl rfl ?_
  refine g_iloadN C d_method_3_code_11 rfl ?_
  refine g_iconst C 1 d_method_3_code_12 rfl ?_
  refine g_iadd C d_method_3_code_13 ?_
  rw [show ((3 : Int32) + (1 : Int32)) = (4 : Int32) from by decide]
  refine g_virtual C S0.1 w_203 w_204 (fun hZ => nf_sel hw w_206 hZ) w_206 w_205 (by decide) [(.int (4 : Int32))] (ct_ch hEL hw S0 Szc hzc Sfm hfm 4 (Nat.le_of_ble_eq_true rfl) (4 : Int32) rfl) all0 (by decide) 0 (by decide) rfl pd__I_C rfl [] rfl (Nat.le_of_eq rfl) d_method_3_code_14 (by decide) (by decide) ?_
  intro v307 h307 Q307
  obtain ⟨ev307, e307⟩ := Q307
  replace e307 := e307.symm
  subst e307
  replace ev307 : v307 = some (.int (105 : Int32)) := ev307
  subst ev307
  refine g_bipush C 105 d_method_3_code_17 rfl ?_
  refine g_icmp_f C d_method_3_code_19 (XT.ii_ne_f (by decide)) ?_
  refine g_aloadN C d_method_3_code_22 rfl rfl ?_
  refine g_iloadN C d_method_3_code_23 rfl ?_
  refine g_iconst C 2 d_method_3_code_24 rfl ?_
  refine g_iadd C d_method_3_code_25 ?_
  rw [show ((3 : Int32) + (2 : Int32)) = (5 : Int32) from by decide]
  refine g_virtual C S0.1 w_203 w_204 (fun hZ => nf_sel hw w_206 hZ) w_206 w_205 (by decide) [(.int (5 : Int32))] (ct_ch hEL hw S0 Szc hzc Sfm hfm 5 (Nat.le_of_ble_eq_true rfl) (5 : Int32) rfl) all0 (by decide) 0 (by decide) rfl pd__I_C rfl [] rfl (Nat.le_of_eq rfl) d_method_3_code_26 (by decide) (by decide) ?_
  intro v308 h308 Q308
  obtain ⟨ev308, e308⟩ := Q308
  replace e308 := e308.symm
  subst e308
  replace ev308 : v308 = some (.int (115 : Int32)) := ev308
  subst ev308
  refine g_bipush C 115 d_method_3_code_29 rfl ?_
  refine g_icmp_f C d_method_3_code_31 (XT.ii_ne_f (by decide)) ?_
  refine g_aloadN C d_method_3_code_34 rfl rfl ?_
  refine g_iloadN C d_method_3_code_35 rfl ?_
  refine g_iconst C 3 d_method_3_code_36 rfl ?_
  refine g_iadd C d_method_3_code_37 ?_
  rw [show ((3 : Int32) + (3 : Int32)) = (6 : Int32) from by decide]
  refine g_virtual C S0.1 w_203 w_204 (fun hZ => nf_sel hw w_206 hZ) w_206 w_205 (by decide) [(.int (6 : Int32))] (ct_ch hEL hw S0 Szc hzc Sfm hfm 6 (Nat.le_of_ble_eq_true rfl) (6 : Int32) rfl) all0 (by decide) 0 (by decide) rfl pd__I_C rfl [] rfl (Nat.le_of_eq rfl) d_method_3_code_38 (by decide) (by decide) ?_
  intro v309 h309 Q309
  obtain ⟨ev309, e309⟩ := Q309
  replace e309 := e309.symm
  subst e309
  replace ev309 : v309 = some (.int (32 : Int32)) := ev309
  subst ev309
  refine g_bipush C 32 d_method_3_code_41 rfl ?_
  refine g_icmp_f C d_method_3_code_43 (XT.ii_ne_f (by decide)) ?_
  refine g_aloadN C d_method_3_code_46 rfl rfl ?_
  refine g_iloadN C d_method_3_code_47 rfl ?_
  refine g_iconst C 4 d_method_3_code_48 rfl ?_
  refine g_iadd C d_method_3_code_49 ?_
  rw [show ((3 : Int32) + (4 : Int32)) = (7 : Int32) from by decide]
  refine g_virtual C S0.1 w_203 w_204 (fun hZ => nf_sel hw w_206 hZ) w_206 w_205 (by decide) [(.int (7 : Int32))] (ct_ch hEL hw S0 Szc hzc Sfm hfm 7 (Nat.le_of_ble_eq_true rfl) (7 : Int32) rfl) all0 (by decide) 0 (by decide) rfl pd__I_C rfl [] rfl (Nat.le_of_eq rfl) d_method_3_code_50 (by decide) (by decide) ?_
  intro v310 h310 Q310
  obtain ⟨ev310, e310⟩ := Q310
  replace e310 := e310.symm
  subst e310
  replace ev310 : v310 = some (.int (114 : Int32)) := ev310
  subst ev310
  refine g_bipush C 114 d_method_3_code_53 rfl ?_
  refine g_icmp_f C d_method_3_code_55 (XT.ii_ne_f (by decide)) ?_
  refine g_aloadN C d_method_3_code_58 rfl rfl ?_
  refine g_iloadN C d_method_3_code_59 rfl ?_
  refine g_iconst C 5 d_method_3_code_60 rfl ?_
  refine g_iadd C d_method_3_code_61 ?_
  rw [show ((3 : Int32) + (5 : Int32)) = (8 : Int32) from by decide]
  refine g_virtual C S0.1 w_203 w_204 (fun hZ => nf_sel hw w_206 hZ) w_206 w_205 (by decide) [(.int (8 : Int32))] (ct_ch hEL hw S0 Szc hzc Sfm hfm 8 (Nat.le_of_ble_eq_true rfl) (8 : Int32) rfl) all0 (by decide) 0 (by decide) rfl pd__I_C rfl [] rfl (Nat.le_of_eq rfl) d_method_3_code_62 (by decide) (by decide) ?_
  intro v311 h311 Q311
  obtain ⟨ev311, e311⟩ := Q311
  replace e311 := e311.symm
  subst e311
  replace ev311 : v311 = some (.int (101 : Int32)) := ev311
  subst ev311
  refine g_bipush C 101 d_method_3_code_65 rfl ?_
  refine g_icmp_f C d_method_3_code_67 (XT.ii_ne_f (by decide)) ?_
  refine g_aloadN C d_method_3_code_70 rfl rfl ?_
  refine g_iloadN C d_method_3_code_71 rfl ?_
  refine g_bipush C 6 d_method_3_code_72 rfl ?_
  refine g_iadd C d_method_3_code_74 ?_
  rw [show ((3 : Int32) + (6 : Int32)) = (9 : Int32) from by decide]
  refine g_virtual C S0.1 w_203 w_204 (fun hZ => nf_sel hw w_206 hZ) w_206 w_205 (by decide) [(.int (9 : Int32))] (ct_ch hEL hw S0 Szc hzc Sfm hfm 9 (Nat.le_of_ble_eq_true rfl) (9 : Int32) rfl) all0 (by decide) 0 (by decide) rfl pd__I_C rfl [] rfl (Nat.le_of_eq rfl) d_method_3_code_75 (by decide) (by decide) ?_
  intro v312 h312 Q312
  obtain ⟨ev312, e312⟩ := Q312
  replace e312 := e312.symm
  subst e312
  replace ev312 : v312 = some (.int (113 : Int32)) := ev312
  subst ev312
  refine g_bipush C 113 d_method_3_code_78 rfl ?_
  refine g_icmp_f C d_method_3_code_80 (XT.ii_ne_f (by decide)) ?_
  refine g_aloadN C d_method_3_code_83 rfl rfl ?_
  refine g_iloadN C d_method_3_code_84 rfl ?_
  refine g_bipush C 7 d_method_3_code_85 rfl ?_
  refine g_iadd C d_method_3_code_87 ?_
  rw [show ((3 : Int32) + (7 : Int32)) = (10 : Int32) from by decide]
  refine g_virtual C S0.1 w_203 w_204 (fun hZ => nf_sel hw w_206 hZ) w_206 w_205 (by decide) [(.int (10 : Int32))] (ct_ch hEL hw S0 Szc hzc Sfm hfm 10 (Nat.le_of_ble_eq_true rfl) (10 : Int32) rfl) all0 (by decide) 0 (by decide) rfl pd__I_C rfl [] rfl (Nat.le_of_eq rfl) d_method_3_code_88 (by decide) (by decide) ?_
  intro v313 h313 Q313
  obtain ⟨ev313, e313⟩ := Q313
  replace e313 := e313.symm
  subst e313
  replace ev313 : v313 = some (.int (117 : Int32)) := ev313
  subst ev313
  refine g_bipush C 117 d_method_3_code_91 rfl ?_
  refine g_icmp_f C d_method_3_code_93 (XT.ii_ne_f (by decide)) ?_
  refine g_aloadN C d_method_3_code_96 rfl rfl ?_
  refine g_iloadN C d_method_3_code_97 rfl ?_
  refine g_bipush C 8 d_method_3_code_98 rfl ?_
  refine g_iadd C d_method_3_code_100 ?_
  rw [show ((3 : Int32) + (8 : Int32)) = (11 : Int32) from by decide]
  refine g_virtual C S0.1 w_203 w_204 (fun hZ => nf_sel hw w_206 hZ) w_206 w_205 (by decide) [(.int (11 : Int32))] (ct_ch hEL hw S0 Szc hzc Sfm hfm 11 (Nat.le_of_ble_eq_true rfl) (11 : Int32) rfl) all0 (by decide) 0 (by decide) rfl pd__I_C rfl [] rfl (Nat.le_of_eq rfl) d_method_3_code_101 (by decide) (by decide) ?_
  intro v314 h314 Q314
  obtain ⟨ev314, e314⟩ := Q314
  replace e314 := e314.symm
  subst e314
  replace ev314 : v314 = some (.int (105 : Int32)) := ev314
  subst ev314
  refine g_bipush C 105 d_method_3_code_104 rfl ?_
  refine g_icmp_f C d_method_3_code_106 (XT.ii_ne_f (by decide)) ?_
  refine g_aloadN C d_method_3_code_109 rfl rfl ?_
  refine g_iloadN C d_method_3_code_110 rfl ?_
  refine g_bipush C 9 d_method_3_code_111 rfl ?_
  refine g_iadd C d_method_3_code_113 ?_
  rw [show ((3 : Int32) + (9 : Int32)) = (12 : Int32) from by decide]
  refine g_virtual C S0.1 w_203 w_204 (fun hZ => nf_sel hw w_206 hZ) w_206 w_205 (by decide) [(.int (12 : Int32))] (ct_ch hEL hw S0 Szc hzc Sfm hfm 12 (Nat.le_of_ble_eq_true rfl) (12 : Int32) rfl) all0 (by decide) 0 (by decide) rfl pd__I_C rfl [] rfl (Nat.le_of_eq rfl) d_method_3_code_114 (by decide) (by decide) ?_
  intro v315 h315 Q315
  obtain ⟨ev315, e315⟩ := Q315
  replace e315 := e315.symm
  subst e315
  replace ev315 : v315 = some (.int (114 : Int32)) := ev315
  subst ev315
  refine g_bipush C 114 d_method_3_code_117 rfl ?_
  refine g_icmp_f C d_method_3_code_119 (XT.ii_ne_f (by decide)) ?_
  refine g_aloadN C d_method_3_code_122 rfl rfl ?_
  refine g_iloadN C d_method_3_code_123 rfl ?_
  refine g_bipush C 10 d_method_3_code_124 rfl ?_
  refine g_iadd C d_method_3_code_126 ?_
  rw [show ((3 : Int32) + (10 : Int32)) = (13 : Int32) from by decide]
  refine g_virtual C S0.1 w_203 w_204 (fun hZ => nf_sel hw w_206 hZ) w_206 w_205 (by decide) [(.int (13 : Int32))] (ct_ch hEL hw S0 Szc hzc Sfm hfm 13 (Nat.le_of_ble_eq_true rfl) (13 : Int32) rfl) all0 (by decide) 0 (by decide) rfl pd__I_C rfl [] rfl (Nat.le_of_eq rfl) d_method_3_code_127 (by decide) (by decide) ?_
  intro v316 h316 Q316
  obtain ⟨ev316, e316⟩ := Q316
  replace e316 := e316.symm
  subst e316
  replace ev316 : v316 = some (.int (101 : Int32)) := ev316
  subst ev316
  refine g_bipush C 101 d_method_3_code_130 rfl ?_
  refine g_icmp_f C d_method_3_code_132 (XT.ii_ne_f (by decide)) ?_
  refine g_aloadN C d_method_3_code_135 rfl rfl ?_
  refine g_iloadN C d_method_3_code_136 rfl ?_
  refine g_bipush C 11 d_method_3_code_137 rfl ?_
  refine g_iadd C d_method_3_code_139 ?_
  rw [show ((3 : Int32) + (11 : Int32)) = (14 : Int32) from by decide]
  refine g_virtual C S0.1 w_203 w_204 (fun hZ => nf_sel hw w_206 hZ) w_206 w_205 (by decide) [(.int (14 : Int32))] (ct_ch hEL hw S0 Szc hzc Sfm hfm 14 (Nat.le_of_ble_eq_true rfl) (14 : Int32) rfl) all0 (by decide) 0 (by decide) rfl pd__I_C rfl [] rfl (Nat.le_of_eq rfl) d_method_3_code_140 (by decide) (by decide) ?_
  intro v317 h317 Q317
  obtain ⟨ev317, e317⟩ := Q317
  replace e317 := e317.symm
  subst e317
  replace ev317 : v317 = some (.int (100 : Int32)) := ev317
  subst ev317
  refine g_bipush C 100 d_method_3_code_143 rfl ?_
  refine g_icmp_f C d_method_3_code_145 (XT.ii_ne_f (by decide)) ?_
  refine g_iconst C 1 d_method_3_code_148 rfl ?_
  refine g_goto C 153 d_method_3_code_149 (by decide) (by decide) ?_
  refine g_ireturnN C hEL (t := .boolean) rfl (by simp) d_method_3_code_153 (by decide) (by decide) ?_
  exact ⟨rfl, rfl⟩
theorem own_and3 (x : Int32) : x &&& 3 = 0 ∨ x &&& 3 = 1 ∨ x &&& 3 = 2 ∨ x &&& 3 = 3 := by
  have h : (x &&& 3).toBitVec.toNat < 4 := by
    simp only [Int32.toBitVec_and, BitVec.toNat_and]
    exact Nat.lt_succ_of_le Nat.and_le_right
  have e : (x &&& 3) = Int32.ofNat (x &&& 3).toBitVec.toNat := by
    apply Int32.toBitVec_inj.mp
    show _ = BitVec.ofNat 32 _
    rw [BitVec.ofNat_toNat]; simp
  rw [e]
  exact (by decide +kernel : ∀ k : Fin 4, Int32.ofNat k.val = 0 ∨ Int32.ofNat k.val = 1 ∨ Int32.ofNat k.val = 2 ∨ Int32.ofNat k.val = 3) ⟨_, h⟩

theorem pd__C_Ljava_lang_String_ : parseMethodDescriptor "(C)Ljava/lang/String;" = some ⟨[.char], some (.object "java/lang/String")⟩ := by decide +kernel
theorem pd__Ljava_lang_String__Lcom_example_shapewalk_shapewalk_cli_UsageException_ : parseMethodDescriptor "(Ljava/lang/String;)Lcom/example/shapewalk/shapewalk/cli/UsageException;" = some ⟨[(.object "java/lang/String")], some (.object "com/example/shapewalk/shapewalk/cli/UsageException")⟩ := by decide +kernel
theorem pd__Ljava_lang_String_I_Z : parseMethodDescriptor "(Ljava/lang/String;I)Z" = some ⟨[(.object "java/lang/String"), .int], some .boolean⟩ := by decide +kernel
theorem pd___C_V : parseMethodDescriptor "([C)V" = some ⟨[(.array .char)], none⟩ := by decide +kernel
set_option maxRecDepth 65536 in
set_option maxHeartbeats 40000000 in
theorem rm_law (l : Launch) (Z : State) (a0 : Array Value) (hw : ∀ d ∈ tables_1, d.before a0 Z = true) (hEL : EW Z a0 consts_1) {ws : List Jvm.Cond} (i1 i2 i3 i4 zc : Int32) (us ss : Addr) (fm : Value) (h0 : Heap) (n0 : Nat) (Szc : Sta Z h0 "java/lang/String" "COMPACT_STRINGS" "Z" (.int zc)) (hzc : ¬ (zc = (0 : Int32))) (Sfm : Sta Z h0 "jdk/internal/util/Preconditions" "SIOOBE_FORMATTER" "Ljava/util/function/BiFunction;" fm) (hfm : fm.isRef = true) (Sus : Sta Z h0 "java/lang/Throwable" "UNASSIGNED_STACK" "[Ljava/lang/StackTraceElement;" (.ref us)) (Sss : Sta Z h0 "java/lang/Throwable" "SUPPRESSED_SENTINEL" "Ljava/util/List;" (.ref ss)) (hT : ThS Z h0) (hst : l.stackTraces = true) :
    MetK l Z consts_1 x code maxLocals ret ws room_1 [] #[(.int i1), (.int i2), (.int i3), (.int i4)] h0 n0 (nq (fun v _ => v = some (.int 1))) := by
  refine met_ofK (plainFor_of_name pn_com_example_shapewalk_shapewalk_cli_OptionsMissingPinLaw) hw #[.val (.int i1), .val (.int i2), .val (.int i3), .val (.int i4), .unset, .unset, .unset, .unset, .unset, .unset, .unset] (fun m => by first | rfl | (simp [entryFrame, mkF, argsToLocals, Value.category, maxLocals]; done)) ?_
  intro p e s m below meth c C0 hTK hBelow hh
  have C : Cx Z a0 tables_1 p s m meth c "com/example/shapewalk/shapewalk/cli/OptionsMissingPinLaw" "law" code maxLocals ret n0 := C0
  refine g_iloadN C at_0 rfl ?_
  refine g_iconst C 3 at_1 rfl ?_
  refine g_iand C at_2 ?_
  refine g_istore C #[.val (.int i1), .val (.int i2), .val (.int i3), .val (.int i4), .val (.int (i1 &&& (3 : Int32))), .unset, .unset, .unset, .unset, .unset, .unset] at_3 rfl ?_
  rcases own_and3 i1 with e_nn | e_nn | e_nn | e_nn
  · rw [e_nn]
    refine g_iloadN C at_5 rfl ?_
    refine g_sipush C 255 at_6 rfl ?_
    refine g_iand C at_9 ?_
    refine g_i2c C at_10 ?_
    refine g_istore C #[.val (.int i1), .val (.int i2), .val (.int i3), .val (.int i4), .val (.int (0 : Int32)), .val (.int ((i2 &&& (255 : Int32)).toUInt32.toUInt16.toUInt32.toInt32)), .unset, .unset, .unset, .unset, .unset] at_11 rfl ?_
    obtain ⟨ca, e_ca, h_ca⟩ : ∃ z : Int32, ((i2 &&& (255 : Int32)).toUInt32.toUInt16.toUInt32.toInt32) = z ∧ Ch8 z := ⟨_, rfl, ch8_i2c _⟩
    rw [e_ca]
    refine g_iloadN C at_13 rfl ?_
    refine g_sipush C 255 at_14 rfl ?_
    refine g_iand C at_17 ?_
    refine g_i2c C at_18 ?_
    refine g_istore C #[.val (.int i1), .val (.int i2), .val (.int i3), .val (.int i4), .val (.int (0 : Int32)), .val (.int ca), .val (.int ((i3 &&& (255 : Int32)).toUInt32.toUInt16.toUInt32.toInt32)), .unset, .unset, .unset, .unset] at_19 rfl ?_
    obtain ⟨cb, e_cb, h_cb⟩ : ∃ z : Int32, ((i3 &&& (255 : Int32)).toUInt32.toUInt16.toUInt32.toInt32) = z ∧ Ch8 z := ⟨_, rfl, ch8_i2c _⟩
    rw [e_cb]
    refine g_iloadN C at_21 rfl ?_
    refine g_sipush C 255 at_22 rfl ?_
    refine g_iand C at_25 ?_
    refine g_i2c C at_26 ?_
    refine g_istore C #[.val (.int i1), .val (.int i2), .val (.int i3), .val (.int i4), .val (.int (0 : Int32)), .val (.int ca), .val (.int cb), .val (.int ((i4 &&& (255 : Int32)).toUInt32.toUInt16.toUInt32.toInt32)), .unset, .unset, .unset] at_27 rfl ?_
    obtain ⟨cd, e_cd, h_cd⟩ : ∃ z : Int32, ((i4 &&& (255 : Int32)).toUInt32.toUInt16.toUInt32.toInt32) = z ∧ Ch8 z := ⟨_, rfl, ch8_i2c _⟩
    rw [e_cd]
    refine g_iload C at_29 rfl ?_
    refine g_if_f C at_31 (XT.i0_ne_f (by decide)) ?_
    refine g_newU C w_0 w_1 w_2 at_34 (by decide) (by decide) ?_
    intro b318 h318 g318 E318 A318 U318 D318
    refine g_dup C at_37 rfl ?_
    refine g_iconst C 0 at_38 rfl ?_
    refine g_newarray C (aty := .char) w_3 at_39 (by decide) 0 (by decide) (by decide) (by decide) (by decide) "[C" rfl ?_
    intro b319 h319 ka319 g319 E319 V319 A319
    replace V319 : Arv Z h319 b319 ka319 .char (0 : Int32) [] (.int (0 : Int32)) := V319.pad (pad_rep [] _ 0)
    have K320 : Keep h318 h319 [] := (Keep.refl h318 []).ext E319
    have E321 := (A318.keep K320)
    have F322 := ((D318 (Or.inr (C.hw w_16)) (ty := (.array .byte)) (by decide)).keep K320 nin0)
    have F323 := ((D318 (Or.inr (C.hw w_17)) (ty := .byte) (by decide)).keep K320 nin0)
    refine g_special C (a := b318) w_4 w_5 w_6 rfl (by decide) [(.ref b319)] (ct_of hEL hw w_6 w_2 (rm_S1e l Z a0 hw hEL b318 b319 ka319 h319 n0 E321 F322 F323 V319)) (allS (List.mem_of_getElem? (i := 1) rfl) all0) (by decide) 1 (by decide) rfl pd___C_V rfl [(.ref b318)] rfl (Nat.le_of_eq rfl) at_41 (by decide) (by decide) ?_
    intro v324 h324 Q324
    obtain ⟨rfl, KC324, t324, kb324, tx324, S324⟩ := Q324
    refine g_astore C #[.val (.int i1), .val (.int i2), .val (.int i3), .val (.int i4), .val (.int (0 : Int32)), .val (.int ca), .val (.int cb), .val (.int cd), .val (.ref b318), .unset, .unset] at_44 rfl rfl ?_
    refine g_goto C 123 at_46 (by decide) (by decide) ?_
    refine g_aload C at_123 rfl rfl ?_
    have K325 : Keep h0 h318 [] := (Keep.refl h0 []).ext E318
    have K326 : Keep h0 h319 [] := K325.ext E319
    have K327 : Keep h0 h324 [] := K326.trans KC324 (allS (Or.inr (Nat.le_of_eq g318.symm)) all0)
    have TH328 := (ThS.keep K327 (fun _ q => nomatch q) hT)
    refine g_staticK C hTK hBelow w_22 w_23 w_24 w_25 (by decide) [(.ref b318)] (ct_ofK hEL hw w_25 w_24 (rm_miss l Z a0 hw hEL b318 t324 us ss _ [] zc h324 n0 S324 (Nat.le_of_ble_eq_true rfl) (Sta_keep Sus K327) (Sta_keep Sss K327) TH328 hst (Sta_keep Szc K327) hzc)) all0 (by decide) 0 (by decide) rfl pd__Ljava_lang_String__Lcom_example_shapewalk_shapewalk_cli_UsageException_ rfl [] rfl (Nat.le_of_eq rfl) at_125 (by decide) (by decide) ?_
    intro v329 h329 ns329 Q329
    obtain ⟨rfl, a329, g329, t329, k329, rfl, KC329, X329, D329, S329⟩ := Q329
    replace S329 : Str Z h329 g329 t329 k329 [32, 105, 115, 32, 114, 101, 113, 117, 105, 114, 101, 100] := S329
    refine g_astore C #[.val (.int i1), .val (.int i2), .val (.int i3), .val (.int i4), .val (.int (0 : Int32)), .val (.int ca), .val (.int cb), .val (.int cd), .val (.ref b318), .val (.ref a329), .unset] at_128 rfl rfl ?_
    refine g_aload C at_130 rfl rfl ?_
    refine g_ifnonnull_t C 137 at_132 (by decide) (by decide) ?_
    refine g_aload C at_137 rfl rfl ?_
    refine g_virtualUp C (y := (⟨"com/example/shapewalk/shapewalk/cli/UsageException", "getMessage", "()Ljava/lang/String;"⟩ : MethodName)) X329 w_192 w_193 w_194 (by decide) w_196 w_195 [] (ct_of hEL hw w_197 w_153 (rm_gm l Z a0 hw hEL a329 g329 h329 n0 D329)) all0 (by decide) 0 (by decide) rfl pd___Ljava_lang_String_ rfl [] rfl (Nat.le_of_eq rfl) at_139 (by decide) (by decide) ?_
    intro v330 h330 Q330
    obtain ⟨rfl, e330⟩ := Q330
    replace e330 := e330.symm
    subst e330
    refine g_astore C #[.val (.int i1), .val (.int i2), .val (.int i3), .val (.int i4), .val (.int (0 : Int32)), .val (.int ca), .val (.int cb), .val (.int cd), .val (.ref b318), .val (.ref a329), .val (.ref g329)] at_142 rfl rfl ?_
    refine g_aload C at_144 rfl rfl ?_
    refine g_ifnull_f C at_146 ?_
    refine g_aload C at_149 rfl rfl ?_
    have K331 : Keep h0 h329 [] := K327.trans KC329 all0
    refine g_virtual C S329.1 w_198 w_58 (fun hZ => nf_sel hw w_60 hZ) w_60 w_59 (by decide) [] (ct_len hEL hw S329 (Sta_keep Szc K331) hzc) all0 (by decide) 0 (by decide) rfl pd___I rfl [] rfl (Nat.le_of_eq rfl) at_151 (by decide) (by decide) ?_
    intro v332 h332 Q332
    obtain ⟨ev332, e332⟩ := Q332
    replace e332 := e332.symm
    subst e332
    replace ev332 : v332 = some (.int (12 : Int32)) := ev332
    subst ev332
    refine g_iload C at_154 rfl ?_
    refine g_bipush C 12 at_156 rfl ?_
    refine g_iadd C at_158 ?_
    rw [show ((0 : Int32) + (12 : Int32)) = (12 : Int32) from by decide]
    refine g_icmp_t C 164 at_159 (XT.ii_eq_t (by decide)) (by decide) (by decide) ?_
    refine g_iload C at_164 rfl ?_
    refine g_iconst C 1 at_166 rfl ?_
    refine g_icmp_t C 183 at_167 (XT.ii_lt_t (by decide)) (by decide) (by decide) ?_
    refine g_iload C at_183 rfl ?_
    refine g_iconst C 2 at_185 rfl ?_
    refine g_icmp_t C 202 at_186 (XT.ii_lt_t (by decide)) (by decide) (by decide) ?_
    refine g_iload C at_202 rfl ?_
    refine g_iconst C 3 at_204 rfl ?_
    refine g_icmp_t C 221 at_205 (XT.ii_lt_t (by decide)) (by decide) (by decide) ?_
    refine g_aload C at_221 rfl rfl ?_
    refine g_iload C at_223 rfl ?_
    refine g_static C w_199 w_200 w_201 w_202 (by decide) [(.ref g329), (.int (0 : Int32))] (ct_of hEL hw w_202 w_201 (rm_suf0 l Z a0 hw hEL g329 t329 _  zc fm h329 n0 S329 (Sta_keep Szc K331) hzc (Sta_keep Sfm K331) hfm)) all0 (by decide) 0 (by decide) rfl pd__Ljava_lang_String_I_Z rfl [] rfl (Nat.le_of_eq rfl) at_225 (by decide) (by decide) ?_
    intro v333 h333 Q333
    obtain ⟨rfl, e333⟩ := Q333
    replace e333 := e333.symm
    subst e333
    refine g_ireturnN C hEL (t := .boolean) rfl (by simp) at_228 (by decide) (by decide) ?_
    exact rfl
  · rw [e_nn]
    refine g_iloadN C at_5 rfl ?_
    refine g_sipush C 255 at_6 rfl ?_
    refine g_iand C at_9 ?_
    refine g_i2c C at_10 ?_
    refine g_istore C #[.val (.int i1), .val (.int i2), .val (.int i3), .val (.int i4), .val (.int (1 : Int32)), .val (.int ((i2 &&& (255 : Int32)).toUInt32.toUInt16.toUInt32.toInt32)), .unset, .unset, .unset, .unset, .unset] at_11 rfl ?_
    obtain ⟨ca, e_ca, h_ca⟩ : ∃ z : Int32, ((i2 &&& (255 : Int32)).toUInt32.toUInt16.toUInt32.toInt32) = z ∧ Ch8 z := ⟨_, rfl, ch8_i2c _⟩
    rw [e_ca]
    refine g_iloadN C at_13 rfl ?_
    refine g_sipush C 255 at_14 rfl ?_
    refine g_iand C at_17 ?_
    refine g_i2c C at_18 ?_
    refine g_istore C #[.val (.int i1), .val (.int i2), .val (.int i3), .val (.int i4), .val (.int (1 : Int32)), .val (.int ca), .val (.int ((i3 &&& (255 : Int32)).toUInt32.toUInt16.toUInt32.toInt32)), .unset, .unset, .unset, .unset] at_19 rfl ?_
    obtain ⟨cb, e_cb, h_cb⟩ : ∃ z : Int32, ((i3 &&& (255 : Int32)).toUInt32.toUInt16.toUInt32.toInt32) = z ∧ Ch8 z := ⟨_, rfl, ch8_i2c _⟩
    rw [e_cb]
    refine g_iloadN C at_21 rfl ?_
    refine g_sipush C 255 at_22 rfl ?_
    refine g_iand C at_25 ?_
    refine g_i2c C at_26 ?_
    refine g_istore C #[.val (.int i1), .val (.int i2), .val (.int i3), .val (.int i4), .val (.int (1 : Int32)), .val (.int ca), .val (.int cb), .val (.int ((i4 &&& (255 : Int32)).toUInt32.toUInt16.toUInt32.toInt32)), .unset, .unset, .unset] at_27 rfl ?_
    obtain ⟨cd, e_cd, h_cd⟩ : ∃ z : Int32, ((i4 &&& (255 : Int32)).toUInt32.toUInt16.toUInt32.toInt32) = z ∧ Ch8 z := ⟨_, rfl, ch8_i2c _⟩
    rw [e_cd]
    refine g_iload C at_29 rfl ?_
    refine g_if_t C 49 at_31 (XT.i0_ne_t (by decide)) (by decide) (by decide) ?_
    refine g_iload C at_49 rfl ?_
    refine g_iconst C 1 at_51 rfl ?_
    refine g_icmp_f C at_52 (XT.ii_ne_f (by decide)) ?_
    refine g_iload C at_55 rfl ?_
    refine g_static C w_235 w_236 w_2 w_237 (by decide) [(.int ca)] (ct_of hEL hw w_237 w_2 (rm_vo l Z a0 hw hEL ca zc h0 n0 h_ca Szc hzc)) all0 (by decide) 0 (by decide) rfl pd__C_Ljava_lang_String_ rfl [] rfl (Nat.le_of_eq rfl) at_57 (by decide) (by decide) ?_
    intro v334 h334 Q334
    obtain ⟨a334, t334, k334, rfl, KC334, le334, lt334, S334⟩ := Q334
    refine g_astore C #[.val (.int i1), .val (.int i2), .val (.int i3), .val (.int i4), .val (.int (1 : Int32)), .val (.int ca), .val (.int cb), .val (.int cd), .val (.ref a334), .unset, .unset] at_60 rfl rfl ?_
    refine g_goto C 123 at_62 (by decide) (by decide) ?_
    refine g_aload C at_123 rfl rfl ?_
    have K335 : Keep h0 h334 [] := (Keep.refl h0 []).trans KC334 all0
    have TH336 := (ThS.keep K335 (fun _ q => nomatch q) hT)
    refine g_staticK C hTK hBelow w_22 w_23 w_24 w_25 (by decide) [(.ref a334)] (ct_ofK hEL hw w_25 w_24 (rm_miss l Z a0 hw hEL a334 t334 us ss _ [ca] zc h334 n0 S334 (Nat.le_of_ble_eq_true rfl) (Sta_keep Sus K335) (Sta_keep Sss K335) TH336 hst (Sta_keep Szc K335) hzc)) all0 (by decide) 0 (by decide) rfl pd__Ljava_lang_String__Lcom_example_shapewalk_shapewalk_cli_UsageException_ rfl [] rfl (Nat.le_of_eq rfl) at_125 (by decide) (by decide) ?_
    intro v337 h337 ns337 Q337
    obtain ⟨rfl, a337, g337, t337, k337, rfl, KC337, X337, D337, S337⟩ := Q337
    replace S337 : Str Z h337 g337 t337 k337 [ca, 32, 105, 115, 32, 114, 101, 113, 117, 105, 114, 101, 100] := S337
    refine g_astore C #[.val (.int i1), .val (.int i2), .val (.int i3), .val (.int i4), .val (.int (1 : Int32)), .val (.int ca), .val (.int cb), .val (.int cd), .val (.ref a334), .val (.ref a337), .unset] at_128 rfl rfl ?_
    refine g_aload C at_130 rfl rfl ?_
    refine g_ifnonnull_t C 137 at_132 (by decide) (by decide) ?_
    refine g_aload C at_137 rfl rfl ?_
    refine g_virtualUp C (y := (⟨"com/example/shapewalk/shapewalk/cli/UsageException", "getMessage", "()Ljava/lang/String;"⟩ : MethodName)) X337 w_192 w_193 w_194 (by decide) w_196 w_195 [] (ct_of hEL hw w_197 w_153 (rm_gm l Z a0 hw hEL a337 g337 h337 n0 D337)) all0 (by decide) 0 (by decide) rfl pd___Ljava_lang_String_ rfl [] rfl (Nat.le_of_eq rfl) at_139 (by decide) (by decide) ?_
    intro v338 h338 Q338
    obtain ⟨rfl, e338⟩ := Q338
    replace e338 := e338.symm
    subst e338
    refine g_astore C #[.val (.int i1), .val (.int i2), .val (.int i3), .val (.int i4), .val (.int (1 : Int32)), .val (.int ca), .val (.int cb), .val (.int cd), .val (.ref a334), .val (.ref a337), .val (.ref g337)] at_142 rfl rfl ?_
    refine g_aload C at_144 rfl rfl ?_
    refine g_ifnull_f C at_146 ?_
    refine g_aload C at_149 rfl rfl ?_
    have K339 : Keep h0 h337 [] := K335.trans KC337 all0
    refine g_virtual C S337.1 w_198 w_58 (fun hZ => nf_sel hw w_60 hZ) w_60 w_59 (by decide) [] (ct_len hEL hw S337 (Sta_keep Szc K339) hzc) all0 (by decide) 0 (by decide) rfl pd___I rfl [] rfl (Nat.le_of_eq rfl) at_151 (by decide) (by decide) ?_
    intro v340 h340 Q340
    obtain ⟨ev340, e340⟩ := Q340
    replace e340 := e340.symm
    subst e340
    replace ev340 : v340 = some (.int (13 : Int32)) := ev340
    subst ev340
    refine g_iload C at_154 rfl ?_
    refine g_bipush C 12 at_156 rfl ?_
    refine g_iadd C at_158 ?_
    rw [show ((1 : Int32) + (12 : Int32)) = (13 : Int32) from by decide]
    refine g_icmp_t C 164 at_159 (XT.ii_eq_t (by decide)) (by decide) (by decide) ?_
    refine g_iload C at_164 rfl ?_
    refine g_iconst C 1 at_166 rfl ?_
    refine g_icmp_f C at_167 (XT.ii_lt_f (by decide)) ?_
    refine g_aload C at_170 rfl rfl ?_
    refine g_iconst C 0 at_172 rfl ?_
    refine g_virtual C S337.1 w_203 w_204 (fun hZ => nf_sel hw w_206 hZ) w_206 w_205 (by decide) [(.int (0 : Int32))] (ct_ch hEL hw S337 (Sta_keep Szc K339) hzc (Sta_keep Sfm K339) hfm 0 (Nat.le_of_ble_eq_true rfl) (0 : Int32) rfl) all0 (by decide) 0 (by decide) rfl pd__I_C rfl [] rfl (Nat.le_of_eq rfl) at_173 (by decide) (by decide) ?_
    intro v341 h341 Q341
    obtain ⟨ev341, e341⟩ := Q341
    replace e341 := e341.symm
    subst e341
    replace ev341 : v341 = some (.int ca) := ev341
    subst ev341
    refine g_iload C at_176 rfl ?_
    refine g_icmp_t C 183 at_178 (XT.ii_eq_t rfl) (by decide) (by decide) ?_
    refine g_iload C at_183 rfl ?_
    refine g_iconst C 2 at_185 rfl ?_
    refine g_icmp_t C 202 at_186 (XT.ii_lt_t (by decide)) (by decide) (by decide) ?_
    refine g_iload C at_202 rfl ?_
    refine g_iconst C 3 at_204 rfl ?_
    refine g_icmp_t C 221 at_205 (XT.ii_lt_t (by decide)) (by decide) (by decide) ?_
    refine g_aload C at_221 rfl rfl ?_
    refine g_iload C at_223 rfl ?_
    refine g_static C w_199 w_200 w_201 w_202 (by decide) [(.ref g337), (.int (1 : Int32))] (ct_of hEL hw w_202 w_201 (rm_suf1 l Z a0 hw hEL g337 t337 _ ca zc fm h337 n0 S337 (Sta_keep Szc K339) hzc (Sta_keep Sfm K339) hfm)) all0 (by decide) 0 (by decide) rfl pd__Ljava_lang_String_I_Z rfl [] rfl (Nat.le_of_eq rfl) at_225 (by decide) (by decide) ?_
    intro v342 h342 Q342
    obtain ⟨rfl, e342⟩ := Q342
    replace e342 := e342.symm
    subst e342
    refine g_ireturnN C hEL (t := .boolean) rfl (by simp) at_228 (by decide) (by decide) ?_
    exact rfl
  · rw [e_nn]
    refine g_iloadN C at_5 rfl ?_
    refine g_sipush C 255 at_6 rfl ?_
    refine g_iand C at_9 ?_
    refine g_i2c C at_10 ?_
    refine g_istore C #[.val (.int i1), .val (.int i2), .val (.int i3), .val (.int i4), .val (.int (2 : Int32)), .val (.int ((i2 &&& (255 : Int32)).toUInt32.toUInt16.toUInt32.toInt32)), .unset, .unset, .unset, .unset, .unset] at_11 rfl ?_
    obtain ⟨ca, e_ca, h_ca⟩ : ∃ z : Int32, ((i2 &&& (255 : Int32)).toUInt32.toUInt16.toUInt32.toInt32) = z ∧ Ch8 z := ⟨_, rfl, ch8_i2c _⟩
    rw [e_ca]
    refine g_iloadN C at_13 rfl ?_
    refine g_sipush C 255 at_14 rfl ?_
    refine g_iand C at_17 ?_
    refine g_i2c C at_18 ?_
    refine g_istore C #[.val (.int i1), .val (.int i2), .val (.int i3), .val (.int i4), .val (.int (2 : Int32)), .val (.int ca), .val (.int ((i3 &&& (255 : Int32)).toUInt32.toUInt16.toUInt32.toInt32)), .unset, .unset, .unset, .unset] at_19 rfl ?_
    obtain ⟨cb, e_cb, h_cb⟩ : ∃ z : Int32, ((i3 &&& (255 : Int32)).toUInt32.toUInt16.toUInt32.toInt32) = z ∧ Ch8 z := ⟨_, rfl, ch8_i2c _⟩
    rw [e_cb]
    refine g_iloadN C at_21 rfl ?_
    refine g_sipush C 255 at_22 rfl ?_
    refine g_iand C at_25 ?_
    refine g_i2c C at_26 ?_
    refine g_istore C #[.val (.int i1), .val (.int i2), .val (.int i3), .val (.int i4), .val (.int (2 : Int32)), .val (.int ca), .val (.int cb), .val (.int ((i4 &&& (255 : Int32)).toUInt32.toUInt16.toUInt32.toInt32)), .unset, .unset, .unset] at_27 rfl ?_
    obtain ⟨cd, e_cd, h_cd⟩ : ∃ z : Int32, ((i4 &&& (255 : Int32)).toUInt32.toUInt16.toUInt32.toInt32) = z ∧ Ch8 z := ⟨_, rfl, ch8_i2c _⟩
    rw [e_cd]
    refine g_iload C at_29 rfl ?_
    refine g_if_t C 49 at_31 (XT.i0_ne_t (by decide)) (by decide) (by decide) ?_
    refine g_iload C at_49 rfl ?_
    refine g_iconst C 1 at_51 rfl ?_
    refine g_icmp_t C 65 at_52 (XT.ii_ne_t (by decide)) (by decide) (by decide) ?_
    refine g_iload C at_65 rfl ?_
    refine g_iconst C 2 at_67 rfl ?_
    refine g_icmp_f C at_68 (XT.ii_ne_f (by decide)) ?_
    refine g_newU C w_0 w_1 w_2 at_71 (by decide) (by decide) ?_
    intro b343 h343 g343 E343 A343 U343 D343
    refine g_dup C at_74 rfl ?_
    refine g_iconst C 2 at_75 rfl ?_
    refine g_newarray C (aty := .char) w_3 at_76 (by decide) 2 (by decide) (by decide) (by decide) (by decide) "[C" rfl ?_
    intro b344 h344 ka344 g344 E344 V344 A344
    replace V344 : Arv Z h344 b344 ka344 .char (2 : Int32) [(.int (0 : Int32)), (.int (0 : Int32))] (.int (0 : Int32)) := V344.pad (pad_rep [] _ 2)
    refine g_dup C at_78 rfl ?_
    refine g_iconst C 0 at_79 rfl ?_
    refine g_iload C at_80 rfl ?_
    refine g_castore C V344 (List.mem_of_getElem? (i := 0) rfl) at_82 ⟨by decide, by decide⟩ 0 rfl (Nat.le_of_ble_eq_true rfl) ?_
    intro h345 W345 V345
    rw [nar_ch8 h_ca] at V345
    replace V345 : Arv Z h345 b344 ka344 .char (2 : Int32) [(.int ca), (.int (0 : Int32))] (.int (0 : Int32)) := V345
    refine g_dup C at_83 rfl ?_
    refine g_iconst C 1 at_84 rfl ?_
    refine g_iload C at_85 rfl ?_
    refine g_castore C V345 (List.mem_of_getElem? (i := 0) rfl) at_87 ⟨by decide, by decide⟩ 1 rfl (Nat.le_of_ble_eq_true rfl) ?_
    intro h346 W346 V346
    rw [nar_ch8 h_cb] at V346
    replace V346 : Arv Z h346 b344 ka344 .char (2 : Int32) [(.int ca), (.int cb)] (.int (0 : Int32)) := V346
    have K347 : Keep h343 h344 [] := (Keep.refl h343 []).ext E344
    have K348 : Keep h343 h345 [] := K347.wr W345 (Or.inr (Nat.le_of_eq g344.symm))
    have K349 : Keep h343 h346 [] := K348.wr W346 (Or.inr (Nat.le_of_eq g344.symm))
    have E350 := (A343.keep K349)
    have F351 := ((D343 (Or.inr (C.hw w_16)) (ty := (.array .byte)) (by decide)).keep K349 nin0)
    have F352 := ((D343 (Or.inr (C.hw w_17)) (ty := .byte) (by decide)).keep K349 nin0)
    have K353 : Keep h0 h343 [] := (Keep.refl h0 []).ext E343
    have K354 : Keep h0 h344 [] := K353.ext E344
    have K355 : Keep h0 h345 [] := K354.wr W345 (Or.inr (Nat.le_trans K353.1 (Nat.le_of_eq g344.symm)))
    have K356 : Keep h0 h346 [] := K355.wr W346 (Or.inr (Nat.le_trans K353.1 (Nat.le_of_eq g344.symm)))
    refine g_special C (a := b343) w_4 w_5 w_6 rfl (by decide) [(.ref b344)] (ct_newS hEL hw (cs := [ca, cb]) (n := 2) E350 F351 F352 V346 (Sta_keep Szc K356) hzc rfl (by decide) (by decide) (own_allc h_ca (own_allc h_cb (fun _ q => nomatch q)))) (allS (List.mem_of_getElem? (i := 1) rfl) all0) (by decide) 1 (by decide) rfl pd___C_V rfl [(.ref b343)] rfl (Nat.le_of_eq rfl) at_88 (by decide) (by decide) ?_
    intro v357 h357 Q357
    obtain ⟨rfl, KC357, t357, kb357, ht357, htx357, S357⟩ := Q357
    refine g_astore C #[.val (.int i1), .val (.int i2), .val (.int i3), .val (.int i4), .val (.int (2 : Int32)), .val (.int ca), .val (.int cb), .val (.int cd), .val (.ref b343), .unset, .unset] at_91 rfl rfl ?_
    refine g_goto C 123 at_93 (by decide) (by decide) ?_
    refine g_aload C at_123 rfl rfl ?_
    have K358 : Keep h0 h357 [] := K356.trans KC357 (allS (Or.inr (Nat.le_of_eq g343.symm)) all0)
    have TH359 := (ThS.keep K358 (fun _ q => nomatch q) hT)
    refine g_staticK C hTK hBelow w_22 w_23 w_24 w_25 (by decide) [(.ref b343)] (ct_ofK hEL hw w_25 w_24 (rm_miss l Z a0 hw hEL b343 t357 us ss _ [ca, cb] zc h357 n0 S357 (Nat.le_of_ble_eq_true rfl) (Sta_keep Sus K358) (Sta_keep Sss K358) TH359 hst (Sta_keep Szc K358) hzc)) all0 (by decide) 0 (by decide) rfl pd__Ljava_lang_String__Lcom_example_shapewalk_shapewalk_cli_UsageException_ rfl [] rfl (Nat.le_of_eq rfl) at_125 (by decide) (by decide) ?_
    intro v360 h360 ns360 Q360
    obtain ⟨rfl, a360, g360, t360, k360, rfl, KC360, X360, D360, S360⟩ := Q360
    replace S360 : Str Z h360 g360 t360 k360 [ca, cb, 32, 105, 115, 32, 114, 101, 113, 117, 105, 114, 101, 100] := S360
    refine g_astore C #[.val (.int i1), .val (.int i2), .val (.int i3), .val (.int i4), .val (.int (2 : Int32)), .val (.int ca), .val (.int cb), .val (.int cd), .val (.ref b343), .val (.ref a360), .unset] at_128 rfl rfl ?_
    refine g_aload C at_130 rfl rfl ?_
    refine g_ifnonnull_t C 137 at_132 (by decide) (by decide) ?_
    refine g_aload C at_137 rfl rfl ?_
    refine g_virtualUp C (y := (⟨"com/example/shapewalk/shapewalk/cli/UsageException", "getMessage", "()Ljava/lang/String;"⟩ : MethodName)) X360 w_192 w_193 w_194 (by decide) w_196 w_195 [] (ct_of hEL hw w_197 w_153 (rm_gm l Z a0 hw hEL a360 g360 h360 n0 D360)) all0 (by decide) 0 (by decide) rfl pd___Ljava_lang_String_ rfl [] rfl (Nat.le_of_eq rfl) at_139 (by decide) (by decide) ?_
    intro v361 h361 Q361
    obtain ⟨rfl, e361⟩ := Q361
    replace e361 := e361.symm
    subst e361
    refine g_astore C #[.val (.int i1), .val (.int i2), .val (.int i3), .val (.int i4), .val (.int (2 : Int32)), .val (.int ca), .val (.int cb), .val (.int cd), .val (.ref b343), .val (.ref a360), .val (.ref g360)] at_142 rfl rfl ?_
    refine g_aload C at_144 rfl rfl ?_
    refine g_ifnull_f C at_146 ?_
    refine g_aload C at_149 rfl rfl ?_
    have K362 : Keep h0 h360 [] := K358.trans KC360 all0
    refine g_virtual C S360.1 w_198 w_58 (fun hZ => nf_sel hw w_60 hZ) w_60 w_59 (by decide) [] (ct_len hEL hw S360 (Sta_keep Szc K362) hzc) all0 (by decide) 0 (by decide) rfl pd___I rfl [] rfl (Nat.le_of_eq rfl) at_151 (by decide) (by decide) ?_
    intro v363 h363 Q363
    obtain ⟨ev363, e363⟩ := Q363
    replace e363 := e363.symm
    subst e363
    replace ev363 : v363 = some (.int (14 : Int32)) := ev363
    subst ev363
    refine g_iload C at_154 rfl ?_
    refine g_bipush C 12 at_156 rfl ?_
    refine g_iadd C at_158 ?_
    rw [show ((2 : Int32) + (12 : Int32)) = (14 : Int32) from by decide]
    refine g_icmp_t C 164 at_159 (XT.ii_eq_t (by decide)) (by decide) (by decide) ?_
    refine g_iload C at_164 rfl ?_
    refine g_iconst C 1 at_166 rfl ?_
    refine g_icmp_f C at_167 (XT.ii_lt_f (by decide)) ?_
    refine g_aload C at_170 rfl rfl ?_
    refine g_iconst C 0 at_172 rfl ?_
    refine g_virtual C S360.1 w_203 w_204 (fun hZ => nf_sel hw w_206 hZ) w_206 w_205 (by decide) [(.int (0 : Int32))] (ct_ch hEL hw S360 (Sta_keep Szc K362) hzc (Sta_keep Sfm K362) hfm 0 (Nat.le_of_ble_eq_true rfl) (0 : Int32) rfl) all0 (by decide) 0 (by decide) rfl pd__I_C rfl [] rfl (Nat.le_of_eq rfl) at_173 (by decide) (by decide) ?_
    intro v364 h364 Q364
    obtain ⟨ev364, e364⟩ := Q364
    replace e364 := e364.symm
    subst e364
    replace ev364 : v364 = some (.int ca) := ev364
    subst ev364
    refine g_iload C at_176 rfl ?_
    refine g_icmp_t C 183 at_178 (XT.ii_eq_t rfl) (by decide) (by decide) ?_
    refine g_iload C at_183 rfl ?_
    refine g_iconst C 2 at_185 rfl ?_
    refine g_icmp_f C at_186 (XT.ii_lt_f (by decide)) ?_
    refine g_aload C at_189 rfl rfl ?_
    refine g_iconst C 1 at_191 rfl ?_
    refine g_virtual C S360.1 w_203 w_204 (fun hZ => nf_sel hw w_206 hZ) w_206 w_205 (by decide) [(.int (1 : Int32))] (ct_ch hEL hw S360 (Sta_keep Szc K362) hzc (Sta_keep Sfm K362) hfm 1 (Nat.le_of_ble_eq_true rfl) (1 : Int32) rfl) all0 (by decide) 0 (by decide) rfl pd__I_C rfl [] rfl (Nat.le_of_eq rfl) at_192 (by decide) (by decide) ?_
    intro v365 h365 Q365
    obtain ⟨ev365, e365⟩ := Q365
    replace e365 := e365.symm
    subst e365
    replace ev365 : v365 = some (.int cb) := ev365
    subst ev365
    refine g_iload C at_195 rfl ?_
    refine g_icmp_t C 202 at_197 (XT.ii_eq_t rfl) (by decide) (by decide) ?_
    refine g_iload C at_202 rfl ?_
    refine g_iconst C 3 at_204 rfl ?_
    refine g_icmp_t C 221 at_205 (XT.ii_lt_t (by decide)) (by decide) (by decide) ?_
    refine g_aload C at_221 rfl rfl ?_
    refine g_iload C at_223 rfl ?_
    refine g_static C w_199 w_200 w_201 w_202 (by decide) [(.ref g360), (.int (2 : Int32))] (ct_of hEL hw w_202 w_201 (rm_suf2 l Z a0 hw hEL g360 t360 _ ca cb zc fm h360 n0 S360 (Sta_keep Szc K362) hzc (Sta_keep Sfm K362) hfm)) all0 (by decide) 0 (by decide) rfl pd__Ljava_lang_String_I_Z rfl [] rfl (Nat.le_of_eq rfl) at_225 (by decide) (by decide) ?_
    intro v366 h366 Q366
    obtain ⟨rfl, e366⟩ := Q366
    replace e366 := e366.symm
    subst e366
    refine g_ireturnN C hEL (t := .boolean) rfl (by simp) at_228 (by decide) (by decide) ?_
    exact rfl
  · rw [e_nn]
    refine g_iloadN C at_5 rfl ?_
    refine g_sipush C 255 at_6 rfl ?_
    refine g_iand C at_9 ?_
    refine g_i2c C at_10 ?_
    refine g_istore C #[.val (.int i1), .val (.int i2), .val (.int i3), .val (.int i4), .val (.int (3 : Int32)), .val (.int ((i2 &&& (255 : Int32)).toUInt32.toUInt16.toUInt32.toInt32)), .unset, .unset, .unset, .unset, .unset] at_11 rfl ?_
    obtain ⟨ca, e_ca, h_ca⟩ : ∃ z : Int32, ((i2 &&& (255 : Int32)).toUInt32.toUInt16.toUInt32.toInt32) = z ∧ Ch8 z := ⟨_, rfl, ch8_i2c _⟩
    rw [e_ca]
    refine g_iloadN C at_13 rfl ?_
    refine g_sipush C 255 at_14 rfl ?_
    refine g_iand C at_17 ?_
    refine g_i2c C at_18 ?_
    refine g_istore C #[.val (.int i1), .val (.int i2), .val (.int i3), .val (.int i4), .val (.int (3 : Int32)), .val (.int ca), .val (.int ((i3 &&& (255 : Int32)).toUInt32.toUInt16.toUInt32.toInt32)), .unset, .unset, .unset, .unset] at_19 rfl ?_
    obtain ⟨cb, e_cb, h_cb⟩ : ∃ z : Int32, ((i3 &&& (255 : Int32)).toUInt32.toUInt16.toUInt32.toInt32) = z ∧ Ch8 z := ⟨_, rfl, ch8_i2c _⟩
    rw [e_cb]
    refine g_iloadN C at_21 rfl ?_
    refine g_sipush C 255 at_22 rfl ?_
    refine g_iand C at_25 ?_
    refine g_i2c C at_26 ?_
    refine g_istore C #[.val (.int i1), .val (.int i2), .val (.int i3), .val (.int i4), .val (.int (3 : Int32)), .val (.int ca), .val (.int cb), .val (.int ((i4 &&& (255 : Int32)).toUInt32.toUInt16.toUInt32.toInt32)), .unset, .unset, .unset] at_27 rfl ?_
    obtain ⟨cd, e_cd, h_cd⟩ : ∃ z : Int32, ((i4 &&& (255 : Int32)).toUInt32.toUInt16.toUInt32.toInt32) = z ∧ Ch8 z := ⟨_, rfl, ch8_i2c _⟩
    rw [e_cd]
    refine g_iload C at_29 rfl ?_
    refine g_if_t C 49 at_31 (XT.i0_ne_t (by decide)) (by decide) (by decide) ?_
    refine g_iload C at_49 rfl ?_
    refine g_iconst C 1 at_51 rfl ?_
    refine g_icmp_t C 65 at_52 (XT.ii_ne_t (by decide)) (by decide) (by decide) ?_
    refine g_iload C at_65 rfl ?_
    refine g_iconst C 2 at_67 rfl ?_
    refine g_icmp_t C 96 at_68 (XT.ii_ne_t (by decide)) (by decide) (by decide) ?_
    refine g_newU C w_0 w_1 w_2 at_96 (by decide) (by decide) ?_
    intro b367 h367 g367 E367 A367 U367 D367
    refine g_dup C at_99 rfl ?_
    refine g_iconst C 3 at_100 rfl ?_
    refine g_newarray C (aty := .char) w_3 at_101 (by decide) 3 (by decide) (by decide) (by decide) (by decide) "[C" rfl ?_
    intro b368 h368 ka368 g368 E368 V368 A368
    replace V368 : Arv Z h368 b368 ka368 .char (3 : Int32) [(.int (0 : Int32)), (.int (0 : Int32)), (.int (0 : Int32))] (.int (0 : Int32)) := V368.pad (pad_rep [] _ 3)
    refine g_dup C at_103 rfl ?_
    refine g_iconst C 0 at_104 rfl ?_
    refine g_iload C at_105 rfl ?_
    refine g_castore C V368 (List.mem_of_getElem? (i := 0) rfl) at_107 ⟨by decide, by decide⟩ 0 rfl (Nat.le_of_ble_eq_true rfl) ?_
    intro h369 W369 V369
    rw [nar_ch8 h_ca] at V369
    replace V369 : Arv Z h369 b368 ka368 .char (3 : Int32) [(.int ca), (.int (0 : Int32)), (.int (0 : Int32))] (.int (0 : Int32)) := V369
    refine g_dup C at_108 rfl ?_
    refine g_iconst C 1 at_109 rfl ?_
    refine g_iload C at_110 rfl ?_
    refine g_castore C V369 (List.mem_of_getElem? (i := 0) rfl) at_112 ⟨by decide, by decide⟩ 1 rfl (Nat.le_of_ble_eq_true rfl) ?_
    intro h370 W370 V370
    rw [nar_ch8 h_cb] at V370
    replace V370 : Arv Z h370 b368 ka368 .char (3 : Int32) [(.int ca), (.int cb), (.int (0 : Int32))] (.int (0 : Int32)) := V370
    refine g_dup C at_113 rfl ?_
    refine g_iconst C 2 at_114 rfl ?_
    refine g_iload C at_115 rfl ?_
    refine g_castore C V370 (List.mem_of_getElem? (i := 0) rfl) at_117 ⟨by decide, by decide⟩ 2 rfl (Nat.le_of_ble_eq_true rfl) ?_
    intro h371 W371 V371
    rw [nar_ch8 h_cd] at V371
    replace V371 : Arv Z h371 b368 ka368 .char (3 : Int32) [(.int ca), (.int cb), (.int cd)] (.int (0 : Int32)) := V371
    have K372 : Keep h367 h368 [] := (Keep.refl h367 []).ext E368
    have K373 : Keep h367 h369 [] := K372.wr W369 (Or.inr (Nat.le_of_eq g368.symm))
    have K374 : Keep h367 h370 [] := K373.wr W370 (Or.inr (Nat.le_of_eq g368.symm))
    have K375 : Keep h367 h371 [] := K374.wr W371 (Or.inr (Nat.le_of_eq g368.symm))
    have E376 := (A367.keep K375)
    have F377 := ((D367 (Or.inr (C.hw w_16)) (ty := (.array .byte)) (by decide)).keep K375 nin0)
    have F378 := ((D367 (Or.inr (C.hw w_17)) (ty := .byte) (by decide)).keep K375 nin0)
    have K379 : Keep h0 h367 [] := (Keep.refl h0 []).ext E367
    have K380 : Keep h0 h368 [] := K379.ext E368
    have K381 : Keep h0 h369 [] := K380.wr W369 (Or.inr (Nat.le_trans K379.1 (Nat.le_of_eq g368.symm)))
    have K382 : Keep h0 h370 [] := K381.wr W370 (Or.inr (Nat.le_trans K379.1 (Nat.le_of_eq g368.symm)))
    have K383 : Keep h0 h371 [] := K382.wr W371 (Or.inr (Nat.le_trans K379.1 (Nat.le_of_eq g368.symm)))
    refine g_special C (a := b367) w_4 w_5 w_6 rfl (by decide) [(.ref b368)] (ct_newS hEL hw (cs := [ca, cb, cd]) (n := 3) E376 F377 F378 V371 (Sta_keep Szc K383) hzc rfl (by decide) (by decide) (own_allc h_ca (own_allc h_cb (own_allc h_cd (fun _ q => nomatch q))))) (allS (List.mem_of_getElem? (i := 1) rfl) all0) (by decide) 1 (by decide) rfl pd___C_V rfl [(.ref b367)] rfl (Nat.le_of_eq rfl) at_118 (by decide) (by decide) ?_
    intro v384 h384 Q384
    obtain ⟨rfl, KC384, t384, kb384, ht384, htx384, S384⟩ := Q384
    refine g_astore C #[.val (.int i1), .val (.int i2), .val (.int i3), .val (.int i4), .val (.int (3 : Int32)), .val (.int ca), .val (.int cb), .val (.int cd), .val (.ref b367), .unset, .unset] at_121 rfl rfl ?_
    refine g_aload C at_123 rfl rfl ?_
    have K385 : Keep h0 h384 [] := K383.trans KC384 (allS (Or.inr (Nat.le_of_eq g367.symm)) all0)
    have TH386 := (ThS.keep K385 (fun _ q => nomatch q) hT)
    refine g_staticK C hTK hBelow w_22 w_23 w_24 w_25 (by decide) [(.ref b367)] (ct_ofK hEL hw w_25 w_24 (rm_miss l Z a0 hw hEL b367 t384 us ss _ [ca, cb, cd] zc h384 n0 S384 (Nat.le_of_ble_eq_true rfl) (Sta_keep Sus K385) (Sta_keep Sss K385) TH386 hst (Sta_keep Szc K385) hzc)) all0 (by decide) 0 (by decide) rfl pd__Ljava_lang_String__Lcom_example_shapewalk_shapewalk_cli_UsageException_ rfl [] rfl (Nat.le_of_eq rfl) at_125 (by decide) (by decide) ?_
    intro v387 h387 ns387 Q387
    obtain ⟨rfl, a387, g387, t387, k387, rfl, KC387, X387, D387, S387⟩ := Q387
    replace S387 : Str Z h387 g387 t387 k387 [ca, cb, cd, 32, 105, 115, 32, 114, 101, 113, 117, 105, 114, 101, 100] := S387
    refine g_astore C #[.val (.int i1), .val (.int i2), .val (.int i3), .val (.int i4), .val (.int (3 : Int32)), .val (.int ca), .val (.int cb), .val (.int cd), .val (.ref b367), .val (.ref a387), .unset] at_128 rfl rfl ?_
    refine g_aload C at_130 rfl rfl ?_
    refine g_ifnonnull_t C 137 at_132 (by decide) (by decide) ?_
    refine g_aload C at_137 rfl rfl ?_
    refine g_virtualUp C (y := (⟨"com/example/shapewalk/shapewalk/cli/UsageException", "getMessage", "()Ljava/lang/String;"⟩ : MethodName)) X387 w_192 w_193 w_194 (by decide) w_196 w_195 [] (ct_of hEL hw w_197 w_153 (rm_gm l Z a0 hw hEL a387 g387 h387 n0 D387)) all0 (by decide) 0 (by decide) rfl pd___Ljava_lang_String_ rfl [] rfl (Nat.le_of_eq rfl) at_139 (by decide) (by decide) ?_
    intro v388 h388 Q388
    obtain ⟨rfl, e388⟩ := Q388
    replace e388 := e388.symm
    subst e388
    refine g_astore C #[.val (.int i1), .val (.int i2), .val (.int i3), .val (.int i4), .val (.int (3 : Int32)), .val (.int ca), .val (.int cb), .val (.int cd), .val (.ref b367), .val (.ref a387), .val (.ref g387)] at_142 rfl rfl ?_
    refine g_aload C at_144 rfl rfl ?_
    refine g_ifnull_f C at_146 ?_
    refine g_aload C at_149 rfl rfl ?_
    have K389 : Keep h0 h387 [] := K385.trans KC387 all0
    refine g_virtual C S387.1 w_198 w_58 (fun hZ => nf_sel hw w_60 hZ) w_60 w_59 (by decide) [] (ct_len hEL hw S387 (Sta_keep Szc K389) hzc) all0 (by decide) 0 (by decide) rfl pd___I rfl [] rfl (Nat.le_of_eq rfl) at_151 (by decide) (by decide) ?_
    intro v390 h390 Q390
    obtain ⟨ev390, e390⟩ := Q390
    replace e390 := e390.symm
    subst e390
    replace ev390 : v390 = some (.int (15 : Int32)) := ev390
    subst ev390
    refine g_iload C at_154 rfl ?_
    refine g_bipush C 12 at_156 rfl ?_
    refine g_iadd C at_158 ?_
    rw [show ((3 : Int32) + (12 : Int32)) = (15 : Int32) from by decide]
    refine g_icmp_t C 164 at_159 (XT.ii_eq_t (by decide)) (by decide) (by decide) ?_
    refine g_iload C at_164 rfl ?_
    refine g_iconst C 1 at_166 rfl ?_
    refine g_icmp_f C at_167 (XT.ii_lt_f (by decide)) ?_
    refine g_aload C at_170 rfl rfl ?_
    refine g_iconst C 0 at_172 rfl ?_
    refine g_virtual C S387.1 w_203 w_204 (fun hZ => nf_sel hw w_206 hZ) w_206 w_205 (by decide) [(.int (0 : Int32))] (ct_ch hEL hw S387 (Sta_keep Szc K389) hzc (Sta_keep Sfm K389) hfm 0 (Nat.le_of_ble_eq_true rfl) (0 : Int32) rfl) all0 (by decide) 0 (by decide) rfl pd__I_C rfl [] rfl (Nat.le_of_eq rfl) at_173 (by decide) (by decide) ?_
    intro v391 h391 Q391
    obtain ⟨ev391, e391⟩ := Q391
    replace e391 := e391.symm
    subst e391
    replace ev391 : v391 = some (.int ca) := ev391
    subst ev391
    refine g_iload C at_176 rfl ?_
    refine g_icmp_t C 183 at_178 (XT.ii_eq_t rfl) (by decide) (by decide) ?_
    refine g_iload C at_183 rfl ?_
    refine g_iconst C 2 at_185 rfl ?_
    refine g_icmp_f C at_186 (XT.ii_lt_f (by decide)) ?_
    refine g_aload C at_189 rfl rfl ?_
    refine g_iconst C 1 at_191 rfl ?_
    refine g_virtual C S387.1 w_203 w_204 (fun hZ => nf_sel hw w_206 hZ) w_206 w_205 (by decide) [(.int (1 : Int32))] (ct_ch hEL hw S387 (Sta_keep Szc K389) hzc (Sta_keep Sfm K389) hfm 1 (Nat.le_of_ble_eq_true rfl) (1 : Int32) rfl) all0 (by decide) 0 (by decide) rfl pd__I_C rfl [] rfl (Nat.le_of_eq rfl) at_192 (by decide) (by decide) ?_
    intro v392 h392 Q392
    obtain ⟨ev392, e392⟩ := Q392
    replace e392 := e392.symm
    subst e392
    replace ev392 : v392 = some (.int cb) := ev392
    subst ev392
    refine g_iload C at_195 rfl ?_
    refine g_icmp_t C 202 at_197 (XT.ii_eq_t rfl) (by decide) (by decide) ?_
    refine g_iload C at_202 rfl ?_
    refine g_iconst C 3 at_204 rfl ?_
    refine g_icmp_f C at_205 (XT.ii_lt_f (by decide)) ?_
    refine g_aload C at_208 rfl rfl ?_
    refine g_iconst C 2 at_210 rfl ?_
    refine g_virtual C S387.1 w_203 w_204 (fun hZ => nf_sel hw w_206 hZ) w_206 w_205 (by decide) [(.int (2 : Int32))] (ct_ch hEL hw S387 (Sta_keep Szc K389) hzc (Sta_keep Sfm K389) hfm 2 (Nat.le_of_ble_eq_true rfl) (2 : Int32) rfl) all0 (by decide) 0 (by decide) rfl pd__I_C rfl [] rfl (Nat.le_of_eq rfl) at_211 (by decide) (by decide) ?_
    intro v393 h393 Q393
    obtain ⟨ev393, e393⟩ := Q393
    replace e393 := e393.symm
    subst e393
    replace ev393 : v393 = some (.int cd) := ev393
    subst ev393
    refine g_iload C at_214 rfl ?_
    refine g_icmp_t C 221 at_216 (XT.ii_eq_t rfl) (by decide) (by decide) ?_
    refine g_aload C at_221 rfl rfl ?_
    refine g_iload C at_223 rfl ?_
    refine g_static C w_199 w_200 w_201 w_202 (by decide) [(.ref g387), (.int (3 : Int32))] (ct_of hEL hw w_202 w_201 (rm_suf3 l Z a0 hw hEL g387 t387 _ ca cb cd zc fm h387 n0 S387 (Sta_keep Szc K389) hzc (Sta_keep Sfm K389) hfm)) all0 (by decide) 0 (by decide) rfl pd__Ljava_lang_String_I_Z rfl [] rfl (Nat.le_of_eq rfl) at_225 (by decide) (by decide) ?_
    intro v394 h394 Q394
    obtain ⟨rfl, e394⟩ := Q394
    replace e394 := e394.symm
    subst e394
    refine g_ireturnN C hEL (t := .boolean) rfl (by simp) at_228 (by decide) (by decide) ?_
    exact rfl
set_option maxRecDepth 65536 in
set_option maxHeartbeats 40000000 in
theorem comes_1 {Post : Tables → Env → Array Value → State → Outcome → State → Prop} (hpost : ∀ tb e args s v u, (limb_1_1.after args s (.returned v) u = true ∧ limb_1_2.after args s (.returned v) u = true ∧ True) → ReturnedEndW s (.returned v) u (Jvm.fieldLocs frame_1_writes args s ++ Jvm.arrayLocs frame_1_arrays args s ++ Jvm.staticLocs frame_1_statics s) 32 7744 → Post tb e args s (.returned v) u) :
    ArmFor flags0 classFile x code maxLocals ret World_1 tables_1 room_1 Calls_1 rest_1 Pre_1 Post := by
  intro l hfl _ _ p e ha hc hk s m args below hf hA hF happ hP
  obtain ⟨hcalls, hrest, hpre⟩ := hP
  obtain ⟨-, -, -, hnamed, -, -, -, hat⟩ := (Spec.applies_iff hf).mp happ
  obtain ⟨hg, hn⟩ := and_e (Cond.before_iff.mp (show (Jvm.Cond.and given_1 narrow_1).before args s = true from hpre))
  obtain ⟨hcount, ga0⟩ := and_e hg
  obtain ⟨gv0, ga1⟩ := and_e ga0
  obtain ⟨gv1, ga2⟩ := and_e ga1
  obtain ⟨gv2, ga3⟩ := and_e ga2
  obtain ⟨w0, w1, w2, w3, rfl⟩ : ∃ w0 w1 w2 w3 : Value, args = #[w0, w1, w2, w3] := by
    have hs : args.size = 4 := by simpa [Cond.value, given_1] using hcount
    obtain ⟨L⟩ := args
    match L, hs with
    | [w0, w1, w2, w3], _ => exact ⟨w0, w1, w2, w3, rfl⟩
  have hw := fun d (hd : d ∈ tables_1) => atoms_spec (ws := Jvm.Cond.code x code maxLocals ret :: tables_1) hat d (List.mem_cons_of_mem _ hd)
  have hfit : Fit s := fun {y c} hc i hi => by
    obtain ⟨ha, rfl⟩ := Array.getElem?_eq_some_iff.mp hc
    have q := List.all_eq_true.mp ((Array.all_eq_true_iff_forall_mem.mp hF) _ (Array.getElem_mem ha)) i (List.mem_range.mpr hi)
    simpa [Array.getElem?_eq_getElem hi] using q
  obtain ⟨hsets, hown0⟩ := atoms_of _ (rest_1_c_eq ▸ (show rest_1_c.before _ s = true from hrest))
  obtain ⟨i0, ei0⟩ := is_v gv0
  obtain rfl : w0 = (.int i0) := Option.some.inj ei0
  obtain ⟨i1, ei1⟩ := is_v gv1
  obtain rfl : w1 = (.int i1) := Option.some.inj ei1
  obtain ⟨i2, ei2⟩ := is_v gv2
  obtain rfl : w2 = (.int i2) := Option.some.inj ei2
  obtain ⟨i3, ei3⟩ := is_v ga3
  obtain rfl : w3 = (.int i3) := Option.some.inj ei3
  have hEL : EW s _ consts_1 := (EW.cons (hw _ w_95) (by decide +kernel) (EW.cons (hw _ w_14) (by decide +kernel) EW.nil))
  have hCH : CHv s consts_1 s.vm s.heap := CHv.start hEL (fun p hp => hcalls.2.2.1 p hp) (hsets _ (List.mem_of_getElem? (i := 2) rfl)) (hw _ w_15) (hw _ w_1)
  have n5 := not_v (Cond.before_iff.mp (hsets _ (List.mem_of_getElem? (i := 2) rfl)))
  obtain ⟨zc, ezc⟩ := is_v (Cond.before_iff.mp (hsets _ (List.mem_of_getElem? (i := 1) rfl)))
  have Szc : Sta s s.heap "java/lang/String" "COMPACT_STRINGS" "Z" (.int zc) := Sta.start ezc (Or.inl (hsets _ (List.mem_of_getElem? (i := 0) rfl)))
  have hzc : ¬ (zc = (0 : Int32)) := gotF (Cond.eq_ints ezc (Term.int_eval (0))) n5
  obtain ⟨fm, efm, hfm⟩ := isR_v (Cond.before_iff.mp (hsets _ (List.mem_of_getElem? (i := 8) rfl)))
  have Sfm := Sta.start efm (Or.inl (hsets _ (List.mem_of_getElem? (i := 7) rfl)))
  have hst : l.stackTraces = true := by
    show (!l.flags.contains noTraceFlag) = true
    rw [hfl]
    first | decide | decide +kernel | rfl
  obtain ⟨us, eus⟩ := arr_v (Cond.before_iff.mp (hsets _ (List.mem_of_getElem? (i := 17) rfl)))
  have Sus := Sta.start eus (Or.inl (hsets _ (List.mem_of_getElem? (i := 15) rfl)))
  obtain ⟨ss, ess⟩ := exa_v (Cond.before_iff.mp (hsets _ (List.mem_of_getElem? (i := 22) rfl)))
  have Sss := Sta.start ess (Or.inl (hsets _ (List.mem_of_getElem? (i := 20) rfl)))
  obtain ⟨n, o, h1, h2, h3, _, L, ns, rfl, ⟨⟨rfl, rfl⟩, N⟩, -, -, hq⟩ := rm_law l s _ hw hEL (ws := tables_1) i0 i1 i2 i3 zc us ss fm s.heap s.heap.size Szc hzc Sfm hfm Sus Sss ThS.start hst (Nat.le_refl _) all0 p e ha hc hk s m _ below hf ((Spec.applies_iff_loose hf).mp happ).1 ⟨rfl, State.Warmed39.refl s, rfl, hCH, all0⟩ ⟨MethodsKnown_of_tablesKnown hcalls.2.1, FramesKnown_of_framesKnown hcalls.1 hf⟩
  refine ⟨n, _, h1, h2, h3, hpost _ _ _ _ _ _ ⟨Cond.after_iff.mpr rfl, Cond.after_iff.mpr (eq_i res_at (Term.int_eval (1)) rfl), trivial⟩ ⟨hq.1, hq.2.1, hq.2.2.1, (hq.2.2.2.sift fun y hy => Or.inr (N y hy)).mono (by decide) (by decide)⟩⟩
theorem main_1_1 : Claimed_1_1 := comes_1 fun _ _ _ _ _ _ h hF => ⟨h.1, hF⟩
theorem main_1_2 : Claimed_1_2 := comes_1 fun _ _ _ _ _ _ h hF => ⟨h.2.1, hF⟩

end Jvm.Pilot.@@N@@
namespace Jvm.Pilot.@@N@@
open Jvm Jvm.ClassFile Sem Op Lib Jvm.Free Jvm.Stand Jvm.Pilot.@@N@@.Jvm.D
/-! MADE BY PROGRAM (witnessworld.py) out of the Statement's table words and the real class files: 42 classes; the members and pool entries that the words name. The judged class is class 1, her method 1. -/
namespace start1
open Jvm.ClassFile
def u (s : String) : CpInfo := .utf8 (stringToUtf16 s)
/-- a pool by its gaps: so many unusable entries, then the entry; so many at the end -/
def gap : Nat → List CpInfo → List CpInfo
  | 0, r => r
  | n + 1, r => .unusable :: gap n r
def poolList (es : List (Nat × CpInfo)) (last : Nat) : List CpInfo := es.foldr (fun e r => gap e.1 (e.2 :: r)) (gap last [])
def pool (es : List (Nat × CpInfo)) (last : Nat) : Array CpInfo := ⟨poolList es last⟩
def fileOf (pool : Array CpInfo) (this : Nat) (attrs : Array Attribute := #[]) (ms : Array MethodInfo := #[]) (fl : Nat := 33) (sup : Nat := 0) (ifs : Array Nat := #[]) (fds : Array FieldInfo := #[]) : ClassFile where
  minorVersion := 0
  majorVersion := 65
  constantPool := pool
  accessFlags := fl
  thisClass := this
  superClass := sup
  interfaces := ifs
  fields := fds
  methods := ms
  attributes := attrs
def plain (name : String) (sup : Option ClassId) : Class where
  name := name
  kind := .ordinary
  loader := none
  accessFlags := 33
  super := sup
  interfaces := #[]
  cf := none
  fields := #[]
  methods := #[]
  instanceTypes := #[]
  staticTypes := #[]
  resolved := #[]
  callSites := []
  init := .initialized
  statics := none
  mirror := none

def pool0 : Array CpInfo := pool [(5, u "<init>"), (0, u "()V"), (1, .class_ 10), (1, u "java/lang/Object")] 113

def k0c0 : Code := { maxStack := 0, maxLocals := 1, code := object_method_1_code, exceptionTable := #[], attributes := #[] }
def k0m0 : Method := { name := "<init>", desc := "()V", sig := { parameters := [], returnType := none }, accessFlags := 1, code := some k0c0 }
/-- java/lang/Object -/
def k0 : Class := { plain "java/lang/Object" none with
  accessFlags := 33
  interfaces := #[]
  cf := some (fileOf pool0 8 #[] #[{ accessFlags := 1, nameIndex := 5, descriptorIndex := 6, attributes := #[] }] 33 0 #[] #[])
  fields := #[]
  methods := #[k0m0]
  instanceTypes := #[]
  staticTypes := #[]
  resolved := Array.replicate 124 none
  statics := none }

def pool1 : Array CpInfo := pool [(2, .class_ 4), (1, u "java/lang/Object"), (0, u "<init>"), (0, u "()V"), (0, .class_ 8), (0, u "java/lang/String"), (0, .methodref 7 10), (0, .nameAndType 5 11), (0, u "([C)V"), (0, .methodref 7 13), (0, .nameAndType 14 15), (0, u "valueOf"), (0, u "(C)Ljava/lang/String;"), (0, .methodref 17 18), (0, .class_ 19), (0, .nameAndType 20 21), (0, u "com/example/shapewalk/shapewalk/cli/Options"), (0, u "missing"), (0, u "(Ljava/lang/String;)Lcom/example/shapewalk/shapewalk/cli/UsageException;"), (0, .methodref 23 24), (0, .class_ 25), (0, .nameAndType 26 27), (0, u "com/example/shapewalk/shapewalk/cli/UsageException"), (0, u "getMessage"), (0, u "()Ljava/lang/String;"), (0, .methodref 7 29), (0, .nameAndType 30 31), (0, u "length"), (0, u "()I"), (0, .methodref 7 33), (0, .nameAndType 34 35), (0, u "charAt"), (0, u "(I)C"), (0, .methodref 37 38), (0, .class_ 39), (0, .nameAndType 40 41), (0, u "com/example/shapewalk/shapewalk/cli/OptionsMissingPinLaw"), (0, u "suffix"), (0, u "(Ljava/lang/String;I)Z"), (2, u "law"), (0, u "(IIII)Z")] 3

def k1m0 : Method := { name := "<init>", desc := "()V", sig := { parameters := [], returnType := none }, accessFlags := 1, code := none }
def k1c1 : Code := { maxStack := 6, maxLocals := 11, code := code, exceptionTable := #[], attributes := #[] }
def k1m1 : Method := { name := "law", desc := "(IIII)Z", sig := { parameters := [.int, .int, .int, .int], returnType := some .boolean }, accessFlags := 9, code := some k1c1 }
def k1c2 : Code := { maxStack := 3, maxLocals := 2, code := method_3_code, exceptionTable := #[], attributes := #[] }
def k1m2 : Method := { name := "suffix", desc := "(Ljava/lang/String;I)Z", sig := { parameters := [(.object "java/lang/String"), .int], returnType := some .boolean }, accessFlags := 10, code := some k1c2 }
/-- com/example/shapewalk/shapewalk/cli/OptionsMissingPinLaw -/
def k1 : Class := { plain "com/example/shapewalk/shapewalk/cli/OptionsMissingPinLaw" (some 0) with
  accessFlags := 49
  interfaces := #[]
  cf := some (fileOf pool1 37 #[] #[{ accessFlags := 1, nameIndex := 5, descriptorIndex := 6, attributes := #[] }, { accessFlags := 9, nameIndex := 44, descriptorIndex := 45, attributes := #[] }, { accessFlags := 10, nameIndex := 40, descriptorIndex := 41, attributes := #[] }] 49 2 #[] #[])
  fields := #[]
  methods := #[k1m0, k1m1, k1m2]
  instanceTypes := #[]
  staticTypes := #[]
  resolved := Array.replicate 49 none
  statics := none }

def pool2 : Array CpInfo := pool [(1, .class_ 2), (0, u "java/io/Serializable"), (0, .class_ 4), (0, u "java/lang/Object")] 2

/-- java/io/Serializable -/
def k2 : Class := { plain "java/io/Serializable" (some 0) with
  accessFlags := 1537
  interfaces := #[]
  cf := some (fileOf pool2 1 #[] #[] 1537 3 #[] #[])
  fields := #[]
  methods := #[]
  instanceTypes := #[]
  staticTypes := #[]
  resolved := Array.replicate 7 none
  statics := none }

def pool3 : Array CpInfo := pool [(1, .class_ 2), (0, u "java/lang/Comparable"), (0, .class_ 4), (0, u "java/lang/Object")] 7

/-- java/lang/Comparable -/
def k3 : Class := { plain "java/lang/Comparable" (some 0) with
  accessFlags := 1537
  interfaces := #[]
  cf := some (fileOf pool3 1 #[] #[] 1537 3 #[] #[])
  fields := #[]
  methods := #[]
  instanceTypes := #[]
  staticTypes := #[]
  resolved := Array.replicate 12 none
  statics := none }

def pool4 : Array CpInfo := pool [(2, .class_ 4), (1, u "java/lang/CharSequence"), (42, .class_ 48), (0, u "java/lang/CharSequence$1CodePointIterator"), (10, .class_ 60), (0, u "java/lang/CharSequence$1CharIterator"), (5, .class_ 67), (0, u "java/lang/Object")] 63

/-- java/lang/CharSequence -/
def k4 : Class := { plain "java/lang/CharSequence" (some 0) with
  accessFlags := 1537
  interfaces := #[]
  cf := some (fileOf pool4 2 #[.nestMembers #[47, 59]] #[] 1537 66 #[] #[])
  fields := #[]
  methods := #[]
  instanceTypes := #[]
  staticTypes := #[]
  resolved := Array.replicate 131 none
  statics := none }

def pool5 : Array CpInfo := pool [(1, .class_ 2), (0, u "java/lang/constant/Constable"), (0, .class_ 4), (0, u "java/lang/Object")] 6

/-- java/lang/constant/Constable -/
def k5 : Class := { plain "java/lang/constant/Constable" (some 0) with
  accessFlags := 1537
  interfaces := #[]
  cf := some (fileOf pool5 1 #[] #[] 1537 3 #[] #[])
  fields := #[]
  methods := #[]
  instanceTypes := #[]
  staticTypes := #[]
  resolved := Array.replicate 11 none
  statics := none }

def pool6 : Array CpInfo := pool [(1, .class_ 2), (0, u "java/lang/constant/ConstantDesc"), (0, .class_ 4), (0, u "java/lang/Object")] 32

/-- java/lang/constant/ConstantDesc -/
def k6 : Class := { plain "java/lang/constant/ConstantDesc" (some 0) with
  accessFlags := 1537
  interfaces := #[]
  cf := some (fileOf pool6 1 #[] #[] 1537 3 #[] #[])
  fields := #[]
  methods := #[]
  instanceTypes := #[]
  staticTypes := #[]
  resolved := Array.replicate 37 none
  statics := none }

def pool7 : Array CpInfo := pool [(1, .methodref 2 3), (0, .class_ 4), (0, .nameAndType 5 6), (0, u "java/lang/Object"), (0, u "<init>"), (0, u "()V"), (0, .string 8), (0, u ""), (0, .fieldref 10 11), (0, .class_ 12), (0, .nameAndType 13 14), (0, u "java/lang/String"), (0, u "value"), (0, u "[B"), (0, .fieldref 10 16), (0, .nameAndType 17 18), (0, u "coder"), (0, u "B"), (2, u "hash"), (0, u "I"), (2, u "hashIsZero"), (0, u "Z"), (0, .methodref 10 28), (0, .nameAndType 5 29), (0, u "([CIILjava/lang/Void;)V"), (8, .fieldref 10 39), (0, .nameAndType 40 26), (0, u "COMPACT_STRINGS"), (1, .class_ 44), (1, u "java/lang/StringUTF16"), (0, u "compress"), (1, .methodref 42 48), (0, .nameAndType 49 50), (0, u "coderFromArrayLen"), (0, u "([BI)B"), (2, u "toBytes"), (0, .methodref 55 56), (0, .class_ 57), (0, .nameAndType 58 59), (0, u "java/util/Arrays"), (0, u "copyOfRange"), (0, u "([BII)[B"), (47, .class_ 109), (1, u "java/lang/StringLatin1"), (32, u "()Z"), (34, .methodref 42 178), (0, .nameAndType 45 179), (0, u "([CII)[B"), (13, .class_ 195), (1, u "java/lang/System"), (13, .methodref 10 210), (0, .nameAndType 5 211), (0, u "([BB)V"), (0, .methodref 193 213), (0, .nameAndType 214 215), (0, u "arraycopy"), (0, u "(Ljava/lang/Object;ILjava/lang/Object;II)V"), (118, u "()I"), (0, .methodref 10 336), (0, .nameAndType 17 337), (0, u "()B"), (2, u "()[B"), (22, u "([BI)C"), (5, u "(C)Z"), (21, u "(II)V"), (35, u "(I)C"), (61, .methodref 10 490), (0, .nameAndType 5 491), (0, u "(Ljava/lang/AbstractStringBuilder;Ljava/lang/Void;)V"), (0, .methodref 10 493), (0, .nameAndType 494 142), (0, u "isLatin1"), (0, .methodref 107 496), (0, .nameAndType 497 363), (0, u "charAt"), (3, u "checkIndex"), (4, .nameAndType 507 334), (0, u "length"), (24, u "getBytes"), (16, .methodref 550 506), (0, .class_ 551), (0, u "java/lang/AbstractStringBuilder"), (0, .methodref 550 553), (0, .nameAndType 554 340), (0, u "getValue"), (20, .class_ 576), (0, u "java/lang/CharSequence"), (22, u "CASE_INSENSITIVE_ORDER"), (0, u "Ljava/util/Comparator;"), (181, u "valueOf"), (0, u "(C)Ljava/lang/String;"), (37, u "([BIB)V"), (188, u "([C)V"), (4, .methodref 107 1016), (0, .nameAndType 1017 369), (0, u "canEncode"), (0, .methodref 107 1019), (0, .nameAndType 53 1020), (0, u "(C)[B"), (26, .methodref 550 493), (5, .fieldref 1054 1055), (0, .class_ 1056), (0, .nameAndType 1057 1058), (0, u "jdk/internal/util/Preconditions"), (0, u "SIOOBE_FORMATTER"), (0, u "Ljava/util/function/BiFunction;"), (0, .methodref 1054 1060), (0, .nameAndType 501 1061), (0, u "(IILjava/util/function/BiFunction;)I"), (39, u "serialPersistentFields"), (0, u "[Ljava/io/ObjectStreamField;"), (0, .class_ 1104), (0, u "java/lang/String$CaseInsensitiveComparator"), (1, .class_ 1107), (0, u "java/io/Serializable"), (0, .class_ 1109), (0, u "java/lang/Comparable"), (0, .class_ 1111), (0, u "java/lang/constant/Constable"), (0, .class_ 1113), (0, u "java/lang/constant/ConstantDesc"), (2, u "serialVersionUID"), (0, u "J"), (3, u "REPL"), (0, u "C"), (2, u "LATIN1"), (1, u "UTF16"), (105, u "(Ljava/lang/StringBuilder;)V")] 217

def k7m0 : Method := { name := "<init>", desc := "()V", sig := { parameters := [], returnType := none }, accessFlags := 1, code := none }
def k7c1 : Code := { maxStack := 5, maxLocals := 2, code := jdk_42_method_3_code, exceptionTable := #[], attributes := #[] }
def k7m1 : Method := { name := "<init>", desc := "([C)V", sig := { parameters := [(.array .char)], returnType := none }, accessFlags := 1, code := some k7c1 }
def k7c2 : Code := { maxStack := 3, maxLocals := 2, code := jdk_42_method_53_code, exceptionTable := #[], attributes := #[] }
def k7m2 : Method := { name := "<init>", desc := "(Ljava/lang/StringBuilder;)V", sig := { parameters := [(.object "java/lang/StringBuilder")], returnType := none }, accessFlags := 1, code := some k7c2 }
def k7c3 : Code := { maxStack := 2, maxLocals := 1, code := jdk_42_method_54_code, exceptionTable := #[], attributes := #[] }
def k7m3 : Method := { name := "length", desc := "()I", sig := { parameters := [], returnType := some .int }, accessFlags := 1, code := some k7c3 }
def k7c4 : Code := { maxStack := 2, maxLocals := 2, code := jdk_42_method_56_code, exceptionTable := #[], attributes := #[] }
def k7m4 : Method := { name := "charAt", desc := "(I)C", sig := { parameters := [.int], returnType := some .char }, accessFlags := 1, code := some k7c4 }
def k7c5 : Code := { maxStack := 4, maxLocals := 1, code := jdk_42_method_139_code, exceptionTable := #[], attributes := #[] }
def k7m5 : Method := { name := "valueOf", desc := "(C)Ljava/lang/String;", sig := { parameters := [.char], returnType := some (.object "java/lang/String") }, accessFlags := 9, code := some k7c5 }
def k7c6 : Code := { maxStack := 5, maxLocals := 4, code := jdk_42_method_147_code, exceptionTable := #[], attributes := #[] }
def k7m6 : Method := { name := "getBytes", desc := "([BIB)V", sig := { parameters := [(.array .byte), .int, .byte], returnType := none }, accessFlags := 0, code := some k7c6 }
def k7c7 : Code := { maxStack := 4, maxLocals := 6, code := jdk_42_method_149_code, exceptionTable := #[], attributes := #[] }
def k7m7 : Method := { name := "<init>", desc := "([CIILjava/lang/Void;)V", sig := { parameters := [(.array .char), .int, .int, (.object "java/lang/Void")], returnType := none }, accessFlags := 2, code := some k7c7 }
def k7c8 : Code := { maxStack := 5, maxLocals := 5, code := jdk_42_method_150_code, exceptionTable := #[], attributes := #[] }
def k7m8 : Method := { name := "<init>", desc := "(Ljava/lang/AbstractStringBuilder;Ljava/lang/Void;)V", sig := { parameters := [(.object "java/lang/AbstractStringBuilder"), (.object "java/lang/Void")], returnType := none }, accessFlags := 0, code := some k7c8 }
def k7c9 : Code := { maxStack := 2, maxLocals := 3, code := jdk_42_method_151_code, exceptionTable := #[], attributes := #[] }
def k7m9 : Method := { name := "<init>", desc := "([BB)V", sig := { parameters := [(.array .byte), .byte], returnType := none }, accessFlags := 0, code := some k7c9 }
def k7c10 : Code := { maxStack := 1, maxLocals := 1, code := jdk_42_method_152_code, exceptionTable := #[], attributes := #[] }
def k7m10 : Method := { name := "coder", desc := "()B", sig := { parameters := [], returnType := some .byte }, accessFlags := 0, code := some k7c10 }
def k7c11 : Code := { maxStack := 1, maxLocals := 1, code := jdk_42_method_154_code, exceptionTable := #[], attributes := #[] }
def k7m11 : Method := { name := "isLatin1", desc := "()Z", sig := { parameters := [], returnType := some .boolean }, accessFlags := 0, code := some k7c11 }
def k7c12 : Code := { maxStack := 3, maxLocals := 2, code := jdk_42_method_155_code, exceptionTable := #[], attributes := #[] }
def k7m12 : Method := { name := "checkIndex", desc := "(II)V", sig := { parameters := [.int, .int], returnType := none }, accessFlags := 8, code := some k7c12 }
/-- java/lang/String -/
def k7 : Class := { plain "java/lang/String" (some 0) with
  accessFlags := 49
  interfaces := #[2, 3, 4, 5, 6]
  cf := some (fileOf pool7 10 #[.nestMembers #[1103]] #[{ accessFlags := 1, nameIndex := 5, descriptorIndex := 6, attributes := #[] }, { accessFlags := 1, nameIndex := 5, descriptorIndex := 1010, attributes := #[] }, { accessFlags := 1, nameIndex := 5, descriptorIndex := 1233, attributes := #[] }, { accessFlags := 1, nameIndex := 507, descriptorIndex := 334, attributes := #[] }, { accessFlags := 1, nameIndex := 497, descriptorIndex := 427, attributes := #[] }, { accessFlags := 9, nameIndex := 782, descriptorIndex := 783, attributes := #[] }, { accessFlags := 0, nameIndex := 532, descriptorIndex := 821, attributes := #[] }, { accessFlags := 2, nameIndex := 5, descriptorIndex := 29, attributes := #[] }, { accessFlags := 0, nameIndex := 5, descriptorIndex := 491, attributes := #[] }, { accessFlags := 0, nameIndex := 5, descriptorIndex := 211, attributes := #[] }, { accessFlags := 0, nameIndex := 17, descriptorIndex := 337, attributes := #[] }, { accessFlags := 0, nameIndex := 494, descriptorIndex := 142, attributes := #[] }, { accessFlags := 8, nameIndex := 501, descriptorIndex := 391, attributes := #[] }] 49 2 #[1106, 1108, 575, 1110, 1112] #[{ accessFlags := 18, nameIndex := 13, descriptorIndex := 14, attributes := #[] }, { accessFlags := 18, nameIndex := 17, descriptorIndex := 18, attributes := #[] }, { accessFlags := 2, nameIndex := 21, descriptorIndex := 22, attributes := #[] }, { accessFlags := 2, nameIndex := 25, descriptorIndex := 26, attributes := #[] }, { accessFlags := 26, nameIndex := 1116, descriptorIndex := 1117, attributes := #[] }, { accessFlags := 24, nameIndex := 40, descriptorIndex := 26, attributes := #[] }, { accessFlags := 26, nameIndex := 1101, descriptorIndex := 1102, attributes := #[] }, { accessFlags := 26, nameIndex := 1121, descriptorIndex := 1122, attributes := #[] }, { accessFlags := 25, nameIndex := 599, descriptorIndex := 600, attributes := #[] }, { accessFlags := 24, nameIndex := 1125, descriptorIndex := 18, attributes := #[] }, { accessFlags := 24, nameIndex := 1127, descriptorIndex := 18, attributes := #[] }])
  fields := #[{ name := "value", type := (.array .byte), accessFlags := 18, slot := 0, constantValue := 0 }, { name := "coder", type := .byte, accessFlags := 18, slot := 1, constantValue := 0 }, { name := "hash", type := .int, accessFlags := 2, slot := 2, constantValue := 0 }, { name := "hashIsZero", type := .boolean, accessFlags := 2, slot := 3, constantValue := 0 }, { name := "serialVersionUID", type := .long, accessFlags := 26, slot := 0, constantValue := 0 }, { name := "COMPACT_STRINGS", type := .boolean, accessFlags := 24, slot := 1, constantValue := 0 }, { name := "serialPersistentFields", type := (.array (.object "java/io/ObjectStreamField")), accessFlags := 26, slot := 2, constantValue := 0 }, { name := "REPL", type := .char, accessFlags := 26, slot := 3, constantValue := 0 }, { name := "CASE_INSENSITIVE_ORDER", type := (.object "java/util/Comparator"), accessFlags := 25, slot := 4, constantValue := 0 }, { name := "LATIN1", type := .byte, accessFlags := 24, slot := 5, constantValue := 0 }, { name := "UTF16", type := .byte, accessFlags := 24, slot := 6, constantValue := 0 }]
  methods := #[k7m0, k7m1, k7m2, k7m3, k7m4, k7m5, k7m6, k7m7, k7m8, k7m9, k7m10, k7m11, k7m12]
  instanceTypes := #[(.array .byte), .byte, .int, .boolean]
  staticTypes := #[.long, .boolean, (.array (.object "java/io/ObjectStreamField")), .char, (.object "java/util/Comparator"), .byte, .byte]
  resolved := Array.replicate 1451 none
  statics := some 0 }

def pool8 : Array CpInfo := pool [(2, .class_ 4), (0, .nameAndType 5 6), (0, u "java/lang/Object"), (0, u "<init>"), (0, u "()V"), (1, .class_ 10), (1, u "com/example/shapewalk/shapewalk/cli/Options"), (0, u "flags"), (0, u "Ljava/util/Set;"), (2, u "values"), (0, u "Ljava/util/Map;"), (2, u "operands"), (30, u "(Ljava/lang/String;)Lcom/example/shapewalk/shapewalk/cli/UsageException;"), (6, .class_ 58), (0, u "com/example/shapewalk/shapewalk/cli/UsageException"), (0, .class_ 60), (0, u "java/lang/StringBuilder"), (0, .methodref 59 3), (0, .methodref 59 63), (0, .nameAndType 64 65), (0, u "append"), (0, u "(Ljava/lang/String;)Ljava/lang/StringBuilder;"), (2, .methodref 59 69), (0, .nameAndType 70 71), (0, u "toString"), (0, u "()Ljava/lang/String;"), (0, .methodref 57 73), (0, .nameAndType 5 74), (0, u "(Ljava/lang/String;)V"), (43, .string 119), (0, u " is required"), (19, u "missing")] 115

def k8c0 : Code := { maxStack := 4, maxLocals := 1, code := prog_4_method_3_code, exceptionTable := #[], attributes := #[] }
def k8m0 : Method := { name := "missing", desc := "(Ljava/lang/String;)Lcom/example/shapewalk/shapewalk/cli/UsageException;", sig := { parameters := [(.object "java/lang/String")], returnType := some (.object "com/example/shapewalk/shapewalk/cli/UsageException") }, accessFlags := 8, code := some k8c0 }
/-- com/example/shapewalk/shapewalk/cli/Options -/
def k8 : Class := { plain "com/example/shapewalk/shapewalk/cli/Options" (some 0) with
  accessFlags := 48
  interfaces := #[]
  cf := some (fileOf pool8 8 #[] #[{ accessFlags := 8, nameIndex := 139, descriptorIndex := 50, attributes := #[] }] 48 2 #[] #[{ accessFlags := 18, nameIndex := 11, descriptorIndex := 12, attributes := #[] }, { accessFlags := 18, nameIndex := 15, descriptorIndex := 16, attributes := #[] }, { accessFlags := 18, nameIndex := 19, descriptorIndex := 16, attributes := #[] }])
  fields := #[{ name := "flags", type := (.object "java/util/Set"), accessFlags := 18, slot := 0, constantValue := 0 }, { name := "values", type := (.object "java/util/Map"), accessFlags := 18, slot := 1, constantValue := 0 }, { name := "operands", type := (.object "java/util/Map"), accessFlags := 18, slot := 2, constantValue := 0 }]
  methods := #[k8m0]
  instanceTypes := #[(.object "java/util/Set"), (.object "java/util/Map"), (.object "java/util/Map")]
  staticTypes := #[]
  resolved := Array.replicate 255 none
  statics := none }

def pool9 : Array CpInfo := pool [(1, .methodref 2 3), (0, .class_ 4), (0, .nameAndType 5 6), (0, u "java/lang/Object"), (0, u "<init>"), (0, u "()V"), (0, .fieldref 8 9), (0, .class_ 10), (0, .nameAndType 11 12), (0, u "java/lang/Throwable"), (0, u "cause"), (0, u "Ljava/lang/Throwable;"), (0, .fieldref 8 14), (0, .nameAndType 15 16), (0, u "UNASSIGNED_STACK"), (0, u "[Ljava/lang/StackTraceElement;"), (0, .fieldref 8 18), (0, .nameAndType 19 16), (0, u "stackTrace"), (0, .fieldref 8 21), (0, .nameAndType 22 23), (0, u "SUPPRESSED_SENTINEL"), (0, u "Ljava/util/List;"), (0, .fieldref 8 25), (0, .nameAndType 26 23), (0, u "suppressedExceptions"), (0, .methodref 8 28), (0, .nameAndType 29 30), (0, u "fillInStackTrace"), (0, u "()Ljava/lang/Throwable;"), (0, .fieldref 8 32), (0, .nameAndType 33 34), (0, u "detailMessage"), (0, u "Ljava/lang/String;"), (3, u "()Ljava/lang/String;"), (2, u "getMessage"), (51, .class_ 94), (0, u "java/lang/Throwable$WrappedPrintStream"), (6, .class_ 103), (1, u "java/lang/Throwable$PrintStreamOrWriter"), (61, u "$assertionsDisabled"), (0, u "Z"), (26, .class_ 194), (0, u "java/lang/Throwable$WrappedPrintWriter"), (3, .fieldref 8 199), (0, .nameAndType 200 201), (0, u "backtrace"), (0, u "Ljava/lang/Object;"), (0, .methodref 8 203), (0, .nameAndType 29 204), (0, u "(I)Ljava/lang/Throwable;"), (6, u "depth"), (0, u "I"), (10, u "(Ljava/lang/String;)V"), (45, .class_ 271), (1, u "java/lang/Throwable$SentinelHolder"), (32, u "EMPTY_THROWABLE_ARRAY"), (0, u "[Ljava/lang/Throwable;"), (12, .class_ 319), (0, u "java/io/Serializable"), (0, u "serialVersionUID"), (0, u "J"), (5, u "NULL_CAUSE_MESSAGE"), (0, u "SELF_SUPPRESSION_MESSAGE"), (0, u "CAUSE_CAPTION"), (0, u "SUPPRESSED_CAPTION")] 73

def k9c0 : Code := { maxStack := 2, maxLocals := 1, code := jdk_78_method_1_code, exceptionTable := #[], attributes := #[] }
def k9m0 : Method := { name := "<init>", desc := "()V", sig := { parameters := [], returnType := none }, accessFlags := 1, code := some k9c0 }
def k9c1 : Code := { maxStack := 2, maxLocals := 2, code := jdk_78_method_2_code, exceptionTable := #[], attributes := #[] }
def k9m1 : Method := { name := "<init>", desc := "(Ljava/lang/String;)V", sig := { parameters := [(.object "java/lang/String")], returnType := none }, accessFlags := 1, code := some k9c1 }
def k9c2 : Code := { maxStack := 1, maxLocals := 1, code := jdk_78_method_6_code, exceptionTable := #[], attributes := #[] }
def k9m2 : Method := { name := "getMessage", desc := "()Ljava/lang/String;", sig := { parameters := [], returnType := some (.object "java/lang/String") }, accessFlags := 1, code := some k9c2 }
def k9c3 : Code := { maxStack := 2, maxLocals := 1, code := jdk_78_method_18_code, exceptionTable := #[], attributes := #[] }
def k9m3 : Method := { name := "fillInStackTrace", desc := "()Ljava/lang/Throwable;", sig := { parameters := [], returnType := some (.object "java/lang/Throwable") }, accessFlags := 33, code := some k9c3 }
def k9m4 : Method := { name := "fillInStackTrace", desc := "(I)Ljava/lang/Throwable;", sig := { parameters := [.int], returnType := some (.object "java/lang/Throwable") }, accessFlags := 258, code := none }
/-- java/lang/Throwable -/
def k9 : Class := { plain "java/lang/Throwable" (some 0) with
  accessFlags := 33
  interfaces := #[2]
  cf := some (fileOf pool9 8 #[.nestMembers #[193, 93, 101, 269]] #[{ accessFlags := 1, nameIndex := 5, descriptorIndex := 6, attributes := #[] }, { accessFlags := 1, nameIndex := 5, descriptorIndex := 223, attributes := #[] }, { accessFlags := 1, nameIndex := 41, descriptorIndex := 38, attributes := #[] }, { accessFlags := 33, nameIndex := 29, descriptorIndex := 30, attributes := #[] }, { accessFlags := 258, nameIndex := 29, descriptorIndex := 204, attributes := #[] }] 33 2 #[318] #[{ accessFlags := 26, nameIndex := 320, descriptorIndex := 321, attributes := #[] }, { accessFlags := 130, nameIndex := 200, descriptorIndex := 201, attributes := #[] }, { accessFlags := 2, nameIndex := 33, descriptorIndex := 34, attributes := #[] }, { accessFlags := 26, nameIndex := 15, descriptorIndex := 16, attributes := #[] }, { accessFlags := 2, nameIndex := 11, descriptorIndex := 12, attributes := #[] }, { accessFlags := 2, nameIndex := 19, descriptorIndex := 16, attributes := #[] }, { accessFlags := 130, nameIndex := 211, descriptorIndex := 212, attributes := #[] }, { accessFlags := 26, nameIndex := 22, descriptorIndex := 23, attributes := #[] }, { accessFlags := 2, nameIndex := 26, descriptorIndex := 23, attributes := #[] }, { accessFlags := 26, nameIndex := 327, descriptorIndex := 34, attributes := #[] }, { accessFlags := 26, nameIndex := 328, descriptorIndex := 34, attributes := #[] }, { accessFlags := 26, nameIndex := 329, descriptorIndex := 34, attributes := #[] }, { accessFlags := 26, nameIndex := 330, descriptorIndex := 34, attributes := #[] }, { accessFlags := 26, nameIndex := 304, descriptorIndex := 305, attributes := #[] }, { accessFlags := 4120, nameIndex := 165, descriptorIndex := 166, attributes := #[] }])
  fields := #[{ name := "serialVersionUID", type := .long, accessFlags := 26, slot := 0, constantValue := 0 }, { name := "backtrace", type := (.object "java/lang/Object"), accessFlags := 130, slot := 0, constantValue := 0 }, { name := "detailMessage", type := (.object "java/lang/String"), accessFlags := 2, slot := 1, constantValue := 0 }, { name := "UNASSIGNED_STACK", type := (.array (.object "java/lang/StackTraceElement")), accessFlags := 26, slot := 1, constantValue := 0 }, { name := "cause", type := (.object "java/lang/Throwable"), accessFlags := 2, slot := 2, constantValue := 0 }, { name := "stackTrace", type := (.array (.object "java/lang/StackTraceElement")), accessFlags := 2, slot := 3, constantValue := 0 }, { name := "depth", type := .int, accessFlags := 130, slot := 4, constantValue := 0 }, { name := "SUPPRESSED_SENTINEL", type := (.object "java/util/List"), accessFlags := 26, slot := 2, constantValue := 0 }, { name := "suppressedExceptions", type := (.object "java/util/List"), accessFlags := 2, slot := 5, constantValue := 0 }, { name := "NULL_CAUSE_MESSAGE", type := (.object "java/lang/String"), accessFlags := 26, slot := 3, constantValue := 0 }, { name := "SELF_SUPPRESSION_MESSAGE", type := (.object "java/lang/String"), accessFlags := 26, slot := 4, constantValue := 0 }, { name := "CAUSE_CAPTION", type := (.object "java/lang/String"), accessFlags := 26, slot := 5, constantValue := 0 }, { name := "SUPPRESSED_CAPTION", type := (.object "java/lang/String"), accessFlags := 26, slot := 6, constantValue := 0 }, { name := "EMPTY_THROWABLE_ARRAY", type := (.array (.object "java/lang/Throwable")), accessFlags := 26, slot := 7, constantValue := 0 }, { name := "$assertionsDisabled", type := .boolean, accessFlags := 4120, slot := 8, constantValue := 0 }]
  methods := #[k9m0, k9m1, k9m2, k9m3, k9m4]
  instanceTypes := #[(.object "java/lang/Object"), (.object "java/lang/String"), (.object "java/lang/Throwable"), (.array (.object "java/lang/StackTraceElement")), .int, (.object "java/util/List")]
  staticTypes := #[.long, (.array (.object "java/lang/StackTraceElement")), (.object "java/util/List"), (.object "java/lang/String"), (.object "java/lang/String"), (.object "java/lang/String"), (.object "java/lang/String"), (.array (.object "java/lang/Throwable")), .boolean]
  resolved := Array.replicate 404 none
  statics := some 1 }

def pool10 : Array CpInfo := pool [(2, .class_ 4), (1, u "java/lang/Throwable"), (0, u "<init>"), (0, u "()V"), (0, .methodref 2 8), (0, .nameAndType 5 9), (0, u "(Ljava/lang/String;)V"), (9, .class_ 20), (0, u "java/lang/Exception"), (0, u "serialVersionUID"), (0, u "J")] 17

def k10m0 : Method := { name := "<init>", desc := "()V", sig := { parameters := [], returnType := none }, accessFlags := 1, code := none }
def k10c1 : Code := { maxStack := 2, maxLocals := 2, code := jdk_59_method_2_code, exceptionTable := #[], attributes := #[] }
def k10m1 : Method := { name := "<init>", desc := "(Ljava/lang/String;)V", sig := { parameters := [(.object "java/lang/String")], returnType := none }, accessFlags := 1, code := some k10c1 }
/-- java/lang/Exception -/
def k10 : Class := { plain "java/lang/Exception" (some 9) with
  accessFlags := 33
  interfaces := #[]
  cf := some (fileOf pool10 19 #[] #[{ accessFlags := 1, nameIndex := 5, descriptorIndex := 6, attributes := #[] }, { accessFlags := 1, nameIndex := 5, descriptorIndex := 9, attributes := #[] }] 33 2 #[] #[{ accessFlags := 24, nameIndex := 21, descriptorIndex := 22, attributes := #[] }])
  fields := #[{ name := "serialVersionUID", type := .long, accessFlags := 24, slot := 0, constantValue := 0 }]
  methods := #[k10m0, k10m1]
  instanceTypes := #[(.object "java/lang/Object"), (.object "java/lang/String"), (.object "java/lang/Throwable"), (.array (.object "java/lang/StackTraceElement")), .int, (.object "java/util/List")]
  staticTypes := #[.long]
  resolved := Array.replicate 40 none
  statics := none }

def pool11 : Array CpInfo := pool [(1, .methodref 2 3), (0, .class_ 4), (0, .nameAndType 5 6), (0, u "java/lang/Exception"), (0, u "<init>"), (0, u "(Ljava/lang/String;)V"), (0, .class_ 8), (0, u "com/example/shapewalk/shapewalk/cli/UsageException"), (0, u "serialVersionUID"), (0, u "J")] 7

def k11c0 : Code := { maxStack := 2, maxLocals := 2, code := prog_7_method_1_code, exceptionTable := #[], attributes := #[] }
def k11m0 : Method := { name := "<init>", desc := "(Ljava/lang/String;)V", sig := { parameters := [(.object "java/lang/String")], returnType := none }, accessFlags := 1, code := some k11c0 }
/-- com/example/shapewalk/shapewalk/cli/UsageException -/
def k11 : Class := { plain "com/example/shapewalk/shapewalk/cli/UsageException" (some 10) with
  accessFlags := 49
  interfaces := #[]
  cf := some (fileOf pool11 7 #[] #[{ accessFlags := 1, nameIndex := 5, descriptorIndex := 6, attributes := #[] }] 49 2 #[] #[{ accessFlags := 26, nameIndex := 9, descriptorIndex := 10, attributes := #[] }])
  fields := #[{ name := "serialVersionUID", type := .long, accessFlags := 26, slot := 0, constantValue := 0 }]
  methods := #[k11m0]
  instanceTypes := #[(.object "java/lang/Object"), (.object "java/lang/String"), (.object "java/lang/Throwable"), (.array (.object "java/lang/StackTraceElement")), .int, (.object "java/util/List")]
  staticTypes := #[.long]
  resolved := Array.replicate 18 none
  statics := none }

def pool12 : Array CpInfo := pool [(1, .class_ 2), (0, u "java/lang/Appendable"), (0, .class_ 4), (0, u "java/lang/Object")] 9

/-- java/lang/Appendable -/
def k12 : Class := { plain "java/lang/Appendable" (some 0) with
  accessFlags := 1537
  interfaces := #[]
  cf := some (fileOf pool12 1 #[] #[] 1537 3 #[] #[])
  fields := #[]
  methods := #[]
  instanceTypes := #[]
  staticTypes := #[]
  resolved := Array.replicate 14 none
  statics := none }

def pool13 : Array CpInfo := pool [(1, .class_ 2), (0, u "java/lang/String"), (0, .methodref 4 5), (0, .class_ 6), (0, .nameAndType 7 8), (0, u "java/lang/Object"), (0, u "<init>"), (0, u "()V"), (1, .class_ 12), (1, u "java/lang/AbstractStringBuilder"), (0, u "EMPTYVALUE"), (0, u "[B"), (0, .fieldref 10 16), (0, .nameAndType 17 14), (0, u "value"), (0, .fieldref 1 19), (0, .nameAndType 20 21), (0, u "COMPACT_STRINGS"), (0, u "Z"), (0, .fieldref 10 23), (0, .nameAndType 24 25), (0, u "coder"), (0, u "B"), (6, .methodref 1 33), (0, .nameAndType 34 35), (0, u "length"), (0, u "()I"), (4, .methodref 1 41), (0, .nameAndType 24 42), (0, u "()B"), (2, u "append"), (0, u "(Ljava/lang/String;)Ljava/lang/AbstractStringBuilder;"), (1, .class_ 49), (0, u "java/lang/CharSequence"), (19, u "(Ljava/lang/String;)V"), (5, u "maybeLatin1"), (3, .fieldref 10 80), (0, .nameAndType 81 82), (0, u "count"), (0, u "I"), (2, u "isLatin1"), (0, u "()Z"), (13, .methodref 10 101), (0, .nameAndType 102 103), (0, u "ensureCapacityInternal"), (0, u "(I)V"), (104, .methodref 10 209), (0, .nameAndType 210 211), (0, u "putStringAt"), (0, u "(ILjava/lang/String;)V"), (5, u "inflateIfNeededFor"), (2, .nameAndType 221 222), (0, u "getBytes"), (0, u "([BIB)V"), (174, .methodref 10 398), (0, .nameAndType 217 69), (0, .methodref 1 220), (3, u "()[B"), (40, .class_ 445), (0, u "java/lang/Appendable"), (106, u "getValue")] 56

def k13m0 : Method := { name := "<init>", desc := "()V", sig := { parameters := [], returnType := none }, accessFlags := 0, code := none }
def k13c1 : Code := { maxStack := 2, maxLocals := 2, code := jdk_68_method_2_code, exceptionTable := #[], attributes := #[] }
def k13m1 : Method := { name := "<init>", desc := "(I)V", sig := { parameters := [.int], returnType := none }, accessFlags := 0, code := some k13c1 }
def k13c2 : Code := { maxStack := 1, maxLocals := 1, code := jdk_68_method_6_code, exceptionTable := #[], attributes := #[] }
def k13m2 : Method := { name := "length", desc := "()I", sig := { parameters := [], returnType := some .int }, accessFlags := 1, code := some k13c2 }
def k13c3 : Code := { maxStack := 4, maxLocals := 3, code := jdk_68_method_9_code, exceptionTable := #[], attributes := #[] }
def k13m3 : Method := { name := "ensureCapacityInternal", desc := "(I)V", sig := { parameters := [.int], returnType := none }, accessFlags := 2, code := some k13c3 }
def k13c4 : Code := { maxStack := 3, maxLocals := 3, code := jdk_68_method_22_code, exceptionTable := #[], attributes := #[] }
def k13m4 : Method := { name := "append", desc := "(Ljava/lang/String;)Ljava/lang/AbstractStringBuilder;", sig := { parameters := [(.object "java/lang/String")], returnType := some (.object "java/lang/AbstractStringBuilder") }, accessFlags := 1, code := some k13c4 }
def k13c5 : Code := { maxStack := 1, maxLocals := 1, code := jdk_68_method_64_code, exceptionTable := #[], attributes := #[] }
def k13m5 : Method := { name := "getValue", desc := "()[B", sig := { parameters := [], returnType := some (.array .byte) }, accessFlags := 16, code := some k13c5 }
def k13c6 : Code := { maxStack := 1, maxLocals := 1, code := jdk_68_method_68_code, exceptionTable := #[], attributes := #[] }
def k13m6 : Method := { name := "isLatin1", desc := "()Z", sig := { parameters := [], returnType := some .boolean }, accessFlags := 16, code := some k13c6 }
def k13c7 : Code := { maxStack := 2, maxLocals := 2, code := jdk_68_method_71_code, exceptionTable := #[], attributes := #[] }
def k13m7 : Method := { name := "inflateIfNeededFor", desc := "(Ljava/lang/String;)V", sig := { parameters := [(.object "java/lang/String")], returnType := none }, accessFlags := 2, code := some k13c7 }
def k13c8 : Code := { maxStack := 4, maxLocals := 3, code := jdk_68_method_73_code, exceptionTable := #[], attributes := #[] }
def k13m8 : Method := { name := "putStringAt", desc := "(ILjava/lang/String;)V", sig := { parameters := [.int, (.object "java/lang/String")], returnType := none }, accessFlags := 2, code := some k13c8 }
/-- java/lang/AbstractStringBuilder -/
def k13 : Class := { plain "java/lang/AbstractStringBuilder" (some 0) with
  accessFlags := 1056
  interfaces := #[12, 4]
  cf := some (fileOf pool13 10 #[] #[{ accessFlags := 0, nameIndex := 7, descriptorIndex := 8, attributes := #[] }, { accessFlags := 0, nameIndex := 7, descriptorIndex := 103, attributes := #[] }, { accessFlags := 1, nameIndex := 34, descriptorIndex := 35, attributes := #[] }, { accessFlags := 2, nameIndex := 102, descriptorIndex := 103, attributes := #[] }, { accessFlags := 1, nameIndex := 45, descriptorIndex := 46, attributes := #[] }, { accessFlags := 16, nameIndex := 552, descriptorIndex := 403, attributes := #[] }, { accessFlags := 16, nameIndex := 85, descriptorIndex := 86, attributes := #[] }, { accessFlags := 2, nameIndex := 217, descriptorIndex := 69, attributes := #[] }, { accessFlags := 2, nameIndex := 210, descriptorIndex := 211, attributes := #[] }] 1056 4 #[444, 48] #[{ accessFlags := 0, nameIndex := 17, descriptorIndex := 14, attributes := #[] }, { accessFlags := 0, nameIndex := 24, descriptorIndex := 25, attributes := #[] }, { accessFlags := 0, nameIndex := 75, descriptorIndex := 21, attributes := #[] }, { accessFlags := 0, nameIndex := 81, descriptorIndex := 82, attributes := #[] }, { accessFlags := 26, nameIndex := 13, descriptorIndex := 14, attributes := #[] }])
  fields := #[{ name := "value", type := (.array .byte), accessFlags := 0, slot := 0, constantValue := 0 }, { name := "coder", type := .byte, accessFlags := 0, slot := 1, constantValue := 0 }, { name := "maybeLatin1", type := .boolean, accessFlags := 0, slot := 2, constantValue := 0 }, { name := "count", type := .int, accessFlags := 0, slot := 3, constantValue := 0 }, { name := "EMPTYVALUE", type := (.array .byte), accessFlags := 26, slot := 0, constantValue := 0 }]
  methods := #[k13m0, k13m1, k13m2, k13m3, k13m4, k13m5, k13m6, k13m7, k13m8]
  instanceTypes := #[(.array .byte), .byte, .boolean, .int]
  staticTypes := #[(.array .byte)]
  resolved := Array.replicate 609 none
  statics := none }

def pool14 : Array CpInfo := pool [(1, .methodref 2 3), (0, .class_ 4), (0, .nameAndType 5 6), (0, u "java/lang/AbstractStringBuilder"), (0, u "<init>"), (0, u "(I)V"), (11, .class_ 20), (1, u "java/lang/String"), (3, .class_ 26), (1, u "java/lang/StringBuilder"), (0, u "append"), (0, u "(Ljava/lang/String;)Ljava/lang/StringBuilder;"), (0, .methodref 2 30), (0, .nameAndType 27 31), (0, u "(Ljava/lang/String;)Ljava/lang/AbstractStringBuilder;"), (105, .methodref 18 138), (0, .nameAndType 5 139), (0, u "(Ljava/lang/StringBuilder;)V"), (5, u "()V"), (10, u "()I"), (186, .methodref 2 344), (0, .nameAndType 345 156), (0, u "length"), (3, .class_ 350), (0, u "java/lang/Appendable"), (0, .class_ 352), (0, u "java/io/Serializable"), (0, .class_ 354), (0, u "java/lang/Comparable"), (0, .class_ 356), (0, u "java/lang/CharSequence"), (0, u "serialVersionUID"), (0, u "J"), (40, u "toString"), (0, u "()Ljava/lang/String;")] 21

def k14c0 : Code := { maxStack := 2, maxLocals := 1, code := jdk_67_method_1_code, exceptionTable := #[], attributes := #[] }
def k14m0 : Method := { name := "<init>", desc := "()V", sig := { parameters := [], returnType := none }, accessFlags := 1, code := some k14c0 }
def k14c1 : Code := { maxStack := 2, maxLocals := 2, code := jdk_67_method_7_code, exceptionTable := #[], attributes := #[] }
def k14m1 : Method := { name := "append", desc := "(Ljava/lang/String;)Ljava/lang/StringBuilder;", sig := { parameters := [(.object "java/lang/String")], returnType := some (.object "java/lang/StringBuilder") }, accessFlags := 1, code := some k14c1 }
def k14c2 : Code := { maxStack := 3, maxLocals := 1, code := jdk_67_method_42_code, exceptionTable := #[], attributes := #[] }
def k14m2 : Method := { name := "toString", desc := "()Ljava/lang/String;", sig := { parameters := [], returnType := some (.object "java/lang/String") }, accessFlags := 1, code := some k14c2 }
def k14c3 : Code := { maxStack := 1, maxLocals := 1, code := jdk_67_method_93_code, exceptionTable := #[], attributes := #[] }
def k14m3 : Method := { name := "length", desc := "()I", sig := { parameters := [], returnType := some .int }, accessFlags := 4161, code := some k14c3 }
/-- java/lang/StringBuilder -/
def k14 : Class := { plain "java/lang/StringBuilder" (some 13) with
  accessFlags := 49
  interfaces := #[12, 2, 3, 4]
  cf := some (fileOf pool14 24 #[] #[{ accessFlags := 1, nameIndex := 5, descriptorIndex := 145, attributes := #[] }, { accessFlags := 1, nameIndex := 27, descriptorIndex := 28, attributes := #[] }, { accessFlags := 1, nameIndex := 399, descriptorIndex := 400, attributes := #[] }, { accessFlags := 4161, nameIndex := 345, descriptorIndex := 156, attributes := #[] }] 49 2 #[349, 351, 353, 355] #[{ accessFlags := 24, nameIndex := 357, descriptorIndex := 358, attributes := #[] }])
  fields := #[{ name := "serialVersionUID", type := .long, accessFlags := 24, slot := 0, constantValue := 0 }]
  methods := #[k14m0, k14m1, k14m2, k14m3]
  instanceTypes := #[(.array .byte), .byte, .boolean, .int]
  staticTypes := #[.long]
  resolved := Array.replicate 422 none
  statics := none }

def pool15 : Array CpInfo := pool [(2, .class_ 4), (1, u "java/lang/Object"), (0, u "<init>"), (0, u "()V"), (1, .class_ 10), (1, u "java/lang/System"), (0, u "allowSecurityManager"), (0, u "I"), (16, u "cons"), (0, u "Ljava/io/Console;"), (77, .class_ 110), (1, u "java/lang/System$CallersHolder"), (43, u "initialErrStream"), (0, u "Ljava/io/PrintStream;"), (19, u "security"), (0, u "Ljava/lang/SecurityManager;"), (31, .class_ 209), (0, u "java/lang/System$1"), (7, u "props"), (0, u "Ljava/util/Properties;"), (2, u "lineSeparator"), (0, u "Ljava/lang/String;"), (96, .class_ 321), (1, u "java/lang/System$LoggerFinder"), (5, .class_ 328), (0, u "java/lang/System$Logger"), (67, u "err"), (2, u "out"), (91, u "notSupportedJnuEncoding"), (15, u "in"), (17, u "initialIn"), (0, u "Ljava/io/InputStream;"), (35, u "bootLayer"), (0, u "Ljava/lang/ModuleLayer;"), (99, .class_ 664), (0, u "java/lang/System$2"), (9, u "NEVER"), (2, u "MAYBE"), (49, u "arraycopy"), (0, u "(Ljava/lang/Object;ILjava/lang/Object;II)V"), (72, .class_ 802), (0, u "java/lang/System$Logger$Level")] 31

def k15m0 : Method := { name := "<init>", desc := "()V", sig := { parameters := [], returnType := none }, accessFlags := 2, code := none }
def k15m1 : Method := { name := "arraycopy", desc := "(Ljava/lang/Object;ILjava/lang/Object;II)V", sig := { parameters := [(.object "java/lang/Object"), .int, (.object "java/lang/Object"), .int, .int], returnType := none }, accessFlags := 265, code := none }
/-- java/lang/System -/
def k15 : Class := { plain "java/lang/System" (some 0) with
  accessFlags := 49
  interfaces := #[]
  cf := some (fileOf pool15 8 #[.nestMembers #[319, 327, 801, 108, 663, 208]] #[{ accessFlags := 2, nameIndex := 5, descriptorIndex := 6, attributes := #[] }, { accessFlags := 265, nameIndex := 727, descriptorIndex := 728, attributes := #[] }] 49 2 #[] #[{ accessFlags := 25, nameIndex := 507, descriptorIndex := 526, attributes := #[] }, { accessFlags := 25, nameIndex := 399, descriptorIndex := 155, attributes := #[] }, { accessFlags := 25, nameIndex := 396, descriptorIndex := 155, attributes := #[] }, { accessFlags := 10, nameIndex := 525, descriptorIndex := 526, attributes := #[] }, { accessFlags := 26, nameIndex := 674, descriptorIndex := 12, attributes := #[] }, { accessFlags := 26, nameIndex := 677, descriptorIndex := 12, attributes := #[] }, { accessFlags := 10, nameIndex := 11, descriptorIndex := 12, attributes := #[] }, { accessFlags := 74, nameIndex := 175, descriptorIndex := 176, attributes := #[] }, { accessFlags := 10, nameIndex := 491, descriptorIndex := 222, attributes := #[] }, { accessFlags := 74, nameIndex := 29, descriptorIndex := 30, attributes := #[] }, { accessFlags := 74, nameIndex := 154, descriptorIndex := 155, attributes := #[] }, { accessFlags := 10, nameIndex := 217, descriptorIndex := 218, attributes := #[] }, { accessFlags := 10, nameIndex := 221, descriptorIndex := 222, attributes := #[] }, { accessFlags := 8, nameIndex := 562, descriptorIndex := 563, attributes := #[] }])
  fields := #[{ name := "in", type := (.object "java/io/InputStream"), accessFlags := 25, slot := 0, constantValue := 0 }, { name := "out", type := (.object "java/io/PrintStream"), accessFlags := 25, slot := 1, constantValue := 0 }, { name := "err", type := (.object "java/io/PrintStream"), accessFlags := 25, slot := 2, constantValue := 0 }, { name := "initialIn", type := (.object "java/io/InputStream"), accessFlags := 10, slot := 3, constantValue := 0 }, { name := "NEVER", type := .int, accessFlags := 26, slot := 4, constantValue := 0 }, { name := "MAYBE", type := .int, accessFlags := 26, slot := 5, constantValue := 0 }, { name := "allowSecurityManager", type := .int, accessFlags := 10, slot := 6, constantValue := 0 }, { name := "security", type := (.object "java/lang/SecurityManager"), accessFlags := 74, slot := 7, constantValue := 0 }, { name := "notSupportedJnuEncoding", type := (.object "java/lang/String"), accessFlags := 10, slot := 8, constantValue := 0 }, { name := "cons", type := (.object "java/io/Console"), accessFlags := 74, slot := 9, constantValue := 0 }, { name := "initialErrStream", type := (.object "java/io/PrintStream"), accessFlags := 74, slot := 10, constantValue := 0 }, { name := "props", type := (.object "java/util/Properties"), accessFlags := 10, slot := 11, constantValue := 0 }, { name := "lineSeparator", type := (.object "java/lang/String"), accessFlags := 10, slot := 12, constantValue := 0 }, { name := "bootLayer", type := (.object "java/lang/ModuleLayer"), accessFlags := 8, slot := 13, constantValue := 0 }]
  methods := #[k15m0, k15m1]
  instanceTypes := #[]
  staticTypes := #[(.object "java/io/InputStream"), (.object "java/io/PrintStream"), (.object "java/io/PrintStream"), (.object "java/io/InputStream"), .int, .int, .int, (.object "java/lang/SecurityManager"), (.object "java/lang/String"), (.object "java/io/Console"), (.object "java/io/PrintStream"), (.object "java/util/Properties"), (.object "java/lang/String"), (.object "java/lang/ModuleLayer")]
  resolved := Array.replicate 834 none
  statics := none }

def pool16 : Array CpInfo := pool [(2, .class_ 4), (1, u "java/lang/Object"), (0, u "<init>"), (0, u "()V"), (7, .class_ 16), (1, u "java/util/Arrays"), (57, .class_ 76), (1, u "java/util/Arrays$NaturalOrder"), (36, .class_ 115), (1, u "java/util/Arrays$LegacyMergeSort"), (1, u "Z"), (21, u "copyOfRange"), (10, .methodref 151 152), (0, .class_ 153), (0, .nameAndType 154 155), (0, u "java/lang/System"), (0, u "arraycopy"), (0, u "(Ljava/lang/Object;ILjava/lang/Object;II)V"), (148, .methodref 305 306), (0, .class_ 307), (0, .nameAndType 308 309), (0, u "java/lang/Math"), (0, u "min"), (0, u "(II)I"), (29, .methodref 14 340), (0, .nameAndType 341 342), (0, u "copyOfRangeByte"), (0, u "([BII)[B"), (0, .methodref 14 344), (0, .nameAndType 345 346), (0, u "checkLength"), (0, u "(II)V"), (28, .class_ 376), (0, u "java/util/Arrays$ArrayList"), (68, u "$assertionsDisabled"), (269, u "MIN_ARRAY_SORT_GRAN"), (0, u "I"), (2, u "INSERTIONSORT_THRESHOLD"), (255, .class_ 976), (0, u "java/util/Arrays$ArrayItr")] 52

def k16m0 : Method := { name := "<init>", desc := "()V", sig := { parameters := [], returnType := none }, accessFlags := 2, code := none }
def k16c1 : Code := { maxStack := 4, maxLocals := 2, code := jdk_65_method_131_code, exceptionTable := #[], attributes := #[] }
def k16m1 : Method := { name := "checkLength", desc := "(II)V", sig := { parameters := [.int, .int], returnType := none }, accessFlags := 10, code := some k16c1 }
def k16c2 : Code := { maxStack := 3, maxLocals := 3, code := jdk_65_method_132_code, exceptionTable := #[], attributes := #[] }
def k16m2 : Method := { name := "copyOfRange", desc := "([BII)[B", sig := { parameters := [(.array .byte), .int, .int], returnType := some (.array .byte) }, accessFlags := 9, code := some k16c2 }
def k16c3 : Code := { maxStack := 6, maxLocals := 5, code := jdk_65_method_133_code, exceptionTable := #[], attributes := #[] }
def k16m3 : Method := { name := "copyOfRangeByte", desc := "([BII)[B", sig := { parameters := [(.array .byte), .int, .int], returnType := some (.array .byte) }, accessFlags := 10, code := some k16c3 }
/-- java/util/Arrays -/
def k16 : Class := { plain "java/util/Arrays" (some 0) with
  accessFlags := 49
  interfaces := #[]
  cf := some (fileOf pool16 14 #[.nestMembers #[975, 375, 113, 74]] #[{ accessFlags := 2, nameIndex := 5, descriptorIndex := 6, attributes := #[] }, { accessFlags := 10, nameIndex := 345, descriptorIndex := 346, attributes := #[] }, { accessFlags := 9, nameIndex := 139, descriptorIndex := 342, attributes := #[] }, { accessFlags := 10, nameIndex := 341, descriptorIndex := 342, attributes := #[] }] 49 2 #[] #[{ accessFlags := 26, nameIndex := 715, descriptorIndex := 716, attributes := #[] }, { accessFlags := 26, nameIndex := 719, descriptorIndex := 716, attributes := #[] }, { accessFlags := 4120, nameIndex := 445, descriptorIndex := 117, attributes := #[] }])
  fields := #[{ name := "MIN_ARRAY_SORT_GRAN", type := .int, accessFlags := 26, slot := 0, constantValue := 0 }, { name := "INSERTIONSORT_THRESHOLD", type := .int, accessFlags := 26, slot := 1, constantValue := 0 }, { name := "$assertionsDisabled", type := .boolean, accessFlags := 4120, slot := 2, constantValue := 0 }]
  methods := #[k16m0, k16m1, k16m2, k16m3]
  instanceTypes := #[]
  staticTypes := #[.int, .int, .boolean]
  resolved := Array.replicate 1029 none
  statics := none }

def pool17 : Array CpInfo := pool [(1, .class_ 2), (0, u "java/lang/Math"), (1, .class_ 6), (1, u "java/lang/Object"), (0, u "<init>"), (0, u "()V"), (89, .class_ 100), (1, u "java/lang/Math$RandomNumberGeneratorHolder"), (71, u "negativeZeroFloatBits"), (0, u "J"), (2, u "negativeZeroDoubleBits"), (24, u "min"), (43, u "$assertionsDisabled"), (0, u "Z"), (88, u "(II)I"), (2, u "twoToTheDoubleScaleDown"), (0, u "D"), (4, u "twoToTheDoubleScaleUp"), (9, u "E"), (3, u "PI"), (2, u "TAU"), (2, u "DEGREES_TO_RADIANS"), (0, u "RADIANS_TO_DEGREES")] 94

def k17m0 : Method := { name := "<init>", desc := "()V", sig := { parameters := [], returnType := none }, accessFlags := 2, code := none }
def k17c1 : Code := { maxStack := 2, maxLocals := 2, code := jdk_29_method_69_code, exceptionTable := #[], attributes := #[] }
def k17m1 : Method := { name := "min", desc := "(II)I", sig := { parameters := [.int, .int], returnType := some .int }, accessFlags := 9, code := some k17c1 }
/-- java/lang/Math -/
def k17 : Class := { plain "java/lang/Math" (some 0) with
  accessFlags := 49
  interfaces := #[]
  cf := some (fileOf pool17 1 #[.nestMembers #[98]] #[{ accessFlags := 2, nameIndex := 7, descriptorIndex := 8, attributes := #[] }, { accessFlags := 9, nameIndex := 201, descriptorIndex := 335, attributes := #[] }] 49 4 #[] #[{ accessFlags := 25, nameIndex := 354, descriptorIndex := 339, attributes := #[] }, { accessFlags := 25, nameIndex := 358, descriptorIndex := 339, attributes := #[] }, { accessFlags := 25, nameIndex := 361, descriptorIndex := 339, attributes := #[] }, { accessFlags := 26, nameIndex := 364, descriptorIndex := 339, attributes := #[] }, { accessFlags := 26, nameIndex := 365, descriptorIndex := 339, attributes := #[] }, { accessFlags := 26, nameIndex := 172, descriptorIndex := 173, attributes := #[] }, { accessFlags := 26, nameIndex := 176, descriptorIndex := 173, attributes := #[] }, { accessFlags := 8, nameIndex := 344, descriptorIndex := 339, attributes := #[] }, { accessFlags := 8, nameIndex := 338, descriptorIndex := 339, attributes := #[] }, { accessFlags := 4120, nameIndex := 245, descriptorIndex := 246, attributes := #[] }])
  fields := #[{ name := "E", type := .double, accessFlags := 25, slot := 0, constantValue := 0 }, { name := "PI", type := .double, accessFlags := 25, slot := 1, constantValue := 0 }, { name := "TAU", type := .double, accessFlags := 25, slot := 2, constantValue := 0 }, { name := "DEGREES_TO_RADIANS", type := .double, accessFlags := 26, slot := 3, constantValue := 0 }, { name := "RADIANS_TO_DEGREES", type := .double, accessFlags := 26, slot := 4, constantValue := 0 }, { name := "negativeZeroFloatBits", type := .long, accessFlags := 26, slot := 5, constantValue := 0 }, { name := "negativeZeroDoubleBits", type := .long, accessFlags := 26, slot := 6, constantValue := 0 }, { name := "twoToTheDoubleScaleUp", type := .double, accessFlags := 8, slot := 7, constantValue := 0 }, { name := "twoToTheDoubleScaleDown", type := .double, accessFlags := 8, slot := 8, constantValue := 0 }, { name := "$assertionsDisabled", type := .boolean, accessFlags := 4120, slot := 9, constantValue := 0 }]
  methods := #[k17m0, k17m1]
  instanceTypes := #[]
  staticTypes := #[.double, .double, .double, .double, .double, .long, .long, .double, .double, .boolean]
  resolved := Array.replicate 460 none
  statics := none }

def pool18 : Array CpInfo := pool [(1, .class_ 2), (0, u "java/lang/String"), (1, .class_ 6), (1, u "java/lang/Object"), (0, u "<init>"), (0, u "()V"), (0, .methodref 1 10), (0, .nameAndType 11 12), (0, u "checkIndex"), (0, u "(II)V"), (1, .class_ 16), (1, u "java/lang/StringLatin1"), (36, u "([BI)C"), (36, u "canEncode"), (14, u "(C)Z"), (15, u "$assertionsDisabled"), (0, u "Z"), (98, .class_ 223), (1, u "java/lang/StringLatin1$LinesSpliterator"), (28, u "charAt"), (127, u "toBytes"), (1, u "(C)[B"), (7, .class_ 391), (0, u "java/lang/StringLatin1$CharsSpliterator")] 3

def k18m0 : Method := { name := "<init>", desc := "()V", sig := { parameters := [], returnType := none }, accessFlags := 0, code := none }
def k18c1 : Code := { maxStack := 2, maxLocals := 2, code := jdk_43_method_2_code, exceptionTable := #[], attributes := #[] }
def k18m1 : Method := { name := "charAt", desc := "([BI)C", sig := { parameters := [(.array .byte), .int], returnType := some .char }, accessFlags := 9, code := some k18c1 }
def k18c2 : Code := { maxStack := 2, maxLocals := 1, code := jdk_43_method_3_code, exceptionTable := #[], attributes := #[] }
def k18m2 : Method := { name := "canEncode", desc := "(C)Z", sig := { parameters := [.char], returnType := some .boolean }, accessFlags := 9, code := some k18c2 }
def k18c3 : Code := { maxStack := 4, maxLocals := 1, code := jdk_43_method_46_code, exceptionTable := #[], attributes := #[] }
def k18m3 : Method := { name := "toBytes", desc := "(C)[B", sig := { parameters := [.char], returnType := some (.array .byte) }, accessFlags := 9, code := some k18c3 }
/-- java/lang/StringLatin1 -/
def k18 : Class := { plain "java/lang/StringLatin1" (some 0) with
  accessFlags := 48
  interfaces := #[]
  cf := some (fileOf pool18 14 #[.nestMembers #[390, 221]] #[{ accessFlags := 0, nameIndex := 7, descriptorIndex := 8, attributes := #[] }, { accessFlags := 9, nameIndex := 252, descriptorIndex := 53, attributes := #[] }, { accessFlags := 9, nameIndex := 90, descriptorIndex := 105, attributes := #[] }, { accessFlags := 9, nameIndex := 380, descriptorIndex := 382, attributes := #[] }] 48 4 #[] #[{ accessFlags := 4120, nameIndex := 121, descriptorIndex := 122, attributes := #[] }])
  fields := #[{ name := "$assertionsDisabled", type := .boolean, accessFlags := 4120, slot := 0, constantValue := 0 }]
  methods := #[k18m0, k18m1, k18m2, k18m3]
  instanceTypes := #[]
  staticTypes := #[.boolean]
  resolved := Array.replicate 395 none
  statics := none }

def pool19 : Array CpInfo := pool [(2, .class_ 4), (1, u "java/lang/Object"), (0, u "<init>"), (0, u "()V"), (17, .class_ 26), (1, u "jdk/internal/util/Preconditions"), (6, u "checkIndex"), (21, .class_ 56), (0, u "jdk/internal/util/Preconditions$4"), (57, .class_ 115), (0, u "jdk/internal/util/Preconditions$1"), (7, u "SIOOBE_FORMATTER"), (0, u "Ljava/util/function/BiFunction;"), (0, .class_ 126), (0, u "jdk/internal/util/Preconditions$2"), (3, u "AIOOBE_FORMATTER"), (0, .class_ 132), (0, u "jdk/internal/util/Preconditions$3"), (3, u "IOOBE_FORMATTER"), (41, u "(IILjava/util/function/BiFunction;)I")] 15

def k19m0 : Method := { name := "<init>", desc := "()V", sig := { parameters := [], returnType := none }, accessFlags := 1, code := none }
def k19c1 : Code := { maxStack := 3, maxLocals := 3, code := jdk_41_method_11_code, exceptionTable := #[], attributes := #[] }
def k19m1 : Method := { name := "checkIndex", desc := "(IILjava/util/function/BiFunction;)I", sig := { parameters := [.int, .int, (.object "java/util/function/BiFunction")], returnType := some .int }, accessFlags := 9, code := some k19c1 }
/-- jdk/internal/util/Preconditions -/
def k19 : Class := { plain "jdk/internal/util/Preconditions" (some 0) with
  accessFlags := 33
  interfaces := #[]
  cf := some (fileOf pool19 24 #[.nestMembers #[55, 131, 125, 114]] #[{ accessFlags := 1, nameIndex := 5, descriptorIndex := 6, attributes := #[] }, { accessFlags := 9, nameIndex := 33, descriptorIndex := 178, attributes := #[] }] 33 2 #[] #[{ accessFlags := 25, nameIndex := 123, descriptorIndex := 124, attributes := #[] }, { accessFlags := 25, nameIndex := 130, descriptorIndex := 124, attributes := #[] }, { accessFlags := 25, nameIndex := 136, descriptorIndex := 124, attributes := #[] }])
  fields := #[{ name := "SIOOBE_FORMATTER", type := (.object "java/util/function/BiFunction"), accessFlags := 25, slot := 0, constantValue := 0 }, { name := "AIOOBE_FORMATTER", type := (.object "java/util/function/BiFunction"), accessFlags := 25, slot := 1, constantValue := 0 }, { name := "IOOBE_FORMATTER", type := (.object "java/util/function/BiFunction"), accessFlags := 25, slot := 2, constantValue := 0 }]
  methods := #[k19m0, k19m1]
  instanceTypes := #[]
  staticTypes := #[(.object "java/util/function/BiFunction"), (.object "java/util/function/BiFunction"), (.object "java/util/function/BiFunction")]
  resolved := Array.replicate 194 none
  statics := some 2 }

def pool20 : Array CpInfo := pool [(6, .class_ 8), (1, u "java/lang/Object"), (0, u "<init>"), (0, u "()V"), (1, .class_ 14), (1, u "java/lang/StringUTF16"), (31, u "$assertionsDisabled"), (0, u "Z"), (13, u "HI_BYTE_SHIFT"), (0, u "I"), (2, u "LO_BYTE_SHIFT"), (49, .methodref 12 116), (0, .nameAndType 117 118), (0, u "compress"), (0, u "([CI[BII)I"), (3, u "([CII)[B"), (138, u "coderFromArrayLen"), (0, u "([BI)B"), (106, .class_ 371), (1, u "java/lang/StringUTF16$LinesSpliterator"), (58, u "MAX_LENGTH"), (196, .class_ 628), (0, u "java/lang/StringUTF16$CodePointsSpliterator"), (0, .class_ 630), (0, u "java/lang/StringUTF16$CharsSpliterator")] 4

def k20m0 : Method := { name := "<init>", desc := "()V", sig := { parameters := [], returnType := none }, accessFlags := 0, code := none }
def k20c1 : Code := { maxStack := 2, maxLocals := 2, code := jdk_52_method_15_code, exceptionTable := #[], attributes := #[] }
def k20m1 : Method := { name := "coderFromArrayLen", desc := "([BI)B", sig := { parameters := [(.array .byte), .int], returnType := some .byte }, accessFlags := 8, code := some k20c1 }
def k20c2 : Code := { maxStack := 5, maxLocals := 6, code := jdk_52_method_16_code, exceptionTable := #[], attributes := #[] }
def k20m2 : Method := { name := "compress", desc := "([CII)[B", sig := { parameters := [(.array .char), .int, .int], returnType := some (.array .byte) }, accessFlags := 9, code := some k20c2 }
def k20c3 : Code := { maxStack := 3, maxLocals := 7, code := jdk_52_method_21_code, exceptionTable := #[], attributes := #[] }
def k20m3 : Method := { name := "compress", desc := "([CI[BII)I", sig := { parameters := [(.array .char), .int, (.array .byte), .int, .int], returnType := some .int }, accessFlags := 9, code := some k20c3 }
/-- java/lang/StringUTF16 -/
def k20 : Class := { plain "java/lang/StringUTF16" (some 0) with
  accessFlags := 48
  interfaces := #[]
  cf := some (fileOf pool20 12 #[.nestMembers #[627, 629, 369]] #[{ accessFlags := 0, nameIndex := 9, descriptorIndex := 10, attributes := #[] }, { accessFlags := 8, nameIndex := 261, descriptorIndex := 262, attributes := #[] }, { accessFlags := 9, nameIndex := 117, descriptorIndex := 122, attributes := #[] }, { accessFlags := 9, nameIndex := 117, descriptorIndex := 118, attributes := #[] }] 48 6 #[] #[{ accessFlags := 26, nameIndex := 61, descriptorIndex := 62, attributes := #[] }, { accessFlags := 26, nameIndex := 65, descriptorIndex := 62, attributes := #[] }, { accessFlags := 24, nameIndex := 430, descriptorIndex := 62, attributes := #[] }, { accessFlags := 4120, nameIndex := 46, descriptorIndex := 47, attributes := #[] }])
  fields := #[{ name := "HI_BYTE_SHIFT", type := .int, accessFlags := 26, slot := 0, constantValue := 0 }, { name := "LO_BYTE_SHIFT", type := .int, accessFlags := 26, slot := 1, constantValue := 0 }, { name := "MAX_LENGTH", type := .int, accessFlags := 24, slot := 2, constantValue := 0 }, { name := "$assertionsDisabled", type := .boolean, accessFlags := 4120, slot := 3, constantValue := 0 }]
  methods := #[k20m0, k20m1, k20m2, k20m3]
  instanceTypes := #[]
  staticTypes := #[.int, .int, .int, .boolean]
  resolved := Array.replicate 635 none
  statics := none }

def pool21 : Array CpInfo := pool [(9, u "<init>"), (6, .class_ 18), (1, u "java/lang/Object"), (0, u "()V"), (1, .class_ 23), (1, u "jdk/internal/util/ArraysSupport"), (0, u "LOG2_ARRAY_LONG_INDEX_SCALE"), (0, u "I"), (2, u "U"), (0, u "Ljdk/internal/misc/Unsafe;"), (8, u "BIG_ENDIAN"), (0, u "Z"), (8, u "LOG2_BYTE_BIT_SIZE"), (4, u "LOG2_ARRAY_INT_INDEX_SCALE"), (54, u "JLA"), (0, u "Ljdk/internal/access/JavaLangAccess;"), (11, u "LOG2_ARRAY_BOOLEAN_INDEX_SCALE"), (9, u "LOG2_ARRAY_BYTE_INDEX_SCALE"), (5, u "LOG2_ARRAY_CHAR_INDEX_SCALE"), (5, u "LOG2_ARRAY_SHORT_INDEX_SCALE"), (18, u "LOG2_ARRAY_FLOAT_INDEX_SCALE"), (24, u "LOG2_ARRAY_DOUBLE_INDEX_SCALE"), (89, u "T_BOOLEAN"), (2, u "T_CHAR"), (1, u "T_FLOAT"), (1, u "T_DOUBLE"), (1, u "T_BYTE"), (1, u "T_SHORT"), (1, u "T_INT"), (1, u "T_LONG"), (1, u "SOFT_MAX_ARRAY_LENGTH")] 83

def k21m0 : Method := { name := "<init>", desc := "()V", sig := { parameters := [], returnType := none }, accessFlags := 2, code := none }
/-- jdk/internal/util/ArraysSupport -/
def k21 : Class := { plain "jdk/internal/util/ArraysSupport" (some 0) with
  accessFlags := 33
  interfaces := #[]
  cf := some (fileOf pool21 21 #[] #[{ accessFlags := 2, nameIndex := 9, descriptorIndex := 19, attributes := #[] }] 33 16 #[] #[{ accessFlags := 24, nameIndex := 28, descriptorIndex := 29, attributes := #[] }, { accessFlags := 26, nameIndex := 38, descriptorIndex := 39, attributes := #[] }, { accessFlags := 25, nameIndex := 121, descriptorIndex := 25, attributes := #[] }, { accessFlags := 25, nameIndex := 131, descriptorIndex := 25, attributes := #[] }, { accessFlags := 25, nameIndex := 137, descriptorIndex := 25, attributes := #[] }, { accessFlags := 25, nameIndex := 143, descriptorIndex := 25, attributes := #[] }, { accessFlags := 25, nameIndex := 53, descriptorIndex := 25, attributes := #[] }, { accessFlags := 25, nameIndex := 24, descriptorIndex := 25, attributes := #[] }, { accessFlags := 25, nameIndex := 162, descriptorIndex := 25, attributes := #[] }, { accessFlags := 25, nameIndex := 187, descriptorIndex := 25, attributes := #[] }, { accessFlags := 26, nameIndex := 48, descriptorIndex := 25, attributes := #[] }, { accessFlags := 25, nameIndex := 277, descriptorIndex := 25, attributes := #[] }, { accessFlags := 25, nameIndex := 280, descriptorIndex := 25, attributes := #[] }, { accessFlags := 25, nameIndex := 282, descriptorIndex := 25, attributes := #[] }, { accessFlags := 25, nameIndex := 284, descriptorIndex := 25, attributes := #[] }, { accessFlags := 25, nameIndex := 286, descriptorIndex := 25, attributes := #[] }, { accessFlags := 25, nameIndex := 288, descriptorIndex := 25, attributes := #[] }, { accessFlags := 25, nameIndex := 290, descriptorIndex := 25, attributes := #[] }, { accessFlags := 25, nameIndex := 292, descriptorIndex := 25, attributes := #[] }, { accessFlags := 26, nameIndex := 108, descriptorIndex := 109, attributes := #[] }, { accessFlags := 25, nameIndex := 294, descriptorIndex := 25, attributes := #[] }])
  fields := #[{ name := "U", type := (.object "jdk/internal/misc/Unsafe"), accessFlags := 24, slot := 0, constantValue := 0 }, { name := "BIG_ENDIAN", type := .boolean, accessFlags := 26, slot := 1, constantValue := 0 }, { name := "LOG2_ARRAY_BOOLEAN_INDEX_SCALE", type := .int, accessFlags := 25, slot := 2, constantValue := 0 }, { name := "LOG2_ARRAY_BYTE_INDEX_SCALE", type := .int, accessFlags := 25, slot := 3, constantValue := 0 }, { name := "LOG2_ARRAY_CHAR_INDEX_SCALE", type := .int, accessFlags := 25, slot := 4, constantValue := 0 }, { name := "LOG2_ARRAY_SHORT_INDEX_SCALE", type := .int, accessFlags := 25, slot := 5, constantValue := 0 }, { name := "LOG2_ARRAY_INT_INDEX_SCALE", type := .int, accessFlags := 25, slot := 6, constantValue := 0 }, { name := "LOG2_ARRAY_LONG_INDEX_SCALE", type := .int, accessFlags := 25, slot := 7, constantValue := 0 }, { name := "LOG2_ARRAY_FLOAT_INDEX_SCALE", type := .int, accessFlags := 25, slot := 8, constantValue := 0 }, { name := "LOG2_ARRAY_DOUBLE_INDEX_SCALE", type := .int, accessFlags := 25, slot := 9, constantValue := 0 }, { name := "LOG2_BYTE_BIT_SIZE", type := .int, accessFlags := 26, slot := 10, constantValue := 0 }, { name := "T_BOOLEAN", type := .int, accessFlags := 25, slot := 11, constantValue := 0 }, { name := "T_CHAR", type := .int, accessFlags := 25, slot := 12, constantValue := 0 }, { name := "T_FLOAT", type := .int, accessFlags := 25, slot := 13, constantValue := 0 }, { name := "T_DOUBLE", type := .int, accessFlags := 25, slot := 14, constantValue := 0 }, { name := "T_BYTE", type := .int, accessFlags := 25, slot := 15, constantValue := 0 }, { name := "T_SHORT", type := .int, accessFlags := 25, slot := 16, constantValue := 0 }, { name := "T_INT", type := .int, accessFlags := 25, slot := 17, constantValue := 0 }, { name := "T_LONG", type := .int, accessFlags := 25, slot := 18, constantValue := 0 }, { name := "JLA", type := (.object "jdk/internal/access/JavaLangAccess"), accessFlags := 26, slot := 19, constantValue := 0 }, { name := "SOFT_MAX_ARRAY_LENGTH", type := .int, accessFlags := 25, slot := 20, constantValue := 0 }]
  methods := #[k21m0]
  instanceTypes := #[]
  staticTypes := #[(.object "jdk/internal/misc/Unsafe"), .boolean, .int, .int, .int, .int, .int, .int, .int, .int, .int, .int, .int, .int, .int, .int, .int, .int, .int, (.object "jdk/internal/access/JavaLangAccess"), .int]
  resolved := Array.replicate 378 none
  statics := none }

def pool22 : Array CpInfo := pool [(2, .class_ 4), (1, u "java/lang/Object"), (0, u "<init>"), (0, u "()V"), (12, .class_ 20), (0, u "java/util/Collections"), (63, u "r"), (0, u "Ljava/util/Random;"), (80, .class_ 167), (0, u "java/util/Collections$UnmodifiableCollection"), (6, .class_ 175), (0, u "java/util/Collections$UnmodifiableSequencedCollection"), (6, .class_ 183), (0, u "java/util/Collections$UnmodifiableSet"), (6, .class_ 191), (0, u "java/util/Collections$UnmodifiableSequencedSet"), (6, .class_ 199), (0, u "java/util/Collections$UnmodifiableSortedSet"), (6, .class_ 207), (0, u "java/util/Collections$UnmodifiableNavigableSet"), (4, .class_ 213), (0, u "java/util/Collections$UnmodifiableList"), (1, .class_ 216), (0, u "java/util/Collections$UnmodifiableRandomAccessList"), (6, .class_ 224), (0, u "java/util/Collections$UnmodifiableMap"), (6, .class_ 232), (0, u "java/util/Collections$UnmodifiableSequencedMap"), (4, .class_ 238), (0, u "java/util/Collections$UnmodifiableSortedMap"), (6, .class_ 246), (0, u "java/util/Collections$UnmodifiableNavigableMap"), (3, .class_ 251), (0, u "java/util/Collections$SynchronizedCollection"), (4, .class_ 257), (0, u "java/util/Collections$SynchronizedSet"), (4, .class_ 263), (0, u "java/util/Collections$SynchronizedSortedSet"), (1, .class_ 266), (0, u "java/util/Collections$SynchronizedNavigableSet"), (1, .class_ 269), (0, u "java/util/Collections$SynchronizedRandomAccessList"), (1, .class_ 272), (0, u "java/util/Collections$SynchronizedList"), (5, .class_ 279), (0, u "java/util/Collections$SynchronizedMap"), (1, .class_ 282), (0, u "java/util/Collections$SynchronizedSortedMap"), (1, .class_ 285), (0, u "java/util/Collections$SynchronizedNavigableMap"), (1, .class_ 288), (0, u "java/util/Collections$CheckedCollection"), (11, .class_ 301), (0, u "java/util/Collections$CheckedQueue"), (3, .class_ 306), (0, u "java/util/Collections$CheckedSet"), (3, .class_ 311), (0, u "java/util/Collections$CheckedSortedSet"), (3, .class_ 316), (0, u "java/util/Collections$CheckedNavigableSet"), (3, .class_ 321), (0, u "java/util/Collections$CheckedRandomAccessList"), (3, .class_ 326), (0, u "java/util/Collections$CheckedList"), (1, .class_ 329), (0, u "java/util/Collections$CheckedMap"), (3, .class_ 334), (0, u "java/util/Collections$CheckedSortedMap"), (3, .class_ 339), (0, u "java/util/Collections$CheckedNavigableMap"), (4, .class_ 346), (1, u "java/util/Collections$EmptyIterator"), (3, .class_ 352), (1, u "java/util/Collections$EmptyListIterator"), (2, .class_ 357), (1, u "java/util/Collections$EmptyEnumeration"), (4, u "EMPTY_SET"), (0, u "Ljava/util/Set;"), (6, u "EMPTY_LIST"), (0, u "Ljava/util/List;"), (2, u "EMPTY_MAP"), (0, u "Ljava/util/Map;"), (4, .class_ 381), (0, u "java/util/Collections$SingletonSet"), (2, .class_ 385), (0, u "java/util/Collections$1"), (1, .class_ 388), (0, u "java/util/Collections$2"), (1, .class_ 391), (0, u "java/util/Collections$SingletonList"), (1, .class_ 394), (0, u "java/util/Collections$SingletonMap"), (22, .class_ 418), (0, u "java/util/Collections$CopiesList"), (4, .class_ 425), (1, u "java/util/Collections$ReverseComparator"), (8, .class_ 435), (0, u "java/util/Collections$ReverseComparator2"), (6, .class_ 443), (0, u "java/util/Collections$3"), (25, .class_ 470), (0, u "java/util/Collections$SetFromMap"), (2, .class_ 474), (0, u "java/util/Collections$SequencedSetFromMap"), (3, .class_ 479), (0, u "java/util/Collections$AsLIFOQueue"), (11, .class_ 492), (0, u "java/util/Collections$EmptySet"), (1, .class_ 495), (0, u "java/util/Collections$EmptyList"), (1, .class_ 498), (0, u "java/util/Collections$EmptyMap"), (1, u "BINARYSEARCH_THRESHOLD"), (0, u "I"), (2, u "REVERSE_THRESHOLD"), (1, u "SHUFFLE_THRESHOLD"), (1, u "FILL_THRESHOLD"), (1, u "ROTATE_THRESHOLD"), (1, u "COPY_THRESHOLD"), (1, u "REPLACEALL_THRESHOLD"), (1, u "INDEXOFSUBLIST_THRESHOLD"), (333, .class_ 851), (0, u "java/util/Collections$CheckedMap$CheckedEntrySet"), (0, .class_ 853), (0, u "java/util/Collections$CheckedMap$CheckedEntrySet$CheckedEntry"), (0, .class_ 855), (0, u "java/util/Collections$CheckedMap$CheckedEntrySet$1"), (0, .class_ 857), (0, u "java/util/Collections$CheckedList$1"), (0, .class_ 859), (0, u "java/util/Collections$CheckedCollection$1"), (0, .class_ 861), (0, u "java/util/Collections$UnmodifiableNavigableMap$EmptyNavigableMap"), (0, .class_ 863), (0, u "java/util/Collections$UnmodifiableMap$UnmodifiableEntrySet"), (0, .class_ 865), (0, u "java/util/Collections$UnmodifiableMap$UnmodifiableEntrySet$UnmodifiableEntry"), (0, .class_ 867), (0, u "java/util/Collections$UnmodifiableMap$UnmodifiableEntrySet$UnmodifiableEntrySetSpliterator"), (0, .class_ 869), (0, u "java/util/Collections$UnmodifiableMap$UnmodifiableEntrySet$1"), (0, .class_ 871), (0, u "java/util/Collections$UnmodifiableList$1"), (0, .class_ 873), (0, u "java/util/Collections$UnmodifiableNavigableSet$EmptyNavigableSet"), (0, .class_ 875), (0, u "java/util/Collections$UnmodifiableCollection$1")] 57

def k22m0 : Method := { name := "<init>", desc := "()V", sig := { parameters := [], returnType := none }, accessFlags := 2, code := none }
/-- java/util/Collections -/
def k22 : Class := { plain "java/util/Collections" (some 0) with
  accessFlags := 33
  interfaces := #[]
  cf := some (fileOf pool22 19 #[.nestMembers #[478, 473, 469, 434, 423, 417, 393, 390, 380, 497, 494, 491, 355, 350, 344, 338, 333, 328, 850, 852, 854, 320, 325, 856, 315, 310, 305, 300, 287, 858, 284, 281, 278, 268, 271, 265, 262, 256, 250, 245, 860, 237, 231, 223, 862, 864, 866, 868, 215, 212, 870, 206, 872, 198, 190, 182, 174, 166, 874, 442, 387, 384]] #[{ accessFlags := 2, nameIndex := 5, descriptorIndex := 6, attributes := #[] }] 33 2 #[] #[{ accessFlags := 26, nameIndex := 500, descriptorIndex := 501, attributes := #[] }, { accessFlags := 26, nameIndex := 504, descriptorIndex := 501, attributes := #[] }, { accessFlags := 26, nameIndex := 506, descriptorIndex := 501, attributes := #[] }, { accessFlags := 26, nameIndex := 508, descriptorIndex := 501, attributes := #[] }, { accessFlags := 26, nameIndex := 510, descriptorIndex := 501, attributes := #[] }, { accessFlags := 26, nameIndex := 512, descriptorIndex := 501, attributes := #[] }, { accessFlags := 26, nameIndex := 514, descriptorIndex := 501, attributes := #[] }, { accessFlags := 26, nameIndex := 516, descriptorIndex := 501, attributes := #[] }, { accessFlags := 10, nameIndex := 84, descriptorIndex := 85, attributes := #[] }, { accessFlags := 25, nameIndex := 362, descriptorIndex := 363, attributes := #[] }, { accessFlags := 25, nameIndex := 370, descriptorIndex := 371, attributes := #[] }, { accessFlags := 25, nameIndex := 374, descriptorIndex := 375, attributes := #[] }])
  fields := #[{ name := "BINARYSEARCH_THRESHOLD", type := .int, accessFlags := 26, slot := 0, constantValue := 0 }, { name := "REVERSE_THRESHOLD", type := .int, accessFlags := 26, slot := 1, constantValue := 0 }, { name := "SHUFFLE_THRESHOLD", type := .int, accessFlags := 26, slot := 2, constantValue := 0 }, { name := "FILL_THRESHOLD", type := .int, accessFlags := 26, slot := 3, constantValue := 0 }, { name := "ROTATE_THRESHOLD", type := .int, accessFlags := 26, slot := 4, constantValue := 0 }, { name := "COPY_THRESHOLD", type := .int, accessFlags := 26, slot := 5, constantValue := 0 }, { name := "REPLACEALL_THRESHOLD", type := .int, accessFlags := 26, slot := 6, constantValue := 0 }, { name := "INDEXOFSUBLIST_THRESHOLD", type := .int, accessFlags := 26, slot := 7, constantValue := 0 }, { name := "r", type := (.object "java/util/Random"), accessFlags := 10, slot := 8, constantValue := 0 }, { name := "EMPTY_SET", type := (.object "java/util/Set"), accessFlags := 25, slot := 9, constantValue := 0 }, { name := "EMPTY_LIST", type := (.object "java/util/List"), accessFlags := 25, slot := 10, constantValue := 0 }, { name := "EMPTY_MAP", type := (.object "java/util/Map"), accessFlags := 25, slot := 11, constantValue := 0 }]
  methods := #[k22m0]
  instanceTypes := #[]
  staticTypes := #[.int, .int, .int, .int, .int, .int, .int, .int, (.object "java/util/Random"), (.object "java/util/Set"), (.object "java/util/List"), (.object "java/util/Map")]
  resolved := Array.replicate 933 none
  statics := some 3 }

def pool23 : Array CpInfo := pool [(8, .class_ 10), (1, u "java/lang/Iterable"), (24, .class_ 36), (0, u "java/lang/Object")] 25

/-- java/lang/Iterable -/
def k23 : Class := { plain "java/lang/Iterable" (some 0) with
  accessFlags := 1537
  interfaces := #[]
  cf := some (fileOf pool23 8 #[] #[] 1537 35 #[] #[])
  fields := #[]
  methods := #[]
  instanceTypes := #[]
  staticTypes := #[]
  resolved := Array.replicate 62 none
  statics := none }

def pool24 : Array CpInfo := pool [(10, .class_ 12), (1, u "java/util/Collection"), (47, .class_ 61), (0, u "java/lang/Object"), (0, .class_ 63), (0, u "java/lang/Iterable")] 51

/-- java/util/Collection -/
def k24 : Class := { plain "java/util/Collection" (some 0) with
  accessFlags := 1537
  interfaces := #[23]
  cf := some (fileOf pool24 10 #[] #[] 1537 60 #[62] #[])
  fields := #[]
  methods := #[]
  instanceTypes := #[]
  staticTypes := #[]
  resolved := Array.replicate 115 none
  statics := none }

def pool25 : Array CpInfo := pool [(2, .class_ 4), (1, u "java/lang/Object"), (0, u "<init>"), (0, u "()V"), (1, .class_ 10), (1, u "java/util/AbstractCollection"), (66, .class_ 78), (0, u "java/util/Collection")] 81

def k25m0 : Method := { name := "<init>", desc := "()V", sig := { parameters := [], returnType := none }, accessFlags := 4, code := none }
/-- java/util/AbstractCollection -/
def k25 : Class := { plain "java/util/AbstractCollection" (some 0) with
  accessFlags := 1057
  interfaces := #[24]
  cf := some (fileOf pool25 8 #[] #[{ accessFlags := 4, nameIndex := 5, descriptorIndex := 6, attributes := #[] }] 1057 2 #[77] #[])
  fields := #[]
  methods := #[k25m0]
  instanceTypes := #[]
  staticTypes := #[]
  resolved := Array.replicate 160 none
  statics := none }

def pool26 : Array CpInfo := pool [(8, .class_ 10), (1, u "java/util/SequencedCollection"), (15, .class_ 27), (0, u "java/lang/Object"), (0, .class_ 29), (0, u "java/util/Collection")] 27

/-- java/util/SequencedCollection -/
def k26 : Class := { plain "java/util/SequencedCollection" (some 0) with
  accessFlags := 1537
  interfaces := #[24]
  cf := some (fileOf pool26 8 #[] #[] 1537 26 #[28] #[])
  fields := #[]
  methods := #[]
  instanceTypes := #[]
  staticTypes := #[]
  resolved := Array.replicate 57 none
  statics := none }

def pool27 : Array CpInfo := pool [(8, .class_ 10), (1, u "java/util/List"), (92, .class_ 104), (0, u "java/lang/Object"), (15, .class_ 121), (0, u "java/util/SequencedCollection")] 129

/-- java/util/List -/
def k27 : Class := { plain "java/util/List" (some 0) with
  accessFlags := 1537
  interfaces := #[26]
  cf := some (fileOf pool27 8 #[] #[] 1537 103 #[120] #[])
  fields := #[]
  methods := #[]
  instanceTypes := #[]
  staticTypes := #[]
  resolved := Array.replicate 251 none
  statics := none }

def pool28 : Array CpInfo := pool [(2, .class_ 4), (1, u "java/util/AbstractCollection"), (0, u "<init>"), (0, u "()V"), (1, .class_ 10), (1, u "java/util/AbstractList"), (0, u "modCount"), (0, u "I"), (64, .class_ 78), (0, u "java/util/AbstractList$Itr"), (3, .class_ 83), (0, u "java/util/AbstractList$ListItr"), (9, .class_ 94), (0, u "java/util/AbstractList$RandomAccessSubList"), (3, .class_ 99), (0, u "java/util/AbstractList$SubList"), (33, .class_ 134), (0, u "java/util/List"), (73, .class_ 209), (0, u "java/util/AbstractList$SubList$1"), (0, .class_ 211), (0, u "java/util/AbstractList$RandomAccessSpliterator")] 6

def k28m0 : Method := { name := "<init>", desc := "()V", sig := { parameters := [], returnType := none }, accessFlags := 4, code := none }
/-- java/util/AbstractList -/
def k28 : Class := { plain "java/util/AbstractList" (some 25) with
  accessFlags := 1057
  interfaces := #[27]
  cf := some (fileOf pool28 8 #[.nestMembers #[93, 98, 208, 210, 82, 77]] #[{ accessFlags := 4, nameIndex := 5, descriptorIndex := 6, attributes := #[] }] 1057 2 #[133] #[{ accessFlags := 132, nameIndex := 11, descriptorIndex := 12, attributes := #[] }])
  fields := #[{ name := "modCount", type := .int, accessFlags := 132, slot := 0, constantValue := 0 }]
  methods := #[k28m0]
  instanceTypes := #[.int]
  staticTypes := #[]
  resolved := Array.replicate 218 none
  statics := none }

def pool29 : Array CpInfo := pool [(1, .class_ 2), (0, u "java/util/RandomAccess"), (0, .class_ 4), (0, u "java/lang/Object")] 2

/-- java/util/RandomAccess -/
def k29 : Class := { plain "java/util/RandomAccess" (some 0) with
  accessFlags := 1537
  interfaces := #[]
  cf := some (fileOf pool29 1 #[] #[] 1537 3 #[] #[])
  fields := #[]
  methods := #[]
  instanceTypes := #[]
  staticTypes := #[]
  resolved := Array.replicate 7 none
  statics := none }

def pool30 : Array CpInfo := pool [(2, .class_ 4), (1, u "java/util/AbstractList"), (0, u "<init>"), (0, u "()V"), (1, .class_ 10), (1, u "java/util/Collections"), (54, .class_ 66), (0, u "java/util/Collections$EmptyList"), (0, .class_ 68), (0, u "java/util/RandomAccess"), (0, .class_ 70), (0, u "java/io/Serializable"), (0, u "serialVersionUID"), (0, u "J")] 77

def k30m0 : Method := { name := "<init>", desc := "()V", sig := { parameters := [], returnType := none }, accessFlags := 2, code := none }
/-- java/util/Collections$EmptyList -/
def k30 : Class := { plain "java/util/Collections$EmptyList" (some 28) with
  accessFlags := 32
  interfaces := #[29, 2]
  cf := some (fileOf pool30 65 #[.nestHost 8] #[{ accessFlags := 2, nameIndex := 5, descriptorIndex := 6, attributes := #[] }] 32 2 #[67, 69] #[{ accessFlags := 26, nameIndex := 71, descriptorIndex := 72, attributes := #[] }])
  fields := #[{ name := "serialVersionUID", type := .long, accessFlags := 26, slot := 0, constantValue := 0 }]
  methods := #[k30m0]
  instanceTypes := #[.int]
  staticTypes := #[.long]
  resolved := Array.replicate 150 none
  statics := none }

def pool31 : Array CpInfo := pool [(2, .class_ 4), (1, u "java/lang/StackTraceElement"), (0, u "<init>"), (2, .class_ 10), (1, u "java/lang/Object"), (0, u "()V"), (2, u "format"), (0, u "B"), (2, u "classLoaderName"), (0, u "Ljava/lang/String;"), (2, u "moduleName"), (2, u "moduleVersion"), (12, u "declaringClass"), (4, u "methodName"), (2, u "fileName"), (2, u "lineNumber"), (0, u "I"), (65, u "declaringClassObject"), (0, u "Ljava/lang/Class;"), (33, .class_ 153), (1, u "java/lang/StackTraceElement$HashedModules"), (17, .class_ 172), (0, u "java/io/Serializable"), (0, u "NATIVE_METHOD"), (1, u "UNKNOWN_SOURCE"), (2, u "BUILTIN_CLASS_LOADER"), (1, u "JDK_NON_UPGRADEABLE_MODULE"), (1, u "serialVersionUID"), (0, u "J")] 51

def k31m0 : Method := { name := "<init>", desc := "()V", sig := { parameters := [], returnType := none }, accessFlags := 2, code := none }
/-- java/lang/StackTraceElement -/
def k31 : Class := { plain "java/lang/StackTraceElement" (some 0) with
  accessFlags := 49
  interfaces := #[2]
  cf := some (fileOf pool31 2 #[.nestMembers #[151]] #[{ accessFlags := 2, nameIndex := 5, descriptorIndex := 11, attributes := #[] }] 49 8 #[171] #[{ accessFlags := 26, nameIndex := 173, descriptorIndex := 19, attributes := #[] }, { accessFlags := 26, nameIndex := 175, descriptorIndex := 19, attributes := #[] }, { accessFlags := 130, nameIndex := 116, descriptorIndex := 117, attributes := #[] }, { accessFlags := 2, nameIndex := 18, descriptorIndex := 19, attributes := #[] }, { accessFlags := 2, nameIndex := 22, descriptorIndex := 19, attributes := #[] }, { accessFlags := 2, nameIndex := 25, descriptorIndex := 19, attributes := #[] }, { accessFlags := 2, nameIndex := 38, descriptorIndex := 19, attributes := #[] }, { accessFlags := 2, nameIndex := 43, descriptorIndex := 19, attributes := #[] }, { accessFlags := 2, nameIndex := 46, descriptorIndex := 19, attributes := #[] }, { accessFlags := 2, nameIndex := 49, descriptorIndex := 50, attributes := #[] }, { accessFlags := 2, nameIndex := 14, descriptorIndex := 15, attributes := #[] }, { accessFlags := 26, nameIndex := 178, descriptorIndex := 15, attributes := #[] }, { accessFlags := 26, nameIndex := 180, descriptorIndex := 15, attributes := #[] }, { accessFlags := 26, nameIndex := 182, descriptorIndex := 183, attributes := #[] }])
  fields := #[{ name := "NATIVE_METHOD", type := (.object "java/lang/String"), accessFlags := 26, slot := 0, constantValue := 0 }, { name := "UNKNOWN_SOURCE", type := (.object "java/lang/String"), accessFlags := 26, slot := 1, constantValue := 0 }, { name := "declaringClassObject", type := (.object "java/lang/Class"), accessFlags := 130, slot := 0, constantValue := 0 }, { name := "classLoaderName", type := (.object "java/lang/String"), accessFlags := 2, slot := 1, constantValue := 0 }, { name := "moduleName", type := (.object "java/lang/String"), accessFlags := 2, slot := 2, constantValue := 0 }, { name := "moduleVersion", type := (.object "java/lang/String"), accessFlags := 2, slot := 3, constantValue := 0 }, { name := "declaringClass", type := (.object "java/lang/String"), accessFlags := 2, slot := 4, constantValue := 0 }, { name := "methodName", type := (.object "java/lang/String"), accessFlags := 2, slot := 5, constantValue := 0 }, { name := "fileName", type := (.object "java/lang/String"), accessFlags := 2, slot := 6, constantValue := 0 }, { name := "lineNumber", type := .int, accessFlags := 2, slot := 7, constantValue := 0 }, { name := "format", type := .byte, accessFlags := 2, slot := 8, constantValue := 0 }, { name := "BUILTIN_CLASS_LOADER", type := .byte, accessFlags := 26, slot := 2, constantValue := 0 }, { name := "JDK_NON_UPGRADEABLE_MODULE", type := .byte, accessFlags := 26, slot := 3, constantValue := 0 }, { name := "serialVersionUID", type := .long, accessFlags := 26, slot := 4, constantValue := 0 }]
  methods := #[k31m0]
  instanceTypes := #[(.object "java/lang/Class"), (.object "java/lang/String"), (.object "java/lang/String"), (.object "java/lang/String"), (.object "java/lang/String"), (.object "java/lang/String"), (.object "java/lang/String"), .int, .byte]
  staticTypes := #[(.object "java/lang/String"), (.object "java/lang/String"), .byte, .byte, .long]
  resolved := Array.replicate 235 none
  statics := none }

def pool32 : Array CpInfo := pool [(1, u "java/lang/Cloneable"), (0, .class_ 1), (0, u "java/lang/Object"), (0, .class_ 3)] 3

/-- java/lang/Cloneable -/
def k32 : Class := { plain "java/lang/Cloneable" (some 0) with
  accessFlags := 1537
  interfaces := #[]
  cf := some (fileOf pool32 2 #[] #[] 1537 4 #[] #[])
  fields := #[]
  methods := #[]
  instanceTypes := #[]
  staticTypes := #[]
  resolved := Array.replicate 8 none
  statics := none }

/-- the primitive byte -/
def k33 : Class := { plain "byte" none with kind := .primitive 'B', accessFlags := 0x411 }
/-- [B -/
def k34 : Class := { plain "[B" (some 0) with kind := .array 33 .byte, interfaces := #[32, 2], accessFlags := 1041 }

/-- the primitive char -/
def k35 : Class := { plain "char" none with kind := .primitive 'C', accessFlags := 0x411 }
/-- [C -/
def k36 : Class := { plain "[C" (some 0) with kind := .array 35 .char, interfaces := #[32, 2], accessFlags := 1041 }

/-- the primitive int -/
def k37 : Class := { plain "int" none with kind := .primitive 'I', accessFlags := 0x411 }
/-- [I -/
def k38 : Class := { plain "[I" (some 0) with kind := .array 37 .int, interfaces := #[32, 2], accessFlags := 1041 }

/-- [Ljava/lang/Object; -/
def k39 : Class := { plain "[Ljava/lang/Object;" (some 0) with kind := .array 0 (.object "java/lang/Object"), interfaces := #[32, 2], accessFlags := 1041 }

/-- [Ljava/lang/StackTraceElement; -/
def k40 : Class := { plain "[Ljava/lang/StackTraceElement;" (some 0) with kind := .array 31 (.object "java/lang/StackTraceElement"), interfaces := #[32, 2], accessFlags := 1041 }

/-- [Ljava/lang/Throwable; -/
def k41 : Class := { plain "[Ljava/lang/Throwable;" (some 0) with kind := .array 9 (.object "java/lang/Throwable"), interfaces := #[32, 2], accessFlags := 1041 }

def heap : Heap := #[{ cls := 7, slots := #[.long 0, .int 1, .null, .int 0, .null, .int 0, .int 0], vm := .statics 7 },
  { cls := 9, slots := #[.long 0, .ref 4, .ref 5, .null, .null, .null, .null, .ref 6, .int 1], vm := .statics 9 },
  { cls := 19, slots := #[.null, .null, .null], vm := .statics 19 },
  { cls := 22, slots := #[.int 0, .int 0, .int 0, .int 0, .int 0, .int 0, .int 0, .int 0, .null, .null, .ref 5, .null], vm := .statics 22 },
  { cls := 40, slots := #[], vm := .none },
  { cls := 30, slots := #[.int 0], vm := .none },
  { cls := 41, slots := #[], vm := .none }]
def classes : Array Class := #[k0, k1, k2, k3, k4, k5, k6, k7, k8, k9, k10, k11, k12, k13, k14, k15, k16, k17, k18, k19, k20, k21, k22, k23, k24, k25, k26, k27, k28, k29, k30, k31, k32, k33, k34, k35, k36, k37, k38, k39, k40, k41]
def interned : List (Array UInt16 × Addr) := []
def slotsUsed : Nat := 32
def theMethod : MethodId := ⟨1, 1⟩
def args0 : Array Value := #[.int 0, .int 0, .int 0, .int 0]
def aboutOver (below : List Frame) : State where
  vm := { classes := classes, interned := interned.toArray }
  heap := heap
  slotsUsed := slotsUsed
  threads := #[{ frames := .invoking theMethod args0 :: below }]
def below0 : List Frame := [.native { method := ⟨0, 0⟩, args := #[] }]
def about1 : State := aboutOver below0
def p0 : Program := .bare "" "" ""
def e0 : Env := launch0.env 0 0 0
theorem w_frames : about1.frames = Frame.invoking theMethod args0 :: below0 := rfl
set_option maxRecDepth 65536 in
theorem w_args : argsFit about1.vm theMethod args0 = true := by decide +kernel
set_option maxRecDepth 65536 in
theorem w_heap : heapFits about1 = true := by decide +kernel
set_option maxRecDepth 65536 in
theorem w_runnable : about1.curStatus? = some .runnable := by decide +kernel
set_option maxRecDepth 65536 in
theorem w_alone : about1.alone = true := by decide +kernel
set_option maxRecDepth 65536 in
theorem w_named : about1.methodNamed? x = some theMethod := by decide +kernel
set_option maxRecDepth 65536 in
theorem w_hears : about1.hears theMethod below0 = true := by decide +kernel
set_option maxRecDepth 65536 in
theorem w_ripe : about1.ripe theMethod args0 below0 = true := by decide +kernel
theorem w_running : about1.status = .running := rfl
set_option maxRecDepth 65536 in
theorem w_room : about1.hasRoom e0.platform room_1 = true :=
  launch0.hasRoom_least _ room_1 (by decide +kernel) (by decide +kernel) (by decide +kernel) (by decide +kernel) (by decide +kernel) (by decide +kernel)
theorem allAtoms_all (ts : List Jvm.Cond) (a : Array Jvm.Value) (st : Jvm.State) : (allAtoms ts).before a st = ts.all (fun c => c.before a st) := by
  induction ts with
  | nil => rfl
  | cons c t ih =>
    show (Jvm.Cond.and c (allAtoms t)).before a st = _
    rw [Jvm.Cond.before_and, ih, List.all_cons]
def words1 : List Jvm.Cond := Jvm.Cond.code x code maxLocals ret :: tables_1
/-- a 'code' word, met by the world's own term for the bytes: nothing is compared byte by byte -/
theorem code_word {y : MethodName} {bytes : ByteArray} {mx : Nat} {rt : Option FieldType} {a : Array Value} {s : State} {m : MethodId} {meth : Method} {c : Code} (h1 : s.methodNamed? y = some m) (h2 : s.vm.method? m = some meth) (h3 : meth.code = some c) (h4 : c.code = bytes)
    (h5 : (c.maxLocals == mx && c.exceptionTable.isEmpty && decide (c.maxStack ≤ mostOperands) && decide (meth.sig.returnType = rt) && !meth.locks && decide (parseMethodDescriptor y.desc = some meth.sig)) = true) : (Jvm.Cond.code y bytes mx rt).before a s = true := by
  simp only [Bool.and_eq_true, beq_iff_eq, Bool.not_eq_true', decide_eq_true_eq] at h5
  obtain ⟨⟨⟨⟨⟨g1, g2⟩, g3⟩, g4⟩, g5⟩, g6⟩ := h5
  simp [Cond.before, Cond.holds, Cond.value, h1, h2, h3, h4, g1, g2, g3, g4, g5, g6]
def isCode : Jvm.Cond → Bool
  | .code _ _ _ _ => true
  | _ => false
theorem all_split {L : List Jvm.Cond} {P : Jvm.Cond → Bool} (h1 : L.all (fun c => isCode c || P c) = true) (h2 : ∀ c ∈ L.filter isCode, P c = true) : L.all P = true := by
  refine List.all_eq_true.mpr fun c hc => ?_
  have h := List.all_eq_true.mp h1 c hc
  rcases Bool.eq_false_or_eq_true (isCode c) with hi | hi
  · exact h2 c (List.mem_filter.mpr ⟨hc, hi⟩)
  · simpa [hi] using h
set_option maxRecDepth 65536 in
theorem w_c0 : (Jvm.Cond.code x code maxLocals ret).before args0 about1 = true := code_word (m := ⟨1, 1⟩) (meth := k1m1) (c := k1c1) (by decide +kernel) rfl rfl rfl (by decide +kernel)
set_option maxRecDepth 65536 in
theorem w_c1 : (Jvm.Cond.code ({ cls := "java/lang/String", name := "<init>", desc := "([C)V" } : Jvm.MethodName) jdk_42_method_3_code (2 : Nat) (Option.none : Option Jvm.ClassFile.FieldType)).before args0 about1 = true := code_word (m := ⟨7, 1⟩) (meth := k7m1) (c := k7c1) (by decide +kernel) rfl rfl rfl (by decide +kernel)
set_option maxRecDepth 65536 in
theorem w_c2 : (Jvm.Cond.code ({ cls := "java/lang/String", name := "<init>", desc := "([CIILjava/lang/Void;)V" } : Jvm.MethodName) jdk_42_method_149_code (6 : Nat) (Option.none : Option Jvm.ClassFile.FieldType)).before args0 about1 = true := code_word (m := ⟨7, 7⟩) (meth := k7m7) (c := k7c7) (by decide +kernel) rfl rfl rfl (by decide +kernel)
set_option maxRecDepth 65536 in
theorem w_c3 : (Jvm.Cond.code ({ cls := "java/lang/Object", name := "<init>", desc := "()V" } : Jvm.MethodName) object_method_1_code (1 : Nat) (Option.none : Option Jvm.ClassFile.FieldType)).before args0 about1 = true := code_word (m := ⟨0, 0⟩) (meth := k0m0) (c := k0c0) (by decide +kernel) rfl rfl rfl (by decide +kernel)
set_option maxRecDepth 65536 in
theorem w_c4 : (Jvm.Cond.code ({ cls := "com/example/shapewalk/shapewalk/cli/Options", name := "missing", desc := "(Ljava/lang/String;)Lcom/example/shapewalk/shapewalk/cli/UsageException;" } : Jvm.MethodName) prog_4_method_3_code (1 : Nat) (Option.some (Jvm.ClassFile.FieldType.object "com/example/shapewalk/shapewalk/cli/UsageException"))).before args0 about1 = true := code_word (m := ⟨8, 0⟩) (meth := k8m0) (c := k8c0) (by decide +kernel) rfl rfl rfl (by decide +kernel)
set_option maxRecDepth 65536 in
theorem w_c5 : (Jvm.Cond.code ({ cls := "java/lang/StringBuilder", name := "<init>", desc := "()V" } : Jvm.MethodName) jdk_67_method_1_code (1 : Nat) (Option.none : Option Jvm.ClassFile.FieldType)).before args0 about1 = true := code_word (m := ⟨14, 0⟩) (meth := k14m0) (c := k14c0) (by decide +kernel) rfl rfl rfl (by decide +kernel)
set_option maxRecDepth 65536 in
theorem w_c6 : (Jvm.Cond.code ({ cls := "java/lang/AbstractStringBuilder", name := "<init>", desc := "(I)V" } : Jvm.MethodName) jdk_68_method_2_code (2 : Nat) (Option.none : Option Jvm.ClassFile.FieldType)).before args0 about1 = true := code_word (m := ⟨13, 1⟩) (meth := k13m1) (c := k13c1) (by decide +kernel) rfl rfl rfl (by decide +kernel)
set_option maxRecDepth 65536 in
theorem w_c7 : (Jvm.Cond.code ({ cls := "java/lang/StringBuilder", name := "append", desc := "(Ljava/lang/String;)Ljava/lang/StringBuilder;" } : Jvm.MethodName) jdk_67_method_7_code (2 : Nat) (Option.some (Jvm.ClassFile.FieldType.object "java/lang/StringBuilder"))).before args0 about1 = true := code_word (m := ⟨14, 1⟩) (meth := k14m1) (c := k14c1) (by decide +kernel) rfl rfl rfl (by decide +kernel)
set_option maxRecDepth 65536 in
theorem w_c8 : (Jvm.Cond.code ({ cls := "java/lang/AbstractStringBuilder", name := "append", desc := "(Ljava/lang/String;)Ljava/lang/AbstractStringBuilder;" } : Jvm.MethodName) jdk_68_method_22_code (3 : Nat) (Option.some (Jvm.ClassFile.FieldType.object "java/lang/AbstractStringBuilder"))).before args0 about1 = true := code_word (m := ⟨13, 4⟩) (meth := k13m4) (c := k13c4) (by decide +kernel) rfl rfl rfl (by decide +kernel)
set_option maxRecDepth 65536 in
theorem w_c9 : (Jvm.Cond.code ({ cls := "java/lang/String", name := "length", desc := "()I" } : Jvm.MethodName) jdk_42_method_54_code (1 : Nat) (Option.some Jvm.ClassFile.FieldType.int)).before args0 about1 = true := code_word (m := ⟨7, 3⟩) (meth := k7m3) (c := k7c3) (by decide +kernel) rfl rfl rfl (by decide +kernel)
set_option maxRecDepth 65536 in
theorem w_c10 : (Jvm.Cond.code ({ cls := "java/lang/String", name := "coder", desc := "()B" } : Jvm.MethodName) jdk_42_method_152_code (1 : Nat) (Option.some Jvm.ClassFile.FieldType.byte)).before args0 about1 = true := code_word (m := ⟨7, 10⟩) (meth := k7m10) (c := k7c10) (by decide +kernel) rfl rfl rfl (by decide +kernel)
set_option maxRecDepth 65536 in
theorem w_c11 : (Jvm.Cond.code ({ cls := "java/lang/AbstractStringBuilder", name := "ensureCapacityInternal", desc := "(I)V" } : Jvm.MethodName) jdk_68_method_9_code (3 : Nat) (Option.none : Option Jvm.ClassFile.FieldType)).before args0 about1 = true := code_word (m := ⟨13, 3⟩) (meth := k13m3) (c := k13c3) (by decide +kernel) rfl rfl rfl (by decide +kernel)
set_option maxRecDepth 65536 in
theorem w_c12 : (Jvm.Cond.code ({ cls := "java/lang/AbstractStringBuilder", name := "putStringAt", desc := "(ILjava/lang/String;)V" } : Jvm.MethodName) jdk_68_method_73_code (3 : Nat) (Option.none : Option Jvm.ClassFile.FieldType)).before args0 about1 = true := code_word (m := ⟨13, 8⟩) (meth := k13m8) (c := k13c8) (by decide +kernel) rfl rfl rfl (by decide +kernel)
set_option maxRecDepth 65536 in
theorem w_c13 : (Jvm.Cond.code ({ cls := "java/lang/AbstractStringBuilder", name := "inflateIfNeededFor", desc := "(Ljava/lang/String;)V" } : Jvm.MethodName) jdk_68_method_71_code (2 : Nat) (Option.none : Option Jvm.ClassFile.FieldType)).before args0 about1 = true := code_word (m := ⟨13, 7⟩) (meth := k13m7) (c := k13c7) (by decide +kernel) rfl rfl rfl (by decide +kernel)
set_option maxRecDepth 65536 in
theorem w_c14 : (Jvm.Cond.code ({ cls := "java/lang/String", name := "getBytes", desc := "([BIB)V" } : Jvm.MethodName) jdk_42_method_147_code (4 : Nat) (Option.none : Option Jvm.ClassFile.FieldType)).before args0 about1 = true := code_word (m := ⟨7, 6⟩) (meth := k7m6) (c := k7c6) (by decide +kernel) rfl rfl rfl (by decide +kernel)
set_option maxRecDepth 65536 in
theorem w_c15 : (Jvm.Cond.code ({ cls := "java/lang/StringBuilder", name := "toString", desc := "()Ljava/lang/String;" } : Jvm.MethodName) jdk_67_method_42_code (1 : Nat) (Option.some (Jvm.ClassFile.FieldType.object "java/lang/String"))).before args0 about1 = true := code_word (m := ⟨14, 2⟩) (meth := k14m2) (c := k14c2) (by decide +kernel) rfl rfl rfl (by decide +kernel)
set_option maxRecDepth 65536 in
theorem w_c16 : (Jvm.Cond.code ({ cls := "java/lang/String", name := "<init>", desc := "(Ljava/lang/StringBuilder;)V" } : Jvm.MethodName) jdk_42_method_53_code (2 : Nat) (Option.none : Option Jvm.ClassFile.FieldType)).before args0 about1 = true := code_word (m := ⟨7, 2⟩) (meth := k7m2) (c := k7c2) (by decide +kernel) rfl rfl rfl (by decide +kernel)
set_option maxRecDepth 65536 in
theorem w_c17 : (Jvm.Cond.code ({ cls := "java/lang/String", name := "<init>", desc := "(Ljava/lang/AbstractStringBuilder;Ljava/lang/Void;)V" } : Jvm.MethodName) jdk_42_method_150_code (5 : Nat) (Option.none : Option Jvm.ClassFile.FieldType)).before args0 about1 = true := code_word (m := ⟨7, 8⟩) (meth := k7m8) (c := k7c8) (by decide +kernel) rfl rfl rfl (by decide +kernel)
set_option maxRecDepth 65536 in
theorem w_c18 : (Jvm.Cond.code ({ cls := "java/lang/AbstractStringBuilder", name := "getValue", desc := "()[B" } : Jvm.MethodName) jdk_68_method_64_code (1 : Nat) (Option.some (Jvm.ClassFile.FieldType.array Jvm.ClassFile.FieldType.byte))).before args0 about1 = true := code_word (m := ⟨13, 5⟩) (meth := k13m5) (c := k13c5) (by decide +kernel) rfl rfl rfl (by decide +kernel)
set_option maxRecDepth 65536 in
theorem w_c19 : (Jvm.Cond.code ({ cls := "java/lang/StringBuilder", name := "length", desc := "()I" } : Jvm.MethodName) jdk_67_method_93_code (1 : Nat) (Option.some Jvm.ClassFile.FieldType.int)).before args0 about1 = true := code_word (m := ⟨14, 3⟩) (meth := k14m3) (c := k14c3) (by decide +kernel) rfl rfl rfl (by decide +kernel)
set_option maxRecDepth 65536 in
theorem w_c20 : (Jvm.Cond.code ({ cls := "java/lang/AbstractStringBuilder", name := "length", desc := "()I" } : Jvm.MethodName) jdk_68_method_6_code (1 : Nat) (Option.some Jvm.ClassFile.FieldType.int)).before args0 about1 = true := code_word (m := ⟨13, 2⟩) (meth := k13m2) (c := k13c2) (by decide +kernel) rfl rfl rfl (by decide +kernel)
set_option maxRecDepth 65536 in
theorem w_c21 : (Jvm.Cond.code ({ cls := "java/lang/AbstractStringBuilder", name := "isLatin1", desc := "()Z" } : Jvm.MethodName) jdk_68_method_68_code (1 : Nat) (Option.some Jvm.ClassFile.FieldType.boolean)).before args0 about1 = true := code_word (m := ⟨13, 6⟩) (meth := k13m6) (c := k13c6) (by decide +kernel) rfl rfl rfl (by decide +kernel)
set_option maxRecDepth 65536 in
theorem w_c22 : (Jvm.Cond.code ({ cls := "java/util/Arrays", name := "copyOfRange", desc := "([BII)[B" } : Jvm.MethodName) jdk_65_method_132_code (3 : Nat) (Option.some (Jvm.ClassFile.FieldType.array Jvm.ClassFile.FieldType.byte))).before args0 about1 = true := code_word (m := ⟨16, 2⟩) (meth := k16m2) (c := k16c2) (by decide +kernel) rfl rfl rfl (by decide +kernel)
set_option maxRecDepth 65536 in
theorem w_c23 : (Jvm.Cond.code ({ cls := "java/util/Arrays", name := "copyOfRangeByte", desc := "([BII)[B" } : Jvm.MethodName) jdk_65_method_133_code (5 : Nat) (Option.some (Jvm.ClassFile.FieldType.array Jvm.ClassFile.FieldType.byte))).before args0 about1 = true := code_word (m := ⟨16, 3⟩) (meth := k16m3) (c := k16c3) (by decide +kernel) rfl rfl rfl (by decide +kernel)
set_option maxRecDepth 65536 in
theorem w_c24 : (Jvm.Cond.code ({ cls := "java/util/Arrays", name := "checkLength", desc := "(II)V" } : Jvm.MethodName) jdk_65_method_131_code (2 : Nat) (Option.none : Option Jvm.ClassFile.FieldType)).before args0 about1 = true := code_word (m := ⟨16, 1⟩) (meth := k16m1) (c := k16c1) (by decide +kernel) rfl rfl rfl (by decide +kernel)
set_option maxRecDepth 65536 in
theorem w_c25 : (Jvm.Cond.code ({ cls := "java/lang/Math", name := "min", desc := "(II)I" } : Jvm.MethodName) jdk_29_method_69_code (2 : Nat) (Option.some Jvm.ClassFile.FieldType.int)).before args0 about1 = true := code_word (m := ⟨17, 1⟩) (meth := k17m1) (c := k17c1) (by decide +kernel) rfl rfl rfl (by decide +kernel)
set_option maxRecDepth 65536 in
theorem w_c26 : (Jvm.Cond.code ({ cls := "com/example/shapewalk/shapewalk/cli/UsageException", name := "<init>", desc := "(Ljava/lang/String;)V" } : Jvm.MethodName) prog_7_method_1_code (2 : Nat) (Option.none : Option Jvm.ClassFile.FieldType)).before args0 about1 = true := code_word (m := ⟨11, 0⟩) (meth := k11m0) (c := k11c0) (by decide +kernel) rfl rfl rfl (by decide +kernel)
set_option maxRecDepth 65536 in
theorem w_c27 : (Jvm.Cond.code ({ cls := "java/lang/Exception", name := "<init>", desc := "(Ljava/lang/String;)V" } : Jvm.MethodName) jdk_59_method_2_code (2 : Nat) (Option.none : Option Jvm.ClassFile.FieldType)).before args0 about1 = true := code_word (m := ⟨10, 1⟩) (meth := k10m1) (c := k10c1) (by decide +kernel) rfl rfl rfl (by decide +kernel)
set_option maxRecDepth 65536 in
theorem w_c28 : (Jvm.Cond.code ({ cls := "java/lang/Throwable", name := "<init>", desc := "(Ljava/lang/String;)V" } : Jvm.MethodName) jdk_78_method_2_code (2 : Nat) (Option.none : Option Jvm.ClassFile.FieldType)).before args0 about1 = true := code_word (m := ⟨9, 1⟩) (meth := k9m1) (c := k9c1) (by decide +kernel) rfl rfl rfl (by decide +kernel)
set_option maxRecDepth 65536 in
theorem w_c29 : (Jvm.Cond.code ({ cls := "java/lang/Throwable", name := "<init>", desc := "()V" } : Jvm.MethodName) jdk_78_method_1_code (1 : Nat) (Option.none : Option Jvm.ClassFile.FieldType)).before args0 about1 = true := code_word (m := ⟨9, 0⟩) (meth := k9m0) (c := k9c0) (by decide +kernel) rfl rfl rfl (by decide +kernel)
set_option maxRecDepth 65536 in
theorem w_c30 : (Jvm.Cond.code ({ cls := "java/lang/Throwable", name := "getMessage", desc := "()Ljava/lang/String;" } : Jvm.MethodName) jdk_78_method_6_code (1 : Nat) (Option.some (Jvm.ClassFile.FieldType.object "java/lang/String"))).before args0 about1 = true := code_word (m := ⟨9, 2⟩) (meth := k9m2) (c := k9c2) (by decide +kernel) rfl rfl rfl (by decide +kernel)
set_option maxRecDepth 65536 in
theorem w_c31 : (Jvm.Cond.code ({ cls := "com/example/shapewalk/shapewalk/cli/OptionsMissingPinLaw", name := "suffix", desc := "(Ljava/lang/String;I)Z" } : Jvm.MethodName) method_3_code (2 : Nat) (Option.some Jvm.ClassFile.FieldType.boolean)).before args0 about1 = true := code_word (m := ⟨1, 2⟩) (meth := k1m2) (c := k1c2) (by decide +kernel) rfl rfl rfl (by decide +kernel)
set_option maxRecDepth 65536 in
theorem w_c32 : (Jvm.Cond.code ({ cls := "java/lang/String", name := "charAt", desc := "(I)C" } : Jvm.MethodName) jdk_42_method_56_code (2 : Nat) (Option.some Jvm.ClassFile.FieldType.char)).before args0 about1 = true := code_word (m := ⟨7, 4⟩) (meth := k7m4) (c := k7c4) (by decide +kernel) rfl rfl rfl (by decide +kernel)
set_option maxRecDepth 65536 in
theorem w_c33 : (Jvm.Cond.code ({ cls := "java/lang/String", name := "isLatin1", desc := "()Z" } : Jvm.MethodName) jdk_42_method_154_code (1 : Nat) (Option.some Jvm.ClassFile.FieldType.boolean)).before args0 about1 = true := code_word (m := ⟨7, 11⟩) (meth := k7m11) (c := k7c11) (by decide +kernel) rfl rfl rfl (by decide +kernel)
set_option maxRecDepth 65536 in
theorem w_c34 : (Jvm.Cond.code ({ cls := "java/lang/StringLatin1", name := "charAt", desc := "([BI)C" } : Jvm.MethodName) jdk_43_method_2_code (2 : Nat) (Option.some Jvm.ClassFile.FieldType.char)).before args0 about1 = true := code_word (m := ⟨18, 1⟩) (meth := k18m1) (c := k18c1) (by decide +kernel) rfl rfl rfl (by decide +kernel)
set_option maxRecDepth 65536 in
theorem w_c35 : (Jvm.Cond.code ({ cls := "java/lang/String", name := "checkIndex", desc := "(II)V" } : Jvm.MethodName) jdk_42_method_155_code (2 : Nat) (Option.none : Option Jvm.ClassFile.FieldType)).before args0 about1 = true := code_word (m := ⟨7, 12⟩) (meth := k7m12) (c := k7c12) (by decide +kernel) rfl rfl rfl (by decide +kernel)
set_option maxRecDepth 65536 in
theorem w_c36 : (Jvm.Cond.code ({ cls := "jdk/internal/util/Preconditions", name := "checkIndex", desc := "(IILjava/util/function/BiFunction;)I" } : Jvm.MethodName) jdk_41_method_11_code (3 : Nat) (Option.some Jvm.ClassFile.FieldType.int)).before args0 about1 = true := code_word (m := ⟨19, 1⟩) (meth := k19m1) (c := k19c1) (by decide +kernel) rfl rfl rfl (by decide +kernel)
set_option maxRecDepth 65536 in
theorem w_c37 : (Jvm.Cond.code ({ cls := "java/lang/StringUTF16", name := "compress", desc := "([CII)[B" } : Jvm.MethodName) jdk_52_method_16_code (6 : Nat) (Option.some (Jvm.ClassFile.FieldType.array Jvm.ClassFile.FieldType.byte))).before args0 about1 = true := code_word (m := ⟨20, 2⟩) (meth := k20m2) (c := k20c2) (by decide +kernel) rfl rfl rfl (by decide +kernel)
set_option maxRecDepth 65536 in
theorem w_c38 : (Jvm.Cond.code ({ cls := "java/lang/StringUTF16", name := "compress", desc := "([CI[BII)I" } : Jvm.MethodName) jdk_52_method_21_code (7 : Nat) (Option.some Jvm.ClassFile.FieldType.int)).before args0 about1 = true := code_word (m := ⟨20, 3⟩) (meth := k20m3) (c := k20c3) (by decide +kernel) rfl rfl rfl (by decide +kernel)
set_option maxRecDepth 65536 in
theorem w_c39 : (Jvm.Cond.code ({ cls := "java/lang/StringUTF16", name := "coderFromArrayLen", desc := "([BI)B" } : Jvm.MethodName) jdk_52_method_15_code (2 : Nat) (Option.some Jvm.ClassFile.FieldType.byte)).before args0 about1 = true := code_word (m := ⟨20, 1⟩) (meth := k20m1) (c := k20c1) (by decide +kernel) rfl rfl rfl (by decide +kernel)
set_option maxRecDepth 65536 in
theorem w_c40 : (Jvm.Cond.code ({ cls := "java/lang/String", name := "valueOf", desc := "(C)Ljava/lang/String;" } : Jvm.MethodName) jdk_42_method_139_code (1 : Nat) (Option.some (Jvm.ClassFile.FieldType.object "java/lang/String"))).before args0 about1 = true := code_word (m := ⟨7, 5⟩) (meth := k7m5) (c := k7c5) (by decide +kernel) rfl rfl rfl (by decide +kernel)
set_option maxRecDepth 65536 in
theorem w_c41 : (Jvm.Cond.code ({ cls := "java/lang/StringLatin1", name := "canEncode", desc := "(C)Z" } : Jvm.MethodName) jdk_43_method_3_code (1 : Nat) (Option.some Jvm.ClassFile.FieldType.boolean)).before args0 about1 = true := code_word (m := ⟨18, 2⟩) (meth := k18m2) (c := k18c2) (by decide +kernel) rfl rfl rfl (by decide +kernel)
set_option maxRecDepth 65536 in
theorem w_c42 : (Jvm.Cond.code ({ cls := "java/lang/StringLatin1", name := "toBytes", desc := "(C)[B" } : Jvm.MethodName) jdk_43_method_46_code (1 : Nat) (Option.some (Jvm.ClassFile.FieldType.array Jvm.ClassFile.FieldType.byte))).before args0 about1 = true := code_word (m := ⟨18, 3⟩) (meth := k18m3) (c := k18c3) (by decide +kernel) rfl rfl rfl (by decide +kernel)
set_option maxRecDepth 65536 in
theorem w_c43 : (Jvm.Cond.code ({ cls := "java/lang/String", name := "<init>", desc := "([BB)V" } : Jvm.MethodName) jdk_42_method_151_code (3 : Nat) (Option.none : Option Jvm.ClassFile.FieldType)).before args0 about1 = true := code_word (m := ⟨7, 9⟩) (meth := k7m9) (c := k7c9) (by decide +kernel) rfl rfl rfl (by decide +kernel)
def codes1 : List Jvm.Cond := [Jvm.Cond.code x code maxLocals ret, Jvm.Cond.code ({ cls := "java/lang/String", name := "<init>", desc := "([C)V" } : Jvm.MethodName) jdk_42_method_3_code (2 : Nat) (Option.none : Option Jvm.ClassFile.FieldType), Jvm.Cond.code ({ cls := "java/lang/String", name := "<init>", desc := "([CIILjava/lang/Void;)V" } : Jvm.MethodName) jdk_42_method_149_code (6 : Nat) (Option.none : Option Jvm.ClassFile.FieldType), Jvm.Cond.code ({ cls := "java/lang/Object", name := "<init>", desc := "()V" } : Jvm.MethodName) object_method_1_code (1 : Nat) (Option.none : Option Jvm.ClassFile.FieldType), Jvm.Cond.code ({ cls := "com/example/shapewalk/shapewalk/cli/Options", name := "missing", desc := "(Ljava/lang/String;)Lcom/example/shapewalk/shapewalk/cli/UsageException;" } : Jvm.MethodName) prog_4_method_3_code (1 : Nat) (Option.some (Jvm.ClassFile.FieldType.object "com/example/shapewalk/shapewalk/cli/UsageException")), Jvm.Cond.code ({ cls := "java/lang/StringBuilder", name := "<init>", desc := "()V" } : Jvm.MethodName) jdk_67_method_1_code (1 : Nat) (Option.none : Option Jvm.ClassFile.FieldType), Jvm.Cond.code ({ cls := "java/lang/AbstractStringBuilder", name := "<init>", desc := "(I)V" } : Jvm.MethodName) jdk_68_method_2_code (2 : Nat) (Option.none : Option Jvm.ClassFile.FieldType), Jvm.Cond.code ({ cls := "java/lang/StringBuilder", name := "append", desc := "(Ljava/lang/String;)Ljava/lang/StringBuilder;" } : Jvm.MethodName) jdk_67_method_7_code (2 : Nat) (Option.some (Jvm.ClassFile.FieldType.object "java/lang/StringBuilder")), Jvm.Cond.code ({ cls := "java/lang/AbstractStringBuilder", name := "append", desc := "(Ljava/lang/String;)Ljava/lang/AbstractStringBuilder;" } : Jvm.MethodName) jdk_68_method_22_code (3 : Nat) (Option.some (Jvm.ClassFile.FieldType.object "java/lang/AbstractStringBuilder")), Jvm.Cond.code ({ cls := "java/lang/String", name := "length", desc := "()I" } : Jvm.MethodName) jdk_42_method_54_code (1 : Nat) (Option.some Jvm.ClassFile.FieldType.int), Jvm.Cond.code ({ cls := "java/lang/String", name := "coder", desc := "()B" } : Jvm.MethodName) jdk_42_method_152_code (1 : Nat) (Option.some Jvm.ClassFile.FieldType.byte), Jvm.Cond.code ({ cls := "java/lang/AbstractStringBuilder", name := "ensureCapacityInternal", desc := "(I)V" } : Jvm.MethodName) jdk_68_method_9_code (3 : Nat) (Option.none : Option Jvm.ClassFile.FieldType), Jvm.Cond.code ({ cls := "java/lang/AbstractStringBuilder", name := "putStringAt", desc := "(ILjava/lang/String;)V" } : Jvm.MethodName) jdk_68_method_73_code (3 : Nat) (Option.none : Option Jvm.ClassFile.FieldType), Jvm.Cond.code ({ cls := "java/lang/AbstractStringBuilder", name := "inflateIfNeededFor", desc := "(Ljava/lang/String;)V" } : Jvm.MethodName) jdk_68_method_71_code (2 : Nat) (Option.none : Option Jvm.ClassFile.FieldType), Jvm.Cond.code ({ cls := "java/lang/String", name := "getBytes", desc := "([BIB)V" } : Jvm.MethodName) jdk_42_method_147_code (4 : Nat) (Option.none : Option Jvm.ClassFile.FieldType), Jvm.Cond.code ({ cls := "java/lang/StringBuilder", name := "toString", desc := "()Ljava/lang/String;" } : Jvm.MethodName) jdk_67_method_42_code (1 : Nat) (Option.some (Jvm.ClassFile.FieldType.object "java/lang/String")), Jvm.Cond.code ({ cls := "java/lang/String", name := "<init>", desc := "(Ljava/lang/StringBuilder;)V" } : Jvm.MethodName) jdk_42_method_53_code (2 : Nat) (Option.none : Option Jvm.ClassFile.FieldType), Jvm.Cond.code ({ cls := "java/lang/String", name := "<init>", desc := "(Ljava/lang/AbstractStringBuilder;Ljava/lang/Void;)V" } : Jvm.MethodName) jdk_42_method_150_code (5 : Nat) (Option.none : Option Jvm.ClassFile.FieldType), Jvm.Cond.code ({ cls := "java/lang/AbstractStringBuilder", name := "getValue", desc := "()[B" } : Jvm.MethodName) jdk_68_method_64_code (1 : Nat) (Option.some (Jvm.ClassFile.FieldType.array Jvm.ClassFile.FieldType.byte)), Jvm.Cond.code ({ cls := "java/lang/StringBuilder", name := "length", desc := "()I" } : Jvm.MethodName) jdk_67_method_93_code (1 : Nat) (Option.some Jvm.ClassFile.FieldType.int), Jvm.Cond.code ({ cls := "java/lang/AbstractStringBuilder", name := "length", desc := "()I" } : Jvm.MethodName) jdk_68_method_6_code (1 : Nat) (Option.some Jvm.ClassFile.FieldType.int), Jvm.Cond.code ({ cls := "java/lang/AbstractStringBuilder", name := "isLatin1", desc := "()Z" } : Jvm.MethodName) jdk_68_method_68_code (1 : Nat) (Option.some Jvm.ClassFile.FieldType.boolean), Jvm.Cond.code ({ cls := "java/util/Arrays", name := "copyOfRange", desc := "([BII)[B" } : Jvm.MethodName) jdk_65_method_132_code (3 : Nat) (Option.some (Jvm.ClassFile.FieldType.array Jvm.ClassFile.FieldType.byte)), Jvm.Cond.code ({ cls := "java/util/Arrays", name := "copyOfRangeByte", desc := "([BII)[B" } : Jvm.MethodName) jdk_65_method_133_code (5 : Nat) (Option.some (Jvm.ClassFile.FieldType.array Jvm.ClassFile.FieldType.byte)), Jvm.Cond.code ({ cls := "java/util/Arrays", name := "checkLength", desc := "(II)V" } : Jvm.MethodName) jdk_65_method_131_code (2 : Nat) (Option.none : Option Jvm.ClassFile.FieldType), Jvm.Cond.code ({ cls := "java/lang/Math", name := "min", desc := "(II)I" } : Jvm.MethodName) jdk_29_method_69_code (2 : Nat) (Option.some Jvm.ClassFile.FieldType.int), Jvm.Cond.code ({ cls := "com/example/shapewalk/shapewalk/cli/UsageException", name := "<init>", desc := "(Ljava/lang/String;)V" } : Jvm.MethodName) prog_7_method_1_code (2 : Nat) (Option.none : Option Jvm.ClassFile.FieldType), Jvm.Cond.code ({ cls := "java/lang/Exception", name := "<init>", desc := "(Ljava/lang/String;)V" } : Jvm.MethodName) jdk_59_method_2_code (2 : Nat) (Option.none : Option Jvm.ClassFile.FieldType), Jvm.Cond.code ({ cls := "java/lang/Throwable", name := "<init>", desc := "(Ljava/lang/String;)V" } : Jvm.MethodName) jdk_78_method_2_code (2 : Nat) (Option.none : Option Jvm.ClassFile.FieldType), Jvm.Cond.code ({ cls := "java/lang/Throwable", name := "<init>", desc := "()V" } : Jvm.MethodName) jdk_78_method_1_code (1 : Nat) (Option.none : Option Jvm.ClassFile.FieldType), Jvm.Cond.code ({ cls := "java/lang/Throwable", name := "getMessage", desc := "()Ljava/lang/String;" } : Jvm.MethodName) jdk_78_method_6_code (1 : Nat) (Option.some (Jvm.ClassFile.FieldType.object "java/lang/String")), Jvm.Cond.code ({ cls := "com/example/shapewalk/shapewalk/cli/OptionsMissingPinLaw", name := "suffix", desc := "(Ljava/lang/String;I)Z" } : Jvm.MethodName) method_3_code (2 : Nat) (Option.some Jvm.ClassFile.FieldType.boolean), Jvm.Cond.code ({ cls := "java/lang/String", name := "charAt", desc := "(I)C" } : Jvm.MethodName) jdk_42_method_56_code (2 : Nat) (Option.some Jvm.ClassFile.FieldType.char), Jvm.Cond.code ({ cls := "java/lang/String", name := "isLatin1", desc := "()Z" } : Jvm.MethodName) jdk_42_method_154_code (1 : Nat) (Option.some Jvm.ClassFile.FieldType.boolean), Jvm.Cond.code ({ cls := "java/lang/StringLatin1", name := "charAt", desc := "([BI)C" } : Jvm.MethodName) jdk_43_method_2_code (2 : Nat) (Option.some Jvm.ClassFile.FieldType.char), Jvm.Cond.code ({ cls := "java/lang/String", name := "checkIndex", desc := "(II)V" } : Jvm.MethodName) jdk_42_method_155_code (2 : Nat) (Option.none : Option Jvm.ClassFile.FieldType), Jvm.Cond.code ({ cls := "jdk/internal/util/Preconditions", name := "checkIndex", desc := "(IILjava/util/function/BiFunction;)I" } : Jvm.MethodName) jdk_41_method_11_code (3 : Nat) (Option.some Jvm.ClassFile.FieldType.int), Jvm.Cond.code ({ cls := "java/lang/StringUTF16", name := "compress", desc := "([CII)[B" } : Jvm.MethodName) jdk_52_method_16_code (6 : Nat) (Option.some (Jvm.ClassFile.FieldType.array Jvm.ClassFile.FieldType.byte)), Jvm.Cond.code ({ cls := "java/lang/StringUTF16", name := "compress", desc := "([CI[BII)I" } : Jvm.MethodName) jdk_52_method_21_code (7 : Nat) (Option.some Jvm.ClassFile.FieldType.int), Jvm.Cond.code ({ cls := "java/lang/StringUTF16", name := "coderFromArrayLen", desc := "([BI)B" } : Jvm.MethodName) jdk_52_method_15_code (2 : Nat) (Option.some Jvm.ClassFile.FieldType.byte), Jvm.Cond.code ({ cls := "java/lang/String", name := "valueOf", desc := "(C)Ljava/lang/String;" } : Jvm.MethodName) jdk_42_method_139_code (1 : Nat) (Option.some (Jvm.ClassFile.FieldType.object "java/lang/String")), Jvm.Cond.code ({ cls := "java/lang/StringLatin1", name := "canEncode", desc := "(C)Z" } : Jvm.MethodName) jdk_43_method_3_code (1 : Nat) (Option.some Jvm.ClassFile.FieldType.boolean), Jvm.Cond.code ({ cls := "java/lang/StringLatin1", name := "toBytes", desc := "(C)[B" } : Jvm.MethodName) jdk_43_method_46_code (1 : Nat) (Option.some (Jvm.ClassFile.FieldType.array Jvm.ClassFile.FieldType.byte)), Jvm.Cond.code ({ cls := "java/lang/String", name := "<init>", desc := "([BB)V" } : Jvm.MethodName) jdk_42_method_151_code (3 : Nat) (Option.none : Option Jvm.ClassFile.FieldType)]
set_option maxRecDepth 65536 in
theorem codes_eq : words1.filter isCode = codes1 := rfl
theorem w_codes : ∀ c ∈ words1.filter isCode, c.before args0 about1 = true := by
  rw [codes_eq]
  intro c hc
  simp only [codes1, List.mem_cons, List.not_mem_nil, or_false] at hc
  rcases hc with rfl | rfl | rfl | rfl | rfl | rfl | rfl | rfl | rfl | rfl | rfl | rfl | rfl | rfl | rfl | rfl | rfl | rfl | rfl | rfl | rfl | rfl | rfl | rfl | rfl | rfl | rfl | rfl | rfl | rfl | rfl | rfl | rfl | rfl | rfl | rfl | rfl | rfl | rfl | rfl | rfl | rfl | rfl | rfl
  · exact w_c0
  · exact w_c1
  · exact w_c2
  · exact w_c3
  · exact w_c4
  · exact w_c5
  · exact w_c6
  · exact w_c7
  · exact w_c8
  · exact w_c9
  · exact w_c10
  · exact w_c11
  · exact w_c12
  · exact w_c13
  · exact w_c14
  · exact w_c15
  · exact w_c16
  · exact w_c17
  · exact w_c18
  · exact w_c19
  · exact w_c20
  · exact w_c21
  · exact w_c22
  · exact w_c23
  · exact w_c24
  · exact w_c25
  · exact w_c26
  · exact w_c27
  · exact w_c28
  · exact w_c29
  · exact w_c30
  · exact w_c31
  · exact w_c32
  · exact w_c33
  · exact w_c34
  · exact w_c35
  · exact w_c36
  · exact w_c37
  · exact w_c38
  · exact w_c39
  · exact w_c40
  · exact w_c41
  · exact w_c42
  · exact w_c43
set_option maxRecDepth 65536 in
theorem w_t1 : (words1.take 24).all (fun c => isCode c || c.before args0 about1) = true := by decide +kernel
set_option maxRecDepth 65536 in
theorem w_t2 : ((words1.drop 24).take 24).all (fun c => isCode c || c.before args0 about1) = true := by decide +kernel
set_option maxRecDepth 65536 in
theorem w_t3 : (((words1.drop 24).drop 24).take 24).all (fun c => isCode c || c.before args0 about1) = true := by decide +kernel
set_option maxRecDepth 65536 in
theorem w_t4 : ((((words1.drop 24).drop 24).drop 24).take 24).all (fun c => isCode c || c.before args0 about1) = true := by decide +kernel
set_option maxRecDepth 65536 in
theorem w_t5 : (((((words1.drop 24).drop 24).drop 24).drop 24).take 24).all (fun c => isCode c || c.before args0 about1) = true := by decide +kernel
set_option maxRecDepth 65536 in
theorem w_t6 : ((((((words1.drop 24).drop 24).drop 24).drop 24).drop 24).take 24).all (fun c => isCode c || c.before args0 about1) = true := by decide +kernel
set_option maxRecDepth 65536 in
theorem w_t7 : (((((((words1.drop 24).drop 24).drop 24).drop 24).drop 24).drop 24).take 24).all (fun c => isCode c || c.before args0 about1) = true := by decide +kernel
set_option maxRecDepth 65536 in
theorem w_t8 : ((((((((words1.drop 24).drop 24).drop 24).drop 24).drop 24).drop 24).drop 24).take 24).all (fun c => isCode c || c.before args0 about1) = true := by decide +kernel
set_option maxRecDepth 65536 in
theorem w_t9 : (((((((((words1.drop 24).drop 24).drop 24).drop 24).drop 24).drop 24).drop 24).drop 24).take 24).all (fun c => isCode c || c.before args0 about1) = true := by decide +kernel
set_option maxRecDepth 65536 in
theorem w_t10 : ((((((((((words1.drop 24).drop 24).drop 24).drop 24).drop 24).drop 24).drop 24).drop 24).drop 24).take 24).all (fun c => isCode c || c.before args0 about1) = true := by decide +kernel
set_option maxRecDepth 65536 in
theorem w_t11 : ((((((((((words1.drop 24).drop 24).drop 24).drop 24).drop 24).drop 24).drop 24).drop 24).drop 24).drop 24).all (fun c => isCode c || c.before args0 about1) = true := by decide +kernel
theorem w_tables : (allAtoms (Jvm.Cond.code x code maxLocals ret :: tables_1)).before args0 about1 = true := by
  rw [allAtoms_all]
  show words1.all (fun c => c.before args0 about1) = true
  refine all_split ?_ w_codes
  rw [← List.take_append_drop 24 words1, List.all_append, w_t1, ← List.take_append_drop 24 (words1.drop 24), List.all_append, w_t2, ← List.take_append_drop 24 ((words1.drop 24).drop 24), List.all_append, w_t3, ← List.take_append_drop 24 (((words1.drop 24).drop 24).drop 24), List.all_append, w_t4, ← List.take_append_drop 24 ((((words1.drop 24).drop 24).drop 24).drop 24), List.all_append, w_t5, ← List.take_append_drop 24 (((((words1.drop 24).drop 24).drop 24).drop 24).drop 24), List.all_append, w_t6, ← List.take_append_drop 24 ((((((words1.drop 24).drop 24).drop 24).drop 24).drop 24).drop 24), List.all_append, w_t7, ← List.take_append_drop 24 (((((((words1.drop 24).drop 24).drop 24).drop 24).drop 24).drop 24).drop 24), List.all_append, w_t8, ← List.take_append_drop 24 ((((((((words1.drop 24).drop 24).drop 24).drop 24).drop 24).drop 24).drop 24).drop 24), List.all_append, w_t9, ← List.take_append_drop 24 (((((((((words1.drop 24).drop 24).drop 24).drop 24).drop 24).drop 24).drop 24).drop 24).drop 24), List.all_append, w_t10, w_t11]
  rfl
set_option maxRecDepth 65536 in
theorem w_rest : rest_1_c.before args0 about1 = true := by decide +kernel
set_option maxRecDepth 65536 in
theorem w_case : (Jvm.Cond.and given_1 narrow_1).before args0 about1 = true := by decide +kernel
set_option maxRecDepth 65536 in
theorem w_consts : constsHeld consts_1 about1 := Jvm.Lit.constsHeldB_iff.mp (by decide +kernel)
theorem w_applies : (headSpec (Jvm.Cond.code x code maxLocals ret :: tables_1) room_1).applies x e0.platform about1 = true :=
  (Spec.applies_iff w_frames).mpr ⟨w_running, w_runnable, w_alone, w_named, w_hears, w_ripe, w_room, w_tables⟩
theorem atStart : AtStart classFile x code maxLocals ret World_1 tables_1 room_1 Calls_1 rest_1 Pre_1 launch0 p0 e0 about1 theMethod args0 below0 :=
  ⟨lists_1, trivial, launch0.admits_env _ _ _, launch0.least_env, fairChoices_fair.cas, fairChoices_fair.clock, w_frames, w_args, w_heap, w_applies, ⟨(by decide +kernel : framesKnown about1 = true), ⟨(by decide +kernel : tablesKnown about1 = true), ⟨w_consts, trivial⟩⟩⟩, w_rest, w_case⟩
end start1
theorem witness_1 : WitnessClaimed_1 := ⟨start1.p0, start1.e0, start1.about1, start1.theMethod, start1.args0, start1.below0, start1.atStart⟩
end Jvm.Pilot.@@N@@
