import JvmDerived
import JvmDerived.Pilot.@@N@@Statement
import JvmDerived.Pilot.@@N@@Code
set_option linter.unusedVariables false
set_option linter.unusedSimpArgs false
namespace Jvm.OwnGo
open Sem ClassFile Op Lib Jvm.Stand Jvm.Free Jvm.LawKit Jvm.RoadKit Bundle
section OwnFacts
variable {Z : State} {h h' : Heap} {a b t : Addr} {C n d : String} {v w : Value} {ws : List Addr} {bo : Bool} {ka kb : ClassId} {ty : FieldType} {z : Int32} {vs : List Value} {dv : Value} {cs : List Int32} {sl : Nat}
theorem Sta_keep (F : Sta Z h C n d v) (K : Keep h h' []) : Sta Z h' C n d v := by
  obtain ⟨cf, i, k, f, st, cell, h1, h2, h3, h4, h5, h6, h7⟩ := F
  exact ⟨cf, i, k, f, st, cell, h1, h2, h3, h4, K.2.1 _ _ h5 nin0, h6, h7⟩
theorem Ins_keep (F : Ins Z h a C bo) (K : Keep h h' ws) : Ins Z h' a C bo := by
  obtain ⟨cell, cT, h1, h2, h3⟩ := F
  obtain ⟨c', q, r1, r2, r3⟩ := K.2.2 a cell h1
  exact ⟨c', cT, q, h2, by rw [r1, r2]; exact h3⟩
theorem own_sto {y : Addr} (F : Arv Z h a ka ty z vs dv) (O : Ovr Z ka C) (I : Ins Z h y C true) : Sto Z h a (.ref y) := by
  obtain ⟨cl, A, q, -⟩ := F
  exact Sto.ofV A q O I
theorem own_alt {x t t' : Addr} {n : Nat} (g : t' = t ∨ n ≤ t') (h1 : x ≠ t) (h2 : x < n) : x ≠ t' := g.elim (fun q => by rw [q]; exact h1) (fun q => Nat.ne_of_lt (Nat.lt_of_lt_of_le h2 q))
theorem own_alt_le {t t' : Addr} {m n : Nat} (g : t' = t ∨ n ≤ t') (h1 : m ≤ t) (h2 : m ≤ n) : m ≤ t' := g.elim (fun q => by rw [q]; exact h1) (fun q => Nat.le_trans h2 q)
theorem Sta_keepE (F : Sta Z h C n d v) (K : Keep h h' ws) (q : ∀ x ∈ ws, ∃ Cx, Exa Z h x Cx) : Sta Z h' C n d v := by
  obtain ⟨cf, i, k, f, st, cell, h1, h2, h3, h4, h5, h6, h7⟩ := F
  refine ⟨cf, i, k, f, st, cell, h1, h2, h3, h4, K.2.1 _ _ h5 (fun hm => ?_), h6, h7⟩
  obtain ⟨Cx, c1, k1, e1, -, -, e4, -⟩ := q _ hm
  cases e1.symm.trans h5
  rw [e4] at h6; cases h6
theorem own_ne_arv {a0 : Array Value} {nk : Nat} (F : Exa Z h a C) (wi : (Cond.instantiable C nk).before a0 Z = true) (G : Arv Z h b ka ty z vs dv) : a ≠ b := by
  obtain ⟨cl, A, -⟩ := G
  exact ne_arr F wi A
/-- the String at a: one byte a char, its array at t -/
def Str (Z : State) (h : Heap) (a t : Addr) (kb : ClassId) (cs : List Int32) : Prop :=
  Exa Z h a "java/lang/String" ∧ Fld Z h a "java/lang/String" "coder" "B" (.int 0) ∧ Fld Z h a "java/lang/String" "value" "[B" (.ref t) ∧ Arv Z h t kb .byte (Int32.ofNat cs.length) ((cs.map fun c => c.toInt8.toInt32).map Value.int) (.int 0) ∧ cs.length ≤ 4000 ∧ ∀ c ∈ cs, ¬ c < 0 ∧ ¬ (255 : Int32) < c
theorem Str.keep (S : Str Z h a t kb cs) (K : Keep h h' ws) (q : a ∉ ws) (r : t ∉ ws) : Str Z h' a t kb cs := ⟨S.1.keep K, S.2.1.keep K q, S.2.2.1.keep K q, S.2.2.2.1.keep K r, S.2.2.2.2⟩
theorem Str.ext (S : Str Z h a t kb cs) (E : Ext h h') : Str Z h' a t kb cs := ⟨S.1.ext E, S.2.1.ext E, S.2.2.1.ext E, S.2.2.2.1.ext E, S.2.2.2.2⟩
theorem Str.other (S : Str Z h a t kb cs) (W : Wr h h' b sl v) (q : a ≠ b) (r : t ≠ b) : Str Z h' a t kb cs := ⟨S.1.wr W, S.2.1.other W (Or.inl q), S.2.2.1.other W (Or.inl q), S.2.2.2.1.other W r, S.2.2.2.2⟩
theorem Str.tlt (S : Str Z h a t kb cs) : t < h.size := S.2.2.2.1.lt
/-- C's chain of superclasses does not meet K, a class that can be made -/
theorem own_root {a0 : Array Value} {O K : String} {nk : Nat} (w : (Cond.noSuperclass O).before a0 Z = true) (wk : (Cond.instantiable K nk).before a0 Z = true) (hn : O ≠ K) : NS Z O K := by
  obtain ⟨c, k, h1, h2, h3, -, -⟩ := Cond.noSuperclass_spec w
  obtain ⟨t, kt, g1, -⟩ := Cond.instantiable_spec wk
  have ne := ids_ne h1 g1 hn
  refine ⟨c, t, h1, g1, fun fuel => ?_⟩
  cases fuel with
  | zero => rfl
  | succ f => simp [Vm.isSubclassAux, ne, h2, h3]
theorem own_no {a0 : Array Value} {C S K : String} {nk : Nat} (w : (Cond.superclass C S).before a0 Z = true) (wk : (Cond.instantiable K nk).before a0 Z = true) (n : NS Z C K) (hn : C ≠ K) : ∃ c t, Z.vm.findClass C = some c ∧ Z.vm.findClass K = some t ∧ Z.vm.assignable c t = false := by
  obtain ⟨c, t, h0, g0, n3⟩ := n
  obtain ⟨p, k, kp, h1, h2, h3, h4, h5, -, h7⟩ := Cond.superclass_spec h0 w
  obtain ⟨t', k', g1, g2, g3, g4, -⟩ := Cond.instantiable_spec wk
  cases g0.symm.trans g1
  have g5 : k'.isInterface = false := by
    cases hi : k'.isInterface <;> simp [hi] at g4 ⊢
  have ne := ids_ne h0 g0 hn
  refine ⟨c, t, h0, g0, ?_⟩
  show Z.vm.assignableAux (255 + 1) c t = false
  simp [Vm.assignableAux, ne, h2, g2, h5, g3, g5, Vm.isSubclass, n3]
/-- the boxes that stood before -/
def Box (Z : State) (h : Heap) (a : Addr) (K d : String) (z : Int32) (val : Int32 → Value) : Prop :=
  ∃ c : Cell, Arr Z h a c (.object K) ∧ c.slots.size = z.toNatClampNeg ∧ ¬ z < 0 ∧ ∀ j : Int32, ¬ (j < 0 ∨ c.slots.size ≤ j.toNatClampNeg) → ∃ b : Addr, c.slots[j.toNatClampNeg]? = some (.ref b) ∧ Exa Z h b K ∧ Fld Z h b K "value" d (val j)
theorem Box.start {K : String} {val : Int32 → Value} {c : Cell} (F : Bxs Z a c K d z val) : Box Z Z.heap a K d z val := ⟨c, F.1, F.2.1, F.2.2.1, F.2.2.2⟩
theorem Box.keep {K : String} {val : Int32 → Value} (F : Box Z h a K d z val) (Kp : Keep h h' []) : Box Z h' a K d z val := by
  obtain ⟨c, f1, f2, f3, f4⟩ := F
  refine ⟨c, ⟨Kp.2.1 _ _ f1.1 nin0, f1.2⟩, f2, f3, fun j hj => ?_⟩
  obtain ⟨b, q1, q2, q3⟩ := f4 j hj
  exact ⟨b, q1, q2.keep Kp, q3.keep Kp nin0⟩
end OwnFacts
end Jvm.OwnGo
namespace Jvm.OwnGo
open Sem ClassFile Op Lib Jvm.Stand Jvm.Free Jvm.LawKit Jvm.RoadKit Bundle
section OwnGo
variable {Z : State} {a0 : Array Value} {tb : List Jvm.Cond} {p : Program} {l : Launch} {e : Env} {R : Room} {s : State} {m : MethodId} {args : Array Value} {below : List Frame} {meth : Method} {c : Code} {own mname : String} {bytes : ByteArray} {maxL : Nat} {ret : Option FieldType} {n0 : Nat} {Q : Option Value → Heap → List Addr → Prop} {Q2 : Option Value → Heap → Prop} {fs : List Addr} {h : Heap} {k n : Nat} {pc : Nat} {Ls : Array Slot} {St : List Value} {EL : List (String × Nat)}
/-- what is fixed in the walk of one body -/
def Cx (Z : State) (a0 : Array Value) (tb : List Jvm.Cond) (p : Program) (s : State) (m : MethodId) (meth : Method) (c : Code) (own mname : String) (bytes : ByteArray) (maxL : Nat) (ret : Option FieldType) (n0 : Nat) : Prop :=
  p.tables.exec = Jvm.exec ∧ Z.Warmed39 s.vm ∧ s.vm.findClass own = some m.cls ∧ c.code = bytes ∧ c.maxLocals = maxL ∧ meth.sig.returnType = ret ∧ meth.locks = false ∧ (∀ d ∈ tb, d.before a0 Z = true) ∧ meth.name = mname ∧ n0 ≤ s.heap.size
theorem Cx.hx (C : Cx Z a0 tb p s m meth c own mname bytes maxL ret n0) : p.tables.exec = Jvm.exec := C.1
theorem Cx.hZ (C : Cx Z a0 tb p s m meth c own mname bytes maxL ret n0) : Z.Warmed39 s.vm := C.2.1
theorem Cx.hown (C : Cx Z a0 tb p s m meth c own mname bytes maxL ret n0) : s.vm.findClass own = some m.cls := C.2.2.1
theorem Cx.hby (C : Cx Z a0 tb p s m meth c own mname bytes maxL ret n0) : c.code = bytes := C.2.2.2.1
theorem Cx.hml (C : Cx Z a0 tb p s m meth c own mname bytes maxL ret n0) : c.maxLocals = maxL := C.2.2.2.2.1
theorem Cx.hret (C : Cx Z a0 tb p s m meth c own mname bytes maxL ret n0) : meth.sig.returnType = ret := C.2.2.2.2.2.1
theorem Cx.hlk (C : Cx Z a0 tb p s m meth c own mname bytes maxL ret n0) : meth.locks = false := C.2.2.2.2.2.2.1
theorem Cx.hw (C : Cx Z a0 tb p s m meth c own mname bytes maxL ret n0) {d : Jvm.Cond} (hd : d ∈ tb) : d.before a0 Z = true := C.2.2.2.2.2.2.2.1 d hd
theorem Cx.hnm (C : Cx Z a0 tb p s m meth c own mname bytes maxL ret n0) : meth.name = mname := C.2.2.2.2.2.2.2.2.1
theorem Cx.hn0 (C : Cx Z a0 tb p s m meth c own mname bytes maxL ret n0) : n0 ≤ s.heap.size := C.2.2.2.2.2.2.2.2.2
theorem Cx.hownAt (C : Cx Z a0 tb p s m meth c own mname bytes maxL ret n0) {vm0 : Vm} (hZ : Z.Warmed39 vm0) : vm0.findClass own = some m.cls := by
  rw [hZ.alike.findClass, ← C.hZ.alike.findClass]; exact C.hown
/-- what holds of the tables and the heap all along: the literals' invariant, and which new cells may be written -/
def Inv (Z : State) (EL : List (String × Nat)) (s : State) (vm0 : Vm) (n0 : Nat) (fs : List Addr) (h : Heap) : Prop :=
  n0 ≤ h.size ∧ (∀ x ∈ fs, n0 ≤ x ∧ x < h.size ∧ Safe Z EL vm0 h x) ∧ (∃ k0, s.Since vm0 k0 ∧ k0 ≤ h.size) ∧ Z.Warmed39 vm0 ∧ CHv Z EL vm0 h ∧ CHr Z EL s.vm s.heap vm0 h
theorem Inv.hZ {vm0 : Vm} (I : Inv Z EL s vm0 n0 fs h) : Z.Warmed39 vm0 := I.2.2.2.1
theorem Inv.ext {vm0 : Vm} {h' : Heap} (I : Inv Z EL s vm0 n0 fs h) (E : Ext h h') : Inv Z EL s vm0 n0 fs h' := by
  obtain ⟨i1, i2, ⟨k0, i3, i4⟩, i5, i6, i7⟩ := I
  exact ⟨Nat.le_trans i1 E.1, fun x hx => ⟨(i2 x hx).1, Nat.lt_of_lt_of_le (i2 x hx).2.1 E.1, (i2 x hx).2.2.ext E i6⟩, ⟨k0, i3, Nat.le_trans i4 E.1⟩, i5, i6.ext E, i7.trans (CHr.ext E i6)⟩
theorem Inv.new {vm0 : Vm} {h' : Heap} (I : Inv Z EL s vm0 n0 fs h) (E : Ext h h') (q : h.size < h'.size) : Inv Z EL s vm0 n0 (h.size :: fs) h' := by
  have J := I.ext E
  refine ⟨J.1, fun x hx => ?_, J.2.2⟩
  rcases List.mem_cons.mp hx with rfl | hx
  · exact ⟨I.1, q, (Safe.new (Nat.le_refl _)).ext E I.2.2.2.2.1⟩
  · exact J.2.1 x hx
theorem Inv.wr {vm0 : Vm} {h' : Heap} {a : Addr} {sl : Nat} {v : Value} (I : Inv Z EL s vm0 n0 fs h) (W : Wr h h' a sl v) (ha : a ∈ fs) : Inv Z EL s vm0 n0 fs h' := by
  obtain ⟨i1, i2, ⟨k0, i3, i4⟩, i5, i6, i7⟩ := I
  have hs := W.size
  have S := (i2 a ha).2.2
  exact ⟨by omega, fun x hx => ⟨(i2 x hx).1, by rw [hs]; exact (i2 x hx).2.1, Safe.wr W S i6 (i2 x hx).2.2⟩, ⟨k0, i3, by omega⟩, i5, i6.wr W S, i7.trans (CHr.wr W S i6)⟩
theorem Inv.kept {vm0 : Vm} {h' : Heap} {a : Addr} (I : Inv Z EL s vm0 n0 fs h) (K : Keep h h' [a]) (ha : a ∈ fs) : Inv Z EL s vm0 n0 fs h' := by
  obtain ⟨i1, i2, ⟨k0, i3, i4⟩, i5, i6, i7⟩ := I
  have S : ∀ x ∈ [a], Safe Z EL vm0 h x := fun x hx => by cases List.mem_singleton.mp hx; exact (i2 a ha).2.2
  exact ⟨Nat.le_trans i1 K.1, fun x hx => ⟨(i2 x hx).1, Nat.lt_of_lt_of_le (i2 x hx).2.1 K.1, (i2 x hx).2.2.keep K S i6⟩, ⟨k0, i3, Nat.le_trans i4 K.1⟩, i5, i6.keep K S, i7.trans (CHr.keep K S i6)⟩
theorem Inv.ge {vm0 : Vm} {a : Addr} (I : Inv Z EL s vm0 n0 fs h) (ha : a ∈ fs) : n0 ≤ a := (I.2.1 a ha).1
theorem Inv.less {vm0 : Vm} {fs' : List Addr} (I : Inv Z EL s vm0 n0 fs h) (q : ∀ x ∈ fs', x ∈ fs) : Inv Z EL s vm0 n0 fs' h := ⟨I.1, fun x hx => I.2.1 x (q x hx), I.2.2⟩
/-- a body that tells of no new cell that its caller may write -/
def nq (Q : Option Value → Heap → Prop) : Option Value → Heap → List Addr → Prop := fun v h ns => ns = [] ∧ Q v h
/-- from every state that stands at frame f over the heap h, the body ends well -/
def Go (Z : State) (EL : List (String × Nat)) (p : Program) (l : Launch) (e : Env) (R : Room) (s : State) (m : MethodId) (args : Array Value) (below : List Frame) (meth : Method) (c : Code) (n0 : Nat) (Q : Option Value → Heap → List Addr → Prop) (fs : List Addr) (h : Heap) (k n : Nat) (f : JFrame) : Prop :=
  ∀ vm0 T locs, Stand p l e R (s.setVm vm0) m args below meth c T locs k n → T.heap = h → Fr n0 locs → Inv Z EL s vm0 n0 fs h →
    ∃ s₂ o, Steps p.tables e below (T.setTop f) s₂ ∧ s₂.status = .running ∧ Ended s₂ below o ∧ ∃ v L ns, o = .returned v ∧ (Q v s₂.heap ns ∧ Fr n0 L) ∧ (∀ x ∈ ns, n0 ≤ x ∧ x < s₂.heap.size ∧ Safe Z EL s₂.vm s₂.heap x) ∧ CHr Z EL s.vm s.heap s₂.vm s₂.heap ∧ ReturnedEndW s o s₂ L R.cells R.slots
theorem Go.step {f f' : JFrame} (H : ∀ T : State, At T m c below → ∀ t, Steps p.tables e below (T.setTop f') t → Steps p.tables e below (T.setTop f) t) (K : Go Z EL p l e R s m args below meth c n0 Q fs h k n f') : Go Z EL p l e R s m args below meth c n0 Q fs h k n f := by
  intro vm0 T locs X eT N I
  obtain ⟨s2, o, st, r⟩ := K vm0 T locs X eT N I
  exact ⟨s2, o, H T X.here s2 st, r⟩
theorem Go.less {f : JFrame} {fs' : List Addr} (K : Go Z EL p l e R s m args below meth c n0 Q fs' h k n f) (q : ∀ x ∈ fs', x ∈ fs) : Go Z EL p l e R s m args below meth c n0 Q fs h k n f := by
  intro vm0 T locs X eT N I
  exact K vm0 T locs X eT N (I.less q)
theorem Go.size {f : JFrame} (K : n0 ≤ h.size → Go Z EL p l e R s m args below meth c n0 Q fs h k n f) : Go Z EL p l e R s m args below meth c n0 Q fs h k n f := by
  intro vm0 T locs X eT N I
  exact K I.1 vm0 T locs X eT N I
theorem Go.ge {f : JFrame} {a : Addr} (ha : a ∈ fs) (K : n0 ≤ a → Go Z EL p l e R s m args below meth c n0 Q fs h k n f) : Go Z EL p l e R s m args below meth c n0 Q fs h k n f := by
  intro vm0 T locs X eT N I
  exact K (I.ge ha) vm0 T locs X eT N I
theorem g_iload (C : Cx Z a0 tb p s m meth c own mname bytes maxL ret n0) {j : Nat} {z : Int32} (hd : decode bytes pc = .ok (.iload j, 2)) (hl : Ls[j]? = some (.val (.int z))) (K : Go Z EL p l e R s m args below meth c n0 Q fs h k n (mkF m (pc + 2) Ls (.int z :: St))) : Go Z EL p l e R s m args below meth c n0 Q fs h k n (mkF m pc Ls (St)) :=
  Go.step (fun T A t st => XS.iload A C.hx rfl (hb C.hby hd) hl st) K
theorem g_iloadN (C : Cx Z a0 tb p s m meth c own mname bytes maxL ret n0) {j : Fin 4} {z : Int32} (hd : decode bytes pc = .ok (.iload_n j, 1)) (hl : Ls[j.val]? = some (.val (.int z))) (K : Go Z EL p l e R s m args below meth c n0 Q fs h k n (mkF m (pc + 1) Ls (.int z :: St))) : Go Z EL p l e R s m args below meth c n0 Q fs h k n (mkF m pc Ls (St)) :=
  Go.step (fun T A t st => XS.iloadN A C.hx rfl (hb C.hby hd) hl st) K
theorem g_aload (C : Cx Z a0 tb p s m meth c own mname bytes maxL ret n0) {j : Nat} {v : Value} (hd : decode bytes pc = .ok (.aload j, 2)) (hl : Ls[j]? = some (.val v)) (hv : v.isRef = true) (K : Go Z EL p l e R s m args below meth c n0 Q fs h k n (mkF m (pc + 2) Ls (v :: St))) : Go Z EL p l e R s m args below meth c n0 Q fs h k n (mkF m pc Ls (St)) :=
  Go.step (fun T A t st => XS.aload A C.hx rfl (hb C.hby hd) hl hv st) K
theorem g_aloadN (C : Cx Z a0 tb p s m meth c own mname bytes maxL ret n0) {j : Fin 4} {v : Value} (hd : decode bytes pc = .ok (.aload_n j, 1)) (hl : Ls[j.val]? = some (.val v)) (hv : v.isRef = true) (K : Go Z EL p l e R s m args below meth c n0 Q fs h k n (mkF m (pc + 1) Ls (v :: St))) : Go Z EL p l e R s m args below meth c n0 Q fs h k n (mkF m pc Ls (St)) :=
  Go.step (fun T A t st => XS.aloadN A C.hx rfl (hb C.hby hd) hl hv st) K
theorem g_istore (C : Cx Z a0 tb p s m meth c own mname bytes maxL ret n0) {j : Nat} {z : Int32} (l' : Array Slot) (hd : decode bytes pc = .ok (.istore j, 2)) (hl : storeLocals Ls j (.int z) = some l') (K : Go Z EL p l e R s m args below meth c n0 Q fs h k n (mkF m (pc + 2) l' St)) : Go Z EL p l e R s m args below meth c n0 Q fs h k n (mkF m pc Ls (.int z :: St)) :=
  Go.step (fun T A t st => XS.istore A C.hx rfl (hb C.hby hd) rfl hl st) K
theorem g_istoreN (C : Cx Z a0 tb p s m meth c own mname bytes maxL ret n0) {j : Fin 4} {z : Int32} (l' : Array Slot) (hd : decode bytes pc = .ok (.istore_n j, 1)) (hl : storeLocals Ls j.val (.int z) = some l') (K : Go Z EL p l e R s m args below meth c n0 Q fs h k n (mkF m (pc + 1) l' St)) : Go Z EL p l e R s m args below meth c n0 Q fs h k n (mkF m pc Ls (.int z :: St)) :=
  Go.step (fun T A t st => XS.istoreN A C.hx rfl (hb C.hby hd) rfl hl st) K
theorem g_astore (C : Cx Z a0 tb p s m meth c own mname bytes maxL ret n0) {j : Nat} {v : Value} (l' : Array Slot) (hd : decode bytes pc = .ok (.astore j, 2)) (hv : v.isRef = true) (hl : storeLocals Ls j v = some l') (K : Go Z EL p l e R s m args below meth c n0 Q fs h k n (mkF m (pc + 2) l' St)) : Go Z EL p l e R s m args below meth c n0 Q fs h k n (mkF m pc Ls (v :: St)) :=
  Go.step (fun T A t st => XS.astore A C.hx rfl (hb C.hby hd) rfl hv hl st) K
theorem g_astoreN (C : Cx Z a0 tb p s m meth c own mname bytes maxL ret n0) {j : Fin 4} {v : Value} (l' : Array Slot) (hd : decode bytes pc = .ok (.astore_n j, 1)) (hv : v.isRef = true) (hl : storeLocals Ls j.val v = some l') (K : Go Z EL p l e R s m args below meth c n0 Q fs h k n (mkF m (pc + 1) l' St)) : Go Z EL p l e R s m args below meth c n0 Q fs h k n (mkF m pc Ls (v :: St)) :=
  Go.step (fun T A t st => XS.astoreN A C.hx rfl (hb C.hby hd) rfl hv hl st) K
theorem g_iconst (C : Cx Z a0 tb p s m meth c own mname bytes maxL ret n0) {i : Int} (z : Int32) (hd : decode bytes pc = .ok (.iconst i, 1)) (hz : Int32.ofInt i = z) (K : Go Z EL p l e R s m args below meth c n0 Q fs h k n (mkF m (pc + 1) Ls (.int z :: St))) : Go Z EL p l e R s m args below meth c n0 Q fs h k n (mkF m pc Ls (St)) :=
  Go.step (fun T A t st => XS.iconst A C.hx rfl (hb C.hby hd) (hz ▸ st)) K
theorem g_bipush (C : Cx Z a0 tb p s m meth c own mname bytes maxL ret n0) {i : Int} (z : Int32) (hd : decode bytes pc = .ok (.bipush i, 2)) (hz : (Int8.ofInt i).toInt32 = z) (K : Go Z EL p l e R s m args below meth c n0 Q fs h k n (mkF m (pc + 2) Ls (.int z :: St))) : Go Z EL p l e R s m args below meth c n0 Q fs h k n (mkF m pc Ls (St)) :=
  Go.step (fun T A t st => XS.bipush A C.hx rfl (hb C.hby hd) (hz ▸ st)) K
theorem g_sipush (C : Cx Z a0 tb p s m meth c own mname bytes maxL ret n0) {i : Int} (z : Int32) (hd : decode bytes pc = .ok (.sipush i, 3)) (hz : (Int16.ofInt i).toInt32 = z) (K : Go Z EL p l e R s m args below meth c n0 Q fs h k n (mkF m (pc + 3) Ls (.int z :: St))) : Go Z EL p l e R s m args below meth c n0 Q fs h k n (mkF m pc Ls (St)) :=
  Go.step (fun T A t st => XS.sipush A C.hx rfl (hb C.hby hd) (hz ▸ st)) K
theorem g_aconst_null (C : Cx Z a0 tb p s m meth c own mname bytes maxL ret n0)  (hd : decode bytes pc = .ok (.aconst_null, 1))  (K : Go Z EL p l e R s m args below meth c n0 Q fs h k n (mkF m (pc + 1) Ls (.null :: St))) : Go Z EL p l e R s m args below meth c n0 Q fs h k n (mkF m pc Ls (St)) :=
  Go.step (fun T A t st => XS.aconstNull A C.hx rfl (hb C.hby hd) st) K
theorem g_iadd (C : Cx Z a0 tb p s m meth c own mname bytes maxL ret n0) {x y : Int32} (hd : decode bytes pc = .ok (.iadd, 1))  (K : Go Z EL p l e R s m args below meth c n0 Q fs h k n (mkF m (pc + 1) Ls (.int (x + y) :: St))) : Go Z EL p l e R s m args below meth c n0 Q fs h k n (mkF m pc Ls (.int y :: .int x :: St)) :=
  Go.step (fun T A t st => XS.iadd A C.hx rfl (hb C.hby hd) rfl st) K
theorem g_isub (C : Cx Z a0 tb p s m meth c own mname bytes maxL ret n0) {x y : Int32} (hd : decode bytes pc = .ok (.isub, 1))  (K : Go Z EL p l e R s m args below meth c n0 Q fs h k n (mkF m (pc + 1) Ls (.int (x - y) :: St))) : Go Z EL p l e R s m args below meth c n0 Q fs h k n (mkF m pc Ls (.int y :: .int x :: St)) :=
  Go.step (fun T A t st => XS.isub A C.hx rfl (hb C.hby hd) rfl st) K
theorem g_iand (C : Cx Z a0 tb p s m meth c own mname bytes maxL ret n0) {x y : Int32} (hd : decode bytes pc = .ok (.iand, 1))  (K : Go Z EL p l e R s m args below meth c n0 Q fs h k n (mkF m (pc + 1) Ls (.int (x &&& y) :: St))) : Go Z EL p l e R s m args below meth c n0 Q fs h k n (mkF m pc Ls (.int y :: .int x :: St)) :=
  Go.step (fun T A t st => XS.iand A C.hx rfl (hb C.hby hd) rfl st) K
theorem g_ishl (C : Cx Z a0 tb p s m meth c own mname bytes maxL ret n0) {x y : Int32} (hd : decode bytes pc = .ok (.ishl, 1))  (K : Go Z EL p l e R s m args below meth c n0 Q fs h k n (mkF m (pc + 1) Ls (.int (x <<< (y &&& 31)) :: St))) : Go Z EL p l e R s m args below meth c n0 Q fs h k n (mkF m pc Ls (.int y :: .int x :: St)) :=
  Go.step (fun T A t st => XS.ishl A C.hx rfl (hb C.hby hd) rfl st) K
theorem g_ishr (C : Cx Z a0 tb p s m meth c own mname bytes maxL ret n0) {x y : Int32} (hd : decode bytes pc = .ok (.ishr, 1))  (K : Go Z EL p l e R s m args below meth c n0 Q fs h k n (mkF m (pc + 1) Ls (.int (x >>> (y &&& 31)) :: St))) : Go Z EL p l e R s m args below meth c n0 Q fs h k n (mkF m pc Ls (.int y :: .int x :: St)) :=
  Go.step (fun T A t st => XS.ishr A C.hx rfl (hb C.hby hd) rfl st) K
theorem g_iushr (C : Cx Z a0 tb p s m meth c own mname bytes maxL ret n0) {x y : Int32} (hd : decode bytes pc = .ok (.iushr, 1))  (K : Go Z EL p l e R s m args below meth c n0 Q fs h k n (mkF m (pc + 1) Ls (.int ((x.toUInt32 >>> (y &&& 31).toUInt32).toInt32) :: St))) : Go Z EL p l e R s m args below meth c n0 Q fs h k n (mkF m pc Ls (.int y :: .int x :: St)) :=
  Go.step (fun T A t st => XS.iushr A C.hx rfl (hb C.hby hd) rfl st) K
theorem g_i2b (C : Cx Z a0 tb p s m meth c own mname bytes maxL ret n0) {x : Int32} (hd : decode bytes pc = .ok (.i2b, 1))  (K : Go Z EL p l e R s m args below meth c n0 Q fs h k n (mkF m (pc + 1) Ls (.int (x.toInt8.toInt32) :: St))) : Go Z EL p l e R s m args below meth c n0 Q fs h k n (mkF m pc Ls (.int x :: St)) :=
  Go.step (fun T A t st => XS.i2b A C.hx rfl (hb C.hby hd) rfl st) K
theorem g_i2c (C : Cx Z a0 tb p s m meth c own mname bytes maxL ret n0) {x : Int32} (hd : decode bytes pc = .ok (.i2c, 1))  (K : Go Z EL p l e R s m args below meth c n0 Q fs h k n (mkF m (pc + 1) Ls (.int (x.toUInt32.toUInt16.toUInt32.toInt32) :: St))) : Go Z EL p l e R s m args below meth c n0 Q fs h k n (mkF m pc Ls (.int x :: St)) :=
  Go.step (fun T A t st => XS.i2c A C.hx rfl (hb C.hby hd) rfl st) K
theorem g_irem (C : Cx Z a0 tb p s m meth c own mname bytes maxL ret n0) {x y : Int32} (hd : decode bytes pc = .ok (.irem, 1)) (hy : y ≠ 0) (K : Go Z EL p l e R s m args below meth c n0 Q fs h k n (mkF m (pc + 1) Ls (.int (x % y) :: St))) : Go Z EL p l e R s m args below meth c n0 Q fs h k n (mkF m pc Ls (.int y :: .int x :: St)) :=
  Go.step (fun T A t st => XS.irem A C.hx rfl (hb C.hby hd) rfl hy (by rw [irem_eq_mod]; exact st)) K
theorem g_dup (C : Cx Z a0 tb p s m meth c own mname bytes maxL ret n0) {v : Value} (hd : decode bytes pc = .ok (.dup, 1)) (hc : v.category = 1) (K : Go Z EL p l e R s m args below meth c n0 Q fs h k n (mkF m (pc + 1) Ls (v :: v :: St))) : Go Z EL p l e R s m args below meth c n0 Q fs h k n (mkF m pc Ls (v :: St)) :=
  Go.step (fun T A t st => XS.dup A C.hx rfl (hb C.hby hd) rfl hc st) K
theorem g_pop (C : Cx Z a0 tb p s m meth c own mname bytes maxL ret n0) {v : Value} (hd : decode bytes pc = .ok (.pop, 1)) (hc : v.category = 1) (K : Go Z EL p l e R s m args below meth c n0 Q fs h k n (mkF m (pc + 1) Ls St)) : Go Z EL p l e R s m args below meth c n0 Q fs h k n (mkF m pc Ls (v :: St)) :=
  Go.step (fun T A t st => XS.pop A C.hx rfl (hb C.hby hd) rfl hc st) K
theorem g_iinc (C : Cx Z a0 tb p s m meth c own mname bytes maxL ret n0) {j : Nat} {i : Int} {z : Int32} (w : Int32) (l' : Array Slot) (hd : decode bytes pc = .ok (.iinc j i, 3)) (hz : Int32.ofInt i = w) (hl : Ls[j]? = some (.val (.int z))) (hl' : storeLocals Ls j (.int (z + w)) = some l') (K : Go Z EL p l e R s m args below meth c n0 Q fs h k n (mkF m (pc + 3) l' St)) : Go Z EL p l e R s m args below meth c n0 Q fs h k n (mkF m pc Ls (St)) :=
  Go.step (fun T A t st => XS.iinc A C.hx rfl (hb C.hby hd) hl (hz ▸ hl') st) K
theorem g_goto (C : Cx Z a0 tb p s m meth c own mname bytes maxL ret n0)  {o : Int} (pc' : Nat) (hd : decode bytes pc = .ok (.goto o, 3))  (ho : 0 ≤ (pc : Int) + o) (hp : ((pc : Int) + o).toNat = pc') (K : Go Z EL p l e R s m args below meth c n0 Q fs h k n (mkF m pc' Ls St)) : Go Z EL p l e R s m args below meth c n0 Q fs h k n (mkF m pc Ls (St)) :=
  Go.step (fun T A t st => XS.goto A C.hx rfl rfl (hb C.hby hd) ho hp st) K
theorem g_if_t (C : Cx Z a0 tb p s m meth c own mname bytes maxL ret n0) {cd : ClassFile.Cond} {x : Int32} {o : Int} (pc' : Nat) (hd : decode bytes pc = .ok (.ifCond cd o, 3)) (hc : ifCond.holds cd x = true) (ho : 0 ≤ (pc : Int) + o) (hp : ((pc : Int) + o).toNat = pc') (K : Go Z EL p l e R s m args below meth c n0 Q fs h k n (mkF m pc' Ls St)) : Go Z EL p l e R s m args below meth c n0 Q fs h k n (mkF m pc Ls (.int x :: St)) :=
  Go.step (fun T A t st => XS.ifYes A C.hx rfl rfl (hb C.hby hd) rfl hc ho hp st) K
theorem g_icmp_t (C : Cx Z a0 tb p s m meth c own mname bytes maxL ret n0) {cd : ClassFile.Cond} {x y : Int32} {o : Int} (pc' : Nat) (hd : decode bytes pc = .ok (.if_icmp cd o, 3)) (hc : if_icmp.holds cd x y = true) (ho : 0 ≤ (pc : Int) + o) (hp : ((pc : Int) + o).toNat = pc') (K : Go Z EL p l e R s m args below meth c n0 Q fs h k n (mkF m pc' Ls St)) : Go Z EL p l e R s m args below meth c n0 Q fs h k n (mkF m pc Ls (.int y :: .int x :: St)) :=
  Go.step (fun T A t st => XS.icmpYes A C.hx rfl rfl (hb C.hby hd) rfl hc ho hp st) K
theorem g_ifnonnull_t (C : Cx Z a0 tb p s m meth c own mname bytes maxL ret n0) {b : Addr} {o : Int} (pc' : Nat) (hd : decode bytes pc = .ok (.ifnonnull o, 3))  (ho : 0 ≤ (pc : Int) + o) (hp : ((pc : Int) + o).toNat = pc') (K : Go Z EL p l e R s m args below meth c n0 Q fs h k n (mkF m pc' Ls St)) : Go Z EL p l e R s m args below meth c n0 Q fs h k n (mkF m pc Ls (.ref b :: St)) :=
  Go.step (fun T A t st => XS.ifnonnullYes A C.hx rfl rfl (hb C.hby hd) rfl ho hp st) K
theorem g_if_f (C : Cx Z a0 tb p s m meth c own mname bytes maxL ret n0) {cd : ClassFile.Cond} {x : Int32} {o : Int} (hd : decode bytes pc = .ok (.ifCond cd o, 3)) (hc : ifCond.holds cd x = false) (K : Go Z EL p l e R s m args below meth c n0 Q fs h k n (mkF m (pc + 3) Ls St)) : Go Z EL p l e R s m args below meth c n0 Q fs h k n (mkF m pc Ls (.int x :: St)) :=
  Go.step (fun T A t st => XS.ifNo A C.hx rfl (hb C.hby hd) rfl hc st) K
theorem g_icmp_f (C : Cx Z a0 tb p s m meth c own mname bytes maxL ret n0) {cd : ClassFile.Cond} {x y : Int32} {o : Int} (hd : decode bytes pc = .ok (.if_icmp cd o, 3)) (hc : if_icmp.holds cd x y = false) (K : Go Z EL p l e R s m args below meth c n0 Q fs h k n (mkF m (pc + 3) Ls St)) : Go Z EL p l e R s m args below meth c n0 Q fs h k n (mkF m pc Ls (.int y :: .int x :: St)) :=
  Go.step (fun T A t st => XS.icmpNo A C.hx rfl (hb C.hby hd) rfl hc st) K
theorem g_ldcI (C : Cx Z a0 tb p s m meth c own mname bytes maxL ret n0) {index : Nat} {z : Int32} (w : Jvm.Cond.constant own index z ∈ tb) (hd : decode bytes pc = .ok (.ldc index, 2)) (K : Go Z EL p l e R s m args below meth c n0 Q fs h k n (mkF m (pc + 2) Ls (.int z :: St))) : Go Z EL p l e R s m args below meth c n0 Q fs h k n (mkF m pc Ls St) := by
  intro vm0 T locs X eT N I
  have hZ : Z.Warmed39 (s.setVm vm0).vm := I.hZ
  have hown : (s.setVm vm0).vm.findClass own = some m.cls := C.hownAt I.hZ
  obtain ⟨s2, o, st, r⟩ := K vm0 T locs X eT N I
  exact ⟨s2, o, X.ldcInt C.hx hown (mvT hZ (C.hw w)) (g := mkF m pc Ls St) rfl (hb C.hby hd) s2 st, r⟩
theorem g_new (C : Cx Z a0 tb p s m meth c own mname bytes maxL ret n0) {index ns : Nat} {Cn : String} (w : Jvm.Cond.classLink own index Cn ∈ tb) (wi : Jvm.Cond.instantiable Cn ns ∈ tb) (wz : Jvm.Cond.initialized Cn ∈ tb) (hd : decode bytes pc = .ok (.new index, 3)) (hc : k + 1 ≤ R.cells) (hl : n + ns ≤ R.slots)
    (K : ∀ a h', a = h.size → Ext h h' → Exa Z h' a Cn → (∀ {O nm d : String} {ty : FieldType}, Laid Z a0 Cn O nm d → parseFieldDescriptor d = some ty → Fld Z h' a O nm d (defaultValue ty)) → Go Z EL p l e R s m args below meth c n0 Q (a :: fs) h' (k + 1) (n + ns) (mkF m (pc + 3) Ls (.ref a :: St))) : Go Z EL p l e R s m args below meth c n0 Q fs h k n (mkF m pc Ls St) := by
  intro vm0 T locs X eT N I
  have hZ : Z.Warmed39 (s.setVm vm0).vm := I.hZ
  have hown : (s.setVm vm0).vm.findClass own = some m.cls := C.hownAt I.hZ
  obtain ⟨T', h', X', e', E', A', D', -, st⟩ := newO X C.hx hZ hown (C.hw w) (C.hw wi) (C.hw wz) eT (g := mkF m pc Ls St) rfl (hb C.hby hd) hc hl
  obtain ⟨s2, o, st2, r⟩ := K h.size h' rfl E' A' D' vm0 T' locs X' e' N (I.new E' A'.lt)
  exact ⟨s2, o, st _ st2, r⟩
theorem g_newarray (C : Cx Z a0 tb p s m meth c own mname bytes maxL ret n0) {aty : ArrayType} {z : Int32} (w : Jvm.Cond.arrayClass (newarray.typeOf aty) ∈ tb) (hd : decode bytes pc = .ok (.newarray aty, 2)) (hz : ¬ z < 0) (cap : Nat) (hcap : z.toNatClampNeg ≤ cap) (hbig : cap * 8 ≤ 536870912) (hc : k + 1 ≤ R.cells) (hl : n + cap ≤ R.slots) (ad : String) (had : "[" ++ (newarray.typeOf aty).toString = ad)
    (K : ∀ a h' ka, a = h.size → Ext h h' → Arv Z h' a ka (newarray.typeOf aty) z [] (defaultValue (newarray.typeOf aty)) → Exa Z h' a ad → Go Z EL p l e R s m args below meth c n0 Q (a :: fs) h' (k + 1) (n + cap) (mkF m (pc + 2) Ls (.ref a :: St))) : Go Z EL p l e R s m args below meth c n0 Q fs h k n (mkF m pc Ls (.int z :: St)) := by
  intro vm0 T locs X eT N I
  have hZ : Z.Warmed39 (s.setVm vm0).vm := I.hZ
  have hown : (s.setVm vm0).vm.findClass own = some m.cls := C.hownAt I.hZ
  obtain ⟨T', h', ka, X', e', E', A', Ex', st⟩ := newPE X C.hx hZ (C.hw w) eT (g := mkF m pc Ls (.int z :: St)) rfl (hb C.hby hd) rfl hz hcap hbig hc hl had
  obtain ⟨s2, o, st2, r⟩ := K h.size h' ka rfl E' (Arv.new A' hz) Ex' vm0 T' locs X' e' N (I.new E' A'.lt)
  exact ⟨s2, o, st _ st2, r⟩
theorem g_castore (C : Cx Z a0 tb p s m meth c own mname bytes maxL ret n0) {a : Addr} {ka : ClassId} {z j : Int32} {x : Int32} {vs : List Value} {dv : Value} (F : Arv Z h a ka .char z vs dv) (ha : a ∈ fs) (hd : decode bytes pc = .ok (.castore, 1)) (hj : ¬ j < 0 ∧ j < z) (i : Nat) (hi : j.toNatClampNeg = i) (hl : i < vs.length)
    (K : ∀ h', Wr h h' a j.toNatClampNeg (.int (nar .char x)) → Arv Z h' a ka .char z (vs.set i (.int (nar .char x))) dv → Go Z EL p l e R s m args below meth c n0 Q fs h' k n (mkF m (pc + 1) Ls St)) : Go Z EL p l e R s m args below meth c n0 Q fs h k n (mkF m pc Ls (.int x :: .int j :: .ref a :: St)) := by
  intro vm0 T locs X eT N I
  have hZ : Z.Warmed39 (s.setVm vm0).vm := I.hZ
  have hown : (s.setVm vm0).vm.findClass own = some m.cls := C.hownAt I.hZ
  obtain ⟨cl, A, q, S, Nn, H, G⟩ := F
  obtain ⟨T', h', X', e', W', st⟩ := stC X C.hx hZ eT A (j := j) (inb_of S hj) (g := mkF m pc Ls (.int x :: .int j :: .ref a :: St)) rfl rfl (hb C.hby hd)
  obtain ⟨s2, o, st2, r⟩ := K h' W' (Arv.set A q S Nn H G (fits_nar_char x) W' i hi hl) vm0 T' _ X' e' (Fr.snoc X' N (I.ge ha)) (I.wr W' ha)
  exact ⟨s2, o, st _ st2, r⟩
theorem g_bastore (C : Cx Z a0 tb p s m meth c own mname bytes maxL ret n0) {a : Addr} {ka : ClassId} {z j : Int32} {x : Int32} {vs : List Value} {dv : Value} (F : Arv Z h a ka .byte z vs dv) (ha : a ∈ fs) (hd : decode bytes pc = .ok (.bastore, 1)) (hj : ¬ j < 0 ∧ j < z) (i : Nat) (hi : j.toNatClampNeg = i) (hl : i < vs.length)
    (K : ∀ h', Wr h h' a j.toNatClampNeg (.int (nar .byte x)) → Arv Z h' a ka .byte z (vs.set i (.int (nar .byte x))) dv → Go Z EL p l e R s m args below meth c n0 Q fs h' k n (mkF m (pc + 1) Ls St)) : Go Z EL p l e R s m args below meth c n0 Q fs h k n (mkF m pc Ls (.int x :: .int j :: .ref a :: St)) := by
  intro vm0 T locs X eT N I
  have hZ : Z.Warmed39 (s.setVm vm0).vm := I.hZ
  have hown : (s.setVm vm0).vm.findClass own = some m.cls := C.hownAt I.hZ
  obtain ⟨cl, A, q, S, Nn, H, G⟩ := F
  obtain ⟨T', h', X', e', W', st⟩ := stB X C.hx hZ eT A (j := j) (inb_of S hj) (g := mkF m pc Ls (.int x :: .int j :: .ref a :: St)) rfl rfl (hb C.hby hd)
  obtain ⟨s2, o, st2, r⟩ := K h' W' (Arv.set A q S Nn H G (fits_nar_byte x) W' i hi hl) vm0 T' _ X' e' (Fr.snoc X' N (I.ge ha)) (I.wr W' ha)
  exact ⟨s2, o, st _ st2, r⟩
theorem g_baload (C : Cx Z a0 tb p s m meth c own mname bytes maxL ret n0) {a : Addr} {ka : ClassId} {z j : Int32} {vs : List Value} {dv v : Value} (F : Arv Z h a ka .byte z vs dv) (hd : decode bytes pc = .ok (.baload, 1)) (hj : ¬ j < 0 ∧ j < z) (hv : vs.getD j.toNatClampNeg dv = v)
    (K : Go Z EL p l e R s m args below meth c n0 Q fs h k n (mkF m (pc + 1) Ls (v :: St))) : Go Z EL p l e R s m args below meth c n0 Q fs h k n (mkF m pc Ls (.int j :: .ref a :: St)) := by
  intro vm0 T locs X eT N I
  have hZ : Z.Warmed39 (s.setVm vm0).vm := I.hZ
  have hown : (s.setVm vm0).vm.findClass own = some m.cls := C.hownAt I.hZ
  obtain ⟨cl, A, q, S, Nn, H, G⟩ := F
  obtain ⟨s2, o, st2, r⟩ := K vm0 T locs X eT N I
  exact ⟨s2, o, X.baloadBytes C.hx (j := j) (v := v) (by rw [eT]; exact A.1) (State.isArrayOf_alike hZ.alike A.2.1) A.2.2 (inb_of S hj) (H.at (inb_of S hj) hv) (g := mkF m pc Ls (.int j :: .ref a :: St)) rfl rfl (hb C.hby hd) _ st2, r⟩
theorem g_arraylength (C : Cx Z a0 tb p s m meth c own mname bytes maxL ret n0) {a : Addr} {ka : ClassId} {ty : FieldType} {z : Int32} {vs : List Value} {dv : Value} (F : Arv Z h a ka ty z vs dv) (hd : decode bytes pc = .ok (.arraylength, 1))
    (K : Go Z EL p l e R s m args below meth c n0 Q fs h k n (mkF m (pc + 1) Ls (.int z :: St))) : Go Z EL p l e R s m args below meth c n0 Q fs h k n (mkF m pc Ls (.ref a :: St)) := by
  intro vm0 T locs X eT N I
  have hZ : Z.Warmed39 (s.setVm vm0).vm := I.hZ
  have hown : (s.setVm vm0).vm.findClass own = some m.cls := C.hownAt I.hZ
  obtain ⟨cl, A, q, S, Nn, H, G⟩ := F
  obtain ⟨s2, o, st2, r⟩ := K vm0 T locs X eT N I
  refine ⟨s2, o, X.arraylength C.hx (by rw [eT]; exact A.1) (State.isArrayOf_alike hZ.alike A.2.1) (g := mkF m pc Ls (.ref a :: St)) rfl rfl (hb C.hby hd) _ ?_, r⟩
  rw [len_of S Nn]; exact st2
theorem g_clone (C : Cx Z a0 tb p s m meth c own mname bytes maxL ret n0) {index : Nat} {ad : String} {a : Addr} {ka : ClassId} {ty : FieldType} {z : Int32} {vs : List Value} {dv : Value} (w1 : Jvm.Cond.methodLink own index ⟨ad, "clone", "()Ljava/lang/Object;"⟩ ∈ tb) (w2 : Jvm.Cond.sameMethod ad "java/lang/Object" "clone" "()Ljava/lang/Object;" ∈ tb) (w3 : Jvm.Cond.native ⟨"java/lang/Object", "clone", "()Ljava/lang/Object;"⟩ ∈ tb)
    (w4 : Jvm.Cond.instanceMethod ⟨"java/lang/Object", "clone", "()Ljava/lang/Object;"⟩ ∈ tb) (w5 : Jvm.Cond.selects ad ⟨ad, "clone", "()Ljava/lang/Object;"⟩ ⟨"java/lang/Object", "clone", "()Ljava/lang/Object;"⟩ ∈ tb) (w6 : Jvm.Cond.castable ad "java/lang/Cloneable" ∈ tb)
    (F : Arv Z h a ka ty z vs dv) (E : Exa Z h a ad) (hsz : Ls.size = maxL) (hd : decode bytes pc = .ok (.invokevirtual index, 3)) (hf : 1 ≤ R.frames) (W : Nat) (hW : (St.map fun v => v.category).sum ≤ W) (hlo : W + 14 ≤ R.locals) (cap : Nat) (hcap : z.toNatClampNeg ≤ cap) (hc : k + 1 ≤ R.cells) (hl : n + cap ≤ R.slots)
    (K : ∀ b h', b = h.size → Ext h h' → Arv Z h' b ka ty z vs dv → Exa Z h' b ad → Go Z EL p l e R s m args below meth c n0 Q (b :: fs) h' (k + 1) (n + cap) (mkF m (pc + 3) Ls (.ref b :: St))) : Go Z EL p l e R s m args below meth c n0 Q fs h k n (mkF m pc Ls (.ref a :: St)) := by
  intro vm0 T locs X eT N I
  have hZ : Z.Warmed39 (s.setVm vm0).vm := I.hZ
  have hown : (s.setVm vm0).vm.findClass own = some m.cls := C.hownAt I.hZ
  obtain ⟨cl, A, q1, S, q3, H, G⟩ := F
  have FC : FitC Z cl := fitC_of A fun i hi v hv => by rw [H i hi] at hv; cases hv; exact G i hi
  obtain ⟨T', h', X', e', ex, A', E', st⟩ := cloneA X C.hx hZ hown (C.hw w1) (C.hw w2) (C.hw w3) (C.hw w4) (C.hw w5) (C.hw w6) eT A E FC (g := mkF m pc Ls (.ref a :: St)) rfl (hsz.trans C.hml.symm) rfl (hb C.hby hd) hf (W := W) (by show 2 * 0 + _ ≤ _; omega) hlo (by rw [S]; exact hcap) hc hl
  obtain ⟨s2, o, st2, r⟩ := K h.size h' rfl ex ⟨cloneOf cl, A', q1, S, q3, H, G⟩ E' vm0 T' locs X' e' N (I.new ex E'.lt)
  exact ⟨s2, o, st _ st2, r⟩
theorem g_arraycopy (C : Cx Z a0 tb p s m meth c own mname bytes maxL ret n0) {index : Nat} {a b : Addr} {ka kb : ClassId} {ty : FieldType} {z z' sp dp nn : Int32} {vs vd : List Value} {dv dd : Value} (w1 : Jvm.Cond.methodLink own index Jvm.Stand.acN ∈ tb) (w2 : Jvm.Cond.native Jvm.Stand.acN ∈ tb) (w3 : Jvm.Cond.static Jvm.Stand.acN ∈ tb) (w4 : Jvm.Cond.initialized "java/lang/System" ∈ tb)
    (A : Arv Z h a ka ty z vs dv) (B : Arv Z h b kb ty z' vd dd) (hty : refKind ty = false) (h1 : ¬ sp < 0) (h2 : ¬ dp < 0) (h3 : ¬ nn < 0) (h4 : sp.toNatClampNeg + nn.toNatClampNeg ≤ z.toNatClampNeg) (h5 : dp.toNatClampNeg + nn.toNatClampNeg ≤ z'.toNatClampNeg) (us : List Value) (hus : us = (List.range nn.toNatClampNeg).map fun i => vs.getD (sp.toNatClampNeg + i) dv) (hlv : dp.toNatClampNeg + nn.toNatClampNeg ≤ vd.length)
    (hb' : b ∈ fs) (hsz : Ls.size = maxL) (hd : decode bytes pc = .ok (.invokestatic index, 3)) (hf : 1 ≤ R.frames) (W : Nat) (hW : (St.map fun v => v.category).sum ≤ W) (hlo : W + (nativeFrameWords "java/lang/System" "arraycopy" 5 + 11) ≤ R.locals)
    (K : ∀ h', Keep h h' [b] → Arv Z h' b kb ty z' (vd.take dp.toNatClampNeg ++ us ++ vd.drop (dp.toNatClampNeg + nn.toNatClampNeg)) dd → Go Z EL p l e R s m args below meth c n0 Q fs h' k n (mkF m (pc + 3) Ls St)) : Go Z EL p l e R s m args below meth c n0 Q fs h k n (mkF m pc Ls (.int nn :: .int dp :: .ref b :: .int sp :: .ref a :: St)) := by
  intro vm0 T locs X eT N I
  have hZ : Z.Warmed39 (s.setVm vm0).vm := I.hZ
  have hown : (s.setVm vm0).vm.findClass own = some m.cls := C.hownAt I.hZ
  obtain ⟨T', h', L, X', e', N', K', V', st⟩ := cpA X C.hx hZ hown (C.hw w1) (C.hw w2) (C.hw w3) (C.hw w4) eT A B (Or.inl ⟨rfl, hty⟩) h1 h2 h3 h4 h5 hus hlv N (I.ge hb') (g := mkF m pc Ls (.int nn :: .int dp :: .ref b :: .int sp :: .ref a :: St)) rfl (hsz.trans C.hml.symm) rfl (hb C.hby hd) hf (W := W) (by show 2 * 0 + _ ≤ _; omega) hlo
  obtain ⟨s2, o, st2, r⟩ := K h' K' V' vm0 T' L X' e' N' (I.kept K' hb')
  exact ⟨s2, o, st _ st2, r⟩
theorem g_getfield (C : Cx Z a0 tb p s m meth c own mname bytes maxL ret n0) {index : Nat} {R0 O nm d : String} {a : Addr} {v : Value} (w : Jvm.Cond.fieldLink own index R0 nm d ∈ tb) (via : Via Z R0 O nm d) (F : Fld Z h a O nm d v) (hd : decode bytes pc = .ok (.getfield index, 3))
    (K : Go Z EL p l e R s m args below meth c n0 Q fs h k n (mkF m (pc + 3) Ls (v :: St))) : Go Z EL p l e R s m args below meth c n0 Q fs h k n (mkF m pc Ls (.ref a :: St)) := by
  intro vm0 T locs X eT N I
  have hZ : Z.Warmed39 (s.setVm vm0).vm := I.hZ
  have hown : (s.setVm vm0).vm.findClass own = some m.cls := C.hownAt I.hZ
  obtain ⟨T', X', e', st⟩ := getF X C.hx hZ hown (host := "") (Or.inl (C.hw w)) via eT F (g := mkF m pc Ls (.ref a :: St)) rfl rfl (hb C.hby hd)
  obtain ⟨s2, o, st2, r⟩ := K vm0 T' locs X' e' N I
  exact ⟨s2, o, st _ st2, r⟩
theorem g_putfield (C : Cx Z a0 tb p s m meth c own mname bytes maxL ret n0) {index kk : Nat} {R0 O nm d Cn : String} {a : Addr} {v old : Value} (ty : FieldType) (w : Jvm.Cond.fieldLink own index R0 nm d ∈ tb) (via : Via Z R0 O nm d) (F : Fld Z h a O nm d old) (E : Exa Z h a Cn) (hl : Jvm.Cond.lays Cn O nm d ∈ tb ∨ (Jvm.Cond.laysFinal Cn O nm d ∈ tb ∧ own = O ∧ mname = "<init>")) (wi : Jvm.Cond.instantiable Cn kk ∈ tb)
    (hty : parseFieldDescriptor d = some ty) (hn : narrow ty v = v) (hf : fits ty v = true) (ha : a ∈ fs) (hd : decode bytes pc = .ok (.putfield index, 3))
    (K : ∀ h', Wr h h' a (Jvm.RoadKit.slotOf Z O nm d) v → Fld Z h' a O nm d v → Go Z EL p l e R s m args below meth c n0 Q fs h' k n (mkF m (pc + 3) Ls St)) : Go Z EL p l e R s m args below meth c n0 Q fs h k n (mkF m pc Ls (v :: .ref a :: St)) := by
  intro vm0 T locs X eT N I
  have hZ : Z.Warmed39 (s.setVm vm0).vm := I.hZ
  have hown : (s.setVm vm0).vm.findClass own = some m.cls := C.hownAt I.hZ
  obtain ⟨T', h', X', e', W', st⟩ := putF X C.hx hZ hown (host := "") (Or.inl (C.hw w)) via eT F E (hl.imp (fun q => C.hw q) (fun q => ⟨C.hw q.1, q.2.1, C.hnm.trans q.2.2⟩)) (C.hw wi) (ty := ty) hty hn hf (g := mkF m pc Ls (v :: .ref a :: St)) rfl rfl (hb C.hby hd)
  obtain ⟨s2, o, st2, r⟩ := K h' W' (F.same W') vm0 T' _ X' e' (Fr.snoc X' N (I.ge ha)) (I.wr W' ha)
  exact ⟨s2, o, st _ st2, r⟩
theorem g_putfieldZ (C : Cx Z a0 tb p s m meth c own mname bytes maxL ret n0) {index kk : Nat} {R0 O nm d Cn : String} {a : Addr} {x : Int32} {old : Value} (ty : FieldType) (v' : Value) (w : Jvm.Cond.fieldLink own index R0 nm d ∈ tb) (via : Via Z R0 O nm d) (F : Fld Z h a O nm d old) (E : Exa Z h a Cn) (hl : Jvm.Cond.lays Cn O nm d ∈ tb ∨ (Jvm.Cond.laysFinal Cn O nm d ∈ tb ∧ own = O ∧ mname = "<init>")) (wi : Jvm.Cond.instantiable Cn kk ∈ tb)
    (hty : parseFieldDescriptor d = some ty) (hn : narrow ty (.int x) = v') (hf : fits ty v' = true) (ha : a ∈ fs) (hd : decode bytes pc = .ok (.putfield index, 3))
    (K : ∀ h', Wr h h' a (Jvm.RoadKit.slotOf Z O nm d) v' → Fld Z h' a O nm d v' → Go Z EL p l e R s m args below meth c n0 Q fs h' k n (mkF m (pc + 3) Ls St)) : Go Z EL p l e R s m args below meth c n0 Q fs h k n (mkF m pc Ls (.int x :: .ref a :: St)) := by
  intro vm0 T locs X eT N I
  have hZ : Z.Warmed39 (s.setVm vm0).vm := I.hZ
  have hown : (s.setVm vm0).vm.findClass own = some m.cls := C.hownAt I.hZ
  obtain ⟨T', h', X', e', W', st⟩ := putFN X C.hx hZ hown (C.hw w) via eT F E (hl.imp (fun q => C.hw q) (fun q => ⟨C.hw q.1, q.2.1, C.hnm.trans q.2.2⟩)) (C.hw wi) (ty := ty) (v' := v') hty hn hf (g := mkF m pc Ls (.int x :: .ref a :: St)) rfl rfl (hb C.hby hd)
  obtain ⟨s2, o, st2, r⟩ := K h' W' (F.same W') vm0 T' _ X' e' (Fr.snoc X' N (I.ge ha)) (I.wr W' ha)
  exact ⟨s2, o, st _ st2, r⟩
theorem g_getstatic (C : Cx Z a0 tb p s m meth c own mname bytes maxL ret n0) {index : Nat} {R0 O nm d : String} {v : Value} (w : Jvm.Cond.fieldLink own index R0 nm d ∈ tb) (via : Via Z R0 O nm d) (F : Sta Z h O nm d v) (hd : decode bytes pc = .ok (.getstatic index, 3))
    (K : Go Z EL p l e R s m args below meth c n0 Q fs h k n (mkF m (pc + 3) Ls (v :: St))) : Go Z EL p l e R s m args below meth c n0 Q fs h k n (mkF m pc Ls St) := by
  intro vm0 T locs X eT N I
  have hZ : Z.Warmed39 (s.setVm vm0).vm := I.hZ
  have hown : (s.setVm vm0).vm.findClass own = some m.cls := C.hownAt I.hZ
  obtain ⟨T', X', e', st⟩ := getS2 X C.hx hZ hown (host := "") (Or.inl (C.hw w)) via eT F (g := mkF m pc Ls St) rfl (hb C.hby hd)
  obtain ⟨s2, o, st2, r⟩ := K vm0 T' locs X' e' N I
  exact ⟨s2, o, st _ st2, r⟩
theorem g_checkcast (C : Cx Z a0 tb p s m meth c own mname bytes maxL ret n0) {index : Nat} {Kn : String} {a : Addr} (w : Jvm.Cond.classLink own index Kn ∈ tb) (F : Ins Z h a Kn true) (hd : decode bytes pc = .ok (.checkcast index, 3))
    (K : Go Z EL p l e R s m args below meth c n0 Q fs h k n (mkF m (pc + 3) Ls (.ref a :: St))) : Go Z EL p l e R s m args below meth c n0 Q fs h k n (mkF m pc Ls (.ref a :: St)) := by
  intro vm0 T locs X eT N I
  have hZ : Z.Warmed39 (s.setVm vm0).vm := I.hZ
  have hown : (s.setVm vm0).vm.findClass own = some m.cls := C.hownAt I.hZ
  obtain ⟨T', X', e', st⟩ := castY X C.hx hZ hown (C.hw w) eT F (g := mkF m pc Ls (.ref a :: St)) rfl rfl (hb C.hby hd)
  obtain ⟨s2, o, st2, r⟩ := K vm0 T' locs X' e' N I
  exact ⟨s2, o, st _ st2, r⟩
theorem g_initO (C : Cx Z a0 tb p s m meth c own mname bytes maxL ret n0) {index : Nat} {a : Addr} (w1 : Jvm.Cond.methodLink own index Lib.objectInit ∈ tb) (w2 : Jvm.Cond.instanceMethod Lib.objectInit ∈ tb) (w3 : Jvm.Cond.code Lib.objectInit ⟨#[0xb1]⟩ 1 none ∈ tb) (hsz : Ls.size = maxL) (hd : decode bytes pc = .ok (.invokespecial index, 3)) (hf : 1 ≤ R.frames) (W : Nat) (hW : (St.map fun v => v.category).sum ≤ W) (hl : W + 12 ≤ R.locals)
    (K : Go Z EL p l e R s m args below meth c n0 Q fs h k n (mkF m (pc + 3) Ls St)) : Go Z EL p l e R s m args below meth c n0 Q fs h k n (mkF m pc Ls (.ref a :: St)) := by
  intro vm0 T locs X eT N I
  have hZ : Z.Warmed39 (s.setVm vm0).vm := I.hZ
  have hown : (s.setVm vm0).vm.findClass own = some m.cls := C.hownAt I.hZ
  obtain ⟨T', X', e', st⟩ := initO X C.hx hZ hown (C.hw w1) (C.hw w2) (C.hw w3) eT (g := mkF m pc Ls (.ref a :: St)) rfl (hsz.trans C.hml.symm) rfl (hb C.hby hd) hf (W := W) (by show 2 * 0 + _ ≤ _; omega) hl
  obtain ⟨s2, o, st2, r⟩ := K vm0 T' locs X' e' N I
  exact ⟨s2, o, st _ st2, r⟩
theorem own_end {vm0 : Vm} {k0 : Nat} {v : Option Value} {T : State} {ff : List Frame} {L : List Loc} {kc kn : Nat} (hS : s.Since vm0 k0) (hk0 : k0 ≤ T.heap.size) (hW : (s.setVm vm0).WarmedH (T.setFrames ff).vm) (hs : (s.setVm vm0).sameButNew ({ T.setFrames ff with vm := (s.setVm vm0).vm } : State) L kc kn) : ReturnedEndW s (.returned v) (T.setFrames ff) L kc kn := by
  have q := hS.trans (hW.since (T.setFrames ff).heap.size) hk0
  exact ⟨⟨_, rfl⟩, q.1, q.2, hs.setVm s.vm⟩
theorem g_ldcS (C : Cx Z a0 tb p s m meth c own mname bytes maxL ret n0) (hEL : EW Z a0 EL) {index : Nat} {text : String} (w : Jvm.Cond.stringLink own index text ∈ tb) (wS : ∀ a ∈ Bundle.stringAtoms, a ∈ tb) (hmem : (own, index) ∈ EL) (cs : List Int32) (ht : (∀ c ∈ text.toList, c.toNat < 256) ∧ text.toList.map (fun c => Value.int (Jvm.Lit.byteI c.toNat.toUInt16)) = (cs.map fun c => c.toInt8.toInt32).map Value.int) (hcs : cs.length ≤ 4000) (hb8 : ∀ c ∈ cs, ¬ c < 0 ∧ ¬ (255 : Int32) < c)
    (hd : decode bytes pc = .ok (.ldc index, 2)) (nn : Nat) (hn : 4 * text.toList.length ≤ nn) (hbig : nn ≤ 536870912) (hc : k + 2 ≤ R.cells) (hl : n + (nn + 4) ≤ R.slots)
    (K : ∀ a b kb h', Ext h h' → Str Z h' a b kb cs → (∀ x ∈ fs, x ≠ a ∧ x ≠ b) → Go Z EL p l e R s m args below meth c n0 Q fs h' (k + 2) (n + (nn + 4)) (mkF m (pc + 2) Ls (.ref a :: St))) : Go Z EL p l e R s m args below meth c n0 Q fs h k n (mkF m pc Ls St) := by
  intro vm0 T locs X eT N I
  have hZ : Z.Warmed39 (s.setVm vm0).vm := I.hZ
  have hown : (s.setVm vm0).vm.findClass own = some m.cls := C.hownAt I.hZ
  obtain ⟨k0, hS, hk0⟩ := I.2.2.1
  have e31 : (Int32.ofNat cs.length).toInt = cs.length := Int32.toInt_ofNat_of_lt (by omega)
  have hz : ¬ Int32.ofNat cs.length < 0 := by
    rw [Int32.lt_iff_toInt_lt, e31]; show ¬ (cs.length : Int) < 0; omega
  have hlen : (Int32.ofNat cs.length).toNatClampNeg = ((cs.map fun c => c.toInt8.toInt32).map Value.int).length := by
    rw [Int32.toNatClampNeg, e31]; simp
  obtain ⟨a, T', h', k1, b, kb, X', e', E', hS', hk1, hZ', hown', s1, s2, s3, s4, s5, s6, hC, hL, hne, st⟩ := ldcCH X C.hx hZ hown (C.hw w) (fun a ha => C.hw (wS a ha)) eT hS hk0 hEL hmem I.2.2.2.2.1 ht hz hlen (g := mkF m pc Ls St) rfl (hb C.hby hd) hn hbig hc hl
  have I' : Inv Z EL s T'.vm n0 fs h' := ⟨Nat.le_trans I.1 hC.2.1, fun x hx => ⟨(I.2.1 x hx).1, Nat.lt_of_lt_of_le (I.2.1 x hx).2.1 hC.2.1, hC.safe (I.2.1 x hx).2.1 (I.2.1 x hx).2.2⟩, ⟨k1, hS', hk1⟩, hZ', hC.1, I.2.2.2.2.2.trans hC⟩
  obtain ⟨s2', o, st2, r⟩ := K a b kb h' E' ⟨s1, s2, s3, s4, hcs, hb8⟩ (fun x hx => hne x (I'.2.1 x hx).2.2) T'.vm T' locs X' e' N I'
  exact ⟨s2', o, st _ st2, r⟩
theorem own_narref {t : FieldType} {v : Value} (ht : t.isReference = true) (hv : v.isRef = true) : narrow t v = v := by
  rcases ref_cases hv with rfl | ⟨b, rfl⟩ <;> cases t <;> first | rfl | (cases ht)
theorem g_returnX (C : Cx Z a0 tb p s m meth c own mname bytes maxL ret n0) (hEL : EW Z a0 EL)  (ns : List Addr) (hns : ∀ x ∈ ns, x ∈ fs) (hret : ret = none) (hd : decode bytes pc = .ok (.return_, 1)) (hk : k ≤ R.cells) (hn : n ≤ R.slots) (hQ : Q (none) h ns) : Go Z EL p l e R s m args below meth c n0 Q fs h k n (mkF m pc Ls ([])) := by
  intro vm0 T locs X eT N I
  have hZ : Z.Warmed39 (s.setVm vm0).vm := I.hZ
  have hown : (s.setVm vm0).vm.findClass own = some m.cls := C.hownAt I.hZ
  obtain ⟨ff, hr, hrun, hended, hW, hsame⟩ := X.leave (v := none) (fun _ => rfl) C.hlk
  refine ⟨_, _, X.returnOut C.hx (C.hret.trans hret) (hb C.hby hd) hr, hrun, hended, _, _, ns, rfl, ⟨by rw [show (T.setFrames ff).heap = T.heap from rfl, eT]; exact hQ, N⟩, ?_, ?_, ?_⟩
  · intro y hy
    have J := CHv.at X I.hZ hEL I.2.2.2.2.1
    have q := I.2.1 y (hns y hy)
    rw [show (T.setFrames ff).heap = h from eT]
    exact ⟨q.1, q.2.1, J.safe q.2.1 q.2.2⟩
  · exact (by rw [show (T.setFrames ff).heap = h from eT]; exact (show CHr Z EL s.vm s.heap T.vm h from I.2.2.2.2.2.trans (CHv.at X I.hZ hEL I.2.2.2.2.1)))
  · obtain ⟨k0, hS, hk0⟩ := I.2.2.1
    exact own_end hS (by rw [← eT] at hk0; exact hk0) hW (hsame.mono hk hn)
theorem g_return (C : Cx Z a0 tb p s m meth c own mname bytes maxL ret n0) (hEL : EW Z a0 EL)  (hret : ret = none) (hd : decode bytes pc = .ok (.return_, 1)) (hk : k ≤ R.cells) (hn : n ≤ R.slots) (hQ : Q2 (none) h) : Go Z EL p l e R s m args below meth c n0 (nq Q2) fs h k n (mkF m pc Ls ([])) :=
  g_returnX C hEL [] all0 hret hd hk hn ⟨rfl, hQ⟩
theorem g_ireturnIX (C : Cx Z a0 tb p s m meth c own mname bytes maxL ret n0) (hEL : EW Z a0 EL) {z : Int32} (ns : List Addr) (hns : ∀ x ∈ ns, x ∈ fs) (hret : ret = some .int) (hd : decode bytes pc = .ok (.ireturn, 1)) (hk : k ≤ R.cells) (hn : n ≤ R.slots) (hQ : Q (some (.int z)) h ns) : Go Z EL p l e R s m args below meth c n0 Q fs h k n (mkF m pc Ls (.int z :: St)) := by
  intro vm0 T locs X eT N I
  have hZ : Z.Warmed39 (s.setVm vm0).vm := I.hZ
  have hown : (s.setVm vm0).vm.findClass own = some m.cls := C.hownAt I.hZ
  obtain ⟨ff, hr, hrun, hended, hW, hsame⟩ := X.leave (v := some (.int z)) (fun q => by rw [C.hret, hret] at q; cases q) C.hlk
  refine ⟨_, _, retOut X C.hx (t := .int) (C.hret.trans hret) rfl (Or.inl ⟨rfl, Or.inl rfl, z, rfl⟩) (hb C.hby hd) hr, hrun, hended, _, _, ns, rfl, ⟨by rw [show (T.setFrames ff).heap = T.heap from rfl, eT]; exact hQ, N⟩, ?_, ?_, ?_⟩
  · intro y hy
    have J := CHv.at X I.hZ hEL I.2.2.2.2.1
    have q := I.2.1 y (hns y hy)
    rw [show (T.setFrames ff).heap = h from eT]
    exact ⟨q.1, q.2.1, J.safe q.2.1 q.2.2⟩
  · exact (by rw [show (T.setFrames ff).heap = h from eT]; exact (show CHr Z EL s.vm s.heap T.vm h from I.2.2.2.2.2.trans (CHv.at X I.hZ hEL I.2.2.2.2.1)))
  · obtain ⟨k0, hS, hk0⟩ := I.2.2.1
    exact own_end hS (by rw [← eT] at hk0; exact hk0) hW (hsame.mono hk hn)
theorem g_ireturnI (C : Cx Z a0 tb p s m meth c own mname bytes maxL ret n0) (hEL : EW Z a0 EL) {z : Int32} (hret : ret = some .int) (hd : decode bytes pc = .ok (.ireturn, 1)) (hk : k ≤ R.cells) (hn : n ≤ R.slots) (hQ : Q2 (some (.int z)) h) : Go Z EL p l e R s m args below meth c n0 (nq Q2) fs h k n (mkF m pc Ls (.int z :: St)) :=
  g_ireturnIX C hEL [] all0 hret hd hk hn ⟨rfl, hQ⟩
theorem g_ireturnNX (C : Cx Z a0 tb p s m meth c own mname bytes maxL ret n0) (hEL : EW Z a0 EL) {z : Int32} {t : FieldType} (ns : List Addr) (hns : ∀ x ∈ ns, x ∈ fs) (hret : ret = some t) (ht : t = .boolean ∨ t = .byte ∨ t = .char ∨ t = .short) (hd : decode bytes pc = .ok (.ireturn, 1)) (hk : k ≤ R.cells) (hn : n ≤ R.slots) (hQ : Q (some (.int (nar t z))) h ns) : Go Z EL p l e R s m args below meth c n0 Q fs h k n (mkF m pc Ls (.int z :: St)) := by
  intro vm0 T locs X eT N I
  have hZ : Z.Warmed39 (s.setVm vm0).vm := I.hZ
  have hown : (s.setVm vm0).vm.findClass own = some m.cls := C.hownAt I.hZ
  obtain ⟨ff, hr, hrun, hended, hW, hsame⟩ := X.leave (v := some (.int (nar t z))) (fun q => by rw [C.hret, hret] at q; cases q) C.hlk
  refine ⟨_, _, retN X C.hx (C.hret.trans hret) ht (hb C.hby hd) hr, hrun, hended, _, _, ns, rfl, ⟨by rw [show (T.setFrames ff).heap = T.heap from rfl, eT]; exact hQ, N⟩, ?_, ?_, ?_⟩
  · intro y hy
    have J := CHv.at X I.hZ hEL I.2.2.2.2.1
    have q := I.2.1 y (hns y hy)
    rw [show (T.setFrames ff).heap = h from eT]
    exact ⟨q.1, q.2.1, J.safe q.2.1 q.2.2⟩
  · exact (by rw [show (T.setFrames ff).heap = h from eT]; exact (show CHr Z EL s.vm s.heap T.vm h from I.2.2.2.2.2.trans (CHv.at X I.hZ hEL I.2.2.2.2.1)))
  · obtain ⟨k0, hS, hk0⟩ := I.2.2.1
    exact own_end hS (by rw [← eT] at hk0; exact hk0) hW (hsame.mono hk hn)
theorem g_ireturnN (C : Cx Z a0 tb p s m meth c own mname bytes maxL ret n0) (hEL : EW Z a0 EL) {z : Int32} {t : FieldType} (hret : ret = some t) (ht : t = .boolean ∨ t = .byte ∨ t = .char ∨ t = .short) (hd : decode bytes pc = .ok (.ireturn, 1)) (hk : k ≤ R.cells) (hn : n ≤ R.slots) (hQ : Q2 (some (.int (nar t z))) h) : Go Z EL p l e R s m args below meth c n0 (nq Q2) fs h k n (mkF m pc Ls (.int z :: St)) :=
  g_ireturnNX C hEL [] all0 hret ht hd hk hn ⟨rfl, hQ⟩
theorem g_areturnX (C : Cx Z a0 tb p s m meth c own mname bytes maxL ret n0) (hEL : EW Z a0 EL) {v : Value} {t : FieldType} (ns : List Addr) (hns : ∀ x ∈ ns, x ∈ fs) (hret : ret = some t) (ht : t.isReference = true) (hv : v.isRef = true) (hd : decode bytes pc = .ok (.areturn, 1)) (hk : k ≤ R.cells) (hn : n ≤ R.slots) (hQ : Q (some v) h ns) : Go Z EL p l e R s m args below meth c n0 Q fs h k n (mkF m pc Ls (v :: St)) := by
  intro vm0 T locs X eT N I
  have hZ : Z.Warmed39 (s.setVm vm0).vm := I.hZ
  have hown : (s.setVm vm0).vm.findClass own = some m.cls := C.hownAt I.hZ
  obtain ⟨ff, hr, hrun, hended, hW, hsame⟩ := X.leave (v := some v) (fun q => by rw [C.hret, hret] at q; cases q) C.hlk
  refine ⟨_, _, retOut X C.hx (C.hret.trans hret) (own_narref ht hv) (Or.inr (Or.inr (Or.inr (Or.inr ⟨rfl, ht, hv⟩)))) (hb C.hby hd) hr, hrun, hended, _, _, ns, rfl, ⟨by rw [show (T.setFrames ff).heap = T.heap from rfl, eT]; exact hQ, N⟩, ?_, ?_, ?_⟩
  · intro y hy
    have J := CHv.at X I.hZ hEL I.2.2.2.2.1
    have q := I.2.1 y (hns y hy)
    rw [show (T.setFrames ff).heap = h from eT]
    exact ⟨q.1, q.2.1, J.safe q.2.1 q.2.2⟩
  · exact (by rw [show (T.setFrames ff).heap = h from eT]; exact (show CHr Z EL s.vm s.heap T.vm h from I.2.2.2.2.2.trans (CHv.at X I.hZ hEL I.2.2.2.2.1)))
  · obtain ⟨k0, hS, hk0⟩ := I.2.2.1
    exact own_end hS (by rw [← eT] at hk0; exact hk0) hW (hsame.mono hk hn)
theorem g_areturn (C : Cx Z a0 tb p s m meth c own mname bytes maxL ret n0) (hEL : EW Z a0 EL) {v : Value} {t : FieldType} (hret : ret = some t) (ht : t.isReference = true) (hv : v.isRef = true) (hd : decode bytes pc = .ok (.areturn, 1)) (hk : k ≤ R.cells) (hn : n ≤ R.slots) (hQ : Q2 (some v) h) : Go Z EL p l e R s m args below meth c n0 (nq Q2) fs h k n (mkF m pc Ls (v :: St)) :=
  g_areturnX C hEL [] all0 hret ht hv hd hk hn ⟨rfl, hQ⟩
/-- a body's contract: called so, over this heap, it returns with Q, and the literals' invariant goes on -/
def Met (l : Launch) (Z : State) (EL : List (String × Nat)) (y : MethodName) (bytes : ByteArray) (maxL : Nat) (ret : Option FieldType) (ws : List Jvm.Cond) (rm : Room) (fs : List Addr) (as' : Array Value) (h : Heap) (n0 : Nat) (Q : Option Value → Heap → List Addr → Prop) : Prop :=
  n0 ≤ h.size → (∀ x ∈ fs, n0 ≤ x ∧ x < h.size) → MetFree l y (head1 (Jvm.Cond.code y bytes maxL ret :: ws) rm) (fun a U => a = as' ∧ Z.Warmed39 U.vm ∧ U.heap = h ∧ CHv Z EL U.vm h ∧ ∀ x ∈ fs, Safe Z EL U.vm h x) (fun _ _ _ _ _ => True) (fun _ U o U' => ∃ v L ns, o = .returned v ∧ (Q v U'.heap ns ∧ Fr n0 L) ∧ (∀ x ∈ ns, n0 ≤ x ∧ x < U'.heap.size ∧ Safe Z EL U'.vm U'.heap x) ∧ CHr Z EL U.vm U.heap U'.vm U'.heap ∧ ReturnedEndW U o U' L rm.cells rm.slots)
theorem met_of {y : MethodName} {ws : List Jvm.Cond} {as' : Array Value} (hpl : plainFor y = true) (hw : ∀ d ∈ tb, d.before a0 Z = true) (Ls : Array Slot) (hef : ∀ m : MethodId, entryFrame m as' maxL = mkF m 0 Ls [])
    (H : ∀ p e s m below meth c, Cx Z a0 tb p s m meth c y.cls y.name bytes maxL ret n0 → Go Z EL p l e R s m as' below meth c n0 Q fs h 0 0 (mkF m 0 Ls [])) : Met l Z EL y bytes maxL ret ws R fs as' h n0 Q := by
  intro hn0 hfs
  refine MetFree.of_bodySF hpl hisR ?_
  intro p e s m args below meth c s₁ Bd hml0 hP hK
  obtain ⟨rfl, hZ, hh, hH, hsf⟩ := hP
  have X0 : Stand p l e R (s.setVm s.vm) m args below meth c s₁ [] 0 0 := Stand.of_body Bd
  have e0 : s₁.heap = h := by rw [← hh, Bd.state]; rfl
  have C : Cx Z a0 tb p s m meth c y.cls y.name bytes maxL ret n0 := ⟨Bd.exec, hZ, findClass_of_methodNamed Bd.named, Bd.bytes, hml0, Bd.returns, Bd.notSynchronized, hw, (name_of_methodNamed Bd.named Bd.method).1, by rw [hh]; exact hn0⟩
  have I : Inv Z EL s s.vm n0 fs h := ⟨hn0, fun x hx => ⟨(hfs x hx).1, (hfs x hx).2, hsf x hx⟩, ⟨0, (State.WarmedH.refl s).since 0, Nat.zero_le _⟩, hZ, hH, by rw [hh]; exact CHr.refl hH⟩
  obtain ⟨s2, o, st, r⟩ := H p e s m below meth c C s.vm s₁ [] X0 e0 (Fr.nil n0) I
  exact ⟨s2, o, castTop (hef m) st, r⟩
/-- the same as the caller needs it -/
def Ct (l : Launch) (Z : State) (EL : List (String × Nat)) (y : MethodName) (maxL : Nat) (rm : Room) (fs : List Addr) (as' : Array Value) (h : Heap) (n0 : Nat) (Q : Option Value → Heap → List Addr → Prop) : Prop :=
  ∀ ⦃R : Room⦄ ⦃p : Program⦄ ⦃e : Env⦄ ⦃below : List Frame⦄ ⦃s : State⦄ ⦃vm0 : Vm⦄ ⦃args : Array Value⦄ ⦃len W : Nat⦄, Z.Warmed39 vm0 → n0 ≤ h.size → (∀ x ∈ fs, n0 ≤ x ∧ x < h.size ∧ Safe Z EL vm0 h x) → CHv Z EL vm0 h → rm.frames + 1 ≤ R.frames → W + (maxL + 11) + rm.locals ≤ R.locals →
    BackS l R p e below (s.setVm vm0) args y len W (fun A a => a = as' ∧ A.U.heap = h ∧ A.cells + rm.cells ≤ R.cells ∧ A.slots + rm.slots ≤ R.slots) (fun A _ v B => ∃ L ns, (Q v B.U.heap ns ∧ Fr n0 L) ∧ B.locs = A.locs ++ L ∧ B.cells = A.cells + rm.cells ∧ B.slots = A.slots + rm.slots ∧ (∀ x ∈ ns, n0 ≤ x ∧ x < B.U.heap.size ∧ Safe Z EL B.U.vm B.U.heap x) ∧ CHr Z EL vm0 h B.U.vm B.U.heap)
theorem ct_of {y : MethodName} {rm : Room} {as' : Array Value} (hEL : EW Z a0 EL) (hw : ∀ d ∈ tb, d.before a0 Z = true) (wc : Jvm.Cond.code y bytes maxL ret ∈ tb) (wz : Jvm.Cond.initialized y.cls ∈ tb) (M : Met l Z EL y bytes maxL ret [] rm fs as' h n0 Q) : Ct l Z EL y maxL rm fs as' h n0 Q := by
  intro R p e below s vm0 args len W hZ hn0 hfs H hf hl
  exact BackS.of_freeW (bytes := bytes) (maxL := maxL) (ret := ret) (E := fun _ first o t L k n => k = rm.cells ∧ n = rm.slots ∧ (∃ v ns, o = .returned v ∧ (Q v t.heap ns ∧ Fr n0 L) ∧ ∀ x ∈ ns, n0 ≤ x ∧ x < t.heap.size ∧ Safe Z EL t.vm t.heap x) ∧ CHr Z EL first.vm first.heap t.vm t.heap) (M hn0 fun x hx => ⟨(hfs x hx).1, (hfs x hx).2.1⟩) hf hl
    (fun m meth c A a Y hp => have hU : Z.Warmed39 A.U.vm := wtrans (s := s.setVm vm0) hZ Y.warmed
      ⟨by show (Cond.and _ .tt).before a A.U = true; rw [Cond.before_and, mv hU (hw _ wc)]; rfl, mv hU (hw _ wc), mv hU (hw _ wz), hp.2.2.1, hp.2.2.2⟩)
    (fun m meth c A a g mk Y hp => ⟨hp.1, wtrans (s := s.setVm vm0) hZ Y.warmed, hp.2.1, (CHv.at Y hZ hEL H).1, fun x hx => (CHv.at Y hZ hEL H).safe (hfs x hx).2.1 (hfs x hx).2.2⟩) (fun _ _ _ _ _ _ _ _ _ => trivial)
    (fun _ _ _ _ ⟨v, L, ns, h1, h2, hs, h3, h4⟩ => ⟨L, _, _, h4, rfl, rfl, ⟨v, ns, h1, h2, hs⟩, h3⟩)
    (fun m meth c A a g mk v t L k n Y hp _ _ ⟨e1, e2, ⟨v', ns, e3, e4, e6⟩, e5⟩ => by
      cases e3; subst e1 e2
      refine ⟨L, ns, e4, rfl, rfl, rfl, e6, (CHv.at Y hZ hEL H).trans ?_⟩
      rw [← hp.2.1]; exact e5)
/-- a callee that interns nothing -/
theorem ct_back {y : MethodName} {rm : Room} {as' : Array Value} (hEL : EW Z a0 EL) (hK : ∀ v h', Q2 v h' → Keep h h' fs)
    (B0 : ∀ {R : Room} {p : Program} {e : Env} {below : List Frame} {s : State} {args : Array Value} {len W : Nat}, Z.Warmed39 s.vm → n0 ≤ h.size → (∀ x ∈ fs, n0 ≤ x) → rm.frames + 1 ≤ R.frames → W + (maxL + 11) + rm.locals ≤ R.locals →
      Back l R p e below s args y len W (fun A a => a = as' ∧ A.U.heap = h ∧ A.cells + rm.cells ≤ R.cells ∧ A.slots + rm.slots ≤ R.slots) (fun A _ v B => ∃ L, (Q2 v B.U.heap ∧ Fr n0 L) ∧ B.locs = A.locs ++ L ∧ B.cells = A.cells + rm.cells ∧ B.slots = A.slots + rm.slots)) : Ct l Z EL y maxL rm fs as' h n0 (nq Q2) := by
  intro R p e below s vm0 args len W hZ hn0 hfs H hf hl m meth c A g ig mk a X hg hsize hdg hW hn hp
  obtain ⟨v, B, X', ⟨L, ⟨q1, q2⟩, q3, q4, q5⟩, hsteps⟩ := B0 (s := s.setVm vm0) hZ hn0 (fun x hx => (hfs x hx).1) hf hl m meth c A g ig mk a X hg hsize hdg hW hn hp
  have K := hK _ _ q1
  have c1 := CHr.keep K (fun x hx => (hfs x hx).2.2) H
  have c2 := CHv.at X' hZ hEL c1.1
  exact ⟨v, B, X'.retabled X'.warmed.wide, X'.warmed.since _, by rw [hp.2.1]; exact K.1, ⟨L, [], ⟨⟨rfl, q1⟩, q2⟩, q3, q4, q5, all0, c1.trans c2⟩, hsteps⟩
theorem own_inv {vm0 vm1 : Vm} {h' : Heap} {k1 : Nat} {ns : List Addr} (I : Inv Z EL s vm0 n0 fs h) (hS : (s.setVm vm0).Since vm1 k1) (hk : k1 ≤ h'.size) (hle : h.size ≤ k1) (hns : ∀ x ∈ ns, n0 ≤ x ∧ x < h'.size ∧ Safe Z EL vm1 h' x) (hC : CHr Z EL vm0 h vm1 h') : Inv Z EL s vm1 n0 (ns ++ fs) h' := by
  obtain ⟨i1, i2, ⟨k0, i3, i4⟩, i5, i6, i7⟩ := I
  refine ⟨Nat.le_trans i1 hC.2.1, fun x hx => ?_, ⟨k1, i3.trans hS (Nat.le_trans i4 hle), hk⟩, State.Warmed39.trans (t := s.setVm vm0) i5 hS.1, hC.1, i7.trans hC⟩
  rcases List.mem_append.mp hx with hx | hx
  · exact hns x hx
  · exact ⟨(i2 x hx).1, Nat.lt_of_lt_of_le (i2 x hx).2.1 hC.2.1, hC.safe (i2 x hx).2.1 (i2 x hx).2.2⟩
theorem g_staticX (C : Cx Z a0 tb p s m meth c own mname bytes maxL ret n0) {index : Nat} {y : MethodName} {yb : ByteArray} {yr : Option FieldType} {yl' : Nat} (w1 : Jvm.Cond.methodLink own index y ∈ tb) (w2 : Jvm.Cond.static y ∈ tb) (w3 : Jvm.Cond.initialized y.cls ∈ tb) (w4 : Jvm.Cond.code y yb yl' yr ∈ tb) (hy : y.cls ≠ "java/lang/invoke/MethodHandle" ∧ y.cls ≠ "java/lang/invoke/VarHandle") {rm : Room} {fs0 : List Addr} (argsL : List Value) {Qy : Option Value → Heap → List Addr → Prop} {yl : Nat} (K0 : Ct l Z EL y yl rm fs0 argsL.toArray h n0 Qy) (hfs : ∀ x ∈ fs0, x ∈ fs) (hf : rm.frames + 1 ≤ R.frames) (W : Nat) (hlo : W + (yl + 11) + rm.locals ≤ R.locals) (hsz : Ls.size = maxL) {sig : MethodDescriptor} (hdesc : parseMethodDescriptor y.desc = some sig) (hlen : argsL.length = sig.parameters.length) (rest : List Value) (hs : St = argsL.reverse ++ rest) (hW : (rest.map fun v => v.category).sum ≤ W) (hd : decode bytes pc = .ok (.invokestatic index, 3)) (hc : k + rm.cells ≤ R.cells) (hn : n + rm.slots ≤ R.slots)
    (K : ∀ v h' ns, Qy v h' ns → Go Z EL p l e R s m args below meth c n0 Q (ns ++ fs) h' (k + rm.cells) (n + rm.slots) (mkF m (pc + 3) Ls (v.toList ++ rest))) : Go Z EL p l e R s m args below meth c n0 Q fs h k n (mkF m pc Ls St) := by
  intro vm0 T locs X eT N I
  have hZ : Z.Warmed39 (s.setVm vm0).vm := I.hZ
  have hown : (s.setVm vm0).vm.findClass own = some m.cls := C.hownAt I.hZ
  obtain ⟨v, _, ⟨T', L', k', n'⟩, -, X', hS, hgr, ⟨Lc, ns, ⟨hQ, hN⟩, hl', hk', hn', hns, hC⟩, st⟩ := callSS X C.hx hown (mvT hZ (C.hw w1)) (mvT hZ (C.hw w2)) (mvT hZ (C.hw w3)) (mvT hZ (C.hw w4)) hy (K0 (W := W) I.hZ I.1 (I.less hfs).2.1 I.2.2.2.2.1 hf hlo) (g := mkF m pc Ls St) rfl (hsz.trans C.hml.symm) (argsL := argsL) (rest := rest) (fun sg q => by cases hdesc.symm.trans q; exact hlen) hs (by show 2 * 0 + _ ≤ _; omega) (hb C.hby hd) (fun _ _ => ⟨rfl, eT, hc, hn⟩)
  dsimp only [Pt.U, Pt.locs, Pt.cells, Pt.slots] at X' hl' hk' hn' st hQ hS hgr hC hns
  subst hl' hk' hn'
  obtain ⟨s2, o, st2, r⟩ := K v T'.heap ns hQ T'.vm T' _ X' rfl (N.app hN) (own_inv I hS (Nat.le_refl _) (by rw [← eT]; exact hgr) hns hC)
  exact ⟨s2, o, st.trans st2, r⟩
theorem g_static (C : Cx Z a0 tb p s m meth c own mname bytes maxL ret n0) {index : Nat} {y : MethodName} {yb : ByteArray} {yr : Option FieldType} {yl' : Nat} (w1 : Jvm.Cond.methodLink own index y ∈ tb) (w2 : Jvm.Cond.static y ∈ tb) (w3 : Jvm.Cond.initialized y.cls ∈ tb) (w4 : Jvm.Cond.code y yb yl' yr ∈ tb) (hy : y.cls ≠ "java/lang/invoke/MethodHandle" ∧ y.cls ≠ "java/lang/invoke/VarHandle") {rm : Room} {fs0 : List Addr} (argsL : List Value) {Qy : Option Value → Heap → Prop} {yl : Nat} (K0 : Ct l Z EL y yl rm fs0 argsL.toArray h n0 (nq Qy)) (hfs : ∀ x ∈ fs0, x ∈ fs) (hf : rm.frames + 1 ≤ R.frames) (W : Nat) (hlo : W + (yl + 11) + rm.locals ≤ R.locals) (hsz : Ls.size = maxL) {sig : MethodDescriptor} (hdesc : parseMethodDescriptor y.desc = some sig) (hlen : argsL.length = sig.parameters.length) (rest : List Value) (hs : St = argsL.reverse ++ rest) (hW : (rest.map fun v => v.category).sum ≤ W) (hd : decode bytes pc = .ok (.invokestatic index, 3)) (hc : k + rm.cells ≤ R.cells) (hn : n + rm.slots ≤ R.slots)
    (K : ∀ v h', Qy v h' → Go Z EL p l e R s m args below meth c n0 Q fs h' (k + rm.cells) (n + rm.slots) (mkF m (pc + 3) Ls (v.toList ++ rest))) : Go Z EL p l e R s m args below meth c n0 Q fs h k n (mkF m pc Ls St) :=
  g_staticX C w1 w2 w3 w4 hy argsL K0 hfs hf W hlo hsz hdesc hlen rest hs hW hd hc hn (fun v h' ns q => by obtain ⟨rfl, q⟩ := q; exact K v h' q)
theorem g_specialX (C : Cx Z a0 tb p s m meth c own mname bytes maxL ret n0) {index : Nat} {y : MethodName} {a : Addr} {yb : ByteArray} {yl' : Nat} (w1 : Jvm.Cond.methodLink own index y ∈ tb) (w2 : Jvm.Cond.instanceMethod y ∈ tb) (w4 : Jvm.Cond.code y yb yl' none ∈ tb) (hy1 : y.name = "<init>") (hy : y.cls ≠ "java/lang/invoke/MethodHandle" ∧ y.cls ≠ "java/lang/invoke/VarHandle") {rm : Room} {fs0 : List Addr} (argsL : List Value) {Qy : Option Value → Heap → List Addr → Prop} {yl : Nat} (K0 : Ct l Z EL y yl rm fs0 (.ref a :: argsL).toArray h n0 Qy) (hfs : ∀ x ∈ fs0, x ∈ fs) (hf : rm.frames + 1 ≤ R.frames) (W : Nat) (hlo : W + (yl + 11) + rm.locals ≤ R.locals) (hsz : Ls.size = maxL) {sig : MethodDescriptor} (hdesc : parseMethodDescriptor y.desc = some sig) (hlen : argsL.length = sig.parameters.length) (rest : List Value) (hs : St = argsL.reverse ++ .ref a :: rest) (hW : (rest.map fun v => v.category).sum ≤ W) (hd : decode bytes pc = .ok (.invokespecial index, 3)) (hc : k + rm.cells ≤ R.cells) (hn : n + rm.slots ≤ R.slots)
    (K : ∀ v h' ns, Qy v h' ns → Go Z EL p l e R s m args below meth c n0 Q (ns ++ fs) h' (k + rm.cells) (n + rm.slots) (mkF m (pc + 3) Ls (v.toList ++ rest))) : Go Z EL p l e R s m args below meth c n0 Q fs h k n (mkF m pc Ls St) := by
  intro vm0 T locs X eT N I
  have hZ : Z.Warmed39 (s.setVm vm0).vm := I.hZ
  have hown : (s.setVm vm0).vm.findClass own = some m.cls := C.hownAt I.hZ
  obtain ⟨v, _, ⟨T', L', k', n'⟩, -, X', hS, hgr, ⟨Lc, ns, ⟨hQ, hN⟩, hl', hk', hn', hns, hC⟩, st⟩ := X.specialBackS C.hx hy1 hown (mvT hZ (C.hw w1)) (mvT hZ (C.hw w2)) (mvT hZ (C.hw w4)) hy (K0 (W := W) I.hZ I.1 (I.less hfs).2.1 I.2.2.2.2.1 hf hlo) (g := mkF m pc Ls St) rfl (hsz.trans C.hml.symm) (Steps.refl _) (a := a) (argsL := argsL) (rest := rest) (fun sg q => by cases hdesc.symm.trans q; exact hlen) hs (by show 2 * 0 + _ ≤ _; omega) (hb C.hby hd) (fun _ _ => ⟨rfl, eT, hc, hn⟩)
  dsimp only [Pt.U, Pt.locs, Pt.cells, Pt.slots] at X' hl' hk' hn' st hQ hS hgr hC hns
  subst hl' hk' hn'
  obtain ⟨s2, o, st2, r⟩ := K v T'.heap ns hQ T'.vm T' _ X' rfl (N.app hN) (own_inv I hS (Nat.le_refl _) (by rw [← eT]; exact hgr) hns hC)
  exact ⟨s2, o, st.trans st2, r⟩
theorem g_special (C : Cx Z a0 tb p s m meth c own mname bytes maxL ret n0) {index : Nat} {y : MethodName} {a : Addr} {yb : ByteArray} {yl' : Nat} (w1 : Jvm.Cond.methodLink own index y ∈ tb) (w2 : Jvm.Cond.instanceMethod y ∈ tb) (w4 : Jvm.Cond.code y yb yl' none ∈ tb) (hy1 : y.name = "<init>") (hy : y.cls ≠ "java/lang/invoke/MethodHandle" ∧ y.cls ≠ "java/lang/invoke/VarHandle") {rm : Room} {fs0 : List Addr} (argsL : List Value) {Qy : Option Value → Heap → Prop} {yl : Nat} (K0 : Ct l Z EL y yl rm fs0 (.ref a :: argsL).toArray h n0 (nq Qy)) (hfs : ∀ x ∈ fs0, x ∈ fs) (hf : rm.frames + 1 ≤ R.frames) (W : Nat) (hlo : W + (yl + 11) + rm.locals ≤ R.locals) (hsz : Ls.size = maxL) {sig : MethodDescriptor} (hdesc : parseMethodDescriptor y.desc = some sig) (hlen : argsL.length = sig.parameters.length) (rest : List Value) (hs : St = argsL.reverse ++ .ref a :: rest) (hW : (rest.map fun v => v.category).sum ≤ W) (hd : decode bytes pc = .ok (.invokespecial index, 3)) (hc : k + rm.cells ≤ R.cells) (hn : n + rm.slots ≤ R.slots)
    (K : ∀ v h', Qy v h' → Go Z EL p l e R s m args below meth c n0 Q fs h' (k + rm.cells) (n + rm.slots) (mkF m (pc + 3) Ls (v.toList ++ rest))) : Go Z EL p l e R s m args below meth c n0 Q fs h k n (mkF m pc Ls St) :=
  g_specialX C w1 w2 w4 hy1 hy argsL K0 hfs hf W hlo hsz hdesc hlen rest hs hW hd hc hn (fun v h' ns q => by obtain ⟨rfl, q⟩ := q; exact K v h' q)
theorem g_virtualX (C : Cx Z a0 tb p s m meth c own mname bytes maxL ret n0) {index : Nat} {y z : MethodName} {Cn : String} {a : Addr} (E : Exa Z h a Cn) (w1 : Jvm.Cond.methodLink own index y ∈ tb) (w2 : Jvm.Cond.declares y ∈ tb) (hnf : ∀ {s' : State}, Z.Warmed39 s'.vm → NotFace s' y) (w3 : Jvm.Cond.selects Cn y z ∈ tb) (w4 : Jvm.Cond.instanceMethod z ∈ tb) (hy : y.cls ≠ "java/lang/invoke/MethodHandle" ∧ y.cls ≠ "java/lang/invoke/VarHandle") {rm : Room} {fs0 : List Addr} (argsL : List Value) {Qy : Option Value → Heap → List Addr → Prop} {yl : Nat} (K0 : Ct l Z EL z yl rm fs0 (.ref a :: argsL).toArray h n0 Qy) (hfs : ∀ x ∈ fs0, x ∈ fs) (hf : rm.frames + 1 ≤ R.frames) (W : Nat) (hlo : W + (yl + 11) + rm.locals ≤ R.locals) (hsz : Ls.size = maxL) {sig : MethodDescriptor} (hdesc : parseMethodDescriptor y.desc = some sig) (hlen : argsL.length = sig.parameters.length) (rest : List Value) (hs : St = argsL.reverse ++ .ref a :: rest) (hW : (rest.map fun v => v.category).sum ≤ W) (hd : decode bytes pc = .ok (.invokevirtual index, 3)) (hc : k + rm.cells ≤ R.cells) (hn : n + rm.slots ≤ R.slots)
    (K : ∀ v h' ns, Qy v h' ns → Go Z EL p l e R s m args below meth c n0 Q (ns ++ fs) h' (k + rm.cells) (n + rm.slots) (mkF m (pc + 3) Ls (v.toList ++ rest))) : Go Z EL p l e R s m args below meth c n0 Q fs h k n (mkF m pc Ls St) := by
  intro vm0 T locs X eT N I
  have hZ : Z.Warmed39 (s.setVm vm0).vm := I.hZ
  have hown : (s.setVm vm0).vm.findClass own = some m.cls := C.hownAt I.hZ
  obtain ⟨cq, kq, qa, qb, qc⟩ := isOf hZ eT E
  obtain ⟨v, _, ⟨T', L', k', n'⟩, -, X', hS, hgr, ⟨Lc, ns, ⟨hQ, hN⟩, hl', hk', hn', hns, hC⟩, st⟩ := X.virtualBackS C.hx hown (mvT hZ (C.hw w1)) (mvT hZ (C.hw w2)) (hnf hZ) (mvT hZ (C.hw w3)) (mvT hZ (C.hw w4)) hy (K0 (W := W) I.hZ I.1 (I.less hfs).2.1 I.2.2.2.2.1 hf hlo) qa qc (g := mkF m pc Ls St) rfl (hsz.trans C.hml.symm) (Steps.refl _) (argsL := argsL) (rest := rest) (fun sg q => by cases hdesc.symm.trans q; exact hlen) hs (by show 2 * 0 + _ ≤ _; omega) (hb C.hby hd) (fun _ _ => ⟨rfl, eT, hc, hn⟩)
  dsimp only [Pt.U, Pt.locs, Pt.cells, Pt.slots] at X' hl' hk' hn' st hQ hS hgr hC hns
  subst hl' hk' hn'
  obtain ⟨s2, o, st2, r⟩ := K v T'.heap ns hQ T'.vm T' _ X' rfl (N.app hN) (own_inv I hS (Nat.le_refl _) (by rw [← eT]; exact hgr) hns hC)
  exact ⟨s2, o, st.trans st2, r⟩
theorem g_virtual (C : Cx Z a0 tb p s m meth c own mname bytes maxL ret n0) {index : Nat} {y z : MethodName} {Cn : String} {a : Addr} (E : Exa Z h a Cn) (w1 : Jvm.Cond.methodLink own index y ∈ tb) (w2 : Jvm.Cond.declares y ∈ tb) (hnf : ∀ {s' : State}, Z.Warmed39 s'.vm → NotFace s' y) (w3 : Jvm.Cond.selects Cn y z ∈ tb) (w4 : Jvm.Cond.instanceMethod z ∈ tb) (hy : y.cls ≠ "java/lang/invoke/MethodHandle" ∧ y.cls ≠ "java/lang/invoke/VarHandle") {rm : Room} {fs0 : List Addr} (argsL : List Value) {Qy : Option Value → Heap → Prop} {yl : Nat} (K0 : Ct l Z EL z yl rm fs0 (.ref a :: argsL).toArray h n0 (nq Qy)) (hfs : ∀ x ∈ fs0, x ∈ fs) (hf : rm.frames + 1 ≤ R.frames) (W : Nat) (hlo : W + (yl + 11) + rm.locals ≤ R.locals) (hsz : Ls.size = maxL) {sig : MethodDescriptor} (hdesc : parseMethodDescriptor y.desc = some sig) (hlen : argsL.length = sig.parameters.length) (rest : List Value) (hs : St = argsL.reverse ++ .ref a :: rest) (hW : (rest.map fun v => v.category).sum ≤ W) (hd : decode bytes pc = .ok (.invokevirtual index, 3)) (hc : k + rm.cells ≤ R.cells) (hn : n + rm.slots ≤ R.slots)
    (K : ∀ v h', Qy v h' → Go Z EL p l e R s m args below meth c n0 Q fs h' (k + rm.cells) (n + rm.slots) (mkF m (pc + 3) Ls (v.toList ++ rest))) : Go Z EL p l e R s m args below meth c n0 Q fs h k n (mkF m pc Ls St) :=
  g_virtualX C E w1 w2 hnf w3 w4 hy argsL K0 hfs hf W hlo hsz hdesc hlen rest hs hW hd hc hn (fun v h' ns q => by obtain ⟨rfl, q⟩ := q; exact K v h' q)
theorem g_privateX (C : Cx Z a0 tb p s m meth c own mname bytes maxL ret n0) {index : Nat} {y : MethodName} {a : Addr} {Cn : String} {yb : ByteArray} {yr : Option FieldType} {yl' : Nat} (E : Exa Z h a Cn) (w1 : Jvm.Cond.methodLink own index y ∈ tb) (w2 : Jvm.Cond.instanceMethod y ∈ tb) (hni : ∀ {s' : State}, Z.Warmed39 s'.vm → ∃ c k, s'.vm.findClass y.cls = some c ∧ s'.vm.classes[c]? = some k ∧ k.isInterface = false) (w5 : Jvm.Cond.privateMethod y ∈ tb) (w4 : Jvm.Cond.code y yb yl' yr ∈ tb) (hy : y.cls ≠ "java/lang/invoke/MethodHandle" ∧ y.cls ≠ "java/lang/invoke/VarHandle") {rm : Room} {fs0 : List Addr} (argsL : List Value) {Qy : Option Value → Heap → List Addr → Prop} {yl : Nat} (K0 : Ct l Z EL y yl rm fs0 (.ref a :: argsL).toArray h n0 Qy) (hfs : ∀ x ∈ fs0, x ∈ fs) (hf : rm.frames + 1 ≤ R.frames) (W : Nat) (hlo : W + (yl + 11) + rm.locals ≤ R.locals) (hsz : Ls.size = maxL) {sig : MethodDescriptor} (hdesc : parseMethodDescriptor y.desc = some sig) (hlen : argsL.length = sig.parameters.length) (rest : List Value) (hs : St = argsL.reverse ++ .ref a :: rest) (hW : (rest.map fun v => v.category).sum ≤ W) (hd : decode bytes pc = .ok (.invokevirtual index, 3)) (hc : k + rm.cells ≤ R.cells) (hn : n + rm.slots ≤ R.slots)
    (K : ∀ v h' ns, Qy v h' ns → Go Z EL p l e R s m args below meth c n0 Q (ns ++ fs) h' (k + rm.cells) (n + rm.slots) (mkF m (pc + 3) Ls (v.toList ++ rest))) : Go Z EL p l e R s m args below meth c n0 Q fs h k n (mkF m pc Ls St) := by
  intro vm0 T locs X eT N I
  have hZ : Z.Warmed39 (s.setVm vm0).vm := I.hZ
  have hown : (s.setVm vm0).vm.findClass own = some m.cls := C.hownAt I.hZ
  obtain ⟨cq, q1, q2⟩ := E.cell
  obtain ⟨cx, kx, cx1, cx2, cx3⟩ := hni hZ
  obtain ⟨v, _, ⟨T', L', k', n'⟩, -, X', hS, hgr, ⟨Lc, ns, ⟨hQ, hN⟩, hl', hk', hn', hns, hC⟩, st⟩ := privateBackS X C.hx hown (mvT hZ (C.hw w1)) (mvT hZ (C.hw w2)) (selects_self_of_private cx1 cx2 cx3 (Cond.privateMethod_at (mvP hZ (C.hw w5) (args := #[]))) (mvT hZ (C.hw w2)) hy) (Cond.privateMethod_at (mvP hZ (C.hw w5) (args := #[]))) (mvT hZ (C.hw w4)) hy (K0 (W := W) I.hZ I.1 (I.less hfs).2.1 I.2.2.2.2.1 hf hlo) (g := mkF m pc Ls St) rfl (hsz.trans C.hml.symm) (Steps.refl _) (a := a) (by rw [eT]; exact q1) q2 (argsL := argsL) (rest := rest) (fun sg q => by cases hdesc.symm.trans q; exact hlen) hs (by show 2 * 0 + _ ≤ _; omega) (hb C.hby hd) (fun _ _ => ⟨rfl, eT, hc, hn⟩)
  dsimp only [Pt.U, Pt.locs, Pt.cells, Pt.slots] at X' hl' hk' hn' st hQ hS hgr hC hns
  subst hl' hk' hn'
  obtain ⟨s2, o, st2, r⟩ := K v T'.heap ns hQ T'.vm T' _ X' rfl (N.app hN) (own_inv I hS (Nat.le_refl _) (by rw [← eT]; exact hgr) hns hC)
  exact ⟨s2, o, st.trans st2, r⟩
theorem g_private (C : Cx Z a0 tb p s m meth c own mname bytes maxL ret n0) {index : Nat} {y : MethodName} {a : Addr} {Cn : String} {yb : ByteArray} {yr : Option FieldType} {yl' : Nat} (E : Exa Z h a Cn) (w1 : Jvm.Cond.methodLink own index y ∈ tb) (w2 : Jvm.Cond.instanceMethod y ∈ tb) (hni : ∀ {s' : State}, Z.Warmed39 s'.vm → ∃ c k, s'.vm.findClass y.cls = some c ∧ s'.vm.classes[c]? = some k ∧ k.isInterface = false) (w5 : Jvm.Cond.privateMethod y ∈ tb) (w4 : Jvm.Cond.code y yb yl' yr ∈ tb) (hy : y.cls ≠ "java/lang/invoke/MethodHandle" ∧ y.cls ≠ "java/lang/invoke/VarHandle") {rm : Room} {fs0 : List Addr} (argsL : List Value) {Qy : Option Value → Heap → Prop} {yl : Nat} (K0 : Ct l Z EL y yl rm fs0 (.ref a :: argsL).toArray h n0 (nq Qy)) (hfs : ∀ x ∈ fs0, x ∈ fs) (hf : rm.frames + 1 ≤ R.frames) (W : Nat) (hlo : W + (yl + 11) + rm.locals ≤ R.locals) (hsz : Ls.size = maxL) {sig : MethodDescriptor} (hdesc : parseMethodDescriptor y.desc = some sig) (hlen : argsL.length = sig.parameters.length) (rest : List Value) (hs : St = argsL.reverse ++ .ref a :: rest) (hW : (rest.map fun v => v.category).sum ≤ W) (hd : decode bytes pc = .ok (.invokevirtual index, 3)) (hc : k + rm.cells ≤ R.cells) (hn : n + rm.slots ≤ R.slots)
    (K : ∀ v h', Qy v h' → Go Z EL p l e R s m args below meth c n0 Q fs h' (k + rm.cells) (n + rm.slots) (mkF m (pc + 3) Ls (v.toList ++ rest))) : Go Z EL p l e R s m args below meth c n0 Q fs h k n (mkF m pc Ls St) :=
  g_privateX C E w1 w2 hni w5 w4 hy argsL K0 hfs hf W hlo hsz hdesc hlen rest hs hW hd hc hn (fun v h' ns q => by obtain ⟨rfl, q⟩ := q; exact K v h' q)
theorem own_same {y : MethodName} (hy : y.cls ≠ "java/lang/invoke/MethodHandle" ∧ y.cls ≠ "java/lang/invoke/VarHandle") (hd : (Cond.declares y).before a0 Z = true) (hni : ∃ c k, Z.vm.findClass y.cls = some c ∧ Z.vm.classes[c]? = some k ∧ k.isInterface = false) : (Cond.sameMethod y.cls y.cls y.name y.desc).before a0 Z = true := by
  obtain ⟨m, meth, h1, -⟩ := Cond.declares_spec hd
  have h2 := State.methodFound?_of_named h1 hy
  obtain ⟨c, k, q1, q2, q3⟩ := hni
  have h3 : Z.methodNamed? ⟨y.cls, y.name, y.desc⟩ = some m := h1
  first | (simp [Cond.before, Cond.holds, Cond.value, q1, h2, q2, q3, h3]; done) | (simp [Cond.before, Cond.holds, Cond.value, q1, h2, q2, q3, h1]; done)
theorem g_superX (C : Cx Z a0 tb p s m meth c own mname bytes maxL ret n0) {index : Nat} {y : MethodName} {a : Addr} {Cn : String} {yb : ByteArray} {yr : Option FieldType} {yl' : Nat} (E : Exa Z h a Cn) (w1 : Jvm.Cond.methodLink own index y ∈ tb) (w2 : Jvm.Cond.declares y ∈ tb) (w3 : Jvm.Cond.instanceMethod y ∈ tb) (w5 : Jvm.Cond.superclass own y.cls ∈ tb) (hn1 : y.name ≠ "<init>") (w4 : Jvm.Cond.code y yb yl' yr ∈ tb) (hni : ∃ c k, Z.vm.findClass y.cls = some c ∧ Z.vm.classes[c]? = some k ∧ k.isInterface = false) (hy : y.cls ≠ "java/lang/invoke/MethodHandle" ∧ y.cls ≠ "java/lang/invoke/VarHandle") {rm : Room} {fs0 : List Addr} (argsL : List Value) {Qy : Option Value → Heap → List Addr → Prop} {yl : Nat} (K0 : Ct l Z EL y yl rm fs0 (.ref a :: argsL).toArray h n0 Qy) (hfs : ∀ x ∈ fs0, x ∈ fs) (hf : rm.frames + 1 ≤ R.frames) (W : Nat) (hlo : W + (yl + 11) + rm.locals ≤ R.locals) (hsz : Ls.size = maxL) {sig : MethodDescriptor} (hdesc : parseMethodDescriptor y.desc = some sig) (hlen : argsL.length = sig.parameters.length) (rest : List Value) (hs : St = argsL.reverse ++ .ref a :: rest) (hW : (rest.map fun v => v.category).sum ≤ W) (hd : decode bytes pc = .ok (.invokespecial index, 3)) (hc : k + rm.cells ≤ R.cells) (hn : n + rm.slots ≤ R.slots)
    (K : ∀ v h' ns, Qy v h' ns → Go Z EL p l e R s m args below meth c n0 Q (ns ++ fs) h' (k + rm.cells) (n + rm.slots) (mkF m (pc + 3) Ls (v.toList ++ rest))) : Go Z EL p l e R s m args below meth c n0 Q fs h k n (mkF m pc Ls St) := by
  intro vm0 T locs X eT N I
  have hZ : Z.Warmed39 (s.setVm vm0).vm := I.hZ
  have hown : (s.setVm vm0).vm.findClass own = some m.cls := C.hownAt I.hZ
  obtain ⟨v, _, ⟨T', L', k', n'⟩, -, X', hS, hgr, ⟨Lc, ns, ⟨hQ, hN⟩, hl', hk', hn', hns, hC⟩, st⟩ := superBackS X C.hx hZ hown (C.hw w1) (own_same hy (C.hw w2) hni) (C.hw w3) (C.hw w5) hn1 (K0 (W := W) I.hZ I.1 (I.less hfs).2.1 I.2.2.2.2.1 hf hlo) eT (Ins.self E) (g := mkF m pc Ls St) rfl (hsz.trans C.hml.symm) (C.hw w4) (argsL := argsL) (rest := rest) (fun sg q => by cases hdesc.symm.trans q; exact hlen) hs (by show 2 * 0 + _ ≤ _; omega) (hb C.hby hd) (fun _ _ => ⟨rfl, eT, hc, hn⟩)
  dsimp only [Pt.U, Pt.locs, Pt.cells, Pt.slots] at X' hl' hk' hn' st hQ hS hgr hC hns
  subst hl' hk' hn'
  obtain ⟨s2, o, st2, r⟩ := K v T'.heap ns hQ T'.vm T' _ X' rfl (N.app hN) (own_inv I hS (Nat.le_refl _) (by rw [← eT]; exact hgr) hns hC)
  exact ⟨s2, o, st.trans st2, r⟩
theorem g_super (C : Cx Z a0 tb p s m meth c own mname bytes maxL ret n0) {index : Nat} {y : MethodName} {a : Addr} {Cn : String} {yb : ByteArray} {yr : Option FieldType} {yl' : Nat} (E : Exa Z h a Cn) (w1 : Jvm.Cond.methodLink own index y ∈ tb) (w2 : Jvm.Cond.declares y ∈ tb) (w3 : Jvm.Cond.instanceMethod y ∈ tb) (w5 : Jvm.Cond.superclass own y.cls ∈ tb) (hn1 : y.name ≠ "<init>") (w4 : Jvm.Cond.code y yb yl' yr ∈ tb) (hni : ∃ c k, Z.vm.findClass y.cls = some c ∧ Z.vm.classes[c]? = some k ∧ k.isInterface = false) (hy : y.cls ≠ "java/lang/invoke/MethodHandle" ∧ y.cls ≠ "java/lang/invoke/VarHandle") {rm : Room} {fs0 : List Addr} (argsL : List Value) {Qy : Option Value → Heap → Prop} {yl : Nat} (K0 : Ct l Z EL y yl rm fs0 (.ref a :: argsL).toArray h n0 (nq Qy)) (hfs : ∀ x ∈ fs0, x ∈ fs) (hf : rm.frames + 1 ≤ R.frames) (W : Nat) (hlo : W + (yl + 11) + rm.locals ≤ R.locals) (hsz : Ls.size = maxL) {sig : MethodDescriptor} (hdesc : parseMethodDescriptor y.desc = some sig) (hlen : argsL.length = sig.parameters.length) (rest : List Value) (hs : St = argsL.reverse ++ .ref a :: rest) (hW : (rest.map fun v => v.category).sum ≤ W) (hd : decode bytes pc = .ok (.invokespecial index, 3)) (hc : k + rm.cells ≤ R.cells) (hn : n + rm.slots ≤ R.slots)
    (K : ∀ v h', Qy v h' → Go Z EL p l e R s m args below meth c n0 Q fs h' (k + rm.cells) (n + rm.slots) (mkF m (pc + 3) Ls (v.toList ++ rest))) : Go Z EL p l e R s m args below meth c n0 Q fs h k n (mkF m pc Ls St) :=
  g_superX C E w1 w2 w3 w5 hn1 w4 hni hy argsL K0 hfs hf W hlo hsz hdesc hlen rest hs hW hd hc hn (fun v h' ns q => by obtain ⟨rfl, q⟩ := q; exact K v h' q)
theorem ni_sel {y : MethodName} {Cn : String} (hw : ∀ d ∈ tb, d.before a0 Z = true) (w : Jvm.Cond.selects Cn y y ∈ tb) (wd : Jvm.Cond.declares y ∈ tb) {s' : State} (hZ : Z.Warmed39 s'.vm) : ∃ c k, s'.vm.findClass y.cls = some c ∧ s'.vm.classes[c]? = some k ∧ k.isInterface = false := by
  obtain ⟨m, meth, h1, -⟩ := Cond.declares_spec (mvT hZ (hw _ wd) : (Cond.declares y).before #[] s' = true)
  obtain ⟨k, q1, q2⟩ := notFace_of_selects (args := #[]) (mvT hZ (hw _ w)) m h1
  exact ⟨m.cls, k, findClass_of_methodNamed h1, q1, q2⟩
theorem nf_ni {y : MethodName} {s' : State} (q : ∃ c k, s'.vm.findClass y.cls = some c ∧ s'.vm.classes[c]? = some k ∧ k.isInterface = false) : NotFace s' y := fun r0 h0 => by
  obtain ⟨c, k, q1, q2, q3⟩ := q
  cases q1.symm.trans (findClass_of_methodNamed h0)
  exact ⟨k, q2, q3⟩
theorem nf_sel {y : MethodName} {Cn : String} (hw : ∀ d ∈ tb, d.before a0 Z = true) (w : Jvm.Cond.selects Cn y y ∈ tb) {s' : State} (hZ : Z.Warmed39 s'.vm) : NotFace s' y := notFace_of_selects (args := #[]) (mvT hZ (hw _ w))
end OwnGo
end Jvm.OwnGo
namespace Jvm.OwnGo
open Sem ClassFile Op Lib Jvm.Stand Jvm.Free Jvm.LawKit Jvm.RoadKit Bundle
section OwnBox
variable {Z : State} {a0 : Array Value} {tb : List Jvm.Cond} {p : Program} {l : Launch} {e : Env} {R : Room} {s : State} {m : MethodId} {args : Array Value} {below : List Frame} {meth : Method} {c : Code} {own mname : String} {bytes : ByteArray} {maxL : Nat} {ret : Option FieldType} {n0 : Nat} {Q : Option Value → Heap → List Addr → Prop} {Q2 : Option Value → Heap → Prop} {fs : List Addr} {h : Heap} {k n : Nat} {pc : Nat} {Ls : Array Slot} {St : List Value} {EL : List (String × Nat)}
end OwnBox
end Jvm.OwnGo
/- laws to paste: Road.backV, Road.lenW, Road.chN, Road.eqW (cut by pick.py; bodies as the Statement names them) -/
namespace Jvm.Pilot.@@N@@
namespace StrChars
open Jvm Sem ClassFile Op Lib Jvm.Stand Jvm.Free.XT Jvm.Free.ALB Jvm.Free.JM Jvm.Free
open Jvm.Lib.Cold (StaticIs)
/-- a char array whose places are chars -/
def Ch (a : Addr) (A : Cell) (U : State) : Prop := Arr .char a A U ∧ Typed .char A
theorem Ch.mv {a : Addr} {A : Cell} {U U' : State} (h : Ch a A U) (hal : U.vm.Alike U'.vm) (hh : U'.heap = U.heap) : Ch a A U' := ⟨h.1.mv hal hh, h.2⟩
theorem Ch.keep {a : Addr} {A : Cell} {U U' : State} (h : Ch a A U) (hal : U.vm.Alike U'.vm) (hk : U'.heap[a]? = some A) : Ch a A U' := ⟨h.1.keep hal hk, h.2⟩
/-- what place i of a char[]'s cell holds -/
def cv (A : Cell) (i : Nat) : Int32 := match A.slots[i]? with | some (.int x) => x | _ => 0
theorem Ch.get {a : Addr} {A : Cell} {U : State} (h : Ch a A U) {i : Nat} (hi : i < A.slots.size) : A.slots[i]? = some (.int (cv A i)) := by
  have e := Array.getElem?_eq_getElem hi
  have f := h.2 i _ e
  unfold cv; rw [e]
  generalize A.slots[i] = v at f
  cases v <;> simp [fits] at f ⊢
/-- the byte that i2b leaves of a char -/
def lo8 (x : Int32) : Int32 := x.toInt8.toInt32
theorem fits_lo8 (y : Int32) : fits .byte (.int (lo8 y)) = true := by
  have h1 := y.toInt8.le_toInt
  have h2 := y.toInt8.toInt_lt
  simp only [lo8, fits, Bool.and_eq_true, decide_eq_true_eq, Int32.le_iff_toInt_le, Int8.toInt_toInt32, show (-128 : Int32).toInt = -128 from by decide, show (127 : Int32).toInt = 127 from by decide]
  omega
/-- A' is A but that each place j of lo .. hi - 1 holds f j -/
def Laid (A A' : Cell) (lo hi : Nat) (f : Nat → Value) : Prop := A'.cls = A.cls ∧ A'.vm = A.vm ∧ A'.slots.size = A.slots.size ∧ ∀ i, A'.slots[i]? = if lo ≤ i ∧ i < hi then some (f i) else A.slots[i]?
theorem Laid.zero (A : Cell) (lo : Nat) (f : Nat → Value) : Laid A A lo (lo + 0) f := ⟨rfl, rfl, rfl, fun i => by rw [if_neg (by omega)]⟩
theorem Laid.step {A Ak : Cell} {lo k : Nat} {f : Nat → Value} {v : Value} (h : Laid A Ak lo k f) (hlo : lo ≤ k) (hk : k < Ak.slots.size) (hv : v = f k) : Laid A (Ak.setSlot k v) lo (k + 1) f := by
  refine ⟨h.1, h.2.1, by simpa [Cell.setSlot] using h.2.2.1, fun i => ?_⟩
  by_cases e : k = i
  · subst e; rw [Cell.slots_setSlot_self v hk, if_pos (by omega), hv]
  · rw [Cell.slots_setSlot_ne v e, h.2.2.2 i]
    by_cases q : lo ≤ i ∧ i < k
    · rw [if_pos q, if_pos (by omega)]
    · rw [if_neg q, if_neg (by omega)]
def U16 : String := "java/lang/StringUTF16"
namespace Cmp5
def yN : MethodName := ⟨"java/lang/StringUTF16", "compress", "([CI[BII)I"⟩
abbrev yB : ByteArray := jdk_52_method_21_code
theorem d0 : decode yB 0 = .ok (.iconst 0, 1) := by decide +kernel
theorem d1 : decode yB 1 = .ok (.istore 5, 2) := by decide +kernel
theorem d3 : decode yB 3 = .ok (.iload 5, 2) := by decide +kernel
theorem d5 : decode yB 5 = .ok (.iload 4, 2) := by decide +kernel
theorem d7 : decode yB 7 = .ok (.if_icmp (.ge) 37, 3) := by decide +kernel
theorem d10 : decode yB 10 = .ok (.aload_n 0, 1) := by decide +kernel
theorem d11 : decode yB 11 = .ok (.iload_n 1, 1) := by decide +kernel
theorem d12 : decode yB 12 = .ok (.caload, 1) := by decide +kernel
theorem d13 : decode yB 13 = .ok (.istore 6, 2) := by decide +kernel
theorem d15 : decode yB 15 = .ok (.iload 6, 2) := by decide +kernel
theorem d17 : decode yB 17 = .ok (.sipush 255, 3) := by decide +kernel
theorem d20 : decode yB 20 = .ok (.if_icmp (.le) 6, 3) := by decide +kernel
theorem d26 : decode yB 26 = .ok (.aload_n 2, 1) := by decide +kernel
theorem d27 : decode yB 27 = .ok (.iload_n 3, 1) := by decide +kernel
theorem d28 : decode yB 28 = .ok (.iload 6, 2) := by decide +kernel
theorem d30 : decode yB 30 = .ok (.i2b, 1) := by decide +kernel
theorem d31 : decode yB 31 = .ok (.bastore, 1) := by decide +kernel
theorem d32 : decode yB 32 = .ok (.iinc 1 1, 3) := by decide +kernel
theorem d35 : decode yB 35 = .ok (.iinc 3 1, 3) := by decide +kernel
theorem d38 : decode yB 38 = .ok (.iinc 5 1, 3) := by decide +kernel
theorem d41 : decode yB 41 = .ok (.goto (-38), 3) := by decide +kernel
theorem d44 : decode yB 44 = .ok (.iload 4, 2) := by decide +kernel
theorem d46 : decode yB 46 = .ok (.ireturn, 1) := by decide +kernel
def site : List Cond := []
def tab : Cond := tabOf yN yB 7 (some .int) site
def P (b : Addr) (A : Cell) (d : Addr) (B : Cell) (o q len : Nat) (args : Array Value) (s : State) : Prop := args = #[.ref b, .int (Int32.ofNat o), .ref d, .int (Int32.ofNat q), .int (Int32.ofNat len)] ∧ Ch b A s ∧ Arr .byte d B s ∧ b ≠ d ∧ o + len ≤ A.slots.size ∧ q + len ≤ B.slots.size ∧ ∀ i, i < len → ¬ 255 < cv A (o + i)
def E (b : Addr) (A : Cell) (d : Addr) (B : Cell) (o q len : Nat) (r : Option Value) (s u : State) : Prop := r = some (.int (Int32.ofNat len)) ∧ ∃ B', Put d B' s u ∧ Laid B B' q (q + len) (fun j => Value.int (lo8 (cv A (o + (j - q)))))
/-- no char of the range above 255: len; the places written hold each char's low byte -/
theorem law (l : Launch) (b : Addr) (A : Cell) (d : Addr) (B : Cell) (o q len : Nat) : Law l yN 5 5 0 0 yB 7 (some .int) site (P b A d B o q len) (E b A d B o q len) (copyLocs d q len) 0 0 := by
  refine Law.of_walk (plainFor_of_name (by decide +kernel)) (by decide +kernel) (by decide +kernel) (by decide) (fun _ _ h => by rw [h.1]; rfl) (fun _ U U' hal hh h => ⟨h.1, h.2.1.mv hal hh, h.2.2.1.mv hal hh, h.2.2.2⟩) (fun r U U' V V' h1 hal h2 h => ⟨h.1, h.2.elim fun B' q => ⟨B', q.1.mv h1 h2, q.2⟩⟩) ?_
  intro p e s m args below meth c s₁ X0 hexec hbytes hml hret hlk hnm hown hh0 W hP
  obtain ⟨rfl, hA, hB, hne, l1, l2, hp⟩ := hP
  have c1 : Steps p.tables e below (s₁.setTop (entryFrame m #[.ref b, .int (Int32.ofNat o), .ref d, .int (Int32.ofNat q), .int (Int32.ofNat len)] 7)) (s₁.setTop (mkF m 0 #[.val (.ref b), .val (.int (Int32.ofNat o)), .val (.ref d), .val (.int (Int32.ofNat q)), .val (.int (Int32.ofNat len)), .unset, .unset] [])) := entry rfl
  have hA0 := hA.1.mv X0.warmed.alike hh0
  have hB0 := hB.mv X0.warmed.alike hh0
  have a31 := hA.1.2.2.2
  have c2 : Steps p.tables e below (s₁.setTop (entryFrame m #[.ref b, .int (Int32.ofNat o), .ref d, .int (Int32.ofNat q), .int (Int32.ofNat len)] 7)) (s₁.setTop (mkF m 3 #[.val (.ref b), .val (.int (Int32.ofNat o)), .val (.ref d), .val (.int (Int32.ofNat q)), .val (.int (Int32.ofNat len)), .val (.int 0), .unset] [])) := c1.trans (by
    refine iconstV X0.here hexec rfl 0 (hb hbytes d0) (by decide) ?_
    refine XS.istore X0.here hexec rfl (hb hbytes d1) rfl rfl ?_
    exact Steps.refl _)
  have loop : ∀ (r i : Nat), i + r = len → ∀ (z : Slot), (z = .unset ∨ ∃ w, z = .val w ∧ w.category = 1) → ∀ (Tl : State) (Bk : Cell), Stand p l e { frames := 0, locals := 0, cells := 0, slots := 0 } s m #[.ref b, .int (Int32.ofNat o), .ref d, .int (Int32.ofNat q), .int (Int32.ofNat len)] below meth c Tl ([] ++ copyLocs d q i) 0 0 → Put d Bk s₁ Tl → Laid B Bk q (q + i) (fun j => Value.int (lo8 (cv A (o + (j - q))))) →
      Steps p.tables e below (s₁.setTop (entryFrame m #[.ref b, .int (Int32.ofNat o), .ref d, .int (Int32.ofNat q), .int (Int32.ofNat len)] 7)) (Tl.setTop (mkF m 3 #[.val (.ref b), .val (.int (Int32.ofNat (o + i))), .val (.ref d), .val (.int (Int32.ofNat (q + i))), .val (.int (Int32.ofNat len)), .val (.int (Int32.ofNat i)), z] [])) → ∃ (T' : State) (B' : Cell) (z' : Slot), Stand p l e { frames := 0, locals := 0, cells := 0, slots := 0 } s m #[.ref b, .int (Int32.ofNat o), .ref d, .int (Int32.ofNat q), .int (Int32.ofNat len)] below meth c T' ([] ++ copyLocs d q len) 0 0 ∧ Put d B' s₁ T' ∧ Laid B B' q (q + len) (fun j => Value.int (lo8 (cv A (o + (j - q))))) ∧
      Steps p.tables e below (s₁.setTop (entryFrame m #[.ref b, .int (Int32.ofNat o), .ref d, .int (Int32.ofNat q), .int (Int32.ofNat len)] 7)) (T'.setTop (mkF m 3 #[.val (.ref b), .val (.int (Int32.ofNat (o + len))), .val (.ref d), .val (.int (Int32.ofNat (q + len))), .val (.int (Int32.ofNat len)), .val (.int (Int32.ofNat len)), z'] [])) := by
    intro r
    induction r with
    | zero =>
      intro i hi z hz Tl Bk Xl pl fl cl
      have hil : i = len := by omega
      rw [hil] at Xl fl cl
      exact ⟨Tl, Bk, z, Xl, pl, fl, cl⟩
    | succ r ih =>
      intro i hi z hz Tl Bk Xl pl fl cl
      have all := X0.warmed.alike.symm.trans Xl.warmed.alike
      have hAl := hA0.keep all (pl.other hne hA0.1)
      have hBk := hB0.like all pl.1 fl.1 fl.2.1 fl.2.2.1
      have hlt : q + i < Bk.slots.size := by rw [fl.2.2.1]; omega
      have c3 : Steps p.tables e below (s₁.setTop (entryFrame m #[.ref b, .int (Int32.ofNat o), .ref d, .int (Int32.ofNat q), .int (Int32.ofNat len)] 7)) (Tl.setTop (mkF m 12 #[.val (.ref b), .val (.int (Int32.ofNat (o + i))), .val (.ref d), .val (.int (Int32.ofNat (q + i))), .val (.int (Int32.ofNat len)), .val (.int (Int32.ofNat i)), z] [.int (Int32.ofNat (o + i)), .ref b])) := cl.trans (by
        refine XS.iload Xl.here hexec rfl (hb hbytes d3) rfl ?_
        refine XS.iload Xl.here hexec rfl (hb hbytes d5) rfl ?_
        refine XS.icmpNo Xl.here hexec rfl (hb hbytes d7) rfl (ii_ge_f (lt32 (by omega) (by omega))) ?_
        refine XS.aloadN Xl.here hexec rfl (hb hbytes d10) rfl rfl ?_
        refine XS.iloadN Xl.here hexec rfl (hb hbytes d11) rfl ?_
        exact Steps.refl _)
      have c4 : Steps p.tables e below (s₁.setTop (entryFrame m #[.ref b, .int (Int32.ofNat o), .ref d, .int (Int32.ofNat q), .int (Int32.ofNat len)] 7)) (Tl.setTop (mkF m 13 #[.val (.ref b), .val (.int (Int32.ofNat (o + i))), .val (.ref d), .val (.int (Int32.ofNat (q + i))), .val (.int (Int32.ofNat len)), .val (.int (Int32.ofNat i)), z] [.int (cv A (o + i))])) := c3.trans (by
        refine Xl.aget hexec hAl rfl (hA.get (i := o + i) (by omega)) rfl rfl (hb hbytes d12) ?_
        exact Steps.refl _)
      have c5 : Steps p.tables e below (s₁.setTop (entryFrame m #[.ref b, .int (Int32.ofNat o), .ref d, .int (Int32.ofNat q), .int (Int32.ofNat len)] 7)) (Tl.setTop (mkF m 15 #[.val (.ref b), .val (.int (Int32.ofNat (o + i))), .val (.ref d), .val (.int (Int32.ofNat (q + i))), .val (.int (Int32.ofNat len)), .val (.int (Int32.ofNat i)), .val (.int (cv A (o + i)))] [])) := c4.trans (by
        refine XS.istoreS Xl.here hexec rfl (hb hbytes d13) rfl rfl hz ?_
        exact Steps.refl _)
      have c6 : Steps p.tables e below (s₁.setTop (entryFrame m #[.ref b, .int (Int32.ofNat o), .ref d, .int (Int32.ofNat q), .int (Int32.ofNat len)] 7)) (Tl.setTop (mkF m 31 #[.val (.ref b), .val (.int (Int32.ofNat (o + i))), .val (.ref d), .val (.int (Int32.ofNat (q + i))), .val (.int (Int32.ofNat len)), .val (.int (Int32.ofNat i)), .val (.int (cv A (o + i)))] [.int (lo8 (cv A (o + i))), .int (Int32.ofNat (q + i)), .ref d])) := c5.trans (by
        refine XS.iload Xl.here hexec rfl (hb hbytes d15) rfl ?_
        refine sipushV Xl.here hexec rfl 255 (hb hbytes d17) (by decide) ?_
        refine XS.icmpYes Xl.here hexec rfl (pc0 := 20) rfl (hb hbytes d20) rfl (ii_le_t (hp i (by omega))) (by decide) rfl ?_
        refine XS.aloadN Xl.here hexec rfl (hb hbytes d26) rfl rfl ?_
        refine XS.iloadN Xl.here hexec rfl (hb hbytes d27) rfl ?_
        refine XS.iload Xl.here hexec rfl (hb hbytes d28) rfl ?_
        refine i2b Xl.here hexec rfl (hb hbytes d30) rfl ?_
        exact Steps.refl _)
      obtain ⟨T7, X7, p7, st7⟩ := Xl.aput hexec hBk rfl hlt rfl (fits_lo8 (cv A (o + i))) (g := (mkF m 31 #[.val (.ref b), .val (.int (Int32.ofNat (o + i))), .val (.ref d), .val (.int (Int32.ofNat (q + i))), .val (.int (Int32.ofNat len)), .val (.int (Int32.ofNat i)), .val (.int (cv A (o + i)))] [.int (lo8 (cv A (o + i))), .int (Int32.ofNat (q + i)), .ref d])) rfl (rest := []) rfl (hb hbytes d31)
      have c8 : Steps p.tables e below (s₁.setTop (entryFrame m #[.ref b, .int (Int32.ofNat o), .ref d, .int (Int32.ofNat q), .int (Int32.ofNat len)] 7)) (T7.setTop (mkF m 32 #[.val (.ref b), .val (.int (Int32.ofNat (o + i))), .val (.ref d), .val (.int (Int32.ofNat (q + i))), .val (.int (Int32.ofNat len)), .val (.int (Int32.ofNat i)), .val (.int (cv A (o + i)))] [])) := c6.trans (st7 _ (Steps.refl _))
      have c9 : Steps p.tables e below (s₁.setTop (entryFrame m #[.ref b, .int (Int32.ofNat o), .ref d, .int (Int32.ofNat q), .int (Int32.ofNat len)] 7)) (T7.setTop (mkF m 3 #[.val (.ref b), .val (.int (Int32.ofNat (o + i) + 1)), .val (.ref d), .val (.int (Int32.ofNat (q + i) + 1)), .val (.int (Int32.ofNat len)), .val (.int (Int32.ofNat i + 1)), .val (.int (cv A (o + i)))] [])) := c8.trans (by
        refine iincV X7.here hexec rfl 1 (hb hbytes d32) (by decide) rfl rfl ?_
        refine iincV X7.here hexec rfl 1 (hb hbytes d35) (by decide) rfl rfl ?_
        refine iincV X7.here hexec rfl 1 (hb hbytes d38) (by decide) rfl rfl ?_
        refine XS.goto X7.here hexec rfl (pc0 := 41) rfl (hb hbytes d41) (by decide) rfl ?_
        exact Steps.refl _)
      have c10 : Steps p.tables e below (s₁.setTop (entryFrame m #[.ref b, .int (Int32.ofNat o), .ref d, .int (Int32.ofNat q), .int (Int32.ofNat len)] 7)) (T7.setTop (mkF m 3 #[.val (.ref b), .val (.int (Int32.ofNat (o + (i + 1)))), .val (.ref d), .val (.int (Int32.ofNat (q + (i + 1)))), .val (.int (Int32.ofNat len)), .val (.int (Int32.ofNat (i + 1))), .val (.int (cv A (o + i)))] [])) := by
        have := c9
        rw [succ32, succ32, succ32] at this
        exact this
      exact ih (i + 1) (by omega) _ (Or.inr ⟨_, rfl, rfl⟩) T7 _ (by rw [copyLocs_step, ← List.append_assoc]; exact X7) (pl.trans p7) (fl.step (by omega) hlt (by simp)) c10
  obtain ⟨T9, B9, z9, X9, p9, f9, g9⟩ := loop len 0 (by omega) .unset (Or.inl rfl) s₁ B (by simpa [copyLocs] using X0) ⟨hB0.1, fun _ _ => rfl, rfl⟩ (Laid.zero _ _ _) c2
  have c11 : Steps p.tables e below (s₁.setTop (entryFrame m #[.ref b, .int (Int32.ofNat o), .ref d, .int (Int32.ofNat q), .int (Int32.ofNat len)] 7)) (T9.setTop (mkF m 46 #[.val (.ref b), .val (.int (Int32.ofNat (o + len))), .val (.ref d), .val (.int (Int32.ofNat (q + len))), .val (.int (Int32.ofNat len)), .val (.int (Int32.ofNat len)), z9] [.int (Int32.ofNat len)])) := g9.trans (by
    refine XS.iload X9.here hexec rfl (hb hbytes d3) rfl ?_
    refine XS.iload X9.here hexec rfl (hb hbytes d5) rfl ?_
    refine XS.icmpYes X9.here hexec rfl (pc0 := 7) rfl (hb hbytes d7) rfl (ii_ge_t (nlt32 (by omega) (Nat.le_refl _))) (by decide) rfl ?_
    refine XS.iload X9.here hexec rfl (hb hbytes d44) rfl ?_
    exact Steps.refl _)
  exact ⟨T9, some (.int (Int32.ofNat len)), _, _, _, X9, by simp, rfl, rfl, (fun h => by cases h), ⟨rfl, B9, p9.from hh0, f9⟩, fun fs hl => c11.trans (X9.ireturnOut hexec hret rfl (Or.inl rfl) (hb hbytes d46) hl)⟩
end Cmp5
namespace Cmp3
def yN : MethodName := ⟨"java/lang/StringUTF16", "compress", "([CII)[B"⟩
abbrev yB : ByteArray := jdk_52_method_16_code
theorem d0 : decode yB 0 = .ok (.iload_n 2, 1) := by decide +kernel
theorem d1 : decode yB 1 = .ok (.newarray .byte, 2) := by decide +kernel
theorem d3 : decode yB 3 = .ok (.astore_n 3, 1) := by decide +kernel
theorem d4 : decode yB 4 = .ok (.aload_n 0, 1) := by decide +kernel
theorem d5 : decode yB 5 = .ok (.iload_n 1, 1) := by decide +kernel
theorem d6 : decode yB 6 = .ok (.aload_n 3, 1) := by decide +kernel
theorem d7 : decode yB 7 = .ok (.iconst 0, 1) := by decide +kernel
theorem d8 : decode yB 8 = .ok (.iload_n 2, 1) := by decide +kernel
theorem d9 : decode yB 9 = .ok (.invokestatic 115, 3) := by decide +kernel
theorem d12 : decode yB 12 = .ok (.istore 4, 2) := by decide +kernel
theorem d14 : decode yB 14 = .ok (.iload 4, 2) := by decide +kernel
theorem d16 : decode yB 16 = .ok (.iload_n 2, 1) := by decide +kernel
theorem d17 : decode yB 17 = .ok (.if_icmp (.eq) 40, 3) := by decide +kernel
theorem d57 : decode yB 57 = .ok (.aload_n 3, 1) := by decide +kernel
theorem d58 : decode yB 58 = .ok (.areturn, 1) := by decide +kernel
def site : List Cond := [.arrayClass .byte, Cmp5.tab] ++ staticW U16 115 Cmp5.yN
def tab : Cond := tabOf yN yB 6 (some (.array .byte)) site
def P (b : Addr) (A : Cell) (o len : Nat) (args : Array Value) (s : State) : Prop := args = #[.ref b, .int (Int32.ofNat o), .int (Int32.ofNat len)] ∧ Ch b A s ∧ o + len ≤ A.slots.size ∧ len ≤ 536870912 ∧ ∀ i, i < len → ¬ 255 < cv A (o + i)
def E (b : Addr) (A : Cell) (o len : Nat) (r : Option Value) (s u : State) : Prop := NewArr .byte "[B" len (fun j => .int (lo8 (cv A (o + j)))) r s u ∧ u.heap.size = s.heap.size + 1
/-- no char of the range above 255: a new byte[] of their low bytes -/
theorem law (l : Launch) (b : Addr) (A : Cell) (o len : Nat) : Law l yN 3 3 1 18 yB 6 (some (.array .byte)) site (P b A o len) (E b A o len) [] 1 len := by
  refine Law.of_walk (plainFor_of_name (by decide +kernel)) (by decide +kernel) (by decide +kernel) (by decide) (fun _ _ h => by rw [h.1]; rfl) (fun _ U U' hal hh h => ⟨h.1, h.2.1.mv hal hh, h.2.2⟩) (fun r U U' V V' h1 hal h2 h => ⟨NewArr.mv r U U' V V' h1 hal h2 h.1, by rw [h1, h2]; exact h.2⟩) ?_
  intro p e s m args below meth c s₁ X0 hexec hbytes hml hret hlk hnm hown hh0 W hP
  obtain ⟨rfl, hA, l1, l2, hp⟩ := hP
  have a31 := hA.1.2.2.2
  have c1 : Steps p.tables e below (s₁.setTop (entryFrame m #[.ref b, .int (Int32.ofNat o), .int (Int32.ofNat len)] 6)) (s₁.setTop (mkF m 0 #[.val (.ref b), .val (.int (Int32.ofNat o)), .val (.int (Int32.ofNat len)), .unset, .unset, .unset] [])) := entry rfl
  have c2 : Steps p.tables e below (s₁.setTop (entryFrame m #[.ref b, .int (Int32.ofNat o), .int (Int32.ofNat len)] 6)) (s₁.setTop (mkF m 1 #[.val (.ref b), .val (.int (Int32.ofNat o)), .val (.int (Int32.ofNat len)), .unset, .unset, .unset] [.int (Int32.ofNat len)])) := c1.trans (by
    refine XS.iloadN X0.here hexec rfl (hb hbytes d0) rfl ?_
    exact Steps.refl _)
  obtain ⟨T3, B3, X3, ba3, bs3, bv3, bh3, bf3, st3⟩ := X0.anew hexec (atype := .byte) (wk W (.arrayClass .byte)) rfl (by show len * 1 ≤ _; omega) (by omega) (g := (mkF m 1 #[.val (.ref b), .val (.int (Int32.ofNat o)), .val (.int (Int32.ofNat len)), .unset, .unset, .unset] [.int (Int32.ofNat len)])) rfl (hb hbytes d1) (rest := []) rfl (Nat.le_refl _) (by show 0 + len ≤ len; omega)
  rw [hh0] at ba3 st3
  have kp3 : XT.Kept s T3 := (XT.Kept.of_eq hh0).push bh3
  have hA3 := hA.keep X3.warmed.alike (kp3 _ _ hA.1.1)
  have hne : b ≠ s.heap.size := hA.1.ne
  have c4 : Steps p.tables e below (s₁.setTop (entryFrame m #[.ref b, .int (Int32.ofNat o), .int (Int32.ofNat len)] 6)) (T3.setTop (mkF m 3 #[.val (.ref b), .val (.int (Int32.ofNat o)), .val (.int (Int32.ofNat len)), .unset, .unset, .unset] [.ref s.heap.size])) := c2.trans (st3 _ (Steps.refl _))
  have c5 : Steps p.tables e below (s₁.setTop (entryFrame m #[.ref b, .int (Int32.ofNat o), .int (Int32.ofNat len)] 6)) (T3.setTop (mkF m 9 #[.val (.ref b), .val (.int (Int32.ofNat o)), .val (.int (Int32.ofNat len)), .val (.ref s.heap.size), .unset, .unset] [.int (Int32.ofNat len), .int 0, .ref s.heap.size, .int (Int32.ofNat o), .ref b])) := c4.trans (by
    refine XS.astoreN X3.here hexec rfl (hb hbytes d3) rfl rfl rfl ?_
    refine XS.aloadN X3.here hexec rfl (hb hbytes d4) rfl rfl ?_
    refine XS.iloadN X3.here hexec rfl (hb hbytes d5) rfl ?_
    refine XS.aloadN X3.here hexec rfl (hb hbytes d6) rfl rfl ?_
    refine iconstV X3.here hexec rfl 0 (hb hbytes d7) (by decide) ?_
    refine XS.iloadN X3.here hexec rfl (hb hbytes d8) rfl ?_
    exact Steps.refl _)
  obtain ⟨v6, T6, X6, E6, g6⟩ := X3.callS hexec (Cmp5.law l b A s.heap.size B3 o 0 len) hown (wks W (staticW U16 115 Cmp5.yN)) (wk W Cmp5.tab) (W := 0) (Nat.le_of_ble_eq_true rfl) (Nat.le_of_ble_eq_true rfl) (Nat.le_refl _) (by show 0 + len + 0 ≤ len; omega) (g := (mkF m 9 #[.val (.ref b), .val (.int (Int32.ofNat o)), .val (.int (Int32.ofNat len)), .val (.ref s.heap.size), .unset, .unset] [.int (Int32.ofNat len), .int (Int32.ofNat 0), .ref s.heap.size, .int (Int32.ofNat o), .ref b])) rfl (by rw [hml]; rfl) c5 (argsL := [.ref b, .int (Int32.ofNat o), .ref s.heap.size, .int (Int32.ofNat 0), .int (Int32.ofNat len)]) (rest := []) rfl rfl (by show 2 * 0 + 0 ≤ _; decide) (hb hbytes d9) (⟨rfl, hA3, ba3, hne, l1, by rw [bs3]; simp, hp⟩)
  obtain ⟨rfl, B6, p6, f6⟩ := E6
  have c7 : Steps p.tables e below (s₁.setTop (entryFrame m #[.ref b, .int (Int32.ofNat o), .int (Int32.ofNat len)] 6)) (T6.setTop (mkF m 12 #[.val (.ref b), .val (.int (Int32.ofNat o)), .val (.int (Int32.ofNat len)), .val (.ref s.heap.size), .unset, .unset] [.int (Int32.ofNat len)])) := g6
  have c8 : Steps p.tables e below (s₁.setTop (entryFrame m #[.ref b, .int (Int32.ofNat o), .int (Int32.ofNat len)] 6)) (T6.setTop (mkF m 58 #[.val (.ref b), .val (.int (Int32.ofNat o)), .val (.int (Int32.ofNat len)), .val (.ref s.heap.size), .val (.int (Int32.ofNat len)), .unset] [.ref s.heap.size])) := c7.trans (by
    refine XS.istore X6.here hexec rfl (hb hbytes d12) rfl rfl ?_
    refine XS.iload X6.here hexec rfl (hb hbytes d14) rfl ?_
    refine XS.iloadN X6.here hexec rfl (hb hbytes d16) rfl ?_
    refine XS.icmpYes X6.here hexec rfl (pc0 := 17) rfl (hb hbytes d17) rfl (ii_eq_t rfl) (by decide) rfl ?_
    refine XS.aloadN X6.here hexec rfl (hb hbytes d57) rfl rfl ?_
    exact Steps.refl _)
  have X8 := X6.wide (L' := []) (cells' := 1) (slots' := len) (fun x hx hlt => by
    simp only [List.nil_append, copyLocs, List.mem_map, List.mem_range] at hx
    obtain ⟨i, -, rfl⟩ := hx
    exact absurd hlt (Nat.lt_irrefl _)) (Nat.le_refl _) (by omega)
  exact ⟨T6, some (.ref s.heap.size), _, _, _, X8, rfl, rfl, rfl, (fun h => by cases h), ⟨⟨rfl, B6, ba3.like (X3.warmed.alike.symm.trans X6.warmed.alike) p6.1 f6.1 f6.2.1 f6.2.2.1, f6.2.1.trans bv3, by rw [X6.warmed.alike.findClass, f6.1]; exact bf3, by rw [f6.2.2.1, bs3]; simp, fun j hj => by rw [f6.2.2.2 j, if_pos (by omega)]; rfl, kp3.put p6 (Nat.le_refl _)⟩, by rw [p6.2.2, bh3, hh0]; simp⟩, fun fs hl => c8.trans (X8.areturnOut hexec rfl hret rfl (hb hbytes d58) hl)⟩
end Cmp3
namespace CodL
def yN : MethodName := ⟨"java/lang/StringUTF16", "coderFromArrayLen", "([BI)B"⟩
abbrev yB : ByteArray := jdk_52_method_15_code
theorem d0 : decode yB 0 = .ok (.iload_n 1, 1) := by decide +kernel
theorem d1 : decode yB 1 = .ok (.aload_n 0, 1) := by decide +kernel
theorem d2 : decode yB 2 = .ok (.arraylength, 1) := by decide +kernel
theorem d3 : decode yB 3 = .ok (.isub, 1) := by decide +kernel
theorem d4 : decode yB 4 = .ok (.bipush 31, 2) := by decide +kernel
theorem d6 : decode yB 6 = .ok (.iushr, 1) := by decide +kernel
theorem d7 : decode yB 7 = .ok (.i2b, 1) := by decide +kernel
theorem d8 : decode yB 8 = .ok (.ireturn, 1) := by decide +kernel
def site : List Cond := []
def tab : Cond := tabOf yN yB 2 (some .byte) site
def P (d : Addr) (B : Cell) (args : Array Value) (s : State) : Prop := args = #[.ref d, .int (Int32.ofNat B.slots.size)] ∧ Arr .byte d B s
def E (r : Option Value) (s u : State) : Prop := XT.PureE (some (.int 0)) r s u
/-- an array as long as the number of chars: LATIN1 -/
theorem law (l : Launch) (d : Addr) (B : Cell) : Law l yN 2 2 0 0 yB 2 (some .byte) site (P d B) E [] 0 0 := by
  refine Law.of_walk (plainFor_of_name (by decide +kernel)) (by decide +kernel) (by decide +kernel) (by decide) (fun _ _ h => by rw [h.1]; rfl) (fun _ U U' hal hh h => ⟨h.1, h.2.mv hal hh⟩) (fun r U U' V V' h1 hal h2 h => XT.PureE.mv r U U' V V' h1 hal h2 h) ?_
  intro p e s m args below meth c s₁ X0 hexec hbytes hml hret hlk hnm hown hh0 W hP
  obtain ⟨rfl, hB⟩ := hP
  have hB0 := hB.mv X0.warmed.alike hh0
  have c1 : Steps p.tables e below (s₁.setTop (entryFrame m #[.ref d, .int (Int32.ofNat B.slots.size)] 2)) (s₁.setTop (mkF m 0 #[.val (.ref d), .val (.int (Int32.ofNat B.slots.size))] [])) := entry rfl
  have c2 : Steps p.tables e below (s₁.setTop (entryFrame m #[.ref d, .int (Int32.ofNat B.slots.size)] 2)) (s₁.setTop (mkF m 2 #[.val (.ref d), .val (.int (Int32.ofNat B.slots.size))] [.ref d, .int (Int32.ofNat B.slots.size)])) := c1.trans (by
    refine XS.iloadN X0.here hexec rfl (hb hbytes d0) rfl ?_
    refine XS.aloadN X0.here hexec rfl (hb hbytes d1) rfl rfl ?_
    exact Steps.refl _)
  have c3 : Steps p.tables e below (s₁.setTop (entryFrame m #[.ref d, .int (Int32.ofNat B.slots.size)] 2)) (s₁.setTop (mkF m 8 #[.val (.ref d), .val (.int (Int32.ofNat B.slots.size))] [.int (lo8 (ushr (Int32.ofNat B.slots.size - Int32.ofNat B.slots.size) 31))])) := c2.trans (by
    refine X0.alen hexec hB0 rfl rfl (hb hbytes d2) ?_
    refine XS.isub X0.here hexec rfl (hb hbytes d3) rfl ?_
    refine bipushV X0.here hexec rfl 31 (hb hbytes d4) (by decide) ?_
    refine iushr X0.here hexec rfl (hb hbytes d6) rfl ?_
    refine i2b X0.here hexec rfl (hb hbytes d7) rfl ?_
    exact Steps.refl _)
  have e0 : lo8 (ushr (Int32.ofNat B.slots.size - Int32.ofNat B.slots.size) 31) = 0 := by rw [Int32.sub_self]; decide
  rw [e0] at c3
  exact ⟨s₁, some (.int 0), _, _, _, X0, rfl, rfl, rfl, (fun h => by cases h), ⟨rfl, hh0⟩, fun fs hl => c3.trans (X0.ireturnOut hexec hret rfl (Or.inr (Or.inr (Or.inl rfl))) (hb hbytes d8) hl)⟩
end CodL
/-- the String at a is Latin-1 over a new byte[] (the heap's one new cell): the low bytes of the len chars of A from o on; every cell but a is kept -/
def Got (a : Addr) (D : Cell) (fV fC : Field) (A : Cell) (o len : Nat) (r : Option Value) (s u : State) : Prop := r = none ∧ ∃ D' V : Cell, Blank "java/lang/String" a D' u ∧ Same D D' [fV.slot, fC.slot] ∧ D'.slots[fV.slot]? = some (.ref s.heap.size) ∧ D'.slots[fC.slot]? = some (.int 0) ∧ Arr .byte s.heap.size V u ∧ V.vm = .none ∧ u.vm.findClass "[B" = some V.cls ∧ V.slots.size = len ∧ (∀ j, j < len → V.slots[j]? = some (.int (lo8 (cv A (o + j))))) ∧ (∀ (y : Addr) (c : Cell), y ≠ a → s.heap[y]? = some c → u.heap[y]? = some c) ∧ u.heap.size = s.heap.size + 1
theorem Got.mv {a : Addr} {D A : Cell} {fV fC : Field} {o len : Nat} : ∀ r (U U' V V' : State), U'.heap = U.heap → V.vm.Alike V'.vm → V'.heap = V.heap → Got a D fV fC A o len r U V → Got a D fV fC A o len r U' V' :=
  fun r U U' V V' h1 hal h2 ⟨e0, D', X, a1, a2, a3, a4, a5, a6, a7, a8, a9, a10, a11⟩ => ⟨e0, D', X, a1.mv hal h2, a2, by rw [h1]; exact a3, a4, by rw [h1]; exact a5.mv hal h2, a6, by rw [hal.findClass]; exact a7, a8, a9, by rw [h1, h2]; exact a10, by rw [h1, h2]; exact a11⟩
namespace New4
def yN : MethodName := ⟨"java/lang/String", "<init>", "([CIILjava/lang/Void;)V"⟩
abbrev yB : ByteArray := jdk_42_method_149_code
theorem d0 : decode yB 0 = .ok (.aload_n 0, 1) := by decide +kernel
theorem d1 : decode yB 1 = .ok (.invokespecial 1, 3) := by decide +kernel
theorem d4 : decode yB 4 = .ok (.iload_n 3, 1) := by decide +kernel
theorem d5 : decode yB 5 = .ok (.ifCond (.ne) 22, 3) := by decide +kernel
theorem d27 : decode yB 27 = .ok (.getstatic 38, 3) := by decide +kernel
theorem d30 : decode yB 30 = .ok (.ifCond (.eq) 28, 3) := by decide +kernel
theorem d33 : decode yB 33 = .ok (.aload_n 1, 1) := by decide +kernel
theorem d34 : decode yB 34 = .ok (.iload_n 2, 1) := by decide +kernel
theorem d35 : decode yB 35 = .ok (.iload_n 3, 1) := by decide +kernel
theorem d36 : decode yB 36 = .ok (.invokestatic 177, 3) := by decide +kernel
theorem d39 : decode yB 39 = .ok (.astore 5, 2) := by decide +kernel
theorem d41 : decode yB 41 = .ok (.aload_n 0, 1) := by decide +kernel
theorem d42 : decode yB 42 = .ok (.aload 5, 2) := by decide +kernel
theorem d44 : decode yB 44 = .ok (.iload_n 3, 1) := by decide +kernel
theorem d45 : decode yB 45 = .ok (.invokestatic 47, 3) := by decide +kernel
theorem d48 : decode yB 48 = .ok (.putfield 15, 3) := by decide +kernel
theorem d51 : decode yB 51 = .ok (.aload_n 0, 1) := by decide +kernel
theorem d52 : decode yB 52 = .ok (.aload 5, 2) := by decide +kernel
theorem d54 : decode yB 54 = .ok (.putfield 9, 3) := by decide +kernel
theorem d57 : decode yB 57 = .ok (.return_, 1) := by decide +kernel
def site : List Cond := [.fieldLink "java/lang/String" 38 "java/lang/String" "COMPACT_STRINGS" "Z", Cmp3.tab, CodL.tab, .laysFinal "java/lang/String" "java/lang/String" "value" "[B", .fieldLink "java/lang/String" 9 "java/lang/String" "value" "[B", .laysFinal "java/lang/String" "java/lang/String" "coder" "B", .fieldLink "java/lang/String" 15 "java/lang/String" "coder" "B"] ++ objW "java/lang/String" 1 ++ staticW "java/lang/String" 177 Cmp3.yN ++ staticW "java/lang/String" 47 CodL.yN
def tab : Cond := tabOf yN yB 6 none site
def P (a : Addr) (D : Cell) (fV fC : Field) (b : Addr) (A : Cell) (z : Int32) (o len : Nat) (args : Array Value) (s : State) : Prop := args = #[.ref a, .ref b, .int (Int32.ofNat o), .int (Int32.ofNat len), .null] ∧ Blank "java/lang/String" a D s ∧ Found "java/lang/String" "value" "[B" fV s ∧ Found "java/lang/String" "coder" "B" fC s ∧ Ch b A s ∧ StaticIs s "java/lang/String" "COMPACT_STRINGS" "Z" (.int z) ∧ ¬ z = 0 ∧ 0 < len ∧ o + len ≤ A.slots.size ∧ len ≤ 536870912 ∧ ∀ i, i < len → ¬ 255 < cv A (o + i)
def E (a : Addr) (D : Cell) (fV fC : Field) (A : Cell) (o len : Nat) (r : Option Value) (s u : State) : Prop := Got a D fV fC A o len r s u
/-- len > 0, no char of the range above 255: a Latin-1 String of their low bytes -/
theorem law (l : Launch) (a : Addr) (D : Cell) (fV fC : Field) (b : Addr) (A : Cell) (z : Int32) (o len : Nat) : Law l yN 5 4 2 35 yB 6 none site (P a D fV fC b A z o len) (E a D fV fC A o len) [⟨a, fC.slot⟩, ⟨a, fV.slot⟩] 1 len := by
  refine Law.of_walk (plainFor_of_name (by decide +kernel)) (by decide +kernel) (by decide +kernel) (by decide) (fun _ _ h => by rw [h.1]; rfl) (fun _ U U' hal hh h => ⟨h.1, h.2.1.mv hal hh, h.2.2.1.al hal, h.2.2.2.1.al hal, h.2.2.2.2.1.mv hal hh, h.2.2.2.2.2.1.there hal hh, h.2.2.2.2.2.2⟩) (fun r U U' V V' h1 hal h2 h => Got.mv r U U' V V' h1 hal h2 h) ?_
  intro p e s m args below meth c s₁ X0 hexec hbytes hml hret hlk hnm hown hh0 W hP
  obtain ⟨rfl, hB, f1, f2, hA, s1, hz, l0, l1, l2, hp⟩ := hP
  have a31 := hA.1.2.2.2
  have c1 : Steps p.tables e below (s₁.setTop (entryFrame m #[.ref a, .ref b, .int (Int32.ofNat o), .int (Int32.ofNat len), .null] 6)) (s₁.setTop (mkF m 0 #[.val (.ref a), .val (.ref b), .val (.int (Int32.ofNat o)), .val (.int (Int32.ofNat len)), .val .null, .unset] [])) := entry rfl
  have c2 : Steps p.tables e below (s₁.setTop (entryFrame m #[.ref a, .ref b, .int (Int32.ofNat o), .int (Int32.ofNat len), .null] 6)) (s₁.setTop (mkF m 1 #[.val (.ref a), .val (.ref b), .val (.int (Int32.ofNat o)), .val (.int (Int32.ofNat len)), .val .null, .unset] [.ref a])) := c1.trans (by
    refine XS.aloadN X0.here hexec rfl (hb hbytes d0) rfl rfl ?_
    exact Steps.refl _)
  obtain ⟨T3, X3, q3, st3⟩ := X0.oinit hexec hown (wks W (objW "java/lang/String" 1)) (g := (mkF m 1 #[.val (.ref a), .val (.ref b), .val (.int (Int32.ofNat o)), .val (.int (Int32.ofNat len)), .val .null, .unset] [.ref a])) rfl (by rw [hml]; rfl) (rest := []) rfl (hb hbytes d1) (W := 0) (by show 2 * 0 + 0 ≤ _; decide) (Nat.le_of_ble_eq_true rfl) (Nat.le_of_ble_eq_true rfl)
  have hh3 := q3.trans hh0
  have c4 : Steps p.tables e below (s₁.setTop (entryFrame m #[.ref a, .ref b, .int (Int32.ofNat o), .int (Int32.ofNat len), .null] 6)) (T3.setTop (mkF m 27 #[.val (.ref a), .val (.ref b), .val (.int (Int32.ofNat o)), .val (.int (Int32.ofNat len)), .val .null, .unset] [])) := (c2.trans (st3 _ (Steps.refl _))).trans (by
    refine XS.iloadN X3.here hexec rfl (hb hbytes d4) rfl ?_
    refine XS.ifYes X3.here hexec rfl (pc0 := 5) rfl (hb hbytes d5) rfl (i0_ne_t (nz32 (by omega) l0)) (by decide) rfl ?_
    exact Steps.refl _)
  obtain ⟨T5, X5, q5, st5⟩ := X3.sget hexec hown (wk W (.fieldLink "java/lang/String" 38 "java/lang/String" "COMPACT_STRINGS" "Z")) s1 (fun _ _ h => by rw [hh3]; exact h) (g := (mkF m 27 #[.val (.ref a), .val (.ref b), .val (.int (Int32.ofNat o)), .val (.int (Int32.ofNat len)), .val .null, .unset] [])) rfl (hb hbytes d27)
  have hh5 := q5.trans hh3
  have c6 : Steps p.tables e below (s₁.setTop (entryFrame m #[.ref a, .ref b, .int (Int32.ofNat o), .int (Int32.ofNat len), .null] 6)) (T5.setTop (mkF m 30 #[.val (.ref a), .val (.ref b), .val (.int (Int32.ofNat o)), .val (.int (Int32.ofNat len)), .val .null, .unset] [.int z])) := c4.trans (st5 _ (Steps.refl _))
  have c7 : Steps p.tables e below (s₁.setTop (entryFrame m #[.ref a, .ref b, .int (Int32.ofNat o), .int (Int32.ofNat len), .null] 6)) (T5.setTop (mkF m 36 #[.val (.ref a), .val (.ref b), .val (.int (Int32.ofNat o)), .val (.int (Int32.ofNat len)), .val .null, .unset] [.int (Int32.ofNat len), .int (Int32.ofNat o), .ref b])) := c6.trans (by
    refine XS.ifNo X5.here hexec rfl (hb hbytes d30) rfl (i0_eq_f hz) ?_
    refine XS.aloadN X5.here hexec rfl (hb hbytes d33) rfl rfl ?_
    refine XS.iloadN X5.here hexec rfl (hb hbytes d34) rfl ?_
    refine XS.iloadN X5.here hexec rfl (hb hbytes d35) rfl ?_
    exact Steps.refl _)
  obtain ⟨v8, T8, X8, E8, g8⟩ := X5.callS hexec (Cmp3.law l b A o len) hown (wks W (staticW "java/lang/String" 177 Cmp3.yN)) (wk W Cmp3.tab) (W := 0) (Nat.le_of_ble_eq_true rfl) (Nat.le_of_ble_eq_true rfl) (Nat.le_refl _) (by show 0 + len ≤ len; omega) (g := (mkF m 36 #[.val (.ref a), .val (.ref b), .val (.int (Int32.ofNat o)), .val (.int (Int32.ofNat len)), .val .null, .unset] [.int (Int32.ofNat len), .int (Int32.ofNat o), .ref b])) rfl (by rw [hml]; rfl) c7 (argsL := [.ref b, .int (Int32.ofNat o), .int (Int32.ofNat len)]) (rest := []) rfl rfl (by show 2 * 0 + 0 ≤ _; decide) (hb hbytes d36) (⟨rfl, hA.mv X5.warmed.alike hh5, l1, l2, hp⟩)
  obtain ⟨e8, z8⟩ := E8
  obtain ⟨rfl, N, n1, n2, n3, n4, n5, n6⟩ := NewArr.mv _ T5 s _ _ hh5.symm (Vm.Alike.refl _) rfl e8
  rw [hh5] at z8
  have hB1 := hB.keep X8.warmed.alike (n6 _ _ hB.1)
  have hne : s.heap.size ≠ a := (Nat.ne_of_lt (Array.getElem?_eq_some_iff.mp hB.1).1).symm
  have c9 : Steps p.tables e below (s₁.setTop (entryFrame m #[.ref a, .ref b, .int (Int32.ofNat o), .int (Int32.ofNat len), .null] 6)) (T8.setTop (mkF m 39 #[.val (.ref a), .val (.ref b), .val (.int (Int32.ofNat o)), .val (.int (Int32.ofNat len)), .val .null, .unset] [.ref s.heap.size])) := g8
  have c10 : Steps p.tables e below (s₁.setTop (entryFrame m #[.ref a, .ref b, .int (Int32.ofNat o), .int (Int32.ofNat len), .null] 6)) (T8.setTop (mkF m 45 #[.val (.ref a), .val (.ref b), .val (.int (Int32.ofNat o)), .val (.int (Int32.ofNat len)), .val .null, .val (.ref s.heap.size)] [.int (Int32.ofNat N.slots.size), .ref s.heap.size, .ref a])) := by
    have hc : Steps p.tables e below (s₁.setTop (entryFrame m #[.ref a, .ref b, .int (Int32.ofNat o), .int (Int32.ofNat len), .null] 6)) (T8.setTop (mkF m 45 #[.val (.ref a), .val (.ref b), .val (.int (Int32.ofNat o)), .val (.int (Int32.ofNat len)), .val .null, .val (.ref s.heap.size)] [.int (Int32.ofNat len), .ref s.heap.size, .ref a])) := c9.trans (by
      refine XS.astore X8.here hexec rfl (hb hbytes d39) rfl rfl rfl ?_
      refine XS.aloadN X8.here hexec rfl (hb hbytes d41) rfl rfl ?_
      refine XS.aload X8.here hexec rfl (hb hbytes d42) rfl rfl ?_
      refine XS.iloadN X8.here hexec rfl (hb hbytes d44) rfl ?_
      exact Steps.refl _)
    rw [n4]; exact hc
  obtain ⟨v11, T11, X11, E11, g11⟩ := X8.callS hexec (CodL.law l s.heap.size N) hown (wks W (staticW "java/lang/String" 47 CodL.yN)) (wk W CodL.tab) (W := 1) (Nat.le_of_ble_eq_true rfl) (Nat.le_of_ble_eq_true rfl) (Nat.le_refl _) (by show 0 + len + 0 ≤ len; omega) (g := (mkF m 45 #[.val (.ref a), .val (.ref b), .val (.int (Int32.ofNat o)), .val (.int (Int32.ofNat len)), .val .null, .val (.ref s.heap.size)] [.int (Int32.ofNat N.slots.size), .ref s.heap.size, .ref a])) rfl (by rw [hml]; rfl) c10 (argsL := [.ref s.heap.size, .int (Int32.ofNat N.slots.size)]) (rest := [.ref a]) rfl rfl (by show 2 * 0 + (1 + 0) ≤ _; decide) (hb hbytes d45) (⟨rfl, n1⟩)
  obtain ⟨rfl, q11⟩ := E11
  have hB11 := hB1.mv (X8.warmed.alike.symm.trans X11.warmed.alike) q11
  have c12 : Steps p.tables e below (s₁.setTop (entryFrame m #[.ref a, .ref b, .int (Int32.ofNat o), .int (Int32.ofNat len), .null] 6)) (T11.setTop (mkF m 48 #[.val (.ref a), .val (.ref b), .val (.int (Int32.ofNat o)), .val (.int (Int32.ofNat len)), .val .null, .val (.ref s.heap.size)] [.int 0, .ref a])) := g11
  obtain ⟨T13, X13, p13, bl13, sl13, st13⟩ := X11.finit hexec hown (wk W (.fieldLink "java/lang/String" 15 "java/lang/String" "coder" "B")) (Or.inr ⟨_, (wk W (.laysFinal "java/lang/String" "java/lang/String" "coder" "B"))⟩) (Or.inl ⟨rfl, hnm⟩) f2 (Or.inl rfl) hB11 (t := .byte) (by decide +kernel) rfl (g := (mkF m 48 #[.val (.ref a), .val (.ref b), .val (.int (Int32.ofNat o)), .val (.int (Int32.ofNat len)), .val .null, .val (.ref s.heap.size)] [.int 0, .ref a])) rfl (rest := []) rfl (hb hbytes d48)
  have c14 : Steps p.tables e below (s₁.setTop (entryFrame m #[.ref a, .ref b, .int (Int32.ofNat o), .int (Int32.ofNat len), .null] 6)) (T13.setTop (mkF m 54 #[.val (.ref a), .val (.ref b), .val (.int (Int32.ofNat o)), .val (.int (Int32.ofNat len)), .val .null, .val (.ref s.heap.size)] [.ref s.heap.size, .ref a])) := (c12.trans (st13 _ (Steps.refl _))).trans (by
    refine XS.aloadN X13.here hexec rfl (hb hbytes d51) rfl rfl ?_
    refine XS.aload X13.here hexec rfl (hb hbytes d52) rfl rfl ?_
    exact Steps.refl _)
  obtain ⟨T15, X15, p15, bl15, sl15, st15⟩ := X13.finit hexec hown (wk W (.fieldLink "java/lang/String" 9 "java/lang/String" "value" "[B")) (Or.inr ⟨_, (wk W (.laysFinal "java/lang/String" "java/lang/String" "value" "[B"))⟩) (Or.inl ⟨rfl, hnm⟩) f1 (Or.inl rfl) bl13 (t := (.array .byte)) (by decide +kernel) rfl (g := (mkF m 54 #[.val (.ref a), .val (.ref b), .val (.int (Int32.ofNat o)), .val (.int (Int32.ofNat len)), .val .null, .val (.ref s.heap.size)] [.ref s.heap.size, .ref a])) rfl (rest := []) rfl (hb hbytes d54)
  have c16 : Steps p.tables e below (s₁.setTop (entryFrame m #[.ref a, .ref b, .int (Int32.ofNat o), .int (Int32.ofNat len), .null] 6)) (T15.setTop (mkF m 57 #[.val (.ref a), .val (.ref b), .val (.int (Int32.ofNat o)), .val (.int (Int32.ofNat len)), .val .null, .val (.ref s.heap.size)] [])) := c14.trans (st15 _ (Steps.refl _))
  have ap := apart (Or.inr ⟨_, (wk W (.laysFinal "java/lang/String" "java/lang/String" "value" "[B"))⟩) (Or.inr ⟨_, (wk W (.laysFinal "java/lang/String" "java/lang/String" "coder" "B"))⟩) f1 f2 (t₁ := .array .byte) (t₂ := .byte) (by decide +kernel) (by decide +kernel) (by decide)
  have al := X8.warmed.alike.symm.trans X15.warmed.alike
  have n7 : T11.heap[s.heap.size]? = some N := by rw [q11]; exact n1.1
  exact ⟨T15, none, _, _, _, X15, by simp, rfl, by omega, (fun _ => rfl), ⟨rfl, _, N, bl15, ((Same.refl D _).set _ (by simp)).set _ (by simp), sl15, (Cell.slots_setSlot_ne _ ap).trans sl13, n1.keep al (p15.other hne (p13.other hne n7)), n2, by rw [al.findClass]; exact n3, n4, n5, fun y c h1 h2 => p15.other h1 (p13.other h1 (by rw [q11]; exact n6 y c h2)), by rw [p15.2.2, p13.2.2, q11]; exact z8⟩, fun fs hl => c16.trans (X15.returnOut hexec hret (hb hbytes d57) hl)⟩
end New4
namespace New1
def yN : MethodName := ⟨"java/lang/String", "<init>", "([C)V"⟩
abbrev yB : ByteArray := jdk_42_method_3_code
theorem d0 : decode yB 0 = .ok (.aload_n 0, 1) := by decide +kernel
theorem d1 : decode yB 1 = .ok (.aload_n 1, 1) := by decide +kernel
theorem d2 : decode yB 2 = .ok (.iconst 0, 1) := by decide +kernel
theorem d3 : decode yB 3 = .ok (.aload_n 1, 1) := by decide +kernel
theorem d4 : decode yB 4 = .ok (.arraylength, 1) := by decide +kernel
theorem d5 : decode yB 5 = .ok (.aconst_null, 1) := by decide +kernel
theorem d6 : decode yB 6 = .ok (.invokespecial 27, 3) := by decide +kernel
theorem d9 : decode yB 9 = .ok (.return_, 1) := by decide +kernel
def site : List Cond := [New4.tab] ++ initW "java/lang/String" 27 New4.yN
def tab : Cond := tabOf yN yB 2 none site
def P (a : Addr) (D : Cell) (fV fC : Field) (b : Addr) (A : Cell) (z : Int32) (args : Array Value) (s : State) : Prop := args = #[.ref a, .ref b] ∧ Blank "java/lang/String" a D s ∧ Found "java/lang/String" "value" "[B" fV s ∧ Found "java/lang/String" "coder" "B" fC s ∧ Ch b A s ∧ StaticIs s "java/lang/String" "COMPACT_STRINGS" "Z" (.int z) ∧ ¬ z = 0 ∧ 0 < A.slots.size ∧ A.slots.size ≤ 536870912 ∧ ∀ i, i < A.slots.size → ¬ 255 < cv A i
def E (a : Addr) (D : Cell) (fV fC : Field) (A : Cell) (r : Option Value) (s u : State) : Prop := Got a D fV fC A 0 A.slots.size r s u
/-- new String(chars), not empty, no char above 255: a Latin-1 String of their low bytes -/
theorem law (l : Launch) (a : Addr) (D : Cell) (fV fC : Field) (b : Addr) (A : Cell) (z : Int32) : Law l yN 2 1 3 52 yB 2 none site (P a D fV fC b A z) (E a D fV fC A) [⟨a, fC.slot⟩, ⟨a, fV.slot⟩] 1 A.slots.size := by
  refine Law.of_walk (plainFor_of_name (by decide +kernel)) (by decide +kernel) (by decide +kernel) (by decide) (fun _ _ h => by rw [h.1]; rfl) (fun _ U U' hal hh h => ⟨h.1, h.2.1.mv hal hh, h.2.2.1.al hal, h.2.2.2.1.al hal, h.2.2.2.2.1.mv hal hh, h.2.2.2.2.2.1.there hal hh, h.2.2.2.2.2.2⟩) (fun r U U' V V' h1 hal h2 h => Got.mv r U U' V V' h1 hal h2 h) ?_
  intro p e s m args below meth c s₁ X0 hexec hbytes hml hret hlk hnm hown hh0 W hP
  obtain ⟨rfl, hB, f1, f2, hA, s1, hz, l0, l2, hp⟩ := hP
  have c1 : Steps p.tables e below (s₁.setTop (entryFrame m #[.ref a, .ref b] 2)) (s₁.setTop (mkF m 0 #[.val (.ref a), .val (.ref b)] [])) := entry rfl
  have c2 : Steps p.tables e below (s₁.setTop (entryFrame m #[.ref a, .ref b] 2)) (s₁.setTop (mkF m 6 #[.val (.ref a), .val (.ref b)] [.null, .int (Int32.ofNat A.slots.size), .int 0, .ref b, .ref a])) := c1.trans (by
    refine XS.aloadN X0.here hexec rfl (hb hbytes d0) rfl rfl ?_
    refine XS.aloadN X0.here hexec rfl (hb hbytes d1) rfl rfl ?_
    refine iconstV X0.here hexec rfl 0 (hb hbytes d2) (by decide) ?_
    refine XS.aloadN X0.here hexec rfl (hb hbytes d3) rfl rfl ?_
    refine X0.alen hexec (hA.1.mv X0.warmed.alike hh0) rfl rfl (hb hbytes d4) ?_
    refine XS.aconstNull X0.here hexec rfl (hb hbytes d5) ?_
    exact Steps.refl _)
  obtain ⟨v3, T3, X3, E3, g3⟩ := X0.callN hexec (New4.law l a D fV fC b A z 0 A.slots.size) rfl hown (wks W (initW "java/lang/String" 27 New4.yN)) (W New4.tab (by simp only [site, List.mem_cons, List.mem_append, true_or, or_true])) (W := 0) (Nat.le_of_ble_eq_true rfl) (Nat.le_of_ble_eq_true rfl) (Nat.le_refl _) (by show 0 + A.slots.size ≤ A.slots.size; omega) (g := (mkF m 6 #[.val (.ref a), .val (.ref b)] [.null, .int (Int32.ofNat A.slots.size), .int (Int32.ofNat 0), .ref b, .ref a])) rfl (by rw [hml]; rfl) c2 (argsL := [.ref b, .int (Int32.ofNat 0), .int (Int32.ofNat A.slots.size), .null]) (rest := []) rfl rfl (by show 2 * 0 + 0 ≤ _; decide) (hb hbytes d6) (⟨rfl, hB.mv X0.warmed.alike hh0, f1.al X0.warmed.alike, f2.al X0.warmed.alike, hA.mv X0.warmed.alike hh0, s1.there X0.warmed.alike hh0, hz, l0, by omega, l2, fun i hi => by rw [Nat.zero_add]; exact hp i hi⟩)
  have e0 := Got.mv _ s₁ s _ _ hh0.symm (Vm.Alike.refl _) rfl E3
  obtain rfl := e0.1
  have c4 : Steps p.tables e below (s₁.setTop (entryFrame m #[.ref a, .ref b] 2)) (T3.setTop (mkF m 9 #[.val (.ref a), .val (.ref b)] [])) := g3
  exact ⟨T3, none, _, _, _, X3, by simp, rfl, by omega, (fun _ => rfl), e0, fun fs hl => c4.trans (X3.returnOut hexec hret (hb hbytes d9) hl)⟩
theorem pays {l : Launch} {R : Room} {p : Program} {e : Env} {below : List Frame} {s : State} {sargs : Array Value} {len W : Nat} (a : Addr) (D : Cell) (fV fC : Field) (b : Addr) (A : Cell) (z : Int32) (htab : tab.before sargs s = true) (hfr : 4 ≤ R.frames) (hlo : W + 65 ≤ R.locals) :
    Back l R p e below s sargs yN len W (fun A₁ a₁ => A₁.cells + 1 ≤ R.cells ∧ A₁.slots + A.slots.size ≤ R.slots ∧ P a D fV fC b A z a₁ A₁.U) (fun A₁ _ v₁ B₁ => E a D fV fC A v₁ A₁.U B₁.U ∧ B₁.locs = A₁.locs ++ [⟨a, fC.slot⟩, ⟨a, fV.slot⟩] ∧ B₁.cells = A₁.cells + 1 ∧ B₁.slots = A₁.slots + A.slots.size) :=
  (law l a D fV fC b A z).pays htab hfr (by omega)
end New1
/-- the byte, read back as charAt reads it, is the char -/
theorem lo8_mask {x : Int32} (h0 : ¬ x < 0) (h1 : ¬ 255 < x) : lo8 x &&& 255 = x := by
  have t : ∀ k : Fin 256, lo8 (Int32.ofNat k.val) &&& 255 = Int32.ofNat k.val := by decide +kernel
  rw [Int32.lt_iff_toInt_lt] at h0 h1
  have e0 : (0 : Int32).toInt = 0 := rfl
  have e1 : (255 : Int32).toInt = 255 := rfl
  obtain ⟨k, hk⟩ : ∃ k : Nat, x.toInt = k := ⟨x.toInt.toNat, by omega⟩
  have hx : x = Int32.ofNat k := Int32.toInt_inj.mp (by rw [hk, Int32.toInt_ofNat_small (by omega)])
  rw [hx]
  exact t ⟨k, by omega⟩
end StrChars
namespace StrChars.Road
open Jvm Sem ClassFile Op Lib Jvm.Stand Jvm.Free Jvm.Free.XT
open Jvm.Lib.Cold (StaticIs)
abbrev ST : String := "java/lang/String"
/-- every table word that New1's law asks, flat -/
abbrev words : List Jvm.Cond := [.code New1.yN New1.yB 2 none, .initialized ST, .methodLink ST 27 New4.yN, .instanceMethod New4.yN,
  .code New4.yN New4.yB 6 none, .fieldLink ST 38 ST "COMPACT_STRINGS" "Z", .laysFinal ST ST "value" "[B", .fieldLink ST 9 ST "value" "[B", .laysFinal ST ST "coder" "B", .fieldLink ST 15 ST "coder" "B",
  .methodLink ST 1 Lib.objectInit, .instanceMethod Lib.objectInit, .code Lib.objectInit ⟨#[0xb1]⟩ 1 none, .methodLink ST 177 Cmp3.yN, .static Cmp3.yN, .methodLink ST 47 CodL.yN, .static CodL.yN,
  .code Cmp3.yN Cmp3.yB 6 (some (.array .byte)), .initialized U16, .arrayClass .byte, .methodLink U16 115 Cmp5.yN, .static Cmp5.yN, .code Cmp5.yN Cmp5.yB 7 (some .int), .code CodL.yN CodL.yB 2 (some .byte)]
theorem tab_of {a : Array Value} {s : State} (h : ∀ w ∈ words, w.before a s = true) : New1.tab.before a s = true := by
  have h5 : Cmp5.tab.before a s = true := unparts (wk h (.code Cmp5.yN Cmp5.yB 7 (some .int))) (wks h (.initialized Cmp5.yN.cls :: Cmp5.site))
  have hc : CodL.tab.before a s = true := unparts (wk h (.code CodL.yN CodL.yB 2 (some .byte))) (wks h (.initialized CodL.yN.cls :: CodL.site))
  have q5 : ∀ w ∈ Cmp5.tab :: words, w.before a s = true := fun w hw => (List.mem_cons.mp hw).elim (fun e => e ▸ h5) (h w)
  have h3 : Cmp3.tab.before a s = true := unparts (wk q5 (.code Cmp3.yN Cmp3.yB 6 (some (.array .byte)))) (wks q5 (.initialized Cmp3.yN.cls :: Cmp3.site))
  have q3 : ∀ w ∈ Cmp3.tab :: CodL.tab :: words, w.before a s = true := fun w hw => (List.mem_cons.mp hw).elim (fun e => e ▸ h3) fun hw => (List.mem_cons.mp hw).elim (fun e => e ▸ hc) (h w)
  have h4 : New4.tab.before a s = true := unparts (wk q3 (.code New4.yN New4.yB 6 none)) (wks q3 (.initialized New4.yN.cls :: New4.site))
  have q4 : ∀ w ∈ New4.tab :: words, w.before a s = true := fun w hw => (List.mem_cons.mp hw).elim (fun e => e ▸ h4) (h w)
  exact unparts (wk q4 (.code New1.yN New1.yB 2 none)) (wks q4 (.initialized New1.yN.cls :: New1.site))
/-- the words ride from the start Z to the walk's own state -/
theorem moved {Z s : State} {a0 args : Array Value} (hZ : Z.Warmed39 s.vm) (hw : ∀ d ∈ words, d.before a0 Z = true) : ∀ d ∈ words, d.before args s = true := fun d hd => by
  have q := hw d hd
  have t : ∀ d ∈ words, d = .arrayClass .byte ∨ (d.onTables && d.keepsFace) = true := by decide +kernel
  rcases t d hd with rfl | t
  · exact RoadKit.mvA hZ q
  · exact RoadKit.mv hZ q t
/-- WHAT COMES BACK, over the tables of the start Z: h the heap at the call, h' behind it -/
def Q (Z : State) (x : Addr) (A : Cell) (h : Heap) (v : Option Value) (h' : Heap) (L : List Loc) : Prop := v = none ∧ (∀ y ∈ L, y.base = x) ∧ RoadKit.Keep h h' [x] ∧ h'.size = h.size + 1 ∧ RoadKit.Exa Z h' x ST ∧ RoadKit.Fld Z h' x ST "value" "[B" (.ref h.size) ∧ RoadKit.Fld Z h' x ST "coder" "B" (.int 0) ∧
  (∃ V : Cell, RoadKit.Arr Z h' h.size V .byte ∧ V.vm = .none ∧ Z.vm.findClass "[B" = some V.cls ∧ V.slots.size = A.slots.size ∧ ∀ j, j < A.slots.size → V.slots[j]? = some (.int (lo8 (cv A j)))) ∧
  ∀ (O n d : String) (w : Value), RoadKit.Fld Z h x O n d w → RoadKit.slotOf Z O n d ≠ RoadKit.slotOf Z ST "value" "[B" → RoadKit.slotOf Z O n d ≠ RoadKit.slotOf Z ST "coder" "B" → RoadKit.Fld Z h' x O n d w
/-- **new String(chars) AT A CALL, IN THE ROAD'S FORM**: for specialBack behind newO: x the fresh String, b the char[] with the cell A -/
theorem back {p : Program} {l : Launch} {e : Env} {R : Room} {s : State} {args : Array Value} {below : List Frame} {len W : Nat} {Z : State} {a0 : Array Value} {h : Heap} (hZ : Z.Warmed39 s.vm) (hw : ∀ d ∈ words, d.before a0 Z = true) {kI : Nat} (wi : (Jvm.Cond.instantiable ST kI).before a0 Z = true)
    {x b : Addr} {A : Cell} {z : Int32} {v0 c0 : Value} (E : RoadKit.Exa Z h x ST) (V : RoadKit.Fld Z h x ST "value" "[B" v0) (C : RoadKit.Fld Z h x ST "coder" "B" c0) (K : RoadKit.Arr Z h b A .char) (hty : Typed .char A) (S : RoadKit.Sta Z h ST "COMPACT_STRINGS" "Z" (.int z)) (hz : ¬ z = 0)
    (l0 : 0 < A.slots.size) (l2 : A.slots.size ≤ 536870912) (hp : ∀ i, i < A.slots.size → ¬ 255 < cv A i) (hfr : 4 ≤ R.frames) (hlo : W + 65 ≤ R.locals) :
    Back l R p e below s args New1.yN len W (fun P a => a = #[.ref x, .ref b] ∧ P.U.heap = h ∧ P.cells + 1 ≤ R.cells ∧ P.slots + A.slots.size ≤ R.slots)
      (fun P _ v B => ∃ L, Q Z x A h v B.U.heap L ∧ B.locs = P.locs ++ L ∧ B.cells = P.cells + 1 ∧ B.slots = P.slots + A.slots.size) := by
  intro m meth c P g ig mk a X hg hsize hdg hW hn hp'
  obtain ⟨rfl, rfl, r1, r2⟩ := hp'
  have al : Z.vm.Alike P.U.vm := hZ.alike.trans X.warmed.alike
  obtain ⟨D, cfV, kV, iV, fV, hD, gV, stV, knV, obV, asV, slV⟩ := id V
  obtain ⟨D', cfC, kC, iC, fC, hD', gC, stC, -, -, asC, slC⟩ := id C
  cases hD.symm.trans hD'
  obtain ⟨D2, kD, e1, e2, e3, e4, e5⟩ := id E
  cases hD.symm.trans e1
  obtain ⟨c2, k2, i1, i2, i3, -⟩ := Cond.instantiable_spec wi
  cases e2.symm.trans i1
  cases e3.symm.trans i2
  obtain ⟨kU, u1, u2⟩ := al.2.2 _ _ e3
  have hB : Blank ST x D P.U := ⟨hD, ⟨knV, fun q hq => by rw [hq] at obV; cases obV⟩, by rw [al.findClass]; exact e2, kU, u1, by rw [u2]; exact i3, by rw [u2]; exact e5 i3⟩
  have F1 : Found ST "value" "[B" fV P.U := ⟨SBG.found_only al ⟨cfV, kV, iV, gV⟩, stV⟩
  have F2 : Found ST "coder" "B" fC P.U := ⟨SBG.found_only al ⟨cfC, kC, iC, gC⟩, stC⟩
  have hA : Ch b A P.U := ⟨⟨K.1, State.isArrayOf_alike al K.2.1, K.2.2, by omega⟩, hty⟩
  have hS : StaticIs P.U ST "COMPACT_STRINGS" "Z" (.int z) := by
    obtain ⟨cfS, iS, kS, fS, st, cS, t1, t2, t3, t4, t5, t6, t7⟩ := S
    exact StaticIs.there (s := { Z with heap := P.U.heap }) ⟨cfS, iS, kS, fS, st, cS, t1, t2, t3, t4, t5, (fun q => by rw [q] at t6; cases t6), t7⟩ al rfl
  obtain ⟨v, B, X', ⟨⟨hv, E', V', q1, q2, q3, q4, q5, q6, q7, q8, q9, q10, q11⟩, hl, hc, hs⟩, st⟩ := New1.pays x D fV fC b A z (tab_of (moved hZ hw)) hfr hlo m meth c P g ig mk _ X hg hsize hdg hW hn ⟨r1, r2, rfl, hB, F1, F2, hA, hS, hz, l0, l2, hp⟩
  have al' : Z.vm.Alike B.U.vm := hZ.alike.trans X'.warmed.alike
  have hsz : E'.slots.size = D.slots.size := by
    obtain ⟨-, -, -, kB, w1, w2, w3⟩ := q1
    obtain ⟨kB', y1, y2⟩ := al'.2.2 _ _ e3
    rw [q2.2.1] at w1
    cases w1.symm.trans y1
    rw [w3, e5 i3, y2]
  refine ⟨v, B, X', ⟨_, ⟨hv, ?_, ⟨by omega, fun y cy hy hn' => q10 y cy (by simpa using hn') hy, fun y cy hy => ?_⟩, q11, ⟨E', _, q1.1, by rw [q2.2.1]; exact e2, by rw [q2.2.1]; exact e3, by rw [q2.1]; exact obV, fun _ => by rw [hsz]; exact e5 i3⟩,
    ⟨E', cfV, kV, iV, fV, q1.1, gV, stV, by rw [q2.1]; exact knV, by rw [q2.1]; exact obV, by rw [q2.2.1]; exact asV, q3⟩, ⟨E', cfC, kC, iC, fC, q1.1, gC, stC, by rw [q2.1]; exact knV, by rw [q2.1]; exact obV, by rw [q2.2.1]; exact asC, q4⟩,
    ⟨V', ⟨q5.1, State.isArrayOf_alike al'.symm q5.2.1, q5.2.2.1⟩, q6, by rw [← al'.findClass]; exact q7, q8, fun j hj => by have := q9 j hj; rwa [Nat.zero_add] at this⟩, fun O n d w F n1 n2 => ?_⟩, hl, hc, hs⟩, st⟩
  · intro y hy
    simp only [List.mem_cons, List.not_mem_nil, or_false] at hy
    rcases hy with rfl | rfl <;> rfl
  · by_cases q : y = x
    · subst q
      cases hD.symm.trans hy
      exact ⟨E', q1.1, q2.2.1, q2.1, hsz⟩
    · exact ⟨cy, q10 y cy q hy, rfl, rfl, rfl⟩
  · obtain ⟨D3, cf, k, i, f, g1, g2, g3, g4, g5, g6, g7⟩ := F
    cases hD.symm.trans g1
    simp only [RoadKit.slotOf, g2, gV, gC, Option.map_some, Option.getD_some] at n1 n2
    exact ⟨E', cf, k, i, f, q1.1, g2, g3, by rw [q2.1]; exact g4, by rw [q2.1]; exact g5, by rw [q2.2.1]; exact g6, by rw [q2.2.2 f.slot (by simp [n1, n2])]; exact g7⟩
end StrChars.Road
namespace StrChars.Road
open Jvm Sem ClassFile Op Lib Jvm.Stand Jvm.Free Jvm.Free.XT
/-- WHAT COMES BACK, the byte[] as a list of values -/
def QA (Z : State) (x : Addr) (zn : Int32) (cs : List Int32) (h : Heap) (v : Option Value) (h' : Heap) (L : List Loc) : Prop := v = none ∧ (∀ y ∈ L, y.base = x) ∧ RoadKit.Keep h h' [x] ∧ h'.size = h.size + 1 ∧ RoadKit.Exa Z h' x ST ∧ RoadKit.Fld Z h' x ST "value" "[B" (.ref h.size) ∧ RoadKit.Fld Z h' x ST "coder" "B" (.int 0) ∧
  (∃ kb, Z.vm.findClass "[B" = some kb ∧ RoadKit.Arv Z h' h.size kb .byte zn (cs.map fun c => .int (lo8 c)) (.int 0)) ∧
  ∀ (O n d : String) (w : Value), RoadKit.Fld Z h x O n d w → RoadKit.slotOf Z O n d ≠ RoadKit.slotOf Z ST "value" "[B" → RoadKit.slotOf Z O n d ≠ RoadKit.slotOf Z ST "coder" "B" → RoadKit.Fld Z h' x O n d w
/-- **new String(chars) AT A CALL, THE ARRAYS AS LISTS**: the char[] at b holds cs, not empty, no char above 255 -/
theorem backArv {p : Program} {l : Launch} {e : Env} {R : Room} {s : State} {args : Array Value} {below : List Frame} {len W : Nat} {Z : State} {a0 : Array Value} {h : Heap} (hZ : Z.Warmed39 s.vm) (hw : ∀ d ∈ words, d.before a0 Z = true) {kI : Nat} (wi : (Jvm.Cond.instantiable ST kI).before a0 Z = true)
    {x b : Addr} {k : ClassId} {zn z : Int32} {cs : List Int32} {dv v0 c0 : Value} (E : RoadKit.Exa Z h x ST) (V : RoadKit.Fld Z h x ST "value" "[B" v0) (C : RoadKit.Fld Z h x ST "coder" "B" c0) (K : RoadKit.Arv Z h b k .char zn (cs.map Value.int) dv) (S : RoadKit.Sta Z h ST "COMPACT_STRINGS" "Z" (.int z)) (hz : ¬ z = 0)
    (hlen : zn.toNatClampNeg = cs.length) (h0 : 0 < cs.length) (hbig : cs.length ≤ 536870912) (hall : ∀ c ∈ cs, ¬ 255 < c) (hfr : 4 ≤ R.frames) (hlo : W + 65 ≤ R.locals) :
    Back l R p e below s args New1.yN len W (fun P a => a = #[.ref x, .ref b] ∧ P.U.heap = h ∧ P.cells + 1 ≤ R.cells ∧ P.slots + cs.length ≤ R.slots)
      (fun P _ v B => ∃ L, QA Z x zn cs h v B.U.heap L ∧ B.locs = P.locs ++ L ∧ B.cells = P.cells + 1 ∧ B.slots = P.slots + cs.length) := by
  obtain ⟨A, K1, K2, K3, K4, K5, K6⟩ := K
  have e : A.slots.size = cs.length := K3.trans hlen
  have hat : ∀ (i : Nat) (hi : i < cs.length), A.slots[i]? = some (.int cs[i]) := fun i hi => by rw [K5 i (by omega)]; simp [List.getD_eq_getElem?_getD, hi]
  have hcv : ∀ (i : Nat) (hi : i < cs.length), cv A i = cs[i] := fun i hi => by unfold cv; rw [hat i hi]
  have hty : Typed .char A := fun i v hv => by
    have hi : i < A.slots.size := (Array.getElem?_eq_some_iff.mp hv).1
    have q := K5 i hi
    rw [hv] at q
    rw [Option.some.inj q]
    exact K6 i hi
  refine Back.mono (back hZ hw wi E V C K1 hty S hz (by omega) (by omega) (fun i hi => by rw [hcv i (by omega)]; exact hall _ (List.getElem_mem _)) hfr hlo) (fun P a hp => ⟨hp.1, hp.2.1, hp.2.2.1, by rw [e]; exact hp.2.2.2⟩) (fun P a v B hp hq => ?_)
  obtain ⟨L, ⟨q1, q2, q3, q4, q5, q6, q7, ⟨V', v1, v2, v3, v4, v5⟩, q9⟩, hl, hc, hs⟩ := hq
  refine ⟨L, ⟨q1, q2, q3, q4, q5, q6, q7, ⟨V'.cls, v3, V', v1, rfl, by rw [v4, e, hlen], K4, fun i hi => ?_, fun i hi => ?_⟩, q9⟩, hl, hc, by rw [hs, e]⟩
  · have hi' : i < cs.length := by omega
    rw [v5 i (by omega), hcv i hi']; simp [List.getD_eq_getElem?_getD, hi']
  · have hi' : i < cs.length := by omega
    simp only [List.getD_eq_getElem?_getD, List.getElem?_map, List.getElem?_eq_getElem hi', Option.map_some, Option.getD_some]
    exact fits_lo8 _
end StrChars.Road
namespace StrChars.Road
open Jvm Sem ClassFile Op Lib Jvm.Stand Jvm.Free Jvm.Free.XT
/-- WHAT COMES BACK, in the writer's own shape -/
def QV (Z : State) (x : Addr) (N : Int32) (bs : List Int32) (h : Heap) (n0 : Nat) (v : Option Value) (h' : Heap) (L : List Loc) : Prop := v = none ∧ RoadKit.Fr n0 L ∧ RoadKit.Keep h h' [x] ∧ RoadKit.Exa Z h' x ST ∧ RoadKit.Fld Z h' x ST "coder" "B" (.int 0) ∧
  ∃ (t : Addr) (kb : ClassId), n0 ≤ t ∧ h.size ≤ t ∧ ¬ t = x ∧ RoadKit.Fld Z h' x ST "value" "[B" (.ref t) ∧ RoadKit.Arv Z h' t kb .byte N (bs.map Value.int) (.int 0)
/-- **new String(chars) AT A CALL, FOR THE WRITER**: a char[] of n known ints, each 0 to 255 -/
theorem backV {p : Program} {l : Launch} {e : Env} {R : Room} {s : State} {args : Array Value} {below : List Frame} {len W : Nat} {Z : State} {a0 : Array Value} {h : Heap} (hZ : Z.Warmed39 s.vm) (hw : ∀ d ∈ words, d.before a0 Z = true) {kI : Nat} (wi : (Jvm.Cond.instantiable ST kI).before a0 Z = true)
    {x b : Addr} {kC : ClassId} {cs bs : List Int32} {d v0 c0 : Value} {z N : Int32} {n n0 : Nat} (hx0 : n0 ≤ x) (hh0 : n0 ≤ h.size) (E : RoadKit.Exa Z h x ST) (V : RoadKit.Fld Z h x ST "value" "[B" v0) (C : RoadKit.Fld Z h x ST "coder" "B" c0) (K : RoadKit.Arv Z h b kC .char N (cs.map Value.int) d) (S : RoadKit.Sta Z h ST "COMPACT_STRINGS" "Z" (.int z)) (hz : ¬ z = 0)
    (hn : cs.length = n) (hN : N = Int32.ofNat n) (l0 : 0 < n) (l2 : n ≤ 4000) (hp : ∀ c ∈ cs, ¬ c < 0 ∧ ¬ (255 : Int32) < c) (hb : bs = cs.map (fun c => c.toInt8.toInt32)) (hfr : 4 ≤ R.frames) (hlo : W + 65 ≤ R.locals) :
    Back l R p e below s args (⟨"java/lang/String", "<init>", "([C)V"⟩ : MethodName) len W (fun P a => a = #[.ref x, .ref b] ∧ P.U.heap = h ∧ P.cells + 1 ≤ R.cells ∧ P.slots + n ≤ R.slots)
      (fun P _ v B => ∃ L, QV Z x N bs h n0 v B.U.heap L ∧ B.locs = P.locs ++ L ∧ B.cells = P.cells + 1 ∧ B.slots = P.slots + n) := by
  subst hn hN hb
  refine Back.mono (backArv hZ hw wi E V C K S hz (n32 (by omega)) l0 (by omega) (fun c hc => (hp c hc).2) hfr hlo) (fun P a hp => hp) (fun P a v B hp hq => ?_)
  obtain ⟨L, ⟨q1, q2, q3, q4, q5, q6, q7, ⟨kb, v1, v2⟩, q9⟩, hl, hc, hs⟩ := hq
  exact ⟨L, ⟨q1, fun y hy => by rw [q2 y hy]; exact hx0, q3, q5, q7, h.size, kb, hh0, Nat.le_refl _, Nat.ne_of_gt E.lt, q6, by rw [List.map_map]; exact v2⟩, hl, hc, hs⟩
end StrChars.Road
namespace StrChars
open Jvm Sem ClassFile Op Lib Jvm.Stand Jvm.Free.XT Jvm.Free.ALB Jvm.Free.JM Jvm.Free
open Jvm.Lib.Cold (StaticIs)
def hi8 (x : Int32) : Int32 := lo8 (x >>> ((8 : Int32) &&& 31))
/-- what StringUTF16.getChar makes of two bytes -/
def pairCh (u v : Int32) : Int32 := (((u &&& 255) <<< ((0 : Int32) &&& 31)) ||| ((v &&& 255) <<< ((8 : Int32) &&& 31))).toUInt32.toUInt16.toUInt32.toInt32
theorem shr0 (c : Int32) : c >>> ((0 : Int32) &&& 31) = c := by
  have e : ((0 : Int32) &&& 31) = 0 := by decide
  rw [e]
  apply Int32.toBitVec_inj.mp
  rw [Int32.toBitVec_shiftRight]
  have e1 : ((0 : Int32).toBitVec.smod 32) = 0#32 := by decide
  rw [e1, BitVec.sshiftRight_eq']
  exact BitVec.sshiftRight_zero
theorem lo8_and (x : Int32) : (lo8 x &&& 255).toBitVec.toNat = x.toBitVec.toNat % 256 := by
  have h : (lo8 x).toBitVec = (x.toBitVec.signExtend 8).signExtend 32 := by rw [lo8, Int8.toBitVec_toInt32, Int32.toBitVec_toInt8]
  rw [Int32.toBitVec_and, BitVec.toNat_and, h]
  have e : ((x.toBitVec.signExtend 8).signExtend 32).toNat % 256 = x.toBitVec.toNat % 256 := by
    rw [BitVec.toNat_signExtend]
    have hlt := x.toBitVec.isLt
    simp only [BitVec.toNat_setWidth, BitVec.toNat_signExtend]
    split <;> split <;> omega
  rw [← e]
  exact Nat.and_two_pow_sub_one_eq_mod _ 8
theorem pair_says {c : Int32} (h0 : ¬ c < 0) (h1 : ¬ 65535 < c) : pairCh (lo8 c) (hi8 c) = c := by
  rw [Int32.lt_iff_toInt_lt] at h0 h1
  have e0 : (0 : Int32).toInt = 0 := rfl
  have e1 : (65535 : Int32).toInt = 65535 := rfl
  have hc : c.toInt = c.toBitVec.toNat := by
    have := c.toBitVec.isLt
    have e : c.toInt = c.toBitVec.toInt := rfl
    rw [e] at h0 h1
    rw [e]
    rw [BitVec.toInt_eq_toNat_cond] at h0 h1 ⊢
    split at h0 <;> split <;> omega
  have hn : c.toBitVec.toNat < 65536 := by omega
  have a1 := lo8_and c
  have a2 : (hi8 c &&& 255).toBitVec.toNat = c.toBitVec.toNat / 256 := by
    rw [hi8, lo8_and]
    have e : ((8 : Int32) &&& 31) = 8 := by decide
    rw [e, Int32.toBitVec_shiftRight]
    have e2 : ((8 : Int32).toBitVec.smod 32) = 8#32 := by decide
    rw [e2, BitVec.sshiftRight_eq', BitVec.toNat_sshiftRight_of_msb_false (by rw [BitVec.msb_eq_false_iff_two_mul_lt]; omega)]
    show c.toBitVec.toNat >>> 8 % 256 = _
    rw [Nat.shiftRight_eq_div_pow]
    omega
  unfold pairCh
  apply Int32.toBitVec_inj.mp
  apply BitVec.eq_of_toNat_eq
  have f0 : ((0 : Int32) &&& 31) = 0 := by decide
  have f8 : ((8 : Int32) &&& 31) = 8 := by decide
  rw [f0, f8]
  have g : (((lo8 c &&& 255) <<< (0 : Int32)) ||| ((hi8 c &&& 255) <<< (8 : Int32))).toBitVec.toNat = c.toBitVec.toNat := by
    rw [Int32.toBitVec_or, Int32.toBitVec_shiftLeft, Int32.toBitVec_shiftLeft]
    have s0 : ((0 : Int32).toBitVec.smod 32) = 0#32 := by decide
    have s8 : ((8 : Int32).toBitVec.smod 32) = 8#32 := by decide
    rw [s0, s8, BitVec.toNat_or]
    simp only [BitVec.shiftLeft_eq', BitVec.toNat_shiftLeft, a1, a2]
    show (c.toBitVec.toNat % 256) <<< 0 % 2 ^ 32 ||| (c.toBitVec.toNat / 256) <<< 8 % 2 ^ 32 = _
    rw [Nat.shiftLeft_zero, Nat.mod_eq_of_lt (show c.toBitVec.toNat % 256 < 2 ^ 32 by omega), Nat.mod_eq_of_lt (show (c.toBitVec.toNat / 256) <<< 8 < 2 ^ 32 by rw [Nat.shiftLeft_eq]; omega), Nat.or_comm, ← Nat.shiftLeft_add_eq_or_of_lt (by omega), Nat.shiftLeft_eq]
    omega
  show BitVec.toNat (((((lo8 c &&& 255) <<< (0 : Int32)) ||| ((hi8 c &&& 255) <<< (8 : Int32))).toBitVec.setWidth 16).setWidth 32) = _
  rw [BitVec.toNat_setWidth, BitVec.toNat_setWidth, g]
  omega
end StrChars
namespace StrChars
open Jvm Sem ClassFile Op Lib Jvm.Stand Jvm.Free.XT Jvm.Free.ALB Jvm.Free.JM Jvm.Free
open Jvm.Lib.Cold (StaticIs)
theorem shr1 {n : Nat} (h : 2 * n < 2 ^ 31) : Int32.ofNat (2 * n) >>> ((1 : Int32) &&& 31) = Int32.ofNat n := by
  have e : ((1 : Int32) &&& 31) = 1 := by decide
  rw [e]
  apply Int32.toBitVec_inj.mp
  rw [Int32.toBitVec_shiftRight]
  have e1 : ((1 : Int32).toBitVec.smod 32) = 1#32 := by decide
  have hm : (BitVec.ofNat 32 (2 * n)).toNat = 2 * n := by rw [BitVec.toNat_ofNat, Nat.mod_eq_of_lt (by omega)]
  rw [e1, BitVec.sshiftRight_eq']
  apply BitVec.eq_of_toNat_eq
  show ((BitVec.ofNat 32 (2 * n)).sshiftRight 1).toNat = (BitVec.ofNat 32 n).toNat
  rw [BitVec.toNat_sshiftRight_of_msb_false (by rw [BitVec.msb_eq_false_iff_two_mul_lt, hm]; omega), hm, BitVec.toNat_ofNat, Nat.shiftRight_eq_div_pow]
  omega
/-- charAt's cast of a byte read back -/
def chr8 (u : Int32) : Int32 := (u &&& 255).toUInt32.toUInt16.toUInt32.toInt32
theorem chr8_lo8 {c : Int32} (h0 : ¬ c < 0) (h1 : ¬ 255 < c) : chr8 (lo8 c) = c := by
  have t : ∀ k : Fin 256, (Int32.ofNat k.val).toUInt32.toUInt16.toUInt32.toInt32 = Int32.ofNat k.val := by decide +kernel
  unfold chr8
  rw [lo8_mask h0 h1]
  rw [Int32.lt_iff_toInt_lt] at h0 h1
  have e0 : (0 : Int32).toInt = 0 := rfl
  have e1 : (255 : Int32).toInt = 255 := rfl
  obtain ⟨k, hk⟩ : ∃ k : Nat, c.toInt = k := ⟨c.toInt.toNat, by omega⟩
  have hx : c = Int32.ofNat k := Int32.toInt_inj.mp (by rw [hk, Int32.toInt_ofNat_small (by omega)])
  rw [hx]
  exact t ⟨k, by omega⟩
theorem narrow_ch {c : Int32} (h0 : ¬ c < 0) (h1 : ¬ 65535 < c) : narrow .char (.int c) = .int c := by
  have q : narrow .char (.int (pairCh (lo8 c) (hi8 c))) = .int (pairCh (lo8 c) (hi8 c)) := narrow_c _
  rwa [pair_says h0 h1] at q
/-- the array's cell V codes the n chars f 0 .. f (n - 1) by the coder cd, as the JDK does: coder 1 just where some char is above 255 -/
def Cod (cd : Int32) (n : Nat) (f : Nat → Int32) (V : Cell) : Prop := (cd = 0 ∧ V.slots.size = n ∧ ∀ j, j < n → V.slots[j]? = some (.int (lo8 (f j))) ∧ ¬ 255 < f j) ∨ (cd = 1 ∧ V.slots.size = 2 * n ∧ (∀ j, j < n → V.slots[2 * j]? = some (.int (lo8 (f j))) ∧ V.slots[2 * j + 1]? = some (.int (hi8 (f j)))) ∧ ∃ j, j < n ∧ 255 < f j)
theorem Cod.cd {cd : Int32} {n : Nat} {f : Nat → Int32} {V : Cell} (h : Cod cd n f V) : cd = 0 ∨ cd = 1 := h.imp (fun q => q.1) fun q => q.1
theorem Cod.len {cd : Int32} {n : Nat} {f : Nat → Int32} {V : Cell} (h : Cod cd n f V) (hs : V.slots.size < 2 ^ 31) : Int32.ofNat V.slots.size >>> (cd &&& 31) = Int32.ofNat n := by
  rcases h with ⟨rfl, h, -⟩ | ⟨rfl, h, -⟩
  · rw [shr0, h]
  · rw [h, shr1 (by omega)]
/-- **x is a String of the n chars f 0 .. f (n - 1)**, Latin-1 or UTF-16; its array at t has the cell V -/
def Txt (x t : Addr) (V : Cell) (cd : Int32) (n : Nat) (f : Nat → Int32) (U : State) : Prop := Exact "java/lang/String" x U ∧ Has x "java/lang/String" "value" "[B" (.ref t) U ∧ Has x "java/lang/String" "coder" "B" (.int cd) U ∧ XT.Arr .byte t V U ∧ Cod cd n f V ∧ ∀ j, j < n → ¬ f j < 0 ∧ ¬ 65535 < f j
theorem Txt.mv {x t : Addr} {V : Cell} {cd : Int32} {n : Nat} {f : Nat → Int32} {U U' : State} (h : Txt x t V cd n f U) (hal : U.vm.Alike U'.vm) (hh : U'.heap = U.heap) : Txt x t V cd n f U' := ⟨h.1.mv hal hh, h.2.1.mv hal hh, h.2.2.1.mv hal hh, h.2.2.2.1.mv hal hh, h.2.2.2.2⟩
namespace Cdr
def yN : MethodName := ⟨"java/lang/String", "coder", "()B"⟩
abbrev yB : ByteArray := jdk_42_method_152_code
theorem d0 : decode yB 0 = .ok (.getstatic 38, 3) := by decide +kernel
theorem d3 : decode yB 3 = .ok (.ifCond (.eq) 10, 3) := by decide +kernel
theorem d6 : decode yB 6 = .ok (.aload_n 0, 1) := by decide +kernel
theorem d7 : decode yB 7 = .ok (.getfield 15, 3) := by decide +kernel
theorem d10 : decode yB 10 = .ok (.goto 4, 3) := by decide +kernel
theorem d14 : decode yB 14 = .ok (.ireturn, 1) := by decide +kernel
def site : List Cond := [.fieldLink "java/lang/String" 38 "java/lang/String" "COMPACT_STRINGS" "Z", .fieldLink "java/lang/String" 15 "java/lang/String" "coder" "B"]
def tab : Cond := tabOf yN yB 1 (some .byte) site
def P (x : Addr) (cd z : Int32) (args : Array Value) (s : State) : Prop := args = #[.ref x] ∧ Has x "java/lang/String" "coder" "B" (.int cd) s ∧ (cd = 0 ∨ cd = 1) ∧ StaticIs s "java/lang/String" "COMPACT_STRINGS" "Z" (.int z) ∧ ¬ z = 0
def E (cd : Int32) (r : Option Value) (s u : State) : Prop := XT.PureE (some (.int cd)) r s u
theorem law (l : Launch) (x : Addr) (cd z : Int32) : Law l yN 1 0 0 0 yB 1 (some .byte) site (P x cd z) (E cd) [] 0 0 := by
  refine Law.of_walk (plainFor_of_name (by decide +kernel)) (by decide +kernel) (by decide +kernel) (by decide) (fun _ _ h => by rw [h.1]; rfl) (fun _ U U' hal hh h => ⟨h.1, h.2.1.mv hal hh, h.2.2.1, h.2.2.2.1.there hal hh, h.2.2.2.2⟩) (fun r U U' V V' h1 hal h2 h => XT.PureE.mv r U U' V V' h1 hal h2 h) ?_
  intro p e s m args below meth c s₁ X0 hexec hbytes hml hret hlk hnm hown hh0 W hP
  obtain ⟨rfl, hx, hc, s1, hz⟩ := hP
  have c1 : Steps p.tables e below (s₁.setTop (entryFrame m #[.ref x] 1)) (s₁.setTop (mkF m 0 #[.val (.ref x)] [])) := entry rfl
  obtain ⟨T2, X2, q2, st2⟩ := X0.sget hexec hown (wk W (.fieldLink "java/lang/String" 38 "java/lang/String" "COMPACT_STRINGS" "Z")) s1 (fun _ _ h => by rw [hh0]; exact h) (g := (mkF m 0 #[.val (.ref x)] [])) rfl (hb hbytes d0)
  have hh2 := q2.trans hh0
  have c3 : Steps p.tables e below (s₁.setTop (entryFrame m #[.ref x] 1)) (T2.setTop (mkF m 7 #[.val (.ref x)] [.ref x])) := (c1.trans (st2 _ (Steps.refl _))).trans (by
    refine XS.ifNo X2.here hexec rfl (hb hbytes d3) rfl (i0_eq_f hz) ?_
    refine XS.aloadN X2.here hexec rfl (hb hbytes d6) rfl rfl ?_
    exact Steps.refl _)
  obtain ⟨T4, X4, q4, st4⟩ := X2.hget hexec hown (wk W (.fieldLink "java/lang/String" 15 "java/lang/String" "coder" "B")) (hx.mv X2.warmed.alike hh2) (g := (mkF m 7 #[.val (.ref x)] [.ref x])) rfl (rest := []) rfl (hb hbytes d7)
  have c5 : Steps p.tables e below (s₁.setTop (entryFrame m #[.ref x] 1)) (T4.setTop (mkF m 14 #[.val (.ref x)] [.int cd])) := (c3.trans (st4 _ (Steps.refl _))).trans (by
    refine XS.goto X4.here hexec rfl (pc0 := 10) rfl (hb hbytes d10) (by decide) rfl ?_
    exact Steps.refl _)
  exact ⟨T4, some (.int cd), _, _, _, X4, rfl, rfl, rfl, (fun h => by cases h), ⟨rfl, q4.trans hh2⟩, fun fs hl => c5.trans (X4.ireturnOut hexec hret (by rcases hc with rfl | rfl <;> rfl) (Or.inr (Or.inr (Or.inl rfl))) (hb hbytes d14) hl)⟩
end Cdr
namespace Len
def yN : MethodName := ⟨"java/lang/String", "length", "()I"⟩
abbrev yB : ByteArray := jdk_42_method_54_code
theorem d0 : decode yB 0 = .ok (.aload_n 0, 1) := by decide +kernel
theorem d1 : decode yB 1 = .ok (.getfield 9, 3) := by decide +kernel
theorem d4 : decode yB 4 = .ok (.arraylength, 1) := by decide +kernel
theorem d5 : decode yB 5 = .ok (.aload_n 0, 1) := by decide +kernel
theorem d6 : decode yB 6 = .ok (.invokevirtual 335, 3) := by decide +kernel
theorem d9 : decode yB 9 = .ok (.ishr, 1) := by decide +kernel
theorem d10 : decode yB 10 = .ok (.ireturn, 1) := by decide +kernel
def site : List Cond := [.fieldLink "java/lang/String" 9 "java/lang/String" "value" "[B", Cdr.tab] ++ virtW "java/lang/String" 335 "java/lang/String" Cdr.yN Cdr.yN
def tab : Cond := tabOf yN yB 1 (some .int) site
def P (x t : Addr) (V : Cell) (cd : Int32) (n : Nat) (f : Nat → Int32) (z : Int32) (args : Array Value) (s : State) : Prop := args = #[.ref x] ∧ Txt x t V cd n f s ∧ StaticIs s "java/lang/String" "COMPACT_STRINGS" "Z" (.int z) ∧ ¬ z = 0
def E (n : Nat) (r : Option Value) (s u : State) : Prop := XT.PureE (some (.int (Int32.ofNat n))) r s u
/-- length() of a String of n chars, in either coding -/
theorem law (l : Launch) (x t : Addr) (V : Cell) (cd : Int32) (n : Nat) (f : Nat → Int32) (z : Int32) : Law l yN 1 0 1 13 yB 1 (some .int) site (P x t V cd n f z) (E n) [] 0 0 := by
  refine Law.of_walk (plainFor_of_name (by decide +kernel)) (by decide +kernel) (by decide +kernel) (by decide) (fun _ _ h => by rw [h.1]; rfl) (fun _ U U' hal hh h => ⟨h.1, h.2.1.mv hal hh, h.2.2.1.there hal hh, h.2.2.2⟩) (fun r U U' V V' h1 hal h2 h => XT.PureE.mv r U U' V V' h1 hal h2 h) ?_
  intro p e s m args below meth c s₁ X0 hexec hbytes hml hret hlk hnm hown hh0 W hP
  obtain ⟨rfl, hx, s1, hz⟩ := hP
  have v31 := hx.2.2.2.1.2.2.2
  have c1 : Steps p.tables e below (s₁.setTop (entryFrame m #[.ref x] 1)) (s₁.setTop (mkF m 1 #[.val (.ref x)] [.ref x])) := Steps.trans (entry rfl) (by
    show Steps p.tables e below (s₁.setTop (mkF m 0 #[.val (.ref x)] [])) _
    refine XS.aloadN X0.here hexec rfl (hb hbytes d0) rfl rfl ?_
    exact Steps.refl _)
  obtain ⟨T2, X2, q2, st2⟩ := X0.hget hexec hown (wk W (.fieldLink "java/lang/String" 9 "java/lang/String" "value" "[B")) (hx.mv X0.warmed.alike hh0).2.1 (g := (mkF m 1 #[.val (.ref x)] [.ref x])) rfl (rest := []) rfl (hb hbytes d1)
  have hh2 := q2.trans hh0
  have hx2 := hx.mv X2.warmed.alike hh2
  have c3 : Steps p.tables e below (s₁.setTop (entryFrame m #[.ref x] 1)) (T2.setTop (mkF m 6 #[.val (.ref x)] [.ref x, .int (Int32.ofNat V.slots.size)])) := (c1.trans (st2 _ (Steps.refl _))).trans (by
    refine X2.alen hexec hx2.2.2.2.1 rfl rfl (hb hbytes d4) ?_
    refine XS.aloadN X2.here hexec rfl (hb hbytes d5) rfl rfl ?_
    exact Steps.refl _)
  obtain ⟨v4, T4, X4, E4, g4⟩ := X2.callV hexec (Cdr.law l x cd z) hown (wks W (virtW "java/lang/String" 335 "java/lang/String" Cdr.yN Cdr.yN)) rfl (by decide) (wk W Cdr.tab) (W := 1) (Nat.le_of_ble_eq_true rfl) (Nat.le_of_ble_eq_true rfl) (Nat.le_refl _) (Nat.le_refl _) (hx2.1.fc X2.warmed.alike) hx2.1.is (g := (mkF m 6 #[.val (.ref x)] [.ref x, .int (Int32.ofNat V.slots.size)])) rfl (by rw [hml]; rfl) c3 (argsL := []) (rest := [.int (Int32.ofNat V.slots.size)]) rfl rfl (by show 2 * 0 + (1 + 0) ≤ _; decide) (hb hbytes d6) (⟨rfl, hx2.2.2.1, hx.2.2.2.2.1.cd, s1.there X2.warmed.alike hh2, hz⟩)
  obtain ⟨rfl, q4⟩ := E4
  have c5 : Steps p.tables e below (s₁.setTop (entryFrame m #[.ref x] 1)) (T4.setTop (mkF m 10 #[.val (.ref x)] [.int (Int32.ofNat V.slots.size >>> (cd &&& 31))])) := Steps.trans g4 (by
    refine ishr X4.here hexec rfl (hb hbytes d9) rfl ?_
    exact Steps.refl _)
  rw [hx.2.2.2.2.1.len v31] at c5
  exact ⟨T4, some (.int (Int32.ofNat n)), _, _, _, X4, rfl, rfl, rfl, (fun h => by cases h), ⟨rfl, q4.trans hh2⟩, fun fs hl => c5.trans (X4.ireturnOut hexec hret rfl (Or.inl rfl) (hb hbytes d10) hl)⟩
theorem pays {l : Launch} {R : Room} {p : Program} {e : Env} {below : List Frame} {s : State} {sargs : Array Value} {len W : Nat} (x t : Addr) (V : Cell) (cd : Int32) (n : Nat) (f : Nat → Int32) (z : Int32) (htab : tab.before sargs s = true) (hfr : 2 ≤ R.frames) (hlo : W + 25 ≤ R.locals) :
    Back l R p e below s sargs yN len W (fun A₁ a₁ => A₁.cells + 0 ≤ R.cells ∧ A₁.slots + 0 ≤ R.slots ∧ P x t V cd n f z a₁ A₁.U) (fun A₁ _ v₁ B₁ => E n v₁ A₁.U B₁.U ∧ B₁.locs = A₁.locs ++ [] ∧ B₁.cells = A₁.cells + 0 ∧ B₁.slots = A₁.slots + 0) :=
  (law l x t V cd n f z).pays htab hfr (by omega)
end Len
namespace IsL
def yN : MethodName := ⟨"java/lang/String", "isLatin1", "()Z"⟩
abbrev yB : ByteArray := jdk_42_method_154_code
theorem d0 : decode yB 0 = .ok (.getstatic 38, 3) := by decide +kernel
theorem d3 : decode yB 3 = .ok (.ifCond (.eq) 14, 3) := by decide +kernel
theorem d6 : decode yB 6 = .ok (.aload_n 0, 1) := by decide +kernel
theorem d7 : decode yB 7 = .ok (.getfield 15, 3) := by decide +kernel
theorem d10 : decode yB 10 = .ok (.ifCond (.ne) 7, 3) := by decide +kernel
theorem d13 : decode yB 13 = .ok (.iconst 1, 1) := by decide +kernel
theorem d14 : decode yB 14 = .ok (.goto 4, 3) := by decide +kernel
theorem d17 : decode yB 17 = .ok (.iconst 0, 1) := by decide +kernel
theorem d18 : decode yB 18 = .ok (.ireturn, 1) := by decide +kernel
def site : List Cond := [.fieldLink "java/lang/String" 38 "java/lang/String" "COMPACT_STRINGS" "Z", .fieldLink "java/lang/String" 15 "java/lang/String" "coder" "B"]
def tab : Cond := tabOf yN yB 1 (some .boolean) site
def P (x : Addr) (cd z : Int32) (args : Array Value) (s : State) : Prop := args = #[.ref x] ∧ Has x "java/lang/String" "coder" "B" (.int cd) s ∧ (cd = 0 ∨ cd = 1) ∧ StaticIs s "java/lang/String" "COMPACT_STRINGS" "Z" (.int z) ∧ ¬ z = 0
def E (cd : Int32) (r : Option Value) (s u : State) : Prop := XT.PureE (some (.int (1 - cd))) r s u
theorem law (l : Launch) (x : Addr) (cd z : Int32) : Law l yN 1 0 0 0 yB 1 (some .boolean) site (P x cd z) (E cd) [] 0 0 := by
  refine Law.of_walk (plainFor_of_name (by decide +kernel)) (by decide +kernel) (by decide +kernel) (by decide) (fun _ _ h => by rw [h.1]; rfl) (fun _ U U' hal hh h => ⟨h.1, h.2.1.mv hal hh, h.2.2.1, h.2.2.2.1.there hal hh, h.2.2.2.2⟩) (fun r U U' V V' h1 hal h2 h => XT.PureE.mv r U U' V V' h1 hal h2 h) ?_
  intro p e s m args below meth c s₁ X0 hexec hbytes hml hret hlk hnm hown hh0 W hP
  obtain ⟨rfl, hx, hc, s1, hz⟩ := hP
  have c1 : Steps p.tables e below (s₁.setTop (entryFrame m #[.ref x] 1)) (s₁.setTop (mkF m 0 #[.val (.ref x)] [])) := entry rfl
  obtain ⟨T2, X2, q2, st2⟩ := X0.sget hexec hown (wk W (.fieldLink "java/lang/String" 38 "java/lang/String" "COMPACT_STRINGS" "Z")) s1 (fun _ _ h => by rw [hh0]; exact h) (g := (mkF m 0 #[.val (.ref x)] [])) rfl (hb hbytes d0)
  have hh2 := q2.trans hh0
  have c3 : Steps p.tables e below (s₁.setTop (entryFrame m #[.ref x] 1)) (T2.setTop (mkF m 7 #[.val (.ref x)] [.ref x])) := (c1.trans (st2 _ (Steps.refl _))).trans (by
    refine XS.ifNo X2.here hexec rfl (hb hbytes d3) rfl (i0_eq_f hz) ?_
    refine XS.aloadN X2.here hexec rfl (hb hbytes d6) rfl rfl ?_
    exact Steps.refl _)
  obtain ⟨T4, X4, q4, st4⟩ := X2.hget hexec hown (wk W (.fieldLink "java/lang/String" 15 "java/lang/String" "coder" "B")) (hx.mv X2.warmed.alike hh2) (g := (mkF m 7 #[.val (.ref x)] [.ref x])) rfl (rest := []) rfl (hb hbytes d7)
  have c5 : Steps p.tables e below (s₁.setTop (entryFrame m #[.ref x] 1)) (T4.setTop (mkF m 10 #[.val (.ref x)] [.int cd])) := c3.trans (st4 _ (Steps.refl _))
  have c6 : Steps p.tables e below (s₁.setTop (entryFrame m #[.ref x] 1)) (T4.setTop (mkF m 18 #[.val (.ref x)] [.int (1 - cd)])) := by
    rcases hc with rfl | rfl
    · exact c5.trans (by
        refine XS.ifNo X4.here hexec rfl (hb hbytes d10) rfl (i0_ne_f rfl) ?_
        refine iconstV X4.here hexec rfl 1 (hb hbytes d13) (by decide) ?_
        refine XS.goto X4.here hexec rfl (pc0 := 14) rfl (hb hbytes d14) (by decide) rfl ?_
        exact Steps.refl _)
    · exact c5.trans (by
        refine XS.ifYes X4.here hexec rfl (pc0 := 10) rfl (hb hbytes d10) rfl (i0_ne_t (by decide)) (by decide) rfl ?_
        refine iconstV X4.here hexec rfl 0 (hb hbytes d17) (by decide) ?_
        exact Steps.refl _)
  exact ⟨T4, some (.int (1 - cd)), _, _, _, X4, rfl, rfl, rfl, (fun h => by cases h), ⟨rfl, q4.trans hh2⟩, fun fs hl => c6.trans (X4.ireturnOut hexec hret (by rcases hc with rfl | rfl <;> rfl) (Or.inr (Or.inl rfl)) (hb hbytes d18) hl)⟩
end IsL
namespace LChA
def yN : MethodName := ⟨"java/lang/StringLatin1", "charAt", "([BI)C"⟩
abbrev yB : ByteArray := jdk_43_method_2_code
theorem d0 : decode yB 0 = .ok (.iload_n 1, 1) := by decide +kernel
theorem d1 : decode yB 1 = .ok (.aload_n 0, 1) := by decide +kernel
theorem d2 : decode yB 2 = .ok (.arraylength, 1) := by decide +kernel
theorem d3 : decode yB 3 = .ok (.invokestatic 9, 3) := by decide +kernel
theorem d6 : decode yB 6 = .ok (.aload_n 0, 1) := by decide +kernel
theorem d7 : decode yB 7 = .ok (.iload_n 1, 1) := by decide +kernel
theorem d8 : decode yB 8 = .ok (.baload, 1) := by decide +kernel
theorem d9 : decode yB 9 = .ok (.sipush 255, 3) := by decide +kernel
theorem d12 : decode yB 12 = .ok (.iand, 1) := by decide +kernel
theorem d13 : decode yB 13 = .ok (.i2c, 1) := by decide +kernel
theorem d14 : decode yB 14 = .ok (.ireturn, 1) := by decide +kernel
def site : List Cond := [JO.Str_checkIndex.tab] ++ staticW "java/lang/StringLatin1" 9 JO.Str_checkIndex.yN
def tab : Cond := tabOf yN yB 2 (some .char) site
def P (t : Addr) (V : Cell) (i : Nat) (u : Int32) (fm : Value) (args : Array Value) (s : State) : Prop := args = #[.ref t, .int (Int32.ofNat i)] ∧ XT.Arr .byte t V s ∧ V.slots[i]? = some (.int u) ∧ (StaticIs s "jdk/internal/util/Preconditions" "SIOOBE_FORMATTER" "Ljava/util/function/BiFunction;" fm ∧ fm.isRef = true)
def E (u : Int32) (r : Option Value) (s w : State) : Prop := XT.PureE (some (.int (chr8 u))) r s w
theorem law (l : Launch) (t : Addr) (V : Cell) (i : Nat) (u : Int32) (fm : Value) : Law l yN 2 2 2 27 yB 2 (some .char) site (P t V i u fm) (E u) [] 0 0 := by
  refine Law.of_walk (plainFor_of_name (by decide +kernel)) (by decide +kernel) (by decide +kernel) (by decide) (fun _ _ h => by rw [h.1]; rfl) (fun _ U U' hal hh h => ⟨h.1, h.2.1.mv hal hh, h.2.2.1, h.2.2.2.1.there hal hh, h.2.2.2.2⟩) (fun r U U' V V' h1 hal h2 h => XT.PureE.mv r U U' V V' h1 hal h2 h) ?_
  intro p e s m args below meth c s₁ X0 hexec hbytes hml hret hlk hnm hown hh0 W hP
  obtain ⟨rfl, hV, hu, s1, rf⟩ := hP
  have v31 := hV.2.2.2
  have hi : i < V.slots.size := (Array.getElem?_eq_some_iff.mp hu).1
  have c1 : Steps p.tables e below (s₁.setTop (entryFrame m #[.ref t, .int (Int32.ofNat i)] 2)) (s₁.setTop (mkF m 0 #[.val (.ref t), .val (.int (Int32.ofNat i))] [])) := entry rfl
  have c2 : Steps p.tables e below (s₁.setTop (entryFrame m #[.ref t, .int (Int32.ofNat i)] 2)) (s₁.setTop (mkF m 3 #[.val (.ref t), .val (.int (Int32.ofNat i))] [.int (Int32.ofNat V.slots.size), .int (Int32.ofNat i)])) := c1.trans (by
    refine XS.iloadN X0.here hexec rfl (hb hbytes d0) rfl ?_
    refine XS.aloadN X0.here hexec rfl (hb hbytes d1) rfl rfl ?_
    refine X0.alen hexec (hV.mv X0.warmed.alike hh0) rfl rfl (hb hbytes d2) ?_
    exact Steps.refl _)
  obtain ⟨v3, T3, X3, E3, g3⟩ := X0.callS hexec (JO.Str_checkIndex.law l (Int32.ofNat i) (Int32.ofNat V.slots.size) fm) hown (wks W (staticW "java/lang/StringLatin1" 9 JO.Str_checkIndex.yN)) (wk W JO.Str_checkIndex.tab) (W := 0) (Nat.le_of_ble_eq_true rfl) (Nat.le_of_ble_eq_true rfl) (Nat.le_refl _) (Nat.le_refl _) (g := (mkF m 3 #[.val (.ref t), .val (.int (Int32.ofNat i))] [.int (Int32.ofNat V.slots.size), .int (Int32.ofNat i)])) rfl (by rw [hml]; rfl) c2 (argsL := [.int (Int32.ofNat i), .int (Int32.ofNat V.slots.size)]) (rest := []) rfl rfl (by show 2 * 0 + 0 ≤ _; decide) (hb hbytes d3) (⟨rfl, rf, s1.there X0.warmed.alike hh0, Int32.ofNat_not_neg (by omega), lt32 v31 hi⟩)
  obtain ⟨rfl, q3⟩ := E3
  have hh3 := q3.trans hh0
  have c4 : Steps p.tables e below (s₁.setTop (entryFrame m #[.ref t, .int (Int32.ofNat i)] 2)) (T3.setTop (mkF m 14 #[.val (.ref t), .val (.int (Int32.ofNat i))] [.int (chr8 u)])) := Steps.trans g3 (by
    refine XS.aloadN X3.here hexec rfl (hb hbytes d6) rfl rfl ?_
    refine XS.iloadN X3.here hexec rfl (hb hbytes d7) rfl ?_
    refine X3.aget hexec (hV.mv X3.warmed.alike hh3) rfl hu rfl rfl (hb hbytes d8) ?_
    refine sipushV X3.here hexec rfl 255 (hb hbytes d9) (by decide) ?_
    refine XS.iand X3.here hexec rfl (hb hbytes d12) rfl ?_
    refine i2c X3.here hexec rfl (hb hbytes d13) rfl ?_
    exact Steps.refl _)
  exact ⟨T3, some (.int (chr8 u)), _, _, _, X3, rfl, rfl, rfl, (fun h => by cases h), ⟨rfl, hh3⟩, fun fs hl => c4.trans (X3.ireturnOut hexec hret (narrow_c _) (Or.inr (Or.inr (Or.inr (Or.inl rfl)))) (hb hbytes d14) hl)⟩
end LChA
end StrChars
namespace StrChars.Road
open Jvm Sem ClassFile Op Lib Jvm.Stand Jvm.Free Jvm.Free.XT
open Jvm.Lib.Cold (StaticIs)
theorem consq {a : Array Value} {s : State} {c : Jvm.Cond} {L : List Jvm.Cond} (h0 : c.before a s = true) (h : ∀ w ∈ L, w.before a s = true) : ∀ w ∈ c :: L, w.before a s = true := fun w hw => (List.mem_cons.mp hw).elim (fun e => e ▸ h0) (h w)
/-- the words of String.length(), either coding -/
abbrev wordsLen : List Jvm.Cond := [.code Len.yN Len.yB 1 (some .int), .initialized ST, .fieldLink ST 9 ST "value" "[B", .fieldLink ST 38 ST "COMPACT_STRINGS" "Z", .fieldLink ST 15 ST "coder" "B", .code Cdr.yN Cdr.yB 1 (some .byte), .methodLink ST 335 Cdr.yN, .declares Cdr.yN, .selects ST Cdr.yN Cdr.yN, .instanceMethod Cdr.yN]
theorem tabLen_of {a : Array Value} {s : State} (h : ∀ w ∈ wordsLen, w.before a s = true) : Len.tab.before a s = true := by
  have hc : Cdr.tab.before a s = true := unparts (wk h (.code Cdr.yN Cdr.yB 1 (some .byte))) (wks h (.initialized Cdr.yN.cls :: Cdr.site))
  have q := consq hc h
  exact unparts (wk q (.code Len.yN Len.yB 1 (some .int))) (wks q (.initialized Len.yN.cls :: Len.site))
theorem movedLen {Z s : State} {a0 args : Array Value} (hZ : Z.Warmed39 s.vm) (hw : ∀ d ∈ wordsLen, d.before a0 Z = true) : ∀ d ∈ wordsLen, d.before args s = true := fun d hd => by
  have q := hw d hd
  have t : ∀ d ∈ wordsLen, d = .arrayClass .byte ∨ (d.onTables && d.keepsFace) = true := by decide +kernel
  rcases t d hd with rfl | t
  · exact RoadKit.mvA hZ q
  · exact RoadKit.mv hZ q t
/-- the bytes of the chars cs, low before high -/
def wideBytes : List Int32 → List Value
  | [] => []
  | c :: cs => .int (lo8 c) :: .int (hi8 c) :: wideBytes cs
theorem wide_lo (d : Value) : ∀ (cs : List Int32) (j : Nat), j < cs.length → (wideBytes cs).getD (2 * j) d = .int (lo8 (cs.getD j 0))
  | [], j, h => absurd h (Nat.not_lt_zero j)
  | c :: cs, 0, _ => rfl
  | c :: cs, j + 1, h => by
    have q := wide_lo d cs j (by simpa using h)
    rw [show 2 * (j + 1) = 2 * j + 1 + 1 from by omega]
    simpa [wideBytes] using q
theorem wide_hi (d : Value) : ∀ (cs : List Int32) (j : Nat), j < cs.length → (wideBytes cs).getD (2 * j + 1) d = .int (hi8 (cs.getD j 0))
  | [], j, h => absurd h (Nat.not_lt_zero j)
  | c :: cs, 0, _ => rfl
  | c :: cs, j + 1, h => by
    have q := wide_hi d cs j (by simpa using h)
    rw [show 2 * (j + 1) + 1 = 2 * j + 1 + 1 + 1 from by omega]
    simpa [wideBytes] using q
theorem low_at (d : Value) (cs : List Int32) (j : Nat) (h : j < cs.length) : (cs.map fun c => Value.int (lo8 c)).getD j d = .int (lo8 (cs.getD j 0)) := by
  simp [List.getD_eq_getElem?_getD, h]
/-- an array of N2 bytes vs codes the chars cs by the coder cd -/
def CodA (cs : List Int32) (cd N2 : Int32) (vs : List Value) : Prop := (cd = 0 ∧ N2 = Int32.ofNat cs.length ∧ vs = (cs.map fun c => Value.int (lo8 c)) ∧ ∀ c ∈ cs, ¬ 255 < c) ∨ (cd = 1 ∧ N2 = Int32.ofNat (2 * cs.length) ∧ vs = wideBytes cs ∧ ∃ c ∈ cs, 255 < c)
theorem CodA.cod {cs : List Int32} {cd N2 : Int32} {vs : List Value} {V : Cell} (h : CodA cs cd N2 vs) (hn : 2 * cs.length < 2 ^ 31) (hs : V.slots.size = N2.toNatClampNeg) (hv : RoadKit.Has V vs (.int 0)) : Cod cd cs.length (fun j => cs.getD j 0) V := by
  rcases h with ⟨rfl, rfl, rfl, h⟩ | ⟨rfl, rfl, rfl, c, hc, hw⟩
  · rw [n32 (by omega)] at hs
    exact Or.inl ⟨rfl, hs, fun j hj => ⟨by rw [hv j (by omega), low_at _ _ _ hj], by
      have e : cs.getD j 0 = cs[j] := by simp [List.getD_eq_getElem?_getD, hj]
      show ¬ 255 < cs.getD j 0
      rw [e]; exact h _ (List.getElem_mem _)⟩⟩
  · rw [n32 (by omega)] at hs
    obtain ⟨j, hj, rfl⟩ := List.getElem_of_mem hc
    exact Or.inr ⟨rfl, hs, fun j hj => ⟨by rw [hv _ (by omega), wide_lo _ _ _ hj], by rw [hv _ (by omega), wide_hi _ _ _ hj]⟩, j, hj, by
      have e : cs.getD j 0 = cs[j] := by simp [List.getD_eq_getElem?_getD, hj]
      show 255 < cs.getD j 0
      rw [e]; exact hw⟩
/-- an object of exactly java/lang/String, its two fields found: as the laws ask it -/
theorem strObj {Z U : State} {a0 : Array Value} {kI : Nat} (wi : (Jvm.Cond.instantiable ST kI).before a0 Z = true) (al : Z.vm.Alike U.vm) {x : Addr} {v0 c0 : Value} (E : RoadKit.Exa Z U.heap x ST) (V : RoadKit.Fld Z U.heap x ST "value" "[B" v0) (C : RoadKit.Fld Z U.heap x ST "coder" "B" c0) :
    ∃ (D : Cell) (fV fC : Field), Blank ST x D U ∧ Found ST "value" "[B" fV U ∧ Found ST "coder" "B" fC U ∧ D.slots[fV.slot]? = some v0 ∧ D.slots[fC.slot]? = some c0 ∧ RoadKit.slotOf Z ST "value" "[B" = fV.slot ∧ RoadKit.slotOf Z ST "coder" "B" = fC.slot := by
  obtain ⟨D, cfV, kV, iV, fV, hD, gV, stV, knV, obV, asV, slV⟩ := V
  obtain ⟨D', cfC, kC, iC, fC, hD', gC, stC, -, -, asC, slC⟩ := C
  cases hD.symm.trans hD'
  obtain ⟨D2, kD, e1, e2, e3, e4, e5⟩ := E
  cases hD.symm.trans e1
  obtain ⟨c2, k2, i1, i2, i3, -⟩ := Cond.instantiable_spec wi
  cases e2.symm.trans i1
  cases e3.symm.trans i2
  obtain ⟨kU, u1, u2⟩ := al.2.2 _ _ e3
  exact ⟨D, fV, fC, ⟨hD, ⟨knV, fun q hq => by rw [hq] at obV; cases obV⟩, by rw [al.findClass]; exact e2, kU, u1, by rw [u2]; exact i3, by rw [u2]; exact e5 i3⟩, ⟨SBG.found_only al ⟨cfV, kV, iV, gV⟩, stV⟩, ⟨SBG.found_only al ⟨cfC, kC, iC, gC⟩, stC⟩, slV, slC, by simp [RoadKit.slotOf, gV], by simp [RoadKit.slotOf, gC]⟩
theorem sta_is {Z U : State} (al : Z.vm.Alike U.vm) {C n d : String} {v : Value} (S : RoadKit.Sta Z U.heap C n d v) : StaticIs U C n d v := by
  obtain ⟨cfS, iS, kS, fS, st, cS, t1, t2, t3, t4, t5, t6, t7⟩ := S
  exact StaticIs.there (s := { Z with heap := U.heap }) ⟨cfS, iS, kS, fS, st, cS, t1, t2, t3, t4, t5, (fun q => by rw [q] at t6; cases t6), t7⟩ al rfl
/-- **length() OF SUCH A STRING** -/
theorem lenW {p : Program} {l : Launch} {e : Env} {R : Room} {s : State} {args : Array Value} {below : List Frame} {len W : Nat} {Z : State} {a0 : Array Value} {h : Heap} (hZ : Z.Warmed39 s.vm) (hw : ∀ d ∈ wordsLen, d.before a0 Z = true) {kI : Nat} (wi : (Jvm.Cond.instantiable ST kI).before a0 Z = true)
    {x t : Addr} {kb : ClassId} {cs : List Int32} {cd N2 z : Int32} {vs : List Value} (E : RoadKit.Exa Z h x ST) (V : RoadKit.Fld Z h x ST "value" "[B" (.ref t)) (C : RoadKit.Fld Z h x ST "coder" "B" (.int cd)) (K : RoadKit.Arv Z h t kb .byte N2 vs (.int 0)) (hc : CodA cs cd N2 vs) (hb : ∀ c ∈ cs, ¬ c < 0 ∧ ¬ (65535 : Int32) < c)
    (S : RoadKit.Sta Z h ST "COMPACT_STRINGS" "Z" (.int z)) (hz : ¬ z = 0) (l2 : cs.length ≤ 4000) (hfr : 2 ≤ R.frames) (hlo : W + 25 ≤ R.locals) :
    Back l R p e below s args (⟨"java/lang/String", "length", "()I"⟩ : MethodName) len W (fun P a => a = #[.ref x] ∧ P.U.heap = h ∧ P.cells + 0 ≤ R.cells ∧ P.slots + 0 ≤ R.slots)
      (fun P _ v B => ∃ L, (v = some (.int (Int32.ofNat cs.length)) ∧ L = [] ∧ B.U.heap = h) ∧ B.locs = P.locs ++ L ∧ B.cells = P.cells + 0 ∧ B.slots = P.slots + 0) := by
  obtain ⟨A, K1, K2, K3, K4, K5, K6⟩ := K
  have hcod := hc.cod (by omega) K3 K5
  intro m meth c P g ig mk a X hg hsize hdg hW hn hp'
  obtain ⟨rfl, rfl, r1, r2⟩ := hp'
  have al : Z.vm.Alike P.U.vm := hZ.alike.trans X.warmed.alike
  obtain ⟨D, fV, fC, hB, F1, F2, g1, g2, -, -⟩ := strObj wi al E V C
  have hx : Txt x t A cd cs.length (fun j => cs.getD j 0) P.U := ⟨⟨_, hB.2.2.1, D, hB.1, rfl, by cases q : D.vm <;> first | rfl | exact absurd q (hB.2.1.2 _)⟩, Has.of hB F1 g1, Has.of hB F2 g2, ⟨K1.1, State.isArrayOf_alike al K1.2.1, K1.2.2, by rcases hcod with ⟨-, q, -⟩ | ⟨-, q, -⟩ <;> omega⟩, hcod, fun j hj => by
    have e : cs.getD j 0 = cs[j] := by simp [List.getD_eq_getElem?_getD, hj]
    show ¬ cs.getD j 0 < 0 ∧ ¬ 65535 < cs.getD j 0
    rw [e]; exact hb _ (List.getElem_mem _)⟩
  obtain ⟨v, B, X', ⟨⟨hv, hh⟩, hl, hk, hs⟩, st⟩ := Len.pays x t A cd cs.length (fun j => cs.getD j 0) z (tabLen_of (movedLen hZ hw)) hfr hlo m meth c P g ig mk _ X hg hsize hdg hW hn ⟨r1, r2, rfl, hx, sta_is al S, hz⟩
  exact ⟨v, B, X', ⟨[], ⟨hv, rfl, hh⟩, hl, hk, hs⟩, st⟩
end StrChars.Road
namespace StrChars
open Jvm Sem ClassFile Op Lib Jvm.Stand Jvm.Free.XT Jvm.Free.ALB Jvm.Free.JM Jvm.Free
open Jvm.Lib.Cold (StaticIs)
/-- what place i of a byte[]'s cell holds -/
def yv (A : Cell) (i : Nat) : Int32 := match A.slots[i]? with | some (.int x) => x | _ => 0
theorem yv_get {a : Addr} {A : Cell} {U : State} (h : XT.Arr .byte a A U) (ht : Typed .byte A) {i : Nat} (hi : i < A.slots.size) : A.slots[i]? = some (.int (yv A i)) := by
  have e := Array.getElem?_eq_getElem hi
  have f := ht i _ e
  unfold yv; rw [e]
  generalize A.slots[i] = v at f
  cases v <;> simp [fits] at f ⊢
/-- the two arrays are equal, place for place -/
def EqC (A B : Cell) : Prop := A.slots.size = B.slots.size ∧ ∀ i, i < A.slots.size → yv A i = yv B i
/-- a boolean that says whether p -/
def Says01 (q : Prop) (r : Option Value) (s u : State) : Prop := ∃ v : Int32, r = some (.int v) ∧ u.heap = s.heap ∧ ((v = 1 ∧ q) ∨ (v = 0 ∧ ¬ q))
theorem Says01.mv {q : Prop} : ∀ r (U U' V V' : State), U'.heap = U.heap → V.vm.Alike V'.vm → V'.heap = V.heap → Says01 q r U V → Says01 q r U' V' :=
  fun r U U' V V' h1 _ h2 ⟨v, a, b, c⟩ => ⟨v, a, by rw [h1, h2]; exact b, c⟩
namespace LEq
def yN : MethodName := ⟨"java/lang/StringLatin1", "equals", "([B[B)Z"⟩
abbrev yB : ByteArray := jdk_43_method_13_code
theorem d0 : decode yB 0 = .ok (.aload_n 0, 1) := by decide +kernel
theorem d1 : decode yB 1 = .ok (.arraylength, 1) := by decide +kernel
theorem d2 : decode yB 2 = .ok (.aload_n 1, 1) := by decide +kernel
theorem d3 : decode yB 3 = .ok (.arraylength, 1) := by decide +kernel
theorem d4 : decode yB 4 = .ok (.if_icmp (.ne) 30, 3) := by decide +kernel
theorem d7 : decode yB 7 = .ok (.iconst 0, 1) := by decide +kernel
theorem d8 : decode yB 8 = .ok (.istore_n 2, 1) := by decide +kernel
theorem d9 : decode yB 9 = .ok (.iload_n 2, 1) := by decide +kernel
theorem d10 : decode yB 10 = .ok (.aload_n 0, 1) := by decide +kernel
theorem d11 : decode yB 11 = .ok (.arraylength, 1) := by decide +kernel
theorem d12 : decode yB 12 = .ok (.if_icmp (.ge) 20, 3) := by decide +kernel
theorem d15 : decode yB 15 = .ok (.aload_n 0, 1) := by decide +kernel
theorem d16 : decode yB 16 = .ok (.iload_n 2, 1) := by decide +kernel
theorem d17 : decode yB 17 = .ok (.baload, 1) := by decide +kernel
theorem d18 : decode yB 18 = .ok (.aload_n 1, 1) := by decide +kernel
theorem d19 : decode yB 19 = .ok (.iload_n 2, 1) := by decide +kernel
theorem d20 : decode yB 20 = .ok (.baload, 1) := by decide +kernel
theorem d21 : decode yB 21 = .ok (.if_icmp (.eq) 5, 3) := by decide +kernel
theorem d24 : decode yB 24 = .ok (.iconst 0, 1) := by decide +kernel
theorem d25 : decode yB 25 = .ok (.ireturn, 1) := by decide +kernel
theorem d26 : decode yB 26 = .ok (.iinc 2 1, 3) := by decide +kernel
theorem d29 : decode yB 29 = .ok (.goto (-20), 3) := by decide +kernel
theorem d32 : decode yB 32 = .ok (.iconst 1, 1) := by decide +kernel
theorem d33 : decode yB 33 = .ok (.ireturn, 1) := by decide +kernel
theorem d34 : decode yB 34 = .ok (.iconst 0, 1) := by decide +kernel
theorem d35 : decode yB 35 = .ok (.ireturn, 1) := by decide +kernel
def site : List Cond := []
def tab : Cond := tabOf yN yB 3 (some .boolean) site
def P (a : Addr) (A : Cell) (b : Addr) (B : Cell) (args : Array Value) (s : State) : Prop := args = #[.ref a, .ref b] ∧ XT.Arr .byte a A s ∧ Typed .byte A ∧ XT.Arr .byte b B s ∧ Typed .byte B
/-- whether two byte[] are equal, place for place -/
theorem law (l : Launch) (a : Addr) (A : Cell) (b : Addr) (B : Cell) : Law l yN 2 2 0 0 yB 3 (some .boolean) site (P a A b B) (Says01 (EqC A B)) [] 0 0 := by
  refine Law.of_walk (plainFor_of_name (by decide +kernel)) (by decide +kernel) (by decide +kernel) (by decide) (fun _ _ h => by rw [h.1]; rfl) (fun _ U U' hal hh h => ⟨h.1, h.2.1.mv hal hh, h.2.2.1, h.2.2.2.1.mv hal hh, h.2.2.2.2⟩) (fun r U U' V V' h1 hal h2 h => Says01.mv r U U' V V' h1 hal h2 h) ?_
  intro p e s m args below meth c s₁ X0 hexec hbytes hml hret hlk hnm hown hh0 W hP
  obtain ⟨rfl, hA, tA, hB, tB⟩ := hP
  have a31 := hA.2.2.2
  have b31 := hB.2.2.2
  have hA0 := hA.mv X0.warmed.alike hh0
  have hB0 := hB.mv X0.warmed.alike hh0
  have c1 : Steps p.tables e below (s₁.setTop (entryFrame m #[.ref a, .ref b] 3)) (s₁.setTop (mkF m 0 #[.val (.ref a), .val (.ref b), .unset] [])) := entry rfl
  have c2 : Steps p.tables e below (s₁.setTop (entryFrame m #[.ref a, .ref b] 3)) (s₁.setTop (mkF m 4 #[.val (.ref a), .val (.ref b), .unset] [.int (Int32.ofNat B.slots.size), .int (Int32.ofNat A.slots.size)])) := c1.trans (by
    refine XS.aloadN X0.here hexec rfl (hb hbytes d0) rfl rfl ?_
    refine X0.alen hexec hA0 rfl rfl (hb hbytes d1) ?_
    refine XS.aloadN X0.here hexec rfl (hb hbytes d2) rfl rfl ?_
    refine X0.alen hexec hB0 rfl rfl (hb hbytes d3) ?_
    exact Steps.refl _)
  by_cases hs : A.slots.size = B.slots.size
  · have c3 : Steps p.tables e below (s₁.setTop (entryFrame m #[.ref a, .ref b] 3)) (s₁.setTop (mkF m 9 #[.val (.ref a), .val (.ref b), .val (.int 0)] [])) := c2.trans (by
      refine XS.icmpNo X0.here hexec rfl (hb hbytes d4) rfl (ii_ne_f (by rw [hs])) ?_
      refine iconstV X0.here hexec rfl 0 (hb hbytes d7) (by decide) ?_
      refine XS.istoreN X0.here hexec rfl (hb hbytes d8) rfl rfl ?_
      exact Steps.refl _)
    have loop : ∀ (r i : Nat), i + r = A.slots.size → (∀ j, j < i → yv A j = yv B j) → Steps p.tables e below (s₁.setTop (entryFrame m #[.ref a, .ref b] 3)) (s₁.setTop (mkF m 9 #[.val (.ref a), .val (.ref b), .val (.int (Int32.ofNat i))] [])) → ∃ (pc : Nat) (Ls : Array Slot) (v : Int32), (pc = 25 ∨ pc = 33) ∧ ((v = 1 ∧ EqC A B) ∨ (v = 0 ∧ ¬ EqC A B)) ∧ Steps p.tables e below (s₁.setTop (entryFrame m #[.ref a, .ref b] 3)) (s₁.setTop (mkF m pc Ls [.int v])) := by
      intro r
      induction r with
      | zero =>
        intro i hi he cl
        exact ⟨33, _, 1, Or.inr rfl, Or.inl ⟨rfl, hs, fun j hj => he j (by omega)⟩, cl.trans (by
          refine XS.iloadN X0.here hexec rfl (hb hbytes d9) rfl ?_
          refine XS.aloadN X0.here hexec rfl (hb hbytes d10) rfl rfl ?_
          refine X0.alen hexec hA0 rfl rfl (hb hbytes d11) ?_
          refine XS.icmpYes X0.here hexec rfl (pc0 := 12) rfl (hb hbytes d12) rfl (ii_ge_t (nlt32 (by omega) (by omega))) (by decide) rfl ?_
          refine iconstV X0.here hexec rfl 1 (hb hbytes d32) (by decide) ?_
          exact Steps.refl _)⟩
      | succ r ih =>
        intro i hi he cl
        have c4 : Steps p.tables e below (s₁.setTop (entryFrame m #[.ref a, .ref b] 3)) (s₁.setTop (mkF m 21 #[.val (.ref a), .val (.ref b), .val (.int (Int32.ofNat i))] [.int (yv B i), .int (yv A i)])) := cl.trans (by
          refine XS.iloadN X0.here hexec rfl (hb hbytes d9) rfl ?_
          refine XS.aloadN X0.here hexec rfl (hb hbytes d10) rfl rfl ?_
          refine X0.alen hexec hA0 rfl rfl (hb hbytes d11) ?_
          refine XS.icmpNo X0.here hexec rfl (hb hbytes d12) rfl (ii_ge_f (lt32 (by omega) (by omega))) ?_
          refine XS.aloadN X0.here hexec rfl (hb hbytes d15) rfl rfl ?_
          refine XS.iloadN X0.here hexec rfl (hb hbytes d16) rfl ?_
          refine X0.aget hexec hA0 rfl (yv_get hA tA (i := i) (by omega)) rfl rfl (hb hbytes d17) ?_
          refine XS.aloadN X0.here hexec rfl (hb hbytes d18) rfl rfl ?_
          refine XS.iloadN X0.here hexec rfl (hb hbytes d19) rfl ?_
          refine X0.aget hexec hB0 rfl (yv_get hB tB (i := i) (by omega)) rfl rfl (hb hbytes d20) ?_
          exact Steps.refl _)
        by_cases hv : yv A i = yv B i
        · have c5 : Steps p.tables e below (s₁.setTop (entryFrame m #[.ref a, .ref b] 3)) (s₁.setTop (mkF m 9 #[.val (.ref a), .val (.ref b), .val (.int (Int32.ofNat i + 1))] [])) := c4.trans (by
            refine XS.icmpYes X0.here hexec rfl (pc0 := 21) rfl (hb hbytes d21) rfl (ii_eq_t hv) (by decide) rfl ?_
            refine iincV X0.here hexec rfl 1 (hb hbytes d26) (by decide) rfl rfl ?_
            refine XS.goto X0.here hexec rfl (pc0 := 29) rfl (hb hbytes d29) (by decide) rfl ?_
            exact Steps.refl _)
          rw [succ32] at c5
          exact ih (i + 1) (by omega) (fun j hj => by
            by_cases e : j = i
            · rw [e]; exact hv
            · exact he j (by omega)) c5
        · exact ⟨25, _, 0, Or.inl rfl, Or.inr ⟨rfl, fun q => hv (q.2 i (by omega))⟩, c4.trans (by
            refine XS.icmpNo X0.here hexec rfl (hb hbytes d21) rfl (ii_eq_f hv) ?_
            refine iconstV X0.here hexec rfl 0 (hb hbytes d24) (by decide) ?_
            exact Steps.refl _)⟩
    obtain ⟨pc, Ls, v, hpc, hv, cz⟩ := loop A.slots.size 0 (by omega) (fun j hj => absurd hj (Nat.not_lt_zero j)) c3
    have nv : narrow .boolean (.int v) = .int v := by rcases hv with ⟨rfl, -⟩ | ⟨rfl, -⟩ <;> rfl
    rcases hpc with rfl | rfl
    · exact ⟨s₁, some (.int v), _, _, _, X0, rfl, rfl, rfl, (fun h => by cases h), ⟨v, rfl, hh0, hv⟩, fun fs hl => cz.trans (X0.ireturnOut hexec hret nv (Or.inr (Or.inl rfl)) (hb hbytes d25) hl)⟩
    · exact ⟨s₁, some (.int v), _, _, _, X0, rfl, rfl, rfl, (fun h => by cases h), ⟨v, rfl, hh0, hv⟩, fun fs hl => cz.trans (X0.ireturnOut hexec hret nv (Or.inr (Or.inl rfl)) (hb hbytes d33) hl)⟩
  · have c3 : Steps p.tables e below (s₁.setTop (entryFrame m #[.ref a, .ref b] 3)) (s₁.setTop (mkF m 35 #[.val (.ref a), .val (.ref b), .unset] [.int 0])) := c2.trans (by
      refine XS.icmpYes X0.here hexec rfl (pc0 := 4) rfl (hb hbytes d4) rfl (ii_ne_t (ne32 a31 b31 hs)) (by decide) rfl ?_
      refine iconstV X0.here hexec rfl 0 (hb hbytes d34) (by decide) ?_
      exact Steps.refl _)
    exact ⟨s₁, some (.int 0), _, _, _, X0, rfl, rfl, rfl, (fun h => by cases h), ⟨0, rfl, hh0, Or.inr ⟨rfl, fun q => hs q.1⟩⟩, fun fs hl => c3.trans (X0.ireturnOut hexec hret rfl (Or.inr (Or.inl rfl)) (hb hbytes d35) hl)⟩
end LEq
theorem Cod.ty {cd : Int32} {n : Nat} {f : Nat → Int32} {V : Cell} (h : Cod cd n f V) : Typed .byte V := fun i v hv => by
  have hi : i < V.slots.size := (Array.getElem?_eq_some_iff.mp hv).1
  rcases h with ⟨-, k1, k2⟩ | ⟨-, k1, k2, -⟩
  · rw [(k2 i (by omega)).1] at hv; cases hv; exact fits_lo8 _
  · rcases Nat.mod_two_eq_zero_or_one i with e | e
    · obtain ⟨j, rfl⟩ : ∃ j, i = 2 * j := ⟨i / 2, by omega⟩
      rw [(k2 j (by omega)).1] at hv; cases hv; exact fits_lo8 _
    · obtain ⟨j, rfl⟩ : ∃ j, i = 2 * j + 1 := ⟨i / 2, by omega⟩
      rw [(k2 j (by omega)).2] at hv; cases hv; exact fits_lo8 _
/-- the same text -/
def SameT (n : Nat) (f : Nat → Int32) (k : Nat) (g : Nat → Int32) : Prop := n = k ∧ ∀ j, j < n → f j = g j
theorem lo8_inj {x y : Int32} (h0 : ¬ x < 0) (h1 : ¬ 255 < x) (k0 : ¬ y < 0) (k1 : ¬ 255 < y) (h : lo8 x = lo8 y) : x = y := by
  rw [← lo8_mask h0 h1, ← lo8_mask k0 k1, h]
/-- arrays coded by one coder are equal just where the texts are -/
theorem Cod.eqv {cd : Int32} {n k : Nat} {f g : Nat → Int32} {V V' : Cell} (h : Cod cd n f V) (h' : Cod cd k g V') (hf : ∀ j, j < n → ¬ f j < 0 ∧ ¬ 65535 < f j) (hg : ∀ j, j < k → ¬ g j < 0 ∧ ¬ 65535 < g j) : EqC V V' ↔ SameT n f k g := by
  have yvv : ∀ {W : Cell} {i : Nat} {x : Int32}, W.slots[i]? = some (.int x) → yv W i = x := fun q => by unfold yv; rw [q]
  rcases h with ⟨rfl, k1, k2⟩ | ⟨rfl, k1, k2, -⟩
  · rcases h' with ⟨-, m1, m2⟩ | ⟨e, -⟩
    · constructor
      · rintro ⟨e1, e2⟩
        refine ⟨by omega, fun j hj => ?_⟩
        have q := e2 j (by omega)
        rw [yvv (k2 j hj).1, yvv (m2 j (by omega)).1] at q
        exact lo8_inj (hf j hj).1 (k2 j hj).2 (hg j (by omega)).1 (m2 j (by omega)).2 q
      · rintro ⟨rfl, e2⟩
        refine ⟨by omega, fun j hj => ?_⟩
        rw [yvv (k2 j (by omega)).1, yvv (m2 j (by omega)).1, e2 j (by omega)]
    · exact absurd e (by decide)
  · rcases h' with ⟨e, -⟩ | ⟨-, m1, m2, -⟩
    · exact absurd e (by decide)
    · constructor
      · rintro ⟨e1, e2⟩
        refine ⟨by omega, fun j hj => ?_⟩
        have q1 := e2 (2 * j) (by omega)
        have q2 := e2 (2 * j + 1) (by omega)
        rw [yvv (k2 j hj).1, yvv (m2 j (by omega)).1] at q1
        rw [yvv (k2 j hj).2, yvv (m2 j (by omega)).2] at q2
        rw [← pair_says (hf j hj).1 (hf j hj).2, ← pair_says (hg j (by omega)).1 (hg j (by omega)).2, q1, q2]
      · rintro ⟨rfl, e2⟩
        refine ⟨by omega, fun i hi => ?_⟩
        rcases Nat.mod_two_eq_zero_or_one i with e | e
        · obtain ⟨j, rfl⟩ : ∃ j, i = 2 * j := ⟨i / 2, by omega⟩
          rw [yvv (k2 j (by omega)).1, yvv (m2 j (by omega)).1, e2 j (by omega)]
        · obtain ⟨j, rfl⟩ : ∃ j, i = 2 * j + 1 := ⟨i / 2, by omega⟩
          rw [yvv (k2 j (by omega)).2, yvv (m2 j (by omega)).2, e2 j (by omega)]
/-- two codings differ: so do the texts -/
theorem Cod.dif {cd cd' : Int32} {n k : Nat} {f g : Nat → Int32} {V V' : Cell} (h : Cod cd n f V) (h' : Cod cd' k g V') (hne : ¬ cd = cd') : ¬ SameT n f k g := by
  rintro ⟨rfl, e⟩
  rcases h with ⟨rfl, -, k2⟩ | ⟨rfl, -, -, j, hj, hw⟩
  · rcases h' with ⟨rfl, -⟩ | ⟨-, -, -, j, hj, hw⟩
    · exact hne rfl
    · exact (k2 j hj).2 (by rw [e j hj]; exact hw)
  · rcases h' with ⟨-, -, m2⟩ | ⟨rfl, -⟩
    · exact (m2 j hj).2 (by rw [← e j hj]; exact hw)
    · exact hne rfl
/-- an object of exactly C is an instance of C -/
theorem cinst {p : Program} {l : Launch} {e : Env} {R : Room} {s : State} {m : MethodId} {args : Array Value} {below : List Frame} {meth : Method} {c : Code} {T : State} {locs : List Loc} {cells slots : Nat} (X : Stand p l e R s m args below meth c T locs cells slots) (hexec : p.tables.exec = Jvm.exec) {own C : String} {index : Nat} (hown : s.vm.findClass own = some m.cls) (hlink : (Cond.classLink own index C).before args s = true) {a : Addr} (hE : Exact C a T)
    {g : JFrame} (hg : g.method = m) {rest : List Value} (hstack : g.stack = .ref a :: rest) (hdg : decode c.code g.pc = .ok (.instanceof index, 3)) :
    ∃ T', Stand p l e R s m args below meth c T' locs cells slots ∧ T'.heap = T.heap ∧ ∀ target, Steps p.tables e below (T'.setTop { g with pc := g.pc + 3, stack := .int 1 :: rest }) target → Steps p.tables e below (T.setTop g) target := by
  obtain ⟨cB, h1, D, h2, h3, h4⟩ := hE
  have h1' : s.vm.findClass C = some cB := by rw [← X.warmed.alike.findClass]; exact h1
  obtain ⟨vm', X', st⟩ := X.instanceofYes hexec hown hlink h2 h4 h1' (by rw [h3]; exact Jvm.Free.SB.assignable_self _ _) hg hstack hdg
  exact ⟨_, X', rfl, st⟩
theorem cself {p : Program} {l : Launch} {e : Env} {R : Room} {s : State} {m : MethodId} {args : Array Value} {below : List Frame} {meth : Method} {c : Code} {T : State} {locs : List Loc} {cells slots : Nat} (X : Stand p l e R s m args below meth c T locs cells slots) (hexec : p.tables.exec = Jvm.exec) {own C : String} {index : Nat} (hown : s.vm.findClass own = some m.cls) (hlink : (Cond.classLink own index C).before args s = true) {a : Addr} (hE : Exact C a T)
    {g : JFrame} (hg : g.method = m) {rest : List Value} (hstack : g.stack = .ref a :: rest) (hdg : decode c.code g.pc = .ok (.checkcast index, 3)) :
    ∃ T', Stand p l e R s m args below meth c T' locs cells slots ∧ T'.heap = T.heap ∧ ∀ target, Steps p.tables e below (T'.setTop { g with pc := g.pc + 3, stack := .ref a :: rest }) target → Steps p.tables e below (T.setTop g) target := by
  obtain ⟨cB, h1, D, h2, h3, h4⟩ := hE
  have h1' : s.vm.findClass C = some cB := by rw [← X.warmed.alike.findClass]; exact h1
  obtain ⟨vm', X', st⟩ := X.checkcastYes hexec hown hlink h2 h4 h1' (by rw [h3]; exact Jvm.Free.SB.assignable_self _ _) hg hstack hdg
  exact ⟨_, X', rfl, fun t h => st t (by rw [← hstack] at h; exact h)⟩
namespace SEq
def yN : MethodName := ⟨"java/lang/String", "equals", "(Ljava/lang/Object;)Z"⟩
abbrev yB : ByteArray := jdk_42_method_66_code
theorem d0 : decode yB 0 = .ok (.aload_n 0, 1) := by decide +kernel
theorem d1 : decode yB 1 = .ok (.aload_n 1, 1) := by decide +kernel
theorem d2 : decode yB 2 = .ok (.if_acmp (.ne) 5, 3) := by decide +kernel
theorem d5 : decode yB 5 = .ok (.iconst 1, 1) := by decide +kernel
theorem d6 : decode yB 6 = .ok (.ireturn, 1) := by decide +kernel
theorem d7 : decode yB 7 = .ok (.aload_n 1, 1) := by decide +kernel
theorem d8 : decode yB 8 = .ok (.instanceof 10, 3) := by decide +kernel
theorem d11 : decode yB 11 = .ok (.ifCond (.eq) 43, 3) := by decide +kernel
theorem d14 : decode yB 14 = .ok (.aload_n 1, 1) := by decide +kernel
theorem d15 : decode yB 15 = .ok (.checkcast 10, 3) := by decide +kernel
theorem d18 : decode yB 18 = .ok (.astore_n 2, 1) := by decide +kernel
theorem d19 : decode yB 19 = .ok (.getstatic 38, 3) := by decide +kernel
theorem d22 : decode yB 22 = .ok (.ifCond (.eq) 14, 3) := by decide +kernel
theorem d25 : decode yB 25 = .ok (.aload_n 0, 1) := by decide +kernel
theorem d26 : decode yB 26 = .ok (.getfield 15, 3) := by decide +kernel
theorem d29 : decode yB 29 = .ok (.aload_n 2, 1) := by decide +kernel
theorem d30 : decode yB 30 = .ok (.getfield 15, 3) := by decide +kernel
theorem d33 : decode yB 33 = .ok (.if_icmp (.ne) 21, 3) := by decide +kernel
theorem d36 : decode yB 36 = .ok (.aload_n 0, 1) := by decide +kernel
theorem d37 : decode yB 37 = .ok (.getfield 9, 3) := by decide +kernel
theorem d40 : decode yB 40 = .ok (.aload_n 2, 1) := by decide +kernel
theorem d41 : decode yB 41 = .ok (.getfield 9, 3) := by decide +kernel
theorem d44 : decode yB 44 = .ok (.invokestatic 541, 3) := by decide +kernel
theorem d47 : decode yB 47 = .ok (.ifCond (.eq) 7, 3) := by decide +kernel
theorem d50 : decode yB 50 = .ok (.iconst 1, 1) := by decide +kernel
theorem d51 : decode yB 51 = .ok (.goto 4, 3) := by decide +kernel
theorem d54 : decode yB 54 = .ok (.iconst 0, 1) := by decide +kernel
theorem d55 : decode yB 55 = .ok (.ireturn, 1) := by decide +kernel
def site : List Cond := [.classLink "java/lang/String" 10 "java/lang/String", .fieldLink "java/lang/String" 38 "java/lang/String" "COMPACT_STRINGS" "Z", .fieldLink "java/lang/String" 15 "java/lang/String" "coder" "B", .fieldLink "java/lang/String" 9 "java/lang/String" "value" "[B", LEq.tab] ++ staticW "java/lang/String" 541 LEq.yN
def tab : Cond := tabOf yN yB 3 (some .boolean) site
def P (x t : Addr) (V : Cell) (cd : Int32) (n : Nat) (f : Nat → Int32) (y t' : Addr) (V' : Cell) (cd' : Int32) (k : Nat) (g : Nat → Int32) (z : Int32) (args : Array Value) (s : State) : Prop := args = #[.ref x, .ref y] ∧ Txt x t V cd n f s ∧ Txt y t' V' cd' k g s ∧ StaticIs s "java/lang/String" "COMPACT_STRINGS" "Z" (.int z) ∧ ¬ z = 0
/-- equals(Object) of two Strings: whether the texts are the same -/
theorem law (l : Launch) (x t : Addr) (V : Cell) (cd : Int32) (n : Nat) (f : Nat → Int32) (y t' : Addr) (V' : Cell) (cd' : Int32) (k : Nat) (g : Nat → Int32) (z : Int32) : Law l yN 2 1 1 14 yB 3 (some .boolean) site (P x t V cd n f y t' V' cd' k g z) (Says01 (SameT n f k g)) [] 0 0 := by
  refine Law.of_walk (plainFor_of_name (by decide +kernel)) (by decide +kernel) (by decide +kernel) (by decide) (fun _ _ h => by rw [h.1]; rfl) (fun _ U U' hal hh h => ⟨h.1, h.2.1.mv hal hh, h.2.2.1.mv hal hh, h.2.2.2.1.there hal hh, h.2.2.2.2⟩) (fun r U U' V V' h1 hal h2 h => Says01.mv r U U' V V' h1 hal h2 h) ?_
  intro p e s m args below meth c s₁ X0 hexec hbytes hml hret hlk hnm hown hh0 W hP
  obtain ⟨rfl, hx, hy, s1, hz⟩ := hP
  have c1 : Steps p.tables e below (s₁.setTop (entryFrame m #[.ref x, .ref y] 3)) (s₁.setTop (mkF m 2 #[.val (.ref x), .val (.ref y), .unset] [.ref y, .ref x])) := Steps.trans (entry rfl) (by
    show Steps p.tables e below (s₁.setTop (mkF m 0 #[.val (.ref x), .val (.ref y), .unset] [])) _
    refine XS.aloadN X0.here hexec rfl (hb hbytes d0) rfl rfl ?_
    refine XS.aloadN X0.here hexec rfl (hb hbytes d1) rfl rfl ?_
    exact Steps.refl _)
  by_cases hxy : x = y
  · have c2 : Steps p.tables e below (s₁.setTop (entryFrame m #[.ref x, .ref y] 3)) (s₁.setTop (mkF m 6 #[.val (.ref x), .val (.ref y), .unset] [.int 1])) := c1.trans (by
      refine acmpNo X0.here hexec rfl (hb hbytes d2) rfl rfl rfl (by simp [acmp, hxy]) ?_
      refine iconstV X0.here hexec rfl 1 (hb hbytes d5) (by decide) ?_
      exact Steps.refl _)
    subst hxy
    have ec : cd = cd' := by
      obtain ⟨D, fd, a1, a2, a3⟩ := hx.2.2.1
      obtain ⟨D', fd', b1, b2, b3⟩ := hy.2.2.1
      cases a1.symm.trans b1
      obtain ⟨q1, q2, q3, q4⟩ := a2.1
      obtain ⟨r1, r2, r3, r4⟩ := b2.1
      cases q4.symm.trans r4
      cases a3.symm.trans b3; rfl
    have et : t = t' := by
      obtain ⟨D, fd, a1, a2, a3⟩ := hx.2.1
      obtain ⟨D', fd', b1, b2, b3⟩ := hy.2.1
      cases a1.symm.trans b1
      obtain ⟨q1, q2, q3, q4⟩ := a2.1
      obtain ⟨r1, r2, r3, r4⟩ := b2.1
      cases q4.symm.trans r4
      cases a3.symm.trans b3; rfl
    subst ec et
    have ev : V = V' := by cases hx.2.2.2.1.1.symm.trans hy.2.2.2.1.1; rfl
    subst ev
    have hs : SameT n f k g := (Cod.eqv hx.2.2.2.2.1 hy.2.2.2.2.1 hx.2.2.2.2.2 hy.2.2.2.2.2).mp ⟨rfl, fun _ _ => rfl⟩
    exact ⟨s₁, some (.int 1), _, _, _, X0, rfl, rfl, rfl, (fun h => by cases h), ⟨1, rfl, hh0, Or.inl ⟨rfl, hs⟩⟩, fun fs hl => c2.trans (X0.ireturnOut hexec hret rfl (Or.inr (Or.inl rfl)) (hb hbytes d6) hl)⟩
  · have c2 : Steps p.tables e below (s₁.setTop (entryFrame m #[.ref x, .ref y] 3)) (s₁.setTop (mkF m 8 #[.val (.ref x), .val (.ref y), .unset] [.ref y])) := c1.trans (by
      refine acmpYes X0.here hexec rfl (pc0 := 2) rfl (hb hbytes d2) rfl rfl rfl (by simp [acmp, hxy]) (by decide) rfl ?_
      refine XS.aloadN X0.here hexec rfl (hb hbytes d7) rfl rfl ?_
      exact Steps.refl _)
    obtain ⟨T3, X3, q3, st3⟩ := cinst X0 hexec hown (wk W (.classLink "java/lang/String" 10 "java/lang/String")) (hy.mv X0.warmed.alike hh0).1 (g := (mkF m 8 #[.val (.ref x), .val (.ref y), .unset] [.ref y])) rfl (rest := []) rfl (hb hbytes d8)
    have hh3 := q3.trans hh0
    have c4 : Steps p.tables e below (s₁.setTop (entryFrame m #[.ref x, .ref y] 3)) (T3.setTop (mkF m 15 #[.val (.ref x), .val (.ref y), .unset] [.ref y])) := (c2.trans (st3 _ (Steps.refl _))).trans (by
      refine XS.ifNo X3.here hexec rfl (hb hbytes d11) rfl (i0_eq_f (by decide)) ?_
      refine XS.aloadN X3.here hexec rfl (hb hbytes d14) rfl rfl ?_
      exact Steps.refl _)
    obtain ⟨T5, X5, q5, st5⟩ := cself X3 hexec hown (wk W (.classLink "java/lang/String" 10 "java/lang/String")) (hy.mv X3.warmed.alike hh3).1 (g := (mkF m 15 #[.val (.ref x), .val (.ref y), .unset] [.ref y])) rfl (rest := []) rfl (hb hbytes d15)
    have hh5 := q5.trans hh3
    have c6 : Steps p.tables e below (s₁.setTop (entryFrame m #[.ref x, .ref y] 3)) (T5.setTop (mkF m 19 #[.val (.ref x), .val (.ref y), .val (.ref y)] [])) := (c4.trans (st5 _ (Steps.refl _))).trans (by
      refine XS.astoreN X5.here hexec rfl (hb hbytes d18) rfl rfl rfl ?_
      exact Steps.refl _)
    obtain ⟨T7, X7, q7, st7⟩ := X5.sget hexec hown (wk W (.fieldLink "java/lang/String" 38 "java/lang/String" "COMPACT_STRINGS" "Z")) s1 (fun _ _ h => by rw [hh5]; exact h) (g := (mkF m 19 #[.val (.ref x), .val (.ref y), .val (.ref y)] [])) rfl (hb hbytes d19)
    have hh7 := q7.trans hh5
    have c8 : Steps p.tables e below (s₁.setTop (entryFrame m #[.ref x, .ref y] 3)) (T7.setTop (mkF m 26 #[.val (.ref x), .val (.ref y), .val (.ref y)] [.ref x])) := (c6.trans (st7 _ (Steps.refl _))).trans (by
      refine XS.ifNo X7.here hexec rfl (hb hbytes d22) rfl (i0_eq_f hz) ?_
      refine XS.aloadN X7.here hexec rfl (hb hbytes d25) rfl rfl ?_
      exact Steps.refl _)
    obtain ⟨T9, X9, q9, st9⟩ := X7.hget hexec hown (wk W (.fieldLink "java/lang/String" 15 "java/lang/String" "coder" "B")) (hx.mv X7.warmed.alike hh7).2.2.1 (g := (mkF m 26 #[.val (.ref x), .val (.ref y), .val (.ref y)] [.ref x])) rfl (rest := []) rfl (hb hbytes d26)
    have hh9 := q9.trans hh7
    have c10 : Steps p.tables e below (s₁.setTop (entryFrame m #[.ref x, .ref y] 3)) (T9.setTop (mkF m 30 #[.val (.ref x), .val (.ref y), .val (.ref y)] [.ref y, .int cd])) := (c8.trans (st9 _ (Steps.refl _))).trans (by
      refine XS.aloadN X9.here hexec rfl (hb hbytes d29) rfl rfl ?_
      exact Steps.refl _)
    obtain ⟨T11, X11, q11, st11⟩ := X9.hget hexec hown (wk W (.fieldLink "java/lang/String" 15 "java/lang/String" "coder" "B")) (hy.mv X9.warmed.alike hh9).2.2.1 (g := (mkF m 30 #[.val (.ref x), .val (.ref y), .val (.ref y)] [.ref y, .int cd])) rfl (rest := [.int cd]) rfl (hb hbytes d30)
    have hh11 := q11.trans hh9
    have c12 : Steps p.tables e below (s₁.setTop (entryFrame m #[.ref x, .ref y] 3)) (T11.setTop (mkF m 33 #[.val (.ref x), .val (.ref y), .val (.ref y)] [.int cd', .int cd])) := c10.trans (st11 _ (Steps.refl _))
    by_cases hcd : cd = cd'
    · subst hcd
      have c13 : Steps p.tables e below (s₁.setTop (entryFrame m #[.ref x, .ref y] 3)) (T11.setTop (mkF m 37 #[.val (.ref x), .val (.ref y), .val (.ref y)] [.ref x])) := c12.trans (by
        refine XS.icmpNo X11.here hexec rfl (hb hbytes d33) rfl (ii_ne_f rfl) ?_
        refine XS.aloadN X11.here hexec rfl (hb hbytes d36) rfl rfl ?_
        exact Steps.refl _)
      obtain ⟨T14, X14, q14, st14⟩ := X11.hget hexec hown (wk W (.fieldLink "java/lang/String" 9 "java/lang/String" "value" "[B")) (hx.mv X11.warmed.alike hh11).2.1 (g := (mkF m 37 #[.val (.ref x), .val (.ref y), .val (.ref y)] [.ref x])) rfl (rest := []) rfl (hb hbytes d37)
      have hh14 := q14.trans hh11
      have c15 : Steps p.tables e below (s₁.setTop (entryFrame m #[.ref x, .ref y] 3)) (T14.setTop (mkF m 41 #[.val (.ref x), .val (.ref y), .val (.ref y)] [.ref y, .ref t])) := (c13.trans (st14 _ (Steps.refl _))).trans (by
        refine XS.aloadN X14.here hexec rfl (hb hbytes d40) rfl rfl ?_
        exact Steps.refl _)
      obtain ⟨T16, X16, q16, st16⟩ := X14.hget hexec hown (wk W (.fieldLink "java/lang/String" 9 "java/lang/String" "value" "[B")) (hy.mv X14.warmed.alike hh14).2.1 (g := (mkF m 41 #[.val (.ref x), .val (.ref y), .val (.ref y)] [.ref y, .ref t])) rfl (rest := [.ref t]) rfl (hb hbytes d41)
      have hh16 := q16.trans hh14
      have c17 : Steps p.tables e below (s₁.setTop (entryFrame m #[.ref x, .ref y] 3)) (T16.setTop (mkF m 44 #[.val (.ref x), .val (.ref y), .val (.ref y)] [.ref t', .ref t])) := c15.trans (st16 _ (Steps.refl _))
      obtain ⟨v18, T18, X18, E18, g18⟩ := X16.callS hexec (LEq.law l t V t' V') hown (wks W (staticW "java/lang/String" 541 LEq.yN)) (wk W LEq.tab) (W := 0) (Nat.le_of_ble_eq_true rfl) (Nat.le_of_ble_eq_true rfl) (Nat.le_refl _) (Nat.le_refl _) (g := (mkF m 44 #[.val (.ref x), .val (.ref y), .val (.ref y)] [.ref t', .ref t])) rfl (by rw [hml]; rfl) c17 (argsL := [.ref t, .ref t']) (rest := []) rfl rfl (by show 2 * 0 + 0 ≤ _; decide) (hb hbytes d44) (⟨rfl, hx.2.2.2.1.mv X16.warmed.alike hh16, hx.2.2.2.2.1.ty, hy.2.2.2.1.mv X16.warmed.alike hh16, hy.2.2.2.2.1.ty⟩)
      obtain ⟨v, rfl, q18, hv⟩ := E18
      have iff := Cod.eqv hx.2.2.2.2.1 hy.2.2.2.2.1 hx.2.2.2.2.2 hy.2.2.2.2.2
      rcases hv with ⟨rfl, he⟩ | ⟨rfl, he⟩
      · have c19 : Steps p.tables e below (s₁.setTop (entryFrame m #[.ref x, .ref y] 3)) (T18.setTop (mkF m 55 #[.val (.ref x), .val (.ref y), .val (.ref y)] [.int 1])) := Steps.trans g18 (by
          refine XS.ifNo X18.here hexec rfl (hb hbytes d47) rfl (i0_eq_f (by decide)) ?_
          refine iconstV X18.here hexec rfl 1 (hb hbytes d50) (by decide) ?_
          refine XS.goto X18.here hexec rfl (pc0 := 51) rfl (hb hbytes d51) (by decide) rfl ?_
          exact Steps.refl _)
        exact ⟨T18, some (.int 1), _, _, _, X18, rfl, rfl, rfl, (fun h => by cases h), ⟨1, rfl, q18.trans hh16, Or.inl ⟨rfl, iff.mp he⟩⟩, fun fs hl => c19.trans (X18.ireturnOut hexec hret rfl (Or.inr (Or.inl rfl)) (hb hbytes d55) hl)⟩
      · have c19 : Steps p.tables e below (s₁.setTop (entryFrame m #[.ref x, .ref y] 3)) (T18.setTop (mkF m 55 #[.val (.ref x), .val (.ref y), .val (.ref y)] [.int 0])) := Steps.trans g18 (by
          refine XS.ifYes X18.here hexec rfl (pc0 := 47) rfl (hb hbytes d47) rfl (i0_eq_t rfl) (by decide) rfl ?_
          refine iconstV X18.here hexec rfl 0 (hb hbytes d54) (by decide) ?_
          exact Steps.refl _)
        exact ⟨T18, some (.int 0), _, _, _, X18, rfl, rfl, rfl, (fun h => by cases h), ⟨0, rfl, q18.trans hh16, Or.inr ⟨rfl, fun q => he (iff.mpr q)⟩⟩, fun fs hl => c19.trans (X18.ireturnOut hexec hret rfl (Or.inr (Or.inl rfl)) (hb hbytes d55) hl)⟩
    · have c13 : Steps p.tables e below (s₁.setTop (entryFrame m #[.ref x, .ref y] 3)) (T11.setTop (mkF m 55 #[.val (.ref x), .val (.ref y), .val (.ref y)] [.int 0])) := c12.trans (by
        refine XS.icmpYes X11.here hexec rfl (pc0 := 33) rfl (hb hbytes d33) rfl (ii_ne_t hcd) (by decide) rfl ?_
        refine iconstV X11.here hexec rfl 0 (hb hbytes d54) (by decide) ?_
        exact Steps.refl _)
      exact ⟨T11, some (.int 0), _, _, _, X11, rfl, rfl, rfl, (fun h => by cases h), ⟨0, rfl, hh11, Or.inr ⟨rfl, Cod.dif hx.2.2.2.2.1 hy.2.2.2.2.1 hcd⟩⟩, fun fs hl => c13.trans (X11.ireturnOut hexec hret rfl (Or.inr (Or.inl rfl)) (hb hbytes d55) hl)⟩
theorem pays {l : Launch} {R : Room} {p : Program} {e : Env} {below : List Frame} {s : State} {sargs : Array Value} {len W : Nat} (x t : Addr) (V : Cell) (cd : Int32) (n : Nat) (f : Nat → Int32) (y t' : Addr) (V' : Cell) (cd' : Int32) (k : Nat) (g : Nat → Int32) (z : Int32) (htab : tab.before sargs s = true) (hfr : 2 ≤ R.frames) (hlo : W + 28 ≤ R.locals) :
    Back l R p e below s sargs yN len W (fun A₁ a₁ => A₁.cells + 0 ≤ R.cells ∧ A₁.slots + 0 ≤ R.slots ∧ P x t V cd n f y t' V' cd' k g z a₁ A₁.U) (fun A₁ _ v₁ B₁ => Says01 (SameT n f k g) v₁ A₁.U B₁.U ∧ B₁.locs = A₁.locs ++ [] ∧ B₁.cells = A₁.cells + 0 ∧ B₁.slots = A₁.slots + 0) :=
  (law l x t V cd n f y t' V' cd' k g z).pays htab hfr (by omega)
end SEq
end StrChars
namespace StrChars.Road
open Jvm Sem ClassFile Op Lib Jvm.Stand Jvm.Free Jvm.Free.XT
open Jvm.Lib.Cold (StaticIs)
/-- the words of String.equals(Object) -/
abbrev wordsEq : List Jvm.Cond := [.code SEq.yN SEq.yB 3 (some .boolean), .initialized ST, .classLink ST 10 ST, .fieldLink ST 38 ST "COMPACT_STRINGS" "Z", .fieldLink ST 15 ST "coder" "B", .fieldLink ST 9 ST "value" "[B", .methodLink ST 541 LEq.yN, .static LEq.yN, .code LEq.yN LEq.yB 3 (some .boolean), .initialized "java/lang/StringLatin1"]
theorem tabEq_of {a : Array Value} {s : State} (h : ∀ w ∈ wordsEq, w.before a s = true) : SEq.tab.before a s = true := by
  have hl : LEq.tab.before a s = true := unparts (wk h (.code LEq.yN LEq.yB 3 (some .boolean))) (wks h (.initialized LEq.yN.cls :: LEq.site))
  have q := consq hl h
  exact unparts (wk q (.code SEq.yN SEq.yB 3 (some .boolean))) (wks q (.initialized SEq.yN.cls :: SEq.site))
theorem movedEq {Z s : State} {a0 args : Array Value} (hZ : Z.Warmed39 s.vm) (hw : ∀ d ∈ wordsEq, d.before a0 Z = true) : ∀ d ∈ wordsEq, d.before args s = true := fun d hd => by
  have t : ∀ d ∈ wordsEq, (d.onTables && d.keepsFace) = true := by decide +kernel
  exact RoadKit.mv hZ (hw d hd) (t d hd)
/-- the road's facts of a String, as the laws ask it -/
theorem txt_of {Z U : State} {a0 : Array Value} {kI : Nat} (wi : (Jvm.Cond.instantiable ST kI).before a0 Z = true) (al : Z.vm.Alike U.vm) {x t : Addr} {kb : ClassId} {cs : List Int32} {cd N2 : Int32} {vs : List Value} (E : RoadKit.Exa Z U.heap x ST) (V : RoadKit.Fld Z U.heap x ST "value" "[B" (.ref t)) (C : RoadKit.Fld Z U.heap x ST "coder" "B" (.int cd)) (K : RoadKit.Arv Z U.heap t kb .byte N2 vs (.int 0)) (hc : CodA cs cd N2 vs) (hb : ∀ c ∈ cs, ¬ c < 0 ∧ ¬ (65535 : Int32) < c) (l2 : cs.length ≤ 4000) :
    ∃ A, Txt x t A cd cs.length (fun j => cs.getD j 0) U := by
  obtain ⟨A, K1, K2, K3, K4, K5, K6⟩ := K
  have hcod := hc.cod (by omega) K3 K5
  obtain ⟨D, fV, fC, hB, F1, F2, g1, g2, -, -⟩ := strObj wi al E V C
  exact ⟨A, ⟨_, hB.2.2.1, D, hB.1, rfl, by cases q : D.vm <;> first | rfl | exact absurd q (hB.2.1.2 _)⟩, Has.of hB F1 g1, Has.of hB F2 g2, ⟨K1.1, State.isArrayOf_alike al K1.2.1, K1.2.2, by rcases hcod with ⟨-, q, -⟩ | ⟨-, q, -⟩ <;> omega⟩, hcod, fun j hj => by
    have e : cs.getD j 0 = cs[j] := by simp [List.getD_eq_getElem?_getD, hj]
    show ¬ cs.getD j 0 < 0 ∧ ¬ 65535 < cs.getD j 0
    rw [e]; exact hb _ (List.getElem_mem _)⟩
theorem same_list (cs ds : List Int32) : SameT cs.length (fun j => cs.getD j 0) ds.length (fun j => ds.getD j 0) ↔ cs = ds := by
  constructor
  · rintro ⟨e, q⟩
    refine List.ext_getElem e fun j h1 h2 => ?_
    have := q j h1
    simpa [List.getD_eq_getElem?_getD, h1, h2] using this
  · rintro rfl
    exact ⟨rfl, fun _ _ => rfl⟩
/-- **equals(Object) OF TWO SUCH STRINGS**: 1 just where the chars are the same -/
theorem eqW {p : Program} {l : Launch} {e : Env} {R : Room} {s : State} {args : Array Value} {below : List Frame} {len W : Nat} {Z : State} {a0 : Array Value} {h : Heap} (hZ : Z.Warmed39 s.vm) (hw : ∀ d ∈ wordsEq, d.before a0 Z = true) {kI : Nat} (wi : (Jvm.Cond.instantiable ST kI).before a0 Z = true)
    {x t : Addr} {kb : ClassId} {cs : List Int32} {cd N2 : Int32} {vs : List Value} (E : RoadKit.Exa Z h x ST) (V : RoadKit.Fld Z h x ST "value" "[B" (.ref t)) (C : RoadKit.Fld Z h x ST "coder" "B" (.int cd)) (K : RoadKit.Arv Z h t kb .byte N2 vs (.int 0)) (hc : CodA cs cd N2 vs) (hb : ∀ c ∈ cs, ¬ c < 0 ∧ ¬ (65535 : Int32) < c) (l2 : cs.length ≤ 4000)
    {y t' : Addr} {kb' : ClassId} {ds : List Int32} {cd' N2' : Int32} {vs' : List Value} (E' : RoadKit.Exa Z h y ST) (V' : RoadKit.Fld Z h y ST "value" "[B" (.ref t')) (C' : RoadKit.Fld Z h y ST "coder" "B" (.int cd')) (K' : RoadKit.Arv Z h t' kb' .byte N2' vs' (.int 0)) (hc' : CodA ds cd' N2' vs') (hb' : ∀ c ∈ ds, ¬ c < 0 ∧ ¬ (65535 : Int32) < c) (l2' : ds.length ≤ 4000)
    {z : Int32} (S : RoadKit.Sta Z h ST "COMPACT_STRINGS" "Z" (.int z)) (hz : ¬ z = 0) (hfr : 2 ≤ R.frames) (hlo : W + 28 ≤ R.locals) :
    Back l R p e below s args (⟨"java/lang/String", "equals", "(Ljava/lang/Object;)Z"⟩ : MethodName) len W (fun P a => a = #[.ref x, .ref y] ∧ P.U.heap = h ∧ P.cells + 0 ≤ R.cells ∧ P.slots + 0 ≤ R.slots)
      (fun P _ v B => ∃ L, (((v = some (.int 1) ∧ cs = ds) ∨ (v = some (.int 0) ∧ ¬ cs = ds)) ∧ L = [] ∧ B.U.heap = h) ∧ B.locs = P.locs ++ L ∧ B.cells = P.cells + 0 ∧ B.slots = P.slots + 0) := by
  intro m meth c P g ig mk a X hg hsize hdg hW hn hp'
  obtain ⟨rfl, rfl, r1, r2⟩ := hp'
  have al : Z.vm.Alike P.U.vm := hZ.alike.trans X.warmed.alike
  obtain ⟨A, hx⟩ := txt_of wi al E V C K hc hb l2
  obtain ⟨A', hy⟩ := txt_of wi al E' V' C' K' hc' hb' l2'
  obtain ⟨v, B, X', ⟨⟨w, hv, hh, hq⟩, hl, hk, hs⟩, st⟩ := SEq.pays x t A cd cs.length (fun j => cs.getD j 0) y t' A' cd' ds.length (fun j => ds.getD j 0) z (tabEq_of (movedEq hZ hw)) hfr hlo m meth c P g ig mk _ X hg hsize hdg hW hn ⟨r1, r2, rfl, hx, hy, sta_is al S, hz⟩
  refine ⟨v, B, X', ⟨[], ⟨?_, rfl, hh⟩, hl, hk, hs⟩, st⟩
  rcases hq with ⟨rfl, q⟩ | ⟨rfl, q⟩
  · exact Or.inl ⟨hv, (same_list cs ds).mp q⟩
  · exact Or.inr ⟨hv, fun e => q ((same_list cs ds).mpr e)⟩
end StrChars.Road
namespace StrChars
open Jvm Sem ClassFile Op Lib Jvm.Stand Jvm.Free.XT Jvm.Free.ALB Jvm.Free.JM Jvm.Free
open Jvm.Lib.Cold (StaticIs)
namespace ChN
def yN : MethodName := ⟨"java/lang/String", "charAt", "(I)C"⟩
abbrev yB : ByteArray := jdk_42_method_56_code
theorem d0 : decode yB 0 = .ok (.aload_n 0, 1) := by decide +kernel
theorem d1 : decode yB 1 = .ok (.invokevirtual 492, 3) := by decide +kernel
theorem d4 : decode yB 4 = .ok (.ifCond (.eq) 12, 3) := by decide +kernel
theorem d7 : decode yB 7 = .ok (.aload_n 0, 1) := by decide +kernel
theorem d8 : decode yB 8 = .ok (.getfield 9, 3) := by decide +kernel
theorem d11 : decode yB 11 = .ok (.iload_n 1, 1) := by decide +kernel
theorem d12 : decode yB 12 = .ok (.invokestatic 495, 3) := by decide +kernel
theorem d15 : decode yB 15 = .ok (.ireturn, 1) := by decide +kernel
def site : List Cond := [.fieldLink "java/lang/String" 9 "java/lang/String" "value" "[B", IsL.tab, LChA.tab] ++ virtW "java/lang/String" 492 "java/lang/String" IsL.yN IsL.yN ++ staticW "java/lang/String" 495 LChA.yN
def tab : Cond := tabOf yN yB 2 (some .char) site
def P (x t : Addr) (V : Cell) (n : Nat) (f : Nat → Int32) (z : Int32) (fm : Value) (i : Nat) (args : Array Value) (s : State) : Prop := args = #[.ref x, .int (Int32.ofNat i)] ∧ Txt x t V 0 n f s ∧ i < n ∧ StaticIs s "java/lang/String" "COMPACT_STRINGS" "Z" (.int z) ∧ ¬ z = 0 ∧ StaticIs s "jdk/internal/util/Preconditions" "SIOOBE_FORMATTER" "Ljava/util/function/BiFunction;" fm ∧ fm.isRef = true
def E (f : Nat → Int32) (i : Nat) (r : Option Value) (s u : State) : Prop := XT.PureE (some (.int (f i))) r s u
/-- charAt(i) of a Latin-1 String of n chars, i < n: f i -/
theorem law (l : Launch) (x t : Addr) (V : Cell) (n : Nat) (f : Nat → Int32) (z : Int32) (fm : Value) (i : Nat) : Law l yN 2 1 3 40 yB 2 (some .char) site (P x t V n f z fm i) (E f i) [] 0 0 := by
  refine Law.of_walk (plainFor_of_name (by decide +kernel)) (by decide +kernel) (by decide +kernel) (by decide) (fun _ _ h => by rw [h.1]; rfl) (fun _ U U' hal hh h => ⟨h.1, h.2.1.mv hal hh, h.2.2.1, h.2.2.2.1.there hal hh, h.2.2.2.2.1, h.2.2.2.2.2.1.there hal hh, h.2.2.2.2.2.2⟩) (fun r U U' V V' h1 hal h2 h => XT.PureE.mv r U U' V V' h1 hal h2 h) ?_
  intro p e s m args below meth c s₁ X0 hexec hbytes hml hret hlk hnm hown hh0 W hP
  obtain ⟨rfl, hx, hi, s1, hz, s3, rf⟩ := hP
  have v31 := hx.2.2.2.1.2.2.2
  have hr := hx.2.2.2.2.2 i hi
  have hx0 := hx.mv X0.warmed.alike hh0
  have c1 : Steps p.tables e below (s₁.setTop (entryFrame m #[.ref x, .int (Int32.ofNat i)] 2)) (s₁.setTop (mkF m 1 #[.val (.ref x), .val (.int (Int32.ofNat i))] [.ref x])) := Steps.trans (entry rfl) (by
    show Steps p.tables e below (s₁.setTop (mkF m 0 #[.val (.ref x), .val (.int (Int32.ofNat i))] [])) _
    refine XS.aloadN X0.here hexec rfl (hb hbytes d0) rfl rfl ?_
    exact Steps.refl _)
  obtain ⟨v2, T2, X2, E2, g2⟩ := X0.callV hexec (IsL.law l x 0 z) hown (wks W (virtW "java/lang/String" 492 "java/lang/String" IsL.yN IsL.yN)) rfl (by decide) (wk W IsL.tab) (W := 0) (Nat.le_of_ble_eq_true rfl) (Nat.le_of_ble_eq_true rfl) (Nat.le_refl _) (Nat.le_refl _) (hx0.1.fc X0.warmed.alike) hx0.1.is (g := (mkF m 1 #[.val (.ref x), .val (.int (Int32.ofNat i))] [.ref x])) rfl (by rw [hml]; rfl) c1 (argsL := []) (rest := []) rfl rfl (by show 2 * 0 + 0 ≤ _; decide) (hb hbytes d1) (⟨rfl, hx0.2.2.1, hx.2.2.2.2.1.cd, s1.there X0.warmed.alike hh0, hz⟩)
  obtain ⟨rfl, q2⟩ := E2
  have hh2 := q2.trans hh0
  have hx2 := hx.mv X2.warmed.alike hh2
  obtain ⟨-, k1, k2⟩ | ⟨k0, -⟩ := hx.2.2.2.2.1
  · have c3 : Steps p.tables e below (s₁.setTop (entryFrame m #[.ref x, .int (Int32.ofNat i)] 2)) (T2.setTop (mkF m 8 #[.val (.ref x), .val (.int (Int32.ofNat i))] [.ref x])) := Steps.trans g2 (by
      refine XS.ifNo X2.here hexec rfl (hb hbytes d4) rfl (i0_eq_f (by decide)) ?_
      refine XS.aloadN X2.here hexec rfl (hb hbytes d7) rfl rfl ?_
      exact Steps.refl _)
    obtain ⟨T4, X4, q4, st4⟩ := X2.hget hexec hown (wk W (.fieldLink "java/lang/String" 9 "java/lang/String" "value" "[B")) hx2.2.1 (g := (mkF m 8 #[.val (.ref x), .val (.int (Int32.ofNat i))] [.ref x])) rfl (rest := []) rfl (hb hbytes d8)
    have hh4 := q4.trans hh2
    have c5 : Steps p.tables e below (s₁.setTop (entryFrame m #[.ref x, .int (Int32.ofNat i)] 2)) (T4.setTop (mkF m 12 #[.val (.ref x), .val (.int (Int32.ofNat i))] [.int (Int32.ofNat i), .ref t])) := (c3.trans (st4 _ (Steps.refl _))).trans (by
      refine XS.iloadN X4.here hexec rfl (hb hbytes d11) rfl ?_
      exact Steps.refl _)
    obtain ⟨v6, T6, X6, E6, g6⟩ := X4.callS hexec (LChA.law l t V i (lo8 (f i)) fm) hown (wks W (staticW "java/lang/String" 495 LChA.yN)) (wk W LChA.tab) (W := 0) (Nat.le_of_ble_eq_true rfl) (Nat.le_of_ble_eq_true rfl) (Nat.le_refl _) (Nat.le_refl _) (g := (mkF m 12 #[.val (.ref x), .val (.int (Int32.ofNat i))] [.int (Int32.ofNat i), .ref t])) rfl (by rw [hml]; rfl) c5 (argsL := [.ref t, .int (Int32.ofNat i)]) (rest := []) rfl rfl (by show 2 * 0 + 0 ≤ _; decide) (hb hbytes d12) (⟨rfl, hx.2.2.2.1.mv X4.warmed.alike hh4, (k2 i hi).1, s3.there X4.warmed.alike hh4, rf⟩)
    obtain ⟨rfl, q6⟩ := E6
    rw [chr8_lo8 hr.1 (k2 i hi).2] at g6
    exact ⟨T6, some (.int (f i)), _, _, _, X6, rfl, rfl, rfl, (fun h => by cases h), ⟨rfl, q6.trans hh4⟩, fun fs hl => Steps.trans g6 (X6.ireturnOut hexec hret (narrow_ch hr.1 hr.2) (Or.inr (Or.inr (Or.inr (Or.inl rfl)))) (hb hbytes d15) hl)⟩
  · exact absurd k0 (by decide)
theorem pays {l : Launch} {R : Room} {p : Program} {e : Env} {below : List Frame} {s : State} {sargs : Array Value} {len W : Nat} (x t : Addr) (V : Cell) (n : Nat) (f : Nat → Int32) (z : Int32) (fm : Value) (i : Nat) (htab : tab.before sargs s = true) (hfr : 4 ≤ R.frames) (hlo : W + 53 ≤ R.locals) :
    Back l R p e below s sargs yN len W (fun A₁ a₁ => A₁.cells + 0 ≤ R.cells ∧ A₁.slots + 0 ≤ R.slots ∧ P x t V n f z fm i a₁ A₁.U) (fun A₁ _ v₁ B₁ => E f i v₁ A₁.U B₁.U ∧ B₁.locs = A₁.locs ++ [] ∧ B₁.cells = A₁.cells + 0 ∧ B₁.slots = A₁.slots + 0) :=
  (law l x t V n f z fm i).pays htab hfr (by omega)
end ChN
end StrChars
namespace StrChars.Road
open Jvm Sem ClassFile Op Lib Jvm.Stand Jvm.Free Jvm.Free.XT
open Jvm.Lib.Cold (StaticIs)
/-- the words of String.charAt(int), the Latin-1 road alone -/
abbrev wordsChN : List Jvm.Cond := [.code ChN.yN ChN.yB 2 (some .char), .initialized ST, .fieldLink ST 9 ST "value" "[B", .fieldLink ST 38 ST "COMPACT_STRINGS" "Z", .fieldLink ST 15 ST "coder" "B", .code IsL.yN IsL.yB 1 (some .boolean), .methodLink ST 492 IsL.yN, .declares IsL.yN, .selects ST IsL.yN IsL.yN, .instanceMethod IsL.yN,
  .methodLink ST 495 LChA.yN, .static LChA.yN, .code LChA.yN LChA.yB 2 (some .char), .initialized "java/lang/StringLatin1", .methodLink "java/lang/StringLatin1" 9 JO.Str_checkIndex.yN, .static JO.Str_checkIndex.yN, .code JO.Str_checkIndex.yN JO.Str_checkIndex.yB 2 none,
  .fieldLink ST 1053 "jdk/internal/util/Preconditions" "SIOOBE_FORMATTER" "Ljava/util/function/BiFunction;", .methodLink ST 1059 JC.PreCheck.yN, .static JC.PreCheck.yN, .code JC.PreCheck.yN JC.PreCheck.yB 3 (some .int), .initialized "jdk/internal/util/Preconditions"]
theorem tabChN_of {a : Array Value} {s : State} (h : ∀ w ∈ wordsChN, w.before a s = true) : ChN.tab.before a s = true := by
  have hp : JC.PreCheck.tab.before a s = true := unparts (wk h (.code JC.PreCheck.yN JC.PreCheck.yB 3 (some .int))) (wks h (.initialized JC.PreCheck.yN.cls :: JC.PreCheck.site))
  have qk := consq hp h
  have hk : JO.Str_checkIndex.tab.before a s = true := unparts (wk qk (.code JO.Str_checkIndex.yN JO.Str_checkIndex.yB 2 none)) (wks qk (.initialized JO.Str_checkIndex.yN.cls :: JO.Str_checkIndex.site))
  have ql := consq hk h
  have hl : LChA.tab.before a s = true := unparts (wk ql (.code LChA.yN LChA.yB 2 (some .char))) (wks ql (.initialized LChA.yN.cls :: LChA.site))
  have hi : IsL.tab.before a s = true := unparts (wk h (.code IsL.yN IsL.yB 1 (some .boolean))) (wks h (.initialized IsL.yN.cls :: IsL.site))
  have q := consq hi (consq hl h)
  exact unparts (wk q (.code ChN.yN ChN.yB 2 (some .char))) (wks q (.initialized ChN.yN.cls :: ChN.site))
theorem movedChN {Z s : State} {a0 args : Array Value} (hZ : Z.Warmed39 s.vm) (hw : ∀ d ∈ wordsChN, d.before a0 Z = true) : ∀ d ∈ wordsChN, d.before args s = true := fun d hd => by
  have t : ∀ d ∈ wordsChN, (d.onTables && d.keepsFace) = true := by decide +kernel
  exact RoadKit.mv hZ (hw d hd) (t d hd)
/-- **charAt(i) OF A LATIN-1 STRING**, i < n: the char -/
theorem chN {p : Program} {l : Launch} {e : Env} {R : Room} {s : State} {args : Array Value} {below : List Frame} {len W : Nat} {Z : State} {a0 : Array Value} {h : Heap} (hZ : Z.Warmed39 s.vm) (hw : ∀ d ∈ wordsChN, d.before a0 Z = true) {kI : Nat} (wi : (Jvm.Cond.instantiable ST kI).before a0 Z = true)
    {x t : Addr} {kb : ClassId} {cs : List Int32} {N2 z : Int32} {vs : List Value} {fm : Value} {i : Nat} {j : Int32} (E : RoadKit.Exa Z h x ST) (V : RoadKit.Fld Z h x ST "value" "[B" (.ref t)) (C : RoadKit.Fld Z h x ST "coder" "B" (.int 0)) (K : RoadKit.Arv Z h t kb .byte N2 vs (.int 0)) (hc : CodA cs 0 N2 vs) (hb : ∀ c ∈ cs, ¬ c < 0 ∧ ¬ (65535 : Int32) < c)
    (S : RoadKit.Sta Z h ST "COMPACT_STRINGS" "Z" (.int z)) (hz : ¬ z = 0) (F : RoadKit.Sta Z h "jdk/internal/util/Preconditions" "SIOOBE_FORMATTER" "Ljava/util/function/BiFunction;" fm) (rf : fm.isRef = true) (l2 : cs.length ≤ 4000) (hi : i < cs.length) (hj : j = Int32.ofNat i) (hfr : 4 ≤ R.frames) (hlo : W + 53 ≤ R.locals) :
    Back l R p e below s args (⟨"java/lang/String", "charAt", "(I)C"⟩ : MethodName) len W (fun P a => a = #[.ref x, .int j] ∧ P.U.heap = h ∧ P.cells + 0 ≤ R.cells ∧ P.slots + 0 ≤ R.slots)
      (fun P _ v B => ∃ L, (v = some (.int (cs.getD i 0)) ∧ L = [] ∧ B.U.heap = h) ∧ B.locs = P.locs ++ L ∧ B.cells = P.cells + 0 ∧ B.slots = P.slots + 0) := by
  subst hj
  intro m meth c P g ig mk a X hg hsize hdg hW hn hp'
  obtain ⟨rfl, rfl, r1, r2⟩ := hp'
  have al : Z.vm.Alike P.U.vm := hZ.alike.trans X.warmed.alike
  obtain ⟨A, hx⟩ := txt_of wi al E V C K hc hb l2
  obtain ⟨v, B, X', ⟨⟨hv, hh⟩, hl, hk, hs⟩, st⟩ := ChN.pays x t A cs.length (fun j => cs.getD j 0) z fm i (tabChN_of (movedChN hZ hw)) hfr hlo m meth c P g ig mk _ X hg hsize hdg hW hn ⟨r1, r2, rfl, hx, hi, sta_is al S, hz, sta_is al F, rf⟩
  exact ⟨v, B, X', ⟨[], ⟨hv, rfl, hh⟩, hl, hk, hs⟩, st⟩
end StrChars.Road
end Jvm.Pilot.@@N@@
namespace Jvm.Pilot.@@N@@
open Jvm Jvm.ClassFile Sem Op Lib Jvm.Free Jvm.Stand Jvm.LawKit Jvm.RoadKit Bundle Jvm.OwnGo Jvm.Pilot.@@N@@.Jvm.D
set_option maxRecDepth 65536
set_option maxHeartbeats 40000000
theorem nb {n m : Nat} (h : Nat.ble n m = true) : n ≤ m := Nat.le_of_ble_eq_true h
theorem mg {α : Type} {l : List α} {i : Nat} {a : α} (h : l[i]? = some a) : a ∈ l := List.mem_of_getElem? h
def w_0 := (mg (i := 0) rfl : _ ∈ tables_1)
def w_1 := (mg (i := 1) rfl : _ ∈ tables_1)
def w_2 := (mg (i := 2) rfl : _ ∈ tables_1)
def w_3 := (mg (i := 3) rfl : _ ∈ tables_1)
def w_4 := (mg (i := 4) rfl : _ ∈ tables_1)
def w_5 := (mg (i := 5) rfl : _ ∈ tables_1)
def w_6 := (mg (i := 6) rfl : _ ∈ tables_1)
def w_7 := (mg (i := 7) rfl : _ ∈ tables_1)
def w_8 := (mg (i := 8) rfl : _ ∈ tables_1)
def w_9 := (mg (i := 9) rfl : _ ∈ tables_1)
def w_10 := (mg (i := 10) rfl : _ ∈ tables_1)
def w_11 := (mg (i := 11) rfl : _ ∈ tables_1)
def w_12 := (mg (i := 12) rfl : _ ∈ tables_1)
def w_13 := (mg (i := 13) rfl : _ ∈ tables_1)
def w_14 := (mg (i := 14) rfl : _ ∈ tables_1)
def w_15 := (mg (i := 15) rfl : _ ∈ tables_1)
def w_16 := (mg (i := 16) rfl : _ ∈ tables_1)
def w_17 := (mg (i := 17) rfl : _ ∈ tables_1)
def w_18 := (mg (i := 18) rfl : _ ∈ tables_1)
def w_19 := (mg (i := 19) rfl : _ ∈ tables_1)
def w_20 := (mg (i := 20) rfl : _ ∈ tables_1)
def w_22 := (mg (i := 22) rfl : _ ∈ tables_1)
def w_23 := (mg (i := 23) rfl : _ ∈ tables_1)
def w_24 := (mg (i := 24) rfl : _ ∈ tables_1)
def w_25 := (mg (i := 25) rfl : _ ∈ tables_1)
def w_26 := (mg (i := 26) rfl : _ ∈ tables_1)
def w_27 := (mg (i := 27) rfl : _ ∈ tables_1)
def w_28 := (mg (i := 28) rfl : _ ∈ tables_1)
def w_29 := (mg (i := 29) rfl : _ ∈ tables_1)
def w_30 := (mg (i := 30) rfl : _ ∈ tables_1)
def w_33 := (mg (i := 33) rfl : _ ∈ tables_1)
def w_34 := (mg (i := 34) rfl : _ ∈ tables_1)
def w_35 := (mg (i := 35) rfl : _ ∈ tables_1)
def w_36 := (mg (i := 36) rfl : _ ∈ tables_1)
def w_37 := (mg (i := 37) rfl : _ ∈ tables_1)
def w_38 := (mg (i := 38) rfl : _ ∈ tables_1)
def w_39 := (mg (i := 39) rfl : _ ∈ tables_1)
def w_40 := (mg (i := 40) rfl : _ ∈ tables_1)
def w_41 := (mg (i := 41) rfl : _ ∈ tables_1)
def w_42 := (mg (i := 42) rfl : _ ∈ tables_1)
def w_43 := (mg (i := 43) rfl : _ ∈ tables_1)
def w_44 := (mg (i := 44) rfl : _ ∈ tables_1)
def w_45 := (mg (i := 45) rfl : _ ∈ tables_1)
def w_46 := (mg (i := 46) rfl : _ ∈ tables_1)
def w_47 := (mg (i := 47) rfl : _ ∈ tables_1)
def w_50 := (mg (i := 50) rfl : _ ∈ tables_1)
def w_51 := (mg (i := 51) rfl : _ ∈ tables_1)
def w_52 := (mg (i := 52) rfl : _ ∈ tables_1)
def w_53 := (mg (i := 53) rfl : _ ∈ tables_1)
def w_54 := (mg (i := 54) rfl : _ ∈ tables_1)
def w_55 := (mg (i := 55) rfl : _ ∈ tables_1)
def w_56 := (mg (i := 56) rfl : _ ∈ tables_1)
def w_57 := (mg (i := 57) rfl : _ ∈ tables_1)
def w_58 := (mg (i := 58) rfl : _ ∈ tables_1)
def w_59 := (mg (i := 59) rfl : _ ∈ tables_1)
def w_60 := (mg (i := 60) rfl : _ ∈ tables_1)
def w_61 := (mg (i := 61) rfl : _ ∈ tables_1)
def w_62 := (mg (i := 62) rfl : _ ∈ tables_1)
def w_63 := (mg (i := 63) rfl : _ ∈ tables_1)
def w_64 := (mg (i := 64) rfl : _ ∈ tables_1)
def w_65 := (mg (i := 65) rfl : _ ∈ tables_1)
def w_66 := (mg (i := 66) rfl : _ ∈ tables_1)
def w_67 := (mg (i := 67) rfl : _ ∈ tables_1)
def w_68 := (mg (i := 68) rfl : _ ∈ tables_1)
def w_69 := (mg (i := 69) rfl : _ ∈ tables_1)
def w_70 := (mg (i := 70) rfl : _ ∈ tables_1)
def w_71 := (mg (i := 71) rfl : _ ∈ tables_1)
def w_72 := (mg (i := 72) rfl : _ ∈ tables_1)
def w_73 := (mg (i := 73) rfl : _ ∈ tables_1)
def w_74 := (mg (i := 74) rfl : _ ∈ tables_1)
def w_75 := (mg (i := 75) rfl : _ ∈ tables_1)
def w_77 := (mg (i := 77) rfl : _ ∈ tables_1)
def w_78 := (mg (i := 78) rfl : _ ∈ tables_1)
def w_79 := (mg (i := 79) rfl : _ ∈ tables_1)
def w_80 := (mg (i := 80) rfl : _ ∈ tables_1)
def w_81 := (mg (i := 81) rfl : _ ∈ tables_1)
def w_82 := (mg (i := 82) rfl : _ ∈ tables_1)
def w_83 := (mg (i := 83) rfl : _ ∈ tables_1)
def w_84 := (mg (i := 84) rfl : _ ∈ tables_1)
def w_85 := (mg (i := 85) rfl : _ ∈ tables_1)
def w_86 := (mg (i := 86) rfl : _ ∈ tables_1)
def w_88 := (mg (i := 88) rfl : _ ∈ tables_1)
def w_89 := (mg (i := 89) rfl : _ ∈ tables_1)
def w_90 := (mg (i := 90) rfl : _ ∈ tables_1)
def w_91 := (mg (i := 91) rfl : _ ∈ tables_1)
def w_93 := (mg (i := 93) rfl : _ ∈ tables_1)
def w_94 := (mg (i := 94) rfl : _ ∈ tables_1)
def w_95 := (mg (i := 95) rfl : _ ∈ tables_1)
def w_96 := (mg (i := 96) rfl : _ ∈ tables_1)
def w_98 := (mg (i := 98) rfl : _ ∈ tables_1)
def w_99 := (mg (i := 99) rfl : _ ∈ tables_1)
def w_100 := (mg (i := 100) rfl : _ ∈ tables_1)
def w_101 := (mg (i := 101) rfl : _ ∈ tables_1)
def w_102 := (mg (i := 102) rfl : _ ∈ tables_1)
def w_103 := (mg (i := 103) rfl : _ ∈ tables_1)
def w_104 := (mg (i := 104) rfl : _ ∈ tables_1)
def w_105 := (mg (i := 105) rfl : _ ∈ tables_1)
def w_106 := (mg (i := 106) rfl : _ ∈ tables_1)
def w_107 := (mg (i := 107) rfl : _ ∈ tables_1)
def w_108 := (mg (i := 108) rfl : _ ∈ tables_1)
def w_109 := (mg (i := 109) rfl : _ ∈ tables_1)
def w_110 := (mg (i := 110) rfl : _ ∈ tables_1)
def w_111 := (mg (i := 111) rfl : _ ∈ tables_1)
def w_112 := (mg (i := 112) rfl : _ ∈ tables_1)
def w_113 := (mg (i := 113) rfl : _ ∈ tables_1)
def w_114 := (mg (i := 114) rfl : _ ∈ tables_1)
def w_115 := (mg (i := 115) rfl : _ ∈ tables_1)
def w_116 := (mg (i := 116) rfl : _ ∈ tables_1)
def w_117 := (mg (i := 117) rfl : _ ∈ tables_1)
def w_118 := (mg (i := 118) rfl : _ ∈ tables_1)
def w_119 := (mg (i := 119) rfl : _ ∈ tables_1)
def w_120 := (mg (i := 120) rfl : _ ∈ tables_1)
def w_121 := (mg (i := 121) rfl : _ ∈ tables_1)
def w_122 := (mg (i := 122) rfl : _ ∈ tables_1)
def w_123 := (mg (i := 123) rfl : _ ∈ tables_1)
def w_124 := (mg (i := 124) rfl : _ ∈ tables_1)
def w_125 := (mg (i := 125) rfl : _ ∈ tables_1)
def w_126 := (mg (i := 126) rfl : _ ∈ tables_1)
def w_127 := (mg (i := 127) rfl : _ ∈ tables_1)
def w_128 := (mg (i := 128) rfl : _ ∈ tables_1)
def w_129 := (mg (i := 129) rfl : _ ∈ tables_1)
def w_130 := (mg (i := 130) rfl : _ ∈ tables_1)
def w_131 := (mg (i := 131) rfl : _ ∈ tables_1)
def w_132 := (mg (i := 132) rfl : _ ∈ tables_1)
def w_133 := (mg (i := 133) rfl : _ ∈ tables_1)
def w_134 := (mg (i := 134) rfl : _ ∈ tables_1)
def w_135 := (mg (i := 135) rfl : _ ∈ tables_1)
def w_136 := (mg (i := 136) rfl : _ ∈ tables_1)
def w_137 := (mg (i := 137) rfl : _ ∈ tables_1)
def w_138 := (mg (i := 138) rfl : _ ∈ tables_1)
def w_139 := (mg (i := 139) rfl : _ ∈ tables_1)
def w_140 := (mg (i := 140) rfl : _ ∈ tables_1)
def w_141 := (mg (i := 141) rfl : _ ∈ tables_1)
def w_142 := (mg (i := 142) rfl : _ ∈ tables_1)
def w_143 := (mg (i := 143) rfl : _ ∈ tables_1)
def w_144 := (mg (i := 144) rfl : _ ∈ tables_1)
def w_145 := (mg (i := 145) rfl : _ ∈ tables_1)
def w_146 := (mg (i := 146) rfl : _ ∈ tables_1)
def w_147 := (mg (i := 147) rfl : _ ∈ tables_1)
def w_148 := (mg (i := 148) rfl : _ ∈ tables_1)
def w_149 := (mg (i := 149) rfl : _ ∈ tables_1)
def w_150 := (mg (i := 150) rfl : _ ∈ tables_1)
def w_151 := (mg (i := 151) rfl : _ ∈ tables_1)
def w_152 := (mg (i := 152) rfl : _ ∈ tables_1)
def w_153 := (mg (i := 153) rfl : _ ∈ tables_1)
def w_154 := (mg (i := 154) rfl : _ ∈ tables_1)
def w_155 := (mg (i := 155) rfl : _ ∈ tables_1)
def w_156 := (mg (i := 156) rfl : _ ∈ tables_1)
def w_157 := (mg (i := 157) rfl : _ ∈ tables_1)
def w_158 := (mg (i := 158) rfl : _ ∈ tables_1)
def w_159 := (mg (i := 159) rfl : _ ∈ tables_1)
def w_160 := (mg (i := 160) rfl : _ ∈ tables_1)
def w_161 := (mg (i := 161) rfl : _ ∈ tables_1)
def w_162 := (mg (i := 162) rfl : _ ∈ tables_1)
def w_163 := (mg (i := 163) rfl : _ ∈ tables_1)
def w_164 := (mg (i := 164) rfl : _ ∈ tables_1)
def w_165 := (mg (i := 165) rfl : _ ∈ tables_1)
def w_166 := (mg (i := 166) rfl : _ ∈ tables_1)
def w_167 := (mg (i := 167) rfl : _ ∈ tables_1)
def w_168 := (mg (i := 168) rfl : _ ∈ tables_1)
def w_169 := (mg (i := 169) rfl : _ ∈ tables_1)
def w_170 := (mg (i := 170) rfl : _ ∈ tables_1)
def w_171 := (mg (i := 171) rfl : _ ∈ tables_1)
def w_172 := (mg (i := 172) rfl : _ ∈ tables_1)
def w_173 := (mg (i := 173) rfl : _ ∈ tables_1)
def w_174 := (mg (i := 174) rfl : _ ∈ tables_1)
def w_175 := (mg (i := 175) rfl : _ ∈ tables_1)
def w_176 := (mg (i := 176) rfl : _ ∈ tables_1)
def w_177 := (mg (i := 177) rfl : _ ∈ tables_1)
def w_178 := (mg (i := 178) rfl : _ ∈ tables_1)
def w_179 := (mg (i := 179) rfl : _ ∈ tables_1)
def w_180 := (mg (i := 180) rfl : _ ∈ tables_1)
def w_181 := (mg (i := 181) rfl : _ ∈ tables_1)
def w_182 := (mg (i := 182) rfl : _ ∈ tables_1)
def w_183 := (mg (i := 183) rfl : _ ∈ tables_1)
def w_184 := (mg (i := 184) rfl : _ ∈ tables_1)
def w_185 := (mg (i := 185) rfl : _ ∈ tables_1)
def w_186 := (mg (i := 186) rfl : _ ∈ tables_1)
def w_187 := (mg (i := 187) rfl : _ ∈ tables_1)
def w_188 := (mg (i := 188) rfl : _ ∈ tables_1)
def w_189 := (mg (i := 189) rfl : _ ∈ tables_1)
def w_190 := (mg (i := 190) rfl : _ ∈ tables_1)
def w_191 := (mg (i := 191) rfl : _ ∈ tables_1)
def w_192 := (mg (i := 192) rfl : _ ∈ tables_1)
def w_193 := (mg (i := 193) rfl : _ ∈ tables_1)
def w_194 := (mg (i := 194) rfl : _ ∈ tables_1)
def w_195 := (mg (i := 195) rfl : _ ∈ tables_1)
def w_196 := (mg (i := 196) rfl : _ ∈ tables_1)
def w_197 := (mg (i := 197) rfl : _ ∈ tables_1)
def w_198 := (mg (i := 198) rfl : _ ∈ tables_1)
def w_199 := (mg (i := 199) rfl : _ ∈ tables_1)
def w_200 := (mg (i := 200) rfl : _ ∈ tables_1)
def w_202 := (mg (i := 202) rfl : _ ∈ tables_1)
def w_203 := (mg (i := 203) rfl : _ ∈ tables_1)
def w_204 := (mg (i := 204) rfl : _ ∈ tables_1)
def w_205 := (mg (i := 205) rfl : _ ∈ tables_1)
def w_206 := (mg (i := 206) rfl : _ ∈ tables_1)
def w_207 := (mg (i := 207) rfl : _ ∈ tables_1)
def w_208 := (mg (i := 208) rfl : _ ∈ tables_1)
def w_209 := (mg (i := 209) rfl : _ ∈ tables_1)
def w_210 := (mg (i := 210) rfl : _ ∈ tables_1)
def w_211 := (mg (i := 211) rfl : _ ∈ tables_1)
def w_212 := (mg (i := 212) rfl : _ ∈ tables_1)
def w_213 := (mg (i := 213) rfl : _ ∈ tables_1)
def w_214 := (mg (i := 214) rfl : _ ∈ tables_1)
def w_215 := (mg (i := 215) rfl : _ ∈ tables_1)
def w_216 := (mg (i := 216) rfl : _ ∈ tables_1)
def w_217 := (mg (i := 217) rfl : _ ∈ tables_1)
def w_218 := (mg (i := 218) rfl : _ ∈ tables_1)
def w_219 := (mg (i := 219) rfl : _ ∈ tables_1)
def w_220 := (mg (i := 220) rfl : _ ∈ tables_1)
def w_221 := (mg (i := 221) rfl : _ ∈ tables_1)
def w_222 := (mg (i := 222) rfl : _ ∈ tables_1)
def w_223 := (mg (i := 223) rfl : _ ∈ tables_1)
def w_224 := (mg (i := 224) rfl : _ ∈ tables_1)
def w_225 := (mg (i := 225) rfl : _ ∈ tables_1)
def w_226 := (mg (i := 226) rfl : _ ∈ tables_1)
def w_227 := (mg (i := 227) rfl : _ ∈ tables_1)
def w_228 := (mg (i := 228) rfl : _ ∈ tables_1)
def w_229 := (mg (i := 229) rfl : _ ∈ tables_1)
def w_230 := (mg (i := 230) rfl : _ ∈ tables_1)
def w_231 := (mg (i := 231) rfl : _ ∈ tables_1)
def w_232 := (mg (i := 232) rfl : _ ∈ tables_1)
def w_233 := (mg (i := 233) rfl : _ ∈ tables_1)
def w_234 := (mg (i := 234) rfl : _ ∈ tables_1)
def w_235 := (mg (i := 235) rfl : _ ∈ tables_1)
def w_236 := (mg (i := 236) rfl : _ ∈ tables_1)
def w_237 := (mg (i := 237) rfl : _ ∈ tables_1)
def w_238 := (mg (i := 238) rfl : _ ∈ tables_1)
def w_239 := (mg (i := 239) rfl : _ ∈ tables_1)
def w_240 := (mg (i := 240) rfl : _ ∈ tables_1)
def w_241 := (mg (i := 241) rfl : _ ∈ tables_1)
def w_242 := (mg (i := 242) rfl : _ ∈ tables_1)
def w_243 := (mg (i := 243) rfl : _ ∈ tables_1)
def w_244 := (mg (i := 244) rfl : _ ∈ tables_1)
def w_255 := (mg (i := 255) rfl : _ ∈ tables_1)
def w_256 := (mg (i := 256) rfl : _ ∈ tables_1)
def w_257 := (mg (i := 257) rfl : _ ∈ tables_1)
def w_271 := (mg (i := 271) rfl : _ ∈ tables_1)
def w_272 := (mg (i := 272) rfl : _ ∈ tables_1)
def w_273 := (mg (i := 273) rfl : _ ∈ tables_1)
def w_274 := (mg (i := 274) rfl : _ ∈ tables_1)
def w_275 := (mg (i := 275) rfl : _ ∈ tables_1)
def w_280 := (mg (i := 280) rfl : _ ∈ tables_1)
def w_281 := (mg (i := 281) rfl : _ ∈ tables_1)
def w_282 := (mg (i := 282) rfl : _ ∈ tables_1)
def w_283 := (mg (i := 283) rfl : _ ∈ tables_1)
def w_284 := (mg (i := 284) rfl : _ ∈ tables_1)
def w_285 := (mg (i := 285) rfl : _ ∈ tables_1)
def w_286 := (mg (i := 286) rfl : _ ∈ tables_1)
def w_287 := (mg (i := 287) rfl : _ ∈ tables_1)
def w_288 := (mg (i := 288) rfl : _ ∈ tables_1)
def w_289 := (mg (i := 289) rfl : _ ∈ tables_1)
def w_290 := (mg (i := 290) rfl : _ ∈ tables_1)
def w_291 := (mg (i := 291) rfl : _ ∈ tables_1)
def w_292 := (mg (i := 292) rfl : _ ∈ tables_1)
def w_293 := (mg (i := 293) rfl : _ ∈ tables_1)
def w_294 := (mg (i := 294) rfl : _ ∈ tables_1)
def w_295 := (mg (i := 295) rfl : _ ∈ tables_1)
def w_296 := (mg (i := 296) rfl : _ ∈ tables_1)
def w_297 := (mg (i := 297) rfl : _ ∈ tables_1)
def w_298 := (mg (i := 298) rfl : _ ∈ tables_1)
def w_299 := (mg (i := 299) rfl : _ ∈ tables_1)
def w_300 := (mg (i := 300) rfl : _ ∈ tables_1)
def w_301 := (mg (i := 301) rfl : _ ∈ tables_1)
def w_302 := (mg (i := 302) rfl : _ ∈ tables_1)
def w_303 := (mg (i := 303) rfl : _ ∈ tables_1)
def w_304 := (mg (i := 304) rfl : _ ∈ tables_1)
def w_305 := (mg (i := 305) rfl : _ ∈ tables_1)
def w_306 := (mg (i := 306) rfl : _ ∈ tables_1)
def w_307 := (mg (i := 307) rfl : _ ∈ tables_1)
def w_308 := (mg (i := 308) rfl : _ ∈ tables_1)
def w_309 := (mg (i := 309) rfl : _ ∈ tables_1)
def w_310 := (mg (i := 310) rfl : _ ∈ tables_1)
def w_311 := (mg (i := 311) rfl : _ ∈ tables_1)
def w_312 := (mg (i := 312) rfl : _ ∈ tables_1)
def w_313 := (mg (i := 313) rfl : _ ∈ tables_1)
def w_314 := (mg (i := 314) rfl : _ ∈ tables_1)
def w_315 := (mg (i := 315) rfl : _ ∈ tables_1)
def w_316 := (mg (i := 316) rfl : _ ∈ tables_1)
def w_317 := (mg (i := 317) rfl : _ ∈ tables_1)
def w_318 := (mg (i := 318) rfl : _ ∈ tables_1)
def w_319 := (mg (i := 319) rfl : _ ∈ tables_1)
def w_320 := (mg (i := 320) rfl : _ ∈ tables_1)
def w_321 := (mg (i := 321) rfl : _ ∈ tables_1)
def w_322 := (mg (i := 322) rfl : _ ∈ tables_1)
def w_323 := (mg (i := 323) rfl : _ ∈ tables_1)
def w_324 := (mg (i := 324) rfl : _ ∈ tables_1)
def w_326 := (mg (i := 326) rfl : _ ∈ tables_1)
def w_327 := (mg (i := 327) rfl : _ ∈ tables_1)
def w_328 := (mg (i := 328) rfl : _ ∈ tables_1)
def w_329 := (mg (i := 329) rfl : _ ∈ tables_1)
def w_330 := (mg (i := 330) rfl : _ ∈ tables_1)
def w_332 := (mg (i := 332) rfl : _ ∈ tables_1)
/-- a char of one byte -/
def Ch8 (c : Int32) : Prop := ¬ c < 0 ∧ ¬ (255 : Int32) < c
theorem ch8_mask (x : Int32) : Ch8 (x &&& 255) := by
  have h : (x &&& 255).toBitVec.toNat < 256 := by
    simp only [Int32.toBitVec_and, BitVec.toNat_and]
    exact Nat.lt_succ_of_le Nat.and_le_right
  have e : (x &&& 255) = Int32.ofNat (x &&& 255).toBitVec.toNat := by
    apply Int32.toBitVec_inj.mp
    show _ = BitVec.ofNat 32 _
    rw [BitVec.ofNat_toNat]; simp
  rw [e]
  exact (by decide +kernel : ∀ k : Fin 256, ¬ Int32.ofNat k.val < 0 ∧ ¬ (255 : Int32) < Int32.ofNat k.val) ⟨_, h⟩
theorem ch8_fin {c : Int32} (h : Ch8 c) : ∃ k : Fin 256, c = Int32.ofNat k.val := by
  obtain ⟨h1, h2⟩ := h
  rw [Int32.lt_iff_toInt_lt] at h1 h2
  have e1 : (0 : Int32).toInt = 0 := (by decide)
  have e2 : (255 : Int32).toInt = 255 := (by decide)
  have e3 : (Int32.ofNat c.toInt.toNat).toInt = (c.toInt.toNat : Int) := Int32.toInt_ofNat_of_lt (by omega)
  refine ⟨⟨c.toInt.toNat, by omega⟩, Int32.toInt_inj.mp ?_⟩
  show c.toInt = (Int32.ofNat c.toInt.toNat).toInt
  rw [e3]
  omega
theorem nar_ch8 {c : Int32} (h : Ch8 c) : nar .char c = c := by
  obtain ⟨k, rfl⟩ := ch8_fin h
  exact (by decide +kernel : ∀ k : Fin 256, nar .char (Int32.ofNat k.val) = Int32.ofNat k.val) k
theorem ch8_i2c (x : Int32) : Ch8 ((x &&& 255).toUInt32.toUInt16.toUInt32.toInt32) := by
  rw [i2c_mask]; exact ch8_mask x
theorem ch8_l2c (x : Int64) : Ch8 ((x &&& 255).toInt32.toUInt32.toUInt16.toUInt32.toInt32) := by
  rw [Int64.toInt32_and]; exact ch8_i2c x.toInt32
theorem own_allc {c : Int32} {cs : List Int32} (h : Ch8 c) (r : ∀ c ∈ cs, ¬ c < 0 ∧ ¬ (255 : Int32) < c) : ∀ x ∈ c :: cs, ¬ x < 0 ∧ ¬ (255 : Int32) < x := fun x hx => (List.mem_cons.mp hx).elim (fun e => e ▸ h) (r x)
theorem own_sA : ∀ a ∈ Bundle.stringAtoms, a ∈ tables_1 := by decide +kernel

theorem ct_newS {l : Launch} {Z : State} {a0 : Array Value} {EL : List (String × Nat)} (hEL : EW Z a0 EL) (hw : ∀ d ∈ tables_1, d.before a0 Z = true) {h : Heap} {x b : Addr} {kC : ClassId} {cs : List Int32} {d v0 c0 : Value} {z : Int32} {n n0 : Nat} (E : Exa Z h x "java/lang/String") (V : Fld Z h x "java/lang/String" "value" "[B" v0) (C : Fld Z h x "java/lang/String" "coder" "B" c0) (K : Arv Z h b kC .char (Int32.ofNat n) (cs.map Value.int) d) (S : Sta Z h "java/lang/String" "COMPACT_STRINGS" "Z" (.int z)) (hz : ¬ z = 0) (hn : cs.length = n) (l0 : 0 < n) (l2 : n ≤ 4000) (hp : ∀ c ∈ cs, ¬ c < 0 ∧ ¬ (255 : Int32) < c) :
    Ct l Z EL (⟨"java/lang/String", "<init>", "([C)V"⟩ : MethodName) 2 ({ frames := 3, cells := 1, slots := n, locals := 52 } : Room) [x] #[.ref x, .ref b] h n0 (nq fun v h' => v = none ∧ Keep h h' [x] ∧ ∃ t kb, h.size ≤ t ∧ t ≠ x ∧ Str Z h' x t kb cs) := by
  have hws : ∀ d ∈ StrChars.Road.words, d.before a0 Z = true := fun d hd => hw d ((by decide +kernel : ∀ d ∈ StrChars.Road.words, d ∈ tables_1) d hd)
  refine ct_back hEL (fun v h' q => q.2.1) ?_
  intro R p e below s args len W hZ hn0 hfs hf hl
  refine Back.mono (StrChars.Road.backV hZ hws (hw _ w_14) (hfs _ (List.mem_cons_self ..)) hn0 E V C K S hz hn rfl l0 l2 hp rfl hf (by simp only [] at hl; omega)) (fun P a q => q) (fun P a v B hp' hq => ?_)
  obtain ⟨L, ⟨q1, q2, q3, q4, q5, t, kb, r1, r2, r3, r4, r5⟩, hl', hc', hs'⟩ := hq
  exact ⟨L, ⟨⟨q1, q3, t, kb, r2, r3, q4, q5, r4, by rw [hn]; exact r5, by rw [hn]; exact l2, hp⟩, q2⟩, hl', hc', hs'⟩
theorem own_cod {cs : List Int32} (hp : ∀ c ∈ cs, ¬ c < 0 ∧ ¬ (255 : Int32) < c) : StrChars.Road.CodA cs 0 (Int32.ofNat cs.length) ((cs.map fun c => c.toInt8.toInt32).map Value.int) := Or.inl ⟨rfl, rfl, by rw [List.map_map]; rfl, fun c hc => (hp c hc).2⟩
theorem own_up {cs : List Int32} (hp : ∀ c ∈ cs, ¬ c < 0 ∧ ¬ (255 : Int32) < c) : ∀ c ∈ cs, ¬ c < 0 ∧ ¬ (65535 : Int32) < c := fun c hc => ⟨(hp c hc).1, fun q => (hp c hc).2 (by
  rw [Int32.lt_iff_toInt_lt] at q ⊢
  have e1 : (255 : Int32).toInt = 255 := by decide
  have e2 : (65535 : Int32).toInt = 65535 := by decide
  omega)⟩
theorem ct_len {l : Launch} {Z : State} {a0 : Array Value} {EL : List (String × Nat)} (hEL : EW Z a0 EL) (hw : ∀ d ∈ tables_1, d.before a0 Z = true) {h : Heap} {z : Int32} {n0 : Nat} {x t : Addr} {kb : ClassId} {cs : List Int32} (S : Str Z h x t kb cs) (Sz : Sta Z h "java/lang/String" "COMPACT_STRINGS" "Z" (.int z)) (hz : ¬ z = 0) :
    Ct l Z EL (⟨"java/lang/String", "length", "()I"⟩ : MethodName) 1 ({ frames := 1, cells := 0, slots := 0, locals := 13 } : Room) [] #[.ref x] h n0 (nq fun v h' => v = some (.int (Int32.ofNat cs.length)) ∧ h' = h) := by
  have hws : ∀ d ∈ StrChars.Road.wordsLen, d.before a0 Z = true := fun d hd => hw d ((by decide +kernel : ∀ d ∈ StrChars.Road.wordsLen, d ∈ tables_1) d hd)
  refine ct_back hEL (fun v h' q => (by rw [q.2]; exact Keep.refl _ _)) ?_
  intro R p e below s args len W hZ hn0 hfs hf hl
  refine Back.mono (StrChars.Road.lenW hZ hws (hw _ w_14) S.1 S.2.2.1 S.2.1 S.2.2.2.1 (own_cod S.2.2.2.2.2) (own_up S.2.2.2.2.2) Sz hz S.2.2.2.2.1 hf (by simp only [] at hl; omega)) (fun P a q => q) (fun P a v B hp' hq => ?_)
  obtain ⟨L, ⟨q1, rfl, q3⟩, hl', hc', hs'⟩ := hq
  exact ⟨[], ⟨⟨q1, q3⟩, Fr.nil _⟩, hl', hc', hs'⟩
theorem ct_ch {l : Launch} {Z : State} {a0 : Array Value} {EL : List (String × Nat)} (hEL : EW Z a0 EL) (hw : ∀ d ∈ tables_1, d.before a0 Z = true) {h : Heap} {z : Int32} {n0 : Nat} {x t : Addr} {kb : ClassId} {cs : List Int32} {fm : Value} (S : Str Z h x t kb cs) (Sz : Sta Z h "java/lang/String" "COMPACT_STRINGS" "Z" (.int z)) (hz : ¬ z = 0) (F : Sta Z h "jdk/internal/util/Preconditions" "SIOOBE_FORMATTER" "Ljava/util/function/BiFunction;" fm) (rf : fm.isRef = true) (i : Nat) (hi : i < cs.length) (j : Int32) (hj : j = Int32.ofNat i) :
    Ct l Z EL (⟨"java/lang/String", "charAt", "(I)C"⟩ : MethodName) 2 ({ frames := 3, cells := 0, slots := 0, locals := 40 } : Room) [] #[.ref x, .int j] h n0 (nq fun v h' => v = some (.int (cs.getD i 0)) ∧ h' = h) := by
  have hws : ∀ d ∈ StrChars.Road.wordsChN, d.before a0 Z = true := fun d hd => hw d ((by decide +kernel : ∀ d ∈ StrChars.Road.wordsChN, d ∈ tables_1) d hd)
  refine ct_back hEL (fun v h' q => (by rw [q.2]; exact Keep.refl _ _)) ?_
  intro R p e below s args len W hZ hn0 hfs hf hl
  refine Back.mono (StrChars.Road.chN hZ hws (hw _ w_14) S.1 S.2.2.1 S.2.1 S.2.2.2.1 (own_cod S.2.2.2.2.2) (own_up S.2.2.2.2.2) Sz hz F rf S.2.2.2.2.1 hi hj hf (by simp only [] at hl; omega)) (fun P a q => q) (fun P a v B hp' hq => ?_)
  obtain ⟨L, ⟨q1, rfl, q3⟩, hl', hc', hs'⟩ := hq
  exact ⟨[], ⟨⟨q1, q3⟩, Fr.nil _⟩, hl', hc', hs'⟩
theorem ct_eq {l : Launch} {Z : State} {a0 : Array Value} {EL : List (String × Nat)} (hEL : EW Z a0 EL) (hw : ∀ d ∈ tables_1, d.before a0 Z = true) {h : Heap} {z : Int32} {n0 : Nat} {x t y t' : Addr} {kb kb' : ClassId} {cs ds : List Int32} (S : Str Z h x t kb cs) (S' : Str Z h y t' kb' ds) (Sz : Sta Z h "java/lang/String" "COMPACT_STRINGS" "Z" (.int z)) (hz : ¬ z = 0) :
    Ct l Z EL (⟨"java/lang/String", "equals", "(Ljava/lang/Object;)Z"⟩ : MethodName) 3 ({ frames := 1, cells := 0, slots := 0, locals := 14 } : Room) [] #[.ref x, .ref y] h n0 (nq fun v h' => v = some (.int (if cs = ds then 1 else 0)) ∧ h' = h) := by
  have hws : ∀ d ∈ StrChars.Road.wordsEq, d.before a0 Z = true := fun d hd => hw d ((by decide +kernel : ∀ d ∈ StrChars.Road.wordsEq, d ∈ tables_1) d hd)
  refine ct_back hEL (fun v h' q => (by rw [q.2]; exact Keep.refl _ _)) ?_
  intro R p e below s args len W hZ hn0 hfs hf hl
  refine Back.mono (StrChars.Road.eqW hZ hws (hw _ w_14) S.1 S.2.2.1 S.2.1 S.2.2.2.1 (own_cod S.2.2.2.2.2) (own_up S.2.2.2.2.2) S.2.2.2.2.1 S'.1 S'.2.2.1 S'.2.1 S'.2.2.2.1 (own_cod S'.2.2.2.2.2) (own_up S'.2.2.2.2.2) S'.2.2.2.2.1 Sz hz hf (by simp only [] at hl; omega)) (fun P a q => q) (fun P a v B hp' hq => ?_)
  obtain ⟨L, ⟨q1, rfl, q3⟩, hl', hc', hs'⟩ := hq
  refine ⟨[], ⟨⟨?_, q3⟩, Fr.nil _⟩, hl', hc', hs'⟩
  rcases q1 with ⟨r, e⟩ | ⟨r, e⟩
  · rw [r, if_pos e]
  · rw [r, if_neg e]

theorem on_lt {a b : Nat} (ha : a ≤ 100000) (hb : b ≤ 100000) : (Int32.ofNat a < Int32.ofNat b) ↔ a < b := by
  rw [Int32.lt_iff_toInt_lt, Int32.toInt_ofNat_of_lt (by omega), Int32.toInt_ofNat_of_lt (by omega)]; omega
theorem on_eq {a b : Nat} (ha : a ≤ 100000) (hb : b ≤ 100000) : (Int32.ofNat a = Int32.ofNat b) ↔ a = b := by
  rw [← Int32.toInt_inj, Int32.toInt_ofNat_of_lt (by omega), Int32.toInt_ofNat_of_lt (by omega)]; omega
theorem on_add (a b : Nat) : Int32.ofNat a + Int32.ofNat b = Int32.ofNat (a + b) := (Int32.ofNat_add a b).symm
theorem on_sub {a b : Nat} (h : b ≤ a) : Int32.ofNat a - Int32.ofNat b = Int32.ofNat (a - b) := by
  have q : Int32.ofNat a = Int32.ofNat (a - b) + Int32.ofNat b := by rw [on_add, Nat.sub_add_cancel h]
  rw [q, Int32.add_sub_cancel]
theorem on_pos {a b : Nat} (ha : a ≤ 100000) (hb : b ≤ 100000) : (0 : Int32) < Int32.ofNat a - Int32.ofNat b ↔ b < a := by
  have e1 : (Int32.ofNat a).toInt = a := Int32.toInt_ofNat_of_lt (by omega)
  have e2 : (Int32.ofNat b).toInt = b := Int32.toInt_ofNat_of_lt (by omega)
  have e3 : (Int32.ofNat a - Int32.ofNat b).toInt = (a : Int) - b := by rw [XT.sub32 (by rw [e1, e2]; unfold XT.fits32; omega), e1, e2]
  rw [Int32.lt_iff_toInt_lt, e3]
  show (0 : Int) < (a : Int) - b ↔ b < a
  omega
theorem on_nat {a : Nat} (ha : a ≤ 100000) : (Int32.ofNat a).toNatClampNeg = a := by
  show (Int32.ofNat a).toInt.toNat = a
  rw [Int32.toInt_ofNat_of_lt (by omega)] <;> rfl
theorem on_nn {a : Nat} (ha : a ≤ 100000) : ¬ Int32.ofNat a < 0 := fun q => absurd ((on_lt (b := 0) ha (Nat.zero_le _)).mp q) (Nat.not_lt_zero _)
theorem on_gt0 {a : Nat} (ha : a ≤ 100000) (h : 0 < a) : (0 : Int32) < Int32.ofNat a := (on_lt (a := 0) (Nat.zero_le _) ha).mpr h
theorem on_ne0 {a : Nat} (ha : a ≤ 100000) (h : 0 < a) : ¬ Int32.ofNat a = 0 := fun q => absurd ((on_eq (b := 0) ha (Nat.zero_le _)).mp q) (Nat.ne_of_gt h)
theorem on_nmax {a : Nat} (ha : a ≤ 100000) : ¬ Int32.ofNat a = (2147483647 : Int32) := fun q => by
  have e1 : (Int32.ofNat a).toInt = a := Int32.toInt_ofNat_of_lt (by omega)
  have e2 : (2147483647 : Int32).toInt = 2147483647 := by decide
  rw [q, e2] at e1
  omega
theorem on_nbig {a : Nat} (ha : a ≤ 100000) : ¬ (2147483639 : Int32) < Int32.ofNat a := by
  have e1 : (Int32.ofNat a).toInt = a := Int32.toInt_ofNat_of_lt (by omega)
  have e2 : (2147483639 : Int32).toInt = 2147483639 := by decide
  rw [Int32.lt_iff_toInt_lt, e1, e2]
  omega
theorem on_min {a b : Nat} (ha : a ≤ 100000) (hb : b ≤ 100000) : (if Int32.ofNat b < Int32.ofNat a then Int32.ofNat b else Int32.ofNat a) = Int32.ofNat (min a b) := by
  by_cases q : b < a
  · rw [if_pos ((on_lt hb ha).mpr q), Nat.min_eq_right (Nat.le_of_lt q)]
  · rw [if_neg (fun h => q ((on_lt hb ha).mp h)), Nat.min_eq_left (Nat.le_of_not_lt q)]
theorem on_max {a b : Nat} (ha : a ≤ 100000) (hb : b ≤ 100000) : (if Int32.ofNat a < Int32.ofNat b then Int32.ofNat b else Int32.ofNat a) = Int32.ofNat (max a b) := by
  by_cases q : a < b
  · rw [if_pos ((on_lt ha hb).mpr q), Nat.max_eq_right (Nat.le_of_lt q)]
  · rw [if_neg (fun h => q ((on_lt ha hb).mp h)), Nat.max_eq_left (Nat.le_of_not_lt q)]
theorem on_z : (0 : Int32).toNatClampNeg = 0 := rfl
theorem oc_0 {m z : Nat} (hm : m ≤ 100000) (hz : z ≤ 100000) (h : m ≤ z) : (0 : Int32).toNatClampNeg + (Int32.ofNat m).toNatClampNeg ≤ (Int32.ofNat z).toNatClampNeg := by
  have e1 := on_nat hm
  have e2 := on_nat hz
  have e0 := on_z
  omega
theorem oc_n {k m z : Nat} (hk : k ≤ 100000) (hm : m ≤ 100000) (hz : z ≤ 100000) (h : k + m ≤ z) : (Int32.ofNat k).toNatClampNeg + (Int32.ofNat m).toNatClampNeg ≤ (Int32.ofNat z).toNatClampNeg := by
  have e1 := on_nat hk
  have e2 := on_nat hm
  have e3 := on_nat hz
  omega
theorem oc_l (vs : List Value) (d : Value) {k m : Nat} (hk : k ≤ 100000) (hm : m ≤ 100000) (e : vs.length = k) : (Int32.ofNat k).toNatClampNeg + (Int32.ofNat m).toNatClampNeg ≤ (vs ++ List.replicate m d).length := by
  have e1 := on_nat hk
  have e2 := on_nat hm
  rw [List.length_append, List.length_replicate]
  omega
theorem oc_l0 (d : Value) {m : Nat} (hm : m ≤ 100000) : (0 : Int32).toNatClampNeg + (Int32.ofNat m).toNatClampNeg ≤ ([] ++ List.replicate m d).length := by
  have e1 := on_nat hm
  have e0 := on_z
  rw [List.length_append, List.length_replicate, List.length_nil]
  omega
theorem own_shr0 (x : Int32) : x >>> ((0 : Int32) &&& 31) = x := by
  rw [show ((0 : Int32) &&& 31) = 0 from by decide, Int32.shiftRight_zero]
theorem own_shl0 (x : Int32) : x <<< ((0 : Int32) &&& 31) = x := by
  rw [show ((0 : Int32) &&& 31) = 0 from by decide, Int32.shiftLeft_zero]
def bts (cs : List Int32) : List Value := (cs.map fun c => c.toInt8.toInt32).map Value.int
theorem bts_len (cs : List Int32) : (bts cs).length = cs.length := by simp [bts]
/-- the StringBuilder at sb holds the chars cs -/
def SBd (Z : State) (h : Heap) (sb t : Addr) (kt : ClassId) (cap : Nat) (cs : List Int32) : Prop :=
  Exa Z h sb "java/lang/StringBuilder" ∧ Fld Z h sb "java/lang/AbstractStringBuilder" "coder" "B" (.int 0) ∧ Fld Z h sb "java/lang/AbstractStringBuilder" "value" "[B" (.ref t) ∧ Fld Z h sb "java/lang/AbstractStringBuilder" "count" "I" (.int (Int32.ofNat cs.length)) ∧ Arv Z h t kt .byte (Int32.ofNat cap) (bts cs) (.int 0) ∧ cs.length ≤ cap ∧ cap ≤ 80 ∧ (∀ c ∈ cs, ¬ c < 0 ∧ ¬ (255 : Int32) < c) ∧ Exa Z h t "[B"
theorem own_us (vs : List Value) (d : Value) (i m : Nat) (hi : i ≤ 100000) (hm : m ≤ 100000) (h : i + m ≤ vs.length) : (vs.drop i).take m = (List.range (Int32.ofNat m).toNatClampNeg).map fun j => vs.getD ((Int32.ofNat i).toNatClampNeg + j) d := by
  have e1 := on_nat hi
  have e2 := on_nat hm
  rw [e1, e2]
  apply List.ext_getElem
  · rw [List.length_take, List.length_drop, List.length_map, List.length_range]; omega
  · intro j h1 h2
    have hj : j < m := by rw [List.length_map, List.length_range] at h2; exact h2
    have hv : i + j < vs.length := by omega
    have e3 : vs.getD (i + j) d = vs[i + j] := by
      rw [List.getD_eq_getElem?_getD, List.getElem?_eq_getElem hv] <;> rfl
    first | (rw [List.getElem_take, List.getElem_drop, List.getElem_map, List.getElem_range, e3]; done) | (simp only [List.getElem_take, List.getElem_drop, List.getElem_map, List.getElem_range, e3]; done)
theorem own_us0 (vs : List Value) (d : Value) (hm : vs.length ≤ 100000) : vs = (List.range (Int32.ofNat vs.length).toNatClampNeg).map fun j => vs.getD ((0 : Int32).toNatClampNeg + j) d := by
  have q := own_us vs d 0 vs.length (Nat.zero_le _) hm (Nat.le_of_eq (Nat.zero_add _))
  rw [List.drop_zero, List.take_of_length_le (Nat.le_refl _)] at q
  exact q
theorem own_put (us ws : List Value) (d : Value) (k m : Nat) (hk : k ≤ 100000) (hm : m ≤ 100000) (e : us.length = k) : (us ++ List.replicate m d).take (Int32.ofNat k).toNatClampNeg ++ ws ++ (us ++ List.replicate m d).drop ((Int32.ofNat k).toNatClampNeg + (Int32.ofNat m).toNatClampNeg) = us ++ ws := by
  have e1 := on_nat hk
  have e2 := on_nat hm
  have l : (us ++ List.replicate m d).length ≤ k + m := by rw [List.length_append, List.length_replicate]; omega
  rw [e1, e2, List.take_left' e, List.drop_eq_nil_of_le l, List.append_nil]
theorem own_put0 (ws : List Value) (d : Value) (m : Nat) (hm : m ≤ 100000) : ([] ++ List.replicate m d).take (0 : Int32).toNatClampNeg ++ ws ++ ([] ++ List.replicate m d).drop ((0 : Int32).toNatClampNeg + (Int32.ofNat m).toNatClampNeg) = ws := by
  have e1 := on_nat hm
  have l : ([] ++ List.replicate m d).length ≤ 0 + m := by rw [List.length_append, List.length_replicate, List.length_nil]; omega
  rw [e1, on_z, List.take_zero, List.drop_eq_nil_of_le l, List.append_nil, List.nil_append]
theorem own_all (vs : List Value) (d : Value) (cap : Nat) (hc : cap ≤ 100000) (h : vs.length ≤ cap) : ∀ i, vs.getD i d = (([] ++ List.replicate cap d).take (0 : Int32).toNatClampNeg ++ ((List.range (Int32.ofNat cap).toNatClampNeg).map fun j => vs.getD ((0 : Int32).toNatClampNeg + j) d) ++ ([] ++ List.replicate cap d).drop ((0 : Int32).toNatClampNeg + (Int32.ofNat cap).toNatClampNeg)).getD i d := by
  intro i
  rw [own_put0 _ _ _ hc, on_nat hc, on_z]
  simp only [Nat.zero_add, List.getD_eq_getElem?_getD, List.getElem?_map]
  by_cases q : i < cap
  · rw [List.getElem?_range q] <;> rfl
  · have q1 : vs[i]? = none := List.getElem?_eq_none (by omega)
    have q2 : (List.range cap)[i]? = none := List.getElem?_eq_none (by rw [List.length_range]; omega)
    rw [q1, q2] <;> rfl
theorem bts_app (cs ds : List Int32) : bts (cs ++ ds) = bts cs ++ bts ds := by simp [bts]
theorem bts_cut (cs : List Int32) (i m : Nat) : ((bts cs).drop i).take m = bts ((cs.drop i).take m) := by
  first | (unfold bts; rw [List.map_take, List.map_take, List.map_drop, List.map_drop]; done) | (simp [bts]; done)
theorem own_mem_app {cs ds : List Int32} (h1 : ∀ c ∈ cs, ¬ c < 0 ∧ ¬ (255 : Int32) < c) (h2 : ∀ c ∈ ds, ¬ c < 0 ∧ ¬ (255 : Int32) < c) : ∀ c ∈ cs ++ ds, ¬ c < 0 ∧ ¬ (255 : Int32) < c := fun c hc => (List.mem_append.mp hc).elim (h1 c) (h2 c)
theorem own_mem_cut {cs : List Int32} {i m : Nat} (h1 : ∀ c ∈ cs, ¬ c < 0 ∧ ¬ (255 : Int32) < c) : ∀ c ∈ (cs.drop i).take m, ¬ c < 0 ∧ ¬ (255 : Int32) < c := fun c hc => h1 c (List.mem_of_mem_drop (List.mem_of_mem_take hc))

def idxF (b : Int32) : List Int32 → Nat → Int32
  | [], _ => -1
  | x :: r, i => if x.toInt8.toInt32 = b then Int32.ofNat i else idxF b r (i + 1)
theorem bts_at (pre r : List Int32) (x : Int32) (d : Value) : (bts (pre ++ x :: r)).getD pre.length d = .int (x.toInt8.toInt32) := by
  have e : bts (pre ++ x :: r) = bts pre ++ (.int (x.toInt8.toInt32) :: bts r) := by simp [bts]
  have l : (bts pre).length = pre.length := bts_len pre
  rw [e, List.getD_eq_getElem?_getD, List.getElem?_append_right (Nat.le_of_eq l), l, Nat.sub_self] <;> rfl
theorem own_b8 {x : Int32} (hx : ¬ x < 0 ∧ ¬ (255 : Int32) < x) (y : Int32) (hy : y = 123 ∨ y = 125) (hn : x ≠ y) : ¬ x.toInt8.toInt32 = y.toInt8.toInt32 := by
  obtain ⟨k, rfl⟩ := ch8_fin hx
  rcases hy with rfl | rfl
  · exact (by decide +kernel : ∀ k : Fin 256, Int32.ofNat k.val ≠ 123 → ¬ (Int32.ofNat k.val).toInt8.toInt32 = (123 : Int32).toInt8.toInt32) k hn
  · exact (by decide +kernel : ∀ k : Fin 256, Int32.ofNat k.val ≠ 125 → ¬ (Int32.ofNat k.val).toInt8.toInt32 = (125 : Int32).toInt8.toInt32) k hn
theorem idx_app {y : Int32} (hy : y = 123 ∨ y = 125) : ∀ (P r : List Int32) (i : Nat), (∀ x ∈ P, ¬ x < 0 ∧ ¬ (255 : Int32) < x) → (∀ x ∈ P, x ≠ y) → idxF y.toInt8.toInt32 (P ++ r) i = idxF y.toInt8.toInt32 r (i + P.length)
  | [], r, i, _, _ => rfl
  | x :: P, r, i, h1, h2 => by
    rw [List.cons_append, idxF, if_neg (own_b8 (h1 x (List.mem_cons_self ..)) y hy (h2 x (List.mem_cons_self ..))), idx_app hy P r (i + 1) (fun z hz => h1 z (List.mem_cons_of_mem _ hz)) (fun z hz => h2 z (List.mem_cons_of_mem _ hz))]
    congr 1
    simp only [List.length_cons]; omega
def tag (nm : List Int32) : List Int32 := ([123] ++ nm) ++ [125]
theorem idx_open {P nm Sx : List Int32} (h1 : ∀ x ∈ P, ¬ x < 0 ∧ ¬ (255 : Int32) < x) (h2 : ∀ x ∈ P, x ≠ 123 ∧ x ≠ 125) : idxF (123 : Int32).toInt8.toInt32 ((P ++ tag nm) ++ Sx) 0 = Int32.ofNat P.length := by
  rw [List.append_assoc, idx_app (Or.inl rfl) P _ 0 h1 (fun x hx => (h2 x hx).1), tag, List.append_assoc, List.append_assoc, List.cons_append, idxF, if_pos rfl, Nat.zero_add]
theorem idx_close {P nm Sx : List Int32} (h1 : ∀ x ∈ P, ¬ x < 0 ∧ ¬ (255 : Int32) < x) (h2 : ∀ x ∈ P, x ≠ 123 ∧ x ≠ 125) (h3 : ∀ x ∈ nm, ¬ x < 0 ∧ ¬ (255 : Int32) < x) (h4 : ∀ x ∈ nm, x ≠ 125) : idxF (125 : Int32).toInt8.toInt32 ((P ++ tag nm) ++ Sx) 0 = Int32.ofNat (P.length + 1 + nm.length) := by
  have e : (P ++ tag nm) ++ Sx = (P ++ [123] ++ nm) ++ (125 :: Sx) := by simp [tag]
  rw [e, idx_app (Or.inr rfl) (P ++ [123] ++ nm) _ 0 (own_mem_app (own_mem_app h1 (fun x hx => by cases List.mem_singleton.mp hx; decide)) h3) (fun x hx => ?_), idxF, if_pos rfl]
  · simp only [List.length_append, List.length_cons, List.length_nil, Nat.zero_add]
  · rcases List.mem_append.mp hx with hx | hx
    · rcases List.mem_append.mp hx with hx | hx
      · exact (h2 x hx).2
      · cases List.mem_singleton.mp hx; decide
    · exact h4 x hx
theorem idx_none {nm : List Int32} (h3 : ∀ x ∈ nm, ¬ x < 0 ∧ ¬ (255 : Int32) < x) (h4 : ∀ x ∈ nm, x ≠ 125) : idxF (125 : Int32).toInt8.toInt32 nm 0 < 0 := by
  have q := idx_app (Or.inr rfl) nm [] 0 h3 h4
  rw [List.append_nil] at q
  rw [q]
  exact (by decide : (-1 : Int32) < 0)
theorem own_mid {P nm Sx : List Int32} {i j : Nat} (hi : i = P.length) (hj : j = P.length + 1 + nm.length + 1) : (((P ++ tag nm) ++ Sx).drop i).take (j - i) = tag nm := by
  subst hi
  have e : j - P.length = (tag nm).length := by simp [tag]; omega
  rw [List.append_assoc, List.drop_left' rfl, e, List.take_left' rfl]

theorem d_jdk_42_method_151_code_0 : decode jdk_42_method_151_code 0 = .ok (.aload_n 0, 1) := by decide +kernel
theorem d_jdk_42_method_151_code_1 : decode jdk_42_method_151_code 1 = .ok (.invokespecial 1, 3) := by decide +kernel
theorem d_jdk_42_method_151_code_4 : decode jdk_42_method_151_code 4 = .ok (.aload_n 0, 1) := by decide +kernel
theorem d_jdk_42_method_151_code_5 : decode jdk_42_method_151_code 5 = .ok (.aload_n 1, 1) := by decide +kernel
theorem d_jdk_42_method_151_code_6 : decode jdk_42_method_151_code 6 = .ok (.putfield 9, 3) := by decide +kernel
theorem d_jdk_42_method_151_code_9 : decode jdk_42_method_151_code 9 = .ok (.aload_n 0, 1) := by decide +kernel
theorem d_jdk_42_method_151_code_10 : decode jdk_42_method_151_code 10 = .ok (.iload_n 2, 1) := by decide +kernel
theorem d_jdk_42_method_151_code_11 : decode jdk_42_method_151_code 11 = .ok (.putfield 15, 3) := by decide +kernel
theorem d_jdk_42_method_151_code_14 : decode jdk_42_method_151_code 14 = .ok (.return_, 1) := by decide +kernel
theorem pn_java_lang_String : plainName "java/lang/String" = true := by first | (simp [plainName, overriddenIn]; done) | decide +kernel
theorem rm_sbb (l : Launch) (Z : State) (a0 : Array Value) (hw : ∀ d ∈ tables_1, d.before a0 Z = true) (hEL : EW Z a0 consts_1) {ws : List Jvm.Cond} (x t : Addr) (h0 : Heap) (n0 : Nat) (E1 : Exa Z h0 x "java/lang/String") (F1 : Fld Z h0 x "java/lang/String" "value" "[B" .null) (F2 : Fld Z h0 x "java/lang/String" "coder" "B" (.int 0)) :
    Met l Z consts_1 (⟨"java/lang/String", "<init>", "([BB)V"⟩ : MethodName) jdk_42_method_151_code 3 none ws ({ frames := 1, cells := 0, slots := 0, locals := 12 } : Room) [x] #[(.ref x), (.ref t), (.int (0 : Int32))] h0 n0 (nq (fun v h => v = none ∧ Keep h0 h [x] ∧ Exa Z h x "java/lang/String" ∧ Fld Z h x "java/lang/String" "coder" "B" (.int 0) ∧ Fld Z h x "java/lang/String" "value" "[B" (.ref t))) := by
  refine met_of (plainFor_of_name pn_java_lang_String) hw #[.val (.ref x), .val (.ref t), .val (.int (0 : Int32))] (fun m => by first | rfl | (simp [entryFrame, mkF, argsToLocals, Value.category]; done)) ?_
  intro p e s m below meth c C0
  have C : Cx Z a0 tables_1 p s m meth c "java/lang/String" "<init>" jdk_42_method_151_code 3 none n0 := C0
  refine g_aloadN C d_jdk_42_method_151_code_0 rfl rfl ?_
  refine g_initO C w_23 w_24 w_25 rfl d_jdk_42_method_151_code_1 (by decide) 0 (Nat.le_of_eq rfl) (by decide) ?_
  refine g_aloadN C d_jdk_42_method_151_code_4 rfl rfl ?_
  refine g_aloadN C d_jdk_42_method_151_code_5 rfl rfl ?_
  refine g_putfield C (.array .byte) w_26 Via.refl F1 E1 (Or.inr ⟨w_27, rfl, rfl⟩) w_14 (by decide) rfl rfl (mg (i := 0) rfl) d_jdk_42_method_151_code_6 ?_
  intro h101 W101 F101
  refine g_aloadN C d_jdk_42_method_151_code_9 rfl rfl ?_
  refine g_iloadN C d_jdk_42_method_151_code_10 rfl ?_
  have F102 := (F2.other W101 (Or.inr (slot_ne (Or.inr (C.hw w_29)) (Or.inr (C.hw w_27)) (by decide) (t := .byte) (t' := (.array .byte)) (by decide) (by decide))))
  have E103 := (E1.wr W101)
  refine g_putfieldZ C .byte (.int (0 : Int32)) w_28 Via.refl F102 E103 (Or.inr ⟨w_29, rfl, rfl⟩) w_14 (by decide) rfl (by decide) (mg (i := 0) rfl) d_jdk_42_method_151_code_11 ?_
  intro h104 W104 F104
  refine g_return C hEL rfl d_jdk_42_method_151_code_14 (by decide) (by decide) ?_
  have E105 := (E103.wr W104)
  have F106 := (F101.other W104 (Or.inr (slot_ne (Or.inr (C.hw w_27)) (Or.inr (C.hw w_29)) (by decide) (t := (.array .byte)) (t' := .byte) (by decide) (by decide))))
  exact ⟨rfl, (((Keep.refl _ _).wr W101 (Or.inl (List.mem_cons_self ..))).wr W104 (Or.inl (List.mem_cons_self ..))), E105, F104, F106⟩
theorem d_jdk_43_method_3_code_0 : decode jdk_43_method_3_code 0 = .ok (.iload_n 0, 1) := by decide +kernel
theorem d_jdk_43_method_3_code_1 : decode jdk_43_method_3_code 1 = .ok (.sipush 255, 3) := by decide +kernel
theorem d_jdk_43_method_3_code_4 : decode jdk_43_method_3_code 4 = .ok (.if_icmp .gt 7, 3) := by decide +kernel
theorem d_jdk_43_method_3_code_7 : decode jdk_43_method_3_code 7 = .ok (.iconst 1, 1) := by decide +kernel
theorem d_jdk_43_method_3_code_8 : decode jdk_43_method_3_code 8 = .ok (.goto 4, 3) := by decide +kernel
theorem d_jdk_43_method_3_code_12 : decode jdk_43_method_3_code 12 = .ok (.ireturn, 1) := by decide +kernel
theorem pn_java_lang_StringLatin1 : plainName "java/lang/StringLatin1" = true := by first | (simp [plainName, overriddenIn]; done) | decide +kernel
theorem rm_ce (l : Launch) (Z : State) (a0 : Array Value) (hw : ∀ d ∈ tables_1, d.before a0 Z = true) (hEL : EW Z a0 consts_1) {ws : List Jvm.Cond} (q : Int32) (h0 : Heap) (n0 : Nat) (hq : Ch8 q) :
    Met l Z consts_1 (⟨"java/lang/StringLatin1", "canEncode", "(C)Z"⟩ : MethodName) jdk_43_method_3_code 1 (some .boolean) ws ({ frames := 0, cells := 0, slots := 0, locals := 0 } : Room) [] #[(.int q)] h0 n0 (nq (fun v h => v = some (.int 1) ∧ h = h0)) := by
  refine met_of (plainFor_of_name pn_java_lang_StringLatin1) hw #[.val (.int q)] (fun m => by first | rfl | (simp [entryFrame, mkF, argsToLocals, Value.category]; done)) ?_
  intro p e s m below meth c C0
  have C : Cx Z a0 tables_1 p s m meth c "java/lang/StringLatin1" "canEncode" jdk_43_method_3_code 1 (some .boolean) n0 := C0
  refine g_iloadN C d_jdk_43_method_3_code_0 rfl ?_
  refine g_sipush C 255 d_jdk_43_method_3_code_1 rfl ?_
  refine g_icmp_f C d_jdk_43_method_3_code_4 (XT.ii_gt_f hq.2) ?_
  refine g_iconst C 1 d_jdk_43_method_3_code_7 rfl ?_
  refine g_goto C 12 d_jdk_43_method_3_code_8 (by decide) (by decide) ?_
  refine g_ireturnN C hEL (t := .boolean) rfl (by simp) d_jdk_43_method_3_code_12 (by decide) (by decide) ?_
  exact ⟨rfl, rfl⟩
theorem own_narb (q : Int32) : nar .byte (q.toInt8.toInt32) = q.toInt8.toInt32 := by
  first | (simp [nar]; done) | exact congrArg Int8.toInt32 (Int8.toInt8_toInt32 _)

theorem d_jdk_43_method_46_code_0 : decode jdk_43_method_46_code 0 = .ok (.iconst 1, 1) := by decide +kernel
theorem d_jdk_43_method_46_code_1 : decode jdk_43_method_46_code 1 = .ok (.newarray .byte, 2) := by decide +kernel
theorem d_jdk_43_method_46_code_3 : decode jdk_43_method_46_code 3 = .ok (.dup, 1) := by decide +kernel
theorem d_jdk_43_method_46_code_4 : decode jdk_43_method_46_code 4 = .ok (.iconst 0, 1) := by decide +kernel
theorem d_jdk_43_method_46_code_5 : decode jdk_43_method_46_code 5 = .ok (.iload_n 0, 1) := by decide +kernel
theorem d_jdk_43_method_46_code_6 : decode jdk_43_method_46_code 6 = .ok (.i2b, 1) := by decide +kernel
theorem d_jdk_43_method_46_code_7 : decode jdk_43_method_46_code 7 = .ok (.bastore, 1) := by decide +kernel
theorem d_jdk_43_method_46_code_8 : decode jdk_43_method_46_code 8 = .ok (.areturn, 1) := by decide +kernel
theorem rm_tb (l : Launch) (Z : State) (a0 : Array Value) (hw : ∀ d ∈ tables_1, d.before a0 Z = true) (hEL : EW Z a0 consts_1) {ws : List Jvm.Cond} (q : Int32) (h0 : Heap) (n0 : Nat) :
    Met l Z consts_1 (⟨"java/lang/StringLatin1", "toBytes", "(C)[B"⟩ : MethodName) jdk_43_method_46_code 1 (some (.array .byte)) ws ({ frames := 0, cells := 1, slots := 1, locals := 0 } : Room) [] #[(.int q)] h0 n0 (nq (fun v h => ∃ b k', v = some (.ref b) ∧ Keep h0 h [] ∧ h0.size ≤ b ∧ Arv Z h b k' .byte (1 : Int32) [.int (q.toInt8.toInt32)] (.int (0 : Int32)))) := by
  refine met_of (plainFor_of_name pn_java_lang_StringLatin1) hw #[.val (.int q)] (fun m => by first | rfl | (simp [entryFrame, mkF, argsToLocals, Value.category]; done)) ?_
  intro p e s m below meth c C0
  have C : Cx Z a0 tables_1 p s m meth c "java/lang/StringLatin1" "toBytes" jdk_43_method_46_code 1 (some (.array .byte)) n0 := C0
  refine g_iconst C 1 d_jdk_43_method_46_code_0 rfl ?_
  refine g_newarray C (aty := .byte) w_18 d_jdk_43_method_46_code_1 (by decide) 1 (by decide) (by decide) (by decide) (by decide) "[B" rfl ?_
  intro b107 h107 ka107 g107 E107 V107 A107
  replace V107 : Arv Z h107 b107 ka107 .byte (1 : Int32) [(.int (0 : Int32))] (.int (0 : Int32)) := V107.pad (pad_rep [] _ 1)
  refine g_dup C d_jdk_43_method_46_code_3 rfl ?_
  refine g_iconst C 0 d_jdk_43_method_46_code_4 rfl ?_
  refine g_iloadN C d_jdk_43_method_46_code_5 rfl ?_
  refine g_i2b C d_jdk_43_method_46_code_6 ?_
  refine g_bastore C V107 (mg (i := 0) rfl) d_jdk_43_method_46_code_7 ⟨by decide, by decide⟩ 0 rfl (nb rfl) ?_
  intro h108 W108 V108
  replace V108 : Arv Z h108 b107 ka107 .byte (1 : Int32) [(.int (nar .byte (q.toInt8.toInt32)))] (.int (0 : Int32)) := V108
  refine g_areturn C hEL (t := (.array .byte)) rfl rfl rfl d_jdk_43_method_46_code_8 (by decide) (by decide) ?_
  have K109 : Keep h0 h107 [] := (Keep.refl h0 []).ext E107
  have K110 : Keep h0 h108 [] := K109.wr W108 (Or.inr (Nat.le_of_eq g107.symm))
  have V0 := V108
  rw [own_narb] at V0
  exact ⟨b107, _, rfl, K110, (Nat.le_of_eq g107.symm), V0⟩
theorem d_jdk_42_method_139_code_0 : decode jdk_42_method_139_code 0 = .ok (.getstatic 38, 3) := by decide +kernel
theorem d_jdk_42_method_139_code_3 : decode jdk_42_method_139_code 3 = .ok (.ifCond .eq 23, 3) := by decide +kernel
theorem d_jdk_42_method_139_code_6 : decode jdk_42_method_139_code 6 = .ok (.iload_n 0, 1) := by decide +kernel
theorem d_jdk_42_method_139_code_7 : decode jdk_42_method_139_code 7 = .ok (.invokestatic 1015, 3) := by decide +kernel
theorem d_jdk_42_method_139_code_10 : decode jdk_42_method_139_code 10 = .ok (.ifCond .eq 16, 3) := by decide +kernel
theorem d_jdk_42_method_139_code_13 : decode jdk_42_method_139_code 13 = .ok (.new 10, 3) := by decide +kernel
theorem d_jdk_42_method_139_code_16 : decode jdk_42_method_139_code 16 = .ok (.dup, 1) := by decide +kernel
theorem d_jdk_42_method_139_code_17 : decode jdk_42_method_139_code 17 = .ok (.iload_n 0, 1) := by decide +kernel
theorem d_jdk_42_method_139_code_18 : decode jdk_42_method_139_code 18 = .ok (.invokestatic 1018, 3) := by decide +kernel
theorem d_jdk_42_method_139_code_21 : decode jdk_42_method_139_code 21 = .ok (.iconst 0, 1) := by decide +kernel
theorem d_jdk_42_method_139_code_22 : decode jdk_42_method_139_code 22 = .ok (.invokespecial 209, 3) := by decide +kernel
theorem d_jdk_42_method_139_code_25 : decode jdk_42_method_139_code 25 = .ok (.areturn, 1) := by decide +kernel
theorem pd__C_Z : parseMethodDescriptor "(C)Z" = some ⟨[.char], some .boolean⟩ := by decide +kernel
theorem pd__C__B : parseMethodDescriptor "(C)[B" = some ⟨[.char], some (.array .byte)⟩ := by decide +kernel
theorem pd___BB_V : parseMethodDescriptor "([BB)V" = some ⟨[(.array .byte), .byte], none⟩ := by decide +kernel
theorem rm_vo (l : Launch) (Z : State) (a0 : Array Value) (hw : ∀ d ∈ tables_1, d.before a0 Z = true) (hEL : EW Z a0 consts_1) {ws : List Jvm.Cond} (q zc : Int32) (h0 : Heap) (n0 : Nat) (hq : Ch8 q) (Szc : Sta Z h0 "java/lang/String" "COMPACT_STRINGS" "Z" (.int zc)) (hzc : ¬ (zc = (0 : Int32))) :
    Met l Z consts_1 (⟨"java/lang/String", "valueOf", "(C)Ljava/lang/String;"⟩ : MethodName) jdk_42_method_139_code 1 (some (.object "java/lang/String")) ws ({ frames := 2, cells := 2, slots := 5, locals := 40 } : Room) [] #[(.int q)] h0 n0 (nq (fun v h => ∃ a t k', v = some (.ref a) ∧ Keep h0 h [] ∧ h0.size ≤ a ∧ h0.size ≤ t ∧ Str Z h a t k' [q])) := by
  refine met_of (plainFor_of_name pn_java_lang_String) hw #[.val (.int q)] (fun m => by first | rfl | (simp [entryFrame, mkF, argsToLocals, Value.category]; done)) ?_
  intro p e s m below meth c C0
  have C : Cx Z a0 tables_1 p s m meth c "java/lang/String" "valueOf" jdk_42_method_139_code 1 (some (.object "java/lang/String")) n0 := C0
  refine g_getstatic C w_8 Via.refl Szc d_jdk_42_method_139_code_0 ?_
  refine g_if_f C d_jdk_42_method_139_code_3 (XT.i0_eq_f hzc) ?_
  refine g_iloadN C d_jdk_42_method_139_code_6 rfl ?_
  refine g_static C w_9 w_10 w_11 w_12 (by decide) [(.int q)] (ct_of hEL hw w_12 w_11 (rm_ce l Z a0 hw hEL q h0 n0 hq)) all0 (by decide) 0 (by decide) rfl pd__C_Z rfl [] rfl (Nat.le_of_eq rfl) d_jdk_42_method_139_code_7 (by decide) (by decide) ?_
  intro v111 h111 Q111
  obtain ⟨rfl, e111⟩ := Q111
  replace e111 := e111.symm
  subst e111
  refine g_if_f C d_jdk_42_method_139_code_10 (XT.i0_eq_f (by decide)) ?_
  refine g_new C w_13 w_14 w_6 d_jdk_42_method_139_code_13 (by decide) (by decide) ?_
  intro b112 h112 g112 E112 A112 D112
  refine g_dup C d_jdk_42_method_139_code_16 rfl ?_
  refine g_iloadN C d_jdk_42_method_139_code_17 rfl ?_
  refine g_static C w_15 w_16 w_11 w_17 (by decide) [(.int q)] (ct_of hEL hw w_17 w_11 (rm_tb l Z a0 hw hEL q h112 n0 )) all0 (by decide) 2 (by decide) rfl pd__C__B rfl [(.ref b112), (.ref b112)] rfl (Nat.le_of_eq rfl) d_jdk_42_method_139_code_18 (by decide) (by decide) ?_
  intro v113 h113 Q113
  obtain ⟨b113, k113, rfl, KC113, le113, V113⟩ := Q113
  refine g_iconst C 0 d_jdk_42_method_139_code_21 rfl ?_
  have K114 : Keep h112 h113 [] := (Keep.refl h112 []).trans KC113 all0
  have E115 := (A112.keep K114)
  have F116 := ((D112 (Or.inr (C.hw w_27)) (ty := (.array .byte)) (by decide)).keep K114 nin0)
  have F117 := ((D112 (Or.inr (C.hw w_29)) (ty := .byte) (by decide)).keep K114 nin0)
  refine g_special C (a := b112) w_19 w_20 w_22 rfl (by decide) [(.ref b113), (.int (0 : Int32))] (ct_of hEL hw w_22 w_6 (rm_sbb l Z a0 hw hEL b112 b113 h113 n0 E115 F116 F117)) (allS (mg (i := 0) rfl) all0) (by decide) 1 (by decide) rfl pd___BB_V rfl [(.ref b112)] rfl (Nat.le_of_eq rfl) d_jdk_42_method_139_code_22 (by decide) (by decide) ?_
  intro v118 h118 Q118
  obtain ⟨rfl, KC118, X118, G1118, G2118⟩ := Q118
  refine g_areturn C hEL (t := (.object "java/lang/String")) rfl rfl rfl d_jdk_42_method_139_code_25 (by decide) (by decide) ?_
  have K119 : Keep h0 h112 [] := (Keep.refl h0 []).ext E112
  have K120 : Keep h0 h113 [] := K119.trans KC113 all0
  have K121 : Keep h0 h118 [] := K120.trans KC118 (allS (Or.inr (Nat.le_of_eq g112.symm)) all0)
  have V122 := (V113.keep KC118 (ninS (Ne.symm (Nat.ne_of_lt (Nat.lt_of_lt_of_le A112.lt le113))) nin0))
  exact ⟨b112, b113, _, rfl, K121, (Nat.le_of_eq g112.symm), (Nat.le_trans K119.1 le113), X118, G1118, G2118, V122, Nat.le_of_ble_eq_true rfl, own_allc hq (fun _ q => nomatch q)⟩
theorem d_jdk_68_method_2_code_0 : decode jdk_68_method_2_code 0 = .ok (.aload_n 0, 1) := by decide +kernel
theorem d_jdk_68_method_2_code_1 : decode jdk_68_method_2_code 1 = .ok (.invokespecial 3, 3) := by decide +kernel
theorem d_jdk_68_method_2_code_4 : decode jdk_68_method_2_code 4 = .ok (.getstatic 18, 3) := by decide +kernel
theorem d_jdk_68_method_2_code_7 : decode jdk_68_method_2_code 7 = .ok (.ifCond .eq 18, 3) := by decide +kernel
theorem d_jdk_68_method_2_code_10 : decode jdk_68_method_2_code 10 = .ok (.aload_n 0, 1) := by decide +kernel
theorem d_jdk_68_method_2_code_11 : decode jdk_68_method_2_code 11 = .ok (.iload_n 1, 1) := by decide +kernel
theorem d_jdk_68_method_2_code_12 : decode jdk_68_method_2_code 12 = .ok (.newarray .byte, 2) := by decide +kernel
theorem d_jdk_68_method_2_code_14 : decode jdk_68_method_2_code 14 = .ok (.putfield 15, 3) := by decide +kernel
theorem d_jdk_68_method_2_code_17 : decode jdk_68_method_2_code 17 = .ok (.aload_n 0, 1) := by decide +kernel
theorem d_jdk_68_method_2_code_18 : decode jdk_68_method_2_code 18 = .ok (.iconst 0, 1) := by decide +kernel
theorem d_jdk_68_method_2_code_19 : decode jdk_68_method_2_code 19 = .ok (.putfield 22, 3) := by decide +kernel
theorem d_jdk_68_method_2_code_22 : decode jdk_68_method_2_code 22 = .ok (.goto 16, 3) := by decide +kernel
theorem d_jdk_68_method_2_code_38 : decode jdk_68_method_2_code 38 = .ok (.return_, 1) := by decide +kernel
theorem pn_java_lang_AbstractStringBuilder : plainName "java/lang/AbstractStringBuilder" = true := by first | (simp [plainName, overriddenIn]; done) | decide +kernel
theorem rm_ai (l : Launch) (Z : State) (a0 : Array Value) (hw : ∀ d ∈ tables_1, d.before a0 Z = true) (hEL : EW Z a0 consts_1) {ws : List Jvm.Cond} (sb : Addr) (zc : Int32) (h0 : Heap) (n0 : Nat) (E1 : Exa Z h0 sb "java/lang/StringBuilder") (F1 : Fld Z h0 sb "java/lang/AbstractStringBuilder" "value" "[B" .null) (F2 : Fld Z h0 sb "java/lang/AbstractStringBuilder" "coder" "B" (.int 0)) (F3 : Fld Z h0 sb "java/lang/AbstractStringBuilder" "count" "I" (.int 0)) (Szc : Sta Z h0 "java/lang/String" "COMPACT_STRINGS" "Z" (.int zc)) (hzc : ¬ (zc = (0 : Int32))) :
    Met l Z consts_1 (⟨"java/lang/AbstractStringBuilder", "<init>", "(I)V"⟩ : MethodName) jdk_68_method_2_code 2 none ws ({ frames := 1, cells := 1, slots := 16, locals := 14 } : Room) [sb] #[(.ref sb), (.int (16 : Int32))] h0 n0 (fun v h ns => ∃ t kt, ns = [t] ∧ v = none ∧ Keep h0 h [sb] ∧ h0.size ≤ t ∧ SBd Z h sb t kt 16 []) := by
  refine met_of (plainFor_of_name pn_java_lang_AbstractStringBuilder) hw #[.val (.ref sb), .val (.int (16 : Int32))] (fun m => by first | rfl | (simp [entryFrame, mkF, argsToLocals, Value.category]; done)) ?_
  intro p e s m below meth c C0
  have C : Cx Z a0 tables_1 p s m meth c "java/lang/AbstractStringBuilder" "<init>" jdk_68_method_2_code 2 none n0 := C0
  refine g_aloadN C d_jdk_68_method_2_code_0 rfl rfl ?_
  refine g_initO C w_52 w_24 w_25 rfl d_jdk_68_method_2_code_1 (by decide) 0 (Nat.le_of_eq rfl) (by decide) ?_
  refine g_getstatic C w_53 Via.refl Szc d_jdk_68_method_2_code_4 ?_
  refine g_if_f C d_jdk_68_method_2_code_7 (XT.i0_eq_f hzc) ?_
  refine g_aloadN C d_jdk_68_method_2_code_10 rfl rfl ?_
  refine g_iloadN C d_jdk_68_method_2_code_11 rfl ?_
  refine g_newarray C (aty := .byte) w_18 d_jdk_68_method_2_code_12 (by decide) 16 (by decide) (by decide) (by decide) (by decide) "[B" rfl ?_
  intro b123 h123 ka123 g123 E123 V123 A123
  replace V123 : Arv Z h123 b123 ka123 .byte (16 : Int32) [(.int (0 : Int32)), (.int (0 : Int32)), (.int (0 : Int32)), (.int (0 : Int32)), (.int (0 : Int32)), (.int (0 : Int32)), (.int (0 : Int32)), (.int (0 : Int32)), (.int (0 : Int32)), (.int (0 : Int32)), (.int (0 : Int32)), (.int (0 : Int32)), (.int (0 : Int32)), (.int (0 : Int32)), (.int (0 : Int32)), (.int (0 : Int32))] (.int (0 : Int32)) := V123.pad (pad_rep [] _ 16)
  have K124 : Keep h0 h123 [] := (Keep.refl h0 []).ext E123
  have F125 := (F1.keep K124 nin0)
  have E126 := (E1.keep K124)
  refine g_putfield C (.array .byte) w_54 Via.refl F125 E126 (Or.inl w_55) w_41 (by decide) rfl rfl (mg (i := 1) rfl) d_jdk_68_method_2_code_14 ?_
  intro h127 W127 F127
  refine g_aloadN C d_jdk_68_method_2_code_17 rfl rfl ?_
  refine g_iconst C 0 d_jdk_68_method_2_code_18 rfl ?_
  have F128 := ((F2.ext E123).other W127 (Or.inr (slot_ne (Or.inl (C.hw w_57)) (Or.inl (C.hw w_55)) (by decide) (t := .byte) (t' := (.array .byte)) (by decide) (by decide))))
  have E129 := (E126.wr W127)
  refine g_putfieldZ C .byte (.int (0 : Int32)) w_56 Via.refl F128 E129 (Or.inl w_57) w_41 (by decide) rfl (by decide) (mg (i := 1) rfl) d_jdk_68_method_2_code_19 ?_
  intro h130 W130 F130
  refine g_goto C 38 d_jdk_68_method_2_code_22 (by decide) (by decide) ?_
  refine g_returnX C hEL [b123] (allS (mg (i := 0) rfl) all0) rfl d_jdk_68_method_2_code_38 (by decide) (by decide) ?_
  have E131 := (E129.wr W130)
  have F132 := (F127.other W130 (Or.inr (slot_ne (Or.inl (C.hw w_55)) (Or.inl (C.hw w_57)) (by decide) (t := (.array .byte)) (t' := .byte) (by decide) (by decide))))
  have F133 := (((F3.ext E123).other W127 (Or.inr (slot_ne (Or.inl (C.hw w_83)) (Or.inl (C.hw w_55)) (by decide) (t := .int) (t' := (.array .byte)) (by decide) (by decide)))).other W130 (Or.inr (slot_ne (Or.inl (C.hw w_83)) (Or.inl (C.hw w_57)) (by decide) (t := .int) (t' := .byte) (by decide) (by decide))))
  have V134 := ((V123.other W127 (Ne.symm (Nat.ne_of_lt (Nat.lt_of_lt_of_le E1.lt (Nat.le_of_eq g123.symm))))).other W130 (Ne.symm (Nat.ne_of_lt (Nat.lt_of_lt_of_le E1.lt (Nat.le_of_eq g123.symm)))))
  have E135 := ((A123.wr W127).wr W130)
  exact ⟨b123, _, rfl, rfl, ((((Keep.refl _ _).ext E123).wr W127 (Or.inl (mg (i := 0) rfl))).wr W130 (Or.inl (mg (i := 0) rfl))), (Nat.le_of_eq g123.symm), E131, F130, F132, F133, V134.pad (fun i => (pad_rep [] _ 16 i).symm), by decide, by decide, (fun _ q => nomatch q), E135⟩
theorem d_jdk_67_method_1_code_0 : decode jdk_67_method_1_code 0 = .ok (.aload_n 0, 1) := by decide +kernel
theorem d_jdk_67_method_1_code_1 : decode jdk_67_method_1_code 1 = .ok (.bipush 16, 2) := by decide +kernel
theorem d_jdk_67_method_1_code_3 : decode jdk_67_method_1_code 3 = .ok (.invokespecial 1, 3) := by decide +kernel
theorem d_jdk_67_method_1_code_6 : decode jdk_67_method_1_code 6 = .ok (.return_, 1) := by decide +kernel
theorem pn_java_lang_StringBuilder : plainName "java/lang/StringBuilder" = true := by first | (simp [plainName, overriddenIn]; done) | decide +kernel
theorem pd__I_V : parseMethodDescriptor "(I)V" = some ⟨[.int], none⟩ := by decide +kernel
theorem rm_si (l : Launch) (Z : State) (a0 : Array Value) (hw : ∀ d ∈ tables_1, d.before a0 Z = true) (hEL : EW Z a0 consts_1) {ws : List Jvm.Cond} (sb : Addr) (zc : Int32) (h0 : Heap) (n0 : Nat) (E1 : Exa Z h0 sb "java/lang/StringBuilder") (F1 : Fld Z h0 sb "java/lang/AbstractStringBuilder" "value" "[B" .null) (F2 : Fld Z h0 sb "java/lang/AbstractStringBuilder" "coder" "B" (.int 0)) (F3 : Fld Z h0 sb "java/lang/AbstractStringBuilder" "count" "I" (.int 0)) (Szc : Sta Z h0 "java/lang/String" "COMPACT_STRINGS" "Z" (.int zc)) (hzc : ¬ (zc = (0 : Int32))) :
    Met l Z consts_1 (⟨"java/lang/StringBuilder", "<init>", "()V"⟩ : MethodName) jdk_67_method_1_code 1 none ws ({ frames := 2, cells := 1, slots := 16, locals := 28 } : Room) [sb] #[(.ref sb)] h0 n0 (fun v h ns => ∃ t kt, ns = [t] ∧ v = none ∧ Keep h0 h [sb] ∧ h0.size ≤ t ∧ SBd Z h sb t kt 16 []) := by
  refine met_of (plainFor_of_name pn_java_lang_StringBuilder) hw #[.val (.ref sb)] (fun m => by first | rfl | (simp [entryFrame, mkF, argsToLocals, Value.category]; done)) ?_
  intro p e s m below meth c C0
  have C : Cx Z a0 tables_1 p s m meth c "java/lang/StringBuilder" "<init>" jdk_67_method_1_code 1 none n0 := C0
  refine g_aloadN C d_jdk_67_method_1_code_0 rfl rfl ?_
  refine g_bipush C 16 d_jdk_67_method_1_code_1 rfl ?_
  refine g_specialX C (a := sb) w_46 w_47 w_51 rfl (by decide) [(.int (16 : Int32))] (ct_of hEL hw w_51 w_50 (rm_ai l Z a0 hw hEL sb zc h0 n0 E1 F1 F2 F3 Szc hzc)) (allS (mg (i := 0) rfl) all0) (by decide) 0 (by decide) rfl pd__I_V rfl [] rfl (Nat.le_of_eq rfl) d_jdk_67_method_1_code_3 (by decide) (by decide) ?_
  intro v136 h136 ns136 Q136
  obtain ⟨t136, kt136, rfl, rfl, KC136, le136, SB136⟩ := Q136
  refine g_returnX C hEL [t136] (allS (mg (i := 0) rfl) all0) rfl d_jdk_67_method_1_code_6 (by decide) (by decide) ?_
  exact ⟨_, _, rfl, rfl, KC136, le136, SB136⟩
theorem d_jdk_29_method_69_code_0 : decode jdk_29_method_69_code 0 = .ok (.iload_n 0, 1) := by decide +kernel
theorem d_jdk_29_method_69_code_1 : decode jdk_29_method_69_code 1 = .ok (.iload_n 1, 1) := by decide +kernel
theorem d_jdk_29_method_69_code_2 : decode jdk_29_method_69_code 2 = .ok (.if_icmp .gt 7, 3) := by decide +kernel
theorem d_jdk_29_method_69_code_5 : decode jdk_29_method_69_code 5 = .ok (.iload_n 0, 1) := by decide +kernel
theorem d_jdk_29_method_69_code_6 : decode jdk_29_method_69_code 6 = .ok (.goto 4, 3) := by decide +kernel
theorem d_jdk_29_method_69_code_9 : decode jdk_29_method_69_code 9 = .ok (.iload_n 1, 1) := by decide +kernel
theorem d_jdk_29_method_69_code_10 : decode jdk_29_method_69_code 10 = .ok (.ireturn, 1) := by decide +kernel
theorem rm_min (l : Launch) (Z : State) (a0 : Array Value) (hw : ∀ d ∈ tables_1, d.before a0 Z = true) (hEL : EW Z a0 consts_1) {ws : List Jvm.Cond} (x y : Int32) (h0 : Heap) (n0 : Nat) :
    Met l Z consts_1 (⟨"java/lang/Math", "min", "(II)I"⟩ : MethodName) jdk_29_method_69_code 2 (some .int) ws ({ frames := 0, cells := 0, slots := 0, locals := 0 } : Room) [] #[(.int x), (.int y)] h0 n0 (nq (fun v h => v = some (.int (if y < x then y else x)) ∧ h = h0)) := by
  refine met_of (Jvm.Free.JP.mathPlain rfl (by decide +kernel)) hw #[.val (.int x), .val (.int y)] (fun m => by first | rfl | (simp [entryFrame, mkF, argsToLocals, Value.category]; done)) ?_
  intro p e s m below meth c C0
  have C : Cx Z a0 tables_1 p s m meth c "java/lang/Math" "min" jdk_29_method_69_code 2 (some .int) n0 := C0
  refine g_iloadN C d_jdk_29_method_69_code_0 rfl ?_
  refine g_iloadN C d_jdk_29_method_69_code_1 rfl ?_
  by_cases hc137 : y < x
  · refine g_icmp_t C 9 d_jdk_29_method_69_code_2 (XT.ii_gt_t hc137) (by decide) (by decide) ?_
    refine g_iloadN C d_jdk_29_method_69_code_9 rfl ?_
    refine g_ireturnI C hEL rfl d_jdk_29_method_69_code_10 (by decide) (by decide) ?_
    exact ⟨by simp [hc137], rfl⟩
  · refine g_icmp_f C d_jdk_29_method_69_code_2 (XT.ii_gt_f hc137) ?_
    refine g_iloadN C d_jdk_29_method_69_code_5 rfl ?_
    refine g_goto C 10 d_jdk_29_method_69_code_6 (by decide) (by decide) ?_
    refine g_ireturnI C hEL rfl d_jdk_29_method_69_code_10 (by decide) (by decide) ?_
    exact ⟨by simp [hc137], rfl⟩
theorem d_jdk_65_method_131_code_0 : decode jdk_65_method_131_code 0 = .ok (.iload_n 1, 1) := by decide +kernel
theorem d_jdk_65_method_131_code_1 : decode jdk_65_method_131_code 1 = .ok (.iload_n 0, 1) := by decide +kernel
theorem d_jdk_65_method_131_code_2 : decode jdk_65_method_131_code 2 = .ok (.if_icmp .ge 35, 3) := by decide +kernel
theorem d_jdk_65_method_131_code_37 : decode jdk_65_method_131_code 37 = .ok (.return_, 1) := by decide +kernel
theorem pn_java_util_Arrays : plainName "java/util/Arrays" = true := by first | (simp [plainName, overriddenIn]; done) | decide +kernel
theorem rm_cl (l : Launch) (Z : State) (a0 : Array Value) (hw : ∀ d ∈ tables_1, d.before a0 Z = true) (hEL : EW Z a0 consts_1) {ws : List Jvm.Cond} (x y : Int32) (h0 : Heap) (n0 : Nat) (hxy : ¬ y < x) :
    Met l Z consts_1 (⟨"java/util/Arrays", "checkLength", "(II)V"⟩ : MethodName) jdk_65_method_131_code 2 none ws ({ frames := 0, cells := 0, slots := 0, locals := 0 } : Room) [] #[(.int x), (.int y)] h0 n0 (nq (fun v h => v = none ∧ h = h0)) := by
  refine met_of (plainFor_of_name pn_java_util_Arrays) hw #[.val (.int x), .val (.int y)] (fun m => by first | rfl | (simp [entryFrame, mkF, argsToLocals, Value.category]; done)) ?_
  intro p e s m below meth c C0
  have C : Cx Z a0 tables_1 p s m meth c "java/util/Arrays" "checkLength" jdk_65_method_131_code 2 none n0 := C0
  refine g_iloadN C d_jdk_65_method_131_code_0 rfl ?_
  refine g_iloadN C d_jdk_65_method_131_code_1 rfl ?_
  refine g_icmp_t C 37 d_jdk_65_method_131_code_2 (XT.ii_ge_t hxy) (by decide) (by decide) ?_
  refine g_return C hEL rfl d_jdk_65_method_131_code_37 (by decide) (by decide) ?_
  exact ⟨rfl, rfl⟩
theorem d_jdk_29_method_65_code_0 : decode jdk_29_method_65_code 0 = .ok (.iload_n 0, 1) := by decide +kernel
theorem d_jdk_29_method_65_code_1 : decode jdk_29_method_65_code 1 = .ok (.iload_n 1, 1) := by decide +kernel
theorem d_jdk_29_method_65_code_2 : decode jdk_29_method_65_code 2 = .ok (.if_icmp .lt 7, 3) := by decide +kernel
theorem d_jdk_29_method_65_code_5 : decode jdk_29_method_65_code 5 = .ok (.iload_n 0, 1) := by decide +kernel
theorem d_jdk_29_method_65_code_6 : decode jdk_29_method_65_code 6 = .ok (.goto 4, 3) := by decide +kernel
theorem d_jdk_29_method_65_code_9 : decode jdk_29_method_65_code 9 = .ok (.iload_n 1, 1) := by decide +kernel
theorem d_jdk_29_method_65_code_10 : decode jdk_29_method_65_code 10 = .ok (.ireturn, 1) := by decide +kernel
theorem rm_max (l : Launch) (Z : State) (a0 : Array Value) (hw : ∀ d ∈ tables_1, d.before a0 Z = true) (hEL : EW Z a0 consts_1) {ws : List Jvm.Cond} (x y : Int32) (h0 : Heap) (n0 : Nat) :
    Met l Z consts_1 (⟨"java/lang/Math", "max", "(II)I"⟩ : MethodName) jdk_29_method_65_code 2 (some .int) ws ({ frames := 0, cells := 0, slots := 0, locals := 0 } : Room) [] #[(.int x), (.int y)] h0 n0 (nq (fun v h => v = some (.int (if x < y then y else x)) ∧ h = h0)) := by
  refine met_of (Jvm.Free.JP.mathPlain rfl (by decide +kernel)) hw #[.val (.int x), .val (.int y)] (fun m => by first | rfl | (simp [entryFrame, mkF, argsToLocals, Value.category]; done)) ?_
  intro p e s m below meth c C0
  have C : Cx Z a0 tables_1 p s m meth c "java/lang/Math" "max" jdk_29_method_65_code 2 (some .int) n0 := C0
  refine g_iloadN C d_jdk_29_method_65_code_0 rfl ?_
  refine g_iloadN C d_jdk_29_method_65_code_1 rfl ?_
  by_cases hc138 : x < y
  · refine g_icmp_t C 9 d_jdk_29_method_65_code_2 (XT.ii_lt_t hc138) (by decide) (by decide) ?_
    refine g_iloadN C d_jdk_29_method_65_code_9 rfl ?_
    refine g_ireturnI C hEL rfl d_jdk_29_method_65_code_10 (by decide) (by decide) ?_
    exact ⟨by simp [hc138], rfl⟩
  · refine g_icmp_f C d_jdk_29_method_65_code_2 (XT.ii_lt_f hc138) ?_
    refine g_iloadN C d_jdk_29_method_65_code_5 rfl ?_
    refine g_goto C 10 d_jdk_29_method_65_code_6 (by decide) (by decide) ?_
    refine g_ireturnI C hEL rfl d_jdk_29_method_65_code_10 (by decide) (by decide) ?_
    exact ⟨by simp [hc138], rfl⟩
theorem d_jdk_48_method_27_code_0 : decode jdk_48_method_27_code 0 = .ok (.iload_n 0, 1) := by decide +kernel
theorem d_jdk_48_method_27_code_1 : decode jdk_48_method_27_code 1 = .ok (.iload_n 1, 1) := by decide +kernel
theorem d_jdk_48_method_27_code_2 : decode jdk_48_method_27_code 2 = .ok (.iload_n 2, 1) := by decide +kernel
theorem d_jdk_48_method_27_code_3 : decode jdk_48_method_27_code 3 = .ok (.invokestatic 194, 3) := by decide +kernel
theorem d_jdk_48_method_27_code_6 : decode jdk_48_method_27_code 6 = .ok (.iadd, 1) := by decide +kernel
theorem d_jdk_48_method_27_code_7 : decode jdk_48_method_27_code 7 = .ok (.istore_n 3, 1) := by decide +kernel
theorem d_jdk_48_method_27_code_8 : decode jdk_48_method_27_code 8 = .ok (.iconst 0, 1) := by decide +kernel
theorem d_jdk_48_method_27_code_9 : decode jdk_48_method_27_code 9 = .ok (.iload_n 3, 1) := by decide +kernel
theorem d_jdk_48_method_27_code_10 : decode jdk_48_method_27_code 10 = .ok (.if_icmp .ge 11, 3) := by decide +kernel
theorem d_jdk_48_method_27_code_13 : decode jdk_48_method_27_code 13 = .ok (.iload_n 3, 1) := by decide +kernel
theorem d_jdk_48_method_27_code_14 : decode jdk_48_method_27_code 14 = .ok (.ldc 200, 2) := by decide +kernel
theorem d_jdk_48_method_27_code_16 : decode jdk_48_method_27_code 16 = .ok (.if_icmp .gt 5, 3) := by decide +kernel
theorem d_jdk_48_method_27_code_19 : decode jdk_48_method_27_code 19 = .ok (.iload_n 3, 1) := by decide +kernel
theorem d_jdk_48_method_27_code_20 : decode jdk_48_method_27_code 20 = .ok (.ireturn, 1) := by decide +kernel
theorem pn_jdk_internal_util_ArraysSupport : plainName "jdk/internal/util/ArraysSupport" = true := by first | (simp [plainName, overriddenIn]; done) | decide +kernel
theorem pd__II_I : parseMethodDescriptor "(II)I" = some ⟨[.int, .int], some .int⟩ := by decide +kernel
theorem rm_nl (l : Launch) (Z : State) (a0 : Array Value) (hw : ∀ d ∈ tables_1, d.before a0 Z = true) (hEL : EW Z a0 consts_1) {ws : List Jvm.Cond} (a b c' : Nat) (h0 : Heap) (n0 : Nat) (h1 : a ≤ 1000) (h2 : b ≤ 1000) (h3 : c' ≤ 1000) (h4 : 1 ≤ c') :
    Met l Z consts_1 (⟨"jdk/internal/util/ArraysSupport", "newLength", "(III)I"⟩ : MethodName) jdk_48_method_27_code 4 (some .int) ws ({ frames := 1, cells := 0, slots := 0, locals := 16 } : Room) [] #[(.int (Int32.ofNat a)), (.int (Int32.ofNat b)), (.int (Int32.ofNat c'))] h0 n0 (nq (fun v h => v = some (.int (Int32.ofNat (a + max b c'))) ∧ h = h0)) := by
  refine met_of (plainFor_of_name pn_jdk_internal_util_ArraysSupport) hw #[.val (.int (Int32.ofNat a)), .val (.int (Int32.ofNat b)), .val (.int (Int32.ofNat c')), .unset] (fun m => by first | rfl | (simp [entryFrame, mkF, argsToLocals, Value.category]; done)) ?_
  intro p e s m below meth c C0
  have C : Cx Z a0 tables_1 p s m meth c "jdk/internal/util/ArraysSupport" "newLength" jdk_48_method_27_code 4 (some .int) n0 := C0
  refine g_iloadN C d_jdk_48_method_27_code_0 rfl ?_
  refine g_iloadN C d_jdk_48_method_27_code_1 rfl ?_
  refine g_iloadN C d_jdk_48_method_27_code_2 rfl ?_
  refine g_static C w_207 w_145 w_146 w_147 (by decide) [(.int (Int32.ofNat b)), (.int (Int32.ofNat c'))] (ct_of hEL hw w_147 w_146 (rm_max l Z a0 hw hEL (Int32.ofNat b) (Int32.ofNat c') h0 n0 )) all0 (by decide) 1 (by decide) rfl pd__II_I rfl [(.int (Int32.ofNat a))] rfl (Nat.le_of_eq rfl) d_jdk_48_method_27_code_3 (by decide) (by decide) ?_
  intro v139 h139 Q139
  obtain ⟨ev139, e139⟩ := Q139
  replace e139 := e139.symm
  subst e139
  replace ev139 : v139 = some (.int (Int32.ofNat (max b c'))) := ev139.trans (by rw [on_max (by omega) (by omega)])
  subst ev139
  refine g_iadd C d_jdk_48_method_27_code_6 ?_
  rw [on_add]
  refine g_istoreN C #[.val (.int (Int32.ofNat a)), .val (.int (Int32.ofNat b)), .val (.int (Int32.ofNat c')), .val (.int (Int32.ofNat (a + max b c')))] d_jdk_48_method_27_code_7 rfl ?_
  refine g_iconst C 0 d_jdk_48_method_27_code_8 rfl ?_
  refine g_iloadN C d_jdk_48_method_27_code_9 rfl ?_
  refine g_icmp_f C d_jdk_48_method_27_code_10 (XT.ii_ge_f (on_gt0 (by omega) (by omega))) ?_
  refine g_iloadN C d_jdk_48_method_27_code_13 rfl ?_
  refine g_ldcI C w_208 d_jdk_48_method_27_code_14 ?_
  refine g_icmp_f C d_jdk_48_method_27_code_16 (XT.ii_gt_f (on_nbig (by omega))) ?_
  refine g_iloadN C d_jdk_48_method_27_code_19 rfl ?_
  refine g_ireturnI C hEL rfl d_jdk_48_method_27_code_20 (by decide) (by decide) ?_
  exact ⟨rfl, rfl⟩
theorem d_jdk_68_method_10_code_0 : decode jdk_68_method_10_code 0 = .ok (.aload_n 0, 1) := by decide +kernel
theorem d_jdk_68_method_10_code_1 : decode jdk_68_method_10_code 1 = .ok (.getfield 15, 3) := by decide +kernel
theorem d_jdk_68_method_10_code_4 : decode jdk_68_method_10_code 4 = .ok (.arraylength, 1) := by decide +kernel
theorem d_jdk_68_method_10_code_5 : decode jdk_68_method_10_code 5 = .ok (.istore_n 2, 1) := by decide +kernel
theorem d_jdk_68_method_10_code_6 : decode jdk_68_method_10_code 6 = .ok (.iload_n 1, 1) := by decide +kernel
theorem d_jdk_68_method_10_code_7 : decode jdk_68_method_10_code 7 = .ok (.aload_n 0, 1) := by decide +kernel
theorem d_jdk_68_method_10_code_8 : decode jdk_68_method_10_code 8 = .ok (.getfield 22, 3) := by decide +kernel
theorem d_jdk_68_method_10_code_11 : decode jdk_68_method_10_code 11 = .ok (.ishl, 1) := by decide +kernel
theorem d_jdk_68_method_10_code_12 : decode jdk_68_method_10_code 12 = .ok (.istore_n 3, 1) := by decide +kernel
theorem d_jdk_68_method_10_code_13 : decode jdk_68_method_10_code 13 = .ok (.iload_n 3, 1) := by decide +kernel
theorem d_jdk_68_method_10_code_14 : decode jdk_68_method_10_code 14 = .ok (.iload_n 2, 1) := by decide +kernel
theorem d_jdk_68_method_10_code_15 : decode jdk_68_method_10_code 15 = .ok (.isub, 1) := by decide +kernel
theorem d_jdk_68_method_10_code_16 : decode jdk_68_method_10_code 16 = .ok (.istore 4, 2) := by decide +kernel
theorem d_jdk_68_method_10_code_18 : decode jdk_68_method_10_code 18 = .ok (.iload_n 2, 1) := by decide +kernel
theorem d_jdk_68_method_10_code_19 : decode jdk_68_method_10_code 19 = .ok (.iload 4, 2) := by decide +kernel
theorem d_jdk_68_method_10_code_21 : decode jdk_68_method_10_code 21 = .ok (.iload_n 2, 1) := by decide +kernel
theorem d_jdk_68_method_10_code_22 : decode jdk_68_method_10_code 22 = .ok (.iconst 2, 1) := by decide +kernel
theorem d_jdk_68_method_10_code_23 : decode jdk_68_method_10_code 23 = .ok (.aload_n 0, 1) := by decide +kernel
theorem d_jdk_68_method_10_code_24 : decode jdk_68_method_10_code 24 = .ok (.getfield 22, 3) := by decide +kernel
theorem d_jdk_68_method_10_code_27 : decode jdk_68_method_10_code 27 = .ok (.ishl, 1) := by decide +kernel
theorem d_jdk_68_method_10_code_28 : decode jdk_68_method_10_code 28 = .ok (.iadd, 1) := by decide +kernel
theorem d_jdk_68_method_10_code_29 : decode jdk_68_method_10_code 29 = .ok (.invokestatic 114, 3) := by decide +kernel
theorem d_jdk_68_method_10_code_32 : decode jdk_68_method_10_code 32 = .ok (.istore 5, 2) := by decide +kernel
theorem d_jdk_68_method_10_code_34 : decode jdk_68_method_10_code 34 = .ok (.iload 5, 2) := by decide +kernel
theorem d_jdk_68_method_10_code_36 : decode jdk_68_method_10_code 36 = .ok (.ldc 39, 2) := by decide +kernel
theorem d_jdk_68_method_10_code_38 : decode jdk_68_method_10_code 38 = .ok (.if_icmp .ne 13, 3) := by decide +kernel
theorem d_jdk_68_method_10_code_51 : decode jdk_68_method_10_code 51 = .ok (.iload 5, 2) := by decide +kernel
theorem d_jdk_68_method_10_code_53 : decode jdk_68_method_10_code 53 = .ok (.aload_n 0, 1) := by decide +kernel
theorem d_jdk_68_method_10_code_54 : decode jdk_68_method_10_code 54 = .ok (.getfield 22, 3) := by decide +kernel
theorem d_jdk_68_method_10_code_57 : decode jdk_68_method_10_code 57 = .ok (.ishr, 1) := by decide +kernel
theorem d_jdk_68_method_10_code_58 : decode jdk_68_method_10_code 58 = .ok (.ireturn, 1) := by decide +kernel
theorem pd__III_I : parseMethodDescriptor "(III)I" = some ⟨[.int, .int, .int], some .int⟩ := by decide +kernel
theorem rm_nc (l : Launch) (Z : State) (a0 : Array Value) (hw : ∀ d ∈ tables_1, d.before a0 Z = true) (hEL : EW Z a0 consts_1) {ws : List Jvm.Cond} (sb t : Addr) (kt : ClassId) (cap need : Nat) (cs : List Int32) (h0 : Heap) (n0 : Nat) (S0 : SBd Z h0 sb t kt cap cs) (hgr : cap < need) (hnd : need ≤ 40) :
    Met l Z consts_1 (⟨"java/lang/AbstractStringBuilder", "newCapacity", "(I)I"⟩ : MethodName) jdk_68_method_10_code 6 (some .int) ws ({ frames := 2, cells := 0, slots := 0, locals := 40 } : Room) [] #[(.ref sb), (.int (Int32.ofNat need))] h0 n0 (nq (fun v h => v = some (.int (Int32.ofNat (cap + max (need - cap) (cap + 2)))) ∧ h = h0)) := by
  refine met_of (plainFor_of_name pn_java_lang_AbstractStringBuilder) hw #[.val (.ref sb), .val (.int (Int32.ofNat need)), .unset, .unset, .unset, .unset] (fun m => by first | rfl | (simp [entryFrame, mkF, argsToLocals, Value.category]; done)) ?_
  intro p e s m below meth c C0
  have C : Cx Z a0 tables_1 p s m meth c "java/lang/AbstractStringBuilder" "newCapacity" jdk_68_method_10_code 6 (some .int) n0 := C0
  refine g_aloadN C d_jdk_68_method_10_code_0 rfl rfl ?_
  refine g_getfield C w_54 Via.refl S0.2.2.1 d_jdk_68_method_10_code_1 ?_
  refine g_arraylength C S0.2.2.2.2.1 d_jdk_68_method_10_code_4 ?_
  refine g_istoreN C #[.val (.ref sb), .val (.int (Int32.ofNat need)), .val (.int (Int32.ofNat cap)), .unset, .unset, .unset] d_jdk_68_method_10_code_5 rfl ?_
  refine g_iloadN C d_jdk_68_method_10_code_6 rfl ?_
  refine g_aloadN C d_jdk_68_method_10_code_7 rfl rfl ?_
  refine g_getfield C w_56 Via.refl S0.2.1 d_jdk_68_method_10_code_8 ?_
  refine g_ishl C d_jdk_68_method_10_code_11 ?_
  rw [own_shl0]
  refine g_istoreN C #[.val (.ref sb), .val (.int (Int32.ofNat need)), .val (.int (Int32.ofNat cap)), .val (.int (Int32.ofNat need)), .unset, .unset] d_jdk_68_method_10_code_12 rfl ?_
  refine g_iloadN C d_jdk_68_method_10_code_13 rfl ?_
  refine g_iloadN C d_jdk_68_method_10_code_14 rfl ?_
  refine g_isub C d_jdk_68_method_10_code_15 ?_
  rw [on_sub (Nat.le_of_lt hgr)]
  refine g_istore C #[.val (.ref sb), .val (.int (Int32.ofNat need)), .val (.int (Int32.ofNat cap)), .val (.int (Int32.ofNat need)), .val (.int (Int32.ofNat (need - cap))), .unset] d_jdk_68_method_10_code_16 rfl ?_
  refine g_iloadN C d_jdk_68_method_10_code_18 rfl ?_
  refine g_iload C d_jdk_68_method_10_code_19 rfl ?_
  refine g_iloadN C d_jdk_68_method_10_code_21 rfl ?_
  refine g_iconst C 2 d_jdk_68_method_10_code_22 rfl ?_
  refine g_aloadN C d_jdk_68_method_10_code_23 rfl rfl ?_
  refine g_getfield C w_56 Via.refl S0.2.1 d_jdk_68_method_10_code_24 ?_
  refine g_ishl C d_jdk_68_method_10_code_27 ?_
  rw [own_shl0]
  refine g_iadd C d_jdk_68_method_10_code_28 ?_
  rw [show (2 : Int32) = Int32.ofNat 2 from rfl, on_add]
  refine g_static C w_203 w_204 w_205 w_206 (by decide) [(.int (Int32.ofNat cap)), (.int (Int32.ofNat (need - cap))), (.int (Int32.ofNat (cap + 2)))] (ct_of hEL hw w_206 w_205 (rm_nl l Z a0 hw hEL cap (need - cap) (cap + 2) h0 n0 (by omega) (by omega) (by omega) (by omega))) all0 (by decide) 0 (by decide) rfl pd__III_I rfl [] rfl (Nat.le_of_eq rfl) d_jdk_68_method_10_code_29 (by decide) (by decide) ?_
  intro v140 h140 Q140
  obtain ⟨rfl, e140⟩ := Q140
  replace e140 := e140.symm
  subst e140
  refine g_istore C #[.val (.ref sb), .val (.int (Int32.ofNat need)), .val (.int (Int32.ofNat cap)), .val (.int (Int32.ofNat need)), .val (.int (Int32.ofNat (need - cap))), .val (.int (Int32.ofNat (cap + max (need - cap) (cap + 2))))] d_jdk_68_method_10_code_32 rfl ?_
  refine g_iload C d_jdk_68_method_10_code_34 rfl ?_
  refine g_ldcI C w_209 d_jdk_68_method_10_code_36 ?_
  refine g_icmp_t C 51 d_jdk_68_method_10_code_38 (XT.ii_ne_t (on_nmax (by omega))) (by decide) (by decide) ?_
  refine g_iload C d_jdk_68_method_10_code_51 rfl ?_
  refine g_aloadN C d_jdk_68_method_10_code_53 rfl rfl ?_
  refine g_getfield C w_56 Via.refl S0.2.1 d_jdk_68_method_10_code_54 ?_
  refine g_ishr C d_jdk_68_method_10_code_57 ?_
  rw [own_shr0]
  refine g_ireturnI C hEL rfl d_jdk_68_method_10_code_58 (by decide) (by decide) ?_
  exact ⟨rfl, rfl⟩
theorem d_jdk_65_method_121_code_0 : decode jdk_65_method_121_code 0 = .ok (.iload_n 1, 1) := by decide +kernel
theorem d_jdk_65_method_121_code_1 : decode jdk_65_method_121_code 1 = .ok (.aload_n 0, 1) := by decide +kernel
theorem d_jdk_65_method_121_code_2 : decode jdk_65_method_121_code 2 = .ok (.arraylength, 1) := by decide +kernel
theorem d_jdk_65_method_121_code_3 : decode jdk_65_method_121_code 3 = .ok (.if_icmp .ne 11, 3) := by decide +kernel
theorem d_jdk_65_method_121_code_14 : decode jdk_65_method_121_code 14 = .ok (.iload_n 1, 1) := by decide +kernel
theorem d_jdk_65_method_121_code_15 : decode jdk_65_method_121_code 15 = .ok (.newarray .byte, 2) := by decide +kernel
theorem d_jdk_65_method_121_code_17 : decode jdk_65_method_121_code 17 = .ok (.astore_n 2, 1) := by decide +kernel
theorem d_jdk_65_method_121_code_18 : decode jdk_65_method_121_code 18 = .ok (.aload_n 0, 1) := by decide +kernel
theorem d_jdk_65_method_121_code_19 : decode jdk_65_method_121_code 19 = .ok (.iconst 0, 1) := by decide +kernel
theorem d_jdk_65_method_121_code_20 : decode jdk_65_method_121_code 20 = .ok (.aload_n 2, 1) := by decide +kernel
theorem d_jdk_65_method_121_code_21 : decode jdk_65_method_121_code 21 = .ok (.iconst 0, 1) := by decide +kernel
theorem d_jdk_65_method_121_code_22 : decode jdk_65_method_121_code 22 = .ok (.aload_n 0, 1) := by decide +kernel
theorem d_jdk_65_method_121_code_23 : decode jdk_65_method_121_code 23 = .ok (.arraylength, 1) := by decide +kernel
theorem d_jdk_65_method_121_code_24 : decode jdk_65_method_121_code 24 = .ok (.iload_n 1, 1) := by decide +kernel
theorem d_jdk_65_method_121_code_25 : decode jdk_65_method_121_code 25 = .ok (.invokestatic 304, 3) := by decide +kernel
theorem d_jdk_65_method_121_code_28 : decode jdk_65_method_121_code 28 = .ok (.invokestatic 150, 3) := by decide +kernel
theorem d_jdk_65_method_121_code_31 : decode jdk_65_method_121_code 31 = .ok (.aload_n 2, 1) := by decide +kernel
theorem d_jdk_65_method_121_code_32 : decode jdk_65_method_121_code 32 = .ok (.areturn, 1) := by decide +kernel
theorem rm_co (l : Launch) (Z : State) (a0 : Array Value) (hw : ∀ d ∈ tables_1, d.before a0 Z = true) (hEL : EW Z a0 consts_1) {ws : List Jvm.Cond} (t : Addr) (kt : ClassId) (cap nc : Nat) (cs : List Int32) (h0 : Heap) (n0 : Nat) (Vt : Arv Z h0 t kt .byte (Int32.ofNat cap) (bts cs) (.int (0 : Int32))) (hcl : cs.length ≤ cap) (hcn : cap < nc) (hnc : nc ≤ 100) :
    Met l Z consts_1 (⟨"java/util/Arrays", "copyOf", "([BI)[B"⟩ : MethodName) jdk_65_method_121_code 3 (some (.array .byte)) ws ({ frames := 1, cells := 1, slots := 100, locals := 24 } : Room) [] #[(.ref t), (.int (Int32.ofNat nc))] h0 n0 (fun v h ns => ∃ b k', ns = [b] ∧ v = some (.ref b) ∧ Keep h0 h [] ∧ h0.size ≤ b ∧ Arv Z h b k' .byte (Int32.ofNat nc) (bts cs) (.int (0 : Int32)) ∧ Exa Z h b "[B") := by
  refine met_of (plainFor_of_name pn_java_util_Arrays) hw #[.val (.ref t), .val (.int (Int32.ofNat nc)), .unset] (fun m => by first | rfl | (simp [entryFrame, mkF, argsToLocals, Value.category]; done)) ?_
  intro p e s m below meth c C0
  have C : Cx Z a0 tables_1 p s m meth c "java/util/Arrays" "copyOf" jdk_65_method_121_code 3 (some (.array .byte)) n0 := C0
  refine g_iloadN C d_jdk_65_method_121_code_0 rfl ?_
  refine g_aloadN C d_jdk_65_method_121_code_1 rfl rfl ?_
  refine g_arraylength C Vt d_jdk_65_method_121_code_2 ?_
  refine g_icmp_t C 14 d_jdk_65_method_121_code_3 (XT.ii_ne_t (by rw [on_eq (by omega) (by omega)]; omega)) (by decide) (by decide) ?_
  refine g_iloadN C d_jdk_65_method_121_code_14 rfl ?_
  refine g_newarray C (aty := .byte) w_18 d_jdk_65_method_121_code_15 (on_nn (by omega)) 100 (by rw [on_nat (by omega)]; omega) (by decide) (by decide) (by decide) "[B" rfl ?_
  intro b141 h141 ka141 g141 E141 V141 A141
  replace V141 : Arv Z h141 b141 ka141 .byte (Int32.ofNat nc) [] (.int (0 : Int32)) := V141
  refine g_astoreN C #[.val (.ref t), .val (.int (Int32.ofNat nc)), .val (.ref b141)] d_jdk_65_method_121_code_17 rfl rfl ?_
  refine g_aloadN C d_jdk_65_method_121_code_18 rfl rfl ?_
  refine g_iconst C 0 d_jdk_65_method_121_code_19 rfl ?_
  refine g_aloadN C d_jdk_65_method_121_code_20 rfl rfl ?_
  refine g_iconst C 0 d_jdk_65_method_121_code_21 rfl ?_
  refine g_aloadN C d_jdk_65_method_121_code_22 rfl rfl ?_
  have K142 : Keep h0 h141 [] := (Keep.refl h0 []).ext E141
  have V143 := (Vt.keep K142 nin0)
  refine g_arraylength C V143 d_jdk_65_method_121_code_23 ?_
  refine g_iloadN C d_jdk_65_method_121_code_24 rfl ?_
  refine g_static C w_196 w_149 w_146 w_150 (by decide) [(.int (Int32.ofNat cap)), (.int (Int32.ofNat nc))] (ct_of hEL hw w_150 w_146 (rm_min l Z a0 hw hEL (Int32.ofNat cap) (Int32.ofNat nc) h141 n0 )) all0 (by decide) 4 (by decide) rfl pd__II_I rfl [(.int (0 : Int32)), (.ref b141), (.int (0 : Int32)), (.ref t)] rfl (Nat.le_of_eq rfl) d_jdk_65_method_121_code_25 (by decide) (by decide) ?_
  intro v144 h144 Q144
  obtain ⟨ev144, e144⟩ := Q144
  replace e144 := e144.symm
  subst e144
  replace ev144 : v144 = some (.int (Int32.ofNat cap)) := ev144.trans (by rw [on_min (by omega) (by omega), Nat.min_eq_left (by omega)])
  subst ev144
  refine g_arraycopy C w_197 w_108 w_106 w_107 V143 (V141.pad (pad_rep [] _ cap)) rfl (by decide) (by decide) (on_nn (by omega)) (oc_0 (by omega) (by omega) (Nat.le_refl _)) (oc_0 (by omega) (by omega) (by omega)) _ rfl (oc_l0 _ (by omega)) (mg (i := 0) rfl) rfl d_jdk_65_method_121_code_28 (by decide) 0 (Nat.le_of_eq rfl) (by decide) ?_
  intro h145 KC145 V145
  replace V145 := V145.pad (own_all (bts cs) (.int (0 : Int32)) cap (by omega) (Nat.le_trans (Nat.le_of_eq (bts_len cs)) hcl))
  refine g_aloadN C d_jdk_65_method_121_code_31 rfl rfl ?_
  refine g_areturnX C hEL (t := (.array .byte)) [b141] (allS (mg (i := 0) rfl) all0) rfl rfl rfl d_jdk_65_method_121_code_32 (by decide) (by decide) ?_
  have K146 : Keep h0 h145 [] := K142.trans KC145 (allS (Or.inr (Nat.le_of_eq g141.symm)) all0)
  have E147 := (A141.keep KC145)
  exact ⟨b141, _, rfl, rfl, K146, (Nat.le_of_eq g141.symm), V145, E147⟩
theorem d_jdk_68_method_9_code_0 : decode jdk_68_method_9_code 0 = .ok (.aload_n 0, 1) := by decide +kernel
theorem d_jdk_68_method_9_code_1 : decode jdk_68_method_9_code 1 = .ok (.getfield 15, 3) := by decide +kernel
theorem d_jdk_68_method_9_code_4 : decode jdk_68_method_9_code 4 = .ok (.arraylength, 1) := by decide +kernel
theorem d_jdk_68_method_9_code_5 : decode jdk_68_method_9_code 5 = .ok (.aload_n 0, 1) := by decide +kernel
theorem d_jdk_68_method_9_code_6 : decode jdk_68_method_9_code 6 = .ok (.getfield 22, 3) := by decide +kernel
theorem d_jdk_68_method_9_code_9 : decode jdk_68_method_9_code 9 = .ok (.ishr, 1) := by decide +kernel
theorem d_jdk_68_method_9_code_10 : decode jdk_68_method_9_code 10 = .ok (.istore_n 2, 1) := by decide +kernel
theorem d_jdk_68_method_9_code_11 : decode jdk_68_method_9_code 11 = .ok (.iload_n 1, 1) := by decide +kernel
theorem d_jdk_68_method_9_code_12 : decode jdk_68_method_9_code 12 = .ok (.iload_n 2, 1) := by decide +kernel
theorem d_jdk_68_method_9_code_13 : decode jdk_68_method_9_code 13 = .ok (.isub, 1) := by decide +kernel
theorem d_jdk_68_method_9_code_14 : decode jdk_68_method_9_code 14 = .ok (.ifCond .le 24, 3) := by decide +kernel
theorem d_jdk_68_method_9_code_17 : decode jdk_68_method_9_code 17 = .ok (.aload_n 0, 1) := by decide +kernel
theorem d_jdk_68_method_9_code_18 : decode jdk_68_method_9_code 18 = .ok (.aload_n 0, 1) := by decide +kernel
theorem d_jdk_68_method_9_code_19 : decode jdk_68_method_9_code 19 = .ok (.getfield 15, 3) := by decide +kernel
theorem d_jdk_68_method_9_code_22 : decode jdk_68_method_9_code 22 = .ok (.aload_n 0, 1) := by decide +kernel
theorem d_jdk_68_method_9_code_23 : decode jdk_68_method_9_code 23 = .ok (.iload_n 1, 1) := by decide +kernel
theorem d_jdk_68_method_9_code_24 : decode jdk_68_method_9_code 24 = .ok (.invokevirtual 104, 3) := by decide +kernel
theorem d_jdk_68_method_9_code_27 : decode jdk_68_method_9_code 27 = .ok (.aload_n 0, 1) := by decide +kernel
theorem d_jdk_68_method_9_code_28 : decode jdk_68_method_9_code 28 = .ok (.getfield 22, 3) := by decide +kernel
theorem d_jdk_68_method_9_code_31 : decode jdk_68_method_9_code 31 = .ok (.ishl, 1) := by decide +kernel
theorem d_jdk_68_method_9_code_32 : decode jdk_68_method_9_code 32 = .ok (.invokestatic 108, 3) := by decide +kernel
theorem d_jdk_68_method_9_code_35 : decode jdk_68_method_9_code 35 = .ok (.putfield 15, 3) := by decide +kernel
theorem d_jdk_68_method_9_code_38 : decode jdk_68_method_9_code 38 = .ok (.return_, 1) := by decide +kernel
theorem pd__I_I : parseMethodDescriptor "(I)I" = some ⟨[.int], some .int⟩ := by decide +kernel
theorem pd___BI__B : parseMethodDescriptor "([BI)[B" = some ⟨[(.array .byte), .int], some (.array .byte)⟩ := by decide +kernel
theorem rm_ec (l : Launch) (Z : State) (a0 : Array Value) (hw : ∀ d ∈ tables_1, d.before a0 Z = true) (hEL : EW Z a0 consts_1) {ws : List Jvm.Cond} (sb t : Addr) (kt : ClassId) (cap need : Nat) (cs : List Int32) (h0 : Heap) (n0 : Nat) (S0 : SBd Z h0 sb t kt cap cs) (hnd : need ≤ 40) (hcs : cs.length ≤ need) :
    Met l Z consts_1 (⟨"java/lang/AbstractStringBuilder", "ensureCapacityInternal", "(I)V"⟩ : MethodName) jdk_68_method_9_code 3 none ws ({ frames := 3, cells := 1, slots := 100, locals := 60 } : Room) [sb, t] #[(.ref sb), (.int (Int32.ofNat need))] h0 n0 (fun v h ns => ∃ t' kt' cap', ns = [t'] ∧ v = none ∧ Keep h0 h [sb] ∧ (t' = t ∨ h0.size ≤ t') ∧ SBd Z h sb t' kt' cap' cs ∧ need ≤ cap') := by
  refine met_of (plainFor_of_name pn_java_lang_AbstractStringBuilder) hw #[.val (.ref sb), .val (.int (Int32.ofNat need)), .unset] (fun m => by first | rfl | (simp [entryFrame, mkF, argsToLocals, Value.category]; done)) ?_
  intro p e s m below meth c C0
  have C : Cx Z a0 tables_1 p s m meth c "java/lang/AbstractStringBuilder" "ensureCapacityInternal" jdk_68_method_9_code 3 none n0 := C0
  have hl0 := S0.2.2.2.2.2.1
  have hl1 := S0.2.2.2.2.2.2.1
  refine g_aloadN C d_jdk_68_method_9_code_0 rfl rfl ?_
  refine g_getfield C w_54 Via.refl S0.2.2.1 d_jdk_68_method_9_code_1 ?_
  refine g_arraylength C S0.2.2.2.2.1 d_jdk_68_method_9_code_4 ?_
  refine g_aloadN C d_jdk_68_method_9_code_5 rfl rfl ?_
  refine g_getfield C w_56 Via.refl S0.2.1 d_jdk_68_method_9_code_6 ?_
  refine g_ishr C d_jdk_68_method_9_code_9 ?_
  rw [own_shr0]
  refine g_istoreN C #[.val (.ref sb), .val (.int (Int32.ofNat need)), .val (.int (Int32.ofNat cap))] d_jdk_68_method_9_code_10 rfl ?_
  refine g_iloadN C d_jdk_68_method_9_code_11 rfl ?_
  refine g_iloadN C d_jdk_68_method_9_code_12 rfl ?_
  refine g_isub C d_jdk_68_method_9_code_13 ?_
  by_cases hg148 : cap < need
  · refine g_if_f C d_jdk_68_method_9_code_14 (XT.i0_le_f ((on_pos (by omega) (by omega)).mpr hg148)) ?_
    refine g_aloadN C d_jdk_68_method_9_code_17 rfl rfl ?_
    refine g_aloadN C d_jdk_68_method_9_code_18 rfl rfl ?_
    refine g_getfield C w_54 Via.refl S0.2.2.1 d_jdk_68_method_9_code_19 ?_
    refine g_aloadN C d_jdk_68_method_9_code_22 rfl rfl ?_
    refine g_iloadN C d_jdk_68_method_9_code_23 rfl ?_
    refine g_private C S0.1 w_198 w_199 (fun hZ => ni_sel hw w_171 w_169 hZ) w_200 w_202 (by decide) [(.int (Int32.ofNat need))] (ct_of hEL hw w_202 w_50 (rm_nc l Z a0 hw hEL sb t _ cap need cs h0 n0 S0 hg148 hnd)) all0 (by decide) 2 (by decide) rfl pd__I_I rfl [(.ref t), (.ref sb)] rfl (Nat.le_of_eq rfl) d_jdk_68_method_9_code_24 (by decide) (by decide) ?_
    intro v149 h149 Q149
    obtain ⟨rfl, e149⟩ := Q149
    replace e149 := e149.symm
    subst e149
    refine g_aloadN C d_jdk_68_method_9_code_27 rfl rfl ?_
    refine g_getfield C w_56 Via.refl S0.2.1 d_jdk_68_method_9_code_28 ?_
    refine g_ishl C d_jdk_68_method_9_code_31 ?_
    rw [own_shl0]
    refine g_staticX C w_210 w_211 w_188 w_212 (by decide) [(.ref t), (.int (Int32.ofNat (cap + max (need - cap) (cap + 2))))] (ct_of hEL hw w_212 w_188 (rm_co l Z a0 hw hEL t _ cap (cap + max (need - cap) (cap + 2)) cs h0 n0 S0.2.2.2.2.1 hl0 (by omega) (by omega))) all0 (by decide) 1 (by decide) rfl pd___BI__B rfl [(.ref sb)] rfl (Nat.le_of_eq rfl) d_jdk_68_method_9_code_32 (by decide) (by decide) ?_
    intro v150 h150 ns150 Q150
    obtain ⟨b150, k150, rfl, rfl, KC150, le150, V150, X150⟩ := Q150
    have K151 : Keep h0 h150 [] := (Keep.refl h0 []).trans KC150 all0
    have F152 := (S0.2.2.1.keep K151 nin0)
    have E153 := (S0.1.keep K151)
    refine g_putfield C (.array .byte) w_54 Via.refl F152 E153 (Or.inl w_55) w_41 (by decide) rfl rfl (mg (i := 1) rfl) d_jdk_68_method_9_code_35 ?_
    intro h154 W154 F154
    refine g_returnX C hEL [b150] (allS (mg (i := 0) rfl) all0) rfl d_jdk_68_method_9_code_38 (by decide) (by decide) ?_
    have E155 := (E153.wr W154)
    have F156 := ((S0.2.1.keep KC150 nin0).other W154 (Or.inr (slot_ne (Or.inl (C.hw w_57)) (Or.inl (C.hw w_55)) (by decide) (t := .byte) (t' := (.array .byte)) (by decide) (by decide))))
    have F157 := ((S0.2.2.2.1.keep KC150 nin0).other W154 (Or.inr (slot_ne (Or.inl (C.hw w_83)) (Or.inl (C.hw w_55)) (by decide) (t := .int) (t' := (.array .byte)) (by decide) (by decide))))
    have V158 := (V150.other W154 (Ne.symm (Nat.ne_of_lt (Nat.lt_of_lt_of_le S0.1.lt le150))))
    have E159 := (X150.wr W154)
    exact ⟨b150, _, (cap + max (need - cap) (cap + 2)), rfl, rfl, (((Keep.refl _ _).trans KC150 all0).wr W154 (Or.inl (mg (i := 0) rfl))), Or.inr le150, ⟨E155, F156, F154, F157, V158, by omega, by omega, S0.2.2.2.2.2.2.2.1, E159⟩, by omega⟩
  · refine g_if_t C 38 d_jdk_68_method_9_code_14 (XT.i0_le_t (fun q => hg148 ((on_pos (by omega) (by omega)).mp q))) (by decide) (by decide) ?_
    refine g_returnX C hEL [t] (allS (mg (i := 1) rfl) all0) rfl d_jdk_68_method_9_code_38 (by decide) (by decide) ?_
    exact ⟨t, _, cap, rfl, rfl, (Keep.refl _ _), Or.inl rfl, S0, (by omega)⟩
theorem d_jdk_42_method_152_code_0 : decode jdk_42_method_152_code 0 = .ok (.getstatic 38, 3) := by decide +kernel
theorem d_jdk_42_method_152_code_3 : decode jdk_42_method_152_code 3 = .ok (.ifCond .eq 10, 3) := by decide +kernel
theorem d_jdk_42_method_152_code_6 : decode jdk_42_method_152_code 6 = .ok (.aload_n 0, 1) := by decide +kernel
theorem d_jdk_42_method_152_code_7 : decode jdk_42_method_152_code 7 = .ok (.getfield 15, 3) := by decide +kernel
theorem d_jdk_42_method_152_code_10 : decode jdk_42_method_152_code 10 = .ok (.goto 4, 3) := by decide +kernel
theorem d_jdk_42_method_152_code_14 : decode jdk_42_method_152_code 14 = .ok (.ireturn, 1) := by decide +kernel
theorem rm_cod (l : Launch) (Z : State) (a0 : Array Value) (hw : ∀ d ∈ tables_1, d.before a0 Z = true) (hEL : EW Z a0 consts_1) {ws : List Jvm.Cond} (s : Addr) (zc : Int32) (h0 : Heap) (n0 : Nat) (Fc : Fld Z h0 s "java/lang/String" "coder" "B" (.int 0)) (Szc : Sta Z h0 "java/lang/String" "COMPACT_STRINGS" "Z" (.int zc)) (hzc : ¬ (zc = (0 : Int32))) :
    Met l Z consts_1 (⟨"java/lang/String", "coder", "()B"⟩ : MethodName) jdk_42_method_152_code 1 (some .byte) ws ({ frames := 0, cells := 0, slots := 0, locals := 0 } : Room) [] #[(.ref s)] h0 n0 (nq (fun v h => v = some (.int 0) ∧ h = h0)) := by
  refine met_of (plainFor_of_name pn_java_lang_String) hw #[.val (.ref s)] (fun m => by first | rfl | (simp [entryFrame, mkF, argsToLocals, Value.category]; done)) ?_
  intro p e sT m below meth c C0
  have C : Cx Z a0 tables_1 p sT m meth c "java/lang/String" "coder" jdk_42_method_152_code 1 (some .byte) n0 := C0
  refine g_getstatic C w_8 Via.refl Szc d_jdk_42_method_152_code_0 ?_
  refine g_if_f C d_jdk_42_method_152_code_3 (XT.i0_eq_f hzc) ?_
  refine g_aloadN C d_jdk_42_method_152_code_6 rfl rfl ?_
  refine g_getfield C w_28 Via.refl Fc d_jdk_42_method_152_code_7 ?_
  refine g_goto C 14 d_jdk_42_method_152_code_10 (by decide) (by decide) ?_
  refine g_ireturnN C hEL (t := .byte) rfl (by simp) d_jdk_42_method_152_code_14 (by decide) (by decide) ?_
  exact ⟨rfl, rfl⟩
theorem d_jdk_42_method_147_code_0 : decode jdk_42_method_147_code 0 = .ok (.aload_n 0, 1) := by decide +kernel
theorem d_jdk_42_method_147_code_1 : decode jdk_42_method_147_code 1 = .ok (.invokevirtual 335, 3) := by decide +kernel
theorem d_jdk_42_method_147_code_4 : decode jdk_42_method_147_code 4 = .ok (.iload_n 3, 1) := by decide +kernel
theorem d_jdk_42_method_147_code_5 : decode jdk_42_method_147_code 5 = .ok (.if_icmp .ne 23, 3) := by decide +kernel
theorem d_jdk_42_method_147_code_8 : decode jdk_42_method_147_code 8 = .ok (.aload_n 0, 1) := by decide +kernel
theorem d_jdk_42_method_147_code_9 : decode jdk_42_method_147_code 9 = .ok (.getfield 9, 3) := by decide +kernel
theorem d_jdk_42_method_147_code_12 : decode jdk_42_method_147_code 12 = .ok (.iconst 0, 1) := by decide +kernel
theorem d_jdk_42_method_147_code_13 : decode jdk_42_method_147_code 13 = .ok (.aload_n 1, 1) := by decide +kernel
theorem d_jdk_42_method_147_code_14 : decode jdk_42_method_147_code 14 = .ok (.iload_n 2, 1) := by decide +kernel
theorem d_jdk_42_method_147_code_15 : decode jdk_42_method_147_code 15 = .ok (.iload_n 3, 1) := by decide +kernel
theorem d_jdk_42_method_147_code_16 : decode jdk_42_method_147_code 16 = .ok (.ishl, 1) := by decide +kernel
theorem d_jdk_42_method_147_code_17 : decode jdk_42_method_147_code 17 = .ok (.aload_n 0, 1) := by decide +kernel
theorem d_jdk_42_method_147_code_18 : decode jdk_42_method_147_code 18 = .ok (.getfield 9, 3) := by decide +kernel
theorem d_jdk_42_method_147_code_21 : decode jdk_42_method_147_code 21 = .ok (.arraylength, 1) := by decide +kernel
theorem d_jdk_42_method_147_code_22 : decode jdk_42_method_147_code 22 = .ok (.invokestatic 212, 3) := by decide +kernel
theorem d_jdk_42_method_147_code_25 : decode jdk_42_method_147_code 25 = .ok (.goto 18, 3) := by decide +kernel
theorem d_jdk_42_method_147_code_43 : decode jdk_42_method_147_code 43 = .ok (.return_, 1) := by decide +kernel
theorem pd___B : parseMethodDescriptor "()B" = some ⟨[], some .byte⟩ := by decide +kernel
theorem rm_gb (l : Launch) (Z : State) (a0 : Array Value) (hw : ∀ d ∈ tables_1, d.before a0 Z = true) (hEL : EW Z a0 consts_1) {ws : List Jvm.Cond} (s2 t2 t : Addr) (k2 kt : ClassId) (cap : Nat) (cs ds : List Int32) (zc : Int32) (h0 : Heap) (n0 : Nat) (S2 : Str Z h0 s2 t2 k2 ds) (hn4 : t2 ≠ t) (Vt : Arv Z h0 t kt .byte (Int32.ofNat cap) (bts cs) (.int (0 : Int32))) (hfit : cs.length + ds.length ≤ cap) (hcap : cap ≤ 1000) (Szc : Sta Z h0 "java/lang/String" "COMPACT_STRINGS" "Z" (.int zc)) (hzc : ¬ (zc = (0 : Int32))) :
    Met l Z consts_1 (⟨"java/lang/String", "getBytes", "([BIB)V"⟩ : MethodName) jdk_42_method_147_code 4 none ws ({ frames := 2, cells := 0, slots := 0, locals := 26 } : Room) [t] #[(.ref s2), (.ref t), (.int (Int32.ofNat cs.length)), (.int (0 : Int32))] h0 n0 (nq (fun v h => v = none ∧ Keep h0 h [t] ∧ Arv Z h t kt .byte (Int32.ofNat cap) (bts (cs ++ ds)) (.int (0 : Int32)))) := by
  refine met_of (plainFor_of_name pn_java_lang_String) hw #[.val (.ref s2), .val (.ref t), .val (.int (Int32.ofNat cs.length)), .val (.int (0 : Int32))] (fun m => by first | rfl | (simp [entryFrame, mkF, argsToLocals, Value.category]; done)) ?_
  intro p e s m below meth c C0
  have C : Cx Z a0 tables_1 p s m meth c "java/lang/String" "getBytes" jdk_42_method_147_code 4 none n0 := C0
  refine g_aloadN C d_jdk_42_method_147_code_0 rfl rfl ?_
  refine g_virtual C S2.1 w_77 w_78 (fun hZ => nf_sel hw w_80 hZ) w_80 w_79 (by decide) [] (ct_of hEL hw w_81 w_6 (rm_cod l Z a0 hw hEL s2 zc h0 n0 S2.2.1 Szc hzc)) all0 (by decide) 0 (by decide) rfl pd___B rfl [] rfl (Nat.le_of_eq rfl) d_jdk_42_method_147_code_1 (by decide) (by decide) ?_
  intro v160 h160 Q160
  obtain ⟨rfl, e160⟩ := Q160
  replace e160 := e160.symm
  subst e160
  refine g_iloadN C d_jdk_42_method_147_code_4 rfl ?_
  refine g_icmp_f C d_jdk_42_method_147_code_5 (XT.ii_ne_f (by decide)) ?_
  refine g_aloadN C d_jdk_42_method_147_code_8 rfl rfl ?_
  refine g_getfield C w_26 Via.refl S2.2.2.1 d_jdk_42_method_147_code_9 ?_
  refine g_iconst C 0 d_jdk_42_method_147_code_12 rfl ?_
  refine g_aloadN C d_jdk_42_method_147_code_13 rfl rfl ?_
  refine g_iloadN C d_jdk_42_method_147_code_14 rfl ?_
  refine g_iloadN C d_jdk_42_method_147_code_15 rfl ?_
  refine g_ishl C d_jdk_42_method_147_code_16 ?_
  rw [own_shl0]
  refine g_aloadN C d_jdk_42_method_147_code_17 rfl rfl ?_
  refine g_getfield C w_26 Via.refl S2.2.2.1 d_jdk_42_method_147_code_18 ?_
  refine g_arraylength C S2.2.2.2.1 d_jdk_42_method_147_code_21 ?_
  refine g_arraycopy C w_105 w_108 w_106 w_107 S2.2.2.2.1 (Vt.pad (pad_rep _ _ ds.length)) rfl (by decide) (on_nn (by omega)) (on_nn (by omega)) (oc_0 (by omega) (by omega) (Nat.le_refl _)) (oc_n (by omega) (by omega) (by omega) hfit) (bts ds) ?_ (oc_l (bts cs) _ (by omega) (by omega) (bts_len cs)) (mg (i := 0) rfl) rfl d_jdk_42_method_147_code_22 (by decide) 0 (Nat.le_of_eq rfl) (by decide) ?_
  · have q := own_us0 (bts ds) (.int (0 : Int32)) (by rw [bts_len]; omega)
    rw [bts_len] at q
    exact q
  intro h161 KC161 V161
  rw [own_put (bts cs) (bts ds) (.int (0 : Int32)) cs.length ds.length (by omega) (by omega) (bts_len _), ← bts_app] at V161
  refine g_goto C 43 d_jdk_42_method_147_code_25 (by decide) (by decide) ?_
  refine g_return C hEL rfl d_jdk_42_method_147_code_43 (by decide) (by decide) ?_
  exact ⟨rfl, KC161, V161⟩
theorem d_jdk_68_method_71_code_0 : decode jdk_68_method_71_code 0 = .ok (.getstatic 18, 3) := by decide +kernel
theorem d_jdk_68_method_71_code_3 : decode jdk_68_method_71_code 3 = .ok (.ifCond .eq 18, 3) := by decide +kernel
theorem d_jdk_68_method_71_code_6 : decode jdk_68_method_71_code 6 = .ok (.aload_n 0, 1) := by decide +kernel
theorem d_jdk_68_method_71_code_7 : decode jdk_68_method_71_code 7 = .ok (.getfield 22, 3) := by decide +kernel
theorem d_jdk_68_method_71_code_10 : decode jdk_68_method_71_code 10 = .ok (.aload_n 1, 1) := by decide +kernel
theorem d_jdk_68_method_71_code_11 : decode jdk_68_method_71_code 11 = .ok (.invokevirtual 40, 3) := by decide +kernel
theorem d_jdk_68_method_71_code_14 : decode jdk_68_method_71_code 14 = .ok (.if_icmp .eq 7, 3) := by decide +kernel
theorem d_jdk_68_method_71_code_21 : decode jdk_68_method_71_code 21 = .ok (.return_, 1) := by decide +kernel
theorem rm_in (l : Launch) (Z : State) (a0 : Array Value) (hw : ∀ d ∈ tables_1, d.before a0 Z = true) (hEL : EW Z a0 consts_1) {ws : List Jvm.Cond} (sb s2 t2 : Addr) (k2 : ClassId) (ds : List Int32) (zc : Int32) (h0 : Heap) (n0 : Nat) (S2 : Str Z h0 s2 t2 k2 ds) (Fc : Fld Z h0 sb "java/lang/AbstractStringBuilder" "coder" "B" (.int 0)) (Szc : Sta Z h0 "java/lang/String" "COMPACT_STRINGS" "Z" (.int zc)) (hzc : ¬ (zc = (0 : Int32))) :
    Met l Z consts_1 (⟨"java/lang/AbstractStringBuilder", "inflateIfNeededFor", "(Ljava/lang/String;)V"⟩ : MethodName) jdk_68_method_71_code 2 none ws ({ frames := 2, cells := 0, slots := 0, locals := 26 } : Room) [] #[(.ref sb), (.ref s2)] h0 n0 (nq (fun v h => v = none ∧ h = h0)) := by
  refine met_of (plainFor_of_name pn_java_lang_AbstractStringBuilder) hw #[.val (.ref sb), .val (.ref s2)] (fun m => by first | rfl | (simp [entryFrame, mkF, argsToLocals, Value.category]; done)) ?_
  intro p e s m below meth c C0
  have C : Cx Z a0 tables_1 p s m meth c "java/lang/AbstractStringBuilder" "inflateIfNeededFor" jdk_68_method_71_code 2 none n0 := C0
  refine g_getstatic C w_53 Via.refl Szc d_jdk_68_method_71_code_0 ?_
  refine g_if_f C d_jdk_68_method_71_code_3 (XT.i0_eq_f hzc) ?_
  refine g_aloadN C d_jdk_68_method_71_code_6 rfl rfl ?_
  refine g_getfield C w_56 Via.refl Fc d_jdk_68_method_71_code_7 ?_
  refine g_aloadN C d_jdk_68_method_71_code_10 rfl rfl ?_
  refine g_virtual C S2.1 w_99 w_78 (fun hZ => nf_sel hw w_80 hZ) w_80 w_79 (by decide) [] (ct_of hEL hw w_81 w_6 (rm_cod l Z a0 hw hEL s2 zc h0 n0 S2.2.1 Szc hzc)) all0 (by decide) 1 (by decide) rfl pd___B rfl [(.int (0 : Int32))] rfl (Nat.le_of_eq rfl) d_jdk_68_method_71_code_11 (by decide) (by decide) ?_
  intro v162 h162 Q162
  obtain ⟨rfl, e162⟩ := Q162
  replace e162 := e162.symm
  subst e162
  refine g_icmp_t C 21 d_jdk_68_method_71_code_14 (XT.ii_eq_t (by decide)) (by decide) (by decide) ?_
  refine g_return C hEL rfl d_jdk_68_method_71_code_21 (by decide) (by decide) ?_
  exact ⟨rfl, rfl⟩
theorem d_jdk_68_method_73_code_0 : decode jdk_68_method_73_code 0 = .ok (.aload_n 0, 1) := by decide +kernel
theorem d_jdk_68_method_73_code_1 : decode jdk_68_method_73_code 1 = .ok (.aload_n 2, 1) := by decide +kernel
theorem d_jdk_68_method_73_code_2 : decode jdk_68_method_73_code 2 = .ok (.invokevirtual 397, 3) := by decide +kernel
theorem d_jdk_68_method_73_code_5 : decode jdk_68_method_73_code 5 = .ok (.aload_n 2, 1) := by decide +kernel
theorem d_jdk_68_method_73_code_6 : decode jdk_68_method_73_code 6 = .ok (.aload_n 0, 1) := by decide +kernel
theorem d_jdk_68_method_73_code_7 : decode jdk_68_method_73_code 7 = .ok (.getfield 15, 3) := by decide +kernel
theorem d_jdk_68_method_73_code_10 : decode jdk_68_method_73_code 10 = .ok (.iload_n 1, 1) := by decide +kernel
theorem d_jdk_68_method_73_code_11 : decode jdk_68_method_73_code 11 = .ok (.aload_n 0, 1) := by decide +kernel
theorem d_jdk_68_method_73_code_12 : decode jdk_68_method_73_code 12 = .ok (.getfield 22, 3) := by decide +kernel
theorem d_jdk_68_method_73_code_15 : decode jdk_68_method_73_code 15 = .ok (.invokevirtual 399, 3) := by decide +kernel
theorem d_jdk_68_method_73_code_18 : decode jdk_68_method_73_code 18 = .ok (.return_, 1) := by decide +kernel
theorem pd__Ljava_lang_String__V : parseMethodDescriptor "(Ljava/lang/String;)V" = some ⟨[(.object "java/lang/String")], none⟩ := by decide +kernel
theorem pd___BIB_V : parseMethodDescriptor "([BIB)V" = some ⟨[(.array .byte), .int, .byte], none⟩ := by decide +kernel
theorem rm_ps (l : Launch) (Z : State) (a0 : Array Value) (hw : ∀ d ∈ tables_1, d.before a0 Z = true) (hEL : EW Z a0 consts_1) {ws : List Jvm.Cond} (sb t s2 t2 : Addr) (kt k2 : ClassId) (cap : Nat) (cs ds : List Int32) (zc : Int32) (h0 : Heap) (n0 : Nat) (S0 : SBd Z h0 sb t kt cap cs) (S2 : Str Z h0 s2 t2 k2 ds) (hn1 : s2 ≠ sb) (hn2 : s2 ≠ t) (hn3 : t2 ≠ sb) (hn4 : t2 ≠ t) (hfit : cs.length + ds.length ≤ cap) (hcap : cap ≤ 1000) (Szc : Sta Z h0 "java/lang/String" "COMPACT_STRINGS" "Z" (.int zc)) (hzc : ¬ (zc = (0 : Int32))) :
    Met l Z consts_1 (⟨"java/lang/AbstractStringBuilder", "putStringAt", "(ILjava/lang/String;)V"⟩ : MethodName) jdk_68_method_73_code 3 none ws ({ frames := 3, cells := 0, slots := 0, locals := 44 } : Room) [t] #[(.ref sb), (.int (Int32.ofNat cs.length)), (.ref s2)] h0 n0 (nq (fun v h => v = none ∧ Keep h0 h [t] ∧ Arv Z h t kt .byte (Int32.ofNat cap) (bts (cs ++ ds)) (.int (0 : Int32)))) := by
  refine met_of (plainFor_of_name pn_java_lang_AbstractStringBuilder) hw #[.val (.ref sb), .val (.int (Int32.ofNat cs.length)), .val (.ref s2)] (fun m => by first | rfl | (simp [entryFrame, mkF, argsToLocals, Value.category]; done)) ?_
  intro p e s m below meth c C0
  have C : Cx Z a0 tables_1 p s m meth c "java/lang/AbstractStringBuilder" "putStringAt" jdk_68_method_73_code 3 none n0 := C0
  refine g_aloadN C d_jdk_68_method_73_code_0 rfl rfl ?_
  refine g_aloadN C d_jdk_68_method_73_code_1 rfl rfl ?_
  refine g_private C S0.1 w_94 w_95 (fun hZ => ni_sel hw w_171 w_169 hZ) w_96 w_98 (by decide) [(.ref s2)] (ct_of hEL hw w_98 w_50 (rm_in l Z a0 hw hEL sb s2 t2 _ ds zc h0 n0 S2 S0.2.1 Szc hzc)) all0 (by decide) 0 (by decide) rfl pd__Ljava_lang_String__V rfl [] rfl (Nat.le_of_eq rfl) d_jdk_68_method_73_code_2 (by decide) (by decide) ?_
  intro v163 h163 Q163
  obtain ⟨rfl, e163⟩ := Q163
  replace e163 := e163.symm
  subst e163
  refine g_aloadN C d_jdk_68_method_73_code_5 rfl rfl ?_
  refine g_aloadN C d_jdk_68_method_73_code_6 rfl rfl ?_
  refine g_getfield C w_54 Via.refl S0.2.2.1 d_jdk_68_method_73_code_7 ?_
  refine g_iloadN C d_jdk_68_method_73_code_10 rfl ?_
  refine g_aloadN C d_jdk_68_method_73_code_11 rfl rfl ?_
  refine g_getfield C w_56 Via.refl S0.2.1 d_jdk_68_method_73_code_12 ?_
  refine g_virtual C S2.1 w_100 w_101 (fun hZ => nf_sel hw w_103 hZ) w_103 w_102 (by decide) [(.ref t), (.int (Int32.ofNat cs.length)), (.int (0 : Int32))] (ct_of hEL hw w_104 w_6 (rm_gb l Z a0 hw hEL s2 t2 t _ _ cap cs ds zc h0 n0 S2 hn4 S0.2.2.2.2.1 hfit hcap Szc hzc)) (allS (mg (i := 0) rfl) all0) (by decide) 0 (by decide) rfl pd___BIB_V rfl [] rfl (Nat.le_of_eq rfl) d_jdk_68_method_73_code_15 (by decide) (by decide) ?_
  intro v164 h164 Q164
  obtain ⟨rfl, KC164, V164⟩ := Q164
  refine g_return C hEL rfl d_jdk_68_method_73_code_18 (by decide) (by decide) ?_
  exact ⟨rfl, KC164, V164⟩
theorem d_jdk_68_method_22_code_0 : decode jdk_68_method_22_code 0 = .ok (.aload_n 1, 1) := by decide +kernel
theorem d_jdk_68_method_22_code_1 : decode jdk_68_method_22_code 1 = .ok (.ifnonnull 8, 3) := by decide +kernel
theorem d_jdk_68_method_22_code_9 : decode jdk_68_method_22_code 9 = .ok (.aload_n 1, 1) := by decide +kernel
theorem d_jdk_68_method_22_code_10 : decode jdk_68_method_22_code 10 = .ok (.invokevirtual 32, 3) := by decide +kernel
theorem d_jdk_68_method_22_code_13 : decode jdk_68_method_22_code 13 = .ok (.istore_n 2, 1) := by decide +kernel
theorem d_jdk_68_method_22_code_14 : decode jdk_68_method_22_code 14 = .ok (.aload_n 0, 1) := by decide +kernel
theorem d_jdk_68_method_22_code_15 : decode jdk_68_method_22_code 15 = .ok (.aload_n 0, 1) := by decide +kernel
theorem d_jdk_68_method_22_code_16 : decode jdk_68_method_22_code 16 = .ok (.getfield 79, 3) := by decide +kernel
theorem d_jdk_68_method_22_code_19 : decode jdk_68_method_22_code 19 = .ok (.iload_n 2, 1) := by decide +kernel
theorem d_jdk_68_method_22_code_20 : decode jdk_68_method_22_code 20 = .ok (.iadd, 1) := by decide +kernel
theorem d_jdk_68_method_22_code_21 : decode jdk_68_method_22_code 21 = .ok (.invokevirtual 100, 3) := by decide +kernel
theorem d_jdk_68_method_22_code_24 : decode jdk_68_method_22_code 24 = .ok (.aload_n 0, 1) := by decide +kernel
theorem d_jdk_68_method_22_code_25 : decode jdk_68_method_22_code 25 = .ok (.aload_n 0, 1) := by decide +kernel
theorem d_jdk_68_method_22_code_26 : decode jdk_68_method_22_code 26 = .ok (.getfield 79, 3) := by decide +kernel
theorem d_jdk_68_method_22_code_29 : decode jdk_68_method_22_code 29 = .ok (.aload_n 1, 1) := by decide +kernel
theorem d_jdk_68_method_22_code_30 : decode jdk_68_method_22_code 30 = .ok (.invokevirtual 208, 3) := by decide +kernel
theorem d_jdk_68_method_22_code_33 : decode jdk_68_method_22_code 33 = .ok (.aload_n 0, 1) := by decide +kernel
theorem d_jdk_68_method_22_code_34 : decode jdk_68_method_22_code 34 = .ok (.dup, 1) := by decide +kernel
theorem d_jdk_68_method_22_code_35 : decode jdk_68_method_22_code 35 = .ok (.getfield 79, 3) := by decide +kernel
theorem d_jdk_68_method_22_code_38 : decode jdk_68_method_22_code 38 = .ok (.iload_n 2, 1) := by decide +kernel
theorem d_jdk_68_method_22_code_39 : decode jdk_68_method_22_code 39 = .ok (.iadd, 1) := by decide +kernel
theorem d_jdk_68_method_22_code_40 : decode jdk_68_method_22_code 40 = .ok (.putfield 79, 3) := by decide +kernel
theorem d_jdk_68_method_22_code_43 : decode jdk_68_method_22_code 43 = .ok (.aload_n 0, 1) := by decide +kernel
theorem d_jdk_68_method_22_code_44 : decode jdk_68_method_22_code 44 = .ok (.areturn, 1) := by decide +kernel
theorem pd___I : parseMethodDescriptor "()I" = some ⟨[], some .int⟩ := by decide +kernel
theorem pd__ILjava_lang_String__V : parseMethodDescriptor "(ILjava/lang/String;)V" = some ⟨[.int, (.object "java/lang/String")], none⟩ := by decide +kernel
theorem rm_aa (l : Launch) (Z : State) (a0 : Array Value) (hw : ∀ d ∈ tables_1, d.before a0 Z = true) (hEL : EW Z a0 consts_1) {ws : List Jvm.Cond} (sb t s2 t2 : Addr) (kt k2 : ClassId) (cap : Nat) (cs ds : List Int32) (zc : Int32) (h0 : Heap) (n0 : Nat) (S0 : SBd Z h0 sb t kt cap cs) (S2 : Str Z h0 s2 t2 k2 ds) (hn1 : s2 ≠ sb) (hn2 : s2 ≠ t) (hn3 : t2 ≠ sb) (hn4 : t2 ≠ t) (hst : sb ≠ t) (htot : cs.length + ds.length ≤ 40) (Szc : Sta Z h0 "java/lang/String" "COMPACT_STRINGS" "Z" (.int zc)) (hzc : ¬ (zc = (0 : Int32))) :
    Met l Z consts_1 (⟨"java/lang/AbstractStringBuilder", "append", "(Ljava/lang/String;)Ljava/lang/AbstractStringBuilder;"⟩ : MethodName) jdk_68_method_22_code 3 (some (.object "java/lang/AbstractStringBuilder")) ws ({ frames := 4, cells := 1, slots := 100, locals := 80 } : Room) [sb, t] #[(.ref sb), (.ref s2)] h0 n0 (fun v h ns => ∃ t' kt' cap', ns = [t'] ∧ v = some (.ref sb) ∧ Keep h0 h [sb, t] ∧ (t' = t ∨ h0.size ≤ t') ∧ SBd Z h sb t' kt' cap' (cs ++ ds)) := by
  refine met_of (plainFor_of_name pn_java_lang_AbstractStringBuilder) hw #[.val (.ref sb), .val (.ref s2), .unset] (fun m => by first | rfl | (simp [entryFrame, mkF, argsToLocals, Value.category]; done)) ?_
  intro p e s m below meth c C0
  have C : Cx Z a0 tables_1 p s m meth c "java/lang/AbstractStringBuilder" "append" jdk_68_method_22_code 3 (some (.object "java/lang/AbstractStringBuilder")) n0 := C0
  refine g_aloadN C d_jdk_68_method_22_code_0 rfl rfl ?_
  refine g_ifnonnull_t C 9 d_jdk_68_method_22_code_1 (by decide) (by decide) ?_
  refine g_aloadN C d_jdk_68_method_22_code_9 rfl rfl ?_
  refine g_virtual C S2.1 w_72 w_73 (fun hZ => nf_sel hw w_75 hZ) w_75 w_74 (by decide) [] (ct_len hEL hw S2 Szc hzc) all0 (by decide) 0 (by decide) rfl pd___I rfl [] rfl (Nat.le_of_eq rfl) d_jdk_68_method_22_code_10 (by decide) (by decide) ?_
  intro v165 h165 Q165
  obtain ⟨rfl, e165⟩ := Q165
  replace e165 := e165.symm
  subst e165
  refine g_istoreN C #[.val (.ref sb), .val (.ref s2), .val (.int (Int32.ofNat ds.length))] d_jdk_68_method_22_code_13 rfl ?_
  refine g_aloadN C d_jdk_68_method_22_code_14 rfl rfl ?_
  refine g_aloadN C d_jdk_68_method_22_code_15 rfl rfl ?_
  refine g_getfield C w_82 Via.refl S0.2.2.2.1 d_jdk_68_method_22_code_16 ?_
  refine g_iloadN C d_jdk_68_method_22_code_19 rfl ?_
  refine g_iadd C d_jdk_68_method_22_code_20 ?_
  rw [on_add]
  refine g_privateX C S0.1 w_84 w_85 (fun hZ => ni_sel hw w_171 w_169 hZ) w_86 w_88 (by decide) [(.int (Int32.ofNat (cs.length + ds.length)))] (ct_of hEL hw w_88 w_50 (rm_ec l Z a0 hw hEL sb t _ cap (cs.length + ds.length) cs h0 n0 S0 (by omega) (by omega))) (allS (mg (i := 0) rfl) (allS (mg (i := 1) rfl) all0)) (by decide) 0 (by decide) rfl pd__I_V rfl [] rfl (Nat.le_of_eq rfl) d_jdk_68_method_22_code_21 (by decide) (by decide) ?_
  intro v166 h166 ns166 Q166
  obtain ⟨t'166, kt'166, cap'166, rfl, rfl, KC166, or166, SB166, hc166⟩ := Q166
  have hq1166 : s2 ≠ t'166 := or166.elim (fun q => by rw [q]; exact hn2) (fun q => Nat.ne_of_lt (Nat.lt_of_lt_of_le S2.1.lt q))
  have hq2166 : t2 ≠ t'166 := or166.elim (fun q => by rw [q]; exact hn4) (fun q => Nat.ne_of_lt (Nat.lt_of_lt_of_le S2.2.2.2.1.lt q))
  have hq3166 : sb ≠ t'166 := or166.elim (fun q => by rw [q]; exact hst) (fun q => Nat.ne_of_lt (Nat.lt_of_lt_of_le S0.1.lt q))
  refine g_aloadN C d_jdk_68_method_22_code_24 rfl rfl ?_
  refine g_aloadN C d_jdk_68_method_22_code_25 rfl rfl ?_
  refine g_getfield C w_82 Via.refl SB166.2.2.2.1 d_jdk_68_method_22_code_26 ?_
  refine g_aloadN C d_jdk_68_method_22_code_29 rfl rfl ?_
  have S167 := (S2.keep KC166 (ninS hn1 nin0) (ninS hn3 nin0))
  have T168 := (Sta_keepE Szc KC166 (allS ⟨_, S0.1⟩ all0))
  refine g_private C SB166.1 w_89 w_90 (fun hZ => ni_sel hw w_171 w_169 hZ) w_91 w_93 (by decide) [(.int (Int32.ofNat cs.length)), (.ref s2)] (ct_of hEL hw w_93 w_50 (rm_ps l Z a0 hw hEL sb t'166 s2 t2 _ _ cap'166 cs ds zc h166 n0 SB166 S167 hn1 hq1166 hn3 hq2166 hc166 (by have := SB166.2.2.2.2.2.2.1; omega) T168 hzc)) (allS (mg (i := 0) rfl) all0) (by decide) 0 (by decide) rfl pd__ILjava_lang_String__V rfl [] rfl (Nat.le_of_eq rfl) d_jdk_68_method_22_code_30 (by decide) (by decide) ?_
  intro v169 h169 Q169
  obtain ⟨rfl, KC169, V169⟩ := Q169
  refine g_aloadN C d_jdk_68_method_22_code_33 rfl rfl ?_
  refine g_dup C d_jdk_68_method_22_code_34 rfl ?_
  have F170 := (SB166.2.2.2.1.keep KC169 (ninS hq3166 nin0))
  refine g_getfield C w_82 Via.refl F170 d_jdk_68_method_22_code_35 ?_
  refine g_iloadN C d_jdk_68_method_22_code_38 rfl ?_
  refine g_iadd C d_jdk_68_method_22_code_39 ?_
  have E171 := (SB166.1.keep KC169)
  refine g_putfield C .int w_82 Via.refl F170 E171 (Or.inl w_83) w_41 (by decide) rfl rfl (mg (i := 1) rfl) d_jdk_68_method_22_code_40 ?_
  intro h172 W172 F172
  refine g_aloadN C d_jdk_68_method_22_code_43 rfl rfl ?_
  refine g_areturnX C hEL (t := (.object "java/lang/AbstractStringBuilder")) [t'166] (allS (mg (i := 0) rfl) all0) rfl rfl rfl d_jdk_68_method_22_code_44 (by decide) (by decide) ?_
  have E173 := (E171.wr W172)
  have F174 := ((SB166.2.1.keep KC169 (ninS hq3166 nin0)).other W172 (Or.inr (slot_ne (Or.inl (C.hw w_57)) (Or.inl (C.hw w_83)) (by decide) (t := .byte) (t' := .int) (by decide) (by decide))))
  have F175 := ((SB166.2.2.1.keep KC169 (ninS hq3166 nin0)).other W172 (Or.inr (slot_ne (Or.inl (C.hw w_55)) (Or.inl (C.hw w_83)) (by decide) (t := (.array .byte)) (t' := .int) (by decide) (by decide))))
  have V176 := (V169.other W172 (Ne.symm hq3166))
  have E177 := ((SB166.2.2.2.2.2.2.2.2.keep KC169).wr W172)
  exact ⟨t'166, _, _, rfl, rfl, ((((Keep.refl _ _).trans KC166 (allS (Or.inl (mg (i := 0) rfl)) all0)).trans KC169 (allS (or166.elim (fun q => Or.inl (by rw [q]; exact List.mem_of_getElem? (i := 1) rfl)) Or.inr) all0)).wr W172 (Or.inl (mg (i := 0) rfl))), or166, ⟨E173, F174, F175, (by rw [List.length_append, ← on_add]; exact F172), V176, by rw [List.length_append]; exact hc166, SB166.2.2.2.2.2.2.1, own_mem_app S0.2.2.2.2.2.2.2.1 S2.2.2.2.2.2, E177⟩⟩
theorem d_jdk_67_method_7_code_0 : decode jdk_67_method_7_code 0 = .ok (.aload_n 0, 1) := by decide +kernel
theorem d_jdk_67_method_7_code_1 : decode jdk_67_method_7_code 1 = .ok (.aload_n 1, 1) := by decide +kernel
theorem d_jdk_67_method_7_code_2 : decode jdk_67_method_7_code 2 = .ok (.invokespecial 29, 3) := by decide +kernel
theorem d_jdk_67_method_7_code_5 : decode jdk_67_method_7_code 5 = .ok (.pop, 1) := by decide +kernel
theorem d_jdk_67_method_7_code_6 : decode jdk_67_method_7_code 6 = .ok (.aload_n 0, 1) := by decide +kernel
theorem d_jdk_67_method_7_code_7 : decode jdk_67_method_7_code 7 = .ok (.areturn, 1) := by decide +kernel
theorem pd__Ljava_lang_String__Ljava_lang_AbstractStringBuilder_ : parseMethodDescriptor "(Ljava/lang/String;)Ljava/lang/AbstractStringBuilder;" = some ⟨[(.object "java/lang/String")], some (.object "java/lang/AbstractStringBuilder")⟩ := by decide +kernel
theorem rm_sa (l : Launch) (Z : State) (a0 : Array Value) (hw : ∀ d ∈ tables_1, d.before a0 Z = true) (hEL : EW Z a0 consts_1) {ws : List Jvm.Cond} (sb t s2 t2 : Addr) (kt k2 : ClassId) (cap : Nat) (cs ds : List Int32) (zc : Int32) (h0 : Heap) (n0 : Nat) (S0 : SBd Z h0 sb t kt cap cs) (S2 : Str Z h0 s2 t2 k2 ds) (hn1 : s2 ≠ sb) (hn2 : s2 ≠ t) (hn3 : t2 ≠ sb) (hn4 : t2 ≠ t) (hst : sb ≠ t) (htot : cs.length + ds.length ≤ 40) (Szc : Sta Z h0 "java/lang/String" "COMPACT_STRINGS" "Z" (.int zc)) (hzc : ¬ (zc = (0 : Int32))) :
    Met l Z consts_1 (⟨"java/lang/StringBuilder", "append", "(Ljava/lang/String;)Ljava/lang/StringBuilder;"⟩ : MethodName) jdk_67_method_7_code 2 (some (.object "java/lang/StringBuilder")) ws ({ frames := 5, cells := 1, slots := 100, locals := 96 } : Room) [sb, t] #[(.ref sb), (.ref s2)] h0 n0 (fun v h ns => ∃ t' kt' cap', ns = [t'] ∧ v = some (.ref sb) ∧ Keep h0 h [sb, t] ∧ (t' = t ∨ h0.size ≤ t') ∧ SBd Z h sb t' kt' cap' (cs ++ ds)) := by
  refine met_of (plainFor_of_name pn_java_lang_StringBuilder) hw #[.val (.ref sb), .val (.ref s2)] (fun m => by first | rfl | (simp [entryFrame, mkF, argsToLocals, Value.category]; done)) ?_
  intro p e s m below meth c C0
  have C : Cx Z a0 tables_1 p s m meth c "java/lang/StringBuilder" "append" jdk_67_method_7_code 2 (some (.object "java/lang/StringBuilder")) n0 := C0
  refine g_aloadN C d_jdk_67_method_7_code_0 rfl rfl ?_
  refine g_aloadN C d_jdk_67_method_7_code_1 rfl rfl ?_
  refine g_superX C S0.1 w_67 w_70 w_68 w_69 (by decide) w_71 (ni_sel hw w_171 w_169 (State.Warmed39.refl Z)) (by decide) [(.ref s2)] (ct_of hEL hw w_71 w_50 (rm_aa l Z a0 hw hEL sb t s2 t2 _ _ cap cs ds zc h0 n0 S0 S2 hn1 hn2 hn3 hn4 hst htot Szc hzc)) (allS (mg (i := 0) rfl) (allS (mg (i := 1) rfl) all0)) (by decide) 0 (by decide) rfl pd__Ljava_lang_String__Ljava_lang_AbstractStringBuilder_ rfl [] rfl (Nat.le_of_eq rfl) d_jdk_67_method_7_code_2 (by decide) (by decide) ?_
  intro v178 h178 ns178 Q178
  obtain ⟨t'178, kt'178, cap'178, rfl, rfl, KC178, or178, SB178⟩ := Q178
  refine g_pop C d_jdk_67_method_7_code_5 rfl ?_
  refine g_aloadN C d_jdk_67_method_7_code_6 rfl rfl ?_
  refine g_areturnX C hEL (t := (.object "java/lang/StringBuilder")) [t'178] (allS (mg (i := 0) rfl) all0) rfl rfl rfl d_jdk_67_method_7_code_7 (by decide) (by decide) ?_
  exact ⟨_, _, _, rfl, rfl, KC178, or178, SB178⟩
theorem d_jdk_65_method_133_code_0 : decode jdk_65_method_133_code 0 = .ok (.iload_n 1, 1) := by decide +kernel
theorem d_jdk_65_method_133_code_1 : decode jdk_65_method_133_code 1 = .ok (.iload_n 2, 1) := by decide +kernel
theorem d_jdk_65_method_133_code_2 : decode jdk_65_method_133_code 2 = .ok (.invokestatic 343, 3) := by decide +kernel
theorem d_jdk_65_method_133_code_5 : decode jdk_65_method_133_code 5 = .ok (.iload_n 2, 1) := by decide +kernel
theorem d_jdk_65_method_133_code_6 : decode jdk_65_method_133_code 6 = .ok (.iload_n 1, 1) := by decide +kernel
theorem d_jdk_65_method_133_code_7 : decode jdk_65_method_133_code 7 = .ok (.isub, 1) := by decide +kernel
theorem d_jdk_65_method_133_code_8 : decode jdk_65_method_133_code 8 = .ok (.istore_n 3, 1) := by decide +kernel
theorem d_jdk_65_method_133_code_9 : decode jdk_65_method_133_code 9 = .ok (.iload_n 3, 1) := by decide +kernel
theorem d_jdk_65_method_133_code_10 : decode jdk_65_method_133_code 10 = .ok (.newarray .byte, 2) := by decide +kernel
theorem d_jdk_65_method_133_code_12 : decode jdk_65_method_133_code 12 = .ok (.astore 4, 2) := by decide +kernel
theorem d_jdk_65_method_133_code_14 : decode jdk_65_method_133_code 14 = .ok (.aload_n 0, 1) := by decide +kernel
theorem d_jdk_65_method_133_code_15 : decode jdk_65_method_133_code 15 = .ok (.iload_n 1, 1) := by decide +kernel
theorem d_jdk_65_method_133_code_16 : decode jdk_65_method_133_code 16 = .ok (.aload 4, 2) := by decide +kernel
theorem d_jdk_65_method_133_code_18 : decode jdk_65_method_133_code 18 = .ok (.iconst 0, 1) := by decide +kernel
theorem d_jdk_65_method_133_code_19 : decode jdk_65_method_133_code 19 = .ok (.aload_n 0, 1) := by decide +kernel
theorem d_jdk_65_method_133_code_20 : decode jdk_65_method_133_code 20 = .ok (.arraylength, 1) := by decide +kernel
theorem d_jdk_65_method_133_code_21 : decode jdk_65_method_133_code 21 = .ok (.iload_n 1, 1) := by decide +kernel
theorem d_jdk_65_method_133_code_22 : decode jdk_65_method_133_code 22 = .ok (.isub, 1) := by decide +kernel
theorem d_jdk_65_method_133_code_23 : decode jdk_65_method_133_code 23 = .ok (.iload_n 3, 1) := by decide +kernel
theorem d_jdk_65_method_133_code_24 : decode jdk_65_method_133_code 24 = .ok (.invokestatic 304, 3) := by decide +kernel
theorem d_jdk_65_method_133_code_27 : decode jdk_65_method_133_code 27 = .ok (.invokestatic 150, 3) := by decide +kernel
theorem d_jdk_65_method_133_code_30 : decode jdk_65_method_133_code 30 = .ok (.aload 4, 2) := by decide +kernel
theorem d_jdk_65_method_133_code_32 : decode jdk_65_method_133_code 32 = .ok (.areturn, 1) := by decide +kernel
theorem pd__II_V : parseMethodDescriptor "(II)V" = some ⟨[.int, .int], none⟩ := by decide +kernel
theorem rm_crb (l : Launch) (Z : State) (a0 : Array Value) (hw : ∀ d ∈ tables_1, d.before a0 Z = true) (hEL : EW Z a0 consts_1) {ws : List Jvm.Cond} (t : Addr) (kt : ClassId) (cap i j : Nat) (cs : List Int32) (h0 : Heap) (n0 : Nat) (Vt : Arv Z h0 t kt .byte (Int32.ofNat cap) (bts cs) (.int (0 : Int32))) (hij : i ≤ j) (hjl : j ≤ cs.length) (hlc : cs.length ≤ cap) (hc100 : j ≤ 100) (hcap : cap ≤ 1000) :
    Met l Z consts_1 (⟨"java/util/Arrays", "copyOfRangeByte", "([BII)[B"⟩ : MethodName) jdk_65_method_133_code 5 (some (.array .byte)) ws ({ frames := 1, cells := 1, slots := 100, locals := 24 } : Room) [] #[(.ref t), (.int (Int32.ofNat i)), (.int (Int32.ofNat j))] h0 n0 (nq (fun v h => ∃ b k', v = some (.ref b) ∧ Keep h0 h [] ∧ h0.size ≤ b ∧ Arv Z h b k' .byte (Int32.ofNat (j - i)) (bts ((cs.drop i).take (j - i))) (.int (0 : Int32)))) := by
  refine met_of (plainFor_of_name pn_java_util_Arrays) hw #[.val (.ref t), .val (.int (Int32.ofNat i)), .val (.int (Int32.ofNat j)), .unset, .unset] (fun m => by first | rfl | (simp [entryFrame, mkF, argsToLocals, Value.category]; done)) ?_
  intro p e s m below meth c C0
  have C : Cx Z a0 tables_1 p s m meth c "java/util/Arrays" "copyOfRangeByte" jdk_65_method_133_code 5 (some (.array .byte)) n0 := C0
  refine g_iloadN C d_jdk_65_method_133_code_0 rfl ?_
  refine g_iloadN C d_jdk_65_method_133_code_1 rfl ?_
  refine g_static C w_193 w_194 w_188 w_195 (by decide) [(.int (Int32.ofNat i)), (.int (Int32.ofNat j))] (ct_of hEL hw w_195 w_188 (rm_cl l Z a0 hw hEL (Int32.ofNat i) (Int32.ofNat j) h0 n0 (by rw [on_lt (by omega) (by omega)]; omega))) all0 (by decide) 0 (by decide) rfl pd__II_V rfl [] rfl (Nat.le_of_eq rfl) d_jdk_65_method_133_code_2 (by decide) (by decide) ?_
  intro v179 h179 Q179
  obtain ⟨rfl, e179⟩ := Q179
  replace e179 := e179.symm
  subst e179
  refine g_iloadN C d_jdk_65_method_133_code_5 rfl ?_
  refine g_iloadN C d_jdk_65_method_133_code_6 rfl ?_
  refine g_isub C d_jdk_65_method_133_code_7 ?_
  rw [on_sub hij]
  refine g_istoreN C #[.val (.ref t), .val (.int (Int32.ofNat i)), .val (.int (Int32.ofNat j)), .val (.int (Int32.ofNat (j - i))), .unset] d_jdk_65_method_133_code_8 rfl ?_
  refine g_iloadN C d_jdk_65_method_133_code_9 rfl ?_
  refine g_newarray C (aty := .byte) w_18 d_jdk_65_method_133_code_10 (on_nn (by omega)) 100 (by rw [on_nat (by omega)]; omega) (by decide) (by decide) (by decide) "[B" rfl ?_
  intro b180 h180 ka180 g180 E180 V180 A180
  replace V180 : Arv Z h180 b180 ka180 .byte (Int32.ofNat (j - i)) [] (.int (0 : Int32)) := V180
  refine g_astore C #[.val (.ref t), .val (.int (Int32.ofNat i)), .val (.int (Int32.ofNat j)), .val (.int (Int32.ofNat (j - i))), .val (.ref b180)] d_jdk_65_method_133_code_12 rfl rfl ?_
  refine g_aloadN C d_jdk_65_method_133_code_14 rfl rfl ?_
  refine g_iloadN C d_jdk_65_method_133_code_15 rfl ?_
  refine g_aload C d_jdk_65_method_133_code_16 rfl rfl ?_
  refine g_iconst C 0 d_jdk_65_method_133_code_18 rfl ?_
  refine g_aloadN C d_jdk_65_method_133_code_19 rfl rfl ?_
  have K181 : Keep h0 h180 [] := (Keep.refl h0 []).ext E180
  have V182 := (Vt.keep K181 nin0)
  refine g_arraylength C V182 d_jdk_65_method_133_code_20 ?_
  refine g_iloadN C d_jdk_65_method_133_code_21 rfl ?_
  refine g_isub C d_jdk_65_method_133_code_22 ?_
  rw [on_sub (by omega)]
  refine g_iloadN C d_jdk_65_method_133_code_23 rfl ?_
  refine g_static C w_196 w_149 w_146 w_150 (by decide) [(.int (Int32.ofNat (cap - i))), (.int (Int32.ofNat (j - i)))] (ct_of hEL hw w_150 w_146 (rm_min l Z a0 hw hEL (Int32.ofNat (cap - i)) (Int32.ofNat (j - i)) h180 n0 )) all0 (by decide) 4 (by decide) rfl pd__II_I rfl [(.int (0 : Int32)), (.ref b180), (.int (Int32.ofNat i)), (.ref t)] rfl (Nat.le_of_eq rfl) d_jdk_65_method_133_code_24 (by decide) (by decide) ?_
  intro v183 h183 Q183
  obtain ⟨ev183, e183⟩ := Q183
  replace e183 := e183.symm
  subst e183
  replace ev183 : v183 = some (.int (Int32.ofNat (j - i))) := ev183.trans (by rw [on_min (by omega) (by omega), Nat.min_eq_right (by omega)])
  subst ev183
  refine g_arraycopy C w_197 w_108 w_106 w_107 V182 (V180.pad (pad_rep [] _ (j - i))) rfl (on_nn (by omega)) (by decide) (on_nn (by omega)) (oc_n (by omega) (by omega) (by omega) (by omega)) (oc_0 (by omega) (by omega) (Nat.le_refl _)) (((bts cs).drop i).take (j - i)) (own_us (bts cs) _ i (j - i) (by omega) (by omega) (by rw [bts_len]; omega)) (oc_l0 _ (by omega)) (mg (i := 0) rfl) rfl d_jdk_65_method_133_code_27 (by decide) 0 (Nat.le_of_eq rfl) (by decide) ?_
  intro h184 KC184 V184
  rw [own_put0 (((bts cs).drop i).take (j - i)) (.int (0 : Int32)) (j - i) (by omega), bts_cut] at V184
  refine g_aload C d_jdk_65_method_133_code_30 rfl rfl ?_
  refine g_areturn C hEL (t := (.array .byte)) rfl rfl rfl d_jdk_65_method_133_code_32 (by decide) (by decide) ?_
  have K185 : Keep h0 h184 [] := K181.trans KC184 (allS (Or.inr (Nat.le_of_eq g180.symm)) all0)
  exact ⟨b180, _, rfl, K185, (Nat.le_of_eq g180.symm), V184⟩
theorem d_jdk_65_method_132_code_0 : decode jdk_65_method_132_code 0 = .ok (.iload_n 1, 1) := by decide +kernel
theorem d_jdk_65_method_132_code_1 : decode jdk_65_method_132_code 1 = .ok (.ifCond .ne 9, 3) := by decide +kernel
theorem d_jdk_65_method_132_code_4 : decode jdk_65_method_132_code 4 = .ok (.iload_n 2, 1) := by decide +kernel
theorem d_jdk_65_method_132_code_5 : decode jdk_65_method_132_code 5 = .ok (.aload_n 0, 1) := by decide +kernel
theorem d_jdk_65_method_132_code_6 : decode jdk_65_method_132_code 6 = .ok (.arraylength, 1) := by decide +kernel
theorem d_jdk_65_method_132_code_7 : decode jdk_65_method_132_code 7 = .ok (.if_icmp .eq 10, 3) := by decide +kernel
theorem d_jdk_65_method_132_code_10 : decode jdk_65_method_132_code 10 = .ok (.aload_n 0, 1) := by decide +kernel
theorem d_jdk_65_method_132_code_11 : decode jdk_65_method_132_code 11 = .ok (.iload_n 1, 1) := by decide +kernel
theorem d_jdk_65_method_132_code_12 : decode jdk_65_method_132_code 12 = .ok (.iload_n 2, 1) := by decide +kernel
theorem d_jdk_65_method_132_code_13 : decode jdk_65_method_132_code 13 = .ok (.invokestatic 339, 3) := by decide +kernel
theorem d_jdk_65_method_132_code_16 : decode jdk_65_method_132_code 16 = .ok (.areturn, 1) := by decide +kernel
theorem d_jdk_65_method_132_code_17 : decode jdk_65_method_132_code 17 = .ok (.aload_n 0, 1) := by decide +kernel
theorem d_jdk_65_method_132_code_18 : decode jdk_65_method_132_code 18 = .ok (.invokevirtual 310, 3) := by decide +kernel
theorem d_jdk_65_method_132_code_21 : decode jdk_65_method_132_code 21 = .ok (.checkcast 311, 3) := by decide +kernel
theorem d_jdk_65_method_132_code_24 : decode jdk_65_method_132_code 24 = .ok (.areturn, 1) := by decide +kernel
theorem pd___BII__B : parseMethodDescriptor "([BII)[B" = some ⟨[(.array .byte), .int, .int], some (.array .byte)⟩ := by decide +kernel
theorem rm_c00 (l : Launch) (Z : State) (a0 : Array Value) (hw : ∀ d ∈ tables_1, d.before a0 Z = true) (hEL : EW Z a0 consts_1) {ws : List Jvm.Cond} (t : Addr) (kt : ClassId) (cap j : Nat) (cs : List Int32) (h0 : Heap) (n0 : Nat) (Vt : Arv Z h0 t kt .byte (Int32.ofNat cap) (bts cs) (.int (0 : Int32))) (hjl : j ≤ cs.length) (hlc : cs.length ≤ cap) (hc100 : j ≤ 100) (hcap : cap ≤ 1000) (Xt : Exa Z h0 t "[B") :
    Met l Z consts_1 (⟨"java/util/Arrays", "copyOfRange", "([BII)[B"⟩ : MethodName) jdk_65_method_132_code 3 (some (.array .byte)) ws ({ frames := 2, cells := 1, slots := 100, locals := 44 } : Room) [] #[(.ref t), (.int (0 : Int32)), (.int (Int32.ofNat j))] h0 n0 (nq (fun v h => ∃ b k', v = some (.ref b) ∧ Keep h0 h [] ∧ h0.size ≤ b ∧ Arv Z h b k' .byte (Int32.ofNat (j - 0)) (bts ((cs.drop 0).take (j - 0))) (.int (0 : Int32)))) := by
  refine met_of (plainFor_of_name pn_java_util_Arrays) hw #[.val (.ref t), .val (.int (0 : Int32)), .val (.int (Int32.ofNat j))] (fun m => by first | rfl | (simp [entryFrame, mkF, argsToLocals, Value.category]; done)) ?_
  intro p e s m below meth c C0
  have C : Cx Z a0 tables_1 p s m meth c "java/util/Arrays" "copyOfRange" jdk_65_method_132_code 3 (some (.array .byte)) n0 := C0
  refine g_iloadN C d_jdk_65_method_132_code_0 rfl ?_
  refine g_if_f C d_jdk_65_method_132_code_1 (XT.i0_ne_f (by decide)) ?_
  refine g_iloadN C d_jdk_65_method_132_code_4 rfl ?_
  refine g_aloadN C d_jdk_65_method_132_code_5 rfl rfl ?_
  refine g_arraylength C Vt d_jdk_65_method_132_code_6 ?_
  by_cases hc186 : (Int32.ofNat j) = (Int32.ofNat cap)
  · refine g_icmp_t C 17 d_jdk_65_method_132_code_7 (XT.ii_eq_t hc186) (by decide) (by decide) ?_
    refine g_aloadN C d_jdk_65_method_132_code_17 rfl rfl ?_
    have ez0 : j = cap := (on_eq (by omega) (by omega)).mp hc186
    refine g_clone C w_323 w_324 w_328 w_326 w_327 w_329 Vt Xt rfl d_jdk_65_method_132_code_18 (by decide) 0 (Nat.le_of_eq rfl) (by decide) 100 (by rw [on_nat (by omega)]; omega) (by decide) (by decide) ?_
    intro b187 h187 g187 E187 V187 A187
    refine g_checkcast C w_330 (Ins.self A187) d_jdk_65_method_132_code_21 ?_
    refine g_areturn C hEL (t := (.array .byte)) rfl rfl rfl d_jdk_65_method_132_code_24 (by decide) (by decide) ?_
    have K188 : Keep h0 h187 [] := (Keep.refl h0 []).ext E187
    have ez : j = cap := (on_eq (by omega) (by omega)).mp hc186
    have ec : (cs.drop 0).take (j - 0) = cs := by rw [List.drop_zero]; exact List.take_of_length_le (by omega)
    have V0 : Arv Z h187 b187 kt .byte (Int32.ofNat (j - 0)) (bts ((cs.drop 0).take (j - 0))) (.int (0 : Int32)) := by rw [ec, Nat.sub_zero, ez]; exact V187
    exact ⟨b187, _, rfl, K188, (Nat.le_of_eq g187.symm), V0⟩
  · refine g_icmp_f C d_jdk_65_method_132_code_7 (XT.ii_eq_f hc186) ?_
    refine g_aloadN C d_jdk_65_method_132_code_10 rfl rfl ?_
    refine g_iloadN C d_jdk_65_method_132_code_11 rfl ?_
    refine g_iloadN C d_jdk_65_method_132_code_12 rfl ?_
    refine g_static C w_190 w_191 w_188 w_192 (by decide) [(.ref t), (.int (0 : Int32)), (.int (Int32.ofNat j))] (ct_of hEL hw w_192 w_188 (rm_crb l Z a0 hw hEL t _ cap 0 j cs h0 n0 Vt (Nat.zero_le _) hjl hlc hc100 hcap)) all0 (by decide) 0 (by decide) rfl pd___BII__B rfl [] rfl (Nat.le_of_eq rfl) d_jdk_65_method_132_code_13 (by decide) (by decide) ?_
    intro v189 h189 Q189
    obtain ⟨b189, k189, rfl, KC189, le189, V189⟩ := Q189
    refine g_areturn C hEL (t := (.array .byte)) rfl rfl rfl d_jdk_65_method_132_code_16 (by decide) (by decide) ?_
    have K190 : Keep h0 h189 [] := (Keep.refl h0 []).trans KC189 all0
    exact ⟨b189, _, rfl, K190, le189, V189⟩
theorem rm_c0i (l : Launch) (Z : State) (a0 : Array Value) (hw : ∀ d ∈ tables_1, d.before a0 Z = true) (hEL : EW Z a0 consts_1) {ws : List Jvm.Cond} (t : Addr) (kt : ClassId) (cap i j : Nat) (cs : List Int32) (h0 : Heap) (n0 : Nat) (Vt : Arv Z h0 t kt .byte (Int32.ofNat cap) (bts cs) (.int (0 : Int32))) (hij : i ≤ j) (hjl : j ≤ cs.length) (hlc : cs.length ≤ cap) (hc100 : j ≤ 100) (hcap : cap ≤ 1000) (hi0 : 0 < i) :
    Met l Z consts_1 (⟨"java/util/Arrays", "copyOfRange", "([BII)[B"⟩ : MethodName) jdk_65_method_132_code 3 (some (.array .byte)) ws ({ frames := 2, cells := 1, slots := 100, locals := 44 } : Room) [] #[(.ref t), (.int (Int32.ofNat i)), (.int (Int32.ofNat j))] h0 n0 (nq (fun v h => ∃ b k', v = some (.ref b) ∧ Keep h0 h [] ∧ h0.size ≤ b ∧ Arv Z h b k' .byte (Int32.ofNat (j - i)) (bts ((cs.drop i).take (j - i))) (.int (0 : Int32)))) := by
  refine met_of (plainFor_of_name pn_java_util_Arrays) hw #[.val (.ref t), .val (.int (Int32.ofNat i)), .val (.int (Int32.ofNat j))] (fun m => by first | rfl | (simp [entryFrame, mkF, argsToLocals, Value.category]; done)) ?_
  intro p e s m below meth c C0
  have C : Cx Z a0 tables_1 p s m meth c "java/util/Arrays" "copyOfRange" jdk_65_method_132_code 3 (some (.array .byte)) n0 := C0
  refine g_iloadN C d_jdk_65_method_132_code_0 rfl ?_
  refine g_if_t C 10 d_jdk_65_method_132_code_1 (XT.i0_ne_t (on_ne0 (by omega) hi0)) (by decide) (by decide) ?_
  refine g_aloadN C d_jdk_65_method_132_code_10 rfl rfl ?_
  refine g_iloadN C d_jdk_65_method_132_code_11 rfl ?_
  refine g_iloadN C d_jdk_65_method_132_code_12 rfl ?_
  refine g_static C w_190 w_191 w_188 w_192 (by decide) [(.ref t), (.int (Int32.ofNat i)), (.int (Int32.ofNat j))] (ct_of hEL hw w_192 w_188 (rm_crb l Z a0 hw hEL t _ cap i j cs h0 n0 Vt hij hjl hlc hc100 hcap)) all0 (by decide) 0 (by decide) rfl pd___BII__B rfl [] rfl (Nat.le_of_eq rfl) d_jdk_65_method_132_code_13 (by decide) (by decide) ?_
  intro v191 h191 Q191
  obtain ⟨b191, k191, rfl, KC191, le191, V191⟩ := Q191
  refine g_areturn C hEL (t := (.array .byte)) rfl rfl rfl d_jdk_65_method_132_code_16 (by decide) (by decide) ?_
  have K192 : Keep h0 h191 [] := (Keep.refl h0 []).trans KC191 all0
  exact ⟨b191, _, rfl, K192, le191, V191⟩
theorem d_jdk_68_method_64_code_0 : decode jdk_68_method_64_code 0 = .ok (.aload_n 0, 1) := by decide +kernel
theorem d_jdk_68_method_64_code_1 : decode jdk_68_method_64_code 1 = .ok (.getfield 15, 3) := by decide +kernel
theorem d_jdk_68_method_64_code_4 : decode jdk_68_method_64_code 4 = .ok (.areturn, 1) := by decide +kernel
theorem rm_gv (l : Launch) (Z : State) (a0 : Array Value) (hw : ∀ d ∈ tables_1, d.before a0 Z = true) (hEL : EW Z a0 consts_1) {ws : List Jvm.Cond} (sb t : Addr) (kt : ClassId) (cap : Nat) (cs : List Int32) (h0 : Heap) (n0 : Nat) (S0 : SBd Z h0 sb t kt cap cs) :
    Met l Z consts_1 (⟨"java/lang/AbstractStringBuilder", "getValue", "()[B"⟩ : MethodName) jdk_68_method_64_code 1 (some (.array .byte)) ws ({ frames := 0, cells := 0, slots := 0, locals := 0 } : Room) [] #[(.ref sb)] h0 n0 (nq (fun v h => v = some (.ref t) ∧ h = h0)) := by
  refine met_of (plainFor_of_name pn_java_lang_AbstractStringBuilder) hw #[.val (.ref sb)] (fun m => by first | rfl | (simp [entryFrame, mkF, argsToLocals, Value.category]; done)) ?_
  intro p e s m below meth c C0
  have C : Cx Z a0 tables_1 p s m meth c "java/lang/AbstractStringBuilder" "getValue" jdk_68_method_64_code 1 (some (.array .byte)) n0 := C0
  refine g_aloadN C d_jdk_68_method_64_code_0 rfl rfl ?_
  refine g_getfield C w_54 Via.refl S0.2.2.1 d_jdk_68_method_64_code_1 ?_
  refine g_areturn C hEL (t := (.array .byte)) rfl rfl rfl d_jdk_68_method_64_code_4 (by decide) (by decide) ?_
  exact ⟨rfl, rfl⟩
theorem d_jdk_68_method_6_code_0 : decode jdk_68_method_6_code 0 = .ok (.aload_n 0, 1) := by decide +kernel
theorem d_jdk_68_method_6_code_1 : decode jdk_68_method_6_code 1 = .ok (.getfield 79, 3) := by decide +kernel
theorem d_jdk_68_method_6_code_4 : decode jdk_68_method_6_code 4 = .ok (.ireturn, 1) := by decide +kernel
theorem rm_la (l : Launch) (Z : State) (a0 : Array Value) (hw : ∀ d ∈ tables_1, d.before a0 Z = true) (hEL : EW Z a0 consts_1) {ws : List Jvm.Cond} (sb t : Addr) (kt : ClassId) (cap : Nat) (cs : List Int32) (h0 : Heap) (n0 : Nat) (S0 : SBd Z h0 sb t kt cap cs) :
    Met l Z consts_1 (⟨"java/lang/AbstractStringBuilder", "length", "()I"⟩ : MethodName) jdk_68_method_6_code 1 (some .int) ws ({ frames := 0, cells := 0, slots := 0, locals := 0 } : Room) [] #[(.ref sb)] h0 n0 (nq (fun v h => v = some (.int (Int32.ofNat cs.length)) ∧ h = h0)) := by
  refine met_of (plainFor_of_name pn_java_lang_AbstractStringBuilder) hw #[.val (.ref sb)] (fun m => by first | rfl | (simp [entryFrame, mkF, argsToLocals, Value.category]; done)) ?_
  intro p e s m below meth c C0
  have C : Cx Z a0 tables_1 p s m meth c "java/lang/AbstractStringBuilder" "length" jdk_68_method_6_code 1 (some .int) n0 := C0
  refine g_aloadN C d_jdk_68_method_6_code_0 rfl rfl ?_
  refine g_getfield C w_82 Via.refl S0.2.2.2.1 d_jdk_68_method_6_code_1 ?_
  refine g_ireturnI C hEL rfl d_jdk_68_method_6_code_4 (by decide) (by decide) ?_
  exact ⟨rfl, rfl⟩
theorem d_jdk_67_method_93_code_0 : decode jdk_67_method_93_code 0 = .ok (.aload_n 0, 1) := by decide +kernel
theorem d_jdk_67_method_93_code_1 : decode jdk_67_method_93_code 1 = .ok (.invokespecial 343, 3) := by decide +kernel
theorem d_jdk_67_method_93_code_4 : decode jdk_67_method_93_code 4 = .ok (.ireturn, 1) := by decide +kernel
theorem rm_ls (l : Launch) (Z : State) (a0 : Array Value) (hw : ∀ d ∈ tables_1, d.before a0 Z = true) (hEL : EW Z a0 consts_1) {ws : List Jvm.Cond} (sb t : Addr) (kt : ClassId) (cap : Nat) (cs : List Int32) (h0 : Heap) (n0 : Nat) (S0 : SBd Z h0 sb t kt cap cs) :
    Met l Z consts_1 (⟨"java/lang/StringBuilder", "length", "()I"⟩ : MethodName) jdk_67_method_93_code 1 (some .int) ws ({ frames := 1, cells := 0, slots := 0, locals := 13 } : Room) [] #[(.ref sb)] h0 n0 (nq (fun v h => v = some (.int (Int32.ofNat cs.length)) ∧ h = h0)) := by
  refine met_of (plainFor_of_name pn_java_lang_StringBuilder) hw #[.val (.ref sb)] (fun m => by first | rfl | (simp [entryFrame, mkF, argsToLocals, Value.category]; done)) ?_
  intro p e s m below meth c C0
  have C : Cx Z a0 tables_1 p s m meth c "java/lang/StringBuilder" "length" jdk_67_method_93_code 1 (some .int) n0 := C0
  refine g_aloadN C d_jdk_67_method_93_code_0 rfl rfl ?_
  refine g_super C S0.1 w_179 w_174 w_175 w_69 (by decide) w_180 (ni_sel hw w_171 w_169 (State.Warmed39.refl Z)) (by decide) [] (ct_of hEL hw w_180 w_50 (rm_la l Z a0 hw hEL sb t _ cap cs h0 n0 S0)) all0 (by decide) 0 (by decide) rfl pd___I rfl [] rfl (Nat.le_of_eq rfl) d_jdk_67_method_93_code_1 (by decide) (by decide) ?_
  intro v193 h193 Q193
  obtain ⟨rfl, e193⟩ := Q193
  replace e193 := e193.symm
  subst e193
  refine g_ireturnI C hEL rfl d_jdk_67_method_93_code_4 (by decide) (by decide) ?_
  exact ⟨rfl, rfl⟩
theorem d_jdk_68_method_68_code_0 : decode jdk_68_method_68_code 0 = .ok (.getstatic 18, 3) := by decide +kernel
theorem d_jdk_68_method_68_code_3 : decode jdk_68_method_68_code 3 = .ok (.ifCond .eq 14, 3) := by decide +kernel
theorem d_jdk_68_method_68_code_6 : decode jdk_68_method_68_code 6 = .ok (.aload_n 0, 1) := by decide +kernel
theorem d_jdk_68_method_68_code_7 : decode jdk_68_method_68_code 7 = .ok (.getfield 22, 3) := by decide +kernel
theorem d_jdk_68_method_68_code_10 : decode jdk_68_method_68_code 10 = .ok (.ifCond .ne 7, 3) := by decide +kernel
theorem d_jdk_68_method_68_code_13 : decode jdk_68_method_68_code 13 = .ok (.iconst 1, 1) := by decide +kernel
theorem d_jdk_68_method_68_code_14 : decode jdk_68_method_68_code 14 = .ok (.goto 4, 3) := by decide +kernel
theorem d_jdk_68_method_68_code_18 : decode jdk_68_method_68_code 18 = .ok (.ireturn, 1) := by decide +kernel
theorem rm_il (l : Launch) (Z : State) (a0 : Array Value) (hw : ∀ d ∈ tables_1, d.before a0 Z = true) (hEL : EW Z a0 consts_1) {ws : List Jvm.Cond} (sb t : Addr) (kt : ClassId) (cap : Nat) (cs : List Int32) (zc : Int32) (h0 : Heap) (n0 : Nat) (S0 : SBd Z h0 sb t kt cap cs) (Szc : Sta Z h0 "java/lang/String" "COMPACT_STRINGS" "Z" (.int zc)) (hzc : ¬ (zc = (0 : Int32))) :
    Met l Z consts_1 (⟨"java/lang/AbstractStringBuilder", "isLatin1", "()Z"⟩ : MethodName) jdk_68_method_68_code 1 (some .boolean) ws ({ frames := 0, cells := 0, slots := 0, locals := 0 } : Room) [] #[(.ref sb)] h0 n0 (nq (fun v h => v = some (.int 1) ∧ h = h0)) := by
  refine met_of (plainFor_of_name pn_java_lang_AbstractStringBuilder) hw #[.val (.ref sb)] (fun m => by first | rfl | (simp [entryFrame, mkF, argsToLocals, Value.category]; done)) ?_
  intro p e s m below meth c C0
  have C : Cx Z a0 tables_1 p s m meth c "java/lang/AbstractStringBuilder" "isLatin1" jdk_68_method_68_code 1 (some .boolean) n0 := C0
  refine g_getstatic C w_53 Via.refl Szc d_jdk_68_method_68_code_0 ?_
  refine g_if_f C d_jdk_68_method_68_code_3 (XT.i0_eq_f hzc) ?_
  refine g_aloadN C d_jdk_68_method_68_code_6 rfl rfl ?_
  refine g_getfield C w_56 Via.refl S0.2.1 d_jdk_68_method_68_code_7 ?_
  refine g_if_f C d_jdk_68_method_68_code_10 (XT.i0_ne_f (by decide)) ?_
  refine g_iconst C 1 d_jdk_68_method_68_code_13 rfl ?_
  refine g_goto C 18 d_jdk_68_method_68_code_14 (by decide) (by decide) ?_
  refine g_ireturnN C hEL (t := .boolean) rfl (by simp) d_jdk_68_method_68_code_18 (by decide) (by decide) ?_
  exact ⟨rfl, rfl⟩
theorem d_jdk_42_method_150_code_0 : decode jdk_42_method_150_code 0 = .ok (.aload_n 0, 1) := by decide +kernel
theorem d_jdk_42_method_150_code_1 : decode jdk_42_method_150_code 1 = .ok (.invokespecial 1, 3) := by decide +kernel
theorem d_jdk_42_method_150_code_4 : decode jdk_42_method_150_code 4 = .ok (.aload_n 1, 1) := by decide +kernel
theorem d_jdk_42_method_150_code_5 : decode jdk_42_method_150_code 5 = .ok (.invokevirtual 552, 3) := by decide +kernel
theorem d_jdk_42_method_150_code_8 : decode jdk_42_method_150_code 8 = .ok (.astore_n 3, 1) := by decide +kernel
theorem d_jdk_42_method_150_code_9 : decode jdk_42_method_150_code 9 = .ok (.aload_n 1, 1) := by decide +kernel
theorem d_jdk_42_method_150_code_10 : decode jdk_42_method_150_code 10 = .ok (.invokevirtual 549, 3) := by decide +kernel
theorem d_jdk_42_method_150_code_13 : decode jdk_42_method_150_code 13 = .ok (.istore 4, 2) := by decide +kernel
theorem d_jdk_42_method_150_code_15 : decode jdk_42_method_150_code 15 = .ok (.aload_n 1, 1) := by decide +kernel
theorem d_jdk_42_method_150_code_16 : decode jdk_42_method_150_code 16 = .ok (.invokevirtual 1047, 3) := by decide +kernel
theorem d_jdk_42_method_150_code_19 : decode jdk_42_method_150_code 19 = .ok (.ifCond .eq 22, 3) := by decide +kernel
theorem d_jdk_42_method_150_code_22 : decode jdk_42_method_150_code 22 = .ok (.aload_n 0, 1) := by decide +kernel
theorem d_jdk_42_method_150_code_23 : decode jdk_42_method_150_code 23 = .ok (.iconst 0, 1) := by decide +kernel
theorem d_jdk_42_method_150_code_24 : decode jdk_42_method_150_code 24 = .ok (.putfield 15, 3) := by decide +kernel
theorem d_jdk_42_method_150_code_27 : decode jdk_42_method_150_code 27 = .ok (.aload_n 0, 1) := by decide +kernel
theorem d_jdk_42_method_150_code_28 : decode jdk_42_method_150_code 28 = .ok (.aload_n 3, 1) := by decide +kernel
theorem d_jdk_42_method_150_code_29 : decode jdk_42_method_150_code 29 = .ok (.iconst 0, 1) := by decide +kernel
theorem d_jdk_42_method_150_code_30 : decode jdk_42_method_150_code 30 = .ok (.iload 4, 2) := by decide +kernel
theorem d_jdk_42_method_150_code_32 : decode jdk_42_method_150_code 32 = .ok (.invokestatic 54, 3) := by decide +kernel
theorem d_jdk_42_method_150_code_35 : decode jdk_42_method_150_code 35 = .ok (.putfield 9, 3) := by decide +kernel
theorem d_jdk_42_method_150_code_38 : decode jdk_42_method_150_code 38 = .ok (.goto 59, 3) := by decide +kernel
theorem d_jdk_42_method_150_code_97 : decode jdk_42_method_150_code 97 = .ok (.return_, 1) := by decide +kernel
theorem pd___Z : parseMethodDescriptor "()Z" = some ⟨[], some .boolean⟩ := by decide +kernel
theorem pd____B : parseMethodDescriptor "()[B" = some ⟨[], some (.array .byte)⟩ := by decide +kernel
theorem rm_s5 (l : Launch) (Z : State) (a0 : Array Value) (hw : ∀ d ∈ tables_1, d.before a0 Z = true) (hEL : EW Z a0 consts_1) {ws : List Jvm.Cond} (x sb t : Addr) (kt : ClassId) (cap : Nat) (cs : List Int32) (zc : Int32) (h0 : Heap) (n0 : Nat) (S0 : SBd Z h0 sb t kt cap cs) (E1 : Exa Z h0 x "java/lang/String") (F1 : Fld Z h0 x "java/lang/String" "value" "[B" .null) (F2 : Fld Z h0 x "java/lang/String" "coder" "B" (.int 0)) (hlen : cs.length ≤ 100) (hxs : x ≠ sb) (hxt : x ≠ t) (Szc : Sta Z h0 "java/lang/String" "COMPACT_STRINGS" "Z" (.int zc)) (hzc : ¬ (zc = (0 : Int32))) :
    Met l Z consts_1 (⟨"java/lang/String", "<init>", "(Ljava/lang/AbstractStringBuilder;Ljava/lang/Void;)V"⟩ : MethodName) jdk_42_method_150_code 5 none ws ({ frames := 3, cells := 1, slots := 100, locals := 66 } : Room) [x] #[(.ref x), (.ref sb), .null] h0 n0 (nq (fun v h => v = none ∧ Keep h0 h [x] ∧ ∃ t' k', h0.size ≤ t' ∧ Str Z h x t' k' cs)) := by
  refine met_of (plainFor_of_name pn_java_lang_String) hw #[.val (.ref x), .val (.ref sb), .val .null, .unset, .unset] (fun m => by first | rfl | (simp [entryFrame, mkF, argsToLocals, Value.category]; done)) ?_
  intro p e s m below meth c C0
  have C : Cx Z a0 tables_1 p s m meth c "java/lang/String" "<init>" jdk_42_method_150_code 5 none n0 := C0
  refine g_aloadN C d_jdk_42_method_150_code_0 rfl rfl ?_
  refine g_initO C w_23 w_24 w_25 rfl d_jdk_42_method_150_code_1 (by decide) 0 (Nat.le_of_eq rfl) (by decide) ?_
  refine g_aloadN C d_jdk_42_method_150_code_4 rfl rfl ?_
  refine g_virtual C S0.1 w_168 w_169 (fun hZ => nf_sel hw w_171 hZ) w_171 w_170 (by decide) [] (ct_of hEL hw w_172 w_50 (rm_gv l Z a0 hw hEL sb t _ cap cs h0 n0 ⟨S0.1, S0.2.1, S0.2.2.1, S0.2.2.2.1, S0.2.2.2.2.1, S0.2.2.2.2.2.1, S0.2.2.2.2.2.2.1, S0.2.2.2.2.2.2.2.1, S0.2.2.2.2.2.2.2.2⟩)) all0 (by decide) 0 (by decide) rfl pd____B rfl [] rfl (Nat.le_of_eq rfl) d_jdk_42_method_150_code_5 (by decide) (by decide) ?_
  intro v194 h194 Q194
  obtain ⟨rfl, e194⟩ := Q194
  replace e194 := e194.symm
  subst e194
  refine g_astoreN C #[.val (.ref x), .val (.ref sb), .val .null, .val (.ref t), .unset] d_jdk_42_method_150_code_8 rfl rfl ?_
  refine g_aloadN C d_jdk_42_method_150_code_9 rfl rfl ?_
  refine g_virtual C S0.1 w_173 w_174 (fun hZ => nf_ni (ni_sel hw w_171 w_169 hZ)) w_176 w_177 (by decide) [] (ct_of hEL hw w_178 w_42 (rm_ls l Z a0 hw hEL sb t _ cap cs h0 n0 ⟨S0.1, S0.2.1, S0.2.2.1, S0.2.2.2.1, S0.2.2.2.2.1, S0.2.2.2.2.2.1, S0.2.2.2.2.2.2.1, S0.2.2.2.2.2.2.2.1, S0.2.2.2.2.2.2.2.2⟩)) all0 (by decide) 0 (by decide) rfl pd___I rfl [] rfl (Nat.le_of_eq rfl) d_jdk_42_method_150_code_10 (by decide) (by decide) ?_
  intro v195 h195 Q195
  obtain ⟨rfl, e195⟩ := Q195
  replace e195 := e195.symm
  subst e195
  refine g_istore C #[.val (.ref x), .val (.ref sb), .val .null, .val (.ref t), .val (.int (Int32.ofNat cs.length))] d_jdk_42_method_150_code_13 rfl ?_
  refine g_aloadN C d_jdk_42_method_150_code_15 rfl rfl ?_
  refine g_virtual C S0.1 w_181 w_182 (fun hZ => nf_sel hw w_184 hZ) w_184 w_183 (by decide) [] (ct_of hEL hw w_185 w_50 (rm_il l Z a0 hw hEL sb t _ cap cs zc h0 n0 ⟨S0.1, S0.2.1, S0.2.2.1, S0.2.2.2.1, S0.2.2.2.2.1, S0.2.2.2.2.2.1, S0.2.2.2.2.2.2.1, S0.2.2.2.2.2.2.2.1, S0.2.2.2.2.2.2.2.2⟩ Szc hzc)) all0 (by decide) 0 (by decide) rfl pd___Z rfl [] rfl (Nat.le_of_eq rfl) d_jdk_42_method_150_code_16 (by decide) (by decide) ?_
  intro v196 h196 Q196
  obtain ⟨rfl, e196⟩ := Q196
  replace e196 := e196.symm
  subst e196
  refine g_if_f C d_jdk_42_method_150_code_19 (XT.i0_eq_f (by decide)) ?_
  refine g_aloadN C d_jdk_42_method_150_code_22 rfl rfl ?_
  refine g_iconst C 0 d_jdk_42_method_150_code_23 rfl ?_
  refine g_putfieldZ C .byte (.int (0 : Int32)) w_28 Via.refl F2 E1 (Or.inr ⟨w_29, rfl, rfl⟩) w_14 (by decide) rfl (by decide) (mg (i := 0) rfl) d_jdk_42_method_150_code_24 ?_
  intro h197 W197 F197
  refine g_aloadN C d_jdk_42_method_150_code_27 rfl rfl ?_
  refine g_aloadN C d_jdk_42_method_150_code_28 rfl rfl ?_
  refine g_iconst C 0 d_jdk_42_method_150_code_29 rfl ?_
  refine g_iload C d_jdk_42_method_150_code_30 rfl ?_
  have V198 := (S0.2.2.2.2.1.other W197 (Ne.symm hxt))
  have E199 := (S0.2.2.2.2.2.2.2.2.wr W197)
  refine g_static C w_186 w_187 w_188 w_189 (by decide) [(.ref t), (.int (0 : Int32)), (.int (Int32.ofNat cs.length))] (ct_of hEL hw w_189 w_188 (rm_c00 l Z a0 hw hEL t _ cap cs.length cs h197 n0 V198 (Nat.le_refl _) S0.2.2.2.2.2.1 hlen (by have := S0.2.2.2.2.2.2.1; omega) E199)) all0 (by decide) 1 (by decide) rfl pd___BII__B rfl [(.ref x)] rfl (Nat.le_of_eq rfl) d_jdk_42_method_150_code_32 (by decide) (by decide) ?_
  intro v200 h200 Q200
  obtain ⟨b200, k200, rfl, KC200, le200, V200⟩ := Q200
  rw [Nat.sub_zero, List.drop_zero, List.take_of_length_le (Nat.le_refl _)] at V200
  have F201 := ((F1.other W197 (Or.inr (slot_ne (Or.inr (C.hw w_27)) (Or.inr (C.hw w_29)) (by decide) (t := (.array .byte)) (t' := .byte) (by decide) (by decide)))).keep KC200 nin0)
  have E202 := ((E1.wr W197).keep KC200)
  refine g_putfield C (.array .byte) w_26 Via.refl F201 E202 (Or.inr ⟨w_27, rfl, rfl⟩) w_14 (by decide) rfl rfl (mg (i := 0) rfl) d_jdk_42_method_150_code_35 ?_
  intro h203 W203 F203
  refine g_goto C 97 d_jdk_42_method_150_code_38 (by decide) (by decide) ?_
  refine g_return C hEL rfl d_jdk_42_method_150_code_97 (by decide) (by decide) ?_
  have E204 := (E202.wr W203)
  have K205 : Keep h197 h200 [] := (Keep.refl h197 []).trans KC200 all0
  have F206 := ((F197.keep KC200 nin0).other W203 (Or.inr (slot_ne (Or.inr (C.hw w_29)) (Or.inr (C.hw w_27)) (by decide) (t := .byte) (t' := (.array .byte)) (by decide) (by decide))))
  have E207 := (E1.wr W197)
  have V208 := (V200.other W203 (Ne.symm (Nat.ne_of_lt (Nat.lt_of_lt_of_le E207.lt le200))))
  exact ⟨rfl, ((((Keep.refl _ _).wr W197 (Or.inl (mg (i := 0) rfl))).trans KC200 all0).wr W203 (Or.inl (mg (i := 0) rfl))), b200, _, (Nat.le_trans (Nat.le_trans (Nat.le_refl _) (Nat.le_of_eq W197.size.symm)) le200), E204, F206, F203, V208, by omega, S0.2.2.2.2.2.2.2.1⟩
theorem d_jdk_42_method_53_code_0 : decode jdk_42_method_53_code 0 = .ok (.aload_n 0, 1) := by decide +kernel
theorem d_jdk_42_method_53_code_1 : decode jdk_42_method_53_code 1 = .ok (.aload_n 1, 1) := by decide +kernel
theorem d_jdk_42_method_53_code_2 : decode jdk_42_method_53_code 2 = .ok (.aconst_null, 1) := by decide +kernel
theorem d_jdk_42_method_53_code_3 : decode jdk_42_method_53_code 3 = .ok (.invokespecial 489, 3) := by decide +kernel
theorem d_jdk_42_method_53_code_6 : decode jdk_42_method_53_code 6 = .ok (.return_, 1) := by decide +kernel
theorem pd__Ljava_lang_AbstractStringBuilder_Ljava_lang_Void__V : parseMethodDescriptor "(Ljava/lang/AbstractStringBuilder;Ljava/lang/Void;)V" = some ⟨[(.object "java/lang/AbstractStringBuilder"), (.object "java/lang/Void")], none⟩ := by decide +kernel
theorem rm_s3 (l : Launch) (Z : State) (a0 : Array Value) (hw : ∀ d ∈ tables_1, d.before a0 Z = true) (hEL : EW Z a0 consts_1) {ws : List Jvm.Cond} (x sb t : Addr) (kt : ClassId) (cap : Nat) (cs : List Int32) (zc : Int32) (h0 : Heap) (n0 : Nat) (S0 : SBd Z h0 sb t kt cap cs) (E1 : Exa Z h0 x "java/lang/String") (F1 : Fld Z h0 x "java/lang/String" "value" "[B" .null) (F2 : Fld Z h0 x "java/lang/String" "coder" "B" (.int 0)) (hlen : cs.length ≤ 100) (hxs : x ≠ sb) (hxt : x ≠ t) (Szc : Sta Z h0 "java/lang/String" "COMPACT_STRINGS" "Z" (.int zc)) (hzc : ¬ (zc = (0 : Int32))) :
    Met l Z consts_1 (⟨"java/lang/String", "<init>", "(Ljava/lang/StringBuilder;)V"⟩ : MethodName) jdk_42_method_53_code 2 none ws ({ frames := 4, cells := 1, slots := 100, locals := 84 } : Room) [x] #[(.ref x), (.ref sb)] h0 n0 (nq (fun v h => v = none ∧ Keep h0 h [x] ∧ ∃ t' k', h0.size ≤ t' ∧ Str Z h x t' k' cs)) := by
  refine met_of (plainFor_of_name pn_java_lang_String) hw #[.val (.ref x), .val (.ref sb)] (fun m => by first | rfl | (simp [entryFrame, mkF, argsToLocals, Value.category]; done)) ?_
  intro p e s m below meth c C0
  have C : Cx Z a0 tables_1 p s m meth c "java/lang/String" "<init>" jdk_42_method_53_code 2 none n0 := C0
  refine g_aloadN C d_jdk_42_method_53_code_0 rfl rfl ?_
  refine g_aloadN C d_jdk_42_method_53_code_1 rfl rfl ?_
  refine g_aconst_null C d_jdk_42_method_53_code_2 ?_
  refine g_special C (a := x) w_165 w_166 w_167 rfl (by decide) [(.ref sb), .null] (ct_of hEL hw w_167 w_6 (rm_s5 l Z a0 hw hEL x sb t _ cap cs zc h0 n0 S0 E1 F1 F2 hlen hxs hxt Szc hzc)) (allS (mg (i := 0) rfl) all0) (by decide) 0 (by decide) rfl pd__Ljava_lang_AbstractStringBuilder_Ljava_lang_Void__V rfl [] rfl (Nat.le_of_eq rfl) d_jdk_42_method_53_code_3 (by decide) (by decide) ?_
  intro v209 h209 Q209
  obtain ⟨rfl, KC209, t209, k209, le209, S209⟩ := Q209
  refine g_return C hEL rfl d_jdk_42_method_53_code_6 (by decide) (by decide) ?_
  exact ⟨rfl, KC209, _, _, le209, S209⟩
theorem d_jdk_67_method_42_code_0 : decode jdk_67_method_42_code 0 = .ok (.new 18, 3) := by decide +kernel
theorem d_jdk_67_method_42_code_3 : decode jdk_67_method_42_code 3 = .ok (.dup, 1) := by decide +kernel
theorem d_jdk_67_method_42_code_4 : decode jdk_67_method_42_code 4 = .ok (.aload_n 0, 1) := by decide +kernel
theorem d_jdk_67_method_42_code_5 : decode jdk_67_method_42_code 5 = .ok (.invokespecial 137, 3) := by decide +kernel
theorem d_jdk_67_method_42_code_8 : decode jdk_67_method_42_code 8 = .ok (.areturn, 1) := by decide +kernel
theorem pd__Ljava_lang_StringBuilder__V : parseMethodDescriptor "(Ljava/lang/StringBuilder;)V" = some ⟨[(.object "java/lang/StringBuilder")], none⟩ := by decide +kernel
theorem rm_ts (l : Launch) (Z : State) (a0 : Array Value) (hw : ∀ d ∈ tables_1, d.before a0 Z = true) (hEL : EW Z a0 consts_1) {ws : List Jvm.Cond} (sb t : Addr) (kt : ClassId) (cap : Nat) (cs : List Int32) (zc : Int32) (h0 : Heap) (n0 : Nat) (S0 : SBd Z h0 sb t kt cap cs) (hlen : cs.length ≤ 100) (Szc : Sta Z h0 "java/lang/String" "COMPACT_STRINGS" "Z" (.int zc)) (hzc : ¬ (zc = (0 : Int32))) :
    Met l Z consts_1 (⟨"java/lang/StringBuilder", "toString", "()Ljava/lang/String;"⟩ : MethodName) jdk_67_method_42_code 1 (some (.object "java/lang/String")) ws ({ frames := 5, cells := 2, slots := 104, locals := 102 } : Room) [] #[(.ref sb)] h0 n0 (nq (fun v h => ∃ a t' k', v = some (.ref a) ∧ Keep h0 h [] ∧ h0.size ≤ a ∧ h0.size ≤ t' ∧ Str Z h a t' k' cs)) := by
  refine met_of (plainFor_of_name pn_java_lang_StringBuilder) hw #[.val (.ref sb)] (fun m => by first | rfl | (simp [entryFrame, mkF, argsToLocals, Value.category]; done)) ?_
  intro p e s m below meth c C0
  have C : Cx Z a0 tables_1 p s m meth c "java/lang/StringBuilder" "toString" jdk_67_method_42_code 1 (some (.object "java/lang/String")) n0 := C0
  refine g_new C w_161 w_14 w_6 d_jdk_67_method_42_code_0 (by decide) (by decide) ?_
  intro b210 h210 g210 E210 A210 D210
  refine g_dup C d_jdk_67_method_42_code_3 rfl ?_
  refine g_aloadN C d_jdk_67_method_42_code_4 rfl rfl ?_
  have K211 : Keep h0 h210 [] := (Keep.refl h0 []).ext E210
  have E212 := (S0.1.keep K211)
  have F213 := (S0.2.1.keep K211 nin0)
  have F214 := (S0.2.2.1.keep K211 nin0)
  have F215 := (S0.2.2.2.1.keep K211 nin0)
  have V216 := (S0.2.2.2.2.1.keep K211 nin0)
  have E217 := (S0.2.2.2.2.2.2.2.2.keep K211)
  refine g_special C (a := b210) w_162 w_163 w_164 rfl (by decide) [(.ref sb)] (ct_of hEL hw w_164 w_6 (rm_s3 l Z a0 hw hEL b210 sb t _ cap cs zc h210 n0 ⟨E212, F213, F214, F215, V216, S0.2.2.2.2.2.1, S0.2.2.2.2.2.2.1, S0.2.2.2.2.2.2.2.1, E217⟩ A210 (D210 (Or.inr (C.hw w_27)) (ty := (.array .byte)) (by decide)) (D210 (Or.inr (C.hw w_29)) (ty := .byte) (by decide)) hlen (Ne.symm (Nat.ne_of_lt (Nat.lt_of_lt_of_le S0.1.lt (Nat.le_of_eq g210.symm)))) (Ne.symm (Nat.ne_of_lt (Nat.lt_of_lt_of_le S0.2.2.2.2.1.lt (Nat.le_of_eq g210.symm)))) (Sta_keep Szc K211) hzc)) (allS (mg (i := 0) rfl) all0) (by decide) 1 (by decide) rfl pd__Ljava_lang_StringBuilder__V rfl [(.ref b210)] rfl (Nat.le_of_eq rfl) d_jdk_67_method_42_code_5 (by decide) (by decide) ?_
  intro v218 h218 Q218
  obtain ⟨rfl, KC218, t218, k218, le218, S218⟩ := Q218
  refine g_areturn C hEL (t := (.object "java/lang/String")) rfl rfl rfl d_jdk_67_method_42_code_8 (by decide) (by decide) ?_
  have K219 : Keep h0 h218 [] := K211.trans KC218 (allS (Or.inr (Nat.le_of_eq g210.symm)) all0)
  exact ⟨b210, _, _, rfl, K219, (Nat.le_of_eq g210.symm), (Nat.le_trans K211.1 le218), S218⟩
theorem d_jdk_42_method_154_code_0 : decode jdk_42_method_154_code 0 = .ok (.getstatic 38, 3) := by decide +kernel
theorem d_jdk_42_method_154_code_3 : decode jdk_42_method_154_code 3 = .ok (.ifCond .eq 14, 3) := by decide +kernel
theorem d_jdk_42_method_154_code_6 : decode jdk_42_method_154_code 6 = .ok (.aload_n 0, 1) := by decide +kernel
theorem d_jdk_42_method_154_code_7 : decode jdk_42_method_154_code 7 = .ok (.getfield 15, 3) := by decide +kernel
theorem d_jdk_42_method_154_code_10 : decode jdk_42_method_154_code 10 = .ok (.ifCond .ne 7, 3) := by decide +kernel
theorem d_jdk_42_method_154_code_13 : decode jdk_42_method_154_code 13 = .ok (.iconst 1, 1) := by decide +kernel
theorem d_jdk_42_method_154_code_14 : decode jdk_42_method_154_code 14 = .ok (.goto 4, 3) := by decide +kernel
theorem d_jdk_42_method_154_code_18 : decode jdk_42_method_154_code 18 = .ok (.ireturn, 1) := by decide +kernel
theorem rm_lat (l : Launch) (Z : State) (a0 : Array Value) (hw : ∀ d ∈ tables_1, d.before a0 Z = true) (hEL : EW Z a0 consts_1) {ws : List Jvm.Cond} (s : Addr) (zc : Int32) (h0 : Heap) (n0 : Nat) (Fc : Fld Z h0 s "java/lang/String" "coder" "B" (.int 0)) (Szc : Sta Z h0 "java/lang/String" "COMPACT_STRINGS" "Z" (.int zc)) (hzc : ¬ (zc = (0 : Int32))) :
    Met l Z consts_1 (⟨"java/lang/String", "isLatin1", "()Z"⟩ : MethodName) jdk_42_method_154_code 1 (some .boolean) ws ({ frames := 0, cells := 0, slots := 0, locals := 0 } : Room) [] #[(.ref s)] h0 n0 (nq (fun v h => v = some (.int 1) ∧ h = h0)) := by
  refine met_of (plainFor_of_name pn_java_lang_String) hw #[.val (.ref s)] (fun m => by first | rfl | (simp [entryFrame, mkF, argsToLocals, Value.category]; done)) ?_
  intro p e sT m below meth c C0
  have C : Cx Z a0 tables_1 p sT m meth c "java/lang/String" "isLatin1" jdk_42_method_154_code 1 (some .boolean) n0 := C0
  refine g_getstatic C w_8 Via.refl Szc d_jdk_42_method_154_code_0 ?_
  refine g_if_f C d_jdk_42_method_154_code_3 (XT.i0_eq_f hzc) ?_
  refine g_aloadN C d_jdk_42_method_154_code_6 rfl rfl ?_
  refine g_getfield C w_28 Via.refl Fc d_jdk_42_method_154_code_7 ?_
  refine g_if_f C d_jdk_42_method_154_code_10 (XT.i0_ne_f (by decide)) ?_
  refine g_iconst C 1 d_jdk_42_method_154_code_13 rfl ?_
  refine g_goto C 18 d_jdk_42_method_154_code_14 (by decide) (by decide) ?_
  refine g_ireturnN C hEL (t := .boolean) rfl (by simp) d_jdk_42_method_154_code_18 (by decide) (by decide) ?_
  exact ⟨rfl, rfl⟩
theorem d_jdk_41_method_12_code_0 : decode jdk_41_method_12_code 0 = .ok (.iload_n 0, 1) := by decide +kernel
theorem d_jdk_41_method_12_code_1 : decode jdk_41_method_12_code 1 = .ok (.ifCond .lt 13, 3) := by decide +kernel
theorem d_jdk_41_method_12_code_4 : decode jdk_41_method_12_code 4 = .ok (.iload_n 0, 1) := by decide +kernel
theorem d_jdk_41_method_12_code_5 : decode jdk_41_method_12_code 5 = .ok (.iload_n 1, 1) := by decide +kernel
theorem d_jdk_41_method_12_code_6 : decode jdk_41_method_12_code 6 = .ok (.if_icmp .gt 8, 3) := by decide +kernel
theorem d_jdk_41_method_12_code_9 : decode jdk_41_method_12_code 9 = .ok (.iload_n 1, 1) := by decide +kernel
theorem d_jdk_41_method_12_code_10 : decode jdk_41_method_12_code 10 = .ok (.iload_n 2, 1) := by decide +kernel
theorem d_jdk_41_method_12_code_11 : decode jdk_41_method_12_code 11 = .ok (.if_icmp .le 11, 3) := by decide +kernel
theorem d_jdk_41_method_12_code_22 : decode jdk_41_method_12_code 22 = .ok (.iload_n 0, 1) := by decide +kernel
theorem d_jdk_41_method_12_code_23 : decode jdk_41_method_12_code 23 = .ok (.ireturn, 1) := by decide +kernel
theorem pn_jdk_internal_util_Preconditions : plainName "jdk/internal/util/Preconditions" = true := by first | (simp [plainName, overriddenIn]; done) | decide +kernel
theorem rm_cfti (l : Launch) (Z : State) (a0 : Array Value) (hw : ∀ d ∈ tables_1, d.before a0 Z = true) (hEL : EW Z a0 consts_1) {ws : List Jvm.Cond} (b e' l' : Int32) (fm : Value) (h0 : Heap) (n0 : Nat) (hb0 : ¬ b < 0) (hbe : ¬ e' < b) (hel : ¬ l' < e') (hfm : fm.isRef = true) :
    Met l Z consts_1 (⟨"jdk/internal/util/Preconditions", "checkFromToIndex", "(IIILjava/util/function/BiFunction;)I"⟩ : MethodName) jdk_41_method_12_code 4 (some .int) ws ({ frames := 0, cells := 0, slots := 0, locals := 0 } : Room) [] #[(.int b), (.int e'), (.int l'), fm] h0 n0 (nq (fun v h => v = some (.int b) ∧ h = h0)) := by
  refine met_of (plainFor_of_name pn_jdk_internal_util_Preconditions) hw #[.val (.int b), .val (.int e'), .val (.int l'), .val fm] (fun m => by first | (rcases ref_cases hfm with rfl | ⟨bq, rfl⟩ <;> rfl)) ?_
  intro p e s m below meth c C0
  have C : Cx Z a0 tables_1 p s m meth c "jdk/internal/util/Preconditions" "checkFromToIndex" jdk_41_method_12_code 4 (some .int) n0 := C0
  refine g_iloadN C d_jdk_41_method_12_code_0 rfl ?_
  refine g_if_f C d_jdk_41_method_12_code_1 (XT.i0_lt_f hb0) ?_
  refine g_iloadN C d_jdk_41_method_12_code_4 rfl ?_
  refine g_iloadN C d_jdk_41_method_12_code_5 rfl ?_
  refine g_icmp_f C d_jdk_41_method_12_code_6 (XT.ii_gt_f hbe) ?_
  refine g_iloadN C d_jdk_41_method_12_code_9 rfl ?_
  refine g_iloadN C d_jdk_41_method_12_code_10 rfl ?_
  refine g_icmp_t C 22 d_jdk_41_method_12_code_11 (XT.ii_le_t hel) (by decide) (by decide) ?_
  refine g_iloadN C d_jdk_41_method_12_code_22 rfl ?_
  refine g_ireturnI C hEL rfl d_jdk_41_method_12_code_23 (by decide) (by decide) ?_
  exact ⟨rfl, rfl⟩
theorem d_jdk_42_method_158_code_0 : decode jdk_42_method_158_code 0 = .ok (.iload_n 0, 1) := by decide +kernel
theorem d_jdk_42_method_158_code_1 : decode jdk_42_method_158_code 1 = .ok (.iload_n 1, 1) := by decide +kernel
theorem d_jdk_42_method_158_code_2 : decode jdk_42_method_158_code 2 = .ok (.iload_n 2, 1) := by decide +kernel
theorem d_jdk_42_method_158_code_3 : decode jdk_42_method_158_code 3 = .ok (.getstatic 1053, 3) := by decide +kernel
theorem d_jdk_42_method_158_code_6 : decode jdk_42_method_158_code 6 = .ok (.invokestatic 1062, 3) := by decide +kernel
theorem d_jdk_42_method_158_code_9 : decode jdk_42_method_158_code 9 = .ok (.pop, 1) := by decide +kernel
theorem d_jdk_42_method_158_code_10 : decode jdk_42_method_158_code 10 = .ok (.return_, 1) := by decide +kernel
theorem pd__IIILjava_util_function_BiFunction__I : parseMethodDescriptor "(IIILjava/util/function/BiFunction;)I" = some ⟨[.int, .int, .int, (.object "java/util/function/BiFunction")], some .int⟩ := by decide +kernel
theorem rm_cbbe (l : Launch) (Z : State) (a0 : Array Value) (hw : ∀ d ∈ tables_1, d.before a0 Z = true) (hEL : EW Z a0 consts_1) {ws : List Jvm.Cond} (b e' l' : Int32) (fm : Value) (h0 : Heap) (n0 : Nat) (hb0 : ¬ b < 0) (hbe : ¬ e' < b) (hel : ¬ l' < e') (Sfm : Sta Z h0 "jdk/internal/util/Preconditions" "SIOOBE_FORMATTER" "Ljava/util/function/BiFunction;" fm) (hfm : fm.isRef = true) :
    Met l Z consts_1 (⟨"java/lang/String", "checkBoundsBeginEnd", "(III)V"⟩ : MethodName) jdk_42_method_158_code 3 none ws ({ frames := 1, cells := 0, slots := 0, locals := 16 } : Room) [] #[(.int b), (.int e'), (.int l')] h0 n0 (nq (fun v h => v = none ∧ h = h0)) := by
  refine met_of (plainFor_of_name pn_java_lang_String) hw #[.val (.int b), .val (.int e'), .val (.int l')] (fun m => by first | rfl | (simp [entryFrame, mkF, argsToLocals, Value.category]; done)) ?_
  intro p e s m below meth c C0
  have C : Cx Z a0 tables_1 p s m meth c "java/lang/String" "checkBoundsBeginEnd" jdk_42_method_158_code 3 none n0 := C0
  refine g_iloadN C d_jdk_42_method_158_code_0 rfl ?_
  refine g_iloadN C d_jdk_42_method_158_code_1 rfl ?_
  refine g_iloadN C d_jdk_42_method_158_code_2 rfl ?_
  refine g_getstatic C w_225 Via.refl Sfm d_jdk_42_method_158_code_3 ?_
  refine g_static C w_227 w_228 w_226 w_229 (by decide) [(.int b), (.int e'), (.int l'), fm] (ct_of hEL hw w_229 w_226 (rm_cfti l Z a0 hw hEL b e' l' fm h0 n0 hb0 hbe hel hfm)) all0 (by decide) 0 (by decide) rfl pd__IIILjava_util_function_BiFunction__I rfl [] rfl (Nat.le_of_eq rfl) d_jdk_42_method_158_code_6 (by decide) (by decide) ?_
  intro v220 h220 Q220
  obtain ⟨rfl, e220⟩ := Q220
  replace e220 := e220.symm
  subst e220
  refine g_pop C d_jdk_42_method_158_code_9 rfl ?_
  refine g_return C hEL rfl d_jdk_42_method_158_code_10 (by decide) (by decide) ?_
  exact ⟨rfl, rfl⟩
theorem d_jdk_31_method_11_code_0 : decode jdk_31_method_11_code 0 = .ok (.aload_n 0, 1) := by decide +kernel
theorem d_jdk_31_method_11_code_1 : decode jdk_31_method_11_code 1 = .ok (.ifnonnull 12, 3) := by decide +kernel
theorem d_jdk_31_method_11_code_13 : decode jdk_31_method_11_code 13 = .ok (.aload_n 0, 1) := by decide +kernel
theorem d_jdk_31_method_11_code_14 : decode jdk_31_method_11_code 14 = .ok (.areturn, 1) := by decide +kernel
theorem pn_java_util_Objects : plainName "java/util/Objects" = true := by first | (simp [plainName, overriddenIn]; done) | decide +kernel
theorem rm_rnn (l : Launch) (Z : State) (a0 : Array Value) (hw : ∀ d ∈ tables_1, d.before a0 Z = true) (hEL : EW Z a0 consts_1) {ws : List Jvm.Cond} (a1 a2 : Addr) (h0 : Heap) (n0 : Nat) :
    Met l Z consts_1 (⟨"java/util/Objects", "requireNonNull", "(Ljava/lang/Object;Ljava/lang/String;)Ljava/lang/Object;"⟩ : MethodName) jdk_31_method_11_code 2 (some (.object "java/lang/Object")) ws ({ frames := 0, cells := 0, slots := 0, locals := 0 } : Room) [] #[(.ref a1), (.ref a2)] h0 n0 (nq (fun v h => v = some (.ref a1) ∧ h = h0)) := by
  refine met_of (plainFor_of_name pn_java_util_Objects) hw #[.val (.ref a1), .val (.ref a2)] (fun m => by first | rfl | (simp [entryFrame, mkF, argsToLocals, Value.category]; done)) ?_
  intro p e s m below meth c C0
  have C : Cx Z a0 tables_1 p s m meth c "java/util/Objects" "requireNonNull" jdk_31_method_11_code 2 (some (.object "java/lang/Object")) n0 := C0
  refine g_aloadN C d_jdk_31_method_11_code_0 rfl rfl ?_
  refine g_ifnonnull_t C 13 d_jdk_31_method_11_code_1 (by decide) (by decide) ?_
  refine g_aloadN C d_jdk_31_method_11_code_13 rfl rfl ?_
  refine g_areturn C hEL (t := (.object "java/lang/Object")) rfl rfl rfl d_jdk_31_method_11_code_14 (by decide) (by decide) ?_
  exact ⟨rfl, rfl⟩
theorem d_jdk_42_method_55_code_0 : decode jdk_42_method_55_code 0 = .ok (.aload_n 0, 1) := by decide +kernel
theorem d_jdk_42_method_55_code_1 : decode jdk_42_method_55_code 1 = .ok (.getfield 9, 3) := by decide +kernel
theorem d_jdk_42_method_55_code_4 : decode jdk_42_method_55_code 4 = .ok (.arraylength, 1) := by decide +kernel
theorem d_jdk_42_method_55_code_5 : decode jdk_42_method_55_code 5 = .ok (.ifCond .ne 7, 3) := by decide +kernel
theorem d_jdk_42_method_55_code_12 : decode jdk_42_method_55_code 12 = .ok (.iconst 0, 1) := by decide +kernel
theorem d_jdk_42_method_55_code_13 : decode jdk_42_method_55_code 13 = .ok (.ireturn, 1) := by decide +kernel
theorem rm_ie (l : Launch) (Z : State) (a0 : Array Value) (hw : ∀ d ∈ tables_1, d.before a0 Z = true) (hEL : EW Z a0 consts_1) {ws : List Jvm.Cond} (s2 t2 : Addr) (k2 : ClassId) (ds : List Int32) (h0 : Heap) (n0 : Nat) (S2 : Str Z h0 s2 t2 k2 ds) (hp : 0 < ds.length) (hd4 : ds.length ≤ 100) :
    Met l Z consts_1 (⟨"java/lang/String", "isEmpty", "()Z"⟩ : MethodName) jdk_42_method_55_code 1 (some .boolean) ws ({ frames := 0, cells := 0, slots := 0, locals := 0 } : Room) [] #[(.ref s2)] h0 n0 (nq (fun v h => v = some (.int 0) ∧ h = h0)) := by
  refine met_of (plainFor_of_name pn_java_lang_String) hw #[.val (.ref s2)] (fun m => by first | rfl | (simp [entryFrame, mkF, argsToLocals, Value.category]; done)) ?_
  intro p e s m below meth c C0
  have C : Cx Z a0 tables_1 p s m meth c "java/lang/String" "isEmpty" jdk_42_method_55_code 1 (some .boolean) n0 := C0
  refine g_aloadN C d_jdk_42_method_55_code_0 rfl rfl ?_
  refine g_getfield C w_26 Via.refl S2.2.2.1 d_jdk_42_method_55_code_1 ?_
  refine g_arraylength C S2.2.2.2.1 d_jdk_42_method_55_code_4 ?_
  refine g_if_t C 12 d_jdk_42_method_55_code_5 (XT.i0_ne_t (on_ne0 (by omega) hp)) (by decide) (by decide) ?_
  refine g_iconst C 0 d_jdk_42_method_55_code_12 rfl ?_
  refine g_ireturnN C hEL (t := .boolean) rfl (by simp) d_jdk_42_method_55_code_13 (by decide) (by decide) ?_
  exact ⟨rfl, rfl⟩
theorem d_jdk_43_method_23_code_0 : decode jdk_43_method_23_code 0 = .ok (.iload_n 1, 1) := by decide +kernel
theorem d_jdk_43_method_23_code_1 : decode jdk_43_method_23_code 1 = .ok (.i2b, 1) := by decide +kernel
theorem d_jdk_43_method_23_code_2 : decode jdk_43_method_23_code 2 = .ok (.istore 4, 2) := by decide +kernel
theorem d_jdk_43_method_23_code_4 : decode jdk_43_method_23_code 4 = .ok (.iload_n 2, 1) := by decide +kernel
theorem d_jdk_43_method_23_code_5 : decode jdk_43_method_23_code 5 = .ok (.istore 5, 2) := by decide +kernel
theorem d_jdk_43_method_23_code_7 : decode jdk_43_method_23_code 7 = .ok (.iload 5, 2) := by decide +kernel
theorem d_jdk_43_method_23_code_9 : decode jdk_43_method_23_code 9 = .ok (.iload_n 3, 1) := by decide +kernel
theorem d_jdk_43_method_23_code_10 : decode jdk_43_method_23_code 10 = .ok (.if_icmp .ge 21, 3) := by decide +kernel
theorem d_jdk_43_method_23_code_13 : decode jdk_43_method_23_code 13 = .ok (.aload_n 0, 1) := by decide +kernel
theorem d_jdk_43_method_23_code_14 : decode jdk_43_method_23_code 14 = .ok (.iload 5, 2) := by decide +kernel
theorem d_jdk_43_method_23_code_16 : decode jdk_43_method_23_code 16 = .ok (.baload, 1) := by decide +kernel
theorem d_jdk_43_method_23_code_17 : decode jdk_43_method_23_code 17 = .ok (.iload 4, 2) := by decide +kernel
theorem d_jdk_43_method_23_code_19 : decode jdk_43_method_23_code 19 = .ok (.if_icmp .ne 6, 3) := by decide +kernel
theorem d_jdk_43_method_23_code_22 : decode jdk_43_method_23_code 22 = .ok (.iload 5, 2) := by decide +kernel
theorem d_jdk_43_method_23_code_24 : decode jdk_43_method_23_code 24 = .ok (.ireturn, 1) := by decide +kernel
theorem d_jdk_43_method_23_code_25 : decode jdk_43_method_23_code 25 = .ok (.iinc 5 1, 3) := by decide +kernel
theorem d_jdk_43_method_23_code_28 : decode jdk_43_method_23_code 28 = .ok (.goto (-21), 3) := by decide +kernel
theorem d_jdk_43_method_23_code_31 : decode jdk_43_method_23_code 31 = .ok (.iconst (-1), 1) := by decide +kernel
theorem d_jdk_43_method_23_code_32 : decode jdk_43_method_23_code 32 = .ok (.ireturn, 1) := by decide +kernel
theorem rm_ioc (l : Launch) (Z : State) (a0 : Array Value) (hw : ∀ d ∈ tables_1, d.before a0 Z = true) (hEL : EW Z a0 consts_1) {ws : List Jvm.Cond} (t : Addr) (kt : ClassId) (ch : Int32) (cs : List Int32) (h0 : Heap) (n0 : Nat) (Vt : Arv Z h0 t kt .byte (Int32.ofNat cs.length) (bts cs) (.int (0 : Int32))) (hl4 : cs.length ≤ 4000) :
    Met l Z consts_1 (⟨"java/lang/StringLatin1", "indexOfChar", "([BIII)I"⟩ : MethodName) jdk_43_method_23_code 6 (some .int) ws ({ frames := 0, cells := 0, slots := 0, locals := 0 } : Room) [] #[(.ref t), (.int ch), (.int (0 : Int32)), (.int (Int32.ofNat cs.length))] h0 n0 (nq (fun v h => v = some (.int (idxF (ch.toInt8.toInt32) cs 0)) ∧ h = h0)) := by
  refine met_of (plainFor_of_name pn_java_lang_StringLatin1) hw #[.val (.ref t), .val (.int ch), .val (.int (0 : Int32)), .val (.int (Int32.ofNat cs.length)), .unset, .unset] (fun m => by first | rfl | (simp [entryFrame, mkF, argsToLocals, Value.category]; done)) ?_
  intro p e s m below meth c C0
  have C : Cx Z a0 tables_1 p s m meth c "java/lang/StringLatin1" "indexOfChar" jdk_43_method_23_code 6 (some .int) n0 := C0
  have loop : ∀ (r pre : List Int32), cs = pre ++ r → Go Z consts_1 p l e ({ frames := 0, cells := 0, slots := 0, locals := 0 } : Room) s m #[.ref t, .int ch, .int (0 : Int32), .int (Int32.ofNat cs.length)] below meth c n0 (nq (fun v h => v = some (.int (idxF (ch.toInt8.toInt32) r pre.length)) ∧ h = h0)) [] h0 0 0 (mkF m 7 #[.val (.ref t), .val (.int ch), .val (.int (0 : Int32)), .val (.int (Int32.ofNat cs.length)), .val (.int (ch.toInt8.toInt32)), .val (.int (Int32.ofNat pre.length))] []) := by
    intro r
    induction r with
    | nil =>
        intro pre e1
        have hlp : pre.length = cs.length := by rw [e1, List.append_nil]
        refine g_iload C d_jdk_43_method_23_code_7 rfl ?_
        refine g_iloadN C d_jdk_43_method_23_code_9 rfl ?_
        refine g_icmp_t C 31 d_jdk_43_method_23_code_10 (XT.ii_ge_t (by rw [hlp]; exact Int32.lt_irrefl)) (by decide) (by decide) ?_
        refine g_iconst C (-1) d_jdk_43_method_23_code_31 rfl ?_
        refine g_ireturnI C hEL rfl d_jdk_43_method_23_code_32 (by decide) (by decide) ?_
        exact ⟨rfl, rfl⟩
    | cons x r ih =>
        intro pre e1
        have hlp : pre.length < cs.length := by rw [e1, List.length_append, List.length_cons]; omega
        have hlt := (on_lt (by omega) (by omega)).mpr hlp
        refine g_iload C d_jdk_43_method_23_code_7 rfl ?_
        refine g_iloadN C d_jdk_43_method_23_code_9 rfl ?_
        refine g_icmp_f C d_jdk_43_method_23_code_10 (XT.ii_ge_f hlt) ?_
        refine g_aloadN C d_jdk_43_method_23_code_13 rfl rfl ?_
        refine g_iload C d_jdk_43_method_23_code_14 rfl ?_
        refine g_baload C Vt d_jdk_43_method_23_code_16 ⟨on_nn (by omega), hlt⟩ (v := (.int (x.toInt8.toInt32))) (by rw [on_nat (by omega), e1]; exact bts_at pre r x _) ?_
        refine g_iload C d_jdk_43_method_23_code_17 rfl ?_
        by_cases hc221 : (x.toInt8.toInt32) = (ch.toInt8.toInt32)
        · refine g_icmp_f C d_jdk_43_method_23_code_19 (XT.ii_ne_f hc221) ?_
          refine g_iload C d_jdk_43_method_23_code_22 rfl ?_
          refine g_ireturnI C hEL rfl d_jdk_43_method_23_code_24 (by decide) (by decide) ?_
          exact ⟨by rw [idxF, if_pos hc221], rfl⟩
        · refine g_icmp_t C 25 d_jdk_43_method_23_code_19 (XT.ii_ne_t hc221) (by decide) (by decide) ?_
          refine g_iinc C 1 #[.val (.ref t), .val (.int ch), .val (.int (0 : Int32)), .val (.int (Int32.ofNat cs.length)), .val (.int (ch.toInt8.toInt32)), .val (.int ((Int32.ofNat pre.length) + (1 : Int32)))] d_jdk_43_method_23_code_25 rfl rfl rfl ?_
          refine g_goto C 7 d_jdk_43_method_23_code_28 (by decide) (by decide) ?_
          rw [show ((Int32.ofNat pre.length) + (1 : Int32)) = Int32.ofNat (pre ++ [x]).length from by rw [List.length_append]; exact on_add _ 1]
          have q := ih (pre ++ [x]) (by rw [e1]; simp)
          rw [idxF, if_neg hc221, show pre.length + 1 = (pre ++ [x]).length from by simp]
          exact q
  refine g_iloadN C d_jdk_43_method_23_code_0 rfl ?_
  refine g_i2b C d_jdk_43_method_23_code_1 ?_
  refine g_istore C #[.val (.ref t), .val (.int ch), .val (.int (0 : Int32)), .val (.int (Int32.ofNat cs.length)), .val (.int (ch.toInt8.toInt32)), .unset] d_jdk_43_method_23_code_2 rfl ?_
  refine g_iloadN C d_jdk_43_method_23_code_4 rfl ?_
  refine g_istore C #[.val (.ref t), .val (.int ch), .val (.int (0 : Int32)), .val (.int (Int32.ofNat cs.length)), .val (.int (ch.toInt8.toInt32)), .val (.int (0 : Int32))] d_jdk_43_method_23_code_5 rfl ?_
  exact loop cs [] rfl
theorem d_jdk_43_method_4_code_0 : decode jdk_43_method_4_code 0 = .ok (.iload_n 0, 1) := by decide +kernel
theorem d_jdk_43_method_4_code_1 : decode jdk_43_method_4_code 1 = .ok (.ifCond .lt 14, 3) := by decide +kernel
theorem d_jdk_43_method_4_code_4 : decode jdk_43_method_4_code 4 = .ok (.iload_n 0, 1) := by decide +kernel
theorem d_jdk_43_method_4_code_5 : decode jdk_43_method_4_code 5 = .ok (.sipush 255, 3) := by decide +kernel
theorem d_jdk_43_method_4_code_8 : decode jdk_43_method_4_code 8 = .ok (.if_icmp .gt 7, 3) := by decide +kernel
theorem d_jdk_43_method_4_code_11 : decode jdk_43_method_4_code 11 = .ok (.iconst 1, 1) := by decide +kernel
theorem d_jdk_43_method_4_code_12 : decode jdk_43_method_4_code 12 = .ok (.goto 4, 3) := by decide +kernel
theorem d_jdk_43_method_4_code_16 : decode jdk_43_method_4_code 16 = .ok (.ireturn, 1) := by decide +kernel
theorem rm_cei (l : Launch) (Z : State) (a0 : Array Value) (hw : ∀ d ∈ tables_1, d.before a0 Z = true) (hEL : EW Z a0 consts_1) {ws : List Jvm.Cond} (q : Int32) (h0 : Heap) (n0 : Nat) (hq : Ch8 q) :
    Met l Z consts_1 (⟨"java/lang/StringLatin1", "canEncode", "(I)Z"⟩ : MethodName) jdk_43_method_4_code 1 (some .boolean) ws ({ frames := 0, cells := 0, slots := 0, locals := 0 } : Room) [] #[(.int q)] h0 n0 (nq (fun v h => v = some (.int 1) ∧ h = h0)) := by
  refine met_of (plainFor_of_name pn_java_lang_StringLatin1) hw #[.val (.int q)] (fun m => by first | rfl | (simp [entryFrame, mkF, argsToLocals, Value.category]; done)) ?_
  intro p e s m below meth c C0
  have C : Cx Z a0 tables_1 p s m meth c "java/lang/StringLatin1" "canEncode" jdk_43_method_4_code 1 (some .boolean) n0 := C0
  refine g_iloadN C d_jdk_43_method_4_code_0 rfl ?_
  refine g_if_f C d_jdk_43_method_4_code_1 (XT.i0_lt_f hq.1) ?_
  refine g_iloadN C d_jdk_43_method_4_code_4 rfl ?_
  refine g_sipush C 255 d_jdk_43_method_4_code_5 rfl ?_
  refine g_icmp_f C d_jdk_43_method_4_code_8 (XT.ii_gt_f hq.2) ?_
  refine g_iconst C 1 d_jdk_43_method_4_code_11 rfl ?_
  refine g_goto C 16 d_jdk_43_method_4_code_12 (by decide) (by decide) ?_
  refine g_ireturnN C hEL (t := .boolean) rfl (by simp) d_jdk_43_method_4_code_16 (by decide) (by decide) ?_
  exact ⟨rfl, rfl⟩
theorem d_jdk_43_method_22_code_0 : decode jdk_43_method_22_code 0 = .ok (.iload_n 1, 1) := by decide +kernel
theorem d_jdk_43_method_22_code_1 : decode jdk_43_method_22_code 1 = .ok (.invokestatic 88, 3) := by decide +kernel
theorem d_jdk_43_method_22_code_4 : decode jdk_43_method_22_code 4 = .ok (.ifCond .ne 5, 3) := by decide +kernel
theorem d_jdk_43_method_22_code_9 : decode jdk_43_method_22_code 9 = .ok (.iload_n 2, 1) := by decide +kernel
theorem d_jdk_43_method_22_code_10 : decode jdk_43_method_22_code 10 = .ok (.iconst 0, 1) := by decide +kernel
theorem d_jdk_43_method_22_code_11 : decode jdk_43_method_22_code 11 = .ok (.invokestatic 92, 3) := by decide +kernel
theorem d_jdk_43_method_22_code_14 : decode jdk_43_method_22_code 14 = .ok (.istore_n 2, 1) := by decide +kernel
theorem d_jdk_43_method_22_code_15 : decode jdk_43_method_22_code 15 = .ok (.iload_n 3, 1) := by decide +kernel
theorem d_jdk_43_method_22_code_16 : decode jdk_43_method_22_code 16 = .ok (.aload_n 0, 1) := by decide +kernel
theorem d_jdk_43_method_22_code_17 : decode jdk_43_method_22_code 17 = .ok (.arraylength, 1) := by decide +kernel
theorem d_jdk_43_method_22_code_18 : decode jdk_43_method_22_code 18 = .ok (.invokestatic 38, 3) := by decide +kernel
theorem d_jdk_43_method_22_code_21 : decode jdk_43_method_22_code 21 = .ok (.istore_n 3, 1) := by decide +kernel
theorem d_jdk_43_method_22_code_22 : decode jdk_43_method_22_code 22 = .ok (.iload_n 2, 1) := by decide +kernel
theorem d_jdk_43_method_22_code_23 : decode jdk_43_method_22_code 23 = .ok (.iload_n 3, 1) := by decide +kernel
theorem d_jdk_43_method_22_code_24 : decode jdk_43_method_22_code 24 = .ok (.if_icmp .lt 5, 3) := by decide +kernel
theorem d_jdk_43_method_22_code_29 : decode jdk_43_method_22_code 29 = .ok (.aload_n 0, 1) := by decide +kernel
theorem d_jdk_43_method_22_code_30 : decode jdk_43_method_22_code 30 = .ok (.iload_n 1, 1) := by decide +kernel
theorem d_jdk_43_method_22_code_31 : decode jdk_43_method_22_code 31 = .ok (.iload_n 2, 1) := by decide +kernel
theorem d_jdk_43_method_22_code_32 : decode jdk_43_method_22_code 32 = .ok (.iload_n 3, 1) := by decide +kernel
theorem d_jdk_43_method_22_code_33 : decode jdk_43_method_22_code 33 = .ok (.invokestatic 95, 3) := by decide +kernel
theorem d_jdk_43_method_22_code_36 : decode jdk_43_method_22_code 36 = .ok (.ireturn, 1) := by decide +kernel
theorem pd__I_Z : parseMethodDescriptor "(I)Z" = some ⟨[.int], some .boolean⟩ := by decide +kernel
theorem pd___BIII_I : parseMethodDescriptor "([BIII)I" = some ⟨[(.array .byte), .int, .int, .int], some .int⟩ := by decide +kernel
theorem rm_li (l : Launch) (Z : State) (a0 : Array Value) (hw : ∀ d ∈ tables_1, d.before a0 Z = true) (hEL : EW Z a0 consts_1) {ws : List Jvm.Cond} (t : Addr) (kt : ClassId) (ch : Int32) (cs : List Int32) (h0 : Heap) (n0 : Nat) (Vt : Arv Z h0 t kt .byte (Int32.ofNat cs.length) (bts cs) (.int (0 : Int32))) (hl4 : cs.length ≤ 4000) (hp0 : 0 < cs.length) (hch : Ch8 ch) :
    Met l Z consts_1 (⟨"java/lang/StringLatin1", "indexOf", "([BIII)I"⟩ : MethodName) jdk_43_method_22_code 4 (some .int) ws ({ frames := 1, cells := 0, slots := 0, locals := 20 } : Room) [] #[(.ref t), (.int ch), (.int (0 : Int32)), (.int (Int32.ofNat cs.length))] h0 n0 (nq (fun v h => v = some (.int (idxF (ch.toInt8.toInt32) cs 0)) ∧ h = h0)) := by
  refine met_of (plainFor_of_name pn_java_lang_StringLatin1) hw #[.val (.ref t), .val (.int ch), .val (.int (0 : Int32)), .val (.int (Int32.ofNat cs.length))] (fun m => by first | rfl | (simp [entryFrame, mkF, argsToLocals, Value.category]; done)) ?_
  intro p e s m below meth c C0
  have C : Cx Z a0 tables_1 p s m meth c "java/lang/StringLatin1" "indexOf" jdk_43_method_22_code 4 (some .int) n0 := C0
  refine g_iloadN C d_jdk_43_method_22_code_0 rfl ?_
  refine g_static C w_141 w_142 w_11 w_143 (by decide) [(.int ch)] (ct_of hEL hw w_143 w_11 (rm_cei l Z a0 hw hEL ch h0 n0 hch)) all0 (by decide) 0 (by decide) rfl pd__I_Z rfl [] rfl (Nat.le_of_eq rfl) d_jdk_43_method_22_code_1 (by decide) (by decide) ?_
  intro v222 h222 Q222
  obtain ⟨rfl, e222⟩ := Q222
  replace e222 := e222.symm
  subst e222
  refine g_if_t C 9 d_jdk_43_method_22_code_4 (XT.i0_ne_t (by decide)) (by decide) (by decide) ?_
  refine g_iloadN C d_jdk_43_method_22_code_9 rfl ?_
  refine g_iconst C 0 d_jdk_43_method_22_code_10 rfl ?_
  refine g_static C w_144 w_145 w_146 w_147 (by decide) [(.int (0 : Int32)), (.int (0 : Int32))] (ct_of hEL hw w_147 w_146 (rm_max l Z a0 hw hEL (0 : Int32) (0 : Int32) h0 n0 )) all0 (by decide) 0 (by decide) rfl pd__II_I rfl [] rfl (Nat.le_of_eq rfl) d_jdk_43_method_22_code_11 (by decide) (by decide) ?_
  intro v223 h223 Q223
  obtain ⟨ev223, e223⟩ := Q223
  replace e223 := e223.symm
  subst e223
  replace ev223 : v223 = some (.int (0 : Int32)) := ev223.trans (by first | rfl | decide)
  subst ev223
  refine g_istoreN C #[.val (.ref t), .val (.int ch), .val (.int (0 : Int32)), .val (.int (Int32.ofNat cs.length))] d_jdk_43_method_22_code_14 rfl ?_
  refine g_iloadN C d_jdk_43_method_22_code_15 rfl ?_
  refine g_aloadN C d_jdk_43_method_22_code_16 rfl rfl ?_
  refine g_arraylength C Vt d_jdk_43_method_22_code_17 ?_
  refine g_static C w_148 w_149 w_146 w_150 (by decide) [(.int (Int32.ofNat cs.length)), (.int (Int32.ofNat cs.length))] (ct_of hEL hw w_150 w_146 (rm_min l Z a0 hw hEL (Int32.ofNat cs.length) (Int32.ofNat cs.length) h0 n0 )) all0 (by decide) 0 (by decide) rfl pd__II_I rfl [] rfl (Nat.le_of_eq rfl) d_jdk_43_method_22_code_18 (by decide) (by decide) ?_
  intro v224 h224 Q224
  obtain ⟨ev224, e224⟩ := Q224
  replace e224 := e224.symm
  subst e224
  replace ev224 : v224 = some (.int (Int32.ofNat cs.length)) := ev224.trans (by rw [if_neg Int32.lt_irrefl])
  subst ev224
  refine g_istoreN C #[.val (.ref t), .val (.int ch), .val (.int (0 : Int32)), .val (.int (Int32.ofNat cs.length))] d_jdk_43_method_22_code_21 rfl ?_
  refine g_iloadN C d_jdk_43_method_22_code_22 rfl ?_
  refine g_iloadN C d_jdk_43_method_22_code_23 rfl ?_
  refine g_icmp_t C 29 d_jdk_43_method_22_code_24 (XT.ii_lt_t (on_gt0 (by omega) hp0)) (by decide) (by decide) ?_
  refine g_aloadN C d_jdk_43_method_22_code_29 rfl rfl ?_
  refine g_iloadN C d_jdk_43_method_22_code_30 rfl ?_
  refine g_iloadN C d_jdk_43_method_22_code_31 rfl ?_
  refine g_iloadN C d_jdk_43_method_22_code_32 rfl ?_
  refine g_static C w_151 w_152 w_11 w_153 (by decide) [(.ref t), (.int ch), (.int (0 : Int32)), (.int (Int32.ofNat cs.length))] (ct_of hEL hw w_153 w_11 (rm_ioc l Z a0 hw hEL t _ ch cs h0 n0 Vt hl4)) all0 (by decide) 0 (by decide) rfl pd___BIII_I rfl [] rfl (Nat.le_of_eq rfl) d_jdk_43_method_22_code_33 (by decide) (by decide) ?_
  intro v225 h225 Q225
  obtain ⟨rfl, e225⟩ := Q225
  replace e225 := e225.symm
  subst e225
  refine g_ireturnI C hEL rfl d_jdk_43_method_22_code_36 (by decide) (by decide) ?_
  exact ⟨rfl, rfl⟩
theorem d_jdk_42_method_80_code_0 : decode jdk_42_method_80_code 0 = .ok (.aload_n 0, 1) := by decide +kernel
theorem d_jdk_42_method_80_code_1 : decode jdk_42_method_80_code 1 = .ok (.invokevirtual 492, 3) := by decide +kernel
theorem d_jdk_42_method_80_code_4 : decode jdk_42_method_80_code 4 = .ok (.ifCond .eq 19, 3) := by decide +kernel
theorem d_jdk_42_method_80_code_7 : decode jdk_42_method_80_code 7 = .ok (.aload_n 0, 1) := by decide +kernel
theorem d_jdk_42_method_80_code_8 : decode jdk_42_method_80_code 8 = .ok (.getfield 9, 3) := by decide +kernel
theorem d_jdk_42_method_80_code_11 : decode jdk_42_method_80_code 11 = .ok (.iload_n 1, 1) := by decide +kernel
theorem d_jdk_42_method_80_code_12 : decode jdk_42_method_80_code 12 = .ok (.iload_n 2, 1) := by decide +kernel
theorem d_jdk_42_method_80_code_13 : decode jdk_42_method_80_code 13 = .ok (.aload_n 0, 1) := by decide +kernel
theorem d_jdk_42_method_80_code_14 : decode jdk_42_method_80_code 14 = .ok (.invokevirtual 505, 3) := by decide +kernel
theorem d_jdk_42_method_80_code_17 : decode jdk_42_method_80_code 17 = .ok (.invokestatic 637, 3) := by decide +kernel
theorem d_jdk_42_method_80_code_20 : decode jdk_42_method_80_code 20 = .ok (.goto 16, 3) := by decide +kernel
theorem d_jdk_42_method_80_code_36 : decode jdk_42_method_80_code 36 = .ok (.ireturn, 1) := by decide +kernel
theorem rm_i2 (l : Launch) (Z : State) (a0 : Array Value) (hw : ∀ d ∈ tables_1, d.before a0 Z = true) (hEL : EW Z a0 consts_1) {ws : List Jvm.Cond} (s t : Addr) (kt : ClassId) (ch : Int32) (cs : List Int32) (zc : Int32) (h0 : Heap) (n0 : Nat) (S0 : Str Z h0 s t kt cs) (hl4 : cs.length ≤ 4000) (hp0 : 0 < cs.length) (hch : Ch8 ch) (Szc : Sta Z h0 "java/lang/String" "COMPACT_STRINGS" "Z" (.int zc)) (hzc : ¬ (zc = (0 : Int32))) :
    Met l Z consts_1 (⟨"java/lang/String", "indexOf", "(II)I"⟩ : MethodName) jdk_42_method_80_code 3 (some .int) ws ({ frames := 2, cells := 0, slots := 0, locals := 36 } : Room) [] #[(.ref s), (.int ch), (.int (0 : Int32))] h0 n0 (nq (fun v h => v = some (.int (idxF (ch.toInt8.toInt32) cs 0)) ∧ h = h0)) := by
  refine met_of (plainFor_of_name pn_java_lang_String) hw #[.val (.ref s), .val (.int ch), .val (.int (0 : Int32))] (fun m => by first | rfl | (simp [entryFrame, mkF, argsToLocals, Value.category]; done)) ?_
  intro p e sT m below meth c C0
  have C : Cx Z a0 tables_1 p sT m meth c "java/lang/String" "indexOf" jdk_42_method_80_code 3 (some .int) n0 := C0
  refine g_aloadN C d_jdk_42_method_80_code_0 rfl rfl ?_
  refine g_virtual C S0.1 w_132 w_133 (fun hZ => nf_sel hw w_135 hZ) w_135 w_134 (by decide) [] (ct_of hEL hw w_136 w_6 (rm_lat l Z a0 hw hEL s zc h0 n0 S0.2.1 Szc hzc)) all0 (by decide) 0 (by decide) rfl pd___Z rfl [] rfl (Nat.le_of_eq rfl) d_jdk_42_method_80_code_1 (by decide) (by decide) ?_
  intro v226 h226 Q226
  obtain ⟨rfl, e226⟩ := Q226
  replace e226 := e226.symm
  subst e226
  refine g_if_f C d_jdk_42_method_80_code_4 (XT.i0_eq_f (by decide)) ?_
  refine g_aloadN C d_jdk_42_method_80_code_7 rfl rfl ?_
  refine g_getfield C w_26 Via.refl S0.2.2.1 d_jdk_42_method_80_code_8 ?_
  refine g_iloadN C d_jdk_42_method_80_code_11 rfl ?_
  refine g_iloadN C d_jdk_42_method_80_code_12 rfl ?_
  refine g_aloadN C d_jdk_42_method_80_code_13 rfl rfl ?_
  refine g_virtual C S0.1 w_137 w_73 (fun hZ => nf_sel hw w_75 hZ) w_75 w_74 (by decide) [] (ct_len hEL hw S0 Szc hzc) all0 (by decide) 3 (by decide) rfl pd___I rfl [(.int (0 : Int32)), (.int ch), (.ref t)] rfl (Nat.le_of_eq rfl) d_jdk_42_method_80_code_14 (by decide) (by decide) ?_
  intro v227 h227 Q227
  obtain ⟨rfl, e227⟩ := Q227
  replace e227 := e227.symm
  subst e227
  refine g_static C w_138 w_139 w_11 w_140 (by decide) [(.ref t), (.int ch), (.int (0 : Int32)), (.int (Int32.ofNat cs.length))] (ct_of hEL hw w_140 w_11 (rm_li l Z a0 hw hEL t _ ch cs h0 n0 S0.2.2.2.1 hl4 hp0 hch)) all0 (by decide) 0 (by decide) rfl pd___BIII_I rfl [] rfl (Nat.le_of_eq rfl) d_jdk_42_method_80_code_17 (by decide) (by decide) ?_
  intro v228 h228 Q228
  obtain ⟨rfl, e228⟩ := Q228
  replace e228 := e228.symm
  subst e228
  refine g_goto C 36 d_jdk_42_method_80_code_20 (by decide) (by decide) ?_
  refine g_ireturnI C hEL rfl d_jdk_42_method_80_code_36 (by decide) (by decide) ?_
  exact ⟨rfl, rfl⟩
theorem d_jdk_42_method_79_code_0 : decode jdk_42_method_79_code 0 = .ok (.aload_n 0, 1) := by decide +kernel
theorem d_jdk_42_method_79_code_1 : decode jdk_42_method_79_code 1 = .ok (.iload_n 1, 1) := by decide +kernel
theorem d_jdk_42_method_79_code_2 : decode jdk_42_method_79_code 2 = .ok (.iconst 0, 1) := by decide +kernel
theorem d_jdk_42_method_79_code_3 : decode jdk_42_method_79_code 3 = .ok (.invokevirtual 633, 3) := by decide +kernel
theorem d_jdk_42_method_79_code_6 : decode jdk_42_method_79_code 6 = .ok (.ireturn, 1) := by decide +kernel
theorem rm_i1 (l : Launch) (Z : State) (a0 : Array Value) (hw : ∀ d ∈ tables_1, d.before a0 Z = true) (hEL : EW Z a0 consts_1) {ws : List Jvm.Cond} (s t : Addr) (kt : ClassId) (ch : Int32) (cs : List Int32) (zc : Int32) (h0 : Heap) (n0 : Nat) (S0 : Str Z h0 s t kt cs) (hl4 : cs.length ≤ 4000) (hp0 : 0 < cs.length) (hch : Ch8 ch) (Szc : Sta Z h0 "java/lang/String" "COMPACT_STRINGS" "Z" (.int zc)) (hzc : ¬ (zc = (0 : Int32))) :
    Met l Z consts_1 (⟨"java/lang/String", "indexOf", "(I)I"⟩ : MethodName) jdk_42_method_79_code 2 (some .int) ws ({ frames := 3, cells := 0, slots := 0, locals := 52 } : Room) [] #[(.ref s), (.int ch)] h0 n0 (nq (fun v h => v = some (.int (idxF (ch.toInt8.toInt32) cs 0)) ∧ h = h0)) := by
  refine met_of (plainFor_of_name pn_java_lang_String) hw #[.val (.ref s), .val (.int ch)] (fun m => by first | rfl | (simp [entryFrame, mkF, argsToLocals, Value.category]; done)) ?_
  intro p e sT m below meth c C0
  have C : Cx Z a0 tables_1 p sT m meth c "java/lang/String" "indexOf" jdk_42_method_79_code 2 (some .int) n0 := C0
  refine g_aloadN C d_jdk_42_method_79_code_0 rfl rfl ?_
  refine g_iloadN C d_jdk_42_method_79_code_1 rfl ?_
  refine g_iconst C 0 d_jdk_42_method_79_code_2 rfl ?_
  refine g_virtual C S0.1 w_127 w_128 (fun hZ => nf_sel hw w_130 hZ) w_130 w_129 (by decide) [(.int ch), (.int (0 : Int32))] (ct_of hEL hw w_131 w_6 (rm_i2 l Z a0 hw hEL s t _ ch cs zc h0 n0 S0 hl4 hp0 hch Szc hzc)) all0 (by decide) 0 (by decide) rfl pd__II_I rfl [] rfl (Nat.le_of_eq rfl) d_jdk_42_method_79_code_3 (by decide) (by decide) ?_
  intro v229 h229 Q229
  obtain ⟨rfl, e229⟩ := Q229
  replace e229 := e229.symm
  subst e229
  refine g_ireturnI C hEL rfl d_jdk_42_method_79_code_6 (by decide) (by decide) ?_
  exact ⟨rfl, rfl⟩
theorem d_jdk_43_method_47_code_0 : decode jdk_43_method_47_code 0 = .ok (.iload_n 2, 1) := by decide +kernel
theorem d_jdk_43_method_47_code_1 : decode jdk_43_method_47_code 1 = .ok (.ifCond .ne 6, 3) := by decide +kernel
theorem d_jdk_43_method_47_code_7 : decode jdk_43_method_47_code 7 = .ok (.new 1, 3) := by decide +kernel
theorem d_jdk_43_method_47_code_10 : decode jdk_43_method_47_code 10 = .ok (.dup, 1) := by decide +kernel
theorem d_jdk_43_method_47_code_11 : decode jdk_43_method_47_code 11 = .ok (.aload_n 0, 1) := by decide +kernel
theorem d_jdk_43_method_47_code_12 : decode jdk_43_method_47_code 12 = .ok (.iload_n 1, 1) := by decide +kernel
theorem d_jdk_43_method_47_code_13 : decode jdk_43_method_47_code 13 = .ok (.iload_n 1, 1) := by decide +kernel
theorem d_jdk_43_method_47_code_14 : decode jdk_43_method_47_code 14 = .ok (.iload_n 2, 1) := by decide +kernel
theorem d_jdk_43_method_47_code_15 : decode jdk_43_method_47_code 15 = .ok (.iadd, 1) := by decide +kernel
theorem d_jdk_43_method_47_code_16 : decode jdk_43_method_47_code 16 = .ok (.invokestatic 232, 3) := by decide +kernel
theorem d_jdk_43_method_47_code_19 : decode jdk_43_method_47_code 19 = .ok (.iconst 0, 1) := by decide +kernel
theorem d_jdk_43_method_47_code_20 : decode jdk_43_method_47_code 20 = .ok (.invokespecial 112, 3) := by decide +kernel
theorem d_jdk_43_method_47_code_23 : decode jdk_43_method_47_code 23 = .ok (.areturn, 1) := by decide +kernel
theorem rm_nsg (l : Launch) (Z : State) (a0 : Array Value) (hw : ∀ d ∈ tables_1, d.before a0 Z = true) (hEL : EW Z a0 consts_1) {ws : List Jvm.Cond} (t : Addr) (kt : ClassId) (i j : Nat) (cs : List Int32) (h0 : Heap) (n0 : Nat) (Vt : Arv Z h0 t kt .byte (Int32.ofNat cs.length) (bts cs) (.int (0 : Int32))) (hi0 : 0 < i) (hij : i < j) (hjl : j ≤ cs.length) (hc100 : j ≤ 100) (hcap : cs.length ≤ 1000) (h8 : ∀ c ∈ cs, ¬ c < 0 ∧ ¬ (255 : Int32) < c) :
    Met l Z consts_1 (⟨"java/lang/StringLatin1", "newString", "([BII)Ljava/lang/String;"⟩ : MethodName) jdk_43_method_47_code 3 (some (.object "java/lang/String")) ws ({ frames := 3, cells := 2, slots := 110, locals := 66 } : Room) [] #[(.ref t), (.int (Int32.ofNat i)), (.int (Int32.ofNat (j - i)))] h0 n0 (nq (fun v h => ∃ a t' k', v = some (.ref a) ∧ Keep h0 h [] ∧ h0.size ≤ a ∧ h0.size ≤ t' ∧ Str Z h a t' k' ((cs.drop i).take (j - i)))) := by
  refine met_of (plainFor_of_name pn_java_lang_StringLatin1) hw #[.val (.ref t), .val (.int (Int32.ofNat i)), .val (.int (Int32.ofNat (j - i)))] (fun m => by first | rfl | (simp [entryFrame, mkF, argsToLocals, Value.category]; done)) ?_
  intro p e s m below meth c C0
  have C : Cx Z a0 tables_1 p s m meth c "java/lang/StringLatin1" "newString" jdk_43_method_47_code 3 (some (.object "java/lang/String")) n0 := C0
  refine g_iloadN C d_jdk_43_method_47_code_0 rfl ?_
  refine g_if_t C 7 d_jdk_43_method_47_code_1 (XT.i0_ne_t (on_ne0 (by omega) (by omega))) (by decide) (by decide) ?_
  refine g_new C w_233 w_14 w_6 d_jdk_43_method_47_code_7 (by decide) (by decide) ?_
  intro b230 h230 g230 E230 A230 D230
  refine g_dup C d_jdk_43_method_47_code_10 rfl ?_
  refine g_aloadN C d_jdk_43_method_47_code_11 rfl rfl ?_
  refine g_iloadN C d_jdk_43_method_47_code_12 rfl ?_
  refine g_iloadN C d_jdk_43_method_47_code_13 rfl ?_
  refine g_iloadN C d_jdk_43_method_47_code_14 rfl ?_
  refine g_iadd C d_jdk_43_method_47_code_15 ?_
  rw [on_add, show i + (j - i) = j from by omega]
  have K231 : Keep h0 h230 [] := (Keep.refl h0 []).ext E230
  have V232 := (Vt.keep K231 nin0)
  refine g_static C w_234 w_187 w_188 w_189 (by decide) [(.ref t), (.int (Int32.ofNat i)), (.int (Int32.ofNat j))] (ct_of hEL hw w_189 w_188 (rm_c0i l Z a0 hw hEL t _ cs.length i j cs h230 n0 V232 (by omega) hjl (Nat.le_refl _) hc100 hcap hi0)) all0 (by decide) 2 (by decide) rfl pd___BII__B rfl [(.ref b230), (.ref b230)] rfl (Nat.le_of_eq rfl) d_jdk_43_method_47_code_16 (by decide) (by decide) ?_
  intro v233 h233 Q233
  obtain ⟨b233, k233, rfl, KC233, le233, V233⟩ := Q233
  refine g_iconst C 0 d_jdk_43_method_47_code_19 rfl ?_
  have K234 : Keep h230 h233 [] := (Keep.refl h230 []).trans KC233 all0
  have E235 := (A230.keep K234)
  have F236 := ((D230 (Or.inr (C.hw w_27)) (ty := (.array .byte)) (by decide)).keep K234 nin0)
  have F237 := ((D230 (Or.inr (C.hw w_29)) (ty := .byte) (by decide)).keep K234 nin0)
  refine g_special C (a := b230) w_235 w_20 w_22 rfl (by decide) [(.ref b233), (.int (0 : Int32))] (ct_of hEL hw w_22 w_6 (rm_sbb l Z a0 hw hEL b230 b233 h233 n0 E235 F236 F237)) (allS (mg (i := 0) rfl) all0) (by decide) 1 (by decide) rfl pd___BB_V rfl [(.ref b230)] rfl (Nat.le_of_eq rfl) d_jdk_43_method_47_code_20 (by decide) (by decide) ?_
  intro v238 h238 Q238
  obtain ⟨rfl, KC238, X238, G1238, G2238⟩ := Q238
  refine g_areturn C hEL (t := (.object "java/lang/String")) rfl rfl rfl d_jdk_43_method_47_code_23 (by decide) (by decide) ?_
  have K239 : Keep h0 h233 [] := K231.trans KC233 all0
  have K240 : Keep h0 h238 [] := K239.trans KC238 (allS (Or.inr (Nat.le_of_eq g230.symm)) all0)
  have V241 := (V233.keep KC238 (ninS (Ne.symm (Nat.ne_of_lt (Nat.lt_of_lt_of_le A230.lt le233))) nin0))
  have el : ((cs.drop i).take (j - i)).length = j - i := by rw [List.length_take, List.length_drop]; omega
  exact ⟨b230, b233, _, rfl, K240, (Nat.le_of_eq g230.symm), (Nat.le_trans K231.1 le233), X238, G1238, G2238, by rw [el]; exact V241, by omega, own_mem_cut h8⟩
theorem d_jdk_42_method_92_code_0 : decode jdk_42_method_92_code 0 = .ok (.aload_n 0, 1) := by decide +kernel
theorem d_jdk_42_method_92_code_1 : decode jdk_42_method_92_code 1 = .ok (.invokevirtual 505, 3) := by decide +kernel
theorem d_jdk_42_method_92_code_4 : decode jdk_42_method_92_code 4 = .ok (.istore_n 3, 1) := by decide +kernel
theorem d_jdk_42_method_92_code_5 : decode jdk_42_method_92_code 5 = .ok (.iload_n 1, 1) := by decide +kernel
theorem d_jdk_42_method_92_code_6 : decode jdk_42_method_92_code 6 = .ok (.iload_n 2, 1) := by decide +kernel
theorem d_jdk_42_method_92_code_7 : decode jdk_42_method_92_code 7 = .ok (.iload_n 3, 1) := by decide +kernel
theorem d_jdk_42_method_92_code_8 : decode jdk_42_method_92_code 8 = .ok (.invokestatic 521, 3) := by decide +kernel
theorem d_jdk_42_method_92_code_11 : decode jdk_42_method_92_code 11 = .ok (.iload_n 1, 1) := by decide +kernel
theorem d_jdk_42_method_92_code_12 : decode jdk_42_method_92_code 12 = .ok (.ifCond .ne 10, 3) := by decide +kernel
theorem d_jdk_42_method_92_code_22 : decode jdk_42_method_92_code 22 = .ok (.iload_n 2, 1) := by decide +kernel
theorem d_jdk_42_method_92_code_23 : decode jdk_42_method_92_code 23 = .ok (.iload_n 1, 1) := by decide +kernel
theorem d_jdk_42_method_92_code_24 : decode jdk_42_method_92_code 24 = .ok (.isub, 1) := by decide +kernel
theorem d_jdk_42_method_92_code_25 : decode jdk_42_method_92_code 25 = .ok (.istore 4, 2) := by decide +kernel
theorem d_jdk_42_method_92_code_27 : decode jdk_42_method_92_code 27 = .ok (.aload_n 0, 1) := by decide +kernel
theorem d_jdk_42_method_92_code_28 : decode jdk_42_method_92_code 28 = .ok (.invokevirtual 492, 3) := by decide +kernel
theorem d_jdk_42_method_92_code_31 : decode jdk_42_method_92_code 31 = .ok (.ifCond .eq 16, 3) := by decide +kernel
theorem d_jdk_42_method_92_code_34 : decode jdk_42_method_92_code 34 = .ok (.aload_n 0, 1) := by decide +kernel
theorem d_jdk_42_method_92_code_35 : decode jdk_42_method_92_code 35 = .ok (.getfield 9, 3) := by decide +kernel
theorem d_jdk_42_method_92_code_38 : decode jdk_42_method_92_code 38 = .ok (.iload_n 1, 1) := by decide +kernel
theorem d_jdk_42_method_92_code_39 : decode jdk_42_method_92_code 39 = .ok (.iload 4, 2) := by decide +kernel
theorem d_jdk_42_method_92_code_41 : decode jdk_42_method_92_code 41 = .ok (.invokestatic 685, 3) := by decide +kernel
theorem d_jdk_42_method_92_code_44 : decode jdk_42_method_92_code 44 = .ok (.goto 13, 3) := by decide +kernel
theorem d_jdk_42_method_92_code_57 : decode jdk_42_method_92_code 57 = .ok (.areturn, 1) := by decide +kernel
theorem pd__III_V : parseMethodDescriptor "(III)V" = some ⟨[.int, .int, .int], none⟩ := by decide +kernel
theorem pd___BII_Ljava_lang_String_ : parseMethodDescriptor "([BII)Ljava/lang/String;" = some ⟨[(.array .byte), .int, .int], some (.object "java/lang/String")⟩ := by decide +kernel
theorem rm_s2g (l : Launch) (Z : State) (a0 : Array Value) (hw : ∀ d ∈ tables_1, d.before a0 Z = true) (hEL : EW Z a0 consts_1) {ws : List Jvm.Cond} (s t : Addr) (kt : ClassId) (i j : Nat) (cs : List Int32) (zc : Int32) (fm : Value) (h0 : Heap) (n0 : Nat) (S0 : Str Z h0 s t kt cs) (hi0 : 0 < i) (hij : i < j) (hjl : j ≤ cs.length) (hc100 : j ≤ 100) (hcap : cs.length ≤ 1000) (Szc : Sta Z h0 "java/lang/String" "COMPACT_STRINGS" "Z" (.int zc)) (hzc : ¬ (zc = (0 : Int32))) (Sfm : Sta Z h0 "jdk/internal/util/Preconditions" "SIOOBE_FORMATTER" "Ljava/util/function/BiFunction;" fm) (hfm : fm.isRef = true) :
    Met l Z consts_1 (⟨"java/lang/String", "substring", "(II)Ljava/lang/String;"⟩ : MethodName) jdk_42_method_92_code 5 (some (.object "java/lang/String")) ws ({ frames := 4, cells := 2, slots := 110, locals := 84 } : Room) [] #[(.ref s), (.int (Int32.ofNat i)), (.int (Int32.ofNat j))] h0 n0 (nq (fun v h => ∃ a t' k', v = some (.ref a) ∧ Keep h0 h [] ∧ h0.size ≤ a ∧ h0.size ≤ t' ∧ Str Z h a t' k' ((cs.drop i).take (j - i)))) := by
  refine met_of (plainFor_of_name pn_java_lang_String) hw #[.val (.ref s), .val (.int (Int32.ofNat i)), .val (.int (Int32.ofNat j)), .unset, .unset] (fun m => by first | rfl | (simp [entryFrame, mkF, argsToLocals, Value.category]; done)) ?_
  intro p e sT m below meth c C0
  have C : Cx Z a0 tables_1 p sT m meth c "java/lang/String" "substring" jdk_42_method_92_code 5 (some (.object "java/lang/String")) n0 := C0
  refine g_aloadN C d_jdk_42_method_92_code_0 rfl rfl ?_
  refine g_virtual C S0.1 w_137 w_73 (fun hZ => nf_sel hw w_75 hZ) w_75 w_74 (by decide) [] (ct_len hEL hw S0 Szc hzc) all0 (by decide) 0 (by decide) rfl pd___I rfl [] rfl (Nat.le_of_eq rfl) d_jdk_42_method_92_code_1 (by decide) (by decide) ?_
  intro v242 h242 Q242
  obtain ⟨rfl, e242⟩ := Q242
  replace e242 := e242.symm
  subst e242
  refine g_istoreN C #[.val (.ref s), .val (.int (Int32.ofNat i)), .val (.int (Int32.ofNat j)), .val (.int (Int32.ofNat cs.length)), .unset] d_jdk_42_method_92_code_4 rfl ?_
  refine g_iloadN C d_jdk_42_method_92_code_5 rfl ?_
  refine g_iloadN C d_jdk_42_method_92_code_6 rfl ?_
  refine g_iloadN C d_jdk_42_method_92_code_7 rfl ?_
  refine g_static C w_222 w_223 w_6 w_224 (by decide) [(.int (Int32.ofNat i)), (.int (Int32.ofNat j)), (.int (Int32.ofNat cs.length))] (ct_of hEL hw w_224 w_6 (rm_cbbe l Z a0 hw hEL (Int32.ofNat i) (Int32.ofNat j) (Int32.ofNat cs.length) fm h0 n0 (on_nn (by omega)) (by rw [on_lt (by omega) (by omega)]; omega) (by rw [on_lt (by omega) (by omega)]; omega) Sfm hfm)) all0 (by decide) 0 (by decide) rfl pd__III_V rfl [] rfl (Nat.le_of_eq rfl) d_jdk_42_method_92_code_8 (by decide) (by decide) ?_
  intro v243 h243 Q243
  obtain ⟨rfl, e243⟩ := Q243
  replace e243 := e243.symm
  subst e243
  refine g_iloadN C d_jdk_42_method_92_code_11 rfl ?_
  refine g_if_t C 22 d_jdk_42_method_92_code_12 (XT.i0_ne_t (on_ne0 (by omega) hi0)) (by decide) (by decide) ?_
  refine g_iloadN C d_jdk_42_method_92_code_22 rfl ?_
  refine g_iloadN C d_jdk_42_method_92_code_23 rfl ?_
  refine g_isub C d_jdk_42_method_92_code_24 ?_
  rw [on_sub (by omega)]
  refine g_istore C #[.val (.ref s), .val (.int (Int32.ofNat i)), .val (.int (Int32.ofNat j)), .val (.int (Int32.ofNat cs.length)), .val (.int (Int32.ofNat (j - i)))] d_jdk_42_method_92_code_25 rfl ?_
  refine g_aloadN C d_jdk_42_method_92_code_27 rfl rfl ?_
  refine g_virtual C S0.1 w_132 w_133 (fun hZ => nf_sel hw w_135 hZ) w_135 w_134 (by decide) [] (ct_of hEL hw w_136 w_6 (rm_lat l Z a0 hw hEL s zc h0 n0 S0.2.1 Szc hzc)) all0 (by decide) 0 (by decide) rfl pd___Z rfl [] rfl (Nat.le_of_eq rfl) d_jdk_42_method_92_code_28 (by decide) (by decide) ?_
  intro v244 h244 Q244
  obtain ⟨rfl, e244⟩ := Q244
  replace e244 := e244.symm
  subst e244
  refine g_if_f C d_jdk_42_method_92_code_31 (XT.i0_eq_f (by decide)) ?_
  refine g_aloadN C d_jdk_42_method_92_code_34 rfl rfl ?_
  refine g_getfield C w_26 Via.refl S0.2.2.1 d_jdk_42_method_92_code_35 ?_
  refine g_iloadN C d_jdk_42_method_92_code_38 rfl ?_
  refine g_iload C d_jdk_42_method_92_code_39 rfl ?_
  refine g_static C w_230 w_231 w_11 w_232 (by decide) [(.ref t), (.int (Int32.ofNat i)), (.int (Int32.ofNat (j - i)))] (ct_of hEL hw w_232 w_11 (rm_nsg l Z a0 hw hEL t _ i j cs h0 n0 S0.2.2.2.1 hi0 hij hjl hc100 hcap S0.2.2.2.2.2)) all0 (by decide) 0 (by decide) rfl pd___BII_Ljava_lang_String_ rfl [] rfl (Nat.le_of_eq rfl) d_jdk_42_method_92_code_41 (by decide) (by decide) ?_
  intro v245 h245 Q245
  obtain ⟨a245, t245, k245, rfl, KC245, le245, lt245, S245⟩ := Q245
  refine g_goto C 57 d_jdk_42_method_92_code_44 (by decide) (by decide) ?_
  refine g_areturn C hEL (t := (.object "java/lang/String")) rfl rfl rfl d_jdk_42_method_92_code_57 (by decide) (by decide) ?_
  have K246 : Keep h0 h245 [] := (Keep.refl h0 []).trans KC245 all0
  exact ⟨a245, _, _, rfl, K246, le245, lt245, S245⟩
theorem d_prog_8_method_24_code_0 : decode prog_8_method_24_code 0 = .ok (.aload_n 0, 1) := by decide +kernel
theorem d_prog_8_method_24_code_1 : decode prog_8_method_24_code 1 = .ok (.ldc 84, 2) := by decide +kernel
theorem d_prog_8_method_24_code_3 : decode prog_8_method_24_code 3 = .ok (.invokestatic 86, 3) := by decide +kernel
theorem d_prog_8_method_24_code_6 : decode prog_8_method_24_code 6 = .ok (.pop, 1) := by decide +kernel
theorem d_prog_8_method_24_code_7 : decode prog_8_method_24_code 7 = .ok (.aload_n 0, 1) := by decide +kernel
theorem d_prog_8_method_24_code_8 : decode prog_8_method_24_code 8 = .ok (.invokevirtual 92, 3) := by decide +kernel
theorem d_prog_8_method_24_code_11 : decode prog_8_method_24_code 11 = .ok (.ifCond .ne 12, 3) := by decide +kernel
theorem d_prog_8_method_24_code_14 : decode prog_8_method_24_code 14 = .ok (.aload_n 0, 1) := by decide +kernel
theorem d_prog_8_method_24_code_15 : decode prog_8_method_24_code 15 = .ok (.bipush 125, 2) := by decide +kernel
theorem d_prog_8_method_24_code_17 : decode prog_8_method_24_code 17 = .ok (.invokevirtual 72, 3) := by decide +kernel
theorem d_prog_8_method_24_code_20 : decode prog_8_method_24_code 20 = .ok (.ifCond .lt 35, 3) := by decide +kernel
theorem d_prog_8_method_24_code_55 : decode prog_8_method_24_code 55 = .ok (.new 7, 3) := by decide +kernel
theorem d_prog_8_method_24_code_58 : decode prog_8_method_24_code 58 = .ok (.dup, 1) := by decide +kernel
theorem d_prog_8_method_24_code_59 : decode prog_8_method_24_code 59 = .ok (.invokespecial 9, 3) := by decide +kernel
theorem d_prog_8_method_24_code_62 : decode prog_8_method_24_code 62 = .ok (.ldc 105, 2) := by decide +kernel
theorem d_prog_8_method_24_code_64 : decode prog_8_method_24_code 64 = .ok (.invokevirtual 14, 3) := by decide +kernel
theorem d_prog_8_method_24_code_67 : decode prog_8_method_24_code 67 = .ok (.aload_n 0, 1) := by decide +kernel
theorem d_prog_8_method_24_code_68 : decode prog_8_method_24_code 68 = .ok (.invokevirtual 14, 3) := by decide +kernel
theorem d_prog_8_method_24_code_71 : decode prog_8_method_24_code 71 = .ok (.ldc 107, 2) := by decide +kernel
theorem d_prog_8_method_24_code_73 : decode prog_8_method_24_code 73 = .ok (.invokevirtual 14, 3) := by decide +kernel
theorem d_prog_8_method_24_code_76 : decode prog_8_method_24_code 76 = .ok (.invokevirtual 22, 3) := by decide +kernel
theorem d_prog_8_method_24_code_79 : decode prog_8_method_24_code 79 = .ok (.areturn, 1) := by decide +kernel
theorem pn_com_example_holdfast_holdfast_Keys : plainName "com/example/holdfast/holdfast/Keys" = true := by first | (simp [plainName, overriddenIn]; done) | decide +kernel
theorem pd___Ljava_lang_String_ : parseMethodDescriptor "()Ljava/lang/String;" = some ⟨[], some (.object "java/lang/String")⟩ := by decide +kernel
theorem pd___V : parseMethodDescriptor "()V" = some ⟨[], none⟩ := by decide +kernel
theorem pd__Ljava_lang_Object_Ljava_lang_String__Ljava_lang_Object_ : parseMethodDescriptor "(Ljava/lang/Object;Ljava/lang/String;)Ljava/lang/Object;" = some ⟨[(.object "java/lang/Object"), (.object "java/lang/String")], some (.object "java/lang/Object")⟩ := by decide +kernel
theorem pd__Ljava_lang_String__Ljava_lang_StringBuilder_ : parseMethodDescriptor "(Ljava/lang/String;)Ljava/lang/StringBuilder;" = some ⟨[(.object "java/lang/String")], some (.object "java/lang/StringBuilder")⟩ := by decide +kernel
theorem rm_hashTag (l : Launch) (Z : State) (a0 : Array Value) (hw : ∀ d ∈ tables_1, d.before a0 Z = true) (hEL : EW Z a0 consts_1) {ws : List Jvm.Cond} (s2 t2 : Addr) (k2 : ClassId) (nm : List Int32) (zc : Int32) (h0 : Heap) (n0 : Nat) (S2 : Str Z h0 s2 t2 k2 nm) (hn2 : nm.length ≤ 2) (hp : 0 < nm.length) (hno : ∀ x ∈ nm, x ≠ 125) (Szc : Sta Z h0 "java/lang/String" "COMPACT_STRINGS" "Z" (.int zc)) (hzc : ¬ (zc = (0 : Int32))) :
    Met l Z consts_1 (⟨"com/example/holdfast/holdfast/Keys", "hashTag", "(Ljava/lang/String;)Ljava/lang/String;"⟩ : MethodName) prog_8_method_24_code 1 (some (.object "java/lang/String")) ws ({ frames := 6, cells := 24, slots := 800, locals := 130 } : Room) [] #[(.ref s2)] h0 n0 (nq (fun v h => ∃ a t' k', v = some (.ref a) ∧ Keep h0 h [] ∧ h0.size ≤ a ∧ h0.size ≤ t' ∧ Str Z h a t' k' (tag nm))) := by
  refine met_of (plainFor_of_name pn_com_example_holdfast_holdfast_Keys) hw #[.val (.ref s2)] (fun m => by first | rfl | (simp [entryFrame, mkF, argsToLocals, Value.category]; done)) ?_
  intro p e s m below meth c C0
  have C : Cx Z a0 tables_1 p s m meth c "com/example/holdfast/holdfast/Keys" "hashTag" prog_8_method_24_code 1 (some (.object "java/lang/String")) n0 := C0
  refine g_aloadN C d_prog_8_method_24_code_0 rfl rfl ?_
  refine g_ldcS C hEL w_112 own_sA (mg (i := 13) rfl) [110, 97, 109, 101] ⟨by decide +kernel, by decide +kernel⟩ (by decide) (by decide) d_prog_8_method_24_code_1 16 (by decide +kernel) (by decide) (by decide) (by decide) ?_
  intro a247 t247 kb247 h247 E247 S247 X247
  refine g_static C w_113 w_114 w_115 w_116 (by decide) [(.ref s2), (.ref a247)] (ct_of hEL hw w_116 w_115 (rm_rnn l Z a0 hw hEL s2 a247 h247 n0 )) all0 (by decide) 0 (by decide) rfl pd__Ljava_lang_Object_Ljava_lang_String__Ljava_lang_Object_ rfl [] rfl (Nat.le_of_eq rfl) d_prog_8_method_24_code_3 (by decide) (by decide) ?_
  intro v248 h248 Q248
  obtain ⟨rfl, e248⟩ := Q248
  replace e248 := e248.symm
  subst e248
  refine g_pop C d_prog_8_method_24_code_6 rfl ?_
  refine g_aloadN C d_prog_8_method_24_code_7 rfl rfl ?_
  have K249 : Keep h0 h247 [] := (Keep.refl h0 []).ext E247
  have S250 := (S2.keep K249 nin0 nin0)
  have E252 := (S2.1.keep K249)
  refine g_virtual C E252 w_117 w_118 (fun hZ => nf_sel hw w_120 hZ) w_120 w_119 (by decide) [] (ct_of hEL hw w_121 w_6 (rm_ie l Z a0 hw hEL s2 t2 _ nm h247 n0 S250 hp (by omega))) all0 (by decide) 0 (by decide) rfl pd___Z rfl [] rfl (Nat.le_of_eq rfl) d_prog_8_method_24_code_8 (by decide) (by decide) ?_
  intro v251 h251 Q251
  obtain ⟨rfl, e251⟩ := Q251
  replace e251 := e251.symm
  subst e251
  refine g_if_f C d_prog_8_method_24_code_11 (XT.i0_ne_f (by decide)) ?_
  refine g_aloadN C d_prog_8_method_24_code_14 rfl rfl ?_
  refine g_bipush C 125 d_prog_8_method_24_code_15 rfl ?_
  refine g_virtual C E252 w_122 w_123 (fun hZ => nf_sel hw w_125 hZ) w_125 w_124 (by decide) [(.int (125 : Int32))] (ct_of hEL hw w_126 w_6 (rm_i1 l Z a0 hw hEL s2 t2 _ (125 : Int32) nm zc h247 n0 S250 (by first | omega | (simp only [List.length_append, List.length_cons, List.length_nil, tag]; omega)) (by first | omega | (simp only [List.length_append, List.length_cons, List.length_nil, tag]; omega)) (by unfold Ch8; decide) (Sta_keep Szc K249) hzc)) all0 (by decide) 0 (by decide) rfl pd__I_I rfl [] rfl (Nat.le_of_eq rfl) d_prog_8_method_24_code_17 (by decide) (by decide) ?_
  intro v253 h253 Q253
  obtain ⟨rfl, e253⟩ := Q253
  replace e253 := e253.symm
  subst e253
  refine g_if_t C 55 d_prog_8_method_24_code_20 (XT.i0_lt_t (idx_none S2.2.2.2.2.2 hno)) (by decide) (by decide) ?_
  refine g_new C w_40 w_41 w_42 d_prog_8_method_24_code_55 (by decide) (by decide) ?_
  intro b254 h254 g254 E254 A254 D254
  refine g_dup C d_prog_8_method_24_code_58 rfl ?_
  have K255 : Keep h0 h254 [] := K249.ext E254
  refine g_specialX C (a := b254) w_43 w_44 w_45 rfl (by decide) [] (ct_of hEL hw w_45 w_42 (rm_si l Z a0 hw hEL b254 zc h254 n0 A254 (D254 (Or.inl (C.hw w_55)) (ty := (.array .byte)) (by decide)) (D254 (Or.inl (C.hw w_57)) (ty := .byte) (by decide)) (D254 (Or.inl (C.hw w_83)) (ty := .int) (by decide)) (Sta_keep Szc K255) hzc)) (allS (mg (i := 0) rfl) all0) (by decide) 1 (by decide) rfl pd___V rfl [(.ref b254)] rfl (Nat.le_of_eq rfl) d_prog_8_method_24_code_59 (by decide) (by decide) ?_
  intro v256 h256 ns256 Q256
  obtain ⟨t256, kt256, rfl, rfl, KC256, le256, SB256⟩ := Q256
  refine g_ldcS C hEL w_154 own_sA (mg (i := 14) rfl) [123] ⟨by decide +kernel, by decide +kernel⟩ (by decide) (by decide) d_prog_8_method_24_code_62 4 (by decide +kernel) (by decide) (by decide) (by decide) ?_
  intro a257 t257 kb257 h257 E257 S257 X257
  have K259 : Keep h256 h257 [] := (Keep.refl h256 []).ext E257
  have E260 := (SB256.1.keep K259)
  have F261 := (SB256.2.1.keep K259 nin0)
  have F262 := (SB256.2.2.1.keep K259 nin0)
  have F263 := (SB256.2.2.2.1.keep K259 nin0)
  have V264 := (SB256.2.2.2.2.1.keep K259 nin0)
  have E265 := (SB256.2.2.2.2.2.2.2.2.keep K259)
  have K266 : Keep h0 h256 [] := K255.trans KC256 (allS (Or.inr (Nat.le_trans K249.1 (Nat.le_of_eq g254.symm))) all0)
  have K267 : Keep h0 h257 [] := K266.ext E257
  refine g_virtualX C E260 w_62 w_63 (fun hZ => nf_sel hw w_65 hZ) w_65 w_64 (by decide) [(.ref a257)] (ct_of hEL hw w_66 w_42 (rm_sa l Z a0 hw hEL b254 t256 a257 t257 _ _ 16 [] [123] zc h257 n0 ⟨E260, F261, F262, F263, V264, SB256.2.2.2.2.2.1, SB256.2.2.2.2.2.2.1, SB256.2.2.2.2.2.2.2.1, E265⟩ S257 (Ne.symm (X257 _ (mg (i := 1) rfl)).1) (Ne.symm (X257 _ (mg (i := 0) rfl)).1) (Ne.symm (X257 _ (mg (i := 1) rfl)).2) (Ne.symm (X257 _ (mg (i := 0) rfl)).2) (Nat.ne_of_lt (Nat.lt_of_lt_of_le A254.lt le256)) (by first | omega | (simp only [List.length_append, List.length_cons, List.length_nil, tag]; omega)) (Sta_keep Szc K267) hzc)) (allS (mg (i := 1) rfl) (allS (mg (i := 0) rfl) all0)) (by decide) 0 (by decide) rfl pd__Ljava_lang_String__Ljava_lang_StringBuilder_ rfl [] rfl (Nat.le_of_eq rfl) d_prog_8_method_24_code_64 (by decide) (by decide) ?_
  intro v258 h258 ns258 Q258
  obtain ⟨t'258, kt'258, cap'258, rfl, rfl, KC258, or258, SB258⟩ := Q258
  refine g_aloadN C d_prog_8_method_24_code_67 rfl rfl ?_
  have K269 : Keep h247 h254 [] := (Keep.refl h247 []).ext E254
  have K270 : Keep h247 h256 [] := K269.trans KC256 (allS (Or.inr (Nat.le_of_eq g254.symm)) all0)
  have K271 : Keep h247 h257 [] := K270.ext E257
  have E272 := (E252.keep K271)
  have E273 := (E252.keep K269)
  have S274 := (S250.keep K271 nin0 nin0)
  have S275 := (S250.keep K269 nin0 nin0)
  have K276 : Keep h247 h258 [] := K271.trans KC258 (allS (Or.inr (Nat.le_of_eq g254.symm)) (allS (Or.inr (Nat.le_trans K269.1 le256)) all0))
  have S277 := (S250.keep K276 nin0 nin0)
  have K278 : Keep h0 h258 [] := K267.trans KC258 (allS (Or.inr (Nat.le_trans K249.1 (Nat.le_of_eq g254.symm))) (allS (Or.inr (Nat.le_trans K255.1 le256)) all0))
  refine g_virtualX C SB258.1 w_62 w_63 (fun hZ => nf_sel hw w_65 hZ) w_65 w_64 (by decide) [(.ref s2)] (ct_of hEL hw w_66 w_42 (rm_sa l Z a0 hw hEL b254 t'258 s2 t2 _ _ cap'258 ([] ++ [123]) nm zc h258 n0 SB258 S277 (Nat.ne_of_lt (Nat.lt_of_lt_of_le E252.lt (Nat.le_of_eq g254.symm))) (own_alt or258 (Nat.ne_of_lt (Nat.lt_of_lt_of_le E273.lt le256)) E272.lt) (Nat.ne_of_lt (Nat.lt_of_lt_of_le S250.tlt (Nat.le_of_eq g254.symm))) (own_alt or258 (Nat.ne_of_lt (Nat.lt_of_lt_of_le S275.tlt le256)) S274.tlt) (own_alt or258 (Nat.ne_of_lt (Nat.lt_of_lt_of_le A254.lt le256)) E260.lt) (by first | omega | (simp only [List.length_append, List.length_cons, List.length_nil, tag]; omega)) (Sta_keep Szc K278) hzc)) (allS (mg (i := 2) rfl) (allS (mg (i := 0) rfl) all0)) (by decide) 0 (by decide) rfl pd__Ljava_lang_String__Ljava_lang_StringBuilder_ rfl [] rfl (Nat.le_of_eq rfl) d_prog_8_method_24_code_68 (by decide) (by decide) ?_
  intro v268 h268 ns268 Q268
  obtain ⟨t'268, kt'268, cap'268, rfl, rfl, KC268, or268, SB268⟩ := Q268
  refine g_ldcS C hEL w_155 own_sA (mg (i := 15) rfl) [125] ⟨by decide +kernel, by decide +kernel⟩ (by decide) (by decide) d_prog_8_method_24_code_71 4 (by decide +kernel) (by decide) (by decide) (by decide) ?_
  intro a279 t279 kb279 h279 E279 S279 X279
  have K281 : Keep h268 h279 [] := (Keep.refl h268 []).ext E279
  have E282 := (SB268.1.keep K281)
  have F283 := (SB268.2.1.keep K281 nin0)
  have F284 := (SB268.2.2.1.keep K281 nin0)
  have F285 := (SB268.2.2.2.1.keep K281 nin0)
  have V286 := (SB268.2.2.2.2.1.keep K281 nin0)
  have E287 := (SB268.2.2.2.2.2.2.2.2.keep K281)
  have K288 : Keep h0 h268 [] := K278.trans KC268 (allS (Or.inr (Nat.le_trans K249.1 (Nat.le_of_eq g254.symm))) (allS (Or.inr (own_alt_le or258 (Nat.le_trans K255.1 le256) K267.1)) all0))
  have K289 : Keep h0 h279 [] := K288.ext E279
  refine g_virtualX C E282 w_62 w_63 (fun hZ => nf_sel hw w_65 hZ) w_65 w_64 (by decide) [(.ref a279)] (ct_of hEL hw w_66 w_42 (rm_sa l Z a0 hw hEL b254 t'268 a279 t279 _ _ cap'268 (([] ++ [123]) ++ nm) [125] zc h279 n0 ⟨E282, F283, F284, F285, V286, SB268.2.2.2.2.2.1, SB268.2.2.2.2.2.2.1, SB268.2.2.2.2.2.2.2.1, E287⟩ S279 (Ne.symm (X279 _ (mg (i := 3) rfl)).1) (Ne.symm (X279 _ (mg (i := 0) rfl)).1) (Ne.symm (X279 _ (mg (i := 3) rfl)).2) (Ne.symm (X279 _ (mg (i := 0) rfl)).2) (own_alt or268 (own_alt or258 (Nat.ne_of_lt (Nat.lt_of_lt_of_le A254.lt le256)) E260.lt) SB258.1.lt) (by first | omega | (simp only [List.length_append, List.length_cons, List.length_nil, tag]; omega)) (Sta_keep Szc K289) hzc)) (allS (mg (i := 3) rfl) (allS (mg (i := 0) rfl) all0)) (by decide) 0 (by decide) rfl pd__Ljava_lang_String__Ljava_lang_StringBuilder_ rfl [] rfl (Nat.le_of_eq rfl) d_prog_8_method_24_code_73 (by decide) (by decide) ?_
  intro v280 h280 ns280 Q280
  obtain ⟨t'280, kt'280, cap'280, rfl, rfl, KC280, or280, SB280⟩ := Q280
  have K290 : Keep h0 h280 [] := K289.trans KC280 (allS (Or.inr (Nat.le_trans K249.1 (Nat.le_of_eq g254.symm))) (allS (Or.inr (own_alt_le or268 (own_alt_le or258 (Nat.le_trans K255.1 le256) K267.1) K278.1)) all0))
  refine g_virtual C SB280.1 w_156 w_157 (fun hZ => nf_sel hw w_159 hZ) w_159 w_158 (by decide) [] (ct_of hEL hw w_160 w_42 (rm_ts l Z a0 hw hEL b254 t'280 _ cap'280 ((([] ++ [123]) ++ nm) ++ [125]) zc h280 n0 SB280 (by first | omega | (simp only [List.length_append, List.length_cons, List.length_nil, tag]; omega)) (Sta_keep Szc K290) hzc)) all0 (by decide) 0 (by decide) rfl pd___Ljava_lang_String_ rfl [] rfl (Nat.le_of_eq rfl) d_prog_8_method_24_code_76 (by decide) (by decide) ?_
  intro v291 h291 Q291
  obtain ⟨a291, t291, k291, rfl, KC291, le291, lt291, S291⟩ := Q291
  refine g_areturn C hEL (t := (.object "java/lang/String")) rfl rfl rfl d_prog_8_method_24_code_79 (by decide) (by decide) ?_
  have K292 : Keep h0 h291 [] := K290.trans KC291 all0
  exact ⟨a291, _, _, rfl, K292, (Nat.le_trans K290.1 le291), (Nat.le_trans K290.1 lt291), S291⟩
theorem d_prog_8_method_2_code_0 : decode prog_8_method_2_code 0 = .ok (.new 7, 3) := by decide +kernel
theorem d_prog_8_method_2_code_3 : decode prog_8_method_2_code 3 = .ok (.dup, 1) := by decide +kernel
theorem d_prog_8_method_2_code_4 : decode prog_8_method_2_code 4 = .ok (.invokespecial 9, 3) := by decide +kernel
theorem d_prog_8_method_2_code_7 : decode prog_8_method_2_code 7 = .ok (.ldc 12, 2) := by decide +kernel
theorem d_prog_8_method_2_code_9 : decode prog_8_method_2_code 9 = .ok (.invokevirtual 14, 3) := by decide +kernel
theorem d_prog_8_method_2_code_12 : decode prog_8_method_2_code 12 = .ok (.aload_n 0, 1) := by decide +kernel
theorem d_prog_8_method_2_code_13 : decode prog_8_method_2_code 13 = .ok (.invokestatic 18, 3) := by decide +kernel
theorem d_prog_8_method_2_code_16 : decode prog_8_method_2_code 16 = .ok (.invokevirtual 14, 3) := by decide +kernel
theorem d_prog_8_method_2_code_19 : decode prog_8_method_2_code 19 = .ok (.invokevirtual 22, 3) := by decide +kernel
theorem d_prog_8_method_2_code_22 : decode prog_8_method_2_code 22 = .ok (.areturn, 1) := by decide +kernel
theorem pd__Ljava_lang_String__Ljava_lang_String_ : parseMethodDescriptor "(Ljava/lang/String;)Ljava/lang/String;" = some ⟨[(.object "java/lang/String")], some (.object "java/lang/String")⟩ := by decide +kernel
theorem rm_lock (l : Launch) (Z : State) (a0 : Array Value) (hw : ∀ d ∈ tables_1, d.before a0 Z = true) (hEL : EW Z a0 consts_1) {ws : List Jvm.Cond} (s2 t2 : Addr) (k2 : ClassId) (nm : List Int32) (zc : Int32) (h0 : Heap) (n0 : Nat) (S2 : Str Z h0 s2 t2 k2 nm) (hn2 : nm.length ≤ 2) (hp : 0 < nm.length) (hno : ∀ x ∈ nm, x ≠ 125) (Szc : Sta Z h0 "java/lang/String" "COMPACT_STRINGS" "Z" (.int zc)) (hzc : ¬ (zc = (0 : Int32))) :
    Met l Z consts_1 (⟨"com/example/holdfast/holdfast/Keys", "lock", "(Ljava/lang/String;)Ljava/lang/String;"⟩ : MethodName) prog_8_method_2_code 1 (some (.object "java/lang/String")) ws ({ frames := 7, cells := 40, slots := 1400, locals := 150 } : Room) [] #[(.ref s2)] h0 n0 (nq (fun v h => ∃ a t' k', v = some (.ref a) ∧ Keep h0 h [] ∧ h0.size ≤ a ∧ h0.size ≤ t' ∧ Str Z h a t' k' (([] ++ [104, 111, 108, 100, 102, 97, 115, 116, 58, 108, 111, 99, 107, 58]) ++ (tag nm)))) := by
  refine met_of (plainFor_of_name pn_com_example_holdfast_holdfast_Keys) hw #[.val (.ref s2)] (fun m => by first | rfl | (simp [entryFrame, mkF, argsToLocals, Value.category]; done)) ?_
  intro p e s m below meth c C0
  have C : Cx Z a0 tables_1 p s m meth c "com/example/holdfast/holdfast/Keys" "lock" prog_8_method_2_code 1 (some (.object "java/lang/String")) n0 := C0
  refine g_new C w_40 w_41 w_42 d_prog_8_method_2_code_0 (by decide) (by decide) ?_
  intro b293 h293 g293 E293 A293 D293
  refine g_dup C d_prog_8_method_2_code_3 rfl ?_
  have K294 : Keep h0 h293 [] := (Keep.refl h0 []).ext E293
  refine g_specialX C (a := b293) w_43 w_44 w_45 rfl (by decide) [] (ct_of hEL hw w_45 w_42 (rm_si l Z a0 hw hEL b293 zc h293 n0 A293 (D293 (Or.inl (C.hw w_55)) (ty := (.array .byte)) (by decide)) (D293 (Or.inl (C.hw w_57)) (ty := .byte) (by decide)) (D293 (Or.inl (C.hw w_83)) (ty := .int) (by decide)) (Sta_keep Szc K294) hzc)) (allS (mg (i := 0) rfl) all0) (by decide) 1 (by decide) rfl pd___V rfl [(.ref b293)] rfl (Nat.le_of_eq rfl) d_prog_8_method_2_code_4 (by decide) (by decide) ?_
  intro v295 h295 ns295 Q295
  obtain ⟨t295, kt295, rfl, rfl, KC295, le295, SB295⟩ := Q295
  refine g_ldcS C hEL w_61 own_sA (mg (i := 0) rfl) [104, 111, 108, 100, 102, 97, 115, 116, 58, 108, 111, 99, 107, 58] ⟨by decide +kernel, by decide +kernel⟩ (by decide) (by decide) d_prog_8_method_2_code_7 56 (by decide +kernel) (by decide) (by decide) (by decide) ?_
  intro a296 t296 kb296 h296 E296 S296 X296
  have K298 : Keep h295 h296 [] := (Keep.refl h295 []).ext E296
  have E299 := (SB295.1.keep K298)
  have F300 := (SB295.2.1.keep K298 nin0)
  have F301 := (SB295.2.2.1.keep K298 nin0)
  have F302 := (SB295.2.2.2.1.keep K298 nin0)
  have V303 := (SB295.2.2.2.2.1.keep K298 nin0)
  have E304 := (SB295.2.2.2.2.2.2.2.2.keep K298)
  have K305 : Keep h0 h295 [] := K294.trans KC295 (allS (Or.inr (Nat.le_of_eq g293.symm)) all0)
  have K306 : Keep h0 h296 [] := K305.ext E296
  refine g_virtualX C E299 w_62 w_63 (fun hZ => nf_sel hw w_65 hZ) w_65 w_64 (by decide) [(.ref a296)] (ct_of hEL hw w_66 w_42 (rm_sa l Z a0 hw hEL b293 t295 a296 t296 _ _ 16 [] [104, 111, 108, 100, 102, 97, 115, 116, 58, 108, 111, 99, 107, 58] zc h296 n0 ⟨E299, F300, F301, F302, V303, SB295.2.2.2.2.2.1, SB295.2.2.2.2.2.2.1, SB295.2.2.2.2.2.2.2.1, E304⟩ S296 (Ne.symm (X296 _ (mg (i := 1) rfl)).1) (Ne.symm (X296 _ (mg (i := 0) rfl)).1) (Ne.symm (X296 _ (mg (i := 1) rfl)).2) (Ne.symm (X296 _ (mg (i := 0) rfl)).2) (Nat.ne_of_lt (Nat.lt_of_lt_of_le A293.lt le295)) (by first | omega | (simp only [List.length_append, List.length_cons, List.length_nil, tag]; omega)) (Sta_keep Szc K306) hzc)) (allS (mg (i := 1) rfl) (allS (mg (i := 0) rfl) all0)) (by decide) 0 (by decide) rfl pd__Ljava_lang_String__Ljava_lang_StringBuilder_ rfl [] rfl (Nat.le_of_eq rfl) d_prog_8_method_2_code_9 (by decide) (by decide) ?_
  intro v297 h297 ns297 Q297
  obtain ⟨t'297, kt'297, cap'297, rfl, rfl, KC297, or297, SB297⟩ := Q297
  refine g_aloadN C d_prog_8_method_2_code_12 rfl rfl ?_
  have K307 : Keep h0 h297 [] := K306.trans KC297 (allS (Or.inr (Nat.le_of_eq g293.symm)) (allS (Or.inr (Nat.le_trans K294.1 le295)) all0))
  have S308 := (S2.keep K307 nin0 nin0)
  refine g_static C w_109 w_110 w_38 w_111 (by decide) [(.ref s2)] (ct_of hEL hw w_111 w_38 (rm_hashTag l Z a0 hw hEL s2 t2 _ nm zc h297 n0 S308 hn2 hp hno (Sta_keep Szc K307) hzc)) all0 (by decide) 1 (by decide) rfl pd__Ljava_lang_String__Ljava_lang_String_ rfl [(.ref b293)] rfl (Nat.le_of_eq rfl) d_prog_8_method_2_code_13 (by decide) (by decide) ?_
  intro v309 h309 Q309
  obtain ⟨a309, t309, k309, rfl, KC309, le309, lt309, S309⟩ := Q309
  have K311 : Keep h297 h309 [] := (Keep.refl h297 []).trans KC309 all0
  have E312 := (SB297.1.keep K311)
  have F313 := (SB297.2.1.keep K311 nin0)
  have F314 := (SB297.2.2.1.keep K311 nin0)
  have F315 := (SB297.2.2.2.1.keep K311 nin0)
  have V316 := (SB297.2.2.2.2.1.keep K311 nin0)
  have E317 := (SB297.2.2.2.2.2.2.2.2.keep K311)
  have K318 : Keep h0 h309 [] := K307.trans KC309 all0
  refine g_virtualX C E312 w_62 w_63 (fun hZ => nf_sel hw w_65 hZ) w_65 w_64 (by decide) [(.ref a309)] (ct_of hEL hw w_66 w_42 (rm_sa l Z a0 hw hEL b293 t'297 a309 t309 _ _ cap'297 ([] ++ [104, 111, 108, 100, 102, 97, 115, 116, 58, 108, 111, 99, 107, 58]) (tag nm) zc h309 n0 ⟨E312, F313, F314, F315, V316, SB297.2.2.2.2.2.1, SB297.2.2.2.2.2.2.1, SB297.2.2.2.2.2.2.2.1, E317⟩ S309 (Ne.symm (Nat.ne_of_lt (Nat.lt_of_lt_of_le SB297.1.lt le309))) (Ne.symm (Nat.ne_of_lt (Nat.lt_of_lt_of_le SB297.2.2.2.2.1.lt le309))) (Ne.symm (Nat.ne_of_lt (Nat.lt_of_lt_of_le SB297.1.lt lt309))) (Ne.symm (Nat.ne_of_lt (Nat.lt_of_lt_of_le SB297.2.2.2.2.1.lt lt309))) (own_alt or297 (Nat.ne_of_lt (Nat.lt_of_lt_of_le A293.lt le295)) E299.lt) (by first | omega | (simp only [List.length_append, List.length_cons, List.length_nil, tag]; omega)) (Sta_keep Szc K318) hzc)) (allS (mg (i := 2) rfl) (allS (mg (i := 0) rfl) all0)) (by decide) 0 (by decide) rfl pd__Ljava_lang_String__Ljava_lang_StringBuilder_ rfl [] rfl (Nat.le_of_eq rfl) d_prog_8_method_2_code_16 (by decide) (by decide) ?_
  intro v310 h310 ns310 Q310
  obtain ⟨t'310, kt'310, cap'310, rfl, rfl, KC310, or310, SB310⟩ := Q310
  have K319 : Keep h0 h310 [] := K318.trans KC310 (allS (Or.inr (Nat.le_of_eq g293.symm)) (allS (Or.inr (own_alt_le or297 (Nat.le_trans K294.1 le295) K306.1)) all0))
  refine g_virtual C SB310.1 w_156 w_157 (fun hZ => nf_sel hw w_159 hZ) w_159 w_158 (by decide) [] (ct_of hEL hw w_160 w_42 (rm_ts l Z a0 hw hEL b293 t'310 _ cap'310 (([] ++ [104, 111, 108, 100, 102, 97, 115, 116, 58, 108, 111, 99, 107, 58]) ++ (tag nm)) zc h310 n0 SB310 (by first | omega | (simp only [List.length_append, List.length_cons, List.length_nil, tag]; omega)) (Sta_keep Szc K319) hzc)) all0 (by decide) 0 (by decide) rfl pd___Ljava_lang_String_ rfl [] rfl (Nat.le_of_eq rfl) d_prog_8_method_2_code_19 (by decide) (by decide) ?_
  intro v320 h320 Q320
  obtain ⟨a320, t320, k320, rfl, KC320, le320, lt320, S320⟩ := Q320
  refine g_areturn C hEL (t := (.object "java/lang/String")) rfl rfl rfl d_prog_8_method_2_code_22 (by decide) (by decide) ?_
  have K321 : Keep h0 h320 [] := K319.trans KC320 all0
  exact ⟨a320, _, _, rfl, K321, (Nat.le_trans K319.1 le320), (Nat.le_trans K319.1 lt320), S320⟩
theorem d_prog_8_method_5_code_0 : decode prog_8_method_5_code 0 = .ok (.new 7, 3) := by decide +kernel
theorem d_prog_8_method_5_code_3 : decode prog_8_method_5_code 3 = .ok (.dup, 1) := by decide +kernel
theorem d_prog_8_method_5_code_4 : decode prog_8_method_5_code 4 = .ok (.invokespecial 9, 3) := by decide +kernel
theorem d_prog_8_method_5_code_7 : decode prog_8_method_5_code 7 = .ok (.ldc 33, 2) := by decide +kernel
theorem d_prog_8_method_5_code_9 : decode prog_8_method_5_code 9 = .ok (.invokevirtual 14, 3) := by decide +kernel
theorem d_prog_8_method_5_code_12 : decode prog_8_method_5_code 12 = .ok (.aload_n 0, 1) := by decide +kernel
theorem d_prog_8_method_5_code_13 : decode prog_8_method_5_code 13 = .ok (.invokestatic 18, 3) := by decide +kernel
theorem d_prog_8_method_5_code_16 : decode prog_8_method_5_code 16 = .ok (.invokevirtual 14, 3) := by decide +kernel
theorem d_prog_8_method_5_code_19 : decode prog_8_method_5_code 19 = .ok (.invokevirtual 22, 3) := by decide +kernel
theorem d_prog_8_method_5_code_22 : decode prog_8_method_5_code 22 = .ok (.areturn, 1) := by decide +kernel
theorem rm_fairLock (l : Launch) (Z : State) (a0 : Array Value) (hw : ∀ d ∈ tables_1, d.before a0 Z = true) (hEL : EW Z a0 consts_1) {ws : List Jvm.Cond} (s2 t2 : Addr) (k2 : ClassId) (nm : List Int32) (zc : Int32) (h0 : Heap) (n0 : Nat) (S2 : Str Z h0 s2 t2 k2 nm) (hn2 : nm.length ≤ 2) (hp : 0 < nm.length) (hno : ∀ x ∈ nm, x ≠ 125) (Szc : Sta Z h0 "java/lang/String" "COMPACT_STRINGS" "Z" (.int zc)) (hzc : ¬ (zc = (0 : Int32))) :
    Met l Z consts_1 (⟨"com/example/holdfast/holdfast/Keys", "fairLock", "(Ljava/lang/String;)Ljava/lang/String;"⟩ : MethodName) prog_8_method_5_code 1 (some (.object "java/lang/String")) ws ({ frames := 7, cells := 40, slots := 1400, locals := 150 } : Room) [] #[(.ref s2)] h0 n0 (nq (fun v h => ∃ a t' k', v = some (.ref a) ∧ Keep h0 h [] ∧ h0.size ≤ a ∧ h0.size ≤ t' ∧ Str Z h a t' k' (([] ++ [104, 111, 108, 100, 102, 97, 115, 116, 58, 102, 97, 105, 114, 108, 111, 99, 107, 58]) ++ (tag nm)))) := by
  refine met_of (plainFor_of_name pn_com_example_holdfast_holdfast_Keys) hw #[.val (.ref s2)] (fun m => by first | rfl | (simp [entryFrame, mkF, argsToLocals, Value.category]; done)) ?_
  intro p e s m below meth c C0
  have C : Cx Z a0 tables_1 p s m meth c "com/example/holdfast/holdfast/Keys" "fairLock" prog_8_method_5_code 1 (some (.object "java/lang/String")) n0 := C0
  refine g_new C w_40 w_41 w_42 d_prog_8_method_5_code_0 (by decide) (by decide) ?_
  intro b322 h322 g322 E322 A322 D322
  refine g_dup C d_prog_8_method_5_code_3 rfl ?_
  have K323 : Keep h0 h322 [] := (Keep.refl h0 []).ext E322
  refine g_specialX C (a := b322) w_43 w_44 w_45 rfl (by decide) [] (ct_of hEL hw w_45 w_42 (rm_si l Z a0 hw hEL b322 zc h322 n0 A322 (D322 (Or.inl (C.hw w_55)) (ty := (.array .byte)) (by decide)) (D322 (Or.inl (C.hw w_57)) (ty := .byte) (by decide)) (D322 (Or.inl (C.hw w_83)) (ty := .int) (by decide)) (Sta_keep Szc K323) hzc)) (allS (mg (i := 0) rfl) all0) (by decide) 1 (by decide) rfl pd___V rfl [(.ref b322)] rfl (Nat.le_of_eq rfl) d_prog_8_method_5_code_4 (by decide) (by decide) ?_
  intro v324 h324 ns324 Q324
  obtain ⟨t324, kt324, rfl, rfl, KC324, le324, SB324⟩ := Q324
  refine g_ldcS C hEL w_286 own_sA (mg (i := 3) rfl) [104, 111, 108, 100, 102, 97, 115, 116, 58, 102, 97, 105, 114, 108, 111, 99, 107, 58] ⟨by decide +kernel, by decide +kernel⟩ (by decide) (by decide) d_prog_8_method_5_code_7 72 (by decide +kernel) (by decide) (by decide) (by decide) ?_
  intro a325 t325 kb325 h325 E325 S325 X325
  have K327 : Keep h324 h325 [] := (Keep.refl h324 []).ext E325
  have E328 := (SB324.1.keep K327)
  have F329 := (SB324.2.1.keep K327 nin0)
  have F330 := (SB324.2.2.1.keep K327 nin0)
  have F331 := (SB324.2.2.2.1.keep K327 nin0)
  have V332 := (SB324.2.2.2.2.1.keep K327 nin0)
  have E333 := (SB324.2.2.2.2.2.2.2.2.keep K327)
  have K334 : Keep h0 h324 [] := K323.trans KC324 (allS (Or.inr (Nat.le_of_eq g322.symm)) all0)
  have K335 : Keep h0 h325 [] := K334.ext E325
  refine g_virtualX C E328 w_62 w_63 (fun hZ => nf_sel hw w_65 hZ) w_65 w_64 (by decide) [(.ref a325)] (ct_of hEL hw w_66 w_42 (rm_sa l Z a0 hw hEL b322 t324 a325 t325 _ _ 16 [] [104, 111, 108, 100, 102, 97, 115, 116, 58, 102, 97, 105, 114, 108, 111, 99, 107, 58] zc h325 n0 ⟨E328, F329, F330, F331, V332, SB324.2.2.2.2.2.1, SB324.2.2.2.2.2.2.1, SB324.2.2.2.2.2.2.2.1, E333⟩ S325 (Ne.symm (X325 _ (mg (i := 1) rfl)).1) (Ne.symm (X325 _ (mg (i := 0) rfl)).1) (Ne.symm (X325 _ (mg (i := 1) rfl)).2) (Ne.symm (X325 _ (mg (i := 0) rfl)).2) (Nat.ne_of_lt (Nat.lt_of_lt_of_le A322.lt le324)) (by first | omega | (simp only [List.length_append, List.length_cons, List.length_nil, tag]; omega)) (Sta_keep Szc K335) hzc)) (allS (mg (i := 1) rfl) (allS (mg (i := 0) rfl) all0)) (by decide) 0 (by decide) rfl pd__Ljava_lang_String__Ljava_lang_StringBuilder_ rfl [] rfl (Nat.le_of_eq rfl) d_prog_8_method_5_code_9 (by decide) (by decide) ?_
  intro v326 h326 ns326 Q326
  obtain ⟨t'326, kt'326, cap'326, rfl, rfl, KC326, or326, SB326⟩ := Q326
  refine g_aloadN C d_prog_8_method_5_code_12 rfl rfl ?_
  have K336 : Keep h0 h326 [] := K335.trans KC326 (allS (Or.inr (Nat.le_of_eq g322.symm)) (allS (Or.inr (Nat.le_trans K323.1 le324)) all0))
  have S337 := (S2.keep K336 nin0 nin0)
  refine g_static C w_109 w_110 w_38 w_111 (by decide) [(.ref s2)] (ct_of hEL hw w_111 w_38 (rm_hashTag l Z a0 hw hEL s2 t2 _ nm zc h326 n0 S337 hn2 hp hno (Sta_keep Szc K336) hzc)) all0 (by decide) 1 (by decide) rfl pd__Ljava_lang_String__Ljava_lang_String_ rfl [(.ref b322)] rfl (Nat.le_of_eq rfl) d_prog_8_method_5_code_13 (by decide) (by decide) ?_
  intro v338 h338 Q338
  obtain ⟨a338, t338, k338, rfl, KC338, le338, lt338, S338⟩ := Q338
  have K340 : Keep h326 h338 [] := (Keep.refl h326 []).trans KC338 all0
  have E341 := (SB326.1.keep K340)
  have F342 := (SB326.2.1.keep K340 nin0)
  have F343 := (SB326.2.2.1.keep K340 nin0)
  have F344 := (SB326.2.2.2.1.keep K340 nin0)
  have V345 := (SB326.2.2.2.2.1.keep K340 nin0)
  have E346 := (SB326.2.2.2.2.2.2.2.2.keep K340)
  have K347 : Keep h0 h338 [] := K336.trans KC338 all0
  refine g_virtualX C E341 w_62 w_63 (fun hZ => nf_sel hw w_65 hZ) w_65 w_64 (by decide) [(.ref a338)] (ct_of hEL hw w_66 w_42 (rm_sa l Z a0 hw hEL b322 t'326 a338 t338 _ _ cap'326 ([] ++ [104, 111, 108, 100, 102, 97, 115, 116, 58, 102, 97, 105, 114, 108, 111, 99, 107, 58]) (tag nm) zc h338 n0 ⟨E341, F342, F343, F344, V345, SB326.2.2.2.2.2.1, SB326.2.2.2.2.2.2.1, SB326.2.2.2.2.2.2.2.1, E346⟩ S338 (Ne.symm (Nat.ne_of_lt (Nat.lt_of_lt_of_le SB326.1.lt le338))) (Ne.symm (Nat.ne_of_lt (Nat.lt_of_lt_of_le SB326.2.2.2.2.1.lt le338))) (Ne.symm (Nat.ne_of_lt (Nat.lt_of_lt_of_le SB326.1.lt lt338))) (Ne.symm (Nat.ne_of_lt (Nat.lt_of_lt_of_le SB326.2.2.2.2.1.lt lt338))) (own_alt or326 (Nat.ne_of_lt (Nat.lt_of_lt_of_le A322.lt le324)) E328.lt) (by first | omega | (simp only [List.length_append, List.length_cons, List.length_nil, tag]; omega)) (Sta_keep Szc K347) hzc)) (allS (mg (i := 2) rfl) (allS (mg (i := 0) rfl) all0)) (by decide) 0 (by decide) rfl pd__Ljava_lang_String__Ljava_lang_StringBuilder_ rfl [] rfl (Nat.le_of_eq rfl) d_prog_8_method_5_code_16 (by decide) (by decide) ?_
  intro v339 h339 ns339 Q339
  obtain ⟨t'339, kt'339, cap'339, rfl, rfl, KC339, or339, SB339⟩ := Q339
  have K348 : Keep h0 h339 [] := K347.trans KC339 (allS (Or.inr (Nat.le_of_eq g322.symm)) (allS (Or.inr (own_alt_le or326 (Nat.le_trans K323.1 le324) K335.1)) all0))
  refine g_virtual C SB339.1 w_156 w_157 (fun hZ => nf_sel hw w_159 hZ) w_159 w_158 (by decide) [] (ct_of hEL hw w_160 w_42 (rm_ts l Z a0 hw hEL b322 t'339 _ cap'339 (([] ++ [104, 111, 108, 100, 102, 97, 115, 116, 58, 102, 97, 105, 114, 108, 111, 99, 107, 58]) ++ (tag nm)) zc h339 n0 SB339 (by first | omega | (simp only [List.length_append, List.length_cons, List.length_nil, tag]; omega)) (Sta_keep Szc K348) hzc)) all0 (by decide) 0 (by decide) rfl pd___Ljava_lang_String_ rfl [] rfl (Nat.le_of_eq rfl) d_prog_8_method_5_code_19 (by decide) (by decide) ?_
  intro v349 h349 Q349
  obtain ⟨a349, t349, k349, rfl, KC349, le349, lt349, S349⟩ := Q349
  refine g_areturn C hEL (t := (.object "java/lang/String")) rfl rfl rfl d_prog_8_method_5_code_22 (by decide) (by decide) ?_
  have K350 : Keep h0 h349 [] := K348.trans KC349 all0
  exact ⟨a349, _, _, rfl, K350, (Nat.le_trans K348.1 le349), (Nat.le_trans K348.1 lt349), S349⟩
theorem d_prog_8_method_19_code_0 : decode prog_8_method_19_code 0 = .ok (.new 7, 3) := by decide +kernel
theorem d_prog_8_method_19_code_3 : decode prog_8_method_19_code 3 = .ok (.dup, 1) := by decide +kernel
theorem d_prog_8_method_19_code_4 : decode prog_8_method_19_code 4 = .ok (.invokespecial 9, 3) := by decide +kernel
theorem d_prog_8_method_19_code_7 : decode prog_8_method_19_code 7 = .ok (.ldc 63, 2) := by decide +kernel
theorem d_prog_8_method_19_code_9 : decode prog_8_method_19_code 9 = .ok (.invokevirtual 14, 3) := by decide +kernel
theorem d_prog_8_method_19_code_12 : decode prog_8_method_19_code 12 = .ok (.aload_n 0, 1) := by decide +kernel
theorem d_prog_8_method_19_code_13 : decode prog_8_method_19_code 13 = .ok (.invokestatic 18, 3) := by decide +kernel
theorem d_prog_8_method_19_code_16 : decode prog_8_method_19_code 16 = .ok (.invokevirtual 14, 3) := by decide +kernel
theorem d_prog_8_method_19_code_19 : decode prog_8_method_19_code 19 = .ok (.invokevirtual 22, 3) := by decide +kernel
theorem d_prog_8_method_19_code_22 : decode prog_8_method_19_code 22 = .ok (.areturn, 1) := by decide +kernel
theorem rm_readWriteLock (l : Launch) (Z : State) (a0 : Array Value) (hw : ∀ d ∈ tables_1, d.before a0 Z = true) (hEL : EW Z a0 consts_1) {ws : List Jvm.Cond} (s2 t2 : Addr) (k2 : ClassId) (nm : List Int32) (zc : Int32) (h0 : Heap) (n0 : Nat) (S2 : Str Z h0 s2 t2 k2 nm) (hn2 : nm.length ≤ 2) (hp : 0 < nm.length) (hno : ∀ x ∈ nm, x ≠ 125) (Szc : Sta Z h0 "java/lang/String" "COMPACT_STRINGS" "Z" (.int zc)) (hzc : ¬ (zc = (0 : Int32))) :
    Met l Z consts_1 (⟨"com/example/holdfast/holdfast/Keys", "readWriteLock", "(Ljava/lang/String;)Ljava/lang/String;"⟩ : MethodName) prog_8_method_19_code 1 (some (.object "java/lang/String")) ws ({ frames := 7, cells := 40, slots := 1400, locals := 150 } : Room) [] #[(.ref s2)] h0 n0 (nq (fun v h => ∃ a t' k', v = some (.ref a) ∧ Keep h0 h [] ∧ h0.size ≤ a ∧ h0.size ≤ t' ∧ Str Z h a t' k' (([] ++ [104, 111, 108, 100, 102, 97, 115, 116, 58, 114, 119, 108, 111, 99, 107, 58]) ++ (tag nm)))) := by
  refine met_of (plainFor_of_name pn_com_example_holdfast_holdfast_Keys) hw #[.val (.ref s2)] (fun m => by first | rfl | (simp [entryFrame, mkF, argsToLocals, Value.category]; done)) ?_
  intro p e s m below meth c C0
  have C : Cx Z a0 tables_1 p s m meth c "com/example/holdfast/holdfast/Keys" "readWriteLock" prog_8_method_19_code 1 (some (.object "java/lang/String")) n0 := C0
  refine g_new C w_40 w_41 w_42 d_prog_8_method_19_code_0 (by decide) (by decide) ?_
  intro b351 h351 g351 E351 A351 D351
  refine g_dup C d_prog_8_method_19_code_3 rfl ?_
  have K352 : Keep h0 h351 [] := (Keep.refl h0 []).ext E351
  refine g_specialX C (a := b351) w_43 w_44 w_45 rfl (by decide) [] (ct_of hEL hw w_45 w_42 (rm_si l Z a0 hw hEL b351 zc h351 n0 A351 (D351 (Or.inl (C.hw w_55)) (ty := (.array .byte)) (by decide)) (D351 (Or.inl (C.hw w_57)) (ty := .byte) (by decide)) (D351 (Or.inl (C.hw w_83)) (ty := .int) (by decide)) (Sta_keep Szc K352) hzc)) (allS (mg (i := 0) rfl) all0) (by decide) 1 (by decide) rfl pd___V rfl [(.ref b351)] rfl (Nat.le_of_eq rfl) d_prog_8_method_19_code_4 (by decide) (by decide) ?_
  intro v353 h353 ns353 Q353
  obtain ⟨t353, kt353, rfl, rfl, KC353, le353, SB353⟩ := Q353
  refine g_ldcS C hEL w_297 own_sA (mg (i := 9) rfl) [104, 111, 108, 100, 102, 97, 115, 116, 58, 114, 119, 108, 111, 99, 107, 58] ⟨by decide +kernel, by decide +kernel⟩ (by decide) (by decide) d_prog_8_method_19_code_7 64 (by decide +kernel) (by decide) (by decide) (by decide) ?_
  intro a354 t354 kb354 h354 E354 S354 X354
  have K356 : Keep h353 h354 [] := (Keep.refl h353 []).ext E354
  have E357 := (SB353.1.keep K356)
  have F358 := (SB353.2.1.keep K356 nin0)
  have F359 := (SB353.2.2.1.keep K356 nin0)
  have F360 := (SB353.2.2.2.1.keep K356 nin0)
  have V361 := (SB353.2.2.2.2.1.keep K356 nin0)
  have E362 := (SB353.2.2.2.2.2.2.2.2.keep K356)
  have K363 : Keep h0 h353 [] := K352.trans KC353 (allS (Or.inr (Nat.le_of_eq g351.symm)) all0)
  have K364 : Keep h0 h354 [] := K363.ext E354
  refine g_virtualX C E357 w_62 w_63 (fun hZ => nf_sel hw w_65 hZ) w_65 w_64 (by decide) [(.ref a354)] (ct_of hEL hw w_66 w_42 (rm_sa l Z a0 hw hEL b351 t353 a354 t354 _ _ 16 [] [104, 111, 108, 100, 102, 97, 115, 116, 58, 114, 119, 108, 111, 99, 107, 58] zc h354 n0 ⟨E357, F358, F359, F360, V361, SB353.2.2.2.2.2.1, SB353.2.2.2.2.2.2.1, SB353.2.2.2.2.2.2.2.1, E362⟩ S354 (Ne.symm (X354 _ (mg (i := 1) rfl)).1) (Ne.symm (X354 _ (mg (i := 0) rfl)).1) (Ne.symm (X354 _ (mg (i := 1) rfl)).2) (Ne.symm (X354 _ (mg (i := 0) rfl)).2) (Nat.ne_of_lt (Nat.lt_of_lt_of_le A351.lt le353)) (by first | omega | (simp only [List.length_append, List.length_cons, List.length_nil, tag]; omega)) (Sta_keep Szc K364) hzc)) (allS (mg (i := 1) rfl) (allS (mg (i := 0) rfl) all0)) (by decide) 0 (by decide) rfl pd__Ljava_lang_String__Ljava_lang_StringBuilder_ rfl [] rfl (Nat.le_of_eq rfl) d_prog_8_method_19_code_9 (by decide) (by decide) ?_
  intro v355 h355 ns355 Q355
  obtain ⟨t'355, kt'355, cap'355, rfl, rfl, KC355, or355, SB355⟩ := Q355
  refine g_aloadN C d_prog_8_method_19_code_12 rfl rfl ?_
  have K365 : Keep h0 h355 [] := K364.trans KC355 (allS (Or.inr (Nat.le_of_eq g351.symm)) (allS (Or.inr (Nat.le_trans K352.1 le353)) all0))
  have S366 := (S2.keep K365 nin0 nin0)
  refine g_static C w_109 w_110 w_38 w_111 (by decide) [(.ref s2)] (ct_of hEL hw w_111 w_38 (rm_hashTag l Z a0 hw hEL s2 t2 _ nm zc h355 n0 S366 hn2 hp hno (Sta_keep Szc K365) hzc)) all0 (by decide) 1 (by decide) rfl pd__Ljava_lang_String__Ljava_lang_String_ rfl [(.ref b351)] rfl (Nat.le_of_eq rfl) d_prog_8_method_19_code_13 (by decide) (by decide) ?_
  intro v367 h367 Q367
  obtain ⟨a367, t367, k367, rfl, KC367, le367, lt367, S367⟩ := Q367
  have K369 : Keep h355 h367 [] := (Keep.refl h355 []).trans KC367 all0
  have E370 := (SB355.1.keep K369)
  have F371 := (SB355.2.1.keep K369 nin0)
  have F372 := (SB355.2.2.1.keep K369 nin0)
  have F373 := (SB355.2.2.2.1.keep K369 nin0)
  have V374 := (SB355.2.2.2.2.1.keep K369 nin0)
  have E375 := (SB355.2.2.2.2.2.2.2.2.keep K369)
  have K376 : Keep h0 h367 [] := K365.trans KC367 all0
  refine g_virtualX C E370 w_62 w_63 (fun hZ => nf_sel hw w_65 hZ) w_65 w_64 (by decide) [(.ref a367)] (ct_of hEL hw w_66 w_42 (rm_sa l Z a0 hw hEL b351 t'355 a367 t367 _ _ cap'355 ([] ++ [104, 111, 108, 100, 102, 97, 115, 116, 58, 114, 119, 108, 111, 99, 107, 58]) (tag nm) zc h367 n0 ⟨E370, F371, F372, F373, V374, SB355.2.2.2.2.2.1, SB355.2.2.2.2.2.2.1, SB355.2.2.2.2.2.2.2.1, E375⟩ S367 (Ne.symm (Nat.ne_of_lt (Nat.lt_of_lt_of_le SB355.1.lt le367))) (Ne.symm (Nat.ne_of_lt (Nat.lt_of_lt_of_le SB355.2.2.2.2.1.lt le367))) (Ne.symm (Nat.ne_of_lt (Nat.lt_of_lt_of_le SB355.1.lt lt367))) (Ne.symm (Nat.ne_of_lt (Nat.lt_of_lt_of_le SB355.2.2.2.2.1.lt lt367))) (own_alt or355 (Nat.ne_of_lt (Nat.lt_of_lt_of_le A351.lt le353)) E357.lt) (by first | omega | (simp only [List.length_append, List.length_cons, List.length_nil, tag]; omega)) (Sta_keep Szc K376) hzc)) (allS (mg (i := 2) rfl) (allS (mg (i := 0) rfl) all0)) (by decide) 0 (by decide) rfl pd__Ljava_lang_String__Ljava_lang_StringBuilder_ rfl [] rfl (Nat.le_of_eq rfl) d_prog_8_method_19_code_16 (by decide) (by decide) ?_
  intro v368 h368 ns368 Q368
  obtain ⟨t'368, kt'368, cap'368, rfl, rfl, KC368, or368, SB368⟩ := Q368
  have K377 : Keep h0 h368 [] := K376.trans KC368 (allS (Or.inr (Nat.le_of_eq g351.symm)) (allS (Or.inr (own_alt_le or355 (Nat.le_trans K352.1 le353) K364.1)) all0))
  refine g_virtual C SB368.1 w_156 w_157 (fun hZ => nf_sel hw w_159 hZ) w_159 w_158 (by decide) [] (ct_of hEL hw w_160 w_42 (rm_ts l Z a0 hw hEL b351 t'368 _ cap'368 (([] ++ [104, 111, 108, 100, 102, 97, 115, 116, 58, 114, 119, 108, 111, 99, 107, 58]) ++ (tag nm)) zc h368 n0 SB368 (by first | omega | (simp only [List.length_append, List.length_cons, List.length_nil, tag]; omega)) (Sta_keep Szc K377) hzc)) all0 (by decide) 0 (by decide) rfl pd___Ljava_lang_String_ rfl [] rfl (Nat.le_of_eq rfl) d_prog_8_method_19_code_19 (by decide) (by decide) ?_
  intro v378 h378 Q378
  obtain ⟨a378, t378, k378, rfl, KC378, le378, lt378, S378⟩ := Q378
  refine g_areturn C hEL (t := (.object "java/lang/String")) rfl rfl rfl d_prog_8_method_19_code_22 (by decide) (by decide) ?_
  have K379 : Keep h0 h378 [] := K377.trans KC378 all0
  exact ⟨a378, _, _, rfl, K379, (Nat.le_trans K377.1 le378), (Nat.le_trans K377.1 lt378), S378⟩
theorem d_prog_8_method_20_code_0 : decode prog_8_method_20_code 0 = .ok (.new 7, 3) := by decide +kernel
theorem d_prog_8_method_20_code_3 : decode prog_8_method_20_code 3 = .ok (.dup, 1) := by decide +kernel
theorem d_prog_8_method_20_code_4 : decode prog_8_method_20_code 4 = .ok (.invokespecial 9, 3) := by decide +kernel
theorem d_prog_8_method_20_code_7 : decode prog_8_method_20_code 7 = .ok (.ldc 65, 2) := by decide +kernel
theorem d_prog_8_method_20_code_9 : decode prog_8_method_20_code 9 = .ok (.invokevirtual 14, 3) := by decide +kernel
theorem d_prog_8_method_20_code_12 : decode prog_8_method_20_code 12 = .ok (.aload_n 0, 1) := by decide +kernel
theorem d_prog_8_method_20_code_13 : decode prog_8_method_20_code 13 = .ok (.invokestatic 18, 3) := by decide +kernel
theorem d_prog_8_method_20_code_16 : decode prog_8_method_20_code 16 = .ok (.invokevirtual 14, 3) := by decide +kernel
theorem d_prog_8_method_20_code_19 : decode prog_8_method_20_code 19 = .ok (.invokevirtual 22, 3) := by decide +kernel
theorem d_prog_8_method_20_code_22 : decode prog_8_method_20_code 22 = .ok (.areturn, 1) := by decide +kernel
theorem rm_semaphore (l : Launch) (Z : State) (a0 : Array Value) (hw : ∀ d ∈ tables_1, d.before a0 Z = true) (hEL : EW Z a0 consts_1) {ws : List Jvm.Cond} (s2 t2 : Addr) (k2 : ClassId) (nm : List Int32) (zc : Int32) (h0 : Heap) (n0 : Nat) (S2 : Str Z h0 s2 t2 k2 nm) (hn2 : nm.length ≤ 2) (hp : 0 < nm.length) (hno : ∀ x ∈ nm, x ≠ 125) (Szc : Sta Z h0 "java/lang/String" "COMPACT_STRINGS" "Z" (.int zc)) (hzc : ¬ (zc = (0 : Int32))) :
    Met l Z consts_1 (⟨"com/example/holdfast/holdfast/Keys", "semaphore", "(Ljava/lang/String;)Ljava/lang/String;"⟩ : MethodName) prog_8_method_20_code 1 (some (.object "java/lang/String")) ws ({ frames := 7, cells := 40, slots := 1400, locals := 150 } : Room) [] #[(.ref s2)] h0 n0 (nq (fun v h => ∃ a t' k', v = some (.ref a) ∧ Keep h0 h [] ∧ h0.size ≤ a ∧ h0.size ≤ t' ∧ Str Z h a t' k' (([] ++ [104, 111, 108, 100, 102, 97, 115, 116, 58, 115, 101, 109, 97, 112, 104, 111, 114, 101, 58]) ++ (tag nm)))) := by
  refine met_of (plainFor_of_name pn_com_example_holdfast_holdfast_Keys) hw #[.val (.ref s2)] (fun m => by first | rfl | (simp [entryFrame, mkF, argsToLocals, Value.category]; done)) ?_
  intro p e s m below meth c C0
  have C : Cx Z a0 tables_1 p s m meth c "com/example/holdfast/holdfast/Keys" "semaphore" prog_8_method_20_code 1 (some (.object "java/lang/String")) n0 := C0
  refine g_new C w_40 w_41 w_42 d_prog_8_method_20_code_0 (by decide) (by decide) ?_
  intro b380 h380 g380 E380 A380 D380
  refine g_dup C d_prog_8_method_20_code_3 rfl ?_
  have K381 : Keep h0 h380 [] := (Keep.refl h0 []).ext E380
  refine g_specialX C (a := b380) w_43 w_44 w_45 rfl (by decide) [] (ct_of hEL hw w_45 w_42 (rm_si l Z a0 hw hEL b380 zc h380 n0 A380 (D380 (Or.inl (C.hw w_55)) (ty := (.array .byte)) (by decide)) (D380 (Or.inl (C.hw w_57)) (ty := .byte) (by decide)) (D380 (Or.inl (C.hw w_83)) (ty := .int) (by decide)) (Sta_keep Szc K381) hzc)) (allS (mg (i := 0) rfl) all0) (by decide) 1 (by decide) rfl pd___V rfl [(.ref b380)] rfl (Nat.le_of_eq rfl) d_prog_8_method_20_code_4 (by decide) (by decide) ?_
  intro v382 h382 ns382 Q382
  obtain ⟨t382, kt382, rfl, rfl, KC382, le382, SB382⟩ := Q382
  refine g_ldcS C hEL w_321 own_sA (mg (i := 10) rfl) [104, 111, 108, 100, 102, 97, 115, 116, 58, 115, 101, 109, 97, 112, 104, 111, 114, 101, 58] ⟨by decide +kernel, by decide +kernel⟩ (by decide) (by decide) d_prog_8_method_20_code_7 76 (by decide +kernel) (by decide) (by decide) (by decide) ?_
  intro a383 t383 kb383 h383 E383 S383 X383
  have K385 : Keep h382 h383 [] := (Keep.refl h382 []).ext E383
  have E386 := (SB382.1.keep K385)
  have F387 := (SB382.2.1.keep K385 nin0)
  have F388 := (SB382.2.2.1.keep K385 nin0)
  have F389 := (SB382.2.2.2.1.keep K385 nin0)
  have V390 := (SB382.2.2.2.2.1.keep K385 nin0)
  have E391 := (SB382.2.2.2.2.2.2.2.2.keep K385)
  have K392 : Keep h0 h382 [] := K381.trans KC382 (allS (Or.inr (Nat.le_of_eq g380.symm)) all0)
  have K393 : Keep h0 h383 [] := K392.ext E383
  refine g_virtualX C E386 w_62 w_63 (fun hZ => nf_sel hw w_65 hZ) w_65 w_64 (by decide) [(.ref a383)] (ct_of hEL hw w_66 w_42 (rm_sa l Z a0 hw hEL b380 t382 a383 t383 _ _ 16 [] [104, 111, 108, 100, 102, 97, 115, 116, 58, 115, 101, 109, 97, 112, 104, 111, 114, 101, 58] zc h383 n0 ⟨E386, F387, F388, F389, V390, SB382.2.2.2.2.2.1, SB382.2.2.2.2.2.2.1, SB382.2.2.2.2.2.2.2.1, E391⟩ S383 (Ne.symm (X383 _ (mg (i := 1) rfl)).1) (Ne.symm (X383 _ (mg (i := 0) rfl)).1) (Ne.symm (X383 _ (mg (i := 1) rfl)).2) (Ne.symm (X383 _ (mg (i := 0) rfl)).2) (Nat.ne_of_lt (Nat.lt_of_lt_of_le A380.lt le382)) (by first | omega | (simp only [List.length_append, List.length_cons, List.length_nil, tag]; omega)) (Sta_keep Szc K393) hzc)) (allS (mg (i := 1) rfl) (allS (mg (i := 0) rfl) all0)) (by decide) 0 (by decide) rfl pd__Ljava_lang_String__Ljava_lang_StringBuilder_ rfl [] rfl (Nat.le_of_eq rfl) d_prog_8_method_20_code_9 (by decide) (by decide) ?_
  intro v384 h384 ns384 Q384
  obtain ⟨t'384, kt'384, cap'384, rfl, rfl, KC384, or384, SB384⟩ := Q384
  refine g_aloadN C d_prog_8_method_20_code_12 rfl rfl ?_
  have K394 : Keep h0 h384 [] := K393.trans KC384 (allS (Or.inr (Nat.le_of_eq g380.symm)) (allS (Or.inr (Nat.le_trans K381.1 le382)) all0))
  have S395 := (S2.keep K394 nin0 nin0)
  refine g_static C w_109 w_110 w_38 w_111 (by decide) [(.ref s2)] (ct_of hEL hw w_111 w_38 (rm_hashTag l Z a0 hw hEL s2 t2 _ nm zc h384 n0 S395 hn2 hp hno (Sta_keep Szc K394) hzc)) all0 (by decide) 1 (by decide) rfl pd__Ljava_lang_String__Ljava_lang_String_ rfl [(.ref b380)] rfl (Nat.le_of_eq rfl) d_prog_8_method_20_code_13 (by decide) (by decide) ?_
  intro v396 h396 Q396
  obtain ⟨a396, t396, k396, rfl, KC396, le396, lt396, S396⟩ := Q396
  have K398 : Keep h384 h396 [] := (Keep.refl h384 []).trans KC396 all0
  have E399 := (SB384.1.keep K398)
  have F400 := (SB384.2.1.keep K398 nin0)
  have F401 := (SB384.2.2.1.keep K398 nin0)
  have F402 := (SB384.2.2.2.1.keep K398 nin0)
  have V403 := (SB384.2.2.2.2.1.keep K398 nin0)
  have E404 := (SB384.2.2.2.2.2.2.2.2.keep K398)
  have K405 : Keep h0 h396 [] := K394.trans KC396 all0
  refine g_virtualX C E399 w_62 w_63 (fun hZ => nf_sel hw w_65 hZ) w_65 w_64 (by decide) [(.ref a396)] (ct_of hEL hw w_66 w_42 (rm_sa l Z a0 hw hEL b380 t'384 a396 t396 _ _ cap'384 ([] ++ [104, 111, 108, 100, 102, 97, 115, 116, 58, 115, 101, 109, 97, 112, 104, 111, 114, 101, 58]) (tag nm) zc h396 n0 ⟨E399, F400, F401, F402, V403, SB384.2.2.2.2.2.1, SB384.2.2.2.2.2.2.1, SB384.2.2.2.2.2.2.2.1, E404⟩ S396 (Ne.symm (Nat.ne_of_lt (Nat.lt_of_lt_of_le SB384.1.lt le396))) (Ne.symm (Nat.ne_of_lt (Nat.lt_of_lt_of_le SB384.2.2.2.2.1.lt le396))) (Ne.symm (Nat.ne_of_lt (Nat.lt_of_lt_of_le SB384.1.lt lt396))) (Ne.symm (Nat.ne_of_lt (Nat.lt_of_lt_of_le SB384.2.2.2.2.1.lt lt396))) (own_alt or384 (Nat.ne_of_lt (Nat.lt_of_lt_of_le A380.lt le382)) E386.lt) (by first | omega | (simp only [List.length_append, List.length_cons, List.length_nil, tag]; omega)) (Sta_keep Szc K405) hzc)) (allS (mg (i := 2) rfl) (allS (mg (i := 0) rfl) all0)) (by decide) 0 (by decide) rfl pd__Ljava_lang_String__Ljava_lang_StringBuilder_ rfl [] rfl (Nat.le_of_eq rfl) d_prog_8_method_20_code_16 (by decide) (by decide) ?_
  intro v397 h397 ns397 Q397
  obtain ⟨t'397, kt'397, cap'397, rfl, rfl, KC397, or397, SB397⟩ := Q397
  have K406 : Keep h0 h397 [] := K405.trans KC397 (allS (Or.inr (Nat.le_of_eq g380.symm)) (allS (Or.inr (own_alt_le or384 (Nat.le_trans K381.1 le382) K393.1)) all0))
  refine g_virtual C SB397.1 w_156 w_157 (fun hZ => nf_sel hw w_159 hZ) w_159 w_158 (by decide) [] (ct_of hEL hw w_160 w_42 (rm_ts l Z a0 hw hEL b380 t'397 _ cap'397 (([] ++ [104, 111, 108, 100, 102, 97, 115, 116, 58, 115, 101, 109, 97, 112, 104, 111, 114, 101, 58]) ++ (tag nm)) zc h397 n0 SB397 (by first | omega | (simp only [List.length_append, List.length_cons, List.length_nil, tag]; omega)) (Sta_keep Szc K406) hzc)) all0 (by decide) 0 (by decide) rfl pd___Ljava_lang_String_ rfl [] rfl (Nat.le_of_eq rfl) d_prog_8_method_20_code_19 (by decide) (by decide) ?_
  intro v407 h407 Q407
  obtain ⟨a407, t407, k407, rfl, KC407, le407, lt407, S407⟩ := Q407
  refine g_areturn C hEL (t := (.object "java/lang/String")) rfl rfl rfl d_prog_8_method_20_code_22 (by decide) (by decide) ?_
  have K408 : Keep h0 h407 [] := K406.trans KC407 all0
  exact ⟨a407, _, _, rfl, K408, (Nat.le_trans K406.1 le407), (Nat.le_trans K406.1 lt407), S407⟩
theorem d_prog_8_method_4_code_0 : decode prog_8_method_4_code 0 = .ok (.new 7, 3) := by decide +kernel
theorem d_prog_8_method_4_code_3 : decode prog_8_method_4_code 3 = .ok (.dup, 1) := by decide +kernel
theorem d_prog_8_method_4_code_4 : decode prog_8_method_4_code 4 = .ok (.invokespecial 9, 3) := by decide +kernel
theorem d_prog_8_method_4_code_7 : decode prog_8_method_4_code 7 = .ok (.aload_n 0, 1) := by decide +kernel
theorem d_prog_8_method_4_code_8 : decode prog_8_method_4_code 8 = .ok (.invokestatic 26, 3) := by decide +kernel
theorem d_prog_8_method_4_code_11 : decode prog_8_method_4_code 11 = .ok (.invokevirtual 14, 3) := by decide +kernel
theorem d_prog_8_method_4_code_14 : decode prog_8_method_4_code 14 = .ok (.ldc 31, 2) := by decide +kernel
theorem d_prog_8_method_4_code_16 : decode prog_8_method_4_code 16 = .ok (.invokevirtual 14, 3) := by decide +kernel
theorem d_prog_8_method_4_code_19 : decode prog_8_method_4_code 19 = .ok (.invokevirtual 22, 3) := by decide +kernel
theorem d_prog_8_method_4_code_22 : decode prog_8_method_4_code 22 = .ok (.areturn, 1) := by decide +kernel
theorem rm_lockReleased (l : Launch) (Z : State) (a0 : Array Value) (hw : ∀ d ∈ tables_1, d.before a0 Z = true) (hEL : EW Z a0 consts_1) {ws : List Jvm.Cond} (s2 t2 : Addr) (k2 : ClassId) (nm : List Int32) (zc : Int32) (h0 : Heap) (n0 : Nat) (S2 : Str Z h0 s2 t2 k2 nm) (hn2 : nm.length ≤ 2) (hp : 0 < nm.length) (hno : ∀ x ∈ nm, x ≠ 125) (Szc : Sta Z h0 "java/lang/String" "COMPACT_STRINGS" "Z" (.int zc)) (hzc : ¬ (zc = (0 : Int32))) :
    Met l Z consts_1 (⟨"com/example/holdfast/holdfast/Keys", "lockReleased", "(Ljava/lang/String;)Ljava/lang/String;"⟩ : MethodName) prog_8_method_4_code 1 (some (.object "java/lang/String")) ws ({ frames := 8, cells := 50, slots := 1900, locals := 170 } : Room) [] #[(.ref s2)] h0 n0 (nq (fun v h => ∃ a t' k', v = some (.ref a) ∧ Keep h0 h [] ∧ h0.size ≤ a ∧ h0.size ≤ t' ∧ Str Z h a t' k' (([] ++ (([] ++ [104, 111, 108, 100, 102, 97, 115, 116, 58, 108, 111, 99, 107, 58]) ++ (tag nm))) ++ [58, 114, 101, 108, 101, 97, 115, 101, 100]))) := by
  refine met_of (plainFor_of_name pn_com_example_holdfast_holdfast_Keys) hw #[.val (.ref s2)] (fun m => by first | rfl | (simp [entryFrame, mkF, argsToLocals, Value.category]; done)) ?_
  intro p e s m below meth c C0
  have C : Cx Z a0 tables_1 p s m meth c "com/example/holdfast/holdfast/Keys" "lockReleased" prog_8_method_4_code 1 (some (.object "java/lang/String")) n0 := C0
  refine g_new C w_40 w_41 w_42 d_prog_8_method_4_code_0 (by decide) (by decide) ?_
  intro b409 h409 g409 E409 A409 D409
  refine g_dup C d_prog_8_method_4_code_3 rfl ?_
  have K410 : Keep h0 h409 [] := (Keep.refl h0 []).ext E409
  refine g_specialX C (a := b409) w_43 w_44 w_45 rfl (by decide) [] (ct_of hEL hw w_45 w_42 (rm_si l Z a0 hw hEL b409 zc h409 n0 A409 (D409 (Or.inl (C.hw w_55)) (ty := (.array .byte)) (by decide)) (D409 (Or.inl (C.hw w_57)) (ty := .byte) (by decide)) (D409 (Or.inl (C.hw w_83)) (ty := .int) (by decide)) (Sta_keep Szc K410) hzc)) (allS (mg (i := 0) rfl) all0) (by decide) 1 (by decide) rfl pd___V rfl [(.ref b409)] rfl (Nat.le_of_eq rfl) d_prog_8_method_4_code_4 (by decide) (by decide) ?_
  intro v411 h411 ns411 Q411
  obtain ⟨t411, kt411, rfl, rfl, KC411, le411, SB411⟩ := Q411
  refine g_aloadN C d_prog_8_method_4_code_7 rfl rfl ?_
  have K412 : Keep h0 h411 [] := K410.trans KC411 (allS (Or.inr (Nat.le_of_eq g409.symm)) all0)
  have S413 := (S2.keep K412 nin0 nin0)
  refine g_static C w_58 w_59 w_38 w_60 (by decide) [(.ref s2)] (ct_of hEL hw w_60 w_38 (rm_lock l Z a0 hw hEL s2 t2 _ nm zc h411 n0 S413 hn2 hp hno (Sta_keep Szc K412) hzc)) all0 (by decide) 1 (by decide) rfl pd__Ljava_lang_String__Ljava_lang_String_ rfl [(.ref b409)] rfl (Nat.le_of_eq rfl) d_prog_8_method_4_code_8 (by decide) (by decide) ?_
  intro v414 h414 Q414
  obtain ⟨a414, t414, k414, rfl, KC414, le414, lt414, S414⟩ := Q414
  have K416 : Keep h411 h414 [] := (Keep.refl h411 []).trans KC414 all0
  have E417 := (SB411.1.keep K416)
  have F418 := (SB411.2.1.keep K416 nin0)
  have F419 := (SB411.2.2.1.keep K416 nin0)
  have F420 := (SB411.2.2.2.1.keep K416 nin0)
  have V421 := (SB411.2.2.2.2.1.keep K416 nin0)
  have E422 := (SB411.2.2.2.2.2.2.2.2.keep K416)
  have K423 : Keep h0 h414 [] := K412.trans KC414 all0
  refine g_virtualX C E417 w_62 w_63 (fun hZ => nf_sel hw w_65 hZ) w_65 w_64 (by decide) [(.ref a414)] (ct_of hEL hw w_66 w_42 (rm_sa l Z a0 hw hEL b409 t411 a414 t414 _ _ 16 [] (([] ++ [104, 111, 108, 100, 102, 97, 115, 116, 58, 108, 111, 99, 107, 58]) ++ (tag nm)) zc h414 n0 ⟨E417, F418, F419, F420, V421, SB411.2.2.2.2.2.1, SB411.2.2.2.2.2.2.1, SB411.2.2.2.2.2.2.2.1, E422⟩ S414 (Ne.symm (Nat.ne_of_lt (Nat.lt_of_lt_of_le SB411.1.lt le414))) (Ne.symm (Nat.ne_of_lt (Nat.lt_of_lt_of_le SB411.2.2.2.2.1.lt le414))) (Ne.symm (Nat.ne_of_lt (Nat.lt_of_lt_of_le SB411.1.lt lt414))) (Ne.symm (Nat.ne_of_lt (Nat.lt_of_lt_of_le SB411.2.2.2.2.1.lt lt414))) (Nat.ne_of_lt (Nat.lt_of_lt_of_le A409.lt le411)) (by first | omega | (simp only [List.length_append, List.length_cons, List.length_nil, tag]; omega)) (Sta_keep Szc K423) hzc)) (allS (mg (i := 1) rfl) (allS (mg (i := 0) rfl) all0)) (by decide) 0 (by decide) rfl pd__Ljava_lang_String__Ljava_lang_StringBuilder_ rfl [] rfl (Nat.le_of_eq rfl) d_prog_8_method_4_code_11 (by decide) (by decide) ?_
  intro v415 h415 ns415 Q415
  obtain ⟨t'415, kt'415, cap'415, rfl, rfl, KC415, or415, SB415⟩ := Q415
  refine g_ldcS C hEL w_213 own_sA (mg (i := 2) rfl) [58, 114, 101, 108, 101, 97, 115, 101, 100] ⟨by decide +kernel, by decide +kernel⟩ (by decide) (by decide) d_prog_8_method_4_code_14 36 (by decide +kernel) (by decide) (by decide) (by decide) ?_
  intro a424 t424 kb424 h424 E424 S424 X424
  have K426 : Keep h415 h424 [] := (Keep.refl h415 []).ext E424
  have E427 := (SB415.1.keep K426)
  have F428 := (SB415.2.1.keep K426 nin0)
  have F429 := (SB415.2.2.1.keep K426 nin0)
  have F430 := (SB415.2.2.2.1.keep K426 nin0)
  have V431 := (SB415.2.2.2.2.1.keep K426 nin0)
  have E432 := (SB415.2.2.2.2.2.2.2.2.keep K426)
  have K433 : Keep h0 h415 [] := K423.trans KC415 (allS (Or.inr (Nat.le_of_eq g409.symm)) (allS (Or.inr (Nat.le_trans K410.1 le411)) all0))
  have K434 : Keep h0 h424 [] := K433.ext E424
  refine g_virtualX C E427 w_62 w_63 (fun hZ => nf_sel hw w_65 hZ) w_65 w_64 (by decide) [(.ref a424)] (ct_of hEL hw w_66 w_42 (rm_sa l Z a0 hw hEL b409 t'415 a424 t424 _ _ cap'415 ([] ++ (([] ++ [104, 111, 108, 100, 102, 97, 115, 116, 58, 108, 111, 99, 107, 58]) ++ (tag nm))) [58, 114, 101, 108, 101, 97, 115, 101, 100] zc h424 n0 ⟨E427, F428, F429, F430, V431, SB415.2.2.2.2.2.1, SB415.2.2.2.2.2.2.1, SB415.2.2.2.2.2.2.2.1, E432⟩ S424 (Ne.symm (X424 _ (mg (i := 2) rfl)).1) (Ne.symm (X424 _ (mg (i := 0) rfl)).1) (Ne.symm (X424 _ (mg (i := 2) rfl)).2) (Ne.symm (X424 _ (mg (i := 0) rfl)).2) (own_alt or415 (Nat.ne_of_lt (Nat.lt_of_lt_of_le A409.lt le411)) E417.lt) (by first | omega | (simp only [List.length_append, List.length_cons, List.length_nil, tag]; omega)) (Sta_keep Szc K434) hzc)) (allS (mg (i := 2) rfl) (allS (mg (i := 0) rfl) all0)) (by decide) 0 (by decide) rfl pd__Ljava_lang_String__Ljava_lang_StringBuilder_ rfl [] rfl (Nat.le_of_eq rfl) d_prog_8_method_4_code_16 (by decide) (by decide) ?_
  intro v425 h425 ns425 Q425
  obtain ⟨t'425, kt'425, cap'425, rfl, rfl, KC425, or425, SB425⟩ := Q425
  have K435 : Keep h0 h425 [] := K434.trans KC425 (allS (Or.inr (Nat.le_of_eq g409.symm)) (allS (Or.inr (own_alt_le or415 (Nat.le_trans K410.1 le411) K423.1)) all0))
  refine g_virtual C SB425.1 w_156 w_157 (fun hZ => nf_sel hw w_159 hZ) w_159 w_158 (by decide) [] (ct_of hEL hw w_160 w_42 (rm_ts l Z a0 hw hEL b409 t'425 _ cap'425 (([] ++ (([] ++ [104, 111, 108, 100, 102, 97, 115, 116, 58, 108, 111, 99, 107, 58]) ++ (tag nm))) ++ [58, 114, 101, 108, 101, 97, 115, 101, 100]) zc h425 n0 SB425 (by first | omega | (simp only [List.length_append, List.length_cons, List.length_nil, tag]; omega)) (Sta_keep Szc K435) hzc)) all0 (by decide) 0 (by decide) rfl pd___Ljava_lang_String_ rfl [] rfl (Nat.le_of_eq rfl) d_prog_8_method_4_code_19 (by decide) (by decide) ?_
  intro v436 h436 Q436
  obtain ⟨a436, t436, k436, rfl, KC436, le436, lt436, S436⟩ := Q436
  refine g_areturn C hEL (t := (.object "java/lang/String")) rfl rfl rfl d_prog_8_method_4_code_22 (by decide) (by decide) ?_
  have K437 : Keep h0 h436 [] := K435.trans KC436 all0
  exact ⟨a436, _, _, rfl, K437, (Nat.le_trans K435.1 le436), (Nat.le_trans K435.1 lt436), S436⟩
theorem d_prog_8_method_3_code_0 : decode prog_8_method_3_code 0 = .ok (.new 7, 3) := by decide +kernel
theorem d_prog_8_method_3_code_3 : decode prog_8_method_3_code 3 = .ok (.dup, 1) := by decide +kernel
theorem d_prog_8_method_3_code_4 : decode prog_8_method_3_code 4 = .ok (.invokespecial 9, 3) := by decide +kernel
theorem d_prog_8_method_3_code_7 : decode prog_8_method_3_code 7 = .ok (.aload_n 0, 1) := by decide +kernel
theorem d_prog_8_method_3_code_8 : decode prog_8_method_3_code 8 = .ok (.invokestatic 26, 3) := by decide +kernel
theorem d_prog_8_method_3_code_11 : decode prog_8_method_3_code 11 = .ok (.invokevirtual 14, 3) := by decide +kernel
theorem d_prog_8_method_3_code_14 : decode prog_8_method_3_code 14 = .ok (.ldc 29, 2) := by decide +kernel
theorem d_prog_8_method_3_code_16 : decode prog_8_method_3_code 16 = .ok (.invokevirtual 14, 3) := by decide +kernel
theorem d_prog_8_method_3_code_19 : decode prog_8_method_3_code 19 = .ok (.invokevirtual 22, 3) := by decide +kernel
theorem d_prog_8_method_3_code_22 : decode prog_8_method_3_code 22 = .ok (.areturn, 1) := by decide +kernel
theorem rm_lockToken (l : Launch) (Z : State) (a0 : Array Value) (hw : ∀ d ∈ tables_1, d.before a0 Z = true) (hEL : EW Z a0 consts_1) {ws : List Jvm.Cond} (s2 t2 : Addr) (k2 : ClassId) (nm : List Int32) (zc : Int32) (h0 : Heap) (n0 : Nat) (S2 : Str Z h0 s2 t2 k2 nm) (hn2 : nm.length ≤ 2) (hp : 0 < nm.length) (hno : ∀ x ∈ nm, x ≠ 125) (Szc : Sta Z h0 "java/lang/String" "COMPACT_STRINGS" "Z" (.int zc)) (hzc : ¬ (zc = (0 : Int32))) :
    Met l Z consts_1 (⟨"com/example/holdfast/holdfast/Keys", "lockToken", "(Ljava/lang/String;)Ljava/lang/String;"⟩ : MethodName) prog_8_method_3_code 1 (some (.object "java/lang/String")) ws ({ frames := 8, cells := 50, slots := 1900, locals := 170 } : Room) [] #[(.ref s2)] h0 n0 (nq (fun v h => ∃ a t' k', v = some (.ref a) ∧ Keep h0 h [] ∧ h0.size ≤ a ∧ h0.size ≤ t' ∧ Str Z h a t' k' (([] ++ (([] ++ [104, 111, 108, 100, 102, 97, 115, 116, 58, 108, 111, 99, 107, 58]) ++ (tag nm))) ++ [58, 116, 111, 107, 101, 110]))) := by
  refine met_of (plainFor_of_name pn_com_example_holdfast_holdfast_Keys) hw #[.val (.ref s2)] (fun m => by first | rfl | (simp [entryFrame, mkF, argsToLocals, Value.category]; done)) ?_
  intro p e s m below meth c C0
  have C : Cx Z a0 tables_1 p s m meth c "com/example/holdfast/holdfast/Keys" "lockToken" prog_8_method_3_code 1 (some (.object "java/lang/String")) n0 := C0
  refine g_new C w_40 w_41 w_42 d_prog_8_method_3_code_0 (by decide) (by decide) ?_
  intro b438 h438 g438 E438 A438 D438
  refine g_dup C d_prog_8_method_3_code_3 rfl ?_
  have K439 : Keep h0 h438 [] := (Keep.refl h0 []).ext E438
  refine g_specialX C (a := b438) w_43 w_44 w_45 rfl (by decide) [] (ct_of hEL hw w_45 w_42 (rm_si l Z a0 hw hEL b438 zc h438 n0 A438 (D438 (Or.inl (C.hw w_55)) (ty := (.array .byte)) (by decide)) (D438 (Or.inl (C.hw w_57)) (ty := .byte) (by decide)) (D438 (Or.inl (C.hw w_83)) (ty := .int) (by decide)) (Sta_keep Szc K439) hzc)) (allS (mg (i := 0) rfl) all0) (by decide) 1 (by decide) rfl pd___V rfl [(.ref b438)] rfl (Nat.le_of_eq rfl) d_prog_8_method_3_code_4 (by decide) (by decide) ?_
  intro v440 h440 ns440 Q440
  obtain ⟨t440, kt440, rfl, rfl, KC440, le440, SB440⟩ := Q440
  refine g_aloadN C d_prog_8_method_3_code_7 rfl rfl ?_
  have K441 : Keep h0 h440 [] := K439.trans KC440 (allS (Or.inr (Nat.le_of_eq g438.symm)) all0)
  have S442 := (S2.keep K441 nin0 nin0)
  refine g_static C w_58 w_59 w_38 w_60 (by decide) [(.ref s2)] (ct_of hEL hw w_60 w_38 (rm_lock l Z a0 hw hEL s2 t2 _ nm zc h440 n0 S442 hn2 hp hno (Sta_keep Szc K441) hzc)) all0 (by decide) 1 (by decide) rfl pd__Ljava_lang_String__Ljava_lang_String_ rfl [(.ref b438)] rfl (Nat.le_of_eq rfl) d_prog_8_method_3_code_8 (by decide) (by decide) ?_
  intro v443 h443 Q443
  obtain ⟨a443, t443, k443, rfl, KC443, le443, lt443, S443⟩ := Q443
  have K445 : Keep h440 h443 [] := (Keep.refl h440 []).trans KC443 all0
  have E446 := (SB440.1.keep K445)
  have F447 := (SB440.2.1.keep K445 nin0)
  have F448 := (SB440.2.2.1.keep K445 nin0)
  have F449 := (SB440.2.2.2.1.keep K445 nin0)
  have V450 := (SB440.2.2.2.2.1.keep K445 nin0)
  have E451 := (SB440.2.2.2.2.2.2.2.2.keep K445)
  have K452 : Keep h0 h443 [] := K441.trans KC443 all0
  refine g_virtualX C E446 w_62 w_63 (fun hZ => nf_sel hw w_65 hZ) w_65 w_64 (by decide) [(.ref a443)] (ct_of hEL hw w_66 w_42 (rm_sa l Z a0 hw hEL b438 t440 a443 t443 _ _ 16 [] (([] ++ [104, 111, 108, 100, 102, 97, 115, 116, 58, 108, 111, 99, 107, 58]) ++ (tag nm)) zc h443 n0 ⟨E446, F447, F448, F449, V450, SB440.2.2.2.2.2.1, SB440.2.2.2.2.2.2.1, SB440.2.2.2.2.2.2.2.1, E451⟩ S443 (Ne.symm (Nat.ne_of_lt (Nat.lt_of_lt_of_le SB440.1.lt le443))) (Ne.symm (Nat.ne_of_lt (Nat.lt_of_lt_of_le SB440.2.2.2.2.1.lt le443))) (Ne.symm (Nat.ne_of_lt (Nat.lt_of_lt_of_le SB440.1.lt lt443))) (Ne.symm (Nat.ne_of_lt (Nat.lt_of_lt_of_le SB440.2.2.2.2.1.lt lt443))) (Nat.ne_of_lt (Nat.lt_of_lt_of_le A438.lt le440)) (by first | omega | (simp only [List.length_append, List.length_cons, List.length_nil, tag]; omega)) (Sta_keep Szc K452) hzc)) (allS (mg (i := 1) rfl) (allS (mg (i := 0) rfl) all0)) (by decide) 0 (by decide) rfl pd__Ljava_lang_String__Ljava_lang_StringBuilder_ rfl [] rfl (Nat.le_of_eq rfl) d_prog_8_method_3_code_11 (by decide) (by decide) ?_
  intro v444 h444 ns444 Q444
  obtain ⟨t'444, kt'444, cap'444, rfl, rfl, KC444, or444, SB444⟩ := Q444
  refine g_ldcS C hEL w_313 own_sA (mg (i := 1) rfl) [58, 116, 111, 107, 101, 110] ⟨by decide +kernel, by decide +kernel⟩ (by decide) (by decide) d_prog_8_method_3_code_14 24 (by decide +kernel) (by decide) (by decide) (by decide) ?_
  intro a453 t453 kb453 h453 E453 S453 X453
  have K455 : Keep h444 h453 [] := (Keep.refl h444 []).ext E453
  have E456 := (SB444.1.keep K455)
  have F457 := (SB444.2.1.keep K455 nin0)
  have F458 := (SB444.2.2.1.keep K455 nin0)
  have F459 := (SB444.2.2.2.1.keep K455 nin0)
  have V460 := (SB444.2.2.2.2.1.keep K455 nin0)
  have E461 := (SB444.2.2.2.2.2.2.2.2.keep K455)
  have K462 : Keep h0 h444 [] := K452.trans KC444 (allS (Or.inr (Nat.le_of_eq g438.symm)) (allS (Or.inr (Nat.le_trans K439.1 le440)) all0))
  have K463 : Keep h0 h453 [] := K462.ext E453
  refine g_virtualX C E456 w_62 w_63 (fun hZ => nf_sel hw w_65 hZ) w_65 w_64 (by decide) [(.ref a453)] (ct_of hEL hw w_66 w_42 (rm_sa l Z a0 hw hEL b438 t'444 a453 t453 _ _ cap'444 ([] ++ (([] ++ [104, 111, 108, 100, 102, 97, 115, 116, 58, 108, 111, 99, 107, 58]) ++ (tag nm))) [58, 116, 111, 107, 101, 110] zc h453 n0 ⟨E456, F457, F458, F459, V460, SB444.2.2.2.2.2.1, SB444.2.2.2.2.2.2.1, SB444.2.2.2.2.2.2.2.1, E461⟩ S453 (Ne.symm (X453 _ (mg (i := 2) rfl)).1) (Ne.symm (X453 _ (mg (i := 0) rfl)).1) (Ne.symm (X453 _ (mg (i := 2) rfl)).2) (Ne.symm (X453 _ (mg (i := 0) rfl)).2) (own_alt or444 (Nat.ne_of_lt (Nat.lt_of_lt_of_le A438.lt le440)) E446.lt) (by first | omega | (simp only [List.length_append, List.length_cons, List.length_nil, tag]; omega)) (Sta_keep Szc K463) hzc)) (allS (mg (i := 2) rfl) (allS (mg (i := 0) rfl) all0)) (by decide) 0 (by decide) rfl pd__Ljava_lang_String__Ljava_lang_StringBuilder_ rfl [] rfl (Nat.le_of_eq rfl) d_prog_8_method_3_code_16 (by decide) (by decide) ?_
  intro v454 h454 ns454 Q454
  obtain ⟨t'454, kt'454, cap'454, rfl, rfl, KC454, or454, SB454⟩ := Q454
  have K464 : Keep h0 h454 [] := K463.trans KC454 (allS (Or.inr (Nat.le_of_eq g438.symm)) (allS (Or.inr (own_alt_le or444 (Nat.le_trans K439.1 le440) K452.1)) all0))
  refine g_virtual C SB454.1 w_156 w_157 (fun hZ => nf_sel hw w_159 hZ) w_159 w_158 (by decide) [] (ct_of hEL hw w_160 w_42 (rm_ts l Z a0 hw hEL b438 t'454 _ cap'454 (([] ++ (([] ++ [104, 111, 108, 100, 102, 97, 115, 116, 58, 108, 111, 99, 107, 58]) ++ (tag nm))) ++ [58, 116, 111, 107, 101, 110]) zc h454 n0 SB454 (by first | omega | (simp only [List.length_append, List.length_cons, List.length_nil, tag]; omega)) (Sta_keep Szc K464) hzc)) all0 (by decide) 0 (by decide) rfl pd___Ljava_lang_String_ rfl [] rfl (Nat.le_of_eq rfl) d_prog_8_method_3_code_19 (by decide) (by decide) ?_
  intro v465 h465 Q465
  obtain ⟨a465, t465, k465, rfl, KC465, le465, lt465, S465⟩ := Q465
  refine g_areturn C hEL (t := (.object "java/lang/String")) rfl rfl rfl d_prog_8_method_3_code_22 (by decide) (by decide) ?_
  have K466 : Keep h0 h465 [] := K464.trans KC465 all0
  exact ⟨a465, _, _, rfl, K466, (Nat.le_trans K464.1 le465), (Nat.le_trans K464.1 lt465), S465⟩
theorem d_prog_8_method_7_code_0 : decode prog_8_method_7_code 0 = .ok (.new 7, 3) := by decide +kernel
theorem d_prog_8_method_7_code_3 : decode prog_8_method_7_code 3 = .ok (.dup, 1) := by decide +kernel
theorem d_prog_8_method_7_code_4 : decode prog_8_method_7_code 4 = .ok (.invokespecial 9, 3) := by decide +kernel
theorem d_prog_8_method_7_code_7 : decode prog_8_method_7_code 7 = .ok (.aload_n 0, 1) := by decide +kernel
theorem d_prog_8_method_7_code_8 : decode prog_8_method_7_code 8 = .ok (.invokestatic 35, 3) := by decide +kernel
theorem d_prog_8_method_7_code_11 : decode prog_8_method_7_code 11 = .ok (.invokevirtual 14, 3) := by decide +kernel
theorem d_prog_8_method_7_code_14 : decode prog_8_method_7_code 14 = .ok (.ldc 40, 2) := by decide +kernel
theorem d_prog_8_method_7_code_16 : decode prog_8_method_7_code 16 = .ok (.invokevirtual 14, 3) := by decide +kernel
theorem d_prog_8_method_7_code_19 : decode prog_8_method_7_code 19 = .ok (.invokevirtual 22, 3) := by decide +kernel
theorem d_prog_8_method_7_code_22 : decode prog_8_method_7_code 22 = .ok (.areturn, 1) := by decide +kernel
theorem rm_fairLockLine (l : Launch) (Z : State) (a0 : Array Value) (hw : ∀ d ∈ tables_1, d.before a0 Z = true) (hEL : EW Z a0 consts_1) {ws : List Jvm.Cond} (s2 t2 : Addr) (k2 : ClassId) (nm : List Int32) (zc : Int32) (h0 : Heap) (n0 : Nat) (S2 : Str Z h0 s2 t2 k2 nm) (hn2 : nm.length ≤ 2) (hp : 0 < nm.length) (hno : ∀ x ∈ nm, x ≠ 125) (Szc : Sta Z h0 "java/lang/String" "COMPACT_STRINGS" "Z" (.int zc)) (hzc : ¬ (zc = (0 : Int32))) :
    Met l Z consts_1 (⟨"com/example/holdfast/holdfast/Keys", "fairLockLine", "(Ljava/lang/String;)Ljava/lang/String;"⟩ : MethodName) prog_8_method_7_code 1 (some (.object "java/lang/String")) ws ({ frames := 8, cells := 50, slots := 1900, locals := 170 } : Room) [] #[(.ref s2)] h0 n0 (nq (fun v h => ∃ a t' k', v = some (.ref a) ∧ Keep h0 h [] ∧ h0.size ≤ a ∧ h0.size ≤ t' ∧ Str Z h a t' k' (([] ++ (([] ++ [104, 111, 108, 100, 102, 97, 115, 116, 58, 102, 97, 105, 114, 108, 111, 99, 107, 58]) ++ (tag nm))) ++ [58, 108, 105, 110, 101]))) := by
  refine met_of (plainFor_of_name pn_com_example_holdfast_holdfast_Keys) hw #[.val (.ref s2)] (fun m => by first | rfl | (simp [entryFrame, mkF, argsToLocals, Value.category]; done)) ?_
  intro p e s m below meth c C0
  have C : Cx Z a0 tables_1 p s m meth c "com/example/holdfast/holdfast/Keys" "fairLockLine" prog_8_method_7_code 1 (some (.object "java/lang/String")) n0 := C0
  refine g_new C w_40 w_41 w_42 d_prog_8_method_7_code_0 (by decide) (by decide) ?_
  intro b467 h467 g467 E467 A467 D467
  refine g_dup C d_prog_8_method_7_code_3 rfl ?_
  have K468 : Keep h0 h467 [] := (Keep.refl h0 []).ext E467
  refine g_specialX C (a := b467) w_43 w_44 w_45 rfl (by decide) [] (ct_of hEL hw w_45 w_42 (rm_si l Z a0 hw hEL b467 zc h467 n0 A467 (D467 (Or.inl (C.hw w_55)) (ty := (.array .byte)) (by decide)) (D467 (Or.inl (C.hw w_57)) (ty := .byte) (by decide)) (D467 (Or.inl (C.hw w_83)) (ty := .int) (by decide)) (Sta_keep Szc K468) hzc)) (allS (mg (i := 0) rfl) all0) (by decide) 1 (by decide) rfl pd___V rfl [(.ref b467)] rfl (Nat.le_of_eq rfl) d_prog_8_method_7_code_4 (by decide) (by decide) ?_
  intro v469 h469 ns469 Q469
  obtain ⟨t469, kt469, rfl, rfl, KC469, le469, SB469⟩ := Q469
  refine g_aloadN C d_prog_8_method_7_code_7 rfl rfl ?_
  have K470 : Keep h0 h469 [] := K468.trans KC469 (allS (Or.inr (Nat.le_of_eq g467.symm)) all0)
  have S471 := (S2.keep K470 nin0 nin0)
  refine g_static C w_283 w_284 w_38 w_285 (by decide) [(.ref s2)] (ct_of hEL hw w_285 w_38 (rm_fairLock l Z a0 hw hEL s2 t2 _ nm zc h469 n0 S471 hn2 hp hno (Sta_keep Szc K470) hzc)) all0 (by decide) 1 (by decide) rfl pd__Ljava_lang_String__Ljava_lang_String_ rfl [(.ref b467)] rfl (Nat.le_of_eq rfl) d_prog_8_method_7_code_8 (by decide) (by decide) ?_
  intro v472 h472 Q472
  obtain ⟨a472, t472, k472, rfl, KC472, le472, lt472, S472⟩ := Q472
  have K474 : Keep h469 h472 [] := (Keep.refl h469 []).trans KC472 all0
  have E475 := (SB469.1.keep K474)
  have F476 := (SB469.2.1.keep K474 nin0)
  have F477 := (SB469.2.2.1.keep K474 nin0)
  have F478 := (SB469.2.2.2.1.keep K474 nin0)
  have V479 := (SB469.2.2.2.2.1.keep K474 nin0)
  have E480 := (SB469.2.2.2.2.2.2.2.2.keep K474)
  have K481 : Keep h0 h472 [] := K470.trans KC472 all0
  refine g_virtualX C E475 w_62 w_63 (fun hZ => nf_sel hw w_65 hZ) w_65 w_64 (by decide) [(.ref a472)] (ct_of hEL hw w_66 w_42 (rm_sa l Z a0 hw hEL b467 t469 a472 t472 _ _ 16 [] (([] ++ [104, 111, 108, 100, 102, 97, 115, 116, 58, 102, 97, 105, 114, 108, 111, 99, 107, 58]) ++ (tag nm)) zc h472 n0 ⟨E475, F476, F477, F478, V479, SB469.2.2.2.2.2.1, SB469.2.2.2.2.2.2.1, SB469.2.2.2.2.2.2.2.1, E480⟩ S472 (Ne.symm (Nat.ne_of_lt (Nat.lt_of_lt_of_le SB469.1.lt le472))) (Ne.symm (Nat.ne_of_lt (Nat.lt_of_lt_of_le SB469.2.2.2.2.1.lt le472))) (Ne.symm (Nat.ne_of_lt (Nat.lt_of_lt_of_le SB469.1.lt lt472))) (Ne.symm (Nat.ne_of_lt (Nat.lt_of_lt_of_le SB469.2.2.2.2.1.lt lt472))) (Nat.ne_of_lt (Nat.lt_of_lt_of_le A467.lt le469)) (by first | omega | (simp only [List.length_append, List.length_cons, List.length_nil, tag]; omega)) (Sta_keep Szc K481) hzc)) (allS (mg (i := 1) rfl) (allS (mg (i := 0) rfl) all0)) (by decide) 0 (by decide) rfl pd__Ljava_lang_String__Ljava_lang_StringBuilder_ rfl [] rfl (Nat.le_of_eq rfl) d_prog_8_method_7_code_11 (by decide) (by decide) ?_
  intro v473 h473 ns473 Q473
  obtain ⟨t'473, kt'473, cap'473, rfl, rfl, KC473, or473, SB473⟩ := Q473
  refine g_ldcS C hEL w_287 own_sA (mg (i := 4) rfl) [58, 108, 105, 110, 101] ⟨by decide +kernel, by decide +kernel⟩ (by decide) (by decide) d_prog_8_method_7_code_14 20 (by decide +kernel) (by decide) (by decide) (by decide) ?_
  intro a482 t482 kb482 h482 E482 S482 X482
  have K484 : Keep h473 h482 [] := (Keep.refl h473 []).ext E482
  have E485 := (SB473.1.keep K484)
  have F486 := (SB473.2.1.keep K484 nin0)
  have F487 := (SB473.2.2.1.keep K484 nin0)
  have F488 := (SB473.2.2.2.1.keep K484 nin0)
  have V489 := (SB473.2.2.2.2.1.keep K484 nin0)
  have E490 := (SB473.2.2.2.2.2.2.2.2.keep K484)
  have K491 : Keep h0 h473 [] := K481.trans KC473 (allS (Or.inr (Nat.le_of_eq g467.symm)) (allS (Or.inr (Nat.le_trans K468.1 le469)) all0))
  have K492 : Keep h0 h482 [] := K491.ext E482
  refine g_virtualX C E485 w_62 w_63 (fun hZ => nf_sel hw w_65 hZ) w_65 w_64 (by decide) [(.ref a482)] (ct_of hEL hw w_66 w_42 (rm_sa l Z a0 hw hEL b467 t'473 a482 t482 _ _ cap'473 ([] ++ (([] ++ [104, 111, 108, 100, 102, 97, 115, 116, 58, 102, 97, 105, 114, 108, 111, 99, 107, 58]) ++ (tag nm))) [58, 108, 105, 110, 101] zc h482 n0 ⟨E485, F486, F487, F488, V489, SB473.2.2.2.2.2.1, SB473.2.2.2.2.2.2.1, SB473.2.2.2.2.2.2.2.1, E490⟩ S482 (Ne.symm (X482 _ (mg (i := 2) rfl)).1) (Ne.symm (X482 _ (mg (i := 0) rfl)).1) (Ne.symm (X482 _ (mg (i := 2) rfl)).2) (Ne.symm (X482 _ (mg (i := 0) rfl)).2) (own_alt or473 (Nat.ne_of_lt (Nat.lt_of_lt_of_le A467.lt le469)) E475.lt) (by first | omega | (simp only [List.length_append, List.length_cons, List.length_nil, tag]; omega)) (Sta_keep Szc K492) hzc)) (allS (mg (i := 2) rfl) (allS (mg (i := 0) rfl) all0)) (by decide) 0 (by decide) rfl pd__Ljava_lang_String__Ljava_lang_StringBuilder_ rfl [] rfl (Nat.le_of_eq rfl) d_prog_8_method_7_code_16 (by decide) (by decide) ?_
  intro v483 h483 ns483 Q483
  obtain ⟨t'483, kt'483, cap'483, rfl, rfl, KC483, or483, SB483⟩ := Q483
  have K493 : Keep h0 h483 [] := K492.trans KC483 (allS (Or.inr (Nat.le_of_eq g467.symm)) (allS (Or.inr (own_alt_le or473 (Nat.le_trans K468.1 le469) K481.1)) all0))
  refine g_virtual C SB483.1 w_156 w_157 (fun hZ => nf_sel hw w_159 hZ) w_159 w_158 (by decide) [] (ct_of hEL hw w_160 w_42 (rm_ts l Z a0 hw hEL b467 t'483 _ cap'483 (([] ++ (([] ++ [104, 111, 108, 100, 102, 97, 115, 116, 58, 102, 97, 105, 114, 108, 111, 99, 107, 58]) ++ (tag nm))) ++ [58, 108, 105, 110, 101]) zc h483 n0 SB483 (by first | omega | (simp only [List.length_append, List.length_cons, List.length_nil, tag]; omega)) (Sta_keep Szc K493) hzc)) all0 (by decide) 0 (by decide) rfl pd___Ljava_lang_String_ rfl [] rfl (Nat.le_of_eq rfl) d_prog_8_method_7_code_19 (by decide) (by decide) ?_
  intro v494 h494 Q494
  obtain ⟨a494, t494, k494, rfl, KC494, le494, lt494, S494⟩ := Q494
  refine g_areturn C hEL (t := (.object "java/lang/String")) rfl rfl rfl d_prog_8_method_7_code_22 (by decide) (by decide) ?_
  have K495 : Keep h0 h494 [] := K493.trans KC494 all0
  exact ⟨a494, _, _, rfl, K495, (Nat.le_trans K493.1 le494), (Nat.le_trans K493.1 lt494), S494⟩
theorem d_prog_8_method_11_code_0 : decode prog_8_method_11_code 0 = .ok (.new 7, 3) := by decide +kernel
theorem d_prog_8_method_11_code_3 : decode prog_8_method_11_code 3 = .ok (.dup, 1) := by decide +kernel
theorem d_prog_8_method_11_code_4 : decode prog_8_method_11_code 4 = .ok (.invokespecial 9, 3) := by decide +kernel
theorem d_prog_8_method_11_code_7 : decode prog_8_method_11_code 7 = .ok (.aload_n 0, 1) := by decide +kernel
theorem d_prog_8_method_11_code_8 : decode prog_8_method_11_code 8 = .ok (.invokestatic 44, 3) := by decide +kernel
theorem d_prog_8_method_11_code_11 : decode prog_8_method_11_code 11 = .ok (.invokevirtual 14, 3) := by decide +kernel
theorem d_prog_8_method_11_code_14 : decode prog_8_method_11_code 14 = .ok (.ldc 49, 2) := by decide +kernel
theorem d_prog_8_method_11_code_16 : decode prog_8_method_11_code 16 = .ok (.invokevirtual 14, 3) := by decide +kernel
theorem d_prog_8_method_11_code_19 : decode prog_8_method_11_code 19 = .ok (.invokevirtual 22, 3) := by decide +kernel
theorem d_prog_8_method_11_code_22 : decode prog_8_method_11_code 22 = .ok (.areturn, 1) := by decide +kernel
theorem rm_readers (l : Launch) (Z : State) (a0 : Array Value) (hw : ∀ d ∈ tables_1, d.before a0 Z = true) (hEL : EW Z a0 consts_1) {ws : List Jvm.Cond} (s2 t2 : Addr) (k2 : ClassId) (nm : List Int32) (zc : Int32) (h0 : Heap) (n0 : Nat) (S2 : Str Z h0 s2 t2 k2 nm) (hn2 : nm.length ≤ 2) (hp : 0 < nm.length) (hno : ∀ x ∈ nm, x ≠ 125) (Szc : Sta Z h0 "java/lang/String" "COMPACT_STRINGS" "Z" (.int zc)) (hzc : ¬ (zc = (0 : Int32))) :
    Met l Z consts_1 (⟨"com/example/holdfast/holdfast/Keys", "readers", "(Ljava/lang/String;)Ljava/lang/String;"⟩ : MethodName) prog_8_method_11_code 1 (some (.object "java/lang/String")) ws ({ frames := 8, cells := 50, slots := 1900, locals := 170 } : Room) [] #[(.ref s2)] h0 n0 (nq (fun v h => ∃ a t' k', v = some (.ref a) ∧ Keep h0 h [] ∧ h0.size ≤ a ∧ h0.size ≤ t' ∧ Str Z h a t' k' (([] ++ (([] ++ [104, 111, 108, 100, 102, 97, 115, 116, 58, 114, 119, 108, 111, 99, 107, 58]) ++ (tag nm))) ++ [58, 114, 101, 97, 100]))) := by
  refine met_of (plainFor_of_name pn_com_example_holdfast_holdfast_Keys) hw #[.val (.ref s2)] (fun m => by first | rfl | (simp [entryFrame, mkF, argsToLocals, Value.category]; done)) ?_
  intro p e s m below meth c C0
  have C : Cx Z a0 tables_1 p s m meth c "com/example/holdfast/holdfast/Keys" "readers" prog_8_method_11_code 1 (some (.object "java/lang/String")) n0 := C0
  refine g_new C w_40 w_41 w_42 d_prog_8_method_11_code_0 (by decide) (by decide) ?_
  intro b496 h496 g496 E496 A496 D496
  refine g_dup C d_prog_8_method_11_code_3 rfl ?_
  have K497 : Keep h0 h496 [] := (Keep.refl h0 []).ext E496
  refine g_specialX C (a := b496) w_43 w_44 w_45 rfl (by decide) [] (ct_of hEL hw w_45 w_42 (rm_si l Z a0 hw hEL b496 zc h496 n0 A496 (D496 (Or.inl (C.hw w_55)) (ty := (.array .byte)) (by decide)) (D496 (Or.inl (C.hw w_57)) (ty := .byte) (by decide)) (D496 (Or.inl (C.hw w_83)) (ty := .int) (by decide)) (Sta_keep Szc K497) hzc)) (allS (mg (i := 0) rfl) all0) (by decide) 1 (by decide) rfl pd___V rfl [(.ref b496)] rfl (Nat.le_of_eq rfl) d_prog_8_method_11_code_4 (by decide) (by decide) ?_
  intro v498 h498 ns498 Q498
  obtain ⟨t498, kt498, rfl, rfl, KC498, le498, SB498⟩ := Q498
  refine g_aloadN C d_prog_8_method_11_code_7 rfl rfl ?_
  have K499 : Keep h0 h498 [] := K497.trans KC498 (allS (Or.inr (Nat.le_of_eq g496.symm)) all0)
  have S500 := (S2.keep K499 nin0 nin0)
  refine g_static C w_294 w_295 w_38 w_296 (by decide) [(.ref s2)] (ct_of hEL hw w_296 w_38 (rm_readWriteLock l Z a0 hw hEL s2 t2 _ nm zc h498 n0 S500 hn2 hp hno (Sta_keep Szc K499) hzc)) all0 (by decide) 1 (by decide) rfl pd__Ljava_lang_String__Ljava_lang_String_ rfl [(.ref b496)] rfl (Nat.le_of_eq rfl) d_prog_8_method_11_code_8 (by decide) (by decide) ?_
  intro v501 h501 Q501
  obtain ⟨a501, t501, k501, rfl, KC501, le501, lt501, S501⟩ := Q501
  have K503 : Keep h498 h501 [] := (Keep.refl h498 []).trans KC501 all0
  have E504 := (SB498.1.keep K503)
  have F505 := (SB498.2.1.keep K503 nin0)
  have F506 := (SB498.2.2.1.keep K503 nin0)
  have F507 := (SB498.2.2.2.1.keep K503 nin0)
  have V508 := (SB498.2.2.2.2.1.keep K503 nin0)
  have E509 := (SB498.2.2.2.2.2.2.2.2.keep K503)
  have K510 : Keep h0 h501 [] := K499.trans KC501 all0
  refine g_virtualX C E504 w_62 w_63 (fun hZ => nf_sel hw w_65 hZ) w_65 w_64 (by decide) [(.ref a501)] (ct_of hEL hw w_66 w_42 (rm_sa l Z a0 hw hEL b496 t498 a501 t501 _ _ 16 [] (([] ++ [104, 111, 108, 100, 102, 97, 115, 116, 58, 114, 119, 108, 111, 99, 107, 58]) ++ (tag nm)) zc h501 n0 ⟨E504, F505, F506, F507, V508, SB498.2.2.2.2.2.1, SB498.2.2.2.2.2.2.1, SB498.2.2.2.2.2.2.2.1, E509⟩ S501 (Ne.symm (Nat.ne_of_lt (Nat.lt_of_lt_of_le SB498.1.lt le501))) (Ne.symm (Nat.ne_of_lt (Nat.lt_of_lt_of_le SB498.2.2.2.2.1.lt le501))) (Ne.symm (Nat.ne_of_lt (Nat.lt_of_lt_of_le SB498.1.lt lt501))) (Ne.symm (Nat.ne_of_lt (Nat.lt_of_lt_of_le SB498.2.2.2.2.1.lt lt501))) (Nat.ne_of_lt (Nat.lt_of_lt_of_le A496.lt le498)) (by first | omega | (simp only [List.length_append, List.length_cons, List.length_nil, tag]; omega)) (Sta_keep Szc K510) hzc)) (allS (mg (i := 1) rfl) (allS (mg (i := 0) rfl) all0)) (by decide) 0 (by decide) rfl pd__Ljava_lang_String__Ljava_lang_StringBuilder_ rfl [] rfl (Nat.le_of_eq rfl) d_prog_8_method_11_code_11 (by decide) (by decide) ?_
  intro v502 h502 ns502 Q502
  obtain ⟨t'502, kt'502, cap'502, rfl, rfl, KC502, or502, SB502⟩ := Q502
  refine g_ldcS C hEL w_306 own_sA (mg (i := 7) rfl) [58, 114, 101, 97, 100] ⟨by decide +kernel, by decide +kernel⟩ (by decide) (by decide) d_prog_8_method_11_code_14 20 (by decide +kernel) (by decide) (by decide) (by decide) ?_
  intro a511 t511 kb511 h511 E511 S511 X511
  have K513 : Keep h502 h511 [] := (Keep.refl h502 []).ext E511
  have E514 := (SB502.1.keep K513)
  have F515 := (SB502.2.1.keep K513 nin0)
  have F516 := (SB502.2.2.1.keep K513 nin0)
  have F517 := (SB502.2.2.2.1.keep K513 nin0)
  have V518 := (SB502.2.2.2.2.1.keep K513 nin0)
  have E519 := (SB502.2.2.2.2.2.2.2.2.keep K513)
  have K520 : Keep h0 h502 [] := K510.trans KC502 (allS (Or.inr (Nat.le_of_eq g496.symm)) (allS (Or.inr (Nat.le_trans K497.1 le498)) all0))
  have K521 : Keep h0 h511 [] := K520.ext E511
  refine g_virtualX C E514 w_62 w_63 (fun hZ => nf_sel hw w_65 hZ) w_65 w_64 (by decide) [(.ref a511)] (ct_of hEL hw w_66 w_42 (rm_sa l Z a0 hw hEL b496 t'502 a511 t511 _ _ cap'502 ([] ++ (([] ++ [104, 111, 108, 100, 102, 97, 115, 116, 58, 114, 119, 108, 111, 99, 107, 58]) ++ (tag nm))) [58, 114, 101, 97, 100] zc h511 n0 ⟨E514, F515, F516, F517, V518, SB502.2.2.2.2.2.1, SB502.2.2.2.2.2.2.1, SB502.2.2.2.2.2.2.2.1, E519⟩ S511 (Ne.symm (X511 _ (mg (i := 2) rfl)).1) (Ne.symm (X511 _ (mg (i := 0) rfl)).1) (Ne.symm (X511 _ (mg (i := 2) rfl)).2) (Ne.symm (X511 _ (mg (i := 0) rfl)).2) (own_alt or502 (Nat.ne_of_lt (Nat.lt_of_lt_of_le A496.lt le498)) E504.lt) (by first | omega | (simp only [List.length_append, List.length_cons, List.length_nil, tag]; omega)) (Sta_keep Szc K521) hzc)) (allS (mg (i := 2) rfl) (allS (mg (i := 0) rfl) all0)) (by decide) 0 (by decide) rfl pd__Ljava_lang_String__Ljava_lang_StringBuilder_ rfl [] rfl (Nat.le_of_eq rfl) d_prog_8_method_11_code_16 (by decide) (by decide) ?_
  intro v512 h512 ns512 Q512
  obtain ⟨t'512, kt'512, cap'512, rfl, rfl, KC512, or512, SB512⟩ := Q512
  have K522 : Keep h0 h512 [] := K521.trans KC512 (allS (Or.inr (Nat.le_of_eq g496.symm)) (allS (Or.inr (own_alt_le or502 (Nat.le_trans K497.1 le498) K510.1)) all0))
  refine g_virtual C SB512.1 w_156 w_157 (fun hZ => nf_sel hw w_159 hZ) w_159 w_158 (by decide) [] (ct_of hEL hw w_160 w_42 (rm_ts l Z a0 hw hEL b496 t'512 _ cap'512 (([] ++ (([] ++ [104, 111, 108, 100, 102, 97, 115, 116, 58, 114, 119, 108, 111, 99, 107, 58]) ++ (tag nm))) ++ [58, 114, 101, 97, 100]) zc h512 n0 SB512 (by first | omega | (simp only [List.length_append, List.length_cons, List.length_nil, tag]; omega)) (Sta_keep Szc K522) hzc)) all0 (by decide) 0 (by decide) rfl pd___Ljava_lang_String_ rfl [] rfl (Nat.le_of_eq rfl) d_prog_8_method_11_code_19 (by decide) (by decide) ?_
  intro v523 h523 Q523
  obtain ⟨a523, t523, k523, rfl, KC523, le523, lt523, S523⟩ := Q523
  refine g_areturn C hEL (t := (.object "java/lang/String")) rfl rfl rfl d_prog_8_method_11_code_22 (by decide) (by decide) ?_
  have K524 : Keep h0 h523 [] := K522.trans KC523 all0
  exact ⟨a523, _, _, rfl, K524, (Nat.le_trans K522.1 le523), (Nat.le_trans K522.1 lt523), S523⟩
theorem d_prog_8_method_15_code_0 : decode prog_8_method_15_code 0 = .ok (.new 7, 3) := by decide +kernel
theorem d_prog_8_method_15_code_3 : decode prog_8_method_15_code 3 = .ok (.dup, 1) := by decide +kernel
theorem d_prog_8_method_15_code_4 : decode prog_8_method_15_code 4 = .ok (.invokespecial 9, 3) := by decide +kernel
theorem d_prog_8_method_15_code_7 : decode prog_8_method_15_code 7 = .ok (.aload_n 0, 1) := by decide +kernel
theorem d_prog_8_method_15_code_8 : decode prog_8_method_15_code 8 = .ok (.invokestatic 44, 3) := by decide +kernel
theorem d_prog_8_method_15_code_11 : decode prog_8_method_15_code 11 = .ok (.invokevirtual 14, 3) := by decide +kernel
theorem d_prog_8_method_15_code_14 : decode prog_8_method_15_code 14 = .ok (.ldc 42, 2) := by decide +kernel
theorem d_prog_8_method_15_code_16 : decode prog_8_method_15_code 16 = .ok (.invokevirtual 14, 3) := by decide +kernel
theorem d_prog_8_method_15_code_19 : decode prog_8_method_15_code 19 = .ok (.invokevirtual 22, 3) := by decide +kernel
theorem d_prog_8_method_15_code_22 : decode prog_8_method_15_code 22 = .ok (.areturn, 1) := by decide +kernel
theorem rm_places (l : Launch) (Z : State) (a0 : Array Value) (hw : ∀ d ∈ tables_1, d.before a0 Z = true) (hEL : EW Z a0 consts_1) {ws : List Jvm.Cond} (s2 t2 : Addr) (k2 : ClassId) (nm : List Int32) (zc : Int32) (h0 : Heap) (n0 : Nat) (S2 : Str Z h0 s2 t2 k2 nm) (hn2 : nm.length ≤ 2) (hp : 0 < nm.length) (hno : ∀ x ∈ nm, x ≠ 125) (Szc : Sta Z h0 "java/lang/String" "COMPACT_STRINGS" "Z" (.int zc)) (hzc : ¬ (zc = (0 : Int32))) :
    Met l Z consts_1 (⟨"com/example/holdfast/holdfast/Keys", "places", "(Ljava/lang/String;)Ljava/lang/String;"⟩ : MethodName) prog_8_method_15_code 1 (some (.object "java/lang/String")) ws ({ frames := 8, cells := 50, slots := 1900, locals := 170 } : Room) [] #[(.ref s2)] h0 n0 (nq (fun v h => ∃ a t' k', v = some (.ref a) ∧ Keep h0 h [] ∧ h0.size ≤ a ∧ h0.size ≤ t' ∧ Str Z h a t' k' (([] ++ (([] ++ [104, 111, 108, 100, 102, 97, 115, 116, 58, 114, 119, 108, 111, 99, 107, 58]) ++ (tag nm))) ++ [58, 119, 97, 105, 116, 105, 110, 103]))) := by
  refine met_of (plainFor_of_name pn_com_example_holdfast_holdfast_Keys) hw #[.val (.ref s2)] (fun m => by first | rfl | (simp [entryFrame, mkF, argsToLocals, Value.category]; done)) ?_
  intro p e s m below meth c C0
  have C : Cx Z a0 tables_1 p s m meth c "com/example/holdfast/holdfast/Keys" "places" prog_8_method_15_code 1 (some (.object "java/lang/String")) n0 := C0
  refine g_new C w_40 w_41 w_42 d_prog_8_method_15_code_0 (by decide) (by decide) ?_
  intro b525 h525 g525 E525 A525 D525
  refine g_dup C d_prog_8_method_15_code_3 rfl ?_
  have K526 : Keep h0 h525 [] := (Keep.refl h0 []).ext E525
  refine g_specialX C (a := b525) w_43 w_44 w_45 rfl (by decide) [] (ct_of hEL hw w_45 w_42 (rm_si l Z a0 hw hEL b525 zc h525 n0 A525 (D525 (Or.inl (C.hw w_55)) (ty := (.array .byte)) (by decide)) (D525 (Or.inl (C.hw w_57)) (ty := .byte) (by decide)) (D525 (Or.inl (C.hw w_83)) (ty := .int) (by decide)) (Sta_keep Szc K526) hzc)) (allS (mg (i := 0) rfl) all0) (by decide) 1 (by decide) rfl pd___V rfl [(.ref b525)] rfl (Nat.le_of_eq rfl) d_prog_8_method_15_code_4 (by decide) (by decide) ?_
  intro v527 h527 ns527 Q527
  obtain ⟨t527, kt527, rfl, rfl, KC527, le527, SB527⟩ := Q527
  refine g_aloadN C d_prog_8_method_15_code_7 rfl rfl ?_
  have K528 : Keep h0 h527 [] := K526.trans KC527 (allS (Or.inr (Nat.le_of_eq g525.symm)) all0)
  have S529 := (S2.keep K528 nin0 nin0)
  refine g_static C w_294 w_295 w_38 w_296 (by decide) [(.ref s2)] (ct_of hEL hw w_296 w_38 (rm_readWriteLock l Z a0 hw hEL s2 t2 _ nm zc h527 n0 S529 hn2 hp hno (Sta_keep Szc K528) hzc)) all0 (by decide) 1 (by decide) rfl pd__Ljava_lang_String__Ljava_lang_String_ rfl [(.ref b525)] rfl (Nat.le_of_eq rfl) d_prog_8_method_15_code_8 (by decide) (by decide) ?_
  intro v530 h530 Q530
  obtain ⟨a530, t530, k530, rfl, KC530, le530, lt530, S530⟩ := Q530
  have K532 : Keep h527 h530 [] := (Keep.refl h527 []).trans KC530 all0
  have E533 := (SB527.1.keep K532)
  have F534 := (SB527.2.1.keep K532 nin0)
  have F535 := (SB527.2.2.1.keep K532 nin0)
  have F536 := (SB527.2.2.2.1.keep K532 nin0)
  have V537 := (SB527.2.2.2.2.1.keep K532 nin0)
  have E538 := (SB527.2.2.2.2.2.2.2.2.keep K532)
  have K539 : Keep h0 h530 [] := K528.trans KC530 all0
  refine g_virtualX C E533 w_62 w_63 (fun hZ => nf_sel hw w_65 hZ) w_65 w_64 (by decide) [(.ref a530)] (ct_of hEL hw w_66 w_42 (rm_sa l Z a0 hw hEL b525 t527 a530 t530 _ _ 16 [] (([] ++ [104, 111, 108, 100, 102, 97, 115, 116, 58, 114, 119, 108, 111, 99, 107, 58]) ++ (tag nm)) zc h530 n0 ⟨E533, F534, F535, F536, V537, SB527.2.2.2.2.2.1, SB527.2.2.2.2.2.2.1, SB527.2.2.2.2.2.2.2.1, E538⟩ S530 (Ne.symm (Nat.ne_of_lt (Nat.lt_of_lt_of_le SB527.1.lt le530))) (Ne.symm (Nat.ne_of_lt (Nat.lt_of_lt_of_le SB527.2.2.2.2.1.lt le530))) (Ne.symm (Nat.ne_of_lt (Nat.lt_of_lt_of_le SB527.1.lt lt530))) (Ne.symm (Nat.ne_of_lt (Nat.lt_of_lt_of_le SB527.2.2.2.2.1.lt lt530))) (Nat.ne_of_lt (Nat.lt_of_lt_of_le A525.lt le527)) (by first | omega | (simp only [List.length_append, List.length_cons, List.length_nil, tag]; omega)) (Sta_keep Szc K539) hzc)) (allS (mg (i := 1) rfl) (allS (mg (i := 0) rfl) all0)) (by decide) 0 (by decide) rfl pd__Ljava_lang_String__Ljava_lang_StringBuilder_ rfl [] rfl (Nat.le_of_eq rfl) d_prog_8_method_15_code_11 (by decide) (by decide) ?_
  intro v531 h531 ns531 Q531
  obtain ⟨t'531, kt'531, cap'531, rfl, rfl, KC531, or531, SB531⟩ := Q531
  refine g_ldcS C hEL w_298 own_sA (mg (i := 5) rfl) [58, 119, 97, 105, 116, 105, 110, 103] ⟨by decide +kernel, by decide +kernel⟩ (by decide) (by decide) d_prog_8_method_15_code_14 32 (by decide +kernel) (by decide) (by decide) (by decide) ?_
  intro a540 t540 kb540 h540 E540 S540 X540
  have K542 : Keep h531 h540 [] := (Keep.refl h531 []).ext E540
  have E543 := (SB531.1.keep K542)
  have F544 := (SB531.2.1.keep K542 nin0)
  have F545 := (SB531.2.2.1.keep K542 nin0)
  have F546 := (SB531.2.2.2.1.keep K542 nin0)
  have V547 := (SB531.2.2.2.2.1.keep K542 nin0)
  have E548 := (SB531.2.2.2.2.2.2.2.2.keep K542)
  have K549 : Keep h0 h531 [] := K539.trans KC531 (allS (Or.inr (Nat.le_of_eq g525.symm)) (allS (Or.inr (Nat.le_trans K526.1 le527)) all0))
  have K550 : Keep h0 h540 [] := K549.ext E540
  refine g_virtualX C E543 w_62 w_63 (fun hZ => nf_sel hw w_65 hZ) w_65 w_64 (by decide) [(.ref a540)] (ct_of hEL hw w_66 w_42 (rm_sa l Z a0 hw hEL b525 t'531 a540 t540 _ _ cap'531 ([] ++ (([] ++ [104, 111, 108, 100, 102, 97, 115, 116, 58, 114, 119, 108, 111, 99, 107, 58]) ++ (tag nm))) [58, 119, 97, 105, 116, 105, 110, 103] zc h540 n0 ⟨E543, F544, F545, F546, V547, SB531.2.2.2.2.2.1, SB531.2.2.2.2.2.2.1, SB531.2.2.2.2.2.2.2.1, E548⟩ S540 (Ne.symm (X540 _ (mg (i := 2) rfl)).1) (Ne.symm (X540 _ (mg (i := 0) rfl)).1) (Ne.symm (X540 _ (mg (i := 2) rfl)).2) (Ne.symm (X540 _ (mg (i := 0) rfl)).2) (own_alt or531 (Nat.ne_of_lt (Nat.lt_of_lt_of_le A525.lt le527)) E533.lt) (by first | omega | (simp only [List.length_append, List.length_cons, List.length_nil, tag]; omega)) (Sta_keep Szc K550) hzc)) (allS (mg (i := 2) rfl) (allS (mg (i := 0) rfl) all0)) (by decide) 0 (by decide) rfl pd__Ljava_lang_String__Ljava_lang_StringBuilder_ rfl [] rfl (Nat.le_of_eq rfl) d_prog_8_method_15_code_16 (by decide) (by decide) ?_
  intro v541 h541 ns541 Q541
  obtain ⟨t'541, kt'541, cap'541, rfl, rfl, KC541, or541, SB541⟩ := Q541
  have K551 : Keep h0 h541 [] := K550.trans KC541 (allS (Or.inr (Nat.le_of_eq g525.symm)) (allS (Or.inr (own_alt_le or531 (Nat.le_trans K526.1 le527) K539.1)) all0))
  refine g_virtual C SB541.1 w_156 w_157 (fun hZ => nf_sel hw w_159 hZ) w_159 w_158 (by decide) [] (ct_of hEL hw w_160 w_42 (rm_ts l Z a0 hw hEL b525 t'541 _ cap'541 (([] ++ (([] ++ [104, 111, 108, 100, 102, 97, 115, 116, 58, 114, 119, 108, 111, 99, 107, 58]) ++ (tag nm))) ++ [58, 119, 97, 105, 116, 105, 110, 103]) zc h541 n0 SB541 (by first | omega | (simp only [List.length_append, List.length_cons, List.length_nil, tag]; omega)) (Sta_keep Szc K551) hzc)) all0 (by decide) 0 (by decide) rfl pd___Ljava_lang_String_ rfl [] rfl (Nat.le_of_eq rfl) d_prog_8_method_15_code_19 (by decide) (by decide) ?_
  intro v552 h552 Q552
  obtain ⟨a552, t552, k552, rfl, KC552, le552, lt552, S552⟩ := Q552
  refine g_areturn C hEL (t := (.object "java/lang/String")) rfl rfl rfl d_prog_8_method_15_code_22 (by decide) (by decide) ?_
  have K553 : Keep h0 h552 [] := K551.trans KC552 all0
  exact ⟨a552, _, _, rfl, K553, (Nat.le_trans K551.1 le552), (Nat.le_trans K551.1 lt552), S552⟩
theorem d_prog_8_method_21_code_0 : decode prog_8_method_21_code 0 = .ok (.new 7, 3) := by decide +kernel
theorem d_prog_8_method_21_code_3 : decode prog_8_method_21_code 3 = .ok (.dup, 1) := by decide +kernel
theorem d_prog_8_method_21_code_4 : decode prog_8_method_21_code 4 = .ok (.invokespecial 9, 3) := by decide +kernel
theorem d_prog_8_method_21_code_7 : decode prog_8_method_21_code 7 = .ok (.aload_n 0, 1) := by decide +kernel
theorem d_prog_8_method_21_code_8 : decode prog_8_method_21_code 8 = .ok (.invokestatic 67, 3) := by decide +kernel
theorem d_prog_8_method_21_code_11 : decode prog_8_method_21_code 11 = .ok (.invokevirtual 14, 3) := by decide +kernel
theorem d_prog_8_method_21_code_14 : decode prog_8_method_21_code 14 = .ok (.ldc 70, 2) := by decide +kernel
theorem d_prog_8_method_21_code_16 : decode prog_8_method_21_code 16 = .ok (.invokevirtual 14, 3) := by decide +kernel
theorem d_prog_8_method_21_code_19 : decode prog_8_method_21_code 19 = .ok (.invokevirtual 22, 3) := by decide +kernel
theorem d_prog_8_method_21_code_22 : decode prog_8_method_21_code 22 = .ok (.areturn, 1) := by decide +kernel
theorem rm_semaphoreCopy (l : Launch) (Z : State) (a0 : Array Value) (hw : ∀ d ∈ tables_1, d.before a0 Z = true) (hEL : EW Z a0 consts_1) {ws : List Jvm.Cond} (s2 t2 : Addr) (k2 : ClassId) (nm : List Int32) (zc : Int32) (h0 : Heap) (n0 : Nat) (S2 : Str Z h0 s2 t2 k2 nm) (hn2 : nm.length ≤ 2) (hp : 0 < nm.length) (hno : ∀ x ∈ nm, x ≠ 125) (Szc : Sta Z h0 "java/lang/String" "COMPACT_STRINGS" "Z" (.int zc)) (hzc : ¬ (zc = (0 : Int32))) :
    Met l Z consts_1 (⟨"com/example/holdfast/holdfast/Keys", "semaphoreCopy", "(Ljava/lang/String;)Ljava/lang/String;"⟩ : MethodName) prog_8_method_21_code 1 (some (.object "java/lang/String")) ws ({ frames := 8, cells := 50, slots := 1900, locals := 170 } : Room) [] #[(.ref s2)] h0 n0 (nq (fun v h => ∃ a t' k', v = some (.ref a) ∧ Keep h0 h [] ∧ h0.size ≤ a ∧ h0.size ≤ t' ∧ Str Z h a t' k' (([] ++ (([] ++ [104, 111, 108, 100, 102, 97, 115, 116, 58, 115, 101, 109, 97, 112, 104, 111, 114, 101, 58]) ++ (tag nm))) ++ [58, 99, 111, 112, 121]))) := by
  refine met_of (plainFor_of_name pn_com_example_holdfast_holdfast_Keys) hw #[.val (.ref s2)] (fun m => by first | rfl | (simp [entryFrame, mkF, argsToLocals, Value.category]; done)) ?_
  intro p e s m below meth c C0
  have C : Cx Z a0 tables_1 p s m meth c "com/example/holdfast/holdfast/Keys" "semaphoreCopy" prog_8_method_21_code 1 (some (.object "java/lang/String")) n0 := C0
  refine g_new C w_40 w_41 w_42 d_prog_8_method_21_code_0 (by decide) (by decide) ?_
  intro b554 h554 g554 E554 A554 D554
  refine g_dup C d_prog_8_method_21_code_3 rfl ?_
  have K555 : Keep h0 h554 [] := (Keep.refl h0 []).ext E554
  refine g_specialX C (a := b554) w_43 w_44 w_45 rfl (by decide) [] (ct_of hEL hw w_45 w_42 (rm_si l Z a0 hw hEL b554 zc h554 n0 A554 (D554 (Or.inl (C.hw w_55)) (ty := (.array .byte)) (by decide)) (D554 (Or.inl (C.hw w_57)) (ty := .byte) (by decide)) (D554 (Or.inl (C.hw w_83)) (ty := .int) (by decide)) (Sta_keep Szc K555) hzc)) (allS (mg (i := 0) rfl) all0) (by decide) 1 (by decide) rfl pd___V rfl [(.ref b554)] rfl (Nat.le_of_eq rfl) d_prog_8_method_21_code_4 (by decide) (by decide) ?_
  intro v556 h556 ns556 Q556
  obtain ⟨t556, kt556, rfl, rfl, KC556, le556, SB556⟩ := Q556
  refine g_aloadN C d_prog_8_method_21_code_7 rfl rfl ?_
  have K557 : Keep h0 h556 [] := K555.trans KC556 (allS (Or.inr (Nat.le_of_eq g554.symm)) all0)
  have S558 := (S2.keep K557 nin0 nin0)
  refine g_static C w_318 w_319 w_38 w_320 (by decide) [(.ref s2)] (ct_of hEL hw w_320 w_38 (rm_semaphore l Z a0 hw hEL s2 t2 _ nm zc h556 n0 S558 hn2 hp hno (Sta_keep Szc K557) hzc)) all0 (by decide) 1 (by decide) rfl pd__Ljava_lang_String__Ljava_lang_String_ rfl [(.ref b554)] rfl (Nat.le_of_eq rfl) d_prog_8_method_21_code_8 (by decide) (by decide) ?_
  intro v559 h559 Q559
  obtain ⟨a559, t559, k559, rfl, KC559, le559, lt559, S559⟩ := Q559
  have K561 : Keep h556 h559 [] := (Keep.refl h556 []).trans KC559 all0
  have E562 := (SB556.1.keep K561)
  have F563 := (SB556.2.1.keep K561 nin0)
  have F564 := (SB556.2.2.1.keep K561 nin0)
  have F565 := (SB556.2.2.2.1.keep K561 nin0)
  have V566 := (SB556.2.2.2.2.1.keep K561 nin0)
  have E567 := (SB556.2.2.2.2.2.2.2.2.keep K561)
  have K568 : Keep h0 h559 [] := K557.trans KC559 all0
  refine g_virtualX C E562 w_62 w_63 (fun hZ => nf_sel hw w_65 hZ) w_65 w_64 (by decide) [(.ref a559)] (ct_of hEL hw w_66 w_42 (rm_sa l Z a0 hw hEL b554 t556 a559 t559 _ _ 16 [] (([] ++ [104, 111, 108, 100, 102, 97, 115, 116, 58, 115, 101, 109, 97, 112, 104, 111, 114, 101, 58]) ++ (tag nm)) zc h559 n0 ⟨E562, F563, F564, F565, V566, SB556.2.2.2.2.2.1, SB556.2.2.2.2.2.2.1, SB556.2.2.2.2.2.2.2.1, E567⟩ S559 (Ne.symm (Nat.ne_of_lt (Nat.lt_of_lt_of_le SB556.1.lt le559))) (Ne.symm (Nat.ne_of_lt (Nat.lt_of_lt_of_le SB556.2.2.2.2.1.lt le559))) (Ne.symm (Nat.ne_of_lt (Nat.lt_of_lt_of_le SB556.1.lt lt559))) (Ne.symm (Nat.ne_of_lt (Nat.lt_of_lt_of_le SB556.2.2.2.2.1.lt lt559))) (Nat.ne_of_lt (Nat.lt_of_lt_of_le A554.lt le556)) (by first | omega | (simp only [List.length_append, List.length_cons, List.length_nil, tag]; omega)) (Sta_keep Szc K568) hzc)) (allS (mg (i := 1) rfl) (allS (mg (i := 0) rfl) all0)) (by decide) 0 (by decide) rfl pd__Ljava_lang_String__Ljava_lang_StringBuilder_ rfl [] rfl (Nat.le_of_eq rfl) d_prog_8_method_21_code_11 (by decide) (by decide) ?_
  intro v560 h560 ns560 Q560
  obtain ⟨t'560, kt'560, cap'560, rfl, rfl, KC560, or560, SB560⟩ := Q560
  refine g_ldcS C hEL w_322 own_sA (mg (i := 11) rfl) [58, 99, 111, 112, 121] ⟨by decide +kernel, by decide +kernel⟩ (by decide) (by decide) d_prog_8_method_21_code_14 20 (by decide +kernel) (by decide) (by decide) (by decide) ?_
  intro a569 t569 kb569 h569 E569 S569 X569
  have K571 : Keep h560 h569 [] := (Keep.refl h560 []).ext E569
  have E572 := (SB560.1.keep K571)
  have F573 := (SB560.2.1.keep K571 nin0)
  have F574 := (SB560.2.2.1.keep K571 nin0)
  have F575 := (SB560.2.2.2.1.keep K571 nin0)
  have V576 := (SB560.2.2.2.2.1.keep K571 nin0)
  have E577 := (SB560.2.2.2.2.2.2.2.2.keep K571)
  have K578 : Keep h0 h560 [] := K568.trans KC560 (allS (Or.inr (Nat.le_of_eq g554.symm)) (allS (Or.inr (Nat.le_trans K555.1 le556)) all0))
  have K579 : Keep h0 h569 [] := K578.ext E569
  refine g_virtualX C E572 w_62 w_63 (fun hZ => nf_sel hw w_65 hZ) w_65 w_64 (by decide) [(.ref a569)] (ct_of hEL hw w_66 w_42 (rm_sa l Z a0 hw hEL b554 t'560 a569 t569 _ _ cap'560 ([] ++ (([] ++ [104, 111, 108, 100, 102, 97, 115, 116, 58, 115, 101, 109, 97, 112, 104, 111, 114, 101, 58]) ++ (tag nm))) [58, 99, 111, 112, 121] zc h569 n0 ⟨E572, F573, F574, F575, V576, SB560.2.2.2.2.2.1, SB560.2.2.2.2.2.2.1, SB560.2.2.2.2.2.2.2.1, E577⟩ S569 (Ne.symm (X569 _ (mg (i := 2) rfl)).1) (Ne.symm (X569 _ (mg (i := 0) rfl)).1) (Ne.symm (X569 _ (mg (i := 2) rfl)).2) (Ne.symm (X569 _ (mg (i := 0) rfl)).2) (own_alt or560 (Nat.ne_of_lt (Nat.lt_of_lt_of_le A554.lt le556)) E562.lt) (by first | omega | (simp only [List.length_append, List.length_cons, List.length_nil, tag]; omega)) (Sta_keep Szc K579) hzc)) (allS (mg (i := 2) rfl) (allS (mg (i := 0) rfl) all0)) (by decide) 0 (by decide) rfl pd__Ljava_lang_String__Ljava_lang_StringBuilder_ rfl [] rfl (Nat.le_of_eq rfl) d_prog_8_method_21_code_16 (by decide) (by decide) ?_
  intro v570 h570 ns570 Q570
  obtain ⟨t'570, kt'570, cap'570, rfl, rfl, KC570, or570, SB570⟩ := Q570
  have K580 : Keep h0 h570 [] := K579.trans KC570 (allS (Or.inr (Nat.le_of_eq g554.symm)) (allS (Or.inr (own_alt_le or560 (Nat.le_trans K555.1 le556) K568.1)) all0))
  refine g_virtual C SB570.1 w_156 w_157 (fun hZ => nf_sel hw w_159 hZ) w_159 w_158 (by decide) [] (ct_of hEL hw w_160 w_42 (rm_ts l Z a0 hw hEL b554 t'570 _ cap'570 (([] ++ (([] ++ [104, 111, 108, 100, 102, 97, 115, 116, 58, 115, 101, 109, 97, 112, 104, 111, 114, 101, 58]) ++ (tag nm))) ++ [58, 99, 111, 112, 121]) zc h570 n0 SB570 (by first | omega | (simp only [List.length_append, List.length_cons, List.length_nil, tag]; omega)) (Sta_keep Szc K580) hzc)) all0 (by decide) 0 (by decide) rfl pd___Ljava_lang_String_ rfl [] rfl (Nat.le_of_eq rfl) d_prog_8_method_21_code_19 (by decide) (by decide) ?_
  intro v581 h581 Q581
  obtain ⟨a581, t581, k581, rfl, KC581, le581, lt581, S581⟩ := Q581
  refine g_areturn C hEL (t := (.object "java/lang/String")) rfl rfl rfl d_prog_8_method_21_code_22 (by decide) (by decide) ?_
  have K582 : Keep h0 h581 [] := K580.trans KC581 all0
  exact ⟨a581, _, _, rfl, K582, (Nat.le_trans K580.1 le581), (Nat.le_trans K580.1 lt581), S581⟩
theorem d_prog_8_method_17_code_0 : decode prog_8_method_17_code 0 = .ok (.new 7, 3) := by decide +kernel
theorem d_prog_8_method_17_code_3 : decode prog_8_method_17_code 3 = .ok (.dup, 1) := by decide +kernel
theorem d_prog_8_method_17_code_4 : decode prog_8_method_17_code 4 = .ok (.invokespecial 9, 3) := by decide +kernel
theorem d_prog_8_method_17_code_7 : decode prog_8_method_17_code 7 = .ok (.aload_n 0, 1) := by decide +kernel
theorem d_prog_8_method_17_code_8 : decode prog_8_method_17_code 8 = .ok (.invokestatic 60, 3) := by decide +kernel
theorem d_prog_8_method_17_code_11 : decode prog_8_method_17_code 11 = .ok (.invokevirtual 14, 3) := by decide +kernel
theorem d_prog_8_method_17_code_14 : decode prog_8_method_17_code 14 = .ok (.ldc 47, 2) := by decide +kernel
theorem d_prog_8_method_17_code_16 : decode prog_8_method_17_code 16 = .ok (.invokevirtual 14, 3) := by decide +kernel
theorem d_prog_8_method_17_code_19 : decode prog_8_method_17_code 19 = .ok (.invokevirtual 22, 3) := by decide +kernel
theorem d_prog_8_method_17_code_22 : decode prog_8_method_17_code 22 = .ok (.areturn, 1) := by decide +kernel
theorem rm_waitingWriters (l : Launch) (Z : State) (a0 : Array Value) (hw : ∀ d ∈ tables_1, d.before a0 Z = true) (hEL : EW Z a0 consts_1) {ws : List Jvm.Cond} (s2 t2 : Addr) (k2 : ClassId) (nm : List Int32) (zc : Int32) (h0 : Heap) (n0 : Nat) (S2 : Str Z h0 s2 t2 k2 nm) (hn2 : nm.length ≤ 2) (hp : 0 < nm.length) (hno : ∀ x ∈ nm, x ≠ 125) (Szc : Sta Z h0 "java/lang/String" "COMPACT_STRINGS" "Z" (.int zc)) (hzc : ¬ (zc = (0 : Int32))) :
    Met l Z consts_1 (⟨"com/example/holdfast/holdfast/Keys", "waitingWriters", "(Ljava/lang/String;)Ljava/lang/String;"⟩ : MethodName) prog_8_method_17_code 1 (some (.object "java/lang/String")) ws ({ frames := 9, cells := 60, slots := 2400, locals := 190 } : Room) [] #[(.ref s2)] h0 n0 (nq (fun v h => ∃ a t' k', v = some (.ref a) ∧ Keep h0 h [] ∧ h0.size ≤ a ∧ h0.size ≤ t' ∧ Str Z h a t' k' (([] ++ (([] ++ (([] ++ [104, 111, 108, 100, 102, 97, 115, 116, 58, 114, 119, 108, 111, 99, 107, 58]) ++ (tag nm))) ++ [58, 119, 97, 105, 116, 105, 110, 103])) ++ [58, 119, 114, 105, 116, 101]))) := by
  refine met_of (plainFor_of_name pn_com_example_holdfast_holdfast_Keys) hw #[.val (.ref s2)] (fun m => by first | rfl | (simp [entryFrame, mkF, argsToLocals, Value.category]; done)) ?_
  intro p e s m below meth c C0
  have C : Cx Z a0 tables_1 p s m meth c "com/example/holdfast/holdfast/Keys" "waitingWriters" prog_8_method_17_code 1 (some (.object "java/lang/String")) n0 := C0
  refine g_new C w_40 w_41 w_42 d_prog_8_method_17_code_0 (by decide) (by decide) ?_
  intro b583 h583 g583 E583 A583 D583
  refine g_dup C d_prog_8_method_17_code_3 rfl ?_
  have K584 : Keep h0 h583 [] := (Keep.refl h0 []).ext E583
  refine g_specialX C (a := b583) w_43 w_44 w_45 rfl (by decide) [] (ct_of hEL hw w_45 w_42 (rm_si l Z a0 hw hEL b583 zc h583 n0 A583 (D583 (Or.inl (C.hw w_55)) (ty := (.array .byte)) (by decide)) (D583 (Or.inl (C.hw w_57)) (ty := .byte) (by decide)) (D583 (Or.inl (C.hw w_83)) (ty := .int) (by decide)) (Sta_keep Szc K584) hzc)) (allS (mg (i := 0) rfl) all0) (by decide) 1 (by decide) rfl pd___V rfl [(.ref b583)] rfl (Nat.le_of_eq rfl) d_prog_8_method_17_code_4 (by decide) (by decide) ?_
  intro v585 h585 ns585 Q585
  obtain ⟨t585, kt585, rfl, rfl, KC585, le585, SB585⟩ := Q585
  refine g_aloadN C d_prog_8_method_17_code_7 rfl rfl ?_
  have K586 : Keep h0 h585 [] := K584.trans KC585 (allS (Or.inr (Nat.le_of_eq g583.symm)) all0)
  have S587 := (S2.keep K586 nin0 nin0)
  refine g_static C w_291 w_292 w_38 w_293 (by decide) [(.ref s2)] (ct_of hEL hw w_293 w_38 (rm_places l Z a0 hw hEL s2 t2 _ nm zc h585 n0 S587 hn2 hp hno (Sta_keep Szc K586) hzc)) all0 (by decide) 1 (by decide) rfl pd__Ljava_lang_String__Ljava_lang_String_ rfl [(.ref b583)] rfl (Nat.le_of_eq rfl) d_prog_8_method_17_code_8 (by decide) (by decide) ?_
  intro v588 h588 Q588
  obtain ⟨a588, t588, k588, rfl, KC588, le588, lt588, S588⟩ := Q588
  have K590 : Keep h585 h588 [] := (Keep.refl h585 []).trans KC588 all0
  have E591 := (SB585.1.keep K590)
  have F592 := (SB585.2.1.keep K590 nin0)
  have F593 := (SB585.2.2.1.keep K590 nin0)
  have F594 := (SB585.2.2.2.1.keep K590 nin0)
  have V595 := (SB585.2.2.2.2.1.keep K590 nin0)
  have E596 := (SB585.2.2.2.2.2.2.2.2.keep K590)
  have K597 : Keep h0 h588 [] := K586.trans KC588 all0
  refine g_virtualX C E591 w_62 w_63 (fun hZ => nf_sel hw w_65 hZ) w_65 w_64 (by decide) [(.ref a588)] (ct_of hEL hw w_66 w_42 (rm_sa l Z a0 hw hEL b583 t585 a588 t588 _ _ 16 [] (([] ++ (([] ++ [104, 111, 108, 100, 102, 97, 115, 116, 58, 114, 119, 108, 111, 99, 107, 58]) ++ (tag nm))) ++ [58, 119, 97, 105, 116, 105, 110, 103]) zc h588 n0 ⟨E591, F592, F593, F594, V595, SB585.2.2.2.2.2.1, SB585.2.2.2.2.2.2.1, SB585.2.2.2.2.2.2.2.1, E596⟩ S588 (Ne.symm (Nat.ne_of_lt (Nat.lt_of_lt_of_le SB585.1.lt le588))) (Ne.symm (Nat.ne_of_lt (Nat.lt_of_lt_of_le SB585.2.2.2.2.1.lt le588))) (Ne.symm (Nat.ne_of_lt (Nat.lt_of_lt_of_le SB585.1.lt lt588))) (Ne.symm (Nat.ne_of_lt (Nat.lt_of_lt_of_le SB585.2.2.2.2.1.lt lt588))) (Nat.ne_of_lt (Nat.lt_of_lt_of_le A583.lt le585)) (by first | omega | (simp only [List.length_append, List.length_cons, List.length_nil, tag]; omega)) (Sta_keep Szc K597) hzc)) (allS (mg (i := 1) rfl) (allS (mg (i := 0) rfl) all0)) (by decide) 0 (by decide) rfl pd__Ljava_lang_String__Ljava_lang_StringBuilder_ rfl [] rfl (Nat.le_of_eq rfl) d_prog_8_method_17_code_11 (by decide) (by decide) ?_
  intro v589 h589 ns589 Q589
  obtain ⟨t'589, kt'589, cap'589, rfl, rfl, KC589, or589, SB589⟩ := Q589
  refine g_ldcS C hEL w_299 own_sA (mg (i := 6) rfl) [58, 119, 114, 105, 116, 101] ⟨by decide +kernel, by decide +kernel⟩ (by decide) (by decide) d_prog_8_method_17_code_14 24 (by decide +kernel) (by decide) (by decide) (by decide) ?_
  intro a598 t598 kb598 h598 E598 S598 X598
  have K600 : Keep h589 h598 [] := (Keep.refl h589 []).ext E598
  have E601 := (SB589.1.keep K600)
  have F602 := (SB589.2.1.keep K600 nin0)
  have F603 := (SB589.2.2.1.keep K600 nin0)
  have F604 := (SB589.2.2.2.1.keep K600 nin0)
  have V605 := (SB589.2.2.2.2.1.keep K600 nin0)
  have E606 := (SB589.2.2.2.2.2.2.2.2.keep K600)
  have K607 : Keep h0 h589 [] := K597.trans KC589 (allS (Or.inr (Nat.le_of_eq g583.symm)) (allS (Or.inr (Nat.le_trans K584.1 le585)) all0))
  have K608 : Keep h0 h598 [] := K607.ext E598
  refine g_virtualX C E601 w_62 w_63 (fun hZ => nf_sel hw w_65 hZ) w_65 w_64 (by decide) [(.ref a598)] (ct_of hEL hw w_66 w_42 (rm_sa l Z a0 hw hEL b583 t'589 a598 t598 _ _ cap'589 ([] ++ (([] ++ (([] ++ [104, 111, 108, 100, 102, 97, 115, 116, 58, 114, 119, 108, 111, 99, 107, 58]) ++ (tag nm))) ++ [58, 119, 97, 105, 116, 105, 110, 103])) [58, 119, 114, 105, 116, 101] zc h598 n0 ⟨E601, F602, F603, F604, V605, SB589.2.2.2.2.2.1, SB589.2.2.2.2.2.2.1, SB589.2.2.2.2.2.2.2.1, E606⟩ S598 (Ne.symm (X598 _ (mg (i := 2) rfl)).1) (Ne.symm (X598 _ (mg (i := 0) rfl)).1) (Ne.symm (X598 _ (mg (i := 2) rfl)).2) (Ne.symm (X598 _ (mg (i := 0) rfl)).2) (own_alt or589 (Nat.ne_of_lt (Nat.lt_of_lt_of_le A583.lt le585)) E591.lt) (by first | omega | (simp only [List.length_append, List.length_cons, List.length_nil, tag]; omega)) (Sta_keep Szc K608) hzc)) (allS (mg (i := 2) rfl) (allS (mg (i := 0) rfl) all0)) (by decide) 0 (by decide) rfl pd__Ljava_lang_String__Ljava_lang_StringBuilder_ rfl [] rfl (Nat.le_of_eq rfl) d_prog_8_method_17_code_16 (by decide) (by decide) ?_
  intro v599 h599 ns599 Q599
  obtain ⟨t'599, kt'599, cap'599, rfl, rfl, KC599, or599, SB599⟩ := Q599
  have K609 : Keep h0 h599 [] := K608.trans KC599 (allS (Or.inr (Nat.le_of_eq g583.symm)) (allS (Or.inr (own_alt_le or589 (Nat.le_trans K584.1 le585) K597.1)) all0))
  refine g_virtual C SB599.1 w_156 w_157 (fun hZ => nf_sel hw w_159 hZ) w_159 w_158 (by decide) [] (ct_of hEL hw w_160 w_42 (rm_ts l Z a0 hw hEL b583 t'599 _ cap'599 (([] ++ (([] ++ (([] ++ [104, 111, 108, 100, 102, 97, 115, 116, 58, 114, 119, 108, 111, 99, 107, 58]) ++ (tag nm))) ++ [58, 119, 97, 105, 116, 105, 110, 103])) ++ [58, 119, 114, 105, 116, 101]) zc h599 n0 SB599 (by first | omega | (simp only [List.length_append, List.length_cons, List.length_nil, tag]; omega)) (Sta_keep Szc K609) hzc)) all0 (by decide) 0 (by decide) rfl pd___Ljava_lang_String_ rfl [] rfl (Nat.le_of_eq rfl) d_prog_8_method_17_code_19 (by decide) (by decide) ?_
  intro v610 h610 Q610
  obtain ⟨a610, t610, k610, rfl, KC610, le610, lt610, S610⟩ := Q610
  refine g_areturn C hEL (t := (.object "java/lang/String")) rfl rfl rfl d_prog_8_method_17_code_22 (by decide) (by decide) ?_
  have K611 : Keep h0 h610 [] := K609.trans KC610 all0
  exact ⟨a610, _, _, rfl, K611, (Nat.le_trans K609.1 le610), (Nat.le_trans K609.1 lt610), S610⟩
theorem d_prog_8_method_13_code_0 : decode prog_8_method_13_code 0 = .ok (.new 7, 3) := by decide +kernel
theorem d_prog_8_method_13_code_3 : decode prog_8_method_13_code 3 = .ok (.dup, 1) := by decide +kernel
theorem d_prog_8_method_13_code_4 : decode prog_8_method_13_code 4 = .ok (.invokespecial 9, 3) := by decide +kernel
theorem d_prog_8_method_13_code_7 : decode prog_8_method_13_code 7 = .ok (.aload_n 0, 1) := by decide +kernel
theorem d_prog_8_method_13_code_8 : decode prog_8_method_13_code 8 = .ok (.invokevirtual 14, 3) := by decide +kernel
theorem d_prog_8_method_13_code_11 : decode prog_8_method_13_code 11 = .ok (.ldc 58, 2) := by decide +kernel
theorem d_prog_8_method_13_code_13 : decode prog_8_method_13_code 13 = .ok (.invokevirtual 14, 3) := by decide +kernel
theorem d_prog_8_method_13_code_16 : decode prog_8_method_13_code 16 = .ok (.aload_n 1, 1) := by decide +kernel
theorem d_prog_8_method_13_code_17 : decode prog_8_method_13_code 17 = .ok (.invokevirtual 14, 3) := by decide +kernel
theorem d_prog_8_method_13_code_20 : decode prog_8_method_13_code 20 = .ok (.invokevirtual 22, 3) := by decide +kernel
theorem d_prog_8_method_13_code_23 : decode prog_8_method_13_code 23 = .ok (.areturn, 1) := by decide +kernel
theorem rm_readHoldAmong (l : Launch) (Z : State) (a0 : Array Value) (hw : ∀ d ∈ tables_1, d.before a0 Z = true) (hEL : EW Z a0 consts_1) {ws : List Jvm.Cond} (s2 t2 s3 t3 : Addr) (k2 k3 : ClassId) (ds ms : List Int32) (zc : Int32) (h0 : Heap) (n0 : Nat) (S2 : Str Z h0 s2 t2 k2 ds) (S3 : Str Z h0 s3 t3 k3 ms) (hds : ds.length ≤ 30) (hms : ms.length ≤ 2) (Szc : Sta Z h0 "java/lang/String" "COMPACT_STRINGS" "Z" (.int zc)) (hzc : ¬ (zc = (0 : Int32))) :
    Met l Z consts_1 (⟨"com/example/holdfast/holdfast/Keys", "readHoldAmong", "(Ljava/lang/String;Ljava/lang/String;)Ljava/lang/String;"⟩ : MethodName) prog_8_method_13_code 2 (some (.object "java/lang/String")) ws ({ frames := 6, cells := 14, slots := 700, locals := 130 } : Room) [] #[(.ref s2), (.ref s3)] h0 n0 (nq (fun v h => ∃ a t' k', v = some (.ref a) ∧ Keep h0 h [] ∧ h0.size ≤ a ∧ h0.size ≤ t' ∧ Str Z h a t' k' ((([] ++ ds) ++ [58]) ++ ms))) := by
  refine met_of (plainFor_of_name pn_com_example_holdfast_holdfast_Keys) hw #[.val (.ref s2), .val (.ref s3)] (fun m => by first | rfl | (simp [entryFrame, mkF, argsToLocals, Value.category]; done)) ?_
  intro p e s m below meth c C0
  have C : Cx Z a0 tables_1 p s m meth c "com/example/holdfast/holdfast/Keys" "readHoldAmong" prog_8_method_13_code 2 (some (.object "java/lang/String")) n0 := C0
  refine g_new C w_40 w_41 w_42 d_prog_8_method_13_code_0 (by decide) (by decide) ?_
  intro b612 h612 g612 E612 A612 D612
  refine g_dup C d_prog_8_method_13_code_3 rfl ?_
  have K613 : Keep h0 h612 [] := (Keep.refl h0 []).ext E612
  refine g_specialX C (a := b612) w_43 w_44 w_45 rfl (by decide) [] (ct_of hEL hw w_45 w_42 (rm_si l Z a0 hw hEL b612 zc h612 n0 A612 (D612 (Or.inl (C.hw w_55)) (ty := (.array .byte)) (by decide)) (D612 (Or.inl (C.hw w_57)) (ty := .byte) (by decide)) (D612 (Or.inl (C.hw w_83)) (ty := .int) (by decide)) (Sta_keep Szc K613) hzc)) (allS (mg (i := 0) rfl) all0) (by decide) 1 (by decide) rfl pd___V rfl [(.ref b612)] rfl (Nat.le_of_eq rfl) d_prog_8_method_13_code_4 (by decide) (by decide) ?_
  intro v614 h614 ns614 Q614
  obtain ⟨t614, kt614, rfl, rfl, KC614, le614, SB614⟩ := Q614
  refine g_aloadN C d_prog_8_method_13_code_7 rfl rfl ?_
  have E616 := (S2.1.keep K613)
  have S617 := (S2.keep K613 nin0 nin0)
  have K618 : Keep h0 h614 [] := K613.trans KC614 (allS (Or.inr (Nat.le_of_eq g612.symm)) all0)
  have S619 := (S2.keep K618 nin0 nin0)
  refine g_virtualX C SB614.1 w_62 w_63 (fun hZ => nf_sel hw w_65 hZ) w_65 w_64 (by decide) [(.ref s2)] (ct_of hEL hw w_66 w_42 (rm_sa l Z a0 hw hEL b612 t614 s2 t2 _ _ 16 [] ds zc h614 n0 SB614 S619 (Nat.ne_of_lt (Nat.lt_of_lt_of_le S2.1.lt (Nat.le_of_eq g612.symm))) (Nat.ne_of_lt (Nat.lt_of_lt_of_le E616.lt le614)) (Nat.ne_of_lt (Nat.lt_of_lt_of_le S2.tlt (Nat.le_of_eq g612.symm))) (Nat.ne_of_lt (Nat.lt_of_lt_of_le S617.tlt le614)) (Nat.ne_of_lt (Nat.lt_of_lt_of_le A612.lt le614)) (by first | omega | (simp only [List.length_append, List.length_cons, List.length_nil, tag]; omega)) (Sta_keep Szc K618) hzc)) (allS (mg (i := 1) rfl) (allS (mg (i := 0) rfl) all0)) (by decide) 0 (by decide) rfl pd__Ljava_lang_String__Ljava_lang_StringBuilder_ rfl [] rfl (Nat.le_of_eq rfl) d_prog_8_method_13_code_8 (by decide) (by decide) ?_
  intro v615 h615 ns615 Q615
  obtain ⟨t'615, kt'615, cap'615, rfl, rfl, KC615, or615, SB615⟩ := Q615
  refine g_ldcS C hEL w_237 own_sA (mg (i := 8) rfl) [58] ⟨by decide +kernel, by decide +kernel⟩ (by decide) (by decide) d_prog_8_method_13_code_11 4 (by decide +kernel) (by decide) (by decide) (by decide) ?_
  intro a620 t620 kb620 h620 E620 S620 X620
  have K622 : Keep h615 h620 [] := (Keep.refl h615 []).ext E620
  have E623 := (SB615.1.keep K622)
  have F624 := (SB615.2.1.keep K622 nin0)
  have F625 := (SB615.2.2.1.keep K622 nin0)
  have F626 := (SB615.2.2.2.1.keep K622 nin0)
  have V627 := (SB615.2.2.2.2.1.keep K622 nin0)
  have E628 := (SB615.2.2.2.2.2.2.2.2.keep K622)
  have K629 : Keep h0 h615 [] := K618.trans KC615 (allS (Or.inr (Nat.le_of_eq g612.symm)) (allS (Or.inr (Nat.le_trans K613.1 le614)) all0))
  have K630 : Keep h0 h620 [] := K629.ext E620
  refine g_virtualX C E623 w_62 w_63 (fun hZ => nf_sel hw w_65 hZ) w_65 w_64 (by decide) [(.ref a620)] (ct_of hEL hw w_66 w_42 (rm_sa l Z a0 hw hEL b612 t'615 a620 t620 _ _ cap'615 ([] ++ ds) [58] zc h620 n0 ⟨E623, F624, F625, F626, V627, SB615.2.2.2.2.2.1, SB615.2.2.2.2.2.2.1, SB615.2.2.2.2.2.2.2.1, E628⟩ S620 (Ne.symm (X620 _ (mg (i := 2) rfl)).1) (Ne.symm (X620 _ (mg (i := 0) rfl)).1) (Ne.symm (X620 _ (mg (i := 2) rfl)).2) (Ne.symm (X620 _ (mg (i := 0) rfl)).2) (own_alt or615 (Nat.ne_of_lt (Nat.lt_of_lt_of_le A612.lt le614)) SB614.1.lt) (by first | omega | (simp only [List.length_append, List.length_cons, List.length_nil, tag]; omega)) (Sta_keep Szc K630) hzc)) (allS (mg (i := 2) rfl) (allS (mg (i := 0) rfl) all0)) (by decide) 0 (by decide) rfl pd__Ljava_lang_String__Ljava_lang_StringBuilder_ rfl [] rfl (Nat.le_of_eq rfl) d_prog_8_method_13_code_13 (by decide) (by decide) ?_
  intro v621 h621 ns621 Q621
  obtain ⟨t'621, kt'621, cap'621, rfl, rfl, KC621, or621, SB621⟩ := Q621
  refine g_aloadN C d_prog_8_method_13_code_16 rfl rfl ?_
  have E632 := (S3.1.keep K630)
  have E633 := (S3.1.keep K618)
  have E634 := (S3.1.keep K613)
  have S635 := (S3.keep K630 nin0 nin0)
  have S636 := (S3.keep K618 nin0 nin0)
  have S637 := (S3.keep K613 nin0 nin0)
  have K638 : Keep h0 h621 [] := K630.trans KC621 (allS (Or.inr (Nat.le_of_eq g612.symm)) (allS (Or.inr (own_alt_le or615 (Nat.le_trans K613.1 le614) K618.1)) all0))
  have S639 := (S3.keep K638 nin0 nin0)
  refine g_virtualX C SB621.1 w_62 w_63 (fun hZ => nf_sel hw w_65 hZ) w_65 w_64 (by decide) [(.ref s3)] (ct_of hEL hw w_66 w_42 (rm_sa l Z a0 hw hEL b612 t'621 s3 t3 _ _ cap'621 (([] ++ ds) ++ [58]) ms zc h621 n0 SB621 S639 (Nat.ne_of_lt (Nat.lt_of_lt_of_le S3.1.lt (Nat.le_of_eq g612.symm))) (own_alt or621 (own_alt or615 (Nat.ne_of_lt (Nat.lt_of_lt_of_le E634.lt le614)) E633.lt) E632.lt) (Nat.ne_of_lt (Nat.lt_of_lt_of_le S3.tlt (Nat.le_of_eq g612.symm))) (own_alt or621 (own_alt or615 (Nat.ne_of_lt (Nat.lt_of_lt_of_le S637.tlt le614)) S636.tlt) S635.tlt) (own_alt or621 (own_alt or615 (Nat.ne_of_lt (Nat.lt_of_lt_of_le A612.lt le614)) SB614.1.lt) E623.lt) (by first | omega | (simp only [List.length_append, List.length_cons, List.length_nil, tag]; omega)) (Sta_keep Szc K638) hzc)) (allS (mg (i := 3) rfl) (allS (mg (i := 0) rfl) all0)) (by decide) 0 (by decide) rfl pd__Ljava_lang_String__Ljava_lang_StringBuilder_ rfl [] rfl (Nat.le_of_eq rfl) d_prog_8_method_13_code_17 (by decide) (by decide) ?_
  intro v631 h631 ns631 Q631
  obtain ⟨t'631, kt'631, cap'631, rfl, rfl, KC631, or631, SB631⟩ := Q631
  have K640 : Keep h0 h631 [] := K638.trans KC631 (allS (Or.inr (Nat.le_of_eq g612.symm)) (allS (Or.inr (own_alt_le or621 (own_alt_le or615 (Nat.le_trans K613.1 le614) K618.1) K630.1)) all0))
  refine g_virtual C SB631.1 w_156 w_157 (fun hZ => nf_sel hw w_159 hZ) w_159 w_158 (by decide) [] (ct_of hEL hw w_160 w_42 (rm_ts l Z a0 hw hEL b612 t'631 _ cap'631 ((([] ++ ds) ++ [58]) ++ ms) zc h631 n0 SB631 (by first | omega | (simp only [List.length_append, List.length_cons, List.length_nil, tag]; omega)) (Sta_keep Szc K640) hzc)) all0 (by decide) 0 (by decide) rfl pd___Ljava_lang_String_ rfl [] rfl (Nat.le_of_eq rfl) d_prog_8_method_13_code_20 (by decide) (by decide) ?_
  intro v641 h641 Q641
  obtain ⟨a641, t641, k641, rfl, KC641, le641, lt641, S641⟩ := Q641
  refine g_areturn C hEL (t := (.object "java/lang/String")) rfl rfl rfl d_prog_8_method_13_code_23 (by decide) (by decide) ?_
  have K642 : Keep h0 h641 [] := K640.trans KC641 all0
  exact ⟨a641, _, _, rfl, K642, (Nat.le_trans K640.1 le641), (Nat.le_trans K640.1 lt641), S641⟩
theorem d_prog_8_method_12_code_0 : decode prog_8_method_12_code 0 = .ok (.aload_n 0, 1) := by decide +kernel
theorem d_prog_8_method_12_code_1 : decode prog_8_method_12_code 1 = .ok (.invokestatic 51, 3) := by decide +kernel
theorem d_prog_8_method_12_code_4 : decode prog_8_method_12_code 4 = .ok (.aload_n 1, 1) := by decide +kernel
theorem d_prog_8_method_12_code_5 : decode prog_8_method_12_code 5 = .ok (.invokestatic 54, 3) := by decide +kernel
theorem d_prog_8_method_12_code_8 : decode prog_8_method_12_code 8 = .ok (.areturn, 1) := by decide +kernel
theorem pd__Ljava_lang_String_Ljava_lang_String__Ljava_lang_String_ : parseMethodDescriptor "(Ljava/lang/String;Ljava/lang/String;)Ljava/lang/String;" = some ⟨[(.object "java/lang/String"), (.object "java/lang/String")], some (.object "java/lang/String")⟩ := by decide +kernel
theorem rm_readHold (l : Launch) (Z : State) (a0 : Array Value) (hw : ∀ d ∈ tables_1, d.before a0 Z = true) (hEL : EW Z a0 consts_1) {ws : List Jvm.Cond} (s2 t2 s3 t3 : Addr) (k2 k3 : ClassId) (nm ms : List Int32) (zc : Int32) (h0 : Heap) (n0 : Nat) (S2 : Str Z h0 s2 t2 k2 nm) (hn2 : nm.length ≤ 2) (hp : 0 < nm.length) (hno : ∀ x ∈ nm, x ≠ 125) (S3 : Str Z h0 s3 t3 k3 ms) (hms : ms.length ≤ 2) (Szc : Sta Z h0 "java/lang/String" "COMPACT_STRINGS" "Z" (.int zc)) (hzc : ¬ (zc = (0 : Int32))) :
    Met l Z consts_1 (⟨"com/example/holdfast/holdfast/Keys", "readHold", "(Ljava/lang/String;Ljava/lang/String;)Ljava/lang/String;"⟩ : MethodName) prog_8_method_12_code 2 (some (.object "java/lang/String")) ws ({ frames := 9, cells := 66, slots := 2700, locals := 190 } : Room) [] #[(.ref s2), (.ref s3)] h0 n0 (nq (fun v h => ∃ a t' k', v = some (.ref a) ∧ Keep h0 h [] ∧ h0.size ≤ a ∧ h0.size ≤ t' ∧ Str Z h a t' k' ((([] ++ (([] ++ (([] ++ [104, 111, 108, 100, 102, 97, 115, 116, 58, 114, 119, 108, 111, 99, 107, 58]) ++ (tag nm))) ++ [58, 114, 101, 97, 100])) ++ [58]) ++ ms))) := by
  refine met_of (plainFor_of_name pn_com_example_holdfast_holdfast_Keys) hw #[.val (.ref s2), .val (.ref s3)] (fun m => by first | rfl | (simp [entryFrame, mkF, argsToLocals, Value.category]; done)) ?_
  intro p e s m below meth c C0
  have C : Cx Z a0 tables_1 p s m meth c "com/example/holdfast/holdfast/Keys" "readHold" prog_8_method_12_code 2 (some (.object "java/lang/String")) n0 := C0
  refine g_aloadN C d_prog_8_method_12_code_0 rfl rfl ?_
  refine g_static C w_303 w_304 w_38 w_305 (by decide) [(.ref s2)] (ct_of hEL hw w_305 w_38 (rm_readers l Z a0 hw hEL s2 t2 _ nm zc h0 n0 S2 hn2 hp hno Szc hzc)) all0 (by decide) 0 (by decide) rfl pd__Ljava_lang_String__Ljava_lang_String_ rfl [] rfl (Nat.le_of_eq rfl) d_prog_8_method_12_code_1 (by decide) (by decide) ?_
  intro v643 h643 Q643
  obtain ⟨a643, t643, k643, rfl, KC643, le643, lt643, S643⟩ := Q643
  refine g_aloadN C d_prog_8_method_12_code_4 rfl rfl ?_
  have K644 : Keep h0 h643 [] := (Keep.refl h0 []).trans KC643 all0
  have S645 := (S3.keep K644 nin0 nin0)
  refine g_static C w_307 w_308 w_38 w_309 (by decide) [(.ref a643), (.ref s3)] (ct_of hEL hw w_309 w_38 (rm_readHoldAmong l Z a0 hw hEL a643 t643 s3 t3 _ _ (([] ++ (([] ++ [104, 111, 108, 100, 102, 97, 115, 116, 58, 114, 119, 108, 111, 99, 107, 58]) ++ (tag nm))) ++ [58, 114, 101, 97, 100]) ms zc h643 n0 S643 S645 (by first | omega | (simp only [List.length_append, List.length_cons, List.length_nil, tag]; omega)) hms (Sta_keep Szc K644) hzc)) all0 (by decide) 0 (by decide) rfl pd__Ljava_lang_String_Ljava_lang_String__Ljava_lang_String_ rfl [] rfl (Nat.le_of_eq rfl) d_prog_8_method_12_code_5 (by decide) (by decide) ?_
  intro v646 h646 Q646
  obtain ⟨a646, t646, k646, rfl, KC646, le646, lt646, S646⟩ := Q646
  refine g_areturn C hEL (t := (.object "java/lang/String")) rfl rfl rfl d_prog_8_method_12_code_8 (by decide) (by decide) ?_
  have K647 : Keep h0 h646 [] := K644.trans KC646 all0
  exact ⟨a646, _, _, rfl, K647, (Nat.le_trans K644.1 le646), (Nat.le_trans K644.1 lt646), S646⟩
theorem d_method_3_code_0 : decode method_3_code 0 = .ok (.iload_n 0, 1) := by decide +kernel
theorem d_method_3_code_1 : decode method_3_code 1 = .ok (.ifCond .ne 8, 3) := by decide +kernel
theorem d_method_3_code_4 : decode method_3_code 4 = .ok (.aload_n 1, 1) := by decide +kernel
theorem d_method_3_code_5 : decode method_3_code 5 = .ok (.invokestatic 7, 3) := by decide +kernel
theorem d_method_3_code_8 : decode method_3_code 8 = .ok (.areturn, 1) := by decide +kernel
theorem d_method_3_code_9 : decode method_3_code 9 = .ok (.iload_n 0, 1) := by decide +kernel
theorem d_method_3_code_10 : decode method_3_code 10 = .ok (.iconst 1, 1) := by decide +kernel
theorem d_method_3_code_11 : decode method_3_code 11 = .ok (.if_icmp .ne 8, 3) := by decide +kernel
theorem d_method_3_code_14 : decode method_3_code 14 = .ok (.aload_n 1, 1) := by decide +kernel
theorem d_method_3_code_15 : decode method_3_code 15 = .ok (.invokestatic 13, 3) := by decide +kernel
theorem d_method_3_code_18 : decode method_3_code 18 = .ok (.areturn, 1) := by decide +kernel
theorem d_method_3_code_19 : decode method_3_code 19 = .ok (.iload_n 0, 1) := by decide +kernel
theorem d_method_3_code_20 : decode method_3_code 20 = .ok (.iconst 2, 1) := by decide +kernel
theorem d_method_3_code_21 : decode method_3_code 21 = .ok (.if_icmp .ne 8, 3) := by decide +kernel
theorem d_method_3_code_24 : decode method_3_code 24 = .ok (.aload_n 1, 1) := by decide +kernel
theorem d_method_3_code_25 : decode method_3_code 25 = .ok (.invokestatic 16, 3) := by decide +kernel
theorem d_method_3_code_28 : decode method_3_code 28 = .ok (.areturn, 1) := by decide +kernel
theorem d_method_3_code_29 : decode method_3_code 29 = .ok (.iload_n 0, 1) := by decide +kernel
theorem d_method_3_code_30 : decode method_3_code 30 = .ok (.iconst 3, 1) := by decide +kernel
theorem d_method_3_code_31 : decode method_3_code 31 = .ok (.if_icmp .ne 8, 3) := by decide +kernel
theorem d_method_3_code_34 : decode method_3_code 34 = .ok (.aload_n 1, 1) := by decide +kernel
theorem d_method_3_code_35 : decode method_3_code 35 = .ok (.invokestatic 19, 3) := by decide +kernel
theorem d_method_3_code_38 : decode method_3_code 38 = .ok (.areturn, 1) := by decide +kernel
theorem d_method_3_code_39 : decode method_3_code 39 = .ok (.iload_n 0, 1) := by decide +kernel
theorem d_method_3_code_40 : decode method_3_code 40 = .ok (.iconst 4, 1) := by decide +kernel
theorem d_method_3_code_41 : decode method_3_code 41 = .ok (.if_icmp .ne 8, 3) := by decide +kernel
theorem d_method_3_code_44 : decode method_3_code 44 = .ok (.aload_n 1, 1) := by decide +kernel
theorem d_method_3_code_45 : decode method_3_code 45 = .ok (.invokestatic 22, 3) := by decide +kernel
theorem d_method_3_code_48 : decode method_3_code 48 = .ok (.areturn, 1) := by decide +kernel
theorem d_method_3_code_49 : decode method_3_code 49 = .ok (.iload_n 0, 1) := by decide +kernel
theorem d_method_3_code_50 : decode method_3_code 50 = .ok (.iconst 5, 1) := by decide +kernel
theorem d_method_3_code_51 : decode method_3_code 51 = .ok (.if_icmp .ne 9, 3) := by decide +kernel
theorem d_method_3_code_54 : decode method_3_code 54 = .ok (.aload_n 1, 1) := by decide +kernel
theorem d_method_3_code_55 : decode method_3_code 55 = .ok (.aload_n 2, 1) := by decide +kernel
theorem d_method_3_code_56 : decode method_3_code 56 = .ok (.invokestatic 25, 3) := by decide +kernel
theorem d_method_3_code_59 : decode method_3_code 59 = .ok (.areturn, 1) := by decide +kernel
theorem d_method_3_code_60 : decode method_3_code 60 = .ok (.iload_n 0, 1) := by decide +kernel
theorem d_method_3_code_61 : decode method_3_code 61 = .ok (.bipush 6, 2) := by decide +kernel
theorem d_method_3_code_63 : decode method_3_code 63 = .ok (.if_icmp .ne 8, 3) := by decide +kernel
theorem d_method_3_code_66 : decode method_3_code 66 = .ok (.aload_n 1, 1) := by decide +kernel
theorem d_method_3_code_67 : decode method_3_code 67 = .ok (.invokestatic 29, 3) := by decide +kernel
theorem d_method_3_code_70 : decode method_3_code 70 = .ok (.areturn, 1) := by decide +kernel
theorem d_method_3_code_71 : decode method_3_code 71 = .ok (.aload_n 1, 1) := by decide +kernel
theorem d_method_3_code_72 : decode method_3_code 72 = .ok (.invokestatic 32, 3) := by decide +kernel
theorem d_method_3_code_75 : decode method_3_code 75 = .ok (.areturn, 1) := by decide +kernel
theorem pn_com_example_holdfast_holdfast_KeysLastCallPinLaw : plainName "com/example/holdfast/holdfast/KeysLastCallPinLaw" = true := by first | (simp [plainName, overriddenIn]; done) | decide +kernel
theorem rm_key (l : Launch) (Z : State) (a0 : Array Value) (hw : ∀ d ∈ tables_1, d.before a0 Z = true) (hEL : EW Z a0 consts_1) {ws : List Jvm.Cond} (kk : Int32) (s2 t2 s3 t3 : Addr) (k2 k3 : ClassId) (nm ms : List Int32) (zc : Int32) (h0 : Heap) (n0 : Nat) (S2 : Str Z h0 s2 t2 k2 nm) (hn2 : nm.length ≤ 2) (hp : 0 < nm.length) (hno : ∀ x ∈ nm, x ≠ 125) (S3 : Str Z h0 s3 t3 k3 ms) (hms : ms.length ≤ 2) (Szc : Sta Z h0 "java/lang/String" "COMPACT_STRINGS" "Z" (.int zc)) (hzc : ¬ (zc = (0 : Int32))) :
    Met l Z consts_1 (⟨"com/example/holdfast/holdfast/KeysLastCallPinLaw", "key", "(ILjava/lang/String;Ljava/lang/String;)Ljava/lang/String;"⟩ : MethodName) method_3_code 3 (some (.object "java/lang/String")) ws ({ frames := 10, cells := 66, slots := 2700, locals := 210 } : Room) [] #[(.int kk), (.ref s2), (.ref s3)] h0 n0 (nq (fun v h => ∃ a t' k' P Sx, v = some (.ref a) ∧ Keep h0 h [] ∧ h0.size ≤ a ∧ h0.size ≤ t' ∧ Str Z h a t' k' ((P ++ tag nm) ++ Sx) ∧ (∀ x ∈ P, x ≠ 123 ∧ x ≠ 125) ∧ 0 < P.length ∧ P.length ≤ 19 ∧ Sx.length ≤ 16)) := by
  refine met_of (plainFor_of_name pn_com_example_holdfast_holdfast_KeysLastCallPinLaw) hw #[.val (.int kk), .val (.ref s2), .val (.ref s3)] (fun m => by first | rfl | (simp [entryFrame, mkF, argsToLocals, Value.category]; done)) ?_
  intro p e s m below meth c C0
  have C : Cx Z a0 tables_1 p s m meth c "com/example/holdfast/holdfast/KeysLastCallPinLaw" "key" method_3_code 3 (some (.object "java/lang/String")) n0 := C0
  refine g_iloadN C d_method_3_code_0 rfl ?_
  by_cases hc648 : kk = 0
  · refine g_if_f C d_method_3_code_1 (XT.i0_ne_f hc648) ?_
    refine g_aloadN C d_method_3_code_4 rfl rfl ?_
    refine g_static C w_314 w_59 w_38 w_60 (by decide) [(.ref s2)] (ct_of hEL hw w_60 w_38 (rm_lock l Z a0 hw hEL s2 t2 _ nm zc h0 n0 S2 hn2 hp hno Szc hzc)) all0 (by decide) 0 (by decide) rfl pd__Ljava_lang_String__Ljava_lang_String_ rfl [] rfl (Nat.le_of_eq rfl) d_method_3_code_5 (by decide) (by decide) ?_
    intro v649 h649 Q649
    obtain ⟨a649, t649, k649, rfl, KC649, le649, lt649, S649⟩ := Q649
    refine g_areturn C hEL (t := (.object "java/lang/String")) rfl rfl rfl d_method_3_code_8 (by decide) (by decide) ?_
    have K650 : Keep h0 h649 [] := (Keep.refl h0 []).trans KC649 all0
    exact ⟨a649, t649, k649, [104, 111, 108, 100, 102, 97, 115, 116, 58, 108, 111, 99, 107, 58], [], rfl, K650, le649, lt649, by simpa only [List.nil_append, List.append_nil, List.append_assoc] using S649, by decide, by decide, by decide, by decide⟩
  · refine g_if_t C 9 d_method_3_code_1 (XT.i0_ne_t hc648) (by decide) (by decide) ?_
    refine g_iloadN C d_method_3_code_9 rfl ?_
    refine g_iconst C 1 d_method_3_code_10 rfl ?_
    by_cases hc651 : kk = (1 : Int32)
    · refine g_icmp_f C d_method_3_code_11 (XT.ii_ne_f hc651) ?_
      refine g_aloadN C d_method_3_code_14 rfl rfl ?_
      refine g_static C w_310 w_311 w_38 w_312 (by decide) [(.ref s2)] (ct_of hEL hw w_312 w_38 (rm_lockToken l Z a0 hw hEL s2 t2 _ nm zc h0 n0 S2 hn2 hp hno Szc hzc)) all0 (by decide) 0 (by decide) rfl pd__Ljava_lang_String__Ljava_lang_String_ rfl [] rfl (Nat.le_of_eq rfl) d_method_3_code_15 (by decide) (by decide) ?_
      intro v652 h652 Q652
      obtain ⟨a652, t652, k652, rfl, KC652, le652, lt652, S652⟩ := Q652
      refine g_areturn C hEL (t := (.object "java/lang/String")) rfl rfl rfl d_method_3_code_18 (by decide) (by decide) ?_
      have K653 : Keep h0 h652 [] := (Keep.refl h0 []).trans KC652 all0
      exact ⟨a652, t652, k652, [104, 111, 108, 100, 102, 97, 115, 116, 58, 108, 111, 99, 107, 58], [58, 116, 111, 107, 101, 110], rfl, K653, le652, lt652, by simpa only [List.nil_append, List.append_nil, List.append_assoc] using S652, by decide, by decide, by decide, by decide⟩
    · refine g_icmp_t C 19 d_method_3_code_11 (XT.ii_ne_t hc651) (by decide) (by decide) ?_
      refine g_iloadN C d_method_3_code_19 rfl ?_
      refine g_iconst C 2 d_method_3_code_20 rfl ?_
      by_cases hc654 : kk = (2 : Int32)
      · refine g_icmp_f C d_method_3_code_21 (XT.ii_ne_f hc654) ?_
        refine g_aloadN C d_method_3_code_24 rfl rfl ?_
        refine g_static C w_36 w_37 w_38 w_39 (by decide) [(.ref s2)] (ct_of hEL hw w_39 w_38 (rm_lockReleased l Z a0 hw hEL s2 t2 _ nm zc h0 n0 S2 hn2 hp hno Szc hzc)) all0 (by decide) 0 (by decide) rfl pd__Ljava_lang_String__Ljava_lang_String_ rfl [] rfl (Nat.le_of_eq rfl) d_method_3_code_25 (by decide) (by decide) ?_
        intro v655 h655 Q655
        obtain ⟨a655, t655, k655, rfl, KC655, le655, lt655, S655⟩ := Q655
        refine g_areturn C hEL (t := (.object "java/lang/String")) rfl rfl rfl d_method_3_code_28 (by decide) (by decide) ?_
        have K656 : Keep h0 h655 [] := (Keep.refl h0 []).trans KC655 all0
        exact ⟨a655, t655, k655, [104, 111, 108, 100, 102, 97, 115, 116, 58, 108, 111, 99, 107, 58], [58, 114, 101, 108, 101, 97, 115, 101, 100], rfl, K656, le655, lt655, by simpa only [List.nil_append, List.append_nil, List.append_assoc] using S655, by decide, by decide, by decide, by decide⟩
      · refine g_icmp_t C 29 d_method_3_code_21 (XT.ii_ne_t hc654) (by decide) (by decide) ?_
        refine g_iloadN C d_method_3_code_29 rfl ?_
        refine g_iconst C 3 d_method_3_code_30 rfl ?_
        by_cases hc657 : kk = (3 : Int32)
        · refine g_icmp_f C d_method_3_code_31 (XT.ii_ne_f hc657) ?_
          refine g_aloadN C d_method_3_code_34 rfl rfl ?_
          refine g_static C w_280 w_281 w_38 w_282 (by decide) [(.ref s2)] (ct_of hEL hw w_282 w_38 (rm_fairLockLine l Z a0 hw hEL s2 t2 _ nm zc h0 n0 S2 hn2 hp hno Szc hzc)) all0 (by decide) 0 (by decide) rfl pd__Ljava_lang_String__Ljava_lang_String_ rfl [] rfl (Nat.le_of_eq rfl) d_method_3_code_35 (by decide) (by decide) ?_
          intro v658 h658 Q658
          obtain ⟨a658, t658, k658, rfl, KC658, le658, lt658, S658⟩ := Q658
          refine g_areturn C hEL (t := (.object "java/lang/String")) rfl rfl rfl d_method_3_code_38 (by decide) (by decide) ?_
          have K659 : Keep h0 h658 [] := (Keep.refl h0 []).trans KC658 all0
          exact ⟨a658, t658, k658, [104, 111, 108, 100, 102, 97, 115, 116, 58, 102, 97, 105, 114, 108, 111, 99, 107, 58], [58, 108, 105, 110, 101], rfl, K659, le658, lt658, by simpa only [List.nil_append, List.append_nil, List.append_assoc] using S658, by decide, by decide, by decide, by decide⟩
        · refine g_icmp_t C 39 d_method_3_code_31 (XT.ii_ne_t hc657) (by decide) (by decide) ?_
          refine g_iloadN C d_method_3_code_39 rfl ?_
          refine g_iconst C 4 d_method_3_code_40 rfl ?_
          by_cases hc660 : kk = (4 : Int32)
          · refine g_icmp_f C d_method_3_code_41 (XT.ii_ne_f hc660) ?_
            refine g_aloadN C d_method_3_code_44 rfl rfl ?_
            refine g_static C w_332 w_304 w_38 w_305 (by decide) [(.ref s2)] (ct_of hEL hw w_305 w_38 (rm_readers l Z a0 hw hEL s2 t2 _ nm zc h0 n0 S2 hn2 hp hno Szc hzc)) all0 (by decide) 0 (by decide) rfl pd__Ljava_lang_String__Ljava_lang_String_ rfl [] rfl (Nat.le_of_eq rfl) d_method_3_code_45 (by decide) (by decide) ?_
            intro v661 h661 Q661
            obtain ⟨a661, t661, k661, rfl, KC661, le661, lt661, S661⟩ := Q661
            refine g_areturn C hEL (t := (.object "java/lang/String")) rfl rfl rfl d_method_3_code_48 (by decide) (by decide) ?_
            have K662 : Keep h0 h661 [] := (Keep.refl h0 []).trans KC661 all0
            exact ⟨a661, t661, k661, [104, 111, 108, 100, 102, 97, 115, 116, 58, 114, 119, 108, 111, 99, 107, 58], [58, 114, 101, 97, 100], rfl, K662, le661, lt661, by simpa only [List.nil_append, List.append_nil, List.append_assoc] using S661, by decide, by decide, by decide, by decide⟩
          · refine g_icmp_t C 49 d_method_3_code_41 (XT.ii_ne_t hc660) (by decide) (by decide) ?_
            refine g_iloadN C d_method_3_code_49 rfl ?_
            refine g_iconst C 5 d_method_3_code_50 rfl ?_
            by_cases hc663 : kk = (5 : Int32)
            · refine g_icmp_f C d_method_3_code_51 (XT.ii_ne_f hc663) ?_
              refine g_aloadN C d_method_3_code_54 rfl rfl ?_
              refine g_aloadN C d_method_3_code_55 rfl rfl ?_
              refine g_static C w_300 w_301 w_38 w_302 (by decide) [(.ref s2), (.ref s3)] (ct_of hEL hw w_302 w_38 (rm_readHold l Z a0 hw hEL s2 t2 s3 t3 _ _ nm ms zc h0 n0 S2 hn2 hp hno S3 hms Szc hzc)) all0 (by decide) 0 (by decide) rfl pd__Ljava_lang_String_Ljava_lang_String__Ljava_lang_String_ rfl [] rfl (Nat.le_of_eq rfl) d_method_3_code_56 (by decide) (by decide) ?_
              intro v664 h664 Q664
              obtain ⟨a664, t664, k664, rfl, KC664, le664, lt664, S664⟩ := Q664
              refine g_areturn C hEL (t := (.object "java/lang/String")) rfl rfl rfl d_method_3_code_59 (by decide) (by decide) ?_
              have K665 : Keep h0 h664 [] := (Keep.refl h0 []).trans KC664 all0
              exact ⟨a664, t664, k664, [104, 111, 108, 100, 102, 97, 115, 116, 58, 114, 119, 108, 111, 99, 107, 58], ([58, 114, 101, 97, 100] ++ ([58] ++ ms)), rfl, K665, le664, lt664, by simpa only [List.nil_append, List.append_nil, List.append_assoc] using S664, by decide, by decide, by decide, (by first | omega | (simp only [List.length_append, List.length_cons, List.length_nil, tag]; omega))⟩
            · refine g_icmp_t C 60 d_method_3_code_51 (XT.ii_ne_t hc663) (by decide) (by decide) ?_
              refine g_iloadN C d_method_3_code_60 rfl ?_
              refine g_bipush C 6 d_method_3_code_61 rfl ?_
              by_cases hc666 : kk = (6 : Int32)
              · refine g_icmp_f C d_method_3_code_63 (XT.ii_ne_f hc666) ?_
                refine g_aloadN C d_method_3_code_66 rfl rfl ?_
                refine g_static C w_315 w_316 w_38 w_317 (by decide) [(.ref s2)] (ct_of hEL hw w_317 w_38 (rm_semaphoreCopy l Z a0 hw hEL s2 t2 _ nm zc h0 n0 S2 hn2 hp hno Szc hzc)) all0 (by decide) 0 (by decide) rfl pd__Ljava_lang_String__Ljava_lang_String_ rfl [] rfl (Nat.le_of_eq rfl) d_method_3_code_67 (by decide) (by decide) ?_
                intro v667 h667 Q667
                obtain ⟨a667, t667, k667, rfl, KC667, le667, lt667, S667⟩ := Q667
                refine g_areturn C hEL (t := (.object "java/lang/String")) rfl rfl rfl d_method_3_code_70 (by decide) (by decide) ?_
                have K668 : Keep h0 h667 [] := (Keep.refl h0 []).trans KC667 all0
                exact ⟨a667, t667, k667, [104, 111, 108, 100, 102, 97, 115, 116, 58, 115, 101, 109, 97, 112, 104, 111, 114, 101, 58], [58, 99, 111, 112, 121], rfl, K668, le667, lt667, by simpa only [List.nil_append, List.append_nil, List.append_assoc] using S667, by decide, by decide, by decide, by decide⟩
              · refine g_icmp_t C 71 d_method_3_code_63 (XT.ii_ne_t hc666) (by decide) (by decide) ?_
                refine g_aloadN C d_method_3_code_71 rfl rfl ?_
                refine g_static C w_288 w_289 w_38 w_290 (by decide) [(.ref s2)] (ct_of hEL hw w_290 w_38 (rm_waitingWriters l Z a0 hw hEL s2 t2 _ nm zc h0 n0 S2 hn2 hp hno Szc hzc)) all0 (by decide) 0 (by decide) rfl pd__Ljava_lang_String__Ljava_lang_String_ rfl [] rfl (Nat.le_of_eq rfl) d_method_3_code_72 (by decide) (by decide) ?_
                intro v669 h669 Q669
                obtain ⟨a669, t669, k669, rfl, KC669, le669, lt669, S669⟩ := Q669
                refine g_areturn C hEL (t := (.object "java/lang/String")) rfl rfl rfl d_method_3_code_75 (by decide) (by decide) ?_
                have K670 : Keep h0 h669 [] := (Keep.refl h0 []).trans KC669 all0
                exact ⟨a669, t669, k669, [104, 111, 108, 100, 102, 97, 115, 116, 58, 114, 119, 108, 111, 99, 107, 58], ([58, 119, 97, 105, 116, 105, 110, 103] ++ [58, 119, 114, 105, 116, 101]), rfl, K670, le669, lt669, by simpa only [List.nil_append, List.append_nil, List.append_assoc] using S669, by decide, by decide, by decide, by decide⟩
theorem d_prog_8_method_23_code_0 : decode prog_8_method_23_code 0 = .ok (.aload_n 0, 1) := by decide +kernel
theorem d_prog_8_method_23_code_1 : decode prog_8_method_23_code 1 = .ok (.aload_n 0, 1) := by decide +kernel
theorem d_prog_8_method_23_code_2 : decode prog_8_method_23_code 2 = .ok (.bipush 123, 2) := by decide +kernel
theorem d_prog_8_method_23_code_4 : decode prog_8_method_23_code 4 = .ok (.invokevirtual 72, 3) := by decide +kernel
theorem d_prog_8_method_23_code_7 : decode prog_8_method_23_code 7 = .ok (.aload_n 0, 1) := by decide +kernel
theorem d_prog_8_method_23_code_8 : decode prog_8_method_23_code 8 = .ok (.bipush 125, 2) := by decide +kernel
theorem d_prog_8_method_23_code_10 : decode prog_8_method_23_code 10 = .ok (.invokevirtual 72, 3) := by decide +kernel
theorem d_prog_8_method_23_code_13 : decode prog_8_method_23_code 13 = .ok (.iconst 1, 1) := by decide +kernel
theorem d_prog_8_method_23_code_14 : decode prog_8_method_23_code 14 = .ok (.iadd, 1) := by decide +kernel
theorem d_prog_8_method_23_code_15 : decode prog_8_method_23_code 15 = .ok (.invokevirtual 78, 3) := by decide +kernel
theorem d_prog_8_method_23_code_18 : decode prog_8_method_23_code 18 = .ok (.astore_n 2, 1) := by decide +kernel
theorem d_prog_8_method_23_code_19 : decode prog_8_method_23_code 19 = .ok (.new 7, 3) := by decide +kernel
theorem d_prog_8_method_23_code_22 : decode prog_8_method_23_code 22 = .ok (.dup, 1) := by decide +kernel
theorem d_prog_8_method_23_code_23 : decode prog_8_method_23_code 23 = .ok (.invokespecial 9, 3) := by decide +kernel
theorem d_prog_8_method_23_code_26 : decode prog_8_method_23_code 26 = .ok (.ldc 82, 2) := by decide +kernel
theorem d_prog_8_method_23_code_28 : decode prog_8_method_23_code 28 = .ok (.invokevirtual 14, 3) := by decide +kernel
theorem d_prog_8_method_23_code_31 : decode prog_8_method_23_code 31 = .ok (.aload_n 2, 1) := by decide +kernel
theorem d_prog_8_method_23_code_32 : decode prog_8_method_23_code 32 = .ok (.invokevirtual 14, 3) := by decide +kernel
theorem d_prog_8_method_23_code_35 : decode prog_8_method_23_code 35 = .ok (.ldc 58, 2) := by decide +kernel
theorem d_prog_8_method_23_code_37 : decode prog_8_method_23_code 37 = .ok (.invokevirtual 14, 3) := by decide +kernel
theorem d_prog_8_method_23_code_40 : decode prog_8_method_23_code 40 = .ok (.aload_n 1, 1) := by decide +kernel
theorem d_prog_8_method_23_code_41 : decode prog_8_method_23_code 41 = .ok (.invokevirtual 14, 3) := by decide +kernel
theorem d_prog_8_method_23_code_44 : decode prog_8_method_23_code 44 = .ok (.invokevirtual 22, 3) := by decide +kernel
theorem d_prog_8_method_23_code_47 : decode prog_8_method_23_code 47 = .ok (.areturn, 1) := by decide +kernel
theorem pd__II_Ljava_lang_String_ : parseMethodDescriptor "(II)Ljava/lang/String;" = some ⟨[.int, .int], some (.object "java/lang/String")⟩ := by decide +kernel
theorem rm_lastCall (l : Launch) (Z : State) (a0 : Array Value) (hw : ∀ d ∈ tables_1, d.before a0 Z = true) (hEL : EW Z a0 consts_1) {ws : List Jvm.Cond} (s2 t2 s3 t3 : Addr) (k2 k3 : ClassId) (P nm Sx ms : List Int32) (zc : Int32) (fm : Value) (h0 : Heap) (n0 : Nat) (S2 : Str Z h0 s2 t2 k2 ((P ++ tag nm) ++ Sx)) (S3 : Str Z h0 s3 t3 k3 ms) (hn2 : nm.length ≤ 2) (hp : 0 < nm.length) (hno : ∀ x ∈ nm, x ≠ 125) (hms : ms.length ≤ 2) (hP : ∀ x ∈ P, x ≠ 123 ∧ x ≠ 125) (hP0 : 0 < P.length) (hP19 : P.length ≤ 19) (hSx : Sx.length ≤ 16) (Szc : Sta Z h0 "java/lang/String" "COMPACT_STRINGS" "Z" (.int zc)) (hzc : ¬ (zc = (0 : Int32))) (Sfm : Sta Z h0 "jdk/internal/util/Preconditions" "SIOOBE_FORMATTER" "Ljava/util/function/BiFunction;" fm) (hfm : fm.isRef = true) :
    Met l Z consts_1 (⟨"com/example/holdfast/holdfast/Keys", "lastCall", "(Ljava/lang/String;Ljava/lang/String;)Ljava/lang/String;"⟩ : MethodName) prog_8_method_23_code 3 (some (.object "java/lang/String")) ws ({ frames := 6, cells := 22, slots := 1000, locals := 140 } : Room) [] #[(.ref s2), (.ref s3)] h0 n0 (nq (fun v h => ∃ a t' k', v = some (.ref a) ∧ Keep h0 h [] ∧ h0.size ≤ a ∧ h0.size ≤ t' ∧ Str Z h a t' k' (((([] ++ [104, 111, 108, 100, 102, 97, 115, 116, 58, 99, 97, 108, 108, 58]) ++ (tag nm)) ++ [58]) ++ ms))) := by
  refine met_of (plainFor_of_name pn_com_example_holdfast_holdfast_Keys) hw #[.val (.ref s2), .val (.ref s3), .unset] (fun m => by first | rfl | (simp [entryFrame, mkF, argsToLocals, Value.category]; done)) ?_
  intro p e s m below meth c C0
  have C : Cx Z a0 tables_1 p s m meth c "com/example/holdfast/holdfast/Keys" "lastCall" prog_8_method_23_code 3 (some (.object "java/lang/String")) n0 := C0
  refine g_aloadN C d_prog_8_method_23_code_0 rfl rfl ?_
  refine g_aloadN C d_prog_8_method_23_code_1 rfl rfl ?_
  refine g_bipush C 123 d_prog_8_method_23_code_2 rfl ?_
  refine g_virtual C S2.1 w_122 w_123 (fun hZ => nf_sel hw w_125 hZ) w_125 w_124 (by decide) [(.int (123 : Int32))] (ct_of hEL hw w_126 w_6 (rm_i1 l Z a0 hw hEL s2 t2 _ (123 : Int32) ((P ++ tag nm) ++ Sx) zc h0 n0 S2 (by first | omega | (simp only [List.length_append, List.length_cons, List.length_nil, tag]; omega)) (by first | omega | (simp only [List.length_append, List.length_cons, List.length_nil, tag]; omega)) (by unfold Ch8; decide) Szc hzc)) all0 (by decide) 1 (by decide) rfl pd__I_I rfl [(.ref s2)] rfl (Nat.le_of_eq rfl) d_prog_8_method_23_code_4 (by decide) (by decide) ?_
  intro v671 h671 Q671
  obtain ⟨rfl, e671⟩ := Q671
  replace e671 := e671.symm
  subst e671
  rw [idx_open (fun x hx => S2.2.2.2.2.2 x (List.mem_append_left _ (List.mem_append_left _ hx))) hP]
  refine g_aloadN C d_prog_8_method_23_code_7 rfl rfl ?_
  refine g_bipush C 125 d_prog_8_method_23_code_8 rfl ?_
  refine g_virtual C S2.1 w_122 w_123 (fun hZ => nf_sel hw w_125 hZ) w_125 w_124 (by decide) [(.int (125 : Int32))] (ct_of hEL hw w_126 w_6 (rm_i1 l Z a0 hw hEL s2 t2 _ (125 : Int32) ((P ++ tag nm) ++ Sx) zc h0 n0 S2 (by first | omega | (simp only [List.length_append, List.length_cons, List.length_nil, tag]; omega)) (by first | omega | (simp only [List.length_append, List.length_cons, List.length_nil, tag]; omega)) (by unfold Ch8; decide) Szc hzc)) all0 (by decide) 2 (by decide) rfl pd__I_I rfl [(.int (Int32.ofNat P.length)), (.ref s2)] rfl (Nat.le_of_eq rfl) d_prog_8_method_23_code_10 (by decide) (by decide) ?_
  intro v672 h672 Q672
  obtain ⟨rfl, e672⟩ := Q672
  replace e672 := e672.symm
  subst e672
  rw [idx_close (fun x hx => S2.2.2.2.2.2 x (List.mem_append_left _ (List.mem_append_left _ hx))) hP (fun x hx => S2.2.2.2.2.2 x (List.mem_append_left _ (List.mem_append_right _ (List.mem_append_left _ (List.mem_append_right _ hx))))) hno]
  refine g_iconst C 1 d_prog_8_method_23_code_13 rfl ?_
  refine g_iadd C d_prog_8_method_23_code_14 ?_
  rw [show (1 : Int32) = Int32.ofNat 1 from rfl, on_add]
  refine g_virtual C S2.1 w_217 w_218 (fun hZ => nf_sel hw w_220 hZ) w_220 w_219 (by decide) [(.int (Int32.ofNat P.length)), (.int (Int32.ofNat (P.length + 1 + nm.length + 1)))] (ct_of hEL hw w_221 w_6 (rm_s2g l Z a0 hw hEL s2 t2 _ P.length (P.length + 1 + nm.length + 1) ((P ++ tag nm) ++ Sx) zc fm h0 n0 S2 hP0 (by omega) (by first | omega | (simp only [List.length_append, List.length_cons, List.length_nil, tag]; omega)) (by omega) (by first | omega | (simp only [List.length_append, List.length_cons, List.length_nil, tag]; omega)) Szc hzc Sfm hfm)) all0 (by decide) 0 (by decide) rfl pd__II_Ljava_lang_String_ rfl [] rfl (Nat.le_of_eq rfl) d_prog_8_method_23_code_15 (by decide) (by decide) ?_
  intro v673 h673 Q673
  obtain ⟨a673, t673, k673, rfl, KC673, le673, lt673, S673⟩ := Q673
  rw [own_mid rfl rfl] at S673
  refine g_astoreN C #[.val (.ref s2), .val (.ref s3), .val (.ref a673)] d_prog_8_method_23_code_18 rfl rfl ?_
  refine g_new C w_40 w_41 w_42 d_prog_8_method_23_code_19 (by decide) (by decide) ?_
  intro b674 h674 g674 E674 A674 D674
  refine g_dup C d_prog_8_method_23_code_22 rfl ?_
  have K675 : Keep h0 h673 [] := (Keep.refl h0 []).trans KC673 all0
  have K676 : Keep h0 h674 [] := K675.ext E674
  refine g_specialX C (a := b674) w_43 w_44 w_45 rfl (by decide) [] (ct_of hEL hw w_45 w_42 (rm_si l Z a0 hw hEL b674 zc h674 n0 A674 (D674 (Or.inl (C.hw w_55)) (ty := (.array .byte)) (by decide)) (D674 (Or.inl (C.hw w_57)) (ty := .byte) (by decide)) (D674 (Or.inl (C.hw w_83)) (ty := .int) (by decide)) (Sta_keep Szc K676) hzc)) (allS (mg (i := 0) rfl) all0) (by decide) 1 (by decide) rfl pd___V rfl [(.ref b674)] rfl (Nat.le_of_eq rfl) d_prog_8_method_23_code_23 (by decide) (by decide) ?_
  intro v677 h677 ns677 Q677
  obtain ⟨t677, kt677, rfl, rfl, KC677, le677, SB677⟩ := Q677
  refine g_ldcS C hEL w_236 own_sA (mg (i := 12) rfl) [104, 111, 108, 100, 102, 97, 115, 116, 58, 99, 97, 108, 108, 58] ⟨by decide +kernel, by decide +kernel⟩ (by decide) (by decide) d_prog_8_method_23_code_26 56 (by decide +kernel) (by decide) (by decide) (by decide) ?_
  intro a678 t678 kb678 h678 E678 S678 X678
  have K680 : Keep h677 h678 [] := (Keep.refl h677 []).ext E678
  have E681 := (SB677.1.keep K680)
  have F682 := (SB677.2.1.keep K680 nin0)
  have F683 := (SB677.2.2.1.keep K680 nin0)
  have F684 := (SB677.2.2.2.1.keep K680 nin0)
  have V685 := (SB677.2.2.2.2.1.keep K680 nin0)
  have E686 := (SB677.2.2.2.2.2.2.2.2.keep K680)
  have K687 : Keep h0 h677 [] := K676.trans KC677 (allS (Or.inr (Nat.le_trans K675.1 (Nat.le_of_eq g674.symm))) all0)
  have K688 : Keep h0 h678 [] := K687.ext E678
  refine g_virtualX C E681 w_62 w_63 (fun hZ => nf_sel hw w_65 hZ) w_65 w_64 (by decide) [(.ref a678)] (ct_of hEL hw w_66 w_42 (rm_sa l Z a0 hw hEL b674 t677 a678 t678 _ _ 16 [] [104, 111, 108, 100, 102, 97, 115, 116, 58, 99, 97, 108, 108, 58] zc h678 n0 ⟨E681, F682, F683, F684, V685, SB677.2.2.2.2.2.1, SB677.2.2.2.2.2.2.1, SB677.2.2.2.2.2.2.2.1, E686⟩ S678 (Ne.symm (X678 _ (mg (i := 1) rfl)).1) (Ne.symm (X678 _ (mg (i := 0) rfl)).1) (Ne.symm (X678 _ (mg (i := 1) rfl)).2) (Ne.symm (X678 _ (mg (i := 0) rfl)).2) (Nat.ne_of_lt (Nat.lt_of_lt_of_le A674.lt le677)) (by first | omega | (simp only [List.length_append, List.length_cons, List.length_nil, tag]; omega)) (Sta_keep Szc K688) hzc)) (allS (mg (i := 1) rfl) (allS (mg (i := 0) rfl) all0)) (by decide) 0 (by decide) rfl pd__Ljava_lang_String__Ljava_lang_StringBuilder_ rfl [] rfl (Nat.le_of_eq rfl) d_prog_8_method_23_code_28 (by decide) (by decide) ?_
  intro v679 h679 ns679 Q679
  obtain ⟨t'679, kt'679, cap'679, rfl, rfl, KC679, or679, SB679⟩ := Q679
  refine g_aloadN C d_prog_8_method_23_code_31 rfl rfl ?_
  have K690 : Keep h673 h674 [] := (Keep.refl h673 []).ext E674
  have K691 : Keep h673 h677 [] := K690.trans KC677 (allS (Or.inr (Nat.le_of_eq g674.symm)) all0)
  have K692 : Keep h673 h678 [] := K691.ext E678
  have E693 := (S673.1.keep K692)
  have E694 := (S673.1.keep K690)
  have S695 := (S673.keep K692 nin0 nin0)
  have S696 := (S673.keep K690 nin0 nin0)
  have K697 : Keep h673 h679 [] := K692.trans KC679 (allS (Or.inr (Nat.le_of_eq g674.symm)) (allS (Or.inr (Nat.le_trans K690.1 le677)) all0))
  have S698 := (S673.keep K697 nin0 nin0)
  have K699 : Keep h0 h679 [] := K688.trans KC679 (allS (Or.inr (Nat.le_trans K675.1 (Nat.le_of_eq g674.symm))) (allS (Or.inr (Nat.le_trans K676.1 le677)) all0))
  refine g_virtualX C SB679.1 w_62 w_63 (fun hZ => nf_sel hw w_65 hZ) w_65 w_64 (by decide) [(.ref a673)] (ct_of hEL hw w_66 w_42 (rm_sa l Z a0 hw hEL b674 t'679 a673 t673 _ _ cap'679 ([] ++ [104, 111, 108, 100, 102, 97, 115, 116, 58, 99, 97, 108, 108, 58]) (tag nm) zc h679 n0 SB679 S698 (Nat.ne_of_lt (Nat.lt_of_lt_of_le S673.1.lt (Nat.le_of_eq g674.symm))) (own_alt or679 (Nat.ne_of_lt (Nat.lt_of_lt_of_le E694.lt le677)) E693.lt) (Nat.ne_of_lt (Nat.lt_of_lt_of_le S673.tlt (Nat.le_of_eq g674.symm))) (own_alt or679 (Nat.ne_of_lt (Nat.lt_of_lt_of_le S696.tlt le677)) S695.tlt) (own_alt or679 (Nat.ne_of_lt (Nat.lt_of_lt_of_le A674.lt le677)) E681.lt) (by first | omega | (simp only [List.length_append, List.length_cons, List.length_nil, tag]; omega)) (Sta_keep Szc K699) hzc)) (allS (mg (i := 2) rfl) (allS (mg (i := 0) rfl) all0)) (by decide) 0 (by decide) rfl pd__Ljava_lang_String__Ljava_lang_StringBuilder_ rfl [] rfl (Nat.le_of_eq rfl) d_prog_8_method_23_code_32 (by decide) (by decide) ?_
  intro v689 h689 ns689 Q689
  obtain ⟨t'689, kt'689, cap'689, rfl, rfl, KC689, or689, SB689⟩ := Q689
  refine g_ldcS C hEL w_237 own_sA (mg (i := 8) rfl) [58] ⟨by decide +kernel, by decide +kernel⟩ (by decide) (by decide) d_prog_8_method_23_code_35 4 (by decide +kernel) (by decide) (by decide) (by decide) ?_
  intro a700 t700 kb700 h700 E700 S700 X700
  have K702 : Keep h689 h700 [] := (Keep.refl h689 []).ext E700
  have E703 := (SB689.1.keep K702)
  have F704 := (SB689.2.1.keep K702 nin0)
  have F705 := (SB689.2.2.1.keep K702 nin0)
  have F706 := (SB689.2.2.2.1.keep K702 nin0)
  have V707 := (SB689.2.2.2.2.1.keep K702 nin0)
  have E708 := (SB689.2.2.2.2.2.2.2.2.keep K702)
  have K709 : Keep h0 h689 [] := K699.trans KC689 (allS (Or.inr (Nat.le_trans K675.1 (Nat.le_of_eq g674.symm))) (allS (Or.inr (own_alt_le or679 (Nat.le_trans K676.1 le677) K688.1)) all0))
  have K710 : Keep h0 h700 [] := K709.ext E700
  refine g_virtualX C E703 w_62 w_63 (fun hZ => nf_sel hw w_65 hZ) w_65 w_64 (by decide) [(.ref a700)] (ct_of hEL hw w_66 w_42 (rm_sa l Z a0 hw hEL b674 t'689 a700 t700 _ _ cap'689 (([] ++ [104, 111, 108, 100, 102, 97, 115, 116, 58, 99, 97, 108, 108, 58]) ++ (tag nm)) [58] zc h700 n0 ⟨E703, F704, F705, F706, V707, SB689.2.2.2.2.2.1, SB689.2.2.2.2.2.2.1, SB689.2.2.2.2.2.2.2.1, E708⟩ S700 (Ne.symm (X700 _ (mg (i := 3) rfl)).1) (Ne.symm (X700 _ (mg (i := 0) rfl)).1) (Ne.symm (X700 _ (mg (i := 3) rfl)).2) (Ne.symm (X700 _ (mg (i := 0) rfl)).2) (own_alt or689 (own_alt or679 (Nat.ne_of_lt (Nat.lt_of_lt_of_le A674.lt le677)) E681.lt) SB679.1.lt) (by first | omega | (simp only [List.length_append, List.length_cons, List.length_nil, tag]; omega)) (Sta_keep Szc K710) hzc)) (allS (mg (i := 3) rfl) (allS (mg (i := 0) rfl) all0)) (by decide) 0 (by decide) rfl pd__Ljava_lang_String__Ljava_lang_StringBuilder_ rfl [] rfl (Nat.le_of_eq rfl) d_prog_8_method_23_code_37 (by decide) (by decide) ?_
  intro v701 h701 ns701 Q701
  obtain ⟨t'701, kt'701, cap'701, rfl, rfl, KC701, or701, SB701⟩ := Q701
  refine g_aloadN C d_prog_8_method_23_code_40 rfl rfl ?_
  have E712 := (S3.1.keep K675)
  have K713 : Keep h673 h689 [] := K697.trans KC689 (allS (Or.inr (Nat.le_of_eq g674.symm)) (allS (Or.inr (own_alt_le or679 (Nat.le_trans K690.1 le677) K692.1)) all0))
  have K714 : Keep h673 h700 [] := K713.ext E700
  have E715 := (E712.keep K714)
  have E716 := (E712.keep K697)
  have E717 := (E712.keep K692)
  have E718 := (E712.keep K690)
  have S719 := (S3.keep K675 nin0 nin0)
  have S720 := (S719.keep K714 nin0 nin0)
  have S721 := (S719.keep K697 nin0 nin0)
  have S722 := (S719.keep K692 nin0 nin0)
  have S723 := (S719.keep K690 nin0 nin0)
  have K724 : Keep h0 h701 [] := K710.trans KC701 (allS (Or.inr (Nat.le_trans K675.1 (Nat.le_of_eq g674.symm))) (allS (Or.inr (own_alt_le or689 (own_alt_le or679 (Nat.le_trans K676.1 le677) K688.1) K699.1)) all0))
  have S725 := (S3.keep K724 nin0 nin0)
  refine g_virtualX C SB701.1 w_62 w_63 (fun hZ => nf_sel hw w_65 hZ) w_65 w_64 (by decide) [(.ref s3)] (ct_of hEL hw w_66 w_42 (rm_sa l Z a0 hw hEL b674 t'701 s3 t3 _ _ cap'701 ((([] ++ [104, 111, 108, 100, 102, 97, 115, 116, 58, 99, 97, 108, 108, 58]) ++ (tag nm)) ++ [58]) ms zc h701 n0 SB701 S725 (Nat.ne_of_lt (Nat.lt_of_lt_of_le E712.lt (Nat.le_of_eq g674.symm))) (own_alt or701 (own_alt or689 (own_alt or679 (Nat.ne_of_lt (Nat.lt_of_lt_of_le E718.lt le677)) E717.lt) E716.lt) E715.lt) (Nat.ne_of_lt (Nat.lt_of_lt_of_le S719.tlt (Nat.le_of_eq g674.symm))) (own_alt or701 (own_alt or689 (own_alt or679 (Nat.ne_of_lt (Nat.lt_of_lt_of_le S723.tlt le677)) S722.tlt) S721.tlt) S720.tlt) (own_alt or701 (own_alt or689 (own_alt or679 (Nat.ne_of_lt (Nat.lt_of_lt_of_le A674.lt le677)) E681.lt) SB679.1.lt) E703.lt) (by first | omega | (simp only [List.length_append, List.length_cons, List.length_nil, tag]; omega)) (Sta_keep Szc K724) hzc)) (allS (mg (i := 4) rfl) (allS (mg (i := 0) rfl) all0)) (by decide) 0 (by decide) rfl pd__Ljava_lang_String__Ljava_lang_StringBuilder_ rfl [] rfl (Nat.le_of_eq rfl) d_prog_8_method_23_code_41 (by decide) (by decide) ?_
  intro v711 h711 ns711 Q711
  obtain ⟨t'711, kt'711, cap'711, rfl, rfl, KC711, or711, SB711⟩ := Q711
  have K726 : Keep h0 h711 [] := K724.trans KC711 (allS (Or.inr (Nat.le_trans K675.1 (Nat.le_of_eq g674.symm))) (allS (Or.inr (own_alt_le or701 (own_alt_le or689 (own_alt_le or679 (Nat.le_trans K676.1 le677) K688.1) K699.1) K710.1)) all0))
  refine g_virtual C SB711.1 w_156 w_157 (fun hZ => nf_sel hw w_159 hZ) w_159 w_158 (by decide) [] (ct_of hEL hw w_160 w_42 (rm_ts l Z a0 hw hEL b674 t'711 _ cap'711 (((([] ++ [104, 111, 108, 100, 102, 97, 115, 116, 58, 99, 97, 108, 108, 58]) ++ (tag nm)) ++ [58]) ++ ms) zc h711 n0 SB711 (by first | omega | (simp only [List.length_append, List.length_cons, List.length_nil, tag]; omega)) (Sta_keep Szc K726) hzc)) all0 (by decide) 0 (by decide) rfl pd___Ljava_lang_String_ rfl [] rfl (Nat.le_of_eq rfl) d_prog_8_method_23_code_44 (by decide) (by decide) ?_
  intro v727 h727 Q727
  obtain ⟨a727, t727, k727, rfl, KC727, le727, lt727, S727⟩ := Q727
  refine g_areturn C hEL (t := (.object "java/lang/String")) rfl rfl rfl d_prog_8_method_23_code_47 (by decide) (by decide) ?_
  have K728 : Keep h0 h727 [] := K726.trans KC727 all0
  exact ⟨a727, _, _, rfl, K728, (Nat.le_trans K726.1 le727), (Nat.le_trans K726.1 lt727), S727⟩
theorem own_i2c8 {q : Int32} (hq : Ch8 q) : q.toUInt32.toUInt16.toUInt32.toInt32 = q := by
  obtain ⟨k, rfl⟩ := ch8_fin hq
  exact (by decide +kernel : ∀ k : Fin 256, (Int32.ofNat k.val).toUInt32.toUInt16.toUInt32.toInt32 = Int32.ofNat k.val) k
theorem own_nocons {x : Int32} {r : List Int32} (h : x ≠ 125) (hr : ∀ y ∈ r, y ≠ 125) : ∀ y ∈ x :: r, y ≠ 125 := fun y hy => (List.mem_cons.mp hy).elim (fun e => e ▸ h) (hr y)
theorem own_and3 (x : Int32) : x &&& 3 = 0 ∨ x &&& 3 = 1 ∨ x &&& 3 = 2 ∨ x &&& 3 = 3 := by
  have h : (x &&& 3).toBitVec.toNat < 4 := by
    simp only [Int32.toBitVec_and, BitVec.toNat_and]
    exact Nat.lt_succ_of_le Nat.and_le_right
  have e : (x &&& 3) = Int32.ofNat (x &&& 3).toBitVec.toNat := by
    apply Int32.toBitVec_inj.mp
    show _ = BitVec.ofNat 32 _
    rw [BitVec.ofNat_toNat]; simp
  rw [e]
  exact (by decide +kernel : ∀ k : Fin 4, Int32.ofNat k.val = 0 ∨ Int32.ofNat k.val = 1 ∨ Int32.ofNat k.val = 2 ∨ Int32.ofNat k.val = 3) ⟨_, h⟩
theorem own_m3 (x : Int32) : (x &&& 3) % 3 = 0 ∨ (x &&& 3) % 3 = 1 ∨ (x &&& 3) % 3 = 2 := by
  rcases own_and3 x with h | h | h | h <;> rw [h] <;> decide
theorem own_bit (x : Int32) : 1 + (x &&& 1) = 1 ∨ 1 + (x &&& 1) = 2 := by
  have h : (x &&& 1).toBitVec.toNat < 2 := by
    simp only [Int32.toBitVec_and, BitVec.toNat_and]
    exact Nat.lt_succ_of_le Nat.and_le_right
  have e : (x &&& 1) = Int32.ofNat (x &&& 1).toBitVec.toNat := by
    apply Int32.toBitVec_inj.mp
    show _ = BitVec.ofNat 32 _
    rw [BitVec.ofNat_toNat]; simp
  rw [e]
  exact (by decide +kernel : ∀ k : Fin 2, 1 + Int32.ofNat k.val = 1 ∨ 1 + Int32.ofNat k.val = 2) ⟨_, h⟩

theorem d_method_2_code_0 : decode method_2_code 0 = .ok (.iload_n 0, 1) := by decide +kernel
theorem d_method_2_code_1 : decode method_2_code 1 = .ok (.bipush 125, 2) := by decide +kernel
theorem d_method_2_code_3 : decode method_2_code 3 = .ok (.if_icmp .ne 8, 3) := by decide +kernel
theorem d_method_2_code_6 : decode method_2_code 6 = .ok (.bipush 124, 2) := by decide +kernel
theorem d_method_2_code_8 : decode method_2_code 8 = .ok (.goto 5, 3) := by decide +kernel
theorem d_method_2_code_11 : decode method_2_code 11 = .ok (.iload_n 0, 1) := by decide +kernel
theorem d_method_2_code_12 : decode method_2_code 12 = .ok (.i2c, 1) := by decide +kernel
theorem d_method_2_code_13 : decode method_2_code 13 = .ok (.ireturn, 1) := by decide +kernel
theorem rm_nm (l : Launch) (Z : State) (a0 : Array Value) (hw : ∀ d ∈ tables_1, d.before a0 Z = true) (hEL : EW Z a0 consts_1) {ws : List Jvm.Cond} (q : Int32) (h0 : Heap) (n0 : Nat) (hq : Ch8 q) :
    Met l Z consts_1 (⟨"com/example/holdfast/holdfast/KeysLastCallPinLaw", "nameChar", "(I)C"⟩ : MethodName) method_2_code 1 (some .char) ws ({ frames := 0, cells := 0, slots := 0, locals := 0 } : Room) [] #[(.int q)] h0 n0 (nq (fun v h => ∃ z, v = some (.int (nar .char z)) ∧ Ch8 z ∧ z ≠ 125 ∧ h = h0)) := by
  refine met_of (plainFor_of_name pn_com_example_holdfast_holdfast_KeysLastCallPinLaw) hw #[.val (.int q)] (fun m => by first | rfl | (simp [entryFrame, mkF, argsToLocals, Value.category]; done)) ?_
  intro p e s m below meth c C0
  have C : Cx Z a0 tables_1 p s m meth c "com/example/holdfast/holdfast/KeysLastCallPinLaw" "nameChar" method_2_code 1 (some .char) n0 := C0
  refine g_iloadN C d_method_2_code_0 rfl ?_
  refine g_bipush C 125 d_method_2_code_1 rfl ?_
  by_cases hc729 : q = (125 : Int32)
  · refine g_icmp_f C d_method_2_code_3 (XT.ii_ne_f hc729) ?_
    refine g_bipush C 124 d_method_2_code_6 rfl ?_
    refine g_goto C 13 d_method_2_code_8 (by decide) (by decide) ?_
    refine g_ireturnN C hEL (t := .char) rfl (by simp) d_method_2_code_13 (by decide) (by decide) ?_
    exact ⟨124, rfl, by unfold Ch8; decide, by decide, rfl⟩
  · refine g_icmp_t C 11 d_method_2_code_3 (XT.ii_ne_t hc729) (by decide) (by decide) ?_
    refine g_iloadN C d_method_2_code_11 rfl ?_
    refine g_i2c C d_method_2_code_12 ?_
    refine g_ireturnN C hEL (t := .char) rfl (by simp) d_method_2_code_13 (by decide) (by decide) ?_
    exact ⟨q, by rw [own_i2c8 hq], hq, hc729, rfl⟩
theorem pd__C_Ljava_lang_String_ : parseMethodDescriptor "(C)Ljava/lang/String;" = some ⟨[.char], some (.object "java/lang/String")⟩ := by decide +kernel
theorem pd__I_C : parseMethodDescriptor "(I)C" = some ⟨[.int], some .char⟩ := by decide +kernel
theorem pd__ILjava_lang_String_Ljava_lang_String__Ljava_lang_String_ : parseMethodDescriptor "(ILjava/lang/String;Ljava/lang/String;)Ljava/lang/String;" = some ⟨[.int, (.object "java/lang/String"), (.object "java/lang/String")], some (.object "java/lang/String")⟩ := by decide +kernel
theorem pd__Ljava_lang_Object__Z : parseMethodDescriptor "(Ljava/lang/Object;)Z" = some ⟨[(.object "java/lang/Object")], some .boolean⟩ := by decide +kernel
theorem pd___C_V : parseMethodDescriptor "([C)V" = some ⟨[(.array .char)], none⟩ := by decide +kernel
theorem rm_law (l : Launch) (Z : State) (a0 : Array Value) (hw : ∀ d ∈ tables_1, d.before a0 Z = true) (hEL : EW Z a0 consts_1) {ws : List Jvm.Cond} (i1 i2 i3 zc : Int32) (fm : Value) (h0 : Heap) (n0 : Nat) (Szc : Sta Z h0 "java/lang/String" "COMPACT_STRINGS" "Z" (.int zc)) (hzc : ¬ (zc = (0 : Int32))) (Sfm : Sta Z h0 "jdk/internal/util/Preconditions" "SIOOBE_FORMATTER" "Ljava/util/function/BiFunction;" fm) (hfm : fm.isRef = true) :
    Met l Z consts_1 x code maxLocals ret ws room_1 [] #[(.int i1), (.int i2), (.int i3)] h0 n0 (nq (fun v _ => v = some (.int 1))) := by
  refine met_of (plainFor_of_name pn_com_example_holdfast_holdfast_KeysLastCallPinLaw) hw #[.val (.int i1), .val (.int i2), .val (.int i3), .unset, .unset, .unset, .unset, .unset, .unset, .unset, .unset, .unset, .unset, .unset] (fun m => by first | rfl | (simp [entryFrame, mkF, argsToLocals, Value.category, maxLocals]; done)) ?_
  intro p e s m below meth c C0
  have C : Cx Z a0 tables_1 p s m meth c "com/example/holdfast/holdfast/KeysLastCallPinLaw" "law" code maxLocals ret n0 := C0
  refine g_iconst C 1 at_0 rfl ?_
  refine g_iloadN C at_1 rfl ?_
  refine g_bipush C 16 at_2 rfl ?_
  refine g_iushr C at_4 ?_
  refine g_iconst C 1 at_5 rfl ?_
  refine g_iand C at_6 ?_
  refine g_iadd C at_7 ?_
  refine g_istoreN C #[.val (.int i1), .val (.int i2), .val (.int i3), .val (.int ((1 : Int32) + (((i1.toUInt32 >>> ((16 : Int32) &&& 31).toUInt32).toInt32) &&& (1 : Int32)))), .unset, .unset, .unset, .unset, .unset, .unset, .unset, .unset, .unset, .unset] at_8 rfl ?_
  rcases (own_bit _ : ((1 : Int32) + (((i1.toUInt32 >>> ((16 : Int32) &&& 31).toUInt32).toInt32) &&& (1 : Int32))) = 1 ∨ ((1 : Int32) + (((i1.toUInt32 >>> ((16 : Int32) &&& 31).toUInt32).toInt32) &&& (1 : Int32))) = 2) with e_dA | e_dA
  · rw [e_dA]
    refine g_iloadN C at_9 rfl ?_
    refine g_sipush C 255 at_10 rfl ?_
    refine g_iand C at_13 ?_
    refine g_static C w_0 w_1 w_2 w_3 (by decide) [(.int (i1 &&& (255 : Int32)))] (ct_of hEL hw w_3 w_2 (rm_nm l Z a0 hw hEL (i1 &&& (255 : Int32)) h0 n0 (ch8_mask _))) all0 (by decide) 0 (by decide) rfl pd__I_C rfl [] rfl (Nat.le_of_eq rfl) at_14 (by decide) (by decide) ?_
    intro v730 h730 Q730
    obtain ⟨z730, rfl, hz730, hx730, e730⟩ := Q730
    replace e730 := e730.symm
    subst e730
    rw [nar_ch8 hz730]
    refine g_istore C #[.val (.int i1), .val (.int i2), .val (.int i3), .val (.int (1 : Int32)), .val (.int z730), .unset, .unset, .unset, .unset, .unset, .unset, .unset, .unset, .unset] at_17 rfl ?_
    refine g_iloadN C at_19 rfl ?_
    refine g_bipush C 8 at_20 rfl ?_
    refine g_iushr C at_22 ?_
    refine g_sipush C 255 at_23 rfl ?_
    refine g_iand C at_26 ?_
    refine g_static C w_0 w_1 w_2 w_3 (by decide) [(.int (((i1.toUInt32 >>> ((8 : Int32) &&& 31).toUInt32).toInt32) &&& (255 : Int32)))] (ct_of hEL hw w_3 w_2 (rm_nm l Z a0 hw hEL (((i1.toUInt32 >>> ((8 : Int32) &&& 31).toUInt32).toInt32) &&& (255 : Int32)) h0 n0 (ch8_mask _))) all0 (by decide) 0 (by decide) rfl pd__I_C rfl [] rfl (Nat.le_of_eq rfl) at_27 (by decide) (by decide) ?_
    intro v731 h731 Q731
    obtain ⟨z731, rfl, hz731, hx731, e731⟩ := Q731
    replace e731 := e731.symm
    subst e731
    rw [nar_ch8 hz731]
    refine g_istore C #[.val (.int i1), .val (.int i2), .val (.int i3), .val (.int (1 : Int32)), .val (.int z730), .val (.int z731), .unset, .unset, .unset, .unset, .unset, .unset, .unset, .unset] at_30 rfl ?_
    refine g_iloadN C at_32 rfl ?_
    refine g_iconst C 1 at_33 rfl ?_
    refine g_icmp_f C at_34 (XT.ii_ne_f (by decide)) ?_
    refine g_iload C at_37 rfl ?_
    refine g_static C w_4 w_5 w_6 w_7 (by decide) [(.int z730)] (ct_of hEL hw w_7 w_6 (rm_vo l Z a0 hw hEL z730 zc h0 n0 hz730 Szc hzc)) all0 (by decide) 0 (by decide) rfl pd__C_Ljava_lang_String_ rfl [] rfl (Nat.le_of_eq rfl) at_39 (by decide) (by decide) ?_
    intro v732 h732 Q732
    obtain ⟨a732, t732, k732, rfl, KC732, le732, lt732, S732⟩ := Q732
    refine g_goto C 65 at_42 (by decide) (by decide) ?_
    refine g_astore C #[.val (.int i1), .val (.int i2), .val (.int i3), .val (.int (1 : Int32)), .val (.int z730), .val (.int z731), .val (.ref a732), .unset, .unset, .unset, .unset, .unset, .unset, .unset] at_65 rfl rfl ?_
    refine g_iloadN C at_67 rfl ?_
    refine g_bipush C 16 at_68 rfl ?_
    refine g_iushr C at_70 ?_
    refine g_iconst C 3 at_71 rfl ?_
    refine g_iand C at_72 ?_
    refine g_iconst C 3 at_73 rfl ?_
    refine g_irem C at_74 (by decide) ?_
    refine g_istore C #[.val (.int i1), .val (.int i2), .val (.int i3), .val (.int (1 : Int32)), .val (.int z730), .val (.int z731), .val (.ref a732), .val (.int ((((i2.toUInt32 >>> ((16 : Int32) &&& 31).toUInt32).toInt32) &&& (3 : Int32)) % (3 : Int32))), .unset, .unset, .unset, .unset, .unset, .unset] at_75 rfl ?_
    rcases (own_m3 _ : ((((i2.toUInt32 >>> ((16 : Int32) &&& 31).toUInt32).toInt32) &&& (3 : Int32)) % (3 : Int32)) = 0 ∨ ((((i2.toUInt32 >>> ((16 : Int32) &&& 31).toUInt32).toInt32) &&& (3 : Int32)) % (3 : Int32)) = 1 ∨ ((((i2.toUInt32 >>> ((16 : Int32) &&& 31).toUInt32).toInt32) &&& (3 : Int32)) % (3 : Int32)) = 2) with e_dB | e_dB | e_dB
    · rw [e_dB]
      refine g_iloadN C at_77 rfl ?_
      refine g_sipush C 255 at_78 rfl ?_
      refine g_iand C at_81 ?_
      refine g_i2c C at_82 ?_
      refine g_istore C #[.val (.int i1), .val (.int i2), .val (.int i3), .val (.int (1 : Int32)), .val (.int z730), .val (.int z731), .val (.ref a732), .val (.int (0 : Int32)), .val (.int ((i2 &&& (255 : Int32)).toUInt32.toUInt16.toUInt32.toInt32)), .unset, .unset, .unset, .unset, .unset] at_83 rfl ?_
      obtain ⟨c8, e_c8, h_c8⟩ : ∃ z : Int32, ((i2 &&& (255 : Int32)).toUInt32.toUInt16.toUInt32.toInt32) = z ∧ Ch8 z := ⟨_, rfl, ch8_i2c _⟩
      rw [e_c8]
      refine g_iloadN C at_85 rfl ?_
      refine g_bipush C 8 at_86 rfl ?_
      refine g_iushr C at_88 ?_
      refine g_sipush C 255 at_89 rfl ?_
      refine g_iand C at_92 ?_
      refine g_i2c C at_93 ?_
      refine g_istore C #[.val (.int i1), .val (.int i2), .val (.int i3), .val (.int (1 : Int32)), .val (.int z730), .val (.int z731), .val (.ref a732), .val (.int (0 : Int32)), .val (.int c8), .val (.int ((((i2.toUInt32 >>> ((8 : Int32) &&& 31).toUInt32).toInt32) &&& (255 : Int32)).toUInt32.toUInt16.toUInt32.toInt32)), .unset, .unset, .unset, .unset] at_94 rfl ?_
      obtain ⟨c9, e_c9, h_c9⟩ : ∃ z : Int32, ((((i2.toUInt32 >>> ((8 : Int32) &&& 31).toUInt32).toInt32) &&& (255 : Int32)).toUInt32.toUInt16.toUInt32.toInt32) = z ∧ Ch8 z := ⟨_, rfl, ch8_i2c _⟩
      rw [e_c9]
      refine g_iload C at_96 rfl ?_
      refine g_if_f C at_98 (XT.i0_ne_f (by decide)) ?_
      refine g_ldcS C hEL w_30 own_sA (mg (i := 16) rfl) [] ⟨by decide +kernel, by decide +kernel⟩ (by decide) (by decide) at_101 0 (by decide +kernel) (by decide) (by decide) (by decide) ?_
      intro a733 t733 kb733 h733 E733 S733 X733
      refine g_goto C 140 at_103 (by decide) (by decide) ?_
      refine g_astore C #[.val (.int i1), .val (.int i2), .val (.int i3), .val (.int (1 : Int32)), .val (.int z730), .val (.int z731), .val (.ref a732), .val (.int (0 : Int32)), .val (.int c8), .val (.int c9), .val (.ref a733), .unset, .unset, .unset] at_140 rfl rfl ?_
      refine g_iloadN C at_142 rfl ?_
      refine g_bipush C 7 at_143 rfl ?_
      refine g_iand C at_145 ?_
      refine g_aload C at_146 rfl rfl ?_
      refine g_aload C at_148 rfl rfl ?_
      have K734 : Keep h732 h733 [] := (Keep.refl h732 []).ext E733
      have S735 := (S732.keep K734 nin0 nin0)
      have K736 : Keep h0 h732 [] := (Keep.refl h0 []).trans KC732 all0
      have K737 : Keep h0 h733 [] := K736.ext E733
      refine g_static C w_33 w_34 w_2 w_35 (by decide) [(.int (i3 &&& (7 : Int32))), (.ref a732), (.ref a733)] (ct_of hEL hw w_35 w_2 (rm_key l Z a0 hw hEL (i3 &&& (7 : Int32)) a732 t732 a733 t733 _ _ [z730] [] zc h733 n0 S735 (nb rfl) (nb rfl) (own_nocons hx730 (fun _ q => nomatch q)) S733 (nb rfl) (Sta_keep Szc K737) hzc)) all0 (by decide) 0 (by decide) rfl pd__ILjava_lang_String_Ljava_lang_String__Ljava_lang_String_ rfl [] rfl (Nat.le_of_eq rfl) at_150 (by decide) (by decide) ?_
      intro v738 h738 Q738
      obtain ⟨a738, t738, k738, P738, Sx738, rfl, KC738, le738, lt738, S738, hP738, hP0738, hP19738, hSx738⟩ := Q738
      refine g_astore C #[.val (.int i1), .val (.int i2), .val (.int i3), .val (.int (1 : Int32)), .val (.int z730), .val (.int z731), .val (.ref a732), .val (.int (0 : Int32)), .val (.int c8), .val (.int c9), .val (.ref a733), .val (.ref a738), .unset, .unset] at_153 rfl rfl ?_
      refine g_aload C at_155 rfl rfl ?_
      refine g_aload C at_157 rfl rfl ?_
      have K739 : Keep h733 h738 [] := (Keep.refl h733 []).trans KC738 all0
      have S740 := (S733.keep K739 nin0 nin0)
      have K741 : Keep h0 h738 [] := K737.trans KC738 all0
      refine g_static C w_214 w_215 w_38 w_216 (by decide) [(.ref a738), (.ref a733)] (ct_of hEL hw w_216 w_38 (rm_lastCall l Z a0 hw hEL a738 t738 a733 t733 _ _ P738 [z730] Sx738 [] zc fm h738 n0 S738 S740 (nb rfl) (nb rfl) (own_nocons hx730 (fun _ q => nomatch q)) (nb rfl) hP738 hP0738 hP19738 hSx738 (Sta_keep Szc K741) hzc (Sta_keep Sfm K741) hfm)) all0 (by decide) 0 (by decide) rfl pd__Ljava_lang_String_Ljava_lang_String__Ljava_lang_String_ rfl [] rfl (Nat.le_of_eq rfl) at_159 (by decide) (by decide) ?_
      intro v742 h742 Q742
      obtain ⟨a742, t742, k742, rfl, KC742, le742, lt742, S742⟩ := Q742
      replace S742 : Str Z h742 a742 t742 k742 [104, 111, 108, 100, 102, 97, 115, 116, 58, 99, 97, 108, 108, 58, 123, z730, 125, 58] := S742
      refine g_astore C #[.val (.int i1), .val (.int i2), .val (.int i3), .val (.int (1 : Int32)), .val (.int z730), .val (.int z731), .val (.ref a732), .val (.int (0 : Int32)), .val (.int c8), .val (.int c9), .val (.ref a733), .val (.ref a738), .val (.ref a742), .unset] at_162 rfl rfl ?_
      refine g_aload C at_164 rfl rfl ?_
      have K743 : Keep h0 h742 [] := K741.trans KC742 all0
      refine g_virtual C S742.1 w_238 w_73 (fun hZ => nf_sel hw w_75 hZ) w_75 w_74 (by decide) [] (ct_len hEL hw S742 (Sta_keep Szc K743) hzc) all0 (by decide) 0 (by decide) rfl pd___I rfl [] rfl (Nat.le_of_eq rfl) at_166 (by decide) (by decide) ?_
      intro v744 h744 Q744
      obtain ⟨ev744, e744⟩ := Q744
      replace e744 := e744.symm
      subst e744
      replace ev744 : v744 = some (.int (18 : Int32)) := ev744
      subst ev744
      refine g_bipush C 17 at_169 rfl ?_
      refine g_iloadN C at_171 rfl ?_
      refine g_iadd C at_172 ?_
      rw [show ((17 : Int32) + (1 : Int32)) = (18 : Int32) from by decide]
      refine g_iload C at_173 rfl ?_
      refine g_iadd C at_175 ?_
      rw [show ((18 : Int32) + (0 : Int32)) = (18 : Int32) from by decide]
      refine g_icmp_t C 181 at_176 (XT.ii_eq_t (by decide)) (by decide) (by decide) ?_
      refine g_new C w_239 w_14 w_6 at_181 (by decide) (by decide) ?_
      intro b745 h745 g745 E745 A745 D745
      refine g_dup C at_184 rfl ?_
      refine g_bipush C 15 at_185 rfl ?_
      refine g_newarray C (aty := .char) w_240 at_187 (by decide) 15 (by decide) (by decide) (by decide) (by decide) "[C" rfl ?_
      intro b746 h746 ka746 g746 E746 V746 A746
      replace V746 : Arv Z h746 b746 ka746 .char (15 : Int32) [(.int (0 : Int32)), (.int (0 : Int32)), (.int (0 : Int32)), (.int (0 : Int32)), (.int (0 : Int32)), (.int (0 : Int32)), (.int (0 : Int32)), (.int (0 : Int32)), (.int (0 : Int32)), (.int (0 : Int32)), (.int (0 : Int32)), (.int (0 : Int32)), (.int (0 : Int32)), (.int (0 : Int32)), (.int (0 : Int32))] (.int (0 : Int32)) := V746.pad (pad_rep [] _ 15)
      refine g_dup C at_189 rfl ?_
      refine g_iconst C 0 at_190 rfl ?_
      refine g_aload C at_191 rfl rfl ?_
      refine g_iconst C 0 at_193 rfl ?_
      have K747 : Keep h742 h745 [] := (Keep.refl h742 []).ext E745
      have K748 : Keep h742 h746 [] := K747.ext E746
      have S749 := (S742.keep K748 nin0 nin0)
      have K750 : Keep h0 h745 [] := K743.ext E745
      have K751 : Keep h0 h746 [] := K750.ext E746
      have E753 := (S742.1.keep K748)
      refine g_virtual C E753 w_241 w_242 (fun hZ => nf_sel hw w_244 hZ) w_244 w_243 (by decide) [(.int (0 : Int32))] (ct_ch hEL hw S749 (Sta_keep Szc K751) hzc (Sta_keep Sfm K751) hfm 0 (nb rfl) (0 : Int32) rfl) all0 (by decide) 5 (by decide) rfl pd__I_C rfl [(.int (0 : Int32)), (.ref b746), (.ref b746), (.ref b745), (.ref b745)] rfl (Nat.le_of_eq rfl) at_194 (by decide) (by decide) ?_
      intro v752 h752 Q752
      obtain ⟨ev752, e752⟩ := Q752
      replace e752 := e752.symm
      subst e752
      replace ev752 : v752 = some (.int (104 : Int32)) := ev752
      subst ev752
      refine g_castore C V746 (mg (i := 0) rfl) at_197 ⟨by decide, by decide⟩ 0 rfl (nb rfl) ?_
      intro h754 W754 V754
      rw [nar_ch8 (by unfold Ch8; decide)] at V754
      replace V754 : Arv Z h754 b746 ka746 .char (15 : Int32) [(.int (104 : Int32)), (.int (0 : Int32)), (.int (0 : Int32)), (.int (0 : Int32)), (.int (0 : Int32)), (.int (0 : Int32)), (.int (0 : Int32)), (.int (0 : Int32)), (.int (0 : Int32)), (.int (0 : Int32)), (.int (0 : Int32)), (.int (0 : Int32)), (.int (0 : Int32)), (.int (0 : Int32)), (.int (0 : Int32))] (.int (0 : Int32)) := V754
      refine g_dup C at_198 rfl ?_
      refine g_iconst C 1 at_199 rfl ?_
      refine g_aload C at_200 rfl rfl ?_
      refine g_iconst C 1 at_202 rfl ?_
      have E755 := (S742.1.keep K747)
      have S756 := (S742.keep K747 nin0 nin0)
      have S757 := (S749.other W754 (Nat.ne_of_lt (Nat.lt_of_lt_of_le E755.lt (Nat.le_of_eq g746.symm))) (Nat.ne_of_lt (Nat.lt_of_lt_of_le S756.tlt (Nat.le_of_eq g746.symm))))
      have K758 : Keep h0 h754 [] := K751.wr W754 (Or.inr (Nat.le_trans K750.1 (Nat.le_of_eq g746.symm)))
      have E760 := (E753.wr W754)
      refine g_virtual C E760 w_241 w_242 (fun hZ => nf_sel hw w_244 hZ) w_244 w_243 (by decide) [(.int (1 : Int32))] (ct_ch hEL hw S757 (Sta_keep Szc K758) hzc (Sta_keep Sfm K758) hfm 1 (nb rfl) (1 : Int32) rfl) all0 (by decide) 5 (by decide) rfl pd__I_C rfl [(.int (1 : Int32)), (.ref b746), (.ref b746), (.ref b745), (.ref b745)] rfl (Nat.le_of_eq rfl) at_203 (by decide) (by decide) ?_
      intro v759 h759 Q759
      obtain ⟨ev759, e759⟩ := Q759
      replace e759 := e759.symm
      subst e759
      replace ev759 : v759 = some (.int (111 : Int32)) := ev759
      subst ev759
      refine g_castore C V754 (mg (i := 0) rfl) at_206 ⟨by decide, by decide⟩ 1 rfl (nb rfl) ?_
      intro h761 W761 V761
      rw [nar_ch8 (by unfold Ch8; decide)] at V761
      replace V761 : Arv Z h761 b746 ka746 .char (15 : Int32) [(.int (104 : Int32)), (.int (111 : Int32)), (.int (0 : Int32)), (.int (0 : Int32)), (.int (0 : Int32)), (.int (0 : Int32)), (.int (0 : Int32)), (.int (0 : Int32)), (.int (0 : Int32)), (.int (0 : Int32)), (.int (0 : Int32)), (.int (0 : Int32)), (.int (0 : Int32)), (.int (0 : Int32)), (.int (0 : Int32))] (.int (0 : Int32)) := V761
      refine g_dup C at_207 rfl ?_
      refine g_iconst C 2 at_208 rfl ?_
      refine g_aload C at_209 rfl rfl ?_
      refine g_iconst C 2 at_211 rfl ?_
      have S762 := (S757.other W761 (Nat.ne_of_lt (Nat.lt_of_lt_of_le E755.lt (Nat.le_of_eq g746.symm))) (Nat.ne_of_lt (Nat.lt_of_lt_of_le S756.tlt (Nat.le_of_eq g746.symm))))
      have K763 : Keep h0 h761 [] := K758.wr W761 (Or.inr (Nat.le_trans K750.1 (Nat.le_of_eq g746.symm)))
      have E765 := (E760.wr W761)
      refine g_virtual C E765 w_241 w_242 (fun hZ => nf_sel hw w_244 hZ) w_244 w_243 (by decide) [(.int (2 : Int32))] (ct_ch hEL hw S762 (Sta_keep Szc K763) hzc (Sta_keep Sfm K763) hfm 2 (nb rfl) (2 : Int32) rfl) all0 (by decide) 5 (by decide) rfl pd__I_C rfl [(.int (2 : Int32)), (.ref b746), (.ref b746), (.ref b745), (.ref b745)] rfl (Nat.le_of_eq rfl) at_212 (by decide) (by decide) ?_
      intro v764 h764 Q764
      obtain ⟨ev764, e764⟩ := Q764
      replace e764 := e764.symm
      subst e764
      replace ev764 : v764 = some (.int (108 : Int32)) := ev764
      subst ev764
      refine g_castore C V761 (mg (i := 0) rfl) at_215 ⟨by decide, by decide⟩ 2 rfl (nb rfl) ?_
      intro h766 W766 V766
      rw [nar_ch8 (by unfold Ch8; decide)] at V766
      replace V766 : Arv Z h766 b746 ka746 .char (15 : Int32) [(.int (104 : Int32)), (.int (111 : Int32)), (.int (108 : Int32)), (.int (0 : Int32)), (.int (0 : Int32)), (.int (0 : Int32)), (.int (0 : Int32)), (.int (0 : Int32)), (.int (0 : Int32)), (.int (0 : Int32)), (.int (0 : Int32)), (.int (0 : Int32)), (.int (0 : Int32)), (.int (0 : Int32)), (.int (0 : Int32))] (.int (0 : Int32)) := V766
      refine g_dup C at_216 rfl ?_
      refine g_iconst C 3 at_217 rfl ?_
      refine g_aload C at_218 rfl rfl ?_
      refine g_iconst C 3 at_220 rfl ?_
      have S767 := (S762.other W766 (Nat.ne_of_lt (Nat.lt_of_lt_of_le E755.lt (Nat.le_of_eq g746.symm))) (Nat.ne_of_lt (Nat.lt_of_lt_of_le S756.tlt (Nat.le_of_eq g746.symm))))
      have K768 : Keep h0 h766 [] := K763.wr W766 (Or.inr (Nat.le_trans K750.1 (Nat.le_of_eq g746.symm)))
      have E770 := (E765.wr W766)
      refine g_virtual C E770 w_241 w_242 (fun hZ => nf_sel hw w_244 hZ) w_244 w_243 (by decide) [(.int (3 : Int32))] (ct_ch hEL hw S767 (Sta_keep Szc K768) hzc (Sta_keep Sfm K768) hfm 3 (nb rfl) (3 : Int32) rfl) all0 (by decide) 5 (by decide) rfl pd__I_C rfl [(.int (3 : Int32)), (.ref b746), (.ref b746), (.ref b745), (.ref b745)] rfl (Nat.le_of_eq rfl) at_221 (by decide) (by decide) ?_
      intro v769 h769 Q769
      obtain ⟨ev769, e769⟩ := Q769
      replace e769 := e769.symm
      subst e769
      replace ev769 : v769 = some (.int (100 : Int32)) := ev769
      subst ev769
      refine g_castore C V766 (mg (i := 0) rfl) at_224 ⟨by decide, by decide⟩ 3 rfl (nb rfl) ?_
      intro h771 W771 V771
      rw [nar_ch8 (by unfold Ch8; decide)] at V771
      replace V771 : Arv Z h771 b746 ka746 .char (15 : Int32) [(.int (104 : Int32)), (.int (111 : Int32)), (.int (108 : Int32)), (.int (100 : Int32)), (.int (0 : Int32)), (.int (0 : Int32)), (.int (0 : Int32)), (.int (0 : Int32)), (.int (0 : Int32)), (.int (0 : Int32)), (.int (0 : Int32)), (.int (0 : Int32)), (.int (0 : Int32)), (.int (0 : Int32)), (.int (0 : Int32))] (.int (0 : Int32)) := V771
      refine g_dup C at_225 rfl ?_
      refine g_iconst C 4 at_226 rfl ?_
      refine g_aload C at_227 rfl rfl ?_
      refine g_iconst C 4 at_229 rfl ?_
      have S772 := (S767.other W771 (Nat.ne_of_lt (Nat.lt_of_lt_of_le E755.lt (Nat.le_of_eq g746.symm))) (Nat.ne_of_lt (Nat.lt_of_lt_of_le S756.tlt (Nat.le_of_eq g746.symm))))
      have K773 : Keep h0 h771 [] := K768.wr W771 (Or.inr (Nat.le_trans K750.1 (Nat.le_of_eq g746.symm)))
      have E775 := (E770.wr W771)
      refine g_virtual C E775 w_241 w_242 (fun hZ => nf_sel hw w_244 hZ) w_244 w_243 (by decide) [(.int (4 : Int32))] (ct_ch hEL hw S772 (Sta_keep Szc K773) hzc (Sta_keep Sfm K773) hfm 4 (nb rfl) (4 : Int32) rfl) all0 (by decide) 5 (by decide) rfl pd__I_C rfl [(.int (4 : Int32)), (.ref b746), (.ref b746), (.ref b745), (.ref b745)] rfl (Nat.le_of_eq rfl) at_230 (by decide) (by decide) ?_
      intro v774 h774 Q774
      obtain ⟨ev774, e774⟩ := Q774
      replace e774 := e774.symm
      subst e774
      replace ev774 : v774 = some (.int (102 : Int32)) := ev774
      subst ev774
      refine g_castore C V771 (mg (i := 0) rfl) at_233 ⟨by decide, by decide⟩ 4 rfl (nb rfl) ?_
      intro h776 W776 V776
      rw [nar_ch8 (by unfold Ch8; decide)] at V776
      replace V776 : Arv Z h776 b746 ka746 .char (15 : Int32) [(.int (104 : Int32)), (.int (111 : Int32)), (.int (108 : Int32)), (.int (100 : Int32)), (.int (102 : Int32)), (.int (0 : Int32)), (.int (0 : Int32)), (.int (0 : Int32)), (.int (0 : Int32)), (.int (0 : Int32)), (.int (0 : Int32)), (.int (0 : Int32)), (.int (0 : Int32)), (.int (0 : Int32)), (.int (0 : Int32))] (.int (0 : Int32)) := V776
      refine g_dup C at_234 rfl ?_
      refine g_iconst C 5 at_235 rfl ?_
      refine g_aload C at_236 rfl rfl ?_
      refine g_iconst C 5 at_238 rfl ?_
      have S777 := (S772.other W776 (Nat.ne_of_lt (Nat.lt_of_lt_of_le E755.lt (Nat.le_of_eq g746.symm))) (Nat.ne_of_lt (Nat.lt_of_lt_of_le S756.tlt (Nat.le_of_eq g746.symm))))
      have K778 : Keep h0 h776 [] := K773.wr W776 (Or.inr (Nat.le_trans K750.1 (Nat.le_of_eq g746.symm)))
      have E780 := (E775.wr W776)
      refine g_virtual C E780 w_241 w_242 (fun hZ => nf_sel hw w_244 hZ) w_244 w_243 (by decide) [(.int (5 : Int32))] (ct_ch hEL hw S777 (Sta_keep Szc K778) hzc (Sta_keep Sfm K778) hfm 5 (nb rfl) (5 : Int32) rfl) all0 (by decide) 5 (by decide) rfl pd__I_C rfl [(.int (5 : Int32)), (.ref b746), (.ref b746), (.ref b745), (.ref b745)] rfl (Nat.le_of_eq rfl) at_239 (by decide) (by decide) ?_
      intro v779 h779 Q779
      obtain ⟨ev779, e779⟩ := Q779
      replace e779 := e779.symm
      subst e779
      replace ev779 : v779 = some (.int (97 : Int32)) := ev779
      subst ev779
      refine g_castore C V776 (mg (i := 0) rfl) at_242 ⟨by decide, by decide⟩ 5 rfl (nb rfl) ?_
      intro h781 W781 V781
      rw [nar_ch8 (by unfold Ch8; decide)] at V781
      replace V781 : Arv Z h781 b746 ka746 .char (15 : Int32) [(.int (104 : Int32)), (.int (111 : Int32)), (.int (108 : Int32)), (.int (100 : Int32)), (.int (102 : Int32)), (.int (97 : Int32)), (.int (0 : Int32)), (.int (0 : Int32)), (.int (0 : Int32)), (.int (0 : Int32)), (.int (0 : Int32)), (.int (0 : Int32)), (.int (0 : Int32)), (.int (0 : Int32)), (.int (0 : Int32))] (.int (0 : Int32)) := V781
      refine g_dup C at_243 rfl ?_
      refine g_bipush C 6 at_244 rfl ?_
      refine g_aload C at_246 rfl rfl ?_
      refine g_bipush C 6 at_248 rfl ?_
      have S782 := (S777.other W781 (Nat.ne_of_lt (Nat.lt_of_lt_of_le E755.lt (Nat.le_of_eq g746.symm))) (Nat.ne_of_lt (Nat.lt_of_lt_of_le S756.tlt (Nat.le_of_eq g746.symm))))
      have K783 : Keep h0 h781 [] := K778.wr W781 (Or.inr (Nat.le_trans K750.1 (Nat.le_of_eq g746.symm)))
      have E785 := (E780.wr W781)
      refine g_virtual C E785 w_241 w_242 (fun hZ => nf_sel hw w_244 hZ) w_244 w_243 (by decide) [(.int (6 : Int32))] (ct_ch hEL hw S782 (Sta_keep Szc K783) hzc (Sta_keep Sfm K783) hfm 6 (nb rfl) (6 : Int32) rfl) all0 (by decide) 5 (by decide) rfl pd__I_C rfl [(.int (6 : Int32)), (.ref b746), (.ref b746), (.ref b745), (.ref b745)] rfl (Nat.le_of_eq rfl) at_250 (by decide) (by decide) ?_
      intro v784 h784 Q784
      obtain ⟨ev784, e784⟩ := Q784
      replace e784 := e784.symm
      subst e784
      replace ev784 : v784 = some (.int (115 : Int32)) := ev784
      subst ev784
      refine g_castore C V781 (mg (i := 0) rfl) at_253 ⟨by decide, by decide⟩ 6 rfl (nb rfl) ?_
      intro h786 W786 V786
      rw [nar_ch8 (by unfold Ch8; decide)] at V786
      replace V786 : Arv Z h786 b746 ka746 .char (15 : Int32) [(.int (104 : Int32)), (.int (111 : Int32)), (.int (108 : Int32)), (.int (100 : Int32)), (.int (102 : Int32)), (.int (97 : Int32)), (.int (115 : Int32)), (.int (0 : Int32)), (.int (0 : Int32)), (.int (0 : Int32)), (.int (0 : Int32)), (.int (0 : Int32)), (.int (0 : Int32)), (.int (0 : Int32)), (.int (0 : Int32))] (.int (0 : Int32)) := V786
      refine g_dup C at_254 rfl ?_
      refine g_bipush C 7 at_255 rfl ?_
      refine g_aload C at_257 rfl rfl ?_
      refine g_bipush C 7 at_259 rfl ?_
      have S787 := (S782.other W786 (Nat.ne_of_lt (Nat.lt_of_lt_of_le E755.lt (Nat.le_of_eq g746.symm))) (Nat.ne_of_lt (Nat.lt_of_lt_of_le S756.tlt (Nat.le_of_eq g746.symm))))
      have K788 : Keep h0 h786 [] := K783.wr W786 (Or.inr (Nat.le_trans K750.1 (Nat.le_of_eq g746.symm)))
      have E790 := (E785.wr W786)
      refine g_virtual C E790 w_241 w_242 (fun hZ => nf_sel hw w_244 hZ) w_244 w_243 (by decide) [(.int (7 : Int32))] (ct_ch hEL hw S787 (Sta_keep Szc K788) hzc (Sta_keep Sfm K788) hfm 7 (nb rfl) (7 : Int32) rfl) all0 (by decide) 5 (by decide) rfl pd__I_C rfl [(.int (7 : Int32)), (.ref b746), (.ref b746), (.ref b745), (.ref b745)] rfl (Nat.le_of_eq rfl) at_261 (by decide) (by decide) ?_
      intro v789 h789 Q789
      obtain ⟨ev789, e789⟩ := Q789
      replace e789 := e789.symm
      subst e789
      replace ev789 : v789 = some (.int (116 : Int32)) := ev789
      subst ev789
      refine g_castore C V786 (mg (i := 0) rfl) at_264 ⟨by decide, by decide⟩ 7 rfl (nb rfl) ?_
      intro h791 W791 V791
      rw [nar_ch8 (by unfold Ch8; decide)] at V791
      replace V791 : Arv Z h791 b746 ka746 .char (15 : Int32) [(.int (104 : Int32)), (.int (111 : Int32)), (.int (108 : Int32)), (.int (100 : Int32)), (.int (102 : Int32)), (.int (97 : Int32)), (.int (115 : Int32)), (.int (116 : Int32)), (.int (0 : Int32)), (.int (0 : Int32)), (.int (0 : Int32)), (.int (0 : Int32)), (.int (0 : Int32)), (.int (0 : Int32)), (.int (0 : Int32))] (.int (0 : Int32)) := V791
      refine g_dup C at_265 rfl ?_
      refine g_bipush C 8 at_266 rfl ?_
      refine g_aload C at_268 rfl rfl ?_
      refine g_bipush C 8 at_270 rfl ?_
      have S792 := (S787.other W791 (Nat.ne_of_lt (Nat.lt_of_lt_of_le E755.lt (Nat.le_of_eq g746.symm))) (Nat.ne_of_lt (Nat.lt_of_lt_of_le S756.tlt (Nat.le_of_eq g746.symm))))
      have K793 : Keep h0 h791 [] := K788.wr W791 (Or.inr (Nat.le_trans K750.1 (Nat.le_of_eq g746.symm)))
      have E795 := (E790.wr W791)
      refine g_virtual C E795 w_241 w_242 (fun hZ => nf_sel hw w_244 hZ) w_244 w_243 (by decide) [(.int (8 : Int32))] (ct_ch hEL hw S792 (Sta_keep Szc K793) hzc (Sta_keep Sfm K793) hfm 8 (nb rfl) (8 : Int32) rfl) all0 (by decide) 5 (by decide) rfl pd__I_C rfl [(.int (8 : Int32)), (.ref b746), (.ref b746), (.ref b745), (.ref b745)] rfl (Nat.le_of_eq rfl) at_272 (by decide) (by decide) ?_
      intro v794 h794 Q794
      obtain ⟨ev794, e794⟩ := Q794
      replace e794 := e794.symm
      subst e794
      replace ev794 : v794 = some (.int (58 : Int32)) := ev794
      subst ev794
      refine g_castore C V791 (mg (i := 0) rfl) at_275 ⟨by decide, by decide⟩ 8 rfl (nb rfl) ?_
      intro h796 W796 V796
      rw [nar_ch8 (by unfold Ch8; decide)] at V796
      replace V796 : Arv Z h796 b746 ka746 .char (15 : Int32) [(.int (104 : Int32)), (.int (111 : Int32)), (.int (108 : Int32)), (.int (100 : Int32)), (.int (102 : Int32)), (.int (97 : Int32)), (.int (115 : Int32)), (.int (116 : Int32)), (.int (58 : Int32)), (.int (0 : Int32)), (.int (0 : Int32)), (.int (0 : Int32)), (.int (0 : Int32)), (.int (0 : Int32)), (.int (0 : Int32))] (.int (0 : Int32)) := V796
      refine g_dup C at_276 rfl ?_
      refine g_bipush C 9 at_277 rfl ?_
      refine g_aload C at_279 rfl rfl ?_
      refine g_bipush C 9 at_281 rfl ?_
      have S797 := (S792.other W796 (Nat.ne_of_lt (Nat.lt_of_lt_of_le E755.lt (Nat.le_of_eq g746.symm))) (Nat.ne_of_lt (Nat.lt_of_lt_of_le S756.tlt (Nat.le_of_eq g746.symm))))
      have K798 : Keep h0 h796 [] := K793.wr W796 (Or.inr (Nat.le_trans K750.1 (Nat.le_of_eq g746.symm)))
      have E800 := (E795.wr W796)
      refine g_virtual C E800 w_241 w_242 (fun hZ => nf_sel hw w_244 hZ) w_244 w_243 (by decide) [(.int (9 : Int32))] (ct_ch hEL hw S797 (Sta_keep Szc K798) hzc (Sta_keep Sfm K798) hfm 9 (nb rfl) (9 : Int32) rfl) all0 (by decide) 5 (by decide) rfl pd__I_C rfl [(.int (9 : Int32)), (.ref b746), (.ref b746), (.ref b745), (.ref b745)] rfl (Nat.le_of_eq rfl) at_283 (by decide) (by decide) ?_
      intro v799 h799 Q799
      obtain ⟨ev799, e799⟩ := Q799
      replace e799 := e799.symm
      subst e799
      replace ev799 : v799 = some (.int (99 : Int32)) := ev799
      subst ev799
      refine g_castore C V796 (mg (i := 0) rfl) at_286 ⟨by decide, by decide⟩ 9 rfl (nb rfl) ?_
      intro h801 W801 V801
      rw [nar_ch8 (by unfold Ch8; decide)] at V801
      replace V801 : Arv Z h801 b746 ka746 .char (15 : Int32) [(.int (104 : Int32)), (.int (111 : Int32)), (.int (108 : Int32)), (.int (100 : Int32)), (.int (102 : Int32)), (.int (97 : Int32)), (.int (115 : Int32)), (.int (116 : Int32)), (.int (58 : Int32)), (.int (99 : Int32)), (.int (0 : Int32)), (.int (0 : Int32)), (.int (0 : Int32)), (.int (0 : Int32)), (.int (0 : Int32))] (.int (0 : Int32)) := V801
      refine g_dup C at_287 rfl ?_
      refine g_bipush C 10 at_288 rfl ?_
      refine g_aload C at_290 rfl rfl ?_
      refine g_bipush C 10 at_292 rfl ?_
      have S802 := (S797.other W801 (Nat.ne_of_lt (Nat.lt_of_lt_of_le E755.lt (Nat.le_of_eq g746.symm))) (Nat.ne_of_lt (Nat.lt_of_lt_of_le S756.tlt (Nat.le_of_eq g746.symm))))
      have K803 : Keep h0 h801 [] := K798.wr W801 (Or.inr (Nat.le_trans K750.1 (Nat.le_of_eq g746.symm)))
      have E805 := (E800.wr W801)
      refine g_virtual C E805 w_241 w_242 (fun hZ => nf_sel hw w_244 hZ) w_244 w_243 (by decide) [(.int (10 : Int32))] (ct_ch hEL hw S802 (Sta_keep Szc K803) hzc (Sta_keep Sfm K803) hfm 10 (nb rfl) (10 : Int32) rfl) all0 (by decide) 5 (by decide) rfl pd__I_C rfl [(.int (10 : Int32)), (.ref b746), (.ref b746), (.ref b745), (.ref b745)] rfl (Nat.le_of_eq rfl) at_294 (by decide) (by decide) ?_
      intro v804 h804 Q804
      obtain ⟨ev804, e804⟩ := Q804
      replace e804 := e804.symm
      subst e804
      replace ev804 : v804 = some (.int (97 : Int32)) := ev804
      subst ev804
      refine g_castore C V801 (mg (i := 0) rfl) at_297 ⟨by decide, by decide⟩ 10 rfl (nb rfl) ?_
      intro h806 W806 V806
      rw [nar_ch8 (by unfold Ch8; decide)] at V806
      replace V806 : Arv Z h806 b746 ka746 .char (15 : Int32) [(.int (104 : Int32)), (.int (111 : Int32)), (.int (108 : Int32)), (.int (100 : Int32)), (.int (102 : Int32)), (.int (97 : Int32)), (.int (115 : Int32)), (.int (116 : Int32)), (.int (58 : Int32)), (.int (99 : Int32)), (.int (97 : Int32)), (.int (0 : Int32)), (.int (0 : Int32)), (.int (0 : Int32)), (.int (0 : Int32))] (.int (0 : Int32)) := V806
      refine g_dup C at_298 rfl ?_
      refine g_bipush C 11 at_299 rfl ?_
      refine g_aload C at_301 rfl rfl ?_
      refine g_bipush C 11 at_303 rfl ?_
      have S807 := (S802.other W806 (Nat.ne_of_lt (Nat.lt_of_lt_of_le E755.lt (Nat.le_of_eq g746.symm))) (Nat.ne_of_lt (Nat.lt_of_lt_of_le S756.tlt (Nat.le_of_eq g746.symm))))
      have K808 : Keep h0 h806 [] := K803.wr W806 (Or.inr (Nat.le_trans K750.1 (Nat.le_of_eq g746.symm)))
      have E810 := (E805.wr W806)
      refine g_virtual C E810 w_241 w_242 (fun hZ => nf_sel hw w_244 hZ) w_244 w_243 (by decide) [(.int (11 : Int32))] (ct_ch hEL hw S807 (Sta_keep Szc K808) hzc (Sta_keep Sfm K808) hfm 11 (nb rfl) (11 : Int32) rfl) all0 (by decide) 5 (by decide) rfl pd__I_C rfl [(.int (11 : Int32)), (.ref b746), (.ref b746), (.ref b745), (.ref b745)] rfl (Nat.le_of_eq rfl) at_305 (by decide) (by decide) ?_
      intro v809 h809 Q809
      obtain ⟨ev809, e809⟩ := Q809
      replace e809 := e809.symm
      subst e809
      replace ev809 : v809 = some (.int (108 : Int32)) := ev809
      subst ev809
      refine g_castore C V806 (mg (i := 0) rfl) at_308 ⟨by decide, by decide⟩ 11 rfl (nb rfl) ?_
      intro h811 W811 V811
      rw [nar_ch8 (by unfold Ch8; decide)] at V811
      replace V811 : Arv Z h811 b746 ka746 .char (15 : Int32) [(.int (104 : Int32)), (.int (111 : Int32)), (.int (108 : Int32)), (.int (100 : Int32)), (.int (102 : Int32)), (.int (97 : Int32)), (.int (115 : Int32)), (.int (116 : Int32)), (.int (58 : Int32)), (.int (99 : Int32)), (.int (97 : Int32)), (.int (108 : Int32)), (.int (0 : Int32)), (.int (0 : Int32)), (.int (0 : Int32))] (.int (0 : Int32)) := V811
      refine g_dup C at_309 rfl ?_
      refine g_bipush C 12 at_310 rfl ?_
      refine g_aload C at_312 rfl rfl ?_
      refine g_bipush C 12 at_314 rfl ?_
      have S812 := (S807.other W811 (Nat.ne_of_lt (Nat.lt_of_lt_of_le E755.lt (Nat.le_of_eq g746.symm))) (Nat.ne_of_lt (Nat.lt_of_lt_of_le S756.tlt (Nat.le_of_eq g746.symm))))
      have K813 : Keep h0 h811 [] := K808.wr W811 (Or.inr (Nat.le_trans K750.1 (Nat.le_of_eq g746.symm)))
      have E815 := (E810.wr W811)
      refine g_virtual C E815 w_241 w_242 (fun hZ => nf_sel hw w_244 hZ) w_244 w_243 (by decide) [(.int (12 : Int32))] (ct_ch hEL hw S812 (Sta_keep Szc K813) hzc (Sta_keep Sfm K813) hfm 12 (nb rfl) (12 : Int32) rfl) all0 (by decide) 5 (by decide) rfl pd__I_C rfl [(.int (12 : Int32)), (.ref b746), (.ref b746), (.ref b745), (.ref b745)] rfl (Nat.le_of_eq rfl) at_316 (by decide) (by decide) ?_
      intro v814 h814 Q814
      obtain ⟨ev814, e814⟩ := Q814
      replace e814 := e814.symm
      subst e814
      replace ev814 : v814 = some (.int (108 : Int32)) := ev814
      subst ev814
      refine g_castore C V811 (mg (i := 0) rfl) at_319 ⟨by decide, by decide⟩ 12 rfl (nb rfl) ?_
      intro h816 W816 V816
      rw [nar_ch8 (by unfold Ch8; decide)] at V816
      replace V816 : Arv Z h816 b746 ka746 .char (15 : Int32) [(.int (104 : Int32)), (.int (111 : Int32)), (.int (108 : Int32)), (.int (100 : Int32)), (.int (102 : Int32)), (.int (97 : Int32)), (.int (115 : Int32)), (.int (116 : Int32)), (.int (58 : Int32)), (.int (99 : Int32)), (.int (97 : Int32)), (.int (108 : Int32)), (.int (108 : Int32)), (.int (0 : Int32)), (.int (0 : Int32))] (.int (0 : Int32)) := V816
      refine g_dup C at_320 rfl ?_
      refine g_bipush C 13 at_321 rfl ?_
      refine g_aload C at_323 rfl rfl ?_
      refine g_bipush C 13 at_325 rfl ?_
      have S817 := (S812.other W816 (Nat.ne_of_lt (Nat.lt_of_lt_of_le E755.lt (Nat.le_of_eq g746.symm))) (Nat.ne_of_lt (Nat.lt_of_lt_of_le S756.tlt (Nat.le_of_eq g746.symm))))
      have K818 : Keep h0 h816 [] := K813.wr W816 (Or.inr (Nat.le_trans K750.1 (Nat.le_of_eq g746.symm)))
      have E820 := (E815.wr W816)
      refine g_virtual C E820 w_241 w_242 (fun hZ => nf_sel hw w_244 hZ) w_244 w_243 (by decide) [(.int (13 : Int32))] (ct_ch hEL hw S817 (Sta_keep Szc K818) hzc (Sta_keep Sfm K818) hfm 13 (nb rfl) (13 : Int32) rfl) all0 (by decide) 5 (by decide) rfl pd__I_C rfl [(.int (13 : Int32)), (.ref b746), (.ref b746), (.ref b745), (.ref b745)] rfl (Nat.le_of_eq rfl) at_327 (by decide) (by decide) ?_
      intro v819 h819 Q819
      obtain ⟨ev819, e819⟩ := Q819
      replace e819 := e819.symm
      subst e819
      replace ev819 : v819 = some (.int (58 : Int32)) := ev819
      subst ev819
      refine g_castore C V816 (mg (i := 0) rfl) at_330 ⟨by decide, by decide⟩ 13 rfl (nb rfl) ?_
      intro h821 W821 V821
      rw [nar_ch8 (by unfold Ch8; decide)] at V821
      replace V821 : Arv Z h821 b746 ka746 .char (15 : Int32) [(.int (104 : Int32)), (.int (111 : Int32)), (.int (108 : Int32)), (.int (100 : Int32)), (.int (102 : Int32)), (.int (97 : Int32)), (.int (115 : Int32)), (.int (116 : Int32)), (.int (58 : Int32)), (.int (99 : Int32)), (.int (97 : Int32)), (.int (108 : Int32)), (.int (108 : Int32)), (.int (58 : Int32)), (.int (0 : Int32))] (.int (0 : Int32)) := V821
      refine g_dup C at_331 rfl ?_
      refine g_bipush C 14 at_332 rfl ?_
      refine g_aload C at_334 rfl rfl ?_
      refine g_bipush C 14 at_336 rfl ?_
      have S822 := (S817.other W821 (Nat.ne_of_lt (Nat.lt_of_lt_of_le E755.lt (Nat.le_of_eq g746.symm))) (Nat.ne_of_lt (Nat.lt_of_lt_of_le S756.tlt (Nat.le_of_eq g746.symm))))
      have K823 : Keep h0 h821 [] := K818.wr W821 (Or.inr (Nat.le_trans K750.1 (Nat.le_of_eq g746.symm)))
      have E825 := (E820.wr W821)
      refine g_virtual C E825 w_241 w_242 (fun hZ => nf_sel hw w_244 hZ) w_244 w_243 (by decide) [(.int (14 : Int32))] (ct_ch hEL hw S822 (Sta_keep Szc K823) hzc (Sta_keep Sfm K823) hfm 14 (nb rfl) (14 : Int32) rfl) all0 (by decide) 5 (by decide) rfl pd__I_C rfl [(.int (14 : Int32)), (.ref b746), (.ref b746), (.ref b745), (.ref b745)] rfl (Nat.le_of_eq rfl) at_338 (by decide) (by decide) ?_
      intro v824 h824 Q824
      obtain ⟨ev824, e824⟩ := Q824
      replace e824 := e824.symm
      subst e824
      replace ev824 : v824 = some (.int (123 : Int32)) := ev824
      subst ev824
      refine g_castore C V821 (mg (i := 0) rfl) at_341 ⟨by decide, by decide⟩ 14 rfl (nb rfl) ?_
      intro h826 W826 V826
      rw [nar_ch8 (by unfold Ch8; decide)] at V826
      replace V826 : Arv Z h826 b746 ka746 .char (15 : Int32) [(.int (104 : Int32)), (.int (111 : Int32)), (.int (108 : Int32)), (.int (100 : Int32)), (.int (102 : Int32)), (.int (97 : Int32)), (.int (115 : Int32)), (.int (116 : Int32)), (.int (58 : Int32)), (.int (99 : Int32)), (.int (97 : Int32)), (.int (108 : Int32)), (.int (108 : Int32)), (.int (58 : Int32)), (.int (123 : Int32))] (.int (0 : Int32)) := V826
      have K827 : Keep h745 h746 [] := (Keep.refl h745 []).ext E746
      have K828 : Keep h745 h754 [] := K827.wr W754 (Or.inr (Nat.le_of_eq g746.symm))
      have K829 : Keep h745 h761 [] := K828.wr W761 (Or.inr (Nat.le_of_eq g746.symm))
      have K830 : Keep h745 h766 [] := K829.wr W766 (Or.inr (Nat.le_of_eq g746.symm))
      have K831 : Keep h745 h771 [] := K830.wr W771 (Or.inr (Nat.le_of_eq g746.symm))
      have K832 : Keep h745 h776 [] := K831.wr W776 (Or.inr (Nat.le_of_eq g746.symm))
      have K833 : Keep h745 h781 [] := K832.wr W781 (Or.inr (Nat.le_of_eq g746.symm))
      have K834 : Keep h745 h786 [] := K833.wr W786 (Or.inr (Nat.le_of_eq g746.symm))
      have K835 : Keep h745 h791 [] := K834.wr W791 (Or.inr (Nat.le_of_eq g746.symm))
      have K836 : Keep h745 h796 [] := K835.wr W796 (Or.inr (Nat.le_of_eq g746.symm))
      have K837 : Keep h745 h801 [] := K836.wr W801 (Or.inr (Nat.le_of_eq g746.symm))
      have K838 : Keep h745 h806 [] := K837.wr W806 (Or.inr (Nat.le_of_eq g746.symm))
      have K839 : Keep h745 h811 [] := K838.wr W811 (Or.inr (Nat.le_of_eq g746.symm))
      have K840 : Keep h745 h816 [] := K839.wr W816 (Or.inr (Nat.le_of_eq g746.symm))
      have K841 : Keep h745 h821 [] := K840.wr W821 (Or.inr (Nat.le_of_eq g746.symm))
      have K842 : Keep h745 h826 [] := K841.wr W826 (Or.inr (Nat.le_of_eq g746.symm))
      have E843 := (A745.keep K842)
      have F844 := ((D745 (Or.inr (C.hw w_27)) (ty := (.array .byte)) (by decide)).keep K842 nin0)
      have F845 := ((D745 (Or.inr (C.hw w_29)) (ty := .byte) (by decide)).keep K842 nin0)
      have K846 : Keep h0 h826 [] := K823.wr W826 (Or.inr (Nat.le_trans K750.1 (Nat.le_of_eq g746.symm)))
      refine g_special C (a := b745) w_255 w_256 w_257 rfl (by decide) [(.ref b746)] (ct_newS hEL hw (cs := [(104 : Int32), (111 : Int32), (108 : Int32), (100 : Int32), (102 : Int32), (97 : Int32), (115 : Int32), (116 : Int32), (58 : Int32), (99 : Int32), (97 : Int32), (108 : Int32), (108 : Int32), (58 : Int32), (123 : Int32)]) (n := 15) E843 F844 F845 V826 (Sta_keep Szc K846) hzc rfl (by decide) (by decide) (own_allc (by unfold Ch8; decide) (own_allc (by unfold Ch8; decide) (own_allc (by unfold Ch8; decide) (own_allc (by unfold Ch8; decide) (own_allc (by unfold Ch8; decide) (own_allc (by unfold Ch8; decide) (own_allc (by unfold Ch8; decide) (own_allc (by unfold Ch8; decide) (own_allc (by unfold Ch8; decide) (own_allc (by unfold Ch8; decide) (own_allc (by unfold Ch8; decide) (own_allc (by unfold Ch8; decide) (own_allc (by unfold Ch8; decide) (own_allc (by unfold Ch8; decide) (own_allc (by unfold Ch8; decide) (fun _ q => nomatch q))))))))))))))))) (allS (mg (i := 1) rfl) all0) (by decide) 1 (by decide) rfl pd___C_V rfl [(.ref b745)] rfl (Nat.le_of_eq rfl) at_342 (by decide) (by decide) ?_
      intro v847 h847 Q847
      obtain ⟨rfl, KC847, t847, kb847, ht847, htx847, S847⟩ := Q847
      refine g_astore C #[.val (.int i1), .val (.int i2), .val (.int i3), .val (.int (1 : Int32)), .val (.int z730), .val (.int z731), .val (.ref a732), .val (.int (0 : Int32)), .val (.int c8), .val (.int c9), .val (.ref a733), .val (.ref a738), .val (.ref a742), .val (.ref b745)] at_345 rfl rfl ?_
      refine g_aload C at_347 rfl rfl ?_
      refine g_ldcS C hEL w_271 own_sA (mg (i := 17) rfl) [104, 111, 108, 100, 102, 97, 115, 116, 58, 99, 97, 108, 108, 58, 123] ⟨by decide +kernel, by decide +kernel⟩ (by decide) (by decide) at_349 60 (by decide +kernel) (by decide) (by decide) (by decide) ?_
      intro a848 t848 kb848 h848 E848 S848 X848
      have K849 : Keep h847 h848 [] := (Keep.refl h847 []).ext E848
      have S850 := (S847.keep K849 nin0 nin0)
      have K851 : Keep h0 h847 [] := K846.trans KC847 (allS (Or.inr (Nat.le_trans K743.1 (Nat.le_of_eq g745.symm))) all0)
      have K852 : Keep h0 h848 [] := K851.ext E848
      have E854 := (S847.1.keep K849)
      refine g_virtual C E854 w_272 w_273 (fun hZ => nf_sel hw w_275 hZ) w_275 w_274 (by decide) [(.ref a848)] (ct_eq hEL hw S850 S848 (Sta_keep Szc K852) hzc) all0 (by decide) 0 (by decide) rfl pd__Ljava_lang_Object__Z rfl [] rfl (Nat.le_of_eq rfl) at_351 (by decide) (by decide) ?_
      intro v853 h853 Q853
      obtain ⟨ev853, e853⟩ := Q853
      replace e853 := e853.symm
      subst e853
      replace ev853 : v853 = some (.int (1 : Int32)) := ev853.trans (by rw [if_pos rfl])
      subst ev853
      refine g_if_t C 359 at_354 (XT.i0_ne_t (by decide)) (by decide) (by decide) ?_
      refine g_aload C at_359 rfl rfl ?_
      refine g_bipush C 15 at_361 rfl ?_
      have S855 := (((S822.other W826 (Nat.ne_of_lt (Nat.lt_of_lt_of_le E755.lt (Nat.le_of_eq g746.symm))) (Nat.ne_of_lt (Nat.lt_of_lt_of_le S756.tlt (Nat.le_of_eq g746.symm)))).keep KC847 (ninS (Nat.ne_of_lt (Nat.lt_of_lt_of_le S742.1.lt (Nat.le_of_eq g745.symm))) nin0) (ninS (Nat.ne_of_lt (Nat.lt_of_lt_of_le S742.tlt (Nat.le_of_eq g745.symm))) nin0)).ext E848)
      have E857 := (((E825.wr W826).keep KC847).ext E848)
      refine g_virtual C E857 w_241 w_242 (fun hZ => nf_sel hw w_244 hZ) w_244 w_243 (by decide) [(.int (15 : Int32))] (ct_ch hEL hw S855 (Sta_keep Szc K852) hzc (Sta_keep Sfm K852) hfm 15 (nb rfl) (15 : Int32) rfl) all0 (by decide) 0 (by decide) rfl pd__I_C rfl [] rfl (Nat.le_of_eq rfl) at_363 (by decide) (by decide) ?_
      intro v856 h856 Q856
      obtain ⟨ev856, e856⟩ := Q856
      replace e856 := e856.symm
      subst e856
      replace ev856 : v856 = some (.int z730) := ev856
      subst ev856
      refine g_iload C at_366 rfl ?_
      refine g_icmp_t C 373 at_368 (XT.ii_eq_t rfl) (by decide) (by decide) ?_
      refine g_iloadN C at_373 rfl ?_
      refine g_iconst C 2 at_374 rfl ?_
      refine g_icmp_t C 392 at_375 (XT.ii_ne_t (by decide)) (by decide) (by decide) ?_
      refine g_aload C at_392 rfl rfl ?_
      refine g_bipush C 15 at_394 rfl ?_
      refine g_iloadN C at_396 rfl ?_
      refine g_iadd C at_397 ?_
      rw [show ((15 : Int32) + (1 : Int32)) = (16 : Int32) from by decide]
      refine g_virtual C E857 w_241 w_242 (fun hZ => nf_sel hw w_244 hZ) w_244 w_243 (by decide) [(.int (16 : Int32))] (ct_ch hEL hw S855 (Sta_keep Szc K852) hzc (Sta_keep Sfm K852) hfm 16 (nb rfl) (16 : Int32) rfl) all0 (by decide) 0 (by decide) rfl pd__I_C rfl [] rfl (Nat.le_of_eq rfl) at_398 (by decide) (by decide) ?_
      intro v858 h858 Q858
      obtain ⟨ev858, e858⟩ := Q858
      replace e858 := e858.symm
      subst e858
      replace ev858 : v858 = some (.int (125 : Int32)) := ev858
      subst ev858
      refine g_bipush C 125 at_401 rfl ?_
      refine g_icmp_f C at_403 (XT.ii_ne_f (by decide)) ?_
      refine g_aload C at_406 rfl rfl ?_
      refine g_bipush C 16 at_408 rfl ?_
      refine g_iloadN C at_410 rfl ?_
      refine g_iadd C at_411 ?_
      rw [show ((16 : Int32) + (1 : Int32)) = (17 : Int32) from by decide]
      refine g_virtual C E857 w_241 w_242 (fun hZ => nf_sel hw w_244 hZ) w_244 w_243 (by decide) [(.int (17 : Int32))] (ct_ch hEL hw S855 (Sta_keep Szc K852) hzc (Sta_keep Sfm K852) hfm 17 (nb rfl) (17 : Int32) rfl) all0 (by decide) 0 (by decide) rfl pd__I_C rfl [] rfl (Nat.le_of_eq rfl) at_412 (by decide) (by decide) ?_
      intro v859 h859 Q859
      obtain ⟨ev859, e859⟩ := Q859
      replace e859 := e859.symm
      subst e859
      replace ev859 : v859 = some (.int (58 : Int32)) := ev859
      subst ev859
      refine g_bipush C 58 at_415 rfl ?_
      refine g_icmp_t C 422 at_417 (XT.ii_eq_t (by decide)) (by decide) (by decide) ?_
      refine g_iload C at_422 rfl ?_
      refine g_iconst C 1 at_424 rfl ?_
      refine g_icmp_t C 444 at_425 (XT.ii_lt_t (by decide)) (by decide) (by decide) ?_
      refine g_iload C at_444 rfl ?_
      refine g_iconst C 2 at_446 rfl ?_
      refine g_icmp_t C 466 at_447 (XT.ii_ne_t (by decide)) (by decide) (by decide) ?_
      refine g_iconst C 1 at_466 rfl ?_
      refine g_ireturnN C hEL (t := .boolean) rfl (by simp) at_467 (by decide) (by decide) ?_
      exact rfl
    · rw [e_dB]
      refine g_iloadN C at_77 rfl ?_
      refine g_sipush C 255 at_78 rfl ?_
      refine g_iand C at_81 ?_
      refine g_i2c C at_82 ?_
      refine g_istore C #[.val (.int i1), .val (.int i2), .val (.int i3), .val (.int (1 : Int32)), .val (.int z730), .val (.int z731), .val (.ref a732), .val (.int (1 : Int32)), .val (.int ((i2 &&& (255 : Int32)).toUInt32.toUInt16.toUInt32.toInt32)), .unset, .unset, .unset, .unset, .unset] at_83 rfl ?_
      obtain ⟨c8, e_c8, h_c8⟩ : ∃ z : Int32, ((i2 &&& (255 : Int32)).toUInt32.toUInt16.toUInt32.toInt32) = z ∧ Ch8 z := ⟨_, rfl, ch8_i2c _⟩
      rw [e_c8]
      refine g_iloadN C at_85 rfl ?_
      refine g_bipush C 8 at_86 rfl ?_
      refine g_iushr C at_88 ?_
      refine g_sipush C 255 at_89 rfl ?_
      refine g_iand C at_92 ?_
      refine g_i2c C at_93 ?_
      refine g_istore C #[.val (.int i1), .val (.int i2), .val (.int i3), .val (.int (1 : Int32)), .val (.int z730), .val (.int z731), .val (.ref a732), .val (.int (1 : Int32)), .val (.int c8), .val (.int ((((i2.toUInt32 >>> ((8 : Int32) &&& 31).toUInt32).toInt32) &&& (255 : Int32)).toUInt32.toUInt16.toUInt32.toInt32)), .unset, .unset, .unset, .unset] at_94 rfl ?_
      obtain ⟨c9, e_c9, h_c9⟩ : ∃ z : Int32, ((((i2.toUInt32 >>> ((8 : Int32) &&& 31).toUInt32).toInt32) &&& (255 : Int32)).toUInt32.toUInt16.toUInt32.toInt32) = z ∧ Ch8 z := ⟨_, rfl, ch8_i2c _⟩
      rw [e_c9]
      refine g_iload C at_96 rfl ?_
      refine g_if_t C 106 at_98 (XT.i0_ne_t (by decide)) (by decide) (by decide) ?_
      refine g_iload C at_106 rfl ?_
      refine g_iconst C 1 at_108 rfl ?_
      refine g_icmp_f C at_109 (XT.ii_ne_f (by decide)) ?_
      refine g_iload C at_112 rfl ?_
      have K860 : Keep h0 h732 [] := (Keep.refl h0 []).trans KC732 all0
      refine g_static C w_4 w_5 w_6 w_7 (by decide) [(.int c8)] (ct_of hEL hw w_7 w_6 (rm_vo l Z a0 hw hEL c8 zc h732 n0 h_c8 (Sta_keep Szc K860) hzc)) all0 (by decide) 0 (by decide) rfl pd__C_Ljava_lang_String_ rfl [] rfl (Nat.le_of_eq rfl) at_114 (by decide) (by decide) ?_
      intro v861 h861 Q861
      obtain ⟨a861, t861, k861, rfl, KC861, le861, lt861, S861⟩ := Q861
      refine g_goto C 140 at_117 (by decide) (by decide) ?_
      refine g_astore C #[.val (.int i1), .val (.int i2), .val (.int i3), .val (.int (1 : Int32)), .val (.int z730), .val (.int z731), .val (.ref a732), .val (.int (1 : Int32)), .val (.int c8), .val (.int c9), .val (.ref a861), .unset, .unset, .unset] at_140 rfl rfl ?_
      refine g_iloadN C at_142 rfl ?_
      refine g_bipush C 7 at_143 rfl ?_
      refine g_iand C at_145 ?_
      refine g_aload C at_146 rfl rfl ?_
      refine g_aload C at_148 rfl rfl ?_
      have K862 : Keep h732 h861 [] := (Keep.refl h732 []).trans KC861 all0
      have S863 := (S732.keep K862 nin0 nin0)
      have K864 : Keep h0 h861 [] := K860.trans KC861 all0
      refine g_static C w_33 w_34 w_2 w_35 (by decide) [(.int (i3 &&& (7 : Int32))), (.ref a732), (.ref a861)] (ct_of hEL hw w_35 w_2 (rm_key l Z a0 hw hEL (i3 &&& (7 : Int32)) a732 t732 a861 t861 _ _ [z730] [c8] zc h861 n0 S863 (nb rfl) (nb rfl) (own_nocons hx730 (fun _ q => nomatch q)) S861 (nb rfl) (Sta_keep Szc K864) hzc)) all0 (by decide) 0 (by decide) rfl pd__ILjava_lang_String_Ljava_lang_String__Ljava_lang_String_ rfl [] rfl (Nat.le_of_eq rfl) at_150 (by decide) (by decide) ?_
      intro v865 h865 Q865
      obtain ⟨a865, t865, k865, P865, Sx865, rfl, KC865, le865, lt865, S865, hP865, hP0865, hP19865, hSx865⟩ := Q865
      refine g_astore C #[.val (.int i1), .val (.int i2), .val (.int i3), .val (.int (1 : Int32)), .val (.int z730), .val (.int z731), .val (.ref a732), .val (.int (1 : Int32)), .val (.int c8), .val (.int c9), .val (.ref a861), .val (.ref a865), .unset, .unset] at_153 rfl rfl ?_
      refine g_aload C at_155 rfl rfl ?_
      refine g_aload C at_157 rfl rfl ?_
      have K866 : Keep h861 h865 [] := (Keep.refl h861 []).trans KC865 all0
      have S867 := (S861.keep K866 nin0 nin0)
      have K868 : Keep h0 h865 [] := K864.trans KC865 all0
      refine g_static C w_214 w_215 w_38 w_216 (by decide) [(.ref a865), (.ref a861)] (ct_of hEL hw w_216 w_38 (rm_lastCall l Z a0 hw hEL a865 t865 a861 t861 _ _ P865 [z730] Sx865 [c8] zc fm h865 n0 S865 S867 (nb rfl) (nb rfl) (own_nocons hx730 (fun _ q => nomatch q)) (nb rfl) hP865 hP0865 hP19865 hSx865 (Sta_keep Szc K868) hzc (Sta_keep Sfm K868) hfm)) all0 (by decide) 0 (by decide) rfl pd__Ljava_lang_String_Ljava_lang_String__Ljava_lang_String_ rfl [] rfl (Nat.le_of_eq rfl) at_159 (by decide) (by decide) ?_
      intro v869 h869 Q869
      obtain ⟨a869, t869, k869, rfl, KC869, le869, lt869, S869⟩ := Q869
      replace S869 : Str Z h869 a869 t869 k869 [104, 111, 108, 100, 102, 97, 115, 116, 58, 99, 97, 108, 108, 58, 123, z730, 125, 58, c8] := S869
      refine g_astore C #[.val (.int i1), .val (.int i2), .val (.int i3), .val (.int (1 : Int32)), .val (.int z730), .val (.int z731), .val (.ref a732), .val (.int (1 : Int32)), .val (.int c8), .val (.int c9), .val (.ref a861), .val (.ref a865), .val (.ref a869), .unset] at_162 rfl rfl ?_
      refine g_aload C at_164 rfl rfl ?_
      have K870 : Keep h0 h869 [] := K868.trans KC869 all0
      refine g_virtual C S869.1 w_238 w_73 (fun hZ => nf_sel hw w_75 hZ) w_75 w_74 (by decide) [] (ct_len hEL hw S869 (Sta_keep Szc K870) hzc) all0 (by decide) 0 (by decide) rfl pd___I rfl [] rfl (Nat.le_of_eq rfl) at_166 (by decide) (by decide) ?_
      intro v871 h871 Q871
      obtain ⟨ev871, e871⟩ := Q871
      replace e871 := e871.symm
      subst e871
      replace ev871 : v871 = some (.int (19 : Int32)) := ev871
      subst ev871
      refine g_bipush C 17 at_169 rfl ?_
      refine g_iloadN C at_171 rfl ?_
      refine g_iadd C at_172 ?_
      rw [show ((17 : Int32) + (1 : Int32)) = (18 : Int32) from by decide]
      refine g_iload C at_173 rfl ?_
      refine g_iadd C at_175 ?_
      rw [show ((18 : Int32) + (1 : Int32)) = (19 : Int32) from by decide]
      refine g_icmp_t C 181 at_176 (XT.ii_eq_t (by decide)) (by decide) (by decide) ?_
      refine g_new C w_239 w_14 w_6 at_181 (by decide) (by decide) ?_
      intro b872 h872 g872 E872 A872 D872
      refine g_dup C at_184 rfl ?_
      refine g_bipush C 15 at_185 rfl ?_
      refine g_newarray C (aty := .char) w_240 at_187 (by decide) 15 (by decide) (by decide) (by decide) (by decide) "[C" rfl ?_
      intro b873 h873 ka873 g873 E873 V873 A873
      replace V873 : Arv Z h873 b873 ka873 .char (15 : Int32) [(.int (0 : Int32)), (.int (0 : Int32)), (.int (0 : Int32)), (.int (0 : Int32)), (.int (0 : Int32)), (.int (0 : Int32)), (.int (0 : Int32)), (.int (0 : Int32)), (.int (0 : Int32)), (.int (0 : Int32)), (.int (0 : Int32)), (.int (0 : Int32)), (.int (0 : Int32)), (.int (0 : Int32)), (.int (0 : Int32))] (.int (0 : Int32)) := V873.pad (pad_rep [] _ 15)
      refine g_dup C at_189 rfl ?_
      refine g_iconst C 0 at_190 rfl ?_
      refine g_aload C at_191 rfl rfl ?_
      refine g_iconst C 0 at_193 rfl ?_
      have K874 : Keep h869 h872 [] := (Keep.refl h869 []).ext E872
      have K875 : Keep h869 h873 [] := K874.ext E873
      have S876 := (S869.keep K875 nin0 nin0)
      have K877 : Keep h0 h872 [] := K870.ext E872
      have K878 : Keep h0 h873 [] := K877.ext E873
      have E880 := (S869.1.keep K875)
      refine g_virtual C E880 w_241 w_242 (fun hZ => nf_sel hw w_244 hZ) w_244 w_243 (by decide) [(.int (0 : Int32))] (ct_ch hEL hw S876 (Sta_keep Szc K878) hzc (Sta_keep Sfm K878) hfm 0 (nb rfl) (0 : Int32) rfl) all0 (by decide) 5 (by decide) rfl pd__I_C rfl [(.int (0 : Int32)), (.ref b873), (.ref b873), (.ref b872), (.ref b872)] rfl (Nat.le_of_eq rfl) at_194 (by decide) (by decide) ?_
      intro v879 h879 Q879
      obtain ⟨ev879, e879⟩ := Q879
      replace e879 := e879.symm
      subst e879
      replace ev879 : v879 = some (.int (104 : Int32)) := ev879
      subst ev879
      refine g_castore C V873 (mg (i := 0) rfl) at_197 ⟨by decide, by decide⟩ 0 rfl (nb rfl) ?_
      intro h881 W881 V881
      rw [nar_ch8 (by unfold Ch8; decide)] at V881
      replace V881 : Arv Z h881 b873 ka873 .char (15 : Int32) [(.int (104 : Int32)), (.int (0 : Int32)), (.int (0 : Int32)), (.int (0 : Int32)), (.int (0 : Int32)), (.int (0 : Int32)), (.int (0 : Int32)), (.int (0 : Int32)), (.int (0 : Int32)), (.int (0 : Int32)), (.int (0 : Int32)), (.int (0 : Int32)), (.int (0 : Int32)), (.int (0 : Int32)), (.int (0 : Int32))] (.int (0 : Int32)) := V881
      refine g_dup C at_198 rfl ?_
      refine g_iconst C 1 at_199 rfl ?_
      refine g_aload C at_200 rfl rfl ?_
      refine g_iconst C 1 at_202 rfl ?_
      have E882 := (S869.1.keep K874)
      have S883 := (S869.keep K874 nin0 nin0)
      have S884 := (S876.other W881 (Nat.ne_of_lt (Nat.lt_of_lt_of_le E882.lt (Nat.le_of_eq g873.symm))) (Nat.ne_of_lt (Nat.lt_of_lt_of_le S883.tlt (Nat.le_of_eq g873.symm))))
      have K885 : Keep h0 h881 [] := K878.wr W881 (Or.inr (Nat.le_trans K877.1 (Nat.le_of_eq g873.symm)))
      have E887 := (E880.wr W881)
      refine g_virtual C E887 w_241 w_242 (fun hZ => nf_sel hw w_244 hZ) w_244 w_243 (by decide) [(.int (1 : Int32))] (ct_ch hEL hw S884 (Sta_keep Szc K885) hzc (Sta_keep Sfm K885) hfm 1 (nb rfl) (1 : Int32) rfl) all0 (by decide) 5 (by decide) rfl pd__I_C rfl [(.int (1 : Int32)), (.ref b873), (.ref b873), (.ref b872), (.ref b872)] rfl (Nat.le_of_eq rfl) at_203 (by decide) (by decide) ?_
      intro v886 h886 Q886
      obtain ⟨ev886, e886⟩ := Q886
      replace e886 := e886.symm
      subst e886
      replace ev886 : v886 = some (.int (111 : Int32)) := ev886
      subst ev886
      refine g_castore C V881 (mg (i := 0) rfl) at_206 ⟨by decide, by decide⟩ 1 rfl (nb rfl) ?_
      intro h888 W888 V888
      rw [nar_ch8 (by unfold Ch8; decide)] at V888
      replace V888 : Arv Z h888 b873 ka873 .char (15 : Int32) [(.int (104 : Int32)), (.int (111 : Int32)), (.int (0 : Int32)), (.int (0 : Int32)), (.int (0 : Int32)), (.int (0 : Int32)), (.int (0 : Int32)), (.int (0 : Int32)), (.int (0 : Int32)), (.int (0 : Int32)), (.int (0 : Int32)), (.int (0 : Int32)), (.int (0 : Int32)), (.int (0 : Int32)), (.int (0 : Int32))] (.int (0 : Int32)) := V888
      refine g_dup C at_207 rfl ?_
      refine g_iconst C 2 at_208 rfl ?_
      refine g_aload C at_209 rfl rfl ?_
      refine g_iconst C 2 at_211 rfl ?_
      have S889 := (S884.other W888 (Nat.ne_of_lt (Nat.lt_of_lt_of_le E882.lt (Nat.le_of_eq g873.symm))) (Nat.ne_of_lt (Nat.lt_of_lt_of_le S883.tlt (Nat.le_of_eq g873.symm))))
      have K890 : Keep h0 h888 [] := K885.wr W888 (Or.inr (Nat.le_trans K877.1 (Nat.le_of_eq g873.symm)))
      have E892 := (E887.wr W888)
      refine g_virtual C E892 w_241 w_242 (fun hZ => nf_sel hw w_244 hZ) w_244 w_243 (by decide) [(.int (2 : Int32))] (ct_ch hEL hw S889 (Sta_keep Szc K890) hzc (Sta_keep Sfm K890) hfm 2 (nb rfl) (2 : Int32) rfl) all0 (by decide) 5 (by decide) rfl pd__I_C rfl [(.int (2 : Int32)), (.ref b873), (.ref b873), (.ref b872), (.ref b872)] rfl (Nat.le_of_eq rfl) at_212 (by decide) (by decide) ?_
      intro v891 h891 Q891
      obtain ⟨ev891, e891⟩ := Q891
      replace e891 := e891.symm
      subst e891
      replace ev891 : v891 = some (.int (108 : Int32)) := ev891
      subst ev891
      refine g_castore C V888 (mg (i := 0) rfl) at_215 ⟨by decide, by decide⟩ 2 rfl (nb rfl) ?_
      intro h893 W893 V893
      rw [nar_ch8 (by unfold Ch8; decide)] at V893
      replace V893 : Arv Z h893 b873 ka873 .char (15 : Int32) [(.int (104 : Int32)), (.int (111 : Int32)), (.int (108 : Int32)), (.int (0 : Int32)), (.int (0 : Int32)), (.int (0 : Int32)), (.int (0 : Int32)), (.int (0 : Int32)), (.int (0 : Int32)), (.int (0 : Int32)), (.int (0 : Int32)), (.int (0 : Int32)), (.int (0 : Int32)), (.int (0 : Int32)), (.int (0 : Int32))] (.int (0 : Int32)) := V893
      refine g_dup C at_216 rfl ?_
      refine g_iconst C 3 at_217 rfl ?_
      refine g_aload C at_218 rfl rfl ?_
      refine g_iconst C 3 at_220 rfl ?_
      have S894 := (S889.other W893 (Nat.ne_of_lt (Nat.lt_of_lt_of_le E882.lt (Nat.le_of_eq g873.symm))) (Nat.ne_of_lt (Nat.lt_of_lt_of_le S883.tlt (Nat.le_of_eq g873.symm))))
      have K895 : Keep h0 h893 [] := K890.wr W893 (Or.inr (Nat.le_trans K877.1 (Nat.le_of_eq g873.symm)))
      have E897 := (E892.wr W893)
      refine g_virtual C E897 w_241 w_242 (fun hZ => nf_sel hw w_244 hZ) w_244 w_243 (by decide) [(.int (3 : Int32))] (ct_ch hEL hw S894 (Sta_keep Szc K895) hzc (Sta_keep Sfm K895) hfm 3 (nb rfl) (3 : Int32) rfl) all0 (by decide) 5 (by decide) rfl pd__I_C rfl [(.int (3 : Int32)), (.ref b873), (.ref b873), (.ref b872), (.ref b872)] rfl (Nat.le_of_eq rfl) at_221 (by decide) (by decide) ?_
      intro v896 h896 Q896
      obtain ⟨ev896, e896⟩ := Q896
      replace e896 := e896.symm
      subst e896
      replace ev896 : v896 = some (.int (100 : Int32)) := ev896
      subst ev896
      refine g_castore C V893 (mg (i := 0) rfl) at_224 ⟨by decide, by decide⟩ 3 rfl (nb rfl) ?_
      intro h898 W898 V898
      rw [nar_ch8 (by unfold Ch8; decide)] at V898
      replace V898 : Arv Z h898 b873 ka873 .char (15 : Int32) [(.int (104 : Int32)), (.int (111 : Int32)), (.int (108 : Int32)), (.int (100 : Int32)), (.int (0 : Int32)), (.int (0 : Int32)), (.int (0 : Int32)), (.int (0 : Int32)), (.int (0 : Int32)), (.int (0 : Int32)), (.int (0 : Int32)), (.int (0 : Int32)), (.int (0 : Int32)), (.int (0 : Int32)), (.int (0 : Int32))] (.int (0 : Int32)) := V898
      refine g_dup C at_225 rfl ?_
      refine g_iconst C 4 at_226 rfl ?_
      refine g_aload C at_227 rfl rfl ?_
      refine g_iconst C 4 at_229 rfl ?_
      have S899 := (S894.other W898 (Nat.ne_of_lt (Nat.lt_of_lt_of_le E882.lt (Nat.le_of_eq g873.symm))) (Nat.ne_of_lt (Nat.lt_of_lt_of_le S883.tlt (Nat.le_of_eq g873.symm))))
      have K900 : Keep h0 h898 [] := K895.wr W898 (Or.inr (Nat.le_trans K877.1 (Nat.le_of_eq g873.symm)))
      have E902 := (E897.wr W898)
      refine g_virtual C E902 w_241 w_242 (fun hZ => nf_sel hw w_244 hZ) w_244 w_243 (by decide) [(.int (4 : Int32))] (ct_ch hEL hw S899 (Sta_keep Szc K900) hzc (Sta_keep Sfm K900) hfm 4 (nb rfl) (4 : Int32) rfl) all0 (by decide) 5 (by decide) rfl pd__I_C rfl [(.int (4 : Int32)), (.ref b873), (.ref b873), (.ref b872), (.ref b872)] rfl (Nat.le_of_eq rfl) at_230 (by decide) (by decide) ?_
      intro v901 h901 Q901
      obtain ⟨ev901, e901⟩ := Q901
      replace e901 := e901.symm
      subst e901
      replace ev901 : v901 = some (.int (102 : Int32)) := ev901
      subst ev901
      refine g_castore C V898 (mg (i := 0) rfl) at_233 ⟨by decide, by decide⟩ 4 rfl (nb rfl) ?_
      intro h903 W903 V903
      rw [nar_ch8 (by unfold Ch8; decide)] at V903
      replace V903 : Arv Z h903 b873 ka873 .char (15 : Int32) [(.int (104 : Int32)), (.int (111 : Int32)), (.int (108 : Int32)), (.int (100 : Int32)), (.int (102 : Int32)), (.int (0 : Int32)), (.int (0 : Int32)), (.int (0 : Int32)), (.int (0 : Int32)), (.int (0 : Int32)), (.int (0 : Int32)), (.int (0 : Int32)), (.int (0 : Int32)), (.int (0 : Int32)), (.int (0 : Int32))] (.int (0 : Int32)) := V903
      refine g_dup C at_234 rfl ?_
      refine g_iconst C 5 at_235 rfl ?_
      refine g_aload C at_236 rfl rfl ?_
      refine g_iconst C 5 at_238 rfl ?_
      have S904 := (S899.other W903 (Nat.ne_of_lt (Nat.lt_of_lt_of_le E882.lt (Nat.le_of_eq g873.symm))) (Nat.ne_of_lt (Nat.lt_of_lt_of_le S883.tlt (Nat.le_of_eq g873.symm))))
      have K905 : Keep h0 h903 [] := K900.wr W903 (Or.inr (Nat.le_trans K877.1 (Nat.le_of_eq g873.symm)))
      have E907 := (E902.wr W903)
      refine g_virtual C E907 w_241 w_242 (fun hZ => nf_sel hw w_244 hZ) w_244 w_243 (by decide) [(.int (5 : Int32))] (ct_ch hEL hw S904 (Sta_keep Szc K905) hzc (Sta_keep Sfm K905) hfm 5 (nb rfl) (5 : Int32) rfl) all0 (by decide) 5 (by decide) rfl pd__I_C rfl [(.int (5 : Int32)), (.ref b873), (.ref b873), (.ref b872), (.ref b872)] rfl (Nat.le_of_eq rfl) at_239 (by decide) (by decide) ?_
      intro v906 h906 Q906
      obtain ⟨ev906, e906⟩ := Q906
      replace e906 := e906.symm
      subst e906
      replace ev906 : v906 = some (.int (97 : Int32)) := ev906
      subst ev906
      refine g_castore C V903 (mg (i := 0) rfl) at_242 ⟨by decide, by decide⟩ 5 rfl (nb rfl) ?_
      intro h908 W908 V908
      rw [nar_ch8 (by unfold Ch8; decide)] at V908
      replace V908 : Arv Z h908 b873 ka873 .char (15 : Int32) [(.int (104 : Int32)), (.int (111 : Int32)), (.int (108 : Int32)), (.int (100 : Int32)), (.int (102 : Int32)), (.int (97 : Int32)), (.int (0 : Int32)), (.int (0 : Int32)), (.int (0 : Int32)), (.int (0 : Int32)), (.int (0 : Int32)), (.int (0 : Int32)), (.int (0 : Int32)), (.int (0 : Int32)), (.int (0 : Int32))] (.int (0 : Int32)) := V908
      refine g_dup C at_243 rfl ?_
      refine g_bipush C 6 at_244 rfl ?_
      refine g_aload C at_246 rfl rfl ?_
      refine g_bipush C 6 at_248 rfl ?_
      have S909 := (S904.other W908 (Nat.ne_of_lt (Nat.lt_of_lt_of_le E882.lt (Nat.le_of_eq g873.symm))) (Nat.ne_of_lt (Nat.lt_of_lt_of_le S883.tlt (Nat.le_of_eq g873.symm))))
      have K910 : Keep h0 h908 [] := K905.wr W908 (Or.inr (Nat.le_trans K877.1 (Nat.le_of_eq g873.symm)))
      have E912 := (E907.wr W908)
      refine g_virtual C E912 w_241 w_242 (fun hZ => nf_sel hw w_244 hZ) w_244 w_243 (by decide) [(.int (6 : Int32))] (ct_ch hEL hw S909 (Sta_keep Szc K910) hzc (Sta_keep Sfm K910) hfm 6 (nb rfl) (6 : Int32) rfl) all0 (by decide) 5 (by decide) rfl pd__I_C rfl [(.int (6 : Int32)), (.ref b873), (.ref b873), (.ref b872), (.ref b872)] rfl (Nat.le_of_eq rfl) at_250 (by decide) (by decide) ?_
      intro v911 h911 Q911
      obtain ⟨ev911, e911⟩ := Q911
      replace e911 := e911.symm
      subst e911
      replace ev911 : v911 = some (.int (115 : Int32)) := ev911
      subst ev911
      refine g_castore C V908 (mg (i := 0) rfl) at_253 ⟨by decide, by decide⟩ 6 rfl (nb rfl) ?_
      intro h913 W913 V913
      rw [nar_ch8 (by unfold Ch8; decide)] at V913
      replace V913 : Arv Z h913 b873 ka873 .char (15 : Int32) [(.int (104 : Int32)), (.int (111 : Int32)), (.int (108 : Int32)), (.int (100 : Int32)), (.int (102 : Int32)), (.int (97 : Int32)), (.int (115 : Int32)), (.int (0 : Int32)), (.int (0 : Int32)), (.int (0 : Int32)), (.int (0 : Int32)), (.int (0 : Int32)), (.int (0 : Int32)), (.int (0 : Int32)), (.int (0 : Int32))] (.int (0 : Int32)) := V913
      refine g_dup C at_254 rfl ?_
      refine g_bipush C 7 at_255 rfl ?_
      refine g_aload C at_257 rfl rfl ?_
      refine g_bipush C 7 at_259 rfl ?_
      have S914 := (S909.other W913 (Nat.ne_of_lt (Nat.lt_of_lt_of_le E882.lt (Nat.le_of_eq g873.symm))) (Nat.ne_of_lt (Nat.lt_of_lt_of_le S883.tlt (Nat.le_of_eq g873.symm))))
      have K915 : Keep h0 h913 [] := K910.wr W913 (Or.inr (Nat.le_trans K877.1 (Nat.le_of_eq g873.symm)))
      have E917 := (E912.wr W913)
      refine g_virtual C E917 w_241 w_242 (fun hZ => nf_sel hw w_244 hZ) w_244 w_243 (by decide) [(.int (7 : Int32))] (ct_ch hEL hw S914 (Sta_keep Szc K915) hzc (Sta_keep Sfm K915) hfm 7 (nb rfl) (7 : Int32) rfl) all0 (by decide) 5 (by decide) rfl pd__I_C rfl [(.int (7 : Int32)), (.ref b873), (.ref b873), (.ref b872), (.ref b872)] rfl (Nat.le_of_eq rfl) at_261 (by decide) (by decide) ?_
      intro v916 h916 Q916
      obtain ⟨ev916, e916⟩ := Q916
      replace e916 := e916.symm
      subst e916
      replace ev916 : v916 = some (.int (116 : Int32)) := ev916
      subst ev916
      refine g_castore C V913 (mg (i := 0) rfl) at_264 ⟨by decide, by decide⟩ 7 rfl (nb rfl) ?_
      intro h918 W918 V918
      rw [nar_ch8 (by unfold Ch8; decide)] at V918
      replace V918 : Arv Z h918 b873 ka873 .char (15 : Int32) [(.int (104 : Int32)), (.int (111 : Int32)), (.int (108 : Int32)), (.int (100 : Int32)), (.int (102 : Int32)), (.int (97 : Int32)), (.int (115 : Int32)), (.int (116 : Int32)), (.int (0 : Int32)), (.int (0 : Int32)), (.int (0 : Int32)), (.int (0 : Int32)), (.int (0 : Int32)), (.int (0 : Int32)), (.int (0 : Int32))] (.int (0 : Int32)) := V918
      refine g_dup C at_265 rfl ?_
      refine g_bipush C 8 at_266 rfl ?_
      refine g_aload C at_268 rfl rfl ?_
      refine g_bipush C 8 at_270 rfl ?_
      have S919 := (S914.other W918 (Nat.ne_of_lt (Nat.lt_of_lt_of_le E882.lt (Nat.le_of_eq g873.symm))) (Nat.ne_of_lt (Nat.lt_of_lt_of_le S883.tlt (Nat.le_of_eq g873.symm))))
      have K920 : Keep h0 h918 [] := K915.wr W918 (Or.inr (Nat.le_trans K877.1 (Nat.le_of_eq g873.symm)))
      have E922 := (E917.wr W918)
      refine g_virtual C E922 w_241 w_242 (fun hZ => nf_sel hw w_244 hZ) w_244 w_243 (by decide) [(.int (8 : Int32))] (ct_ch hEL hw S919 (Sta_keep Szc K920) hzc (Sta_keep Sfm K920) hfm 8 (nb rfl) (8 : Int32) rfl) all0 (by decide) 5 (by decide) rfl pd__I_C rfl [(.int (8 : Int32)), (.ref b873), (.ref b873), (.ref b872), (.ref b872)] rfl (Nat.le_of_eq rfl) at_272 (by decide) (by decide) ?_
      intro v921 h921 Q921
      obtain ⟨ev921, e921⟩ := Q921
      replace e921 := e921.symm
      subst e921
      replace ev921 : v921 = some (.int (58 : Int32)) := ev921
      subst ev921
      refine g_castore C V918 (mg (i := 0) rfl) at_275 ⟨by decide, by decide⟩ 8 rfl (nb rfl) ?_
      intro h923 W923 V923
      rw [nar_ch8 (by unfold Ch8; decide)] at V923
      replace V923 : Arv Z h923 b873 ka873 .char (15 : Int32) [(.int (104 : Int32)), (.int (111 : Int32)), (.int (108 : Int32)), (.int (100 : Int32)), (.int (102 : Int32)), (.int (97 : Int32)), (.int (115 : Int32)), (.int (116 : Int32)), (.int (58 : Int32)), (.int (0 : Int32)), (.int (0 : Int32)), (.int (0 : Int32)), (.int (0 : Int32)), (.int (0 : Int32)), (.int (0 : Int32))] (.int (0 : Int32)) := V923
      refine g_dup C at_276 rfl ?_
      refine g_bipush C 9 at_277 rfl ?_
      refine g_aload C at_279 rfl rfl ?_
      refine g_bipush C 9 at_281 rfl ?_
      have S924 := (S919.other W923 (Nat.ne_of_lt (Nat.lt_of_lt_of_le E882.lt (Nat.le_of_eq g873.symm))) (Nat.ne_of_lt (Nat.lt_of_lt_of_le S883.tlt (Nat.le_of_eq g873.symm))))
      have K925 : Keep h0 h923 [] := K920.wr W923 (Or.inr (Nat.le_trans K877.1 (Nat.le_of_eq g873.symm)))
      have E927 := (E922.wr W923)
      refine g_virtual C E927 w_241 w_242 (fun hZ => nf_sel hw w_244 hZ) w_244 w_243 (by decide) [(.int (9 : Int32))] (ct_ch hEL hw S924 (Sta_keep Szc K925) hzc (Sta_keep Sfm K925) hfm 9 (nb rfl) (9 : Int32) rfl) all0 (by decide) 5 (by decide) rfl pd__I_C rfl [(.int (9 : Int32)), (.ref b873), (.ref b873), (.ref b872), (.ref b872)] rfl (Nat.le_of_eq rfl) at_283 (by decide) (by decide) ?_
      intro v926 h926 Q926
      obtain ⟨ev926, e926⟩ := Q926
      replace e926 := e926.symm
      subst e926
      replace ev926 : v926 = some (.int (99 : Int32)) := ev926
      subst ev926
      refine g_castore C V923 (mg (i := 0) rfl) at_286 ⟨by decide, by decide⟩ 9 rfl (nb rfl) ?_
      intro h928 W928 V928
      rw [nar_ch8 (by unfold Ch8; decide)] at V928
      replace V928 : Arv Z h928 b873 ka873 .char (15 : Int32) [(.int (104 : Int32)), (.int (111 : Int32)), (.int (108 : Int32)), (.int (100 : Int32)), (.int (102 : Int32)), (.int (97 : Int32)), (.int (115 : Int32)), (.int (116 : Int32)), (.int (58 : Int32)), (.int (99 : Int32)), (.int (0 : Int32)), (.int (0 : Int32)), (.int (0 : Int32)), (.int (0 : Int32)), (.int (0 : Int32))] (.int (0 : Int32)) := V928
      refine g_dup C at_287 rfl ?_
      refine g_bipush C 10 at_288 rfl ?_
      refine g_aload C at_290 rfl rfl ?_
      refine g_bipush C 10 at_292 rfl ?_
      have S929 := (S924.other W928 (Nat.ne_of_lt (Nat.lt_of_lt_of_le E882.lt (Nat.le_of_eq g873.symm))) (Nat.ne_of_lt (Nat.lt_of_lt_of_le S883.tlt (Nat.le_of_eq g873.symm))))
      have K930 : Keep h0 h928 [] := K925.wr W928 (Or.inr (Nat.le_trans K877.1 (Nat.le_of_eq g873.symm)))
      have E932 := (E927.wr W928)
      refine g_virtual C E932 w_241 w_242 (fun hZ => nf_sel hw w_244 hZ) w_244 w_243 (by decide) [(.int (10 : Int32))] (ct_ch hEL hw S929 (Sta_keep Szc K930) hzc (Sta_keep Sfm K930) hfm 10 (nb rfl) (10 : Int32) rfl) all0 (by decide) 5 (by decide) rfl pd__I_C rfl [(.int (10 : Int32)), (.ref b873), (.ref b873), (.ref b872), (.ref b872)] rfl (Nat.le_of_eq rfl) at_294 (by decide) (by decide) ?_
      intro v931 h931 Q931
      obtain ⟨ev931, e931⟩ := Q931
      replace e931 := e931.symm
      subst e931
      replace ev931 : v931 = some (.int (97 : Int32)) := ev931
      subst ev931
      refine g_castore C V928 (mg (i := 0) rfl) at_297 ⟨by decide, by decide⟩ 10 rfl (nb rfl) ?_
      intro h933 W933 V933
      rw [nar_ch8 (by unfold Ch8; decide)] at V933
      replace V933 : Arv Z h933 b873 ka873 .char (15 : Int32) [(.int (104 : Int32)), (.int (111 : Int32)), (.int (108 : Int32)), (.int (100 : Int32)), (.int (102 : Int32)), (.int (97 : Int32)), (.int (115 : Int32)), (.int (116 : Int32)), (.int (58 : Int32)), (.int (99 : Int32)), (.int (97 : Int32)), (.int (0 : Int32)), (.int (0 : Int32)), (.int (0 : Int32)), (.int (0 : Int32))] (.int (0 : Int32)) := V933
      refine g_dup C at_298 rfl ?_
      refine g_bipush C 11 at_299 rfl ?_
      refine g_aload C at_301 rfl rfl ?_
      refine g_bipush C 11 at_303 rfl ?_
      have S934 := (S929.other W933 (Nat.ne_of_lt (Nat.lt_of_lt_of_le E882.lt (Nat.le_of_eq g873.symm))) (Nat.ne_of_lt (Nat.lt_of_lt_of_le S883.tlt (Nat.le_of_eq g873.symm))))
      have K935 : Keep h0 h933 [] := K930.wr W933 (Or.inr (Nat.le_trans K877.1 (Nat.le_of_eq g873.symm)))
      have E937 := (E932.wr W933)
      refine g_virtual C E937 w_241 w_242 (fun hZ => nf_sel hw w_244 hZ) w_244 w_243 (by decide) [(.int (11 : Int32))] (ct_ch hEL hw S934 (Sta_keep Szc K935) hzc (Sta_keep Sfm K935) hfm 11 (nb rfl) (11 : Int32) rfl) all0 (by decide) 5 (by decide) rfl pd__I_C rfl [(.int (11 : Int32)), (.ref b873), (.ref b873), (.ref b872), (.ref b872)] rfl (Nat.le_of_eq rfl) at_305 (by decide) (by decide) ?_
      intro v936 h936 Q936
      obtain ⟨ev936, e936⟩ := Q936
      replace e936 := e936.symm
      subst e936
      replace ev936 : v936 = some (.int (108 : Int32)) := ev936
      subst ev936
      refine g_castore C V933 (mg (i := 0) rfl) at_308 ⟨by decide, by decide⟩ 11 rfl (nb rfl) ?_
      intro h938 W938 V938
      rw [nar_ch8 (by unfold Ch8; decide)] at V938
      replace V938 : Arv Z h938 b873 ka873 .char (15 : Int32) [(.int (104 : Int32)), (.int (111 : Int32)), (.int (108 : Int32)), (.int (100 : Int32)), (.int (102 : Int32)), (.int (97 : Int32)), (.int (115 : Int32)), (.int (116 : Int32)), (.int (58 : Int32)), (.int (99 : Int32)), (.int (97 : Int32)), (.int (108 : Int32)), (.int (0 : Int32)), (.int (0 : Int32)), (.int (0 : Int32))] (.int (0 : Int32)) := V938
      refine g_dup C at_309 rfl ?_
      refine g_bipush C 12 at_310 rfl ?_
      refine g_aload C at_312 rfl rfl ?_
      refine g_bipush C 12 at_314 rfl ?_
      have S939 := (S934.other W938 (Nat.ne_of_lt (Nat.lt_of_lt_of_le E882.lt (Nat.le_of_eq g873.symm))) (Nat.ne_of_lt (Nat.lt_of_lt_of_le S883.tlt (Nat.le_of_eq g873.symm))))
      have K940 : Keep h0 h938 [] := K935.wr W938 (Or.inr (Nat.le_trans K877.1 (Nat.le_of_eq g873.symm)))
      have E942 := (E937.wr W938)
      refine g_virtual C E942 w_241 w_242 (fun hZ => nf_sel hw w_244 hZ) w_244 w_243 (by decide) [(.int (12 : Int32))] (ct_ch hEL hw S939 (Sta_keep Szc K940) hzc (Sta_keep Sfm K940) hfm 12 (nb rfl) (12 : Int32) rfl) all0 (by decide) 5 (by decide) rfl pd__I_C rfl [(.int (12 : Int32)), (.ref b873), (.ref b873), (.ref b872), (.ref b872)] rfl (Nat.le_of_eq rfl) at_316 (by decide) (by decide) ?_
      intro v941 h941 Q941
      obtain ⟨ev941, e941⟩ := Q941
      replace e941 := e941.symm
      subst e941
      replace ev941 : v941 = some (.int (108 : Int32)) := ev941
      subst ev941
      refine g_castore C V938 (mg (i := 0) rfl) at_319 ⟨by decide, by decide⟩ 12 rfl (nb rfl) ?_
      intro h943 W943 V943
      rw [nar_ch8 (by unfold Ch8; decide)] at V943
      replace V943 : Arv Z h943 b873 ka873 .char (15 : Int32) [(.int (104 : Int32)), (.int (111 : Int32)), (.int (108 : Int32)), (.int (100 : Int32)), (.int (102 : Int32)), (.int (97 : Int32)), (.int (115 : Int32)), (.int (116 : Int32)), (.int (58 : Int32)), (.int (99 : Int32)), (.int (97 : Int32)), (.int (108 : Int32)), (.int (108 : Int32)), (.int (0 : Int32)), (.int (0 : Int32))] (.int (0 : Int32)) := V943
      refine g_dup C at_320 rfl ?_
      refine g_bipush C 13 at_321 rfl ?_
      refine g_aload C at_323 rfl rfl ?_
      refine g_bipush C 13 at_325 rfl ?_
      have S944 := (S939.other W943 (Nat.ne_of_lt (Nat.lt_of_lt_of_le E882.lt (Nat.le_of_eq g873.symm))) (Nat.ne_of_lt (Nat.lt_of_lt_of_le S883.tlt (Nat.le_of_eq g873.symm))))
      have K945 : Keep h0 h943 [] := K940.wr W943 (Or.inr (Nat.le_trans K877.1 (Nat.le_of_eq g873.symm)))
      have E947 := (E942.wr W943)
      refine g_virtual C E947 w_241 w_242 (fun hZ => nf_sel hw w_244 hZ) w_244 w_243 (by decide) [(.int (13 : Int32))] (ct_ch hEL hw S944 (Sta_keep Szc K945) hzc (Sta_keep Sfm K945) hfm 13 (nb rfl) (13 : Int32) rfl) all0 (by decide) 5 (by decide) rfl pd__I_C rfl [(.int (13 : Int32)), (.ref b873), (.ref b873), (.ref b872), (.ref b872)] rfl (Nat.le_of_eq rfl) at_327 (by decide) (by decide) ?_
      intro v946 h946 Q946
      obtain ⟨ev946, e946⟩ := Q946
      replace e946 := e946.symm
      subst e946
      replace ev946 : v946 = some (.int (58 : Int32)) := ev946
      subst ev946
      refine g_castore C V943 (mg (i := 0) rfl) at_330 ⟨by decide, by decide⟩ 13 rfl (nb rfl) ?_
      intro h948 W948 V948
      rw [nar_ch8 (by unfold Ch8; decide)] at V948
      replace V948 : Arv Z h948 b873 ka873 .char (15 : Int32) [(.int (104 : Int32)), (.int (111 : Int32)), (.int (108 : Int32)), (.int (100 : Int32)), (.int (102 : Int32)), (.int (97 : Int32)), (.int (115 : Int32)), (.int (116 : Int32)), (.int (58 : Int32)), (.int (99 : Int32)), (.int (97 : Int32)), (.int (108 : Int32)), (.int (108 : Int32)), (.int (58 : Int32)), (.int (0 : Int32))] (.int (0 : Int32)) := V948
      refine g_dup C at_331 rfl ?_
      refine g_bipush C 14 at_332 rfl ?_
      refine g_aload C at_334 rfl rfl ?_
      refine g_bipush C 14 at_336 rfl ?_
      have S949 := (S944.other W948 (Nat.ne_of_lt (Nat.lt_of_lt_of_le E882.lt (Nat.le_of_eq g873.symm))) (Nat.ne_of_lt (Nat.lt_of_lt_of_le S883.tlt (Nat.le_of_eq g873.symm))))
      have K950 : Keep h0 h948 [] := K945.wr W948 (Or.inr (Nat.le_trans K877.1 (Nat.le_of_eq g873.symm)))
      have E952 := (E947.wr W948)
      refine g_virtual C E952 w_241 w_242 (fun hZ => nf_sel hw w_244 hZ) w_244 w_243 (by decide) [(.int (14 : Int32))] (ct_ch hEL hw S949 (Sta_keep Szc K950) hzc (Sta_keep Sfm K950) hfm 14 (nb rfl) (14 : Int32) rfl) all0 (by decide) 5 (by decide) rfl pd__I_C rfl [(.int (14 : Int32)), (.ref b873), (.ref b873), (.ref b872), (.ref b872)] rfl (Nat.le_of_eq rfl) at_338 (by decide) (by decide) ?_
      intro v951 h951 Q951
      obtain ⟨ev951, e951⟩ := Q951
      replace e951 := e951.symm
      subst e951
      replace ev951 : v951 = some (.int (123 : Int32)) := ev951
      subst ev951
      refine g_castore C V948 (mg (i := 0) rfl) at_341 ⟨by decide, by decide⟩ 14 rfl (nb rfl) ?_
      intro h953 W953 V953
      rw [nar_ch8 (by unfold Ch8; decide)] at V953
      replace V953 : Arv Z h953 b873 ka873 .char (15 : Int32) [(.int (104 : Int32)), (.int (111 : Int32)), (.int (108 : Int32)), (.int (100 : Int32)), (.int (102 : Int32)), (.int (97 : Int32)), (.int (115 : Int32)), (.int (116 : Int32)), (.int (58 : Int32)), (.int (99 : Int32)), (.int (97 : Int32)), (.int (108 : Int32)), (.int (108 : Int32)), (.int (58 : Int32)), (.int (123 : Int32))] (.int (0 : Int32)) := V953
      have K954 : Keep h872 h873 [] := (Keep.refl h872 []).ext E873
      have K955 : Keep h872 h881 [] := K954.wr W881 (Or.inr (Nat.le_of_eq g873.symm))
      have K956 : Keep h872 h888 [] := K955.wr W888 (Or.inr (Nat.le_of_eq g873.symm))
      have K957 : Keep h872 h893 [] := K956.wr W893 (Or.inr (Nat.le_of_eq g873.symm))
      have K958 : Keep h872 h898 [] := K957.wr W898 (Or.inr (Nat.le_of_eq g873.symm))
      have K959 : Keep h872 h903 [] := K958.wr W903 (Or.inr (Nat.le_of_eq g873.symm))
      have K960 : Keep h872 h908 [] := K959.wr W908 (Or.inr (Nat.le_of_eq g873.symm))
      have K961 : Keep h872 h913 [] := K960.wr W913 (Or.inr (Nat.le_of_eq g873.symm))
      have K962 : Keep h872 h918 [] := K961.wr W918 (Or.inr (Nat.le_of_eq g873.symm))
      have K963 : Keep h872 h923 [] := K962.wr W923 (Or.inr (Nat.le_of_eq g873.symm))
      have K964 : Keep h872 h928 [] := K963.wr W928 (Or.inr (Nat.le_of_eq g873.symm))
      have K965 : Keep h872 h933 [] := K964.wr W933 (Or.inr (Nat.le_of_eq g873.symm))
      have K966 : Keep h872 h938 [] := K965.wr W938 (Or.inr (Nat.le_of_eq g873.symm))
      have K967 : Keep h872 h943 [] := K966.wr W943 (Or.inr (Nat.le_of_eq g873.symm))
      have K968 : Keep h872 h948 [] := K967.wr W948 (Or.inr (Nat.le_of_eq g873.symm))
      have K969 : Keep h872 h953 [] := K968.wr W953 (Or.inr (Nat.le_of_eq g873.symm))
      have E970 := (A872.keep K969)
      have F971 := ((D872 (Or.inr (C.hw w_27)) (ty := (.array .byte)) (by decide)).keep K969 nin0)
      have F972 := ((D872 (Or.inr (C.hw w_29)) (ty := .byte) (by decide)).keep K969 nin0)
      have K973 : Keep h0 h953 [] := K950.wr W953 (Or.inr (Nat.le_trans K877.1 (Nat.le_of_eq g873.symm)))
      refine g_special C (a := b872) w_255 w_256 w_257 rfl (by decide) [(.ref b873)] (ct_newS hEL hw (cs := [(104 : Int32), (111 : Int32), (108 : Int32), (100 : Int32), (102 : Int32), (97 : Int32), (115 : Int32), (116 : Int32), (58 : Int32), (99 : Int32), (97 : Int32), (108 : Int32), (108 : Int32), (58 : Int32), (123 : Int32)]) (n := 15) E970 F971 F972 V953 (Sta_keep Szc K973) hzc rfl (by decide) (by decide) (own_allc (by unfold Ch8; decide) (own_allc (by unfold Ch8; decide) (own_allc (by unfold Ch8; decide) (own_allc (by unfold Ch8; decide) (own_allc (by unfold Ch8; decide) (own_allc (by unfold Ch8; decide) (own_allc (by unfold Ch8; decide) (own_allc (by unfold Ch8; decide) (own_allc (by unfold Ch8; decide) (own_allc (by unfold Ch8; decide) (own_allc (by unfold Ch8; decide) (own_allc (by unfold Ch8; decide) (own_allc (by unfold Ch8; decide) (own_allc (by unfold Ch8; decide) (own_allc (by unfold Ch8; decide) (fun _ q => nomatch q))))))))))))))))) (allS (mg (i := 1) rfl) all0) (by decide) 1 (by decide) rfl pd___C_V rfl [(.ref b872)] rfl (Nat.le_of_eq rfl) at_342 (by decide) (by decide) ?_
      intro v974 h974 Q974
      obtain ⟨rfl, KC974, t974, kb974, ht974, htx974, S974⟩ := Q974
      refine g_astore C #[.val (.int i1), .val (.int i2), .val (.int i3), .val (.int (1 : Int32)), .val (.int z730), .val (.int z731), .val (.ref a732), .val (.int (1 : Int32)), .val (.int c8), .val (.int c9), .val (.ref a861), .val (.ref a865), .val (.ref a869), .val (.ref b872)] at_345 rfl rfl ?_
      refine g_aload C at_347 rfl rfl ?_
      refine g_ldcS C hEL w_271 own_sA (mg (i := 17) rfl) [104, 111, 108, 100, 102, 97, 115, 116, 58, 99, 97, 108, 108, 58, 123] ⟨by decide +kernel, by decide +kernel⟩ (by decide) (by decide) at_349 60 (by decide +kernel) (by decide) (by decide) (by decide) ?_
      intro a975 t975 kb975 h975 E975 S975 X975
      have K976 : Keep h974 h975 [] := (Keep.refl h974 []).ext E975
      have S977 := (S974.keep K976 nin0 nin0)
      have K978 : Keep h0 h974 [] := K973.trans KC974 (allS (Or.inr (Nat.le_trans K870.1 (Nat.le_of_eq g872.symm))) all0)
      have K979 : Keep h0 h975 [] := K978.ext E975
      have E981 := (S974.1.keep K976)
      refine g_virtual C E981 w_272 w_273 (fun hZ => nf_sel hw w_275 hZ) w_275 w_274 (by decide) [(.ref a975)] (ct_eq hEL hw S977 S975 (Sta_keep Szc K979) hzc) all0 (by decide) 0 (by decide) rfl pd__Ljava_lang_Object__Z rfl [] rfl (Nat.le_of_eq rfl) at_351 (by decide) (by decide) ?_
      intro v980 h980 Q980
      obtain ⟨ev980, e980⟩ := Q980
      replace e980 := e980.symm
      subst e980
      replace ev980 : v980 = some (.int (1 : Int32)) := ev980.trans (by rw [if_pos rfl])
      subst ev980
      refine g_if_t C 359 at_354 (XT.i0_ne_t (by decide)) (by decide) (by decide) ?_
      refine g_aload C at_359 rfl rfl ?_
      refine g_bipush C 15 at_361 rfl ?_
      have S982 := (((S949.other W953 (Nat.ne_of_lt (Nat.lt_of_lt_of_le E882.lt (Nat.le_of_eq g873.symm))) (Nat.ne_of_lt (Nat.lt_of_lt_of_le S883.tlt (Nat.le_of_eq g873.symm)))).keep KC974 (ninS (Nat.ne_of_lt (Nat.lt_of_lt_of_le S869.1.lt (Nat.le_of_eq g872.symm))) nin0) (ninS (Nat.ne_of_lt (Nat.lt_of_lt_of_le S869.tlt (Nat.le_of_eq g872.symm))) nin0)).ext E975)
      have E984 := (((E952.wr W953).keep KC974).ext E975)
      refine g_virtual C E984 w_241 w_242 (fun hZ => nf_sel hw w_244 hZ) w_244 w_243 (by decide) [(.int (15 : Int32))] (ct_ch hEL hw S982 (Sta_keep Szc K979) hzc (Sta_keep Sfm K979) hfm 15 (nb rfl) (15 : Int32) rfl) all0 (by decide) 0 (by decide) rfl pd__I_C rfl [] rfl (Nat.le_of_eq rfl) at_363 (by decide) (by decide) ?_
      intro v983 h983 Q983
      obtain ⟨ev983, e983⟩ := Q983
      replace e983 := e983.symm
      subst e983
      replace ev983 : v983 = some (.int z730) := ev983
      subst ev983
      refine g_iload C at_366 rfl ?_
      refine g_icmp_t C 373 at_368 (XT.ii_eq_t rfl) (by decide) (by decide) ?_
      refine g_iloadN C at_373 rfl ?_
      refine g_iconst C 2 at_374 rfl ?_
      refine g_icmp_t C 392 at_375 (XT.ii_ne_t (by decide)) (by decide) (by decide) ?_
      refine g_aload C at_392 rfl rfl ?_
      refine g_bipush C 15 at_394 rfl ?_
      refine g_iloadN C at_396 rfl ?_
      refine g_iadd C at_397 ?_
      rw [show ((15 : Int32) + (1 : Int32)) = (16 : Int32) from by decide]
      refine g_virtual C E984 w_241 w_242 (fun hZ => nf_sel hw w_244 hZ) w_244 w_243 (by decide) [(.int (16 : Int32))] (ct_ch hEL hw S982 (Sta_keep Szc K979) hzc (Sta_keep Sfm K979) hfm 16 (nb rfl) (16 : Int32) rfl) all0 (by decide) 0 (by decide) rfl pd__I_C rfl [] rfl (Nat.le_of_eq rfl) at_398 (by decide) (by decide) ?_
      intro v985 h985 Q985
      obtain ⟨ev985, e985⟩ := Q985
      replace e985 := e985.symm
      subst e985
      replace ev985 : v985 = some (.int (125 : Int32)) := ev985
      subst ev985
      refine g_bipush C 125 at_401 rfl ?_
      refine g_icmp_f C at_403 (XT.ii_ne_f (by decide)) ?_
      refine g_aload C at_406 rfl rfl ?_
      refine g_bipush C 16 at_408 rfl ?_
      refine g_iloadN C at_410 rfl ?_
      refine g_iadd C at_411 ?_
      rw [show ((16 : Int32) + (1 : Int32)) = (17 : Int32) from by decide]
      refine g_virtual C E984 w_241 w_242 (fun hZ => nf_sel hw w_244 hZ) w_244 w_243 (by decide) [(.int (17 : Int32))] (ct_ch hEL hw S982 (Sta_keep Szc K979) hzc (Sta_keep Sfm K979) hfm 17 (nb rfl) (17 : Int32) rfl) all0 (by decide) 0 (by decide) rfl pd__I_C rfl [] rfl (Nat.le_of_eq rfl) at_412 (by decide) (by decide) ?_
      intro v986 h986 Q986
      obtain ⟨ev986, e986⟩ := Q986
      replace e986 := e986.symm
      subst e986
      replace ev986 : v986 = some (.int (58 : Int32)) := ev986
      subst ev986
      refine g_bipush C 58 at_415 rfl ?_
      refine g_icmp_t C 422 at_417 (XT.ii_eq_t (by decide)) (by decide) (by decide) ?_
      refine g_iload C at_422 rfl ?_
      refine g_iconst C 1 at_424 rfl ?_
      refine g_icmp_f C at_425 (XT.ii_lt_f (by decide)) ?_
      refine g_aload C at_428 rfl rfl ?_
      refine g_bipush C 17 at_430 rfl ?_
      refine g_iloadN C at_432 rfl ?_
      refine g_iadd C at_433 ?_
      rw [show ((17 : Int32) + (1 : Int32)) = (18 : Int32) from by decide]
      refine g_virtual C E984 w_241 w_242 (fun hZ => nf_sel hw w_244 hZ) w_244 w_243 (by decide) [(.int (18 : Int32))] (ct_ch hEL hw S982 (Sta_keep Szc K979) hzc (Sta_keep Sfm K979) hfm 18 (nb rfl) (18 : Int32) rfl) all0 (by decide) 0 (by decide) rfl pd__I_C rfl [] rfl (Nat.le_of_eq rfl) at_434 (by decide) (by decide) ?_
      intro v987 h987 Q987
      obtain ⟨ev987, e987⟩ := Q987
      replace e987 := e987.symm
      subst e987
      replace ev987 : v987 = some (.int c8) := ev987
      subst ev987
      refine g_iload C at_437 rfl ?_
      refine g_icmp_t C 444 at_439 (XT.ii_eq_t rfl) (by decide) (by decide) ?_
      refine g_iload C at_444 rfl ?_
      refine g_iconst C 2 at_446 rfl ?_
      refine g_icmp_t C 466 at_447 (XT.ii_ne_t (by decide)) (by decide) (by decide) ?_
      refine g_iconst C 1 at_466 rfl ?_
      refine g_ireturnN C hEL (t := .boolean) rfl (by simp) at_467 (by decide) (by decide) ?_
      exact rfl
    · rw [e_dB]
      refine g_iloadN C at_77 rfl ?_
      refine g_sipush C 255 at_78 rfl ?_
      refine g_iand C at_81 ?_
      refine g_i2c C at_82 ?_
      refine g_istore C #[.val (.int i1), .val (.int i2), .val (.int i3), .val (.int (1 : Int32)), .val (.int z730), .val (.int z731), .val (.ref a732), .val (.int (2 : Int32)), .val (.int ((i2 &&& (255 : Int32)).toUInt32.toUInt16.toUInt32.toInt32)), .unset, .unset, .unset, .unset, .unset] at_83 rfl ?_
      obtain ⟨c8, e_c8, h_c8⟩ : ∃ z : Int32, ((i2 &&& (255 : Int32)).toUInt32.toUInt16.toUInt32.toInt32) = z ∧ Ch8 z := ⟨_, rfl, ch8_i2c _⟩
      rw [e_c8]
      refine g_iloadN C at_85 rfl ?_
      refine g_bipush C 8 at_86 rfl ?_
      refine g_iushr C at_88 ?_
      refine g_sipush C 255 at_89 rfl ?_
      refine g_iand C at_92 ?_
      refine g_i2c C at_93 ?_
      refine g_istore C #[.val (.int i1), .val (.int i2), .val (.int i3), .val (.int (1 : Int32)), .val (.int z730), .val (.int z731), .val (.ref a732), .val (.int (2 : Int32)), .val (.int c8), .val (.int ((((i2.toUInt32 >>> ((8 : Int32) &&& 31).toUInt32).toInt32) &&& (255 : Int32)).toUInt32.toUInt16.toUInt32.toInt32)), .unset, .unset, .unset, .unset] at_94 rfl ?_
      obtain ⟨c9, e_c9, h_c9⟩ : ∃ z : Int32, ((((i2.toUInt32 >>> ((8 : Int32) &&& 31).toUInt32).toInt32) &&& (255 : Int32)).toUInt32.toUInt16.toUInt32.toInt32) = z ∧ Ch8 z := ⟨_, rfl, ch8_i2c _⟩
      rw [e_c9]
      refine g_iload C at_96 rfl ?_
      refine g_if_t C 106 at_98 (XT.i0_ne_t (by decide)) (by decide) (by decide) ?_
      refine g_iload C at_106 rfl ?_
      refine g_iconst C 1 at_108 rfl ?_
      refine g_icmp_t C 120 at_109 (XT.ii_ne_t (by decide)) (by decide) (by decide) ?_
      refine g_new C w_239 w_14 w_6 at_120 (by decide) (by decide) ?_
      intro b988 h988 g988 E988 A988 D988
      refine g_dup C at_123 rfl ?_
      refine g_iconst C 2 at_124 rfl ?_
      refine g_newarray C (aty := .char) w_240 at_125 (by decide) 2 (by decide) (by decide) (by decide) (by decide) "[C" rfl ?_
      intro b989 h989 ka989 g989 E989 V989 A989
      replace V989 : Arv Z h989 b989 ka989 .char (2 : Int32) [(.int (0 : Int32)), (.int (0 : Int32))] (.int (0 : Int32)) := V989.pad (pad_rep [] _ 2)
      refine g_dup C at_127 rfl ?_
      refine g_iconst C 0 at_128 rfl ?_
      refine g_iload C at_129 rfl ?_
      refine g_castore C V989 (mg (i := 0) rfl) at_131 ⟨by decide, by decide⟩ 0 rfl (nb rfl) ?_
      intro h990 W990 V990
      rw [nar_ch8 h_c8] at V990
      replace V990 : Arv Z h990 b989 ka989 .char (2 : Int32) [(.int c8), (.int (0 : Int32))] (.int (0 : Int32)) := V990
      refine g_dup C at_132 rfl ?_
      refine g_iconst C 1 at_133 rfl ?_
      refine g_iload C at_134 rfl ?_
      refine g_castore C V990 (mg (i := 0) rfl) at_136 ⟨by decide, by decide⟩ 1 rfl (nb rfl) ?_
      intro h991 W991 V991
      rw [nar_ch8 h_c9] at V991
      replace V991 : Arv Z h991 b989 ka989 .char (2 : Int32) [(.int c8), (.int c9)] (.int (0 : Int32)) := V991
      have K992 : Keep h988 h989 [] := (Keep.refl h988 []).ext E989
      have K993 : Keep h988 h990 [] := K992.wr W990 (Or.inr (Nat.le_of_eq g989.symm))
      have K994 : Keep h988 h991 [] := K993.wr W991 (Or.inr (Nat.le_of_eq g989.symm))
      have E995 := (A988.keep K994)
      have F996 := ((D988 (Or.inr (C.hw w_27)) (ty := (.array .byte)) (by decide)).keep K994 nin0)
      have F997 := ((D988 (Or.inr (C.hw w_29)) (ty := .byte) (by decide)).keep K994 nin0)
      have K998 : Keep h0 h732 [] := (Keep.refl h0 []).trans KC732 all0
      have K999 : Keep h0 h988 [] := K998.ext E988
      have K1000 : Keep h0 h989 [] := K999.ext E989
      have K1001 : Keep h0 h990 [] := K1000.wr W990 (Or.inr (Nat.le_trans K999.1 (Nat.le_of_eq g989.symm)))
      have K1002 : Keep h0 h991 [] := K1001.wr W991 (Or.inr (Nat.le_trans K999.1 (Nat.le_of_eq g989.symm)))
      refine g_special C (a := b988) w_255 w_256 w_257 rfl (by decide) [(.ref b989)] (ct_newS hEL hw (cs := [c8, c9]) (n := 2) E995 F996 F997 V991 (Sta_keep Szc K1002) hzc rfl (by decide) (by decide) (own_allc h_c8 (own_allc h_c9 (fun _ q => nomatch q)))) (allS (mg (i := 1) rfl) all0) (by decide) 1 (by decide) rfl pd___C_V rfl [(.ref b988)] rfl (Nat.le_of_eq rfl) at_137 (by decide) (by decide) ?_
      intro v1003 h1003 Q1003
      obtain ⟨rfl, KC1003, t1003, kb1003, ht1003, htx1003, S1003⟩ := Q1003
      refine g_astore C #[.val (.int i1), .val (.int i2), .val (.int i3), .val (.int (1 : Int32)), .val (.int z730), .val (.int z731), .val (.ref a732), .val (.int (2 : Int32)), .val (.int c8), .val (.int c9), .val (.ref b988), .unset, .unset, .unset] at_140 rfl rfl ?_
      refine g_iloadN C at_142 rfl ?_
      refine g_bipush C 7 at_143 rfl ?_
      refine g_iand C at_145 ?_
      refine g_aload C at_146 rfl rfl ?_
      refine g_aload C at_148 rfl rfl ?_
      have K1004 : Keep h732 h988 [] := (Keep.refl h732 []).ext E988
      have K1005 : Keep h732 h989 [] := K1004.ext E989
      have K1006 : Keep h732 h990 [] := K1005.wr W990 (Or.inr (Nat.le_trans K1004.1 (Nat.le_of_eq g989.symm)))
      have K1007 : Keep h732 h991 [] := K1006.wr W991 (Or.inr (Nat.le_trans K1004.1 (Nat.le_of_eq g989.symm)))
      have K1008 : Keep h732 h1003 [] := K1007.trans KC1003 (allS (Or.inr (Nat.le_of_eq g988.symm)) all0)
      have S1009 := (S732.keep K1008 nin0 nin0)
      have K1010 : Keep h0 h1003 [] := K1002.trans KC1003 (allS (Or.inr (Nat.le_trans K998.1 (Nat.le_of_eq g988.symm))) all0)
      refine g_static C w_33 w_34 w_2 w_35 (by decide) [(.int (i3 &&& (7 : Int32))), (.ref a732), (.ref b988)] (ct_of hEL hw w_35 w_2 (rm_key l Z a0 hw hEL (i3 &&& (7 : Int32)) a732 t732 b988 t1003 _ _ [z730] [c8, c9] zc h1003 n0 S1009 (nb rfl) (nb rfl) (own_nocons hx730 (fun _ q => nomatch q)) S1003 (nb rfl) (Sta_keep Szc K1010) hzc)) all0 (by decide) 0 (by decide) rfl pd__ILjava_lang_String_Ljava_lang_String__Ljava_lang_String_ rfl [] rfl (Nat.le_of_eq rfl) at_150 (by decide) (by decide) ?_
      intro v1011 h1011 Q1011
      obtain ⟨a1011, t1011, k1011, P1011, Sx1011, rfl, KC1011, le1011, lt1011, S1011, hP1011, hP01011, hP191011, hSx1011⟩ := Q1011
      refine g_astore C #[.val (.int i1), .val (.int i2), .val (.int i3), .val (.int (1 : Int32)), .val (.int z730), .val (.int z731), .val (.ref a732), .val (.int (2 : Int32)), .val (.int c8), .val (.int c9), .val (.ref b988), .val (.ref a1011), .unset, .unset] at_153 rfl rfl ?_
      refine g_aload C at_155 rfl rfl ?_
      refine g_aload C at_157 rfl rfl ?_
      have K1012 : Keep h1003 h1011 [] := (Keep.refl h1003 []).trans KC1011 all0
      have S1013 := (S1003.keep K1012 nin0 nin0)
      have K1014 : Keep h0 h1011 [] := K1010.trans KC1011 all0
      refine g_static C w_214 w_215 w_38 w_216 (by decide) [(.ref a1011), (.ref b988)] (ct_of hEL hw w_216 w_38 (rm_lastCall l Z a0 hw hEL a1011 t1011 b988 t1003 _ _ P1011 [z730] Sx1011 [c8, c9] zc fm h1011 n0 S1011 S1013 (nb rfl) (nb rfl) (own_nocons hx730 (fun _ q => nomatch q)) (nb rfl) hP1011 hP01011 hP191011 hSx1011 (Sta_keep Szc K1014) hzc (Sta_keep Sfm K1014) hfm)) all0 (by decide) 0 (by decide) rfl pd__Ljava_lang_String_Ljava_lang_String__Ljava_lang_String_ rfl [] rfl (Nat.le_of_eq rfl) at_159 (by decide) (by decide) ?_
      intro v1015 h1015 Q1015
      obtain ⟨a1015, t1015, k1015, rfl, KC1015, le1015, lt1015, S1015⟩ := Q1015
      replace S1015 : Str Z h1015 a1015 t1015 k1015 [104, 111, 108, 100, 102, 97, 115, 116, 58, 99, 97, 108, 108, 58, 123, z730, 125, 58, c8, c9] := S1015
      refine g_astore C #[.val (.int i1), .val (.int i2), .val (.int i3), .val (.int (1 : Int32)), .val (.int z730), .val (.int z731), .val (.ref a732), .val (.int (2 : Int32)), .val (.int c8), .val (.int c9), .val (.ref b988), .val (.ref a1011), .val (.ref a1015), .unset] at_162 rfl rfl ?_
      refine g_aload C at_164 rfl rfl ?_
      have K1016 : Keep h0 h1015 [] := K1014.trans KC1015 all0
      refine g_virtual C S1015.1 w_238 w_73 (fun hZ => nf_sel hw w_75 hZ) w_75 w_74 (by decide) [] (ct_len hEL hw S1015 (Sta_keep Szc K1016) hzc) all0 (by decide) 0 (by decide) rfl pd___I rfl [] rfl (Nat.le_of_eq rfl) at_166 (by decide) (by decide) ?_
      intro v1017 h1017 Q1017
      obtain ⟨ev1017, e1017⟩ := Q1017
      replace e1017 := e1017.symm
      subst e1017
      replace ev1017 : v1017 = some (.int (20 : Int32)) := ev1017
      subst ev1017
      refine g_bipush C 17 at_169 rfl ?_
      refine g_iloadN C at_171 rfl ?_
      refine g_iadd C at_172 ?_
      rw [show ((17 : Int32) + (1 : Int32)) = (18 : Int32) from by decide]
      refine g_iload C at_173 rfl ?_
      refine g_iadd C at_175 ?_
      rw [show ((18 : Int32) + (2 : Int32)) = (20 : Int32) from by decide]
      refine g_icmp_t C 181 at_176 (XT.ii_eq_t (by decide)) (by decide) (by decide) ?_
      refine g_new C w_239 w_14 w_6 at_181 (by decide) (by decide) ?_
      intro b1018 h1018 g1018 E1018 A1018 D1018
      refine g_dup C at_184 rfl ?_
      refine g_bipush C 15 at_185 rfl ?_
      refine g_newarray C (aty := .char) w_240 at_187 (by decide) 15 (by decide) (by decide) (by decide) (by decide) "[C" rfl ?_
      intro b1019 h1019 ka1019 g1019 E1019 V1019 A1019
      replace V1019 : Arv Z h1019 b1019 ka1019 .char (15 : Int32) [(.int (0 : Int32)), (.int (0 : Int32)), (.int (0 : Int32)), (.int (0 : Int32)), (.int (0 : Int32)), (.int (0 : Int32)), (.int (0 : Int32)), (.int (0 : Int32)), (.int (0 : Int32)), (.int (0 : Int32)), (.int (0 : Int32)), (.int (0 : Int32)), (.int (0 : Int32)), (.int (0 : Int32)), (.int (0 : Int32))] (.int (0 : Int32)) := V1019.pad (pad_rep [] _ 15)
      refine g_dup C at_189 rfl ?_
      refine g_iconst C 0 at_190 rfl ?_
      refine g_aload C at_191 rfl rfl ?_
      refine g_iconst C 0 at_193 rfl ?_
      have K1020 : Keep h1015 h1018 [] := (Keep.refl h1015 []).ext E1018
      have K1021 : Keep h1015 h1019 [] := K1020.ext E1019
      have S1022 := (S1015.keep K1021 nin0 nin0)
      have K1023 : Keep h0 h1018 [] := K1016.ext E1018
      have K1024 : Keep h0 h1019 [] := K1023.ext E1019
      have E1026 := (S1015.1.keep K1021)
      refine g_virtual C E1026 w_241 w_242 (fun hZ => nf_sel hw w_244 hZ) w_244 w_243 (by decide) [(.int (0 : Int32))] (ct_ch hEL hw S1022 (Sta_keep Szc K1024) hzc (Sta_keep Sfm K1024) hfm 0 (nb rfl) (0 : Int32) rfl) all0 (by decide) 5 (by decide) rfl pd__I_C rfl [(.int (0 : Int32)), (.ref b1019), (.ref b1019), (.ref b1018), (.ref b1018)] rfl (Nat.le_of_eq rfl) at_194 (by decide) (by decide) ?_
      intro v1025 h1025 Q1025
      obtain ⟨ev1025, e1025⟩ := Q1025
      replace e1025 := e1025.symm
      subst e1025
      replace ev1025 : v1025 = some (.int (104 : Int32)) := ev1025
      subst ev1025
      refine g_castore C V1019 (mg (i := 0) rfl) at_197 ⟨by decide, by decide⟩ 0 rfl (nb rfl) ?_
      intro h1027 W1027 V1027
      rw [nar_ch8 (by unfold Ch8; decide)] at V1027
      replace V1027 : Arv Z h1027 b1019 ka1019 .char (15 : Int32) [(.int (104 : Int32)), (.int (0 : Int32)), (.int (0 : Int32)), (.int (0 : Int32)), (.int (0 : Int32)), (.int (0 : Int32)), (.int (0 : Int32)), (.int (0 : Int32)), (.int (0 : Int32)), (.int (0 : Int32)), (.int (0 : Int32)), (.int (0 : Int32)), (.int (0 : Int32)), (.int (0 : Int32)), (.int (0 : Int32))] (.int (0 : Int32)) := V1027
      refine g_dup C at_198 rfl ?_
      refine g_iconst C 1 at_199 rfl ?_
      refine g_aload C at_200 rfl rfl ?_
      refine g_iconst C 1 at_202 rfl ?_
      have E1028 := (S1015.1.keep K1020)
      have S1029 := (S1015.keep K1020 nin0 nin0)
      have S1030 := (S1022.other W1027 (Nat.ne_of_lt (Nat.lt_of_lt_of_le E1028.lt (Nat.le_of_eq g1019.symm))) (Nat.ne_of_lt (Nat.lt_of_lt_of_le S1029.tlt (Nat.le_of_eq g1019.symm))))
      have K1031 : Keep h0 h1027 [] := K1024.wr W1027 (Or.inr (Nat.le_trans K1023.1 (Nat.le_of_eq g1019.symm)))
      have E1033 := (E1026.wr W1027)
      refine g_virtual C E1033 w_241 w_242 (fun hZ => nf_sel hw w_244 hZ) w_244 w_243 (by decide) [(.int (1 : Int32))] (ct_ch hEL hw S1030 (Sta_keep Szc K1031) hzc (Sta_keep Sfm K1031) hfm 1 (nb rfl) (1 : Int32) rfl) all0 (by decide) 5 (by decide) rfl pd__I_C rfl [(.int (1 : Int32)), (.ref b1019), (.ref b1019), (.ref b1018), (.ref b1018)] rfl (Nat.le_of_eq rfl) at_203 (by decide) (by decide) ?_
      intro v1032 h1032 Q1032
      obtain ⟨ev1032, e1032⟩ := Q1032
      replace e1032 := e1032.symm
      subst e1032
      replace ev1032 : v1032 = some (.int (111 : Int32)) := ev1032
      subst ev1032
      refine g_castore C V1027 (mg (i := 0) rfl) at_206 ⟨by decide, by decide⟩ 1 rfl (nb rfl) ?_
      intro h1034 W1034 V1034
      rw [nar_ch8 (by unfold Ch8; decide)] at V1034
      replace V1034 : Arv Z h1034 b1019 ka1019 .char (15 : Int32) [(.int (104 : Int32)), (.int (111 : Int32)), (.int (0 : Int32)), (.int (0 : Int32)), (.int (0 : Int32)), (.int (0 : Int32)), (.int (0 : Int32)), (.int (0 : Int32)), (.int (0 : Int32)), (.int (0 : Int32)), (.int (0 : Int32)), (.int (0 : Int32)), (.int (0 : Int32)), (.int (0 : Int32)), (.int (0 : Int32))] (.int (0 : Int32)) := V1034
      refine g_dup C at_207 rfl ?_
      refine g_iconst C 2 at_208 rfl ?_
      refine g_aload C at_209 rfl rfl ?_
      refine g_iconst C 2 at_211 rfl ?_
      have S1035 := (S1030.other W1034 (Nat.ne_of_lt (Nat.lt_of_lt_of_le E1028.lt (Nat.le_of_eq g1019.symm))) (Nat.ne_of_lt (Nat.lt_of_lt_of_le S1029.tlt (Nat.le_of_eq g1019.symm))))
      have K1036 : Keep h0 h1034 [] := K1031.wr W1034 (Or.inr (Nat.le_trans K1023.1 (Nat.le_of_eq g1019.symm)))
      have E1038 := (E1033.wr W1034)
      refine g_virtual C E1038 w_241 w_242 (fun hZ => nf_sel hw w_244 hZ) w_244 w_243 (by decide) [(.int (2 : Int32))] (ct_ch hEL hw S1035 (Sta_keep Szc K1036) hzc (Sta_keep Sfm K1036) hfm 2 (nb rfl) (2 : Int32) rfl) all0 (by decide) 5 (by decide) rfl pd__I_C rfl [(.int (2 : Int32)), (.ref b1019), (.ref b1019), (.ref b1018), (.ref b1018)] rfl (Nat.le_of_eq rfl) at_212 (by decide) (by decide) ?_
      intro v1037 h1037 Q1037
      obtain ⟨ev1037, e1037⟩ := Q1037
      replace e1037 := e1037.symm
      subst e1037
      replace ev1037 : v1037 = some (.int (108 : Int32)) := ev1037
      subst ev1037
      refine g_castore C V1034 (mg (i := 0) rfl) at_215 ⟨by decide, by decide⟩ 2 rfl (nb rfl) ?_
      intro h1039 W1039 V1039
      rw [nar_ch8 (by unfold Ch8; decide)] at V1039
      replace V1039 : Arv Z h1039 b1019 ka1019 .char (15 : Int32) [(.int (104 : Int32)), (.int (111 : Int32)), (.int (108 : Int32)), (.int (0 : Int32)), (.int (0 : Int32)), (.int (0 : Int32)), (.int (0 : Int32)), (.int (0 : Int32)), (.int (0 : Int32)), (.int (0 : Int32)), (.int (0 : Int32)), (.int (0 : Int32)), (.int (0 : Int32)), (.int (0 : Int32)), (.int (0 : Int32))] (.int (0 : Int32)) := V1039
      refine g_dup C at_216 rfl ?_
      refine g_iconst C 3 at_217 rfl ?_
      refine g_aload C at_218 rfl rfl ?_
      refine g_iconst C 3 at_220 rfl ?_
      have S1040 := (S1035.other W1039 (Nat.ne_of_lt (Nat.lt_of_lt_of_le E1028.lt (Nat.le_of_eq g1019.symm))) (Nat.ne_of_lt (Nat.lt_of_lt_of_le S1029.tlt (Nat.le_of_eq g1019.symm))))
      have K1041 : Keep h0 h1039 [] := K1036.wr W1039 (Or.inr (Nat.le_trans K1023.1 (Nat.le_of_eq g1019.symm)))
      have E1043 := (E1038.wr W1039)
      refine g_virtual C E1043 w_241 w_242 (fun hZ => nf_sel hw w_244 hZ) w_244 w_243 (by decide) [(.int (3 : Int32))] (ct_ch hEL hw S1040 (Sta_keep Szc K1041) hzc (Sta_keep Sfm K1041) hfm 3 (nb rfl) (3 : Int32) rfl) all0 (by decide) 5 (by decide) rfl pd__I_C rfl [(.int (3 : Int32)), (.ref b1019), (.ref b1019), (.ref b1018), (.ref b1018)] rfl (Nat.le_of_eq rfl) at_221 (by decide) (by decide) ?_
      intro v1042 h1042 Q1042
      obtain ⟨ev1042, e1042⟩ := Q1042
      replace e1042 := e1042.symm
      subst e1042
      replace ev1042 : v1042 = some (.int (100 : Int32)) := ev1042
      subst ev1042
      refine g_castore C V1039 (mg (i := 0) rfl) at_224 ⟨by decide, by decide⟩ 3 rfl (nb rfl) ?_
      intro h1044 W1044 V1044
      rw [nar_ch8 (by unfold Ch8; decide)] at V1044
      replace V1044 : Arv Z h1044 b1019 ka1019 .char (15 : Int32) [(.int (104 : Int32)), (.int (111 : Int32)), (.int (108 : Int32)), (.int (100 : Int32)), (.int (0 : Int32)), (.int (0 : Int32)), (.int (0 : Int32)), (.int (0 : Int32)), (.int (0 : Int32)), (.int (0 : Int32)), (.int (0 : Int32)), (.int (0 : Int32)), (.int (0 : Int32)), (.int (0 : Int32)), (.int (0 : Int32))] (.int (0 : Int32)) := V1044
      refine g_dup C at_225 rfl ?_
      refine g_iconst C 4 at_226 rfl ?_
      refine g_aload C at_227 rfl rfl ?_
      refine g_iconst C 4 at_229 rfl ?_
      have S1045 := (S1040.other W1044 (Nat.ne_of_lt (Nat.lt_of_lt_of_le E1028.lt (Nat.le_of_eq g1019.symm))) (Nat.ne_of_lt (Nat.lt_of_lt_of_le S1029.tlt (Nat.le_of_eq g1019.symm))))
      have K1046 : Keep h0 h1044 [] := K1041.wr W1044 (Or.inr (Nat.le_trans K1023.1 (Nat.le_of_eq g1019.symm)))
      have E1048 := (E1043.wr W1044)
      refine g_virtual C E1048 w_241 w_242 (fun hZ => nf_sel hw w_244 hZ) w_244 w_243 (by decide) [(.int (4 : Int32))] (ct_ch hEL hw S1045 (Sta_keep Szc K1046) hzc (Sta_keep Sfm K1046) hfm 4 (nb rfl) (4 : Int32) rfl) all0 (by decide) 5 (by decide) rfl pd__I_C rfl [(.int (4 : Int32)), (.ref b1019), (.ref b1019), (.ref b1018), (.ref b1018)] rfl (Nat.le_of_eq rfl) at_230 (by decide) (by decide) ?_
      intro v1047 h1047 Q1047
      obtain ⟨ev1047, e1047⟩ := Q1047
      replace e1047 := e1047.symm
      subst e1047
      replace ev1047 : v1047 = some (.int (102 : Int32)) := ev1047
      subst ev1047
      refine g_castore C V1044 (mg (i := 0) rfl) at_233 ⟨by decide, by decide⟩ 4 rfl (nb rfl) ?_
      intro h1049 W1049 V1049
      rw [nar_ch8 (by unfold Ch8; decide)] at V1049
      replace V1049 : Arv Z h1049 b1019 ka1019 .char (15 : Int32) [(.int (104 : Int32)), (.int (111 : Int32)), (.int (108 : Int32)), (.int (100 : Int32)), (.int (102 : Int32)), (.int (0 : Int32)), (.int (0 : Int32)), (.int (0 : Int32)), (.int (0 : Int32)), (.int (0 : Int32)), (.int (0 : Int32)), (.int (0 : Int32)), (.int (0 : Int32)), (.int (0 : Int32)), (.int (0 : Int32))] (.int (0 : Int32)) := V1049
      refine g_dup C at_234 rfl ?_
      refine g_iconst C 5 at_235 rfl ?_
      refine g_aload C at_236 rfl rfl ?_
      refine g_iconst C 5 at_238 rfl ?_
      have S1050 := (S1045.other W1049 (Nat.ne_of_lt (Nat.lt_of_lt_of_le E1028.lt (Nat.le_of_eq g1019.symm))) (Nat.ne_of_lt (Nat.lt_of_lt_of_le S1029.tlt (Nat.le_of_eq g1019.symm))))
      have K1051 : Keep h0 h1049 [] := K1046.wr W1049 (Or.inr (Nat.le_trans K1023.1 (Nat.le_of_eq g1019.symm)))
      have E1053 := (E1048.wr W1049)
      refine g_virtual C E1053 w_241 w_242 (fun hZ => nf_sel hw w_244 hZ) w_244 w_243 (by decide) [(.int (5 : Int32))] (ct_ch hEL hw S1050 (Sta_keep Szc K1051) hzc (Sta_keep Sfm K1051) hfm 5 (nb rfl) (5 : Int32) rfl) all0 (by decide) 5 (by decide) rfl pd__I_C rfl [(.int (5 : Int32)), (.ref b1019), (.ref b1019), (.ref b1018), (.ref b1018)] rfl (Nat.le_of_eq rfl) at_239 (by decide) (by decide) ?_
      intro v1052 h1052 Q1052
      obtain ⟨ev1052, e1052⟩ := Q1052
      replace e1052 := e1052.symm
      subst e1052
      replace ev1052 : v1052 = some (.int (97 : Int32)) := ev1052
      subst ev1052
      refine g_castore C V1049 (mg (i := 0) rfl) at_242 ⟨by decide, by decide⟩ 5 rfl (nb rfl) ?_
      intro h1054 W1054 V1054
      rw [nar_ch8 (by unfold Ch8; decide)] at V1054
      replace V1054 : Arv Z h1054 b1019 ka1019 .char (15 : Int32) [(.int (104 : Int32)), (.int (111 : Int32)), (.int (108 : Int32)), (.int (100 : Int32)), (.int (102 : Int32)), (.int (97 : Int32)), (.int (0 : Int32)), (.int (0 : Int32)), (.int (0 : Int32)), (.int (0 : Int32)), (.int (0 : Int32)), (.int (0 : Int32)), (.int (0 : Int32)), (.int (0 : Int32)), (.int (0 : Int32))] (.int (0 : Int32)) := V1054
      refine g_dup C at_243 rfl ?_
      refine g_bipush C 6 at_244 rfl ?_
      refine g_aload C at_246 rfl rfl ?_
      refine g_bipush C 6 at_248 rfl ?_
      have S1055 := (S1050.other W1054 (Nat.ne_of_lt (Nat.lt_of_lt_of_le E1028.lt (Nat.le_of_eq g1019.symm))) (Nat.ne_of_lt (Nat.lt_of_lt_of_le S1029.tlt (Nat.le_of_eq g1019.symm))))
      have K1056 : Keep h0 h1054 [] := K1051.wr W1054 (Or.inr (Nat.le_trans K1023.1 (Nat.le_of_eq g1019.symm)))
      have E1058 := (E1053.wr W1054)
      refine g_virtual C E1058 w_241 w_242 (fun hZ => nf_sel hw w_244 hZ) w_244 w_243 (by decide) [(.int (6 : Int32))] (ct_ch hEL hw S1055 (Sta_keep Szc K1056) hzc (Sta_keep Sfm K1056) hfm 6 (nb rfl) (6 : Int32) rfl) all0 (by decide) 5 (by decide) rfl pd__I_C rfl [(.int (6 : Int32)), (.ref b1019), (.ref b1019), (.ref b1018), (.ref b1018)] rfl (Nat.le_of_eq rfl) at_250 (by decide) (by decide) ?_
      intro v1057 h1057 Q1057
      obtain ⟨ev1057, e1057⟩ := Q1057
      replace e1057 := e1057.symm
      subst e1057
      replace ev1057 : v1057 = some (.int (115 : Int32)) := ev1057
      subst ev1057
      refine g_castore C V1054 (mg (i := 0) rfl) at_253 ⟨by decide, by decide⟩ 6 rfl (nb rfl) ?_
      intro h1059 W1059 V1059
      rw [nar_ch8 (by unfold Ch8; decide)] at V1059
      replace V1059 : Arv Z h1059 b1019 ka1019 .char (15 : Int32) [(.int (104 : Int32)), (.int (111 : Int32)), (.int (108 : Int32)), (.int (100 : Int32)), (.int (102 : Int32)), (.int (97 : Int32)), (.int (115 : Int32)), (.int (0 : Int32)), (.int (0 : Int32)), (.int (0 : Int32)), (.int (0 : Int32)), (.int (0 : Int32)), (.int (0 : Int32)), (.int (0 : Int32)), (.int (0 : Int32))] (.int (0 : Int32)) := V1059
      refine g_dup C at_254 rfl ?_
      refine g_bipush C 7 at_255 rfl ?_
      refine g_aload C at_257 rfl rfl ?_
      refine g_bipush C 7 at_259 rfl ?_
      have S1060 := (S1055.other W1059 (Nat.ne_of_lt (Nat.lt_of_lt_of_le E1028.lt (Nat.le_of_eq g1019.symm))) (Nat.ne_of_lt (Nat.lt_of_lt_of_le S1029.tlt (Nat.le_of_eq g1019.symm))))
      have K1061 : Keep h0 h1059 [] := K1056.wr W1059 (Or.inr (Nat.le_trans K1023.1 (Nat.le_of_eq g1019.symm)))
      have E1063 := (E1058.wr W1059)
      refine g_virtual C E1063 w_241 w_242 (fun hZ => nf_sel hw w_244 hZ) w_244 w_243 (by decide) [(.int (7 : Int32))] (ct_ch hEL hw S1060 (Sta_keep Szc K1061) hzc (Sta_keep Sfm K1061) hfm 7 (nb rfl) (7 : Int32) rfl) all0 (by decide) 5 (by decide) rfl pd__I_C rfl [(.int (7 : Int32)), (.ref b1019), (.ref b1019), (.ref b1018), (.ref b1018)] rfl (Nat.le_of_eq rfl) at_261 (by decide) (by decide) ?_
      intro v1062 h1062 Q1062
      obtain ⟨ev1062, e1062⟩ := Q1062
      replace e1062 := e1062.symm
      subst e1062
      replace ev1062 : v1062 = some (.int (116 : Int32)) := ev1062
      subst ev1062
      refine g_castore C V1059 (mg (i := 0) rfl) at_264 ⟨by decide, by decide⟩ 7 rfl (nb rfl) ?_
      intro h1064 W1064 V1064
      rw [nar_ch8 (by unfold Ch8; decide)] at V1064
      replace V1064 : Arv Z h1064 b1019 ka1019 .char (15 : Int32) [(.int (104 : Int32)), (.int (111 : Int32)), (.int (108 : Int32)), (.int (100 : Int32)), (.int (102 : Int32)), (.int (97 : Int32)), (.int (115 : Int32)), (.int (116 : Int32)), (.int (0 : Int32)), (.int (0 : Int32)), (.int (0 : Int32)), (.int (0 : Int32)), (.int (0 : Int32)), (.int (0 : Int32)), (.int (0 : Int32))] (.int (0 : Int32)) := V1064
      refine g_dup C at_265 rfl ?_
      refine g_bipush C 8 at_266 rfl ?_
      refine g_aload C at_268 rfl rfl ?_
      refine g_bipush C 8 at_270 rfl ?_
      have S1065 := (S1060.other W1064 (Nat.ne_of_lt (Nat.lt_of_lt_of_le E1028.lt (Nat.le_of_eq g1019.symm))) (Nat.ne_of_lt (Nat.lt_of_lt_of_le S1029.tlt (Nat.le_of_eq g1019.symm))))
      have K1066 : Keep h0 h1064 [] := K1061.wr W1064 (Or.inr (Nat.le_trans K1023.1 (Nat.le_of_eq g1019.symm)))
      have E1068 := (E1063.wr W1064)
      refine g_virtual C E1068 w_241 w_242 (fun hZ => nf_sel hw w_244 hZ) w_244 w_243 (by decide) [(.int (8 : Int32))] (ct_ch hEL hw S1065 (Sta_keep Szc K1066) hzc (Sta_keep Sfm K1066) hfm 8 (nb rfl) (8 : Int32) rfl) all0 (by decide) 5 (by decide) rfl pd__I_C rfl [(.int (8 : Int32)), (.ref b1019), (.ref b1019), (.ref b1018), (.ref b1018)] rfl (Nat.le_of_eq rfl) at_272 (by decide) (by decide) ?_
      intro v1067 h1067 Q1067
      obtain ⟨ev1067, e1067⟩ := Q1067
      replace e1067 := e1067.symm
      subst e1067
      replace ev1067 : v1067 = some (.int (58 : Int32)) := ev1067
      subst ev1067
      refine g_castore C V1064 (mg (i := 0) rfl) at_275 ⟨by decide, by decide⟩ 8 rfl (nb rfl) ?_
      intro h1069 W1069 V1069
      rw [nar_ch8 (by unfold Ch8; decide)] at V1069
      replace V1069 : Arv Z h1069 b1019 ka1019 .char (15 : Int32) [(.int (104 : Int32)), (.int (111 : Int32)), (.int (108 : Int32)), (.int (100 : Int32)), (.int (102 : Int32)), (.int (97 : Int32)), (.int (115 : Int32)), (.int (116 : Int32)), (.int (58 : Int32)), (.int (0 : Int32)), (.int (0 : Int32)), (.int (0 : Int32)), (.int (0 : Int32)), (.int (0 : Int32)), (.int (0 : Int32))] (.int (0 : Int32)) := V1069
      refine g_dup C at_276 rfl ?_
      refine g_bipush C 9 at_277 rfl ?_
      refine g_aload C at_279 rfl rfl ?_
      refine g_bipush C 9 at_281 rfl ?_
      have S1070 := (S1065.other W1069 (Nat.ne_of_lt (Nat.lt_of_lt_of_le E1028.lt (Nat.le_of_eq g1019.symm))) (Nat.ne_of_lt (Nat.lt_of_lt_of_le S1029.tlt (Nat.le_of_eq g1019.symm))))
      have K1071 : Keep h0 h1069 [] := K1066.wr W1069 (Or.inr (Nat.le_trans K1023.1 (Nat.le_of_eq g1019.symm)))
      have E1073 := (E1068.wr W1069)
      refine g_virtual C E1073 w_241 w_242 (fun hZ => nf_sel hw w_244 hZ) w_244 w_243 (by decide) [(.int (9 : Int32))] (ct_ch hEL hw S1070 (Sta_keep Szc K1071) hzc (Sta_keep Sfm K1071) hfm 9 (nb rfl) (9 : Int32) rfl) all0 (by decide) 5 (by decide) rfl pd__I_C rfl [(.int (9 : Int32)), (.ref b1019), (.ref b1019), (.ref b1018), (.ref b1018)] rfl (Nat.le_of_eq rfl) at_283 (by decide) (by decide) ?_
      intro v1072 h1072 Q1072
      obtain ⟨ev1072, e1072⟩ := Q1072
      replace e1072 := e1072.symm
      subst e1072
      replace ev1072 : v1072 = some (.int (99 : Int32)) := ev1072
      subst ev1072
      refine g_castore C V1069 (mg (i := 0) rfl) at_286 ⟨by decide, by decide⟩ 9 rfl (nb rfl) ?_
      intro h1074 W1074 V1074
      rw [nar_ch8 (by unfold Ch8; decide)] at V1074
      replace V1074 : Arv Z h1074 b1019 ka1019 .char (15 : Int32) [(.int (104 : Int32)), (.int (111 : Int32)), (.int (108 : Int32)), (.int (100 : Int32)), (.int (102 : Int32)), (.int (97 : Int32)), (.int (115 : Int32)), (.int (116 : Int32)), (.int (58 : Int32)), (.int (99 : Int32)), (.int (0 : Int32)), (.int (0 : Int32)), (.int (0 : Int32)), (.int (0 : Int32)), (.int (0 : Int32))] (.int (0 : Int32)) := V1074
      refine g_dup C at_287 rfl ?_
      refine g_bipush C 10 at_288 rfl ?_
      refine g_aload C at_290 rfl rfl ?_
      refine g_bipush C 10 at_292 rfl ?_
      have S1075 := (S1070.other W1074 (Nat.ne_of_lt (Nat.lt_of_lt_of_le E1028.lt (Nat.le_of_eq g1019.symm))) (Nat.ne_of_lt (Nat.lt_of_lt_of_le S1029.tlt (Nat.le_of_eq g1019.symm))))
      have K1076 : Keep h0 h1074 [] := K1071.wr W1074 (Or.inr (Nat.le_trans K1023.1 (Nat.le_of_eq g1019.symm)))
      have E1078 := (E1073.wr W1074)
      refine g_virtual C E1078 w_241 w_242 (fun hZ => nf_sel hw w_244 hZ) w_244 w_243 (by decide) [(.int (10 : Int32))] (ct_ch hEL hw S1075 (Sta_keep Szc K1076) hzc (Sta_keep Sfm K1076) hfm 10 (nb rfl) (10 : Int32) rfl) all0 (by decide) 5 (by decide) rfl pd__I_C rfl [(.int (10 : Int32)), (.ref b1019), (.ref b1019), (.ref b1018), (.ref b1018)] rfl (Nat.le_of_eq rfl) at_294 (by decide) (by decide) ?_
      intro v1077 h1077 Q1077
      obtain ⟨ev1077, e1077⟩ := Q1077
      replace e1077 := e1077.symm
      subst e1077
      replace ev1077 : v1077 = some (.int (97 : Int32)) := ev1077
      subst ev1077
      refine g_castore C V1074 (mg (i := 0) rfl) at_297 ⟨by decide, by decide⟩ 10 rfl (nb rfl) ?_
      intro h1079 W1079 V1079
      rw [nar_ch8 (by unfold Ch8; decide)] at V1079
      replace V1079 : Arv Z h1079 b1019 ka1019 .char (15 : Int32) [(.int (104 : Int32)), (.int (111 : Int32)), (.int (108 : Int32)), (.int (100 : Int32)), (.int (102 : Int32)), (.int (97 : Int32)), (.int (115 : Int32)), (.int (116 : Int32)), (.int (58 : Int32)), (.int (99 : Int32)), (.int (97 : Int32)), (.int (0 : Int32)), (.int (0 : Int32)), (.int (0 : Int32)), (.int (0 : Int32))] (.int (0 : Int32)) := V1079
      refine g_dup C at_298 rfl ?_
      refine g_bipush C 11 at_299 rfl ?_
      refine g_aload C at_301 rfl rfl ?_
      refine g_bipush C 11 at_303 rfl ?_
      have S1080 := (S1075.other W1079 (Nat.ne_of_lt (Nat.lt_of_lt_of_le E1028.lt (Nat.le_of_eq g1019.symm))) (Nat.ne_of_lt (Nat.lt_of_lt_of_le S1029.tlt (Nat.le_of_eq g1019.symm))))
      have K1081 : Keep h0 h1079 [] := K1076.wr W1079 (Or.inr (Nat.le_trans K1023.1 (Nat.le_of_eq g1019.symm)))
      have E1083 := (E1078.wr W1079)
      refine g_virtual C E1083 w_241 w_242 (fun hZ => nf_sel hw w_244 hZ) w_244 w_243 (by decide) [(.int (11 : Int32))] (ct_ch hEL hw S1080 (Sta_keep Szc K1081) hzc (Sta_keep Sfm K1081) hfm 11 (nb rfl) (11 : Int32) rfl) all0 (by decide) 5 (by decide) rfl pd__I_C rfl [(.int (11 : Int32)), (.ref b1019), (.ref b1019), (.ref b1018), (.ref b1018)] rfl (Nat.le_of_eq rfl) at_305 (by decide) (by decide) ?_
      intro v1082 h1082 Q1082
      obtain ⟨ev1082, e1082⟩ := Q1082
      replace e1082 := e1082.symm
      subst e1082
      replace ev1082 : v1082 = some (.int (108 : Int32)) := ev1082
      subst ev1082
      refine g_castore C V1079 (mg (i := 0) rfl) at_308 ⟨by decide, by decide⟩ 11 rfl (nb rfl) ?_
      intro h1084 W1084 V1084
      rw [nar_ch8 (by unfold Ch8; decide)] at V1084
      replace V1084 : Arv Z h1084 b1019 ka1019 .char (15 : Int32) [(.int (104 : Int32)), (.int (111 : Int32)), (.int (108 : Int32)), (.int (100 : Int32)), (.int (102 : Int32)), (.int (97 : Int32)), (.int (115 : Int32)), (.int (116 : Int32)), (.int (58 : Int32)), (.int (99 : Int32)), (.int (97 : Int32)), (.int (108 : Int32)), (.int (0 : Int32)), (.int (0 : Int32)), (.int (0 : Int32))] (.int (0 : Int32)) := V1084
      refine g_dup C at_309 rfl ?_
      refine g_bipush C 12 at_310 rfl ?_
      refine g_aload C at_312 rfl rfl ?_
      refine g_bipush C 12 at_314 rfl ?_
      have S1085 := (S1080.other W1084 (Nat.ne_of_lt (Nat.lt_of_lt_of_le E1028.lt (Nat.le_of_eq g1019.symm))) (Nat.ne_of_lt (Nat.lt_of_lt_of_le S1029.tlt (Nat.le_of_eq g1019.symm))))
      have K1086 : Keep h0 h1084 [] := K1081.wr W1084 (Or.inr (Nat.le_trans K1023.1 (Nat.le_of_eq g1019.symm)))
      have E1088 := (E1083.wr W1084)
      refine g_virtual C E1088 w_241 w_242 (fun hZ => nf_sel hw w_244 hZ) w_244 w_243 (by decide) [(.int (12 : Int32))] (ct_ch hEL hw S1085 (Sta_keep Szc K1086) hzc (Sta_keep Sfm K1086) hfm 12 (nb rfl) (12 : Int32) rfl) all0 (by decide) 5 (by decide) rfl pd__I_C rfl [(.int (12 : Int32)), (.ref b1019), (.ref b1019), (.ref b1018), (.ref b1018)] rfl (Nat.le_of_eq rfl) at_316 (by decide) (by decide) ?_
      intro v1087 h1087 Q1087
      obtain ⟨ev1087, e1087⟩ := Q1087
      replace e1087 := e1087.symm
      subst e1087
      replace ev1087 : v1087 = some (.int (108 : Int32)) := ev1087
      subst ev1087
      refine g_castore C V1084 (mg (i := 0) rfl) at_319 ⟨by decide, by decide⟩ 12 rfl (nb rfl) ?_
      intro h1089 W1089 V1089
      rw [nar_ch8 (by unfold Ch8; decide)] at V1089
      replace V1089 : Arv Z h1089 b1019 ka1019 .char (15 : Int32) [(.int (104 : Int32)), (.int (111 : Int32)), (.int (108 : Int32)), (.int (100 : Int32)), (.int (102 : Int32)), (.int (97 : Int32)), (.int (115 : Int32)), (.int (116 : Int32)), (.int (58 : Int32)), (.int (99 : Int32)), (.int (97 : Int32)), (.int (108 : Int32)), (.int (108 : Int32)), (.int (0 : Int32)), (.int (0 : Int32))] (.int (0 : Int32)) := V1089
      refine g_dup C at_320 rfl ?_
      refine g_bipush C 13 at_321 rfl ?_
      refine g_aload C at_323 rfl rfl ?_
      refine g_bipush C 13 at_325 rfl ?_
      have S1090 := (S1085.other W1089 (Nat.ne_of_lt (Nat.lt_of_lt_of_le E1028.lt (Nat.le_of_eq g1019.symm))) (Nat.ne_of_lt (Nat.lt_of_lt_of_le S1029.tlt (Nat.le_of_eq g1019.symm))))
      have K1091 : Keep h0 h1089 [] := K1086.wr W1089 (Or.inr (Nat.le_trans K1023.1 (Nat.le_of_eq g1019.symm)))
      have E1093 := (E1088.wr W1089)
      refine g_virtual C E1093 w_241 w_242 (fun hZ => nf_sel hw w_244 hZ) w_244 w_243 (by decide) [(.int (13 : Int32))] (ct_ch hEL hw S1090 (Sta_keep Szc K1091) hzc (Sta_keep Sfm K1091) hfm 13 (nb rfl) (13 : Int32) rfl) all0 (by decide) 5 (by decide) rfl pd__I_C rfl [(.int (13 : Int32)), (.ref b1019), (.ref b1019), (.ref b1018), (.ref b1018)] rfl (Nat.le_of_eq rfl) at_327 (by decide) (by decide) ?_
      intro v1092 h1092 Q1092
      obtain ⟨ev1092, e1092⟩ := Q1092
      replace e1092 := e1092.symm
      subst e1092
      replace ev1092 : v1092 = some (.int (58 : Int32)) := ev1092
      subst ev1092
      refine g_castore C V1089 (mg (i := 0) rfl) at_330 ⟨by decide, by decide⟩ 13 rfl (nb rfl) ?_
      intro h1094 W1094 V1094
      rw [nar_ch8 (by unfold Ch8; decide)] at V1094
      replace V1094 : Arv Z h1094 b1019 ka1019 .char (15 : Int32) [(.int (104 : Int32)), (.int (111 : Int32)), (.int (108 : Int32)), (.int (100 : Int32)), (.int (102 : Int32)), (.int (97 : Int32)), (.int (115 : Int32)), (.int (116 : Int32)), (.int (58 : Int32)), (.int (99 : Int32)), (.int (97 : Int32)), (.int (108 : Int32)), (.int (108 : Int32)), (.int (58 : Int32)), (.int (0 : Int32))] (.int (0 : Int32)) := V1094
      refine g_dup C at_331 rfl ?_
      refine g_bipush C 14 at_332 rfl ?_
      refine g_aload C at_334 rfl rfl ?_
      refine g_bipush C 14 at_336 rfl ?_
      have S1095 := (S1090.other W1094 (Nat.ne_of_lt (Nat.lt_of_lt_of_le E1028.lt (Nat.le_of_eq g1019.symm))) (Nat.ne_of_lt (Nat.lt_of_lt_of_le S1029.tlt (Nat.le_of_eq g1019.symm))))
      have K1096 : Keep h0 h1094 [] := K1091.wr W1094 (Or.inr (Nat.le_trans K1023.1 (Nat.le_of_eq g1019.symm)))
      have E1098 := (E1093.wr W1094)
      refine g_virtual C E1098 w_241 w_242 (fun hZ => nf_sel hw w_244 hZ) w_244 w_243 (by decide) [(.int (14 : Int32))] (ct_ch hEL hw S1095 (Sta_keep Szc K1096) hzc (Sta_keep Sfm K1096) hfm 14 (nb rfl) (14 : Int32) rfl) all0 (by decide) 5 (by decide) rfl pd__I_C rfl [(.int (14 : Int32)), (.ref b1019), (.ref b1019), (.ref b1018), (.ref b1018)] rfl (Nat.le_of_eq rfl) at_338 (by decide) (by decide) ?_
      intro v1097 h1097 Q1097
      obtain ⟨ev1097, e1097⟩ := Q1097
      replace e1097 := e1097.symm
      subst e1097
      replace ev1097 : v1097 = some (.int (123 : Int32)) := ev1097
      subst ev1097
      refine g_castore C V1094 (mg (i := 0) rfl) at_341 ⟨by decide, by decide⟩ 14 rfl (nb rfl) ?_
      intro h1099 W1099 V1099
      rw [nar_ch8 (by unfold Ch8; decide)] at V1099
      replace V1099 : Arv Z h1099 b1019 ka1019 .char (15 : Int32) [(.int (104 : Int32)), (.int (111 : Int32)), (.int (108 : Int32)), (.int (100 : Int32)), (.int (102 : Int32)), (.int (97 : Int32)), (.int (115 : Int32)), (.int (116 : Int32)), (.int (58 : Int32)), (.int (99 : Int32)), (.int (97 : Int32)), (.int (108 : Int32)), (.int (108 : Int32)), (.int (58 : Int32)), (.int (123 : Int32))] (.int (0 : Int32)) := V1099
      have K1100 : Keep h1018 h1019 [] := (Keep.refl h1018 []).ext E1019
      have K1101 : Keep h1018 h1027 [] := K1100.wr W1027 (Or.inr (Nat.le_of_eq g1019.symm))
      have K1102 : Keep h1018 h1034 [] := K1101.wr W1034 (Or.inr (Nat.le_of_eq g1019.symm))
      have K1103 : Keep h1018 h1039 [] := K1102.wr W1039 (Or.inr (Nat.le_of_eq g1019.symm))
      have K1104 : Keep h1018 h1044 [] := K1103.wr W1044 (Or.inr (Nat.le_of_eq g1019.symm))
      have K1105 : Keep h1018 h1049 [] := K1104.wr W1049 (Or.inr (Nat.le_of_eq g1019.symm))
      have K1106 : Keep h1018 h1054 [] := K1105.wr W1054 (Or.inr (Nat.le_of_eq g1019.symm))
      have K1107 : Keep h1018 h1059 [] := K1106.wr W1059 (Or.inr (Nat.le_of_eq g1019.symm))
      have K1108 : Keep h1018 h1064 [] := K1107.wr W1064 (Or.inr (Nat.le_of_eq g1019.symm))
      have K1109 : Keep h1018 h1069 [] := K1108.wr W1069 (Or.inr (Nat.le_of_eq g1019.symm))
      have K1110 : Keep h1018 h1074 [] := K1109.wr W1074 (Or.inr (Nat.le_of_eq g1019.symm))
      have K1111 : Keep h1018 h1079 [] := K1110.wr W1079 (Or.inr (Nat.le_of_eq g1019.symm))
      have K1112 : Keep h1018 h1084 [] := K1111.wr W1084 (Or.inr (Nat.le_of_eq g1019.symm))
      have K1113 : Keep h1018 h1089 [] := K1112.wr W1089 (Or.inr (Nat.le_of_eq g1019.symm))
      have K1114 : Keep h1018 h1094 [] := K1113.wr W1094 (Or.inr (Nat.le_of_eq g1019.symm))
      have K1115 : Keep h1018 h1099 [] := K1114.wr W1099 (Or.inr (Nat.le_of_eq g1019.symm))
      have E1116 := (A1018.keep K1115)
      have F1117 := ((D1018 (Or.inr (C.hw w_27)) (ty := (.array .byte)) (by decide)).keep K1115 nin0)
      have F1118 := ((D1018 (Or.inr (C.hw w_29)) (ty := .byte) (by decide)).keep K1115 nin0)
      have K1119 : Keep h0 h1099 [] := K1096.wr W1099 (Or.inr (Nat.le_trans K1023.1 (Nat.le_of_eq g1019.symm)))
      refine g_special C (a := b1018) w_255 w_256 w_257 rfl (by decide) [(.ref b1019)] (ct_newS hEL hw (cs := [(104 : Int32), (111 : Int32), (108 : Int32), (100 : Int32), (102 : Int32), (97 : Int32), (115 : Int32), (116 : Int32), (58 : Int32), (99 : Int32), (97 : Int32), (108 : Int32), (108 : Int32), (58 : Int32), (123 : Int32)]) (n := 15) E1116 F1117 F1118 V1099 (Sta_keep Szc K1119) hzc rfl (by decide) (by decide) (own_allc (by unfold Ch8; decide) (own_allc (by unfold Ch8; decide) (own_allc (by unfold Ch8; decide) (own_allc (by unfold Ch8; decide) (own_allc (by unfold Ch8; decide) (own_allc (by unfold Ch8; decide) (own_allc (by unfold Ch8; decide) (own_allc (by unfold Ch8; decide) (own_allc (by unfold Ch8; decide) (own_allc (by unfold Ch8; decide) (own_allc (by unfold Ch8; decide) (own_allc (by unfold Ch8; decide) (own_allc (by unfold Ch8; decide) (own_allc (by unfold Ch8; decide) (own_allc (by unfold Ch8; decide) (fun _ q => nomatch q))))))))))))))))) (allS (mg (i := 1) rfl) all0) (by decide) 1 (by decide) rfl pd___C_V rfl [(.ref b1018)] rfl (Nat.le_of_eq rfl) at_342 (by decide) (by decide) ?_
      intro v1120 h1120 Q1120
      obtain ⟨rfl, KC1120, t1120, kb1120, ht1120, htx1120, S1120⟩ := Q1120
      refine g_astore C #[.val (.int i1), .val (.int i2), .val (.int i3), .val (.int (1 : Int32)), .val (.int z730), .val (.int z731), .val (.ref a732), .val (.int (2 : Int32)), .val (.int c8), .val (.int c9), .val (.ref b988), .val (.ref a1011), .val (.ref a1015), .val (.ref b1018)] at_345 rfl rfl ?_
      refine g_aload C at_347 rfl rfl ?_
      refine g_ldcS C hEL w_271 own_sA (mg (i := 17) rfl) [104, 111, 108, 100, 102, 97, 115, 116, 58, 99, 97, 108, 108, 58, 123] ⟨by decide +kernel, by decide +kernel⟩ (by decide) (by decide) at_349 60 (by decide +kernel) (by decide) (by decide) (by decide) ?_
      intro a1121 t1121 kb1121 h1121 E1121 S1121 X1121
      have K1122 : Keep h1120 h1121 [] := (Keep.refl h1120 []).ext E1121
      have S1123 := (S1120.keep K1122 nin0 nin0)
      have K1124 : Keep h0 h1120 [] := K1119.trans KC1120 (allS (Or.inr (Nat.le_trans K1016.1 (Nat.le_of_eq g1018.symm))) all0)
      have K1125 : Keep h0 h1121 [] := K1124.ext E1121
      have E1127 := (S1120.1.keep K1122)
      refine g_virtual C E1127 w_272 w_273 (fun hZ => nf_sel hw w_275 hZ) w_275 w_274 (by decide) [(.ref a1121)] (ct_eq hEL hw S1123 S1121 (Sta_keep Szc K1125) hzc) all0 (by decide) 0 (by decide) rfl pd__Ljava_lang_Object__Z rfl [] rfl (Nat.le_of_eq rfl) at_351 (by decide) (by decide) ?_
      intro v1126 h1126 Q1126
      obtain ⟨ev1126, e1126⟩ := Q1126
      replace e1126 := e1126.symm
      subst e1126
      replace ev1126 : v1126 = some (.int (1 : Int32)) := ev1126.trans (by rw [if_pos rfl])
      subst ev1126
      refine g_if_t C 359 at_354 (XT.i0_ne_t (by decide)) (by decide) (by decide) ?_
      refine g_aload C at_359 rfl rfl ?_
      refine g_bipush C 15 at_361 rfl ?_
      have S1128 := (((S1095.other W1099 (Nat.ne_of_lt (Nat.lt_of_lt_of_le E1028.lt (Nat.le_of_eq g1019.symm))) (Nat.ne_of_lt (Nat.lt_of_lt_of_le S1029.tlt (Nat.le_of_eq g1019.symm)))).keep KC1120 (ninS (Nat.ne_of_lt (Nat.lt_of_lt_of_le S1015.1.lt (Nat.le_of_eq g1018.symm))) nin0) (ninS (Nat.ne_of_lt (Nat.lt_of_lt_of_le S1015.tlt (Nat.le_of_eq g1018.symm))) nin0)).ext E1121)
      have E1130 := (((E1098.wr W1099).keep KC1120).ext E1121)
      refine g_virtual C E1130 w_241 w_242 (fun hZ => nf_sel hw w_244 hZ) w_244 w_243 (by decide) [(.int (15 : Int32))] (ct_ch hEL hw S1128 (Sta_keep Szc K1125) hzc (Sta_keep Sfm K1125) hfm 15 (nb rfl) (15 : Int32) rfl) all0 (by decide) 0 (by decide) rfl pd__I_C rfl [] rfl (Nat.le_of_eq rfl) at_363 (by decide) (by decide) ?_
      intro v1129 h1129 Q1129
      obtain ⟨ev1129, e1129⟩ := Q1129
      replace e1129 := e1129.symm
      subst e1129
      replace ev1129 : v1129 = some (.int z730) := ev1129
      subst ev1129
      refine g_iload C at_366 rfl ?_
      refine g_icmp_t C 373 at_368 (XT.ii_eq_t rfl) (by decide) (by decide) ?_
      refine g_iloadN C at_373 rfl ?_
      refine g_iconst C 2 at_374 rfl ?_
      refine g_icmp_t C 392 at_375 (XT.ii_ne_t (by decide)) (by decide) (by decide) ?_
      refine g_aload C at_392 rfl rfl ?_
      refine g_bipush C 15 at_394 rfl ?_
      refine g_iloadN C at_396 rfl ?_
      refine g_iadd C at_397 ?_
      rw [show ((15 : Int32) + (1 : Int32)) = (16 : Int32) from by decide]
      refine g_virtual C E1130 w_241 w_242 (fun hZ => nf_sel hw w_244 hZ) w_244 w_243 (by decide) [(.int (16 : Int32))] (ct_ch hEL hw S1128 (Sta_keep Szc K1125) hzc (Sta_keep Sfm K1125) hfm 16 (nb rfl) (16 : Int32) rfl) all0 (by decide) 0 (by decide) rfl pd__I_C rfl [] rfl (Nat.le_of_eq rfl) at_398 (by decide) (by decide) ?_
      intro v1131 h1131 Q1131
      obtain ⟨ev1131, e1131⟩ := Q1131
      replace e1131 := e1131.symm
      subst e1131
      replace ev1131 : v1131 = some (.int (125 : Int32)) := ev1131
      subst ev1131
      refine g_bipush C 125 at_401 rfl ?_
      refine g_icmp_f C at_403 (XT.ii_ne_f (by decide)) ?_
      refine g_aload C at_406 rfl rfl ?_
      refine g_bipush C 16 at_408 rfl ?_
      refine g_iloadN C at_410 rfl ?_
      refine g_iadd C at_411 ?_
      rw [show ((16 : Int32) + (1 : Int32)) = (17 : Int32) from by decide]
      refine g_virtual C E1130 w_241 w_242 (fun hZ => nf_sel hw w_244 hZ) w_244 w_243 (by decide) [(.int (17 : Int32))] (ct_ch hEL hw S1128 (Sta_keep Szc K1125) hzc (Sta_keep Sfm K1125) hfm 17 (nb rfl) (17 : Int32) rfl) all0 (by decide) 0 (by decide) rfl pd__I_C rfl [] rfl (Nat.le_of_eq rfl) at_412 (by decide) (by decide) ?_
      intro v1132 h1132 Q1132
      obtain ⟨ev1132, e1132⟩ := Q1132
      replace e1132 := e1132.symm
      subst e1132
      replace ev1132 : v1132 = some (.int (58 : Int32)) := ev1132
      subst ev1132
      refine g_bipush C 58 at_415 rfl ?_
      refine g_icmp_t C 422 at_417 (XT.ii_eq_t (by decide)) (by decide) (by decide) ?_
      refine g_iload C at_422 rfl ?_
      refine g_iconst C 1 at_424 rfl ?_
      refine g_icmp_f C at_425 (XT.ii_lt_f (by decide)) ?_
      refine g_aload C at_428 rfl rfl ?_
      refine g_bipush C 17 at_430 rfl ?_
      refine g_iloadN C at_432 rfl ?_
      refine g_iadd C at_433 ?_
      rw [show ((17 : Int32) + (1 : Int32)) = (18 : Int32) from by decide]
      refine g_virtual C E1130 w_241 w_242 (fun hZ => nf_sel hw w_244 hZ) w_244 w_243 (by decide) [(.int (18 : Int32))] (ct_ch hEL hw S1128 (Sta_keep Szc K1125) hzc (Sta_keep Sfm K1125) hfm 18 (nb rfl) (18 : Int32) rfl) all0 (by decide) 0 (by decide) rfl pd__I_C rfl [] rfl (Nat.le_of_eq rfl) at_434 (by decide) (by decide) ?_
      intro v1133 h1133 Q1133
      obtain ⟨ev1133, e1133⟩ := Q1133
      replace e1133 := e1133.symm
      subst e1133
      replace ev1133 : v1133 = some (.int c8) := ev1133
      subst ev1133
      refine g_iload C at_437 rfl ?_
      refine g_icmp_t C 444 at_439 (XT.ii_eq_t rfl) (by decide) (by decide) ?_
      refine g_iload C at_444 rfl ?_
      refine g_iconst C 2 at_446 rfl ?_
      refine g_icmp_f C at_447 (XT.ii_ne_f (by decide)) ?_
      refine g_aload C at_450 rfl rfl ?_
      refine g_bipush C 18 at_452 rfl ?_
      refine g_iloadN C at_454 rfl ?_
      refine g_iadd C at_455 ?_
      rw [show ((18 : Int32) + (1 : Int32)) = (19 : Int32) from by decide]
      refine g_virtual C E1130 w_241 w_242 (fun hZ => nf_sel hw w_244 hZ) w_244 w_243 (by decide) [(.int (19 : Int32))] (ct_ch hEL hw S1128 (Sta_keep Szc K1125) hzc (Sta_keep Sfm K1125) hfm 19 (nb rfl) (19 : Int32) rfl) all0 (by decide) 0 (by decide) rfl pd__I_C rfl [] rfl (Nat.le_of_eq rfl) at_456 (by decide) (by decide) ?_
      intro v1134 h1134 Q1134
      obtain ⟨ev1134, e1134⟩ := Q1134
      replace e1134 := e1134.symm
      subst e1134
      replace ev1134 : v1134 = some (.int c9) := ev1134
      subst ev1134
      refine g_iload C at_459 rfl ?_
      refine g_icmp_t C 466 at_461 (XT.ii_eq_t rfl) (by decide) (by decide) ?_
      refine g_iconst C 1 at_466 rfl ?_
      refine g_ireturnN C hEL (t := .boolean) rfl (by simp) at_467 (by decide) (by decide) ?_
      exact rfl
  · rw [e_dA]
    refine g_iloadN C at_9 rfl ?_
    refine g_sipush C 255 at_10 rfl ?_
    refine g_iand C at_13 ?_
    refine g_static C w_0 w_1 w_2 w_3 (by decide) [(.int (i1 &&& (255 : Int32)))] (ct_of hEL hw w_3 w_2 (rm_nm l Z a0 hw hEL (i1 &&& (255 : Int32)) h0 n0 (ch8_mask _))) all0 (by decide) 0 (by decide) rfl pd__I_C rfl [] rfl (Nat.le_of_eq rfl) at_14 (by decide) (by decide) ?_
    intro v1135 h1135 Q1135
    obtain ⟨z1135, rfl, hz1135, hx1135, e1135⟩ := Q1135
    replace e1135 := e1135.symm
    subst e1135
    rw [nar_ch8 hz1135]
    refine g_istore C #[.val (.int i1), .val (.int i2), .val (.int i3), .val (.int (2 : Int32)), .val (.int z1135), .unset, .unset, .unset, .unset, .unset, .unset, .unset, .unset, .unset] at_17 rfl ?_
    refine g_iloadN C at_19 rfl ?_
    refine g_bipush C 8 at_20 rfl ?_
    refine g_iushr C at_22 ?_
    refine g_sipush C 255 at_23 rfl ?_
    refine g_iand C at_26 ?_
    refine g_static C w_0 w_1 w_2 w_3 (by decide) [(.int (((i1.toUInt32 >>> ((8 : Int32) &&& 31).toUInt32).toInt32) &&& (255 : Int32)))] (ct_of hEL hw w_3 w_2 (rm_nm l Z a0 hw hEL (((i1.toUInt32 >>> ((8 : Int32) &&& 31).toUInt32).toInt32) &&& (255 : Int32)) h0 n0 (ch8_mask _))) all0 (by decide) 0 (by decide) rfl pd__I_C rfl [] rfl (Nat.le_of_eq rfl) at_27 (by decide) (by decide) ?_
    intro v1136 h1136 Q1136
    obtain ⟨z1136, rfl, hz1136, hx1136, e1136⟩ := Q1136
    replace e1136 := e1136.symm
    subst e1136
    rw [nar_ch8 hz1136]
    refine g_istore C #[.val (.int i1), .val (.int i2), .val (.int i3), .val (.int (2 : Int32)), .val (.int z1135), .val (.int z1136), .unset, .unset, .unset, .unset, .unset, .unset, .unset, .unset] at_30 rfl ?_
    refine g_iloadN C at_32 rfl ?_
    refine g_iconst C 1 at_33 rfl ?_
    refine g_icmp_t C 45 at_34 (XT.ii_ne_t (by decide)) (by decide) (by decide) ?_
    refine g_new C w_239 w_14 w_6 at_45 (by decide) (by decide) ?_
    intro b1137 h1137 g1137 E1137 A1137 D1137
    refine g_dup C at_48 rfl ?_
    refine g_iconst C 2 at_49 rfl ?_
    refine g_newarray C (aty := .char) w_240 at_50 (by decide) 2 (by decide) (by decide) (by decide) (by decide) "[C" rfl ?_
    intro b1138 h1138 ka1138 g1138 E1138 V1138 A1138
    replace V1138 : Arv Z h1138 b1138 ka1138 .char (2 : Int32) [(.int (0 : Int32)), (.int (0 : Int32))] (.int (0 : Int32)) := V1138.pad (pad_rep [] _ 2)
    refine g_dup C at_52 rfl ?_
    refine g_iconst C 0 at_53 rfl ?_
    refine g_iload C at_54 rfl ?_
    refine g_castore C V1138 (mg (i := 0) rfl) at_56 ⟨by decide, by decide⟩ 0 rfl (nb rfl) ?_
    intro h1139 W1139 V1139
    rw [nar_ch8 hz1135] at V1139
    replace V1139 : Arv Z h1139 b1138 ka1138 .char (2 : Int32) [(.int z1135), (.int (0 : Int32))] (.int (0 : Int32)) := V1139
    refine g_dup C at_57 rfl ?_
    refine g_iconst C 1 at_58 rfl ?_
    refine g_iload C at_59 rfl ?_
    refine g_castore C V1139 (mg (i := 0) rfl) at_61 ⟨by decide, by decide⟩ 1 rfl (nb rfl) ?_
    intro h1140 W1140 V1140
    rw [nar_ch8 hz1136] at V1140
    replace V1140 : Arv Z h1140 b1138 ka1138 .char (2 : Int32) [(.int z1135), (.int z1136)] (.int (0 : Int32)) := V1140
    have K1141 : Keep h1137 h1138 [] := (Keep.refl h1137 []).ext E1138
    have K1142 : Keep h1137 h1139 [] := K1141.wr W1139 (Or.inr (Nat.le_of_eq g1138.symm))
    have K1143 : Keep h1137 h1140 [] := K1142.wr W1140 (Or.inr (Nat.le_of_eq g1138.symm))
    have E1144 := (A1137.keep K1143)
    have F1145 := ((D1137 (Or.inr (C.hw w_27)) (ty := (.array .byte)) (by decide)).keep K1143 nin0)
    have F1146 := ((D1137 (Or.inr (C.hw w_29)) (ty := .byte) (by decide)).keep K1143 nin0)
    have K1147 : Keep h0 h1137 [] := (Keep.refl h0 []).ext E1137
    have K1148 : Keep h0 h1138 [] := K1147.ext E1138
    have K1149 : Keep h0 h1139 [] := K1148.wr W1139 (Or.inr (Nat.le_trans K1147.1 (Nat.le_of_eq g1138.symm)))
    have K1150 : Keep h0 h1140 [] := K1149.wr W1140 (Or.inr (Nat.le_trans K1147.1 (Nat.le_of_eq g1138.symm)))
    refine g_special C (a := b1137) w_255 w_256 w_257 rfl (by decide) [(.ref b1138)] (ct_newS hEL hw (cs := [z1135, z1136]) (n := 2) E1144 F1145 F1146 V1140 (Sta_keep Szc K1150) hzc rfl (by decide) (by decide) (own_allc hz1135 (own_allc hz1136 (fun _ q => nomatch q)))) (allS (mg (i := 1) rfl) all0) (by decide) 1 (by decide) rfl pd___C_V rfl [(.ref b1137)] rfl (Nat.le_of_eq rfl) at_62 (by decide) (by decide) ?_
    intro v1151 h1151 Q1151
    obtain ⟨rfl, KC1151, t1151, kb1151, ht1151, htx1151, S1151⟩ := Q1151
    refine g_astore C #[.val (.int i1), .val (.int i2), .val (.int i3), .val (.int (2 : Int32)), .val (.int z1135), .val (.int z1136), .val (.ref b1137), .unset, .unset, .unset, .unset, .unset, .unset, .unset] at_65 rfl rfl ?_
    refine g_iloadN C at_67 rfl ?_
    refine g_bipush C 16 at_68 rfl ?_
    refine g_iushr C at_70 ?_
    refine g_iconst C 3 at_71 rfl ?_
    refine g_iand C at_72 ?_
    refine g_iconst C 3 at_73 rfl ?_
    refine g_irem C at_74 (by decide) ?_
    refine g_istore C #[.val (.int i1), .val (.int i2), .val (.int i3), .val (.int (2 : Int32)), .val (.int z1135), .val (.int z1136), .val (.ref b1137), .val (.int ((((i2.toUInt32 >>> ((16 : Int32) &&& 31).toUInt32).toInt32) &&& (3 : Int32)) % (3 : Int32))), .unset, .unset, .unset, .unset, .unset, .unset] at_75 rfl ?_
    rcases (own_m3 _ : ((((i2.toUInt32 >>> ((16 : Int32) &&& 31).toUInt32).toInt32) &&& (3 : Int32)) % (3 : Int32)) = 0 ∨ ((((i2.toUInt32 >>> ((16 : Int32) &&& 31).toUInt32).toInt32) &&& (3 : Int32)) % (3 : Int32)) = 1 ∨ ((((i2.toUInt32 >>> ((16 : Int32) &&& 31).toUInt32).toInt32) &&& (3 : Int32)) % (3 : Int32)) = 2) with e_dB | e_dB | e_dB
    · rw [e_dB]
      refine g_iloadN C at_77 rfl ?_
      refine g_sipush C 255 at_78 rfl ?_
      refine g_iand C at_81 ?_
      refine g_i2c C at_82 ?_
      refine g_istore C #[.val (.int i1), .val (.int i2), .val (.int i3), .val (.int (2 : Int32)), .val (.int z1135), .val (.int z1136), .val (.ref b1137), .val (.int (0 : Int32)), .val (.int ((i2 &&& (255 : Int32)).toUInt32.toUInt16.toUInt32.toInt32)), .unset, .unset, .unset, .unset, .unset] at_83 rfl ?_
      obtain ⟨c8, e_c8, h_c8⟩ : ∃ z : Int32, ((i2 &&& (255 : Int32)).toUInt32.toUInt16.toUInt32.toInt32) = z ∧ Ch8 z := ⟨_, rfl, ch8_i2c _⟩
      rw [e_c8]
      refine g_iloadN C at_85 rfl ?_
      refine g_bipush C 8 at_86 rfl ?_
      refine g_iushr C at_88 ?_
      refine g_sipush C 255 at_89 rfl ?_
      refine g_iand C at_92 ?_
      refine g_i2c C at_93 ?_
      refine g_istore C #[.val (.int i1), .val (.int i2), .val (.int i3), .val (.int (2 : Int32)), .val (.int z1135), .val (.int z1136), .val (.ref b1137), .val (.int (0 : Int32)), .val (.int c8), .val (.int ((((i2.toUInt32 >>> ((8 : Int32) &&& 31).toUInt32).toInt32) &&& (255 : Int32)).toUInt32.toUInt16.toUInt32.toInt32)), .unset, .unset, .unset, .unset] at_94 rfl ?_
      obtain ⟨c9, e_c9, h_c9⟩ : ∃ z : Int32, ((((i2.toUInt32 >>> ((8 : Int32) &&& 31).toUInt32).toInt32) &&& (255 : Int32)).toUInt32.toUInt16.toUInt32.toInt32) = z ∧ Ch8 z := ⟨_, rfl, ch8_i2c _⟩
      rw [e_c9]
      refine g_iload C at_96 rfl ?_
      refine g_if_f C at_98 (XT.i0_ne_f (by decide)) ?_
      refine g_ldcS C hEL w_30 own_sA (mg (i := 16) rfl) [] ⟨by decide +kernel, by decide +kernel⟩ (by decide) (by decide) at_101 0 (by decide +kernel) (by decide) (by decide) (by decide) ?_
      intro a1152 t1152 kb1152 h1152 E1152 S1152 X1152
      refine g_goto C 140 at_103 (by decide) (by decide) ?_
      refine g_astore C #[.val (.int i1), .val (.int i2), .val (.int i3), .val (.int (2 : Int32)), .val (.int z1135), .val (.int z1136), .val (.ref b1137), .val (.int (0 : Int32)), .val (.int c8), .val (.int c9), .val (.ref a1152), .unset, .unset, .unset] at_140 rfl rfl ?_
      refine g_iloadN C at_142 rfl ?_
      refine g_bipush C 7 at_143 rfl ?_
      refine g_iand C at_145 ?_
      refine g_aload C at_146 rfl rfl ?_
      refine g_aload C at_148 rfl rfl ?_
      have K1153 : Keep h1151 h1152 [] := (Keep.refl h1151 []).ext E1152
      have S1154 := (S1151.keep K1153 nin0 nin0)
      have K1155 : Keep h0 h1151 [] := K1150.trans KC1151 (allS (Or.inr (Nat.le_of_eq g1137.symm)) all0)
      have K1156 : Keep h0 h1152 [] := K1155.ext E1152
      refine g_static C w_33 w_34 w_2 w_35 (by decide) [(.int (i3 &&& (7 : Int32))), (.ref b1137), (.ref a1152)] (ct_of hEL hw w_35 w_2 (rm_key l Z a0 hw hEL (i3 &&& (7 : Int32)) b1137 t1151 a1152 t1152 _ _ [z1135, z1136] [] zc h1152 n0 S1154 (nb rfl) (nb rfl) (own_nocons hx1135 (own_nocons hx1136 (fun _ q => nomatch q))) S1152 (nb rfl) (Sta_keep Szc K1156) hzc)) all0 (by decide) 0 (by decide) rfl pd__ILjava_lang_String_Ljava_lang_String__Ljava_lang_String_ rfl [] rfl (Nat.le_of_eq rfl) at_150 (by decide) (by decide) ?_
      intro v1157 h1157 Q1157
      obtain ⟨a1157, t1157, k1157, P1157, Sx1157, rfl, KC1157, le1157, lt1157, S1157, hP1157, hP01157, hP191157, hSx1157⟩ := Q1157
      refine g_astore C #[.val (.int i1), .val (.int i2), .val (.int i3), .val (.int (2 : Int32)), .val (.int z1135), .val (.int z1136), .val (.ref b1137), .val (.int (0 : Int32)), .val (.int c8), .val (.int c9), .val (.ref a1152), .val (.ref a1157), .unset, .unset] at_153 rfl rfl ?_
      refine g_aload C at_155 rfl rfl ?_
      refine g_aload C at_157 rfl rfl ?_
      have K1158 : Keep h1152 h1157 [] := (Keep.refl h1152 []).trans KC1157 all0
      have S1159 := (S1152.keep K1158 nin0 nin0)
      have K1160 : Keep h0 h1157 [] := K1156.trans KC1157 all0
      refine g_static C w_214 w_215 w_38 w_216 (by decide) [(.ref a1157), (.ref a1152)] (ct_of hEL hw w_216 w_38 (rm_lastCall l Z a0 hw hEL a1157 t1157 a1152 t1152 _ _ P1157 [z1135, z1136] Sx1157 [] zc fm h1157 n0 S1157 S1159 (nb rfl) (nb rfl) (own_nocons hx1135 (own_nocons hx1136 (fun _ q => nomatch q))) (nb rfl) hP1157 hP01157 hP191157 hSx1157 (Sta_keep Szc K1160) hzc (Sta_keep Sfm K1160) hfm)) all0 (by decide) 0 (by decide) rfl pd__Ljava_lang_String_Ljava_lang_String__Ljava_lang_String_ rfl [] rfl (Nat.le_of_eq rfl) at_159 (by decide) (by decide) ?_
      intro v1161 h1161 Q1161
      obtain ⟨a1161, t1161, k1161, rfl, KC1161, le1161, lt1161, S1161⟩ := Q1161
      replace S1161 : Str Z h1161 a1161 t1161 k1161 [104, 111, 108, 100, 102, 97, 115, 116, 58, 99, 97, 108, 108, 58, 123, z1135, z1136, 125, 58] := S1161
      refine g_astore C #[.val (.int i1), .val (.int i2), .val (.int i3), .val (.int (2 : Int32)), .val (.int z1135), .val (.int z1136), .val (.ref b1137), .val (.int (0 : Int32)), .val (.int c8), .val (.int c9), .val (.ref a1152), .val (.ref a1157), .val (.ref a1161), .unset] at_162 rfl rfl ?_
      refine g_aload C at_164 rfl rfl ?_
      have K1162 : Keep h0 h1161 [] := K1160.trans KC1161 all0
      refine g_virtual C S1161.1 w_238 w_73 (fun hZ => nf_sel hw w_75 hZ) w_75 w_74 (by decide) [] (ct_len hEL hw S1161 (Sta_keep Szc K1162) hzc) all0 (by decide) 0 (by decide) rfl pd___I rfl [] rfl (Nat.le_of_eq rfl) at_166 (by decide) (by decide) ?_
      intro v1163 h1163 Q1163
      obtain ⟨ev1163, e1163⟩ := Q1163
      replace e1163 := e1163.symm
      subst e1163
      replace ev1163 : v1163 = some (.int (19 : Int32)) := ev1163
      subst ev1163
      refine g_bipush C 17 at_169 rfl ?_
      refine g_iloadN C at_171 rfl ?_
      refine g_iadd C at_172 ?_
      rw [show ((17 : Int32) + (2 : Int32)) = (19 : Int32) from by decide]
      refine g_iload C at_173 rfl ?_
      refine g_iadd C at_175 ?_
      rw [show ((19 : Int32) + (0 : Int32)) = (19 : Int32) from by decide]
      refine g_icmp_t C 181 at_176 (XT.ii_eq_t (by decide)) (by decide) (by decide) ?_
      refine g_new C w_239 w_14 w_6 at_181 (by decide) (by decide) ?_
      intro b1164 h1164 g1164 E1164 A1164 D1164
      refine g_dup C at_184 rfl ?_
      refine g_bipush C 15 at_185 rfl ?_
      refine g_newarray C (aty := .char) w_240 at_187 (by decide) 15 (by decide) (by decide) (by decide) (by decide) "[C" rfl ?_
      intro b1165 h1165 ka1165 g1165 E1165 V1165 A1165
      replace V1165 : Arv Z h1165 b1165 ka1165 .char (15 : Int32) [(.int (0 : Int32)), (.int (0 : Int32)), (.int (0 : Int32)), (.int (0 : Int32)), (.int (0 : Int32)), (.int (0 : Int32)), (.int (0 : Int32)), (.int (0 : Int32)), (.int (0 : Int32)), (.int (0 : Int32)), (.int (0 : Int32)), (.int (0 : Int32)), (.int (0 : Int32)), (.int (0 : Int32)), (.int (0 : Int32))] (.int (0 : Int32)) := V1165.pad (pad_rep [] _ 15)
      refine g_dup C at_189 rfl ?_
      refine g_iconst C 0 at_190 rfl ?_
      refine g_aload C at_191 rfl rfl ?_
      refine g_iconst C 0 at_193 rfl ?_
      have K1166 : Keep h1161 h1164 [] := (Keep.refl h1161 []).ext E1164
      have K1167 : Keep h1161 h1165 [] := K1166.ext E1165
      have S1168 := (S1161.keep K1167 nin0 nin0)
      have K1169 : Keep h0 h1164 [] := K1162.ext E1164
      have K1170 : Keep h0 h1165 [] := K1169.ext E1165
      have E1172 := (S1161.1.keep K1167)
      refine g_virtual C E1172 w_241 w_242 (fun hZ => nf_sel hw w_244 hZ) w_244 w_243 (by decide) [(.int (0 : Int32))] (ct_ch hEL hw S1168 (Sta_keep Szc K1170) hzc (Sta_keep Sfm K1170) hfm 0 (nb rfl) (0 : Int32) rfl) all0 (by decide) 5 (by decide) rfl pd__I_C rfl [(.int (0 : Int32)), (.ref b1165), (.ref b1165), (.ref b1164), (.ref b1164)] rfl (Nat.le_of_eq rfl) at_194 (by decide) (by decide) ?_
      intro v1171 h1171 Q1171
      obtain ⟨ev1171, e1171⟩ := Q1171
      replace e1171 := e1171.symm
      subst e1171
      replace ev1171 : v1171 = some (.int (104 : Int32)) := ev1171
      subst ev1171
      refine g_castore C V1165 (mg (i := 0) rfl) at_197 ⟨by decide, by decide⟩ 0 rfl (nb rfl) ?_
      intro h1173 W1173 V1173
      rw [nar_ch8 (by unfold Ch8; decide)] at V1173
      replace V1173 : Arv Z h1173 b1165 ka1165 .char (15 : Int32) [(.int (104 : Int32)), (.int (0 : Int32)), (.int (0 : Int32)), (.int (0 : Int32)), (.int (0 : Int32)), (.int (0 : Int32)), (.int (0 : Int32)), (.int (0 : Int32)), (.int (0 : Int32)), (.int (0 : Int32)), (.int (0 : Int32)), (.int (0 : Int32)), (.int (0 : Int32)), (.int (0 : Int32)), (.int (0 : Int32))] (.int (0 : Int32)) := V1173
      refine g_dup C at_198 rfl ?_
      refine g_iconst C 1 at_199 rfl ?_
      refine g_aload C at_200 rfl rfl ?_
      refine g_iconst C 1 at_202 rfl ?_
      have E1174 := (S1161.1.keep K1166)
      have S1175 := (S1161.keep K1166 nin0 nin0)
      have S1176 := (S1168.other W1173 (Nat.ne_of_lt (Nat.lt_of_lt_of_le E1174.lt (Nat.le_of_eq g1165.symm))) (Nat.ne_of_lt (Nat.lt_of_lt_of_le S1175.tlt (Nat.le_of_eq g1165.symm))))
      have K1177 : Keep h0 h1173 [] := K1170.wr W1173 (Or.inr (Nat.le_trans K1169.1 (Nat.le_of_eq g1165.symm)))
      have E1179 := (E1172.wr W1173)
      refine g_virtual C E1179 w_241 w_242 (fun hZ => nf_sel hw w_244 hZ) w_244 w_243 (by decide) [(.int (1 : Int32))] (ct_ch hEL hw S1176 (Sta_keep Szc K1177) hzc (Sta_keep Sfm K1177) hfm 1 (nb rfl) (1 : Int32) rfl) all0 (by decide) 5 (by decide) rfl pd__I_C rfl [(.int (1 : Int32)), (.ref b1165), (.ref b1165), (.ref b1164), (.ref b1164)] rfl (Nat.le_of_eq rfl) at_203 (by decide) (by decide) ?_
      intro v1178 h1178 Q1178
      obtain ⟨ev1178, e1178⟩ := Q1178
      replace e1178 := e1178.symm
      subst e1178
      replace ev1178 : v1178 = some (.int (111 : Int32)) := ev1178
      subst ev1178
      refine g_castore C V1173 (mg (i := 0) rfl) at_206 ⟨by decide, by decide⟩ 1 rfl (nb rfl) ?_
      intro h1180 W1180 V1180
      rw [nar_ch8 (by unfold Ch8; decide)] at V1180
      replace V1180 : Arv Z h1180 b1165 ka1165 .char (15 : Int32) [(.int (104 : Int32)), (.int (111 : Int32)), (.int (0 : Int32)), (.int (0 : Int32)), (.int (0 : Int32)), (.int (0 : Int32)), (.int (0 : Int32)), (.int (0 : Int32)), (.int (0 : Int32)), (.int (0 : Int32)), (.int (0 : Int32)), (.int (0 : Int32)), (.int (0 : Int32)), (.int (0 : Int32)), (.int (0 : Int32))] (.int (0 : Int32)) := V1180
      refine g_dup C at_207 rfl ?_
      refine g_iconst C 2 at_208 rfl ?_
      refine g_aload C at_209 rfl rfl ?_
      refine g_iconst C 2 at_211 rfl ?_
      have S1181 := (S1176.other W1180 (Nat.ne_of_lt (Nat.lt_of_lt_of_le E1174.lt (Nat.le_of_eq g1165.symm))) (Nat.ne_of_lt (Nat.lt_of_lt_of_le S1175.tlt (Nat.le_of_eq g1165.symm))))
      have K1182 : Keep h0 h1180 [] := K1177.wr W1180 (Or.inr (Nat.le_trans K1169.1 (Nat.le_of_eq g1165.symm)))
      have E1184 := (E1179.wr W1180)
      refine g_virtual C E1184 w_241 w_242 (fun hZ => nf_sel hw w_244 hZ) w_244 w_243 (by decide) [(.int (2 : Int32))] (ct_ch hEL hw S1181 (Sta_keep Szc K1182) hzc (Sta_keep Sfm K1182) hfm 2 (nb rfl) (2 : Int32) rfl) all0 (by decide) 5 (by decide) rfl pd__I_C rfl [(.int (2 : Int32)), (.ref b1165), (.ref b1165), (.ref b1164), (.ref b1164)] rfl (Nat.le_of_eq rfl) at_212 (by decide) (by decide) ?_
      intro v1183 h1183 Q1183
      obtain ⟨ev1183, e1183⟩ := Q1183
      replace e1183 := e1183.symm
      subst e1183
      replace ev1183 : v1183 = some (.int (108 : Int32)) := ev1183
      subst ev1183
      refine g_castore C V1180 (mg (i := 0) rfl) at_215 ⟨by decide, by decide⟩ 2 rfl (nb rfl) ?_
      intro h1185 W1185 V1185
      rw [nar_ch8 (by unfold Ch8; decide)] at V1185
      replace V1185 : Arv Z h1185 b1165 ka1165 .char (15 : Int32) [(.int (104 : Int32)), (.int (111 : Int32)), (.int (108 : Int32)), (.int (0 : Int32)), (.int (0 : Int32)), (.int (0 : Int32)), (.int (0 : Int32)), (.int (0 : Int32)), (.int (0 : Int32)), (.int (0 : Int32)), (.int (0 : Int32)), (.int (0 : Int32)), (.int (0 : Int32)), (.int (0 : Int32)), (.int (0 : Int32))] (.int (0 : Int32)) := V1185
      refine g_dup C at_216 rfl ?_
      refine g_iconst C 3 at_217 rfl ?_
      refine g_aload C at_218 rfl rfl ?_
      refine g_iconst C 3 at_220 rfl ?_
      have S1186 := (S1181.other W1185 (Nat.ne_of_lt (Nat.lt_of_lt_of_le E1174.lt (Nat.le_of_eq g1165.symm))) (Nat.ne_of_lt (Nat.lt_of_lt_of_le S1175.tlt (Nat.le_of_eq g1165.symm))))
      have K1187 : Keep h0 h1185 [] := K1182.wr W1185 (Or.inr (Nat.le_trans K1169.1 (Nat.le_of_eq g1165.symm)))
      have E1189 := (E1184.wr W1185)
      refine g_virtual C E1189 w_241 w_242 (fun hZ => nf_sel hw w_244 hZ) w_244 w_243 (by decide) [(.int (3 : Int32))] (ct_ch hEL hw S1186 (Sta_keep Szc K1187) hzc (Sta_keep Sfm K1187) hfm 3 (nb rfl) (3 : Int32) rfl) all0 (by decide) 5 (by decide) rfl pd__I_C rfl [(.int (3 : Int32)), (.ref b1165), (.ref b1165), (.ref b1164), (.ref b1164)] rfl (Nat.le_of_eq rfl) at_221 (by decide) (by decide) ?_
      intro v1188 h1188 Q1188
      obtain ⟨ev1188, e1188⟩ := Q1188
      replace e1188 := e1188.symm
      subst e1188
      replace ev1188 : v1188 = some (.int (100 : Int32)) := ev1188
      subst ev1188
      refine g_castore C V1185 (mg (i := 0) rfl) at_224 ⟨by decide, by decide⟩ 3 rfl (nb rfl) ?_
      intro h1190 W1190 V1190
      rw [nar_ch8 (by unfold Ch8; decide)] at V1190
      replace V1190 : Arv Z h1190 b1165 ka1165 .char (15 : Int32) [(.int (104 : Int32)), (.int (111 : Int32)), (.int (108 : Int32)), (.int (100 : Int32)), (.int (0 : Int32)), (.int (0 : Int32)), (.int (0 : Int32)), (.int (0 : Int32)), (.int (0 : Int32)), (.int (0 : Int32)), (.int (0 : Int32)), (.int (0 : Int32)), (.int (0 : Int32)), (.int (0 : Int32)), (.int (0 : Int32))] (.int (0 : Int32)) := V1190
      refine g_dup C at_225 rfl ?_
      refine g_iconst C 4 at_226 rfl ?_
      refine g_aload C at_227 rfl rfl ?_
      refine g_iconst C 4 at_229 rfl ?_
      have S1191 := (S1186.other W1190 (Nat.ne_of_lt (Nat.lt_of_lt_of_le E1174.lt (Nat.le_of_eq g1165.symm))) (Nat.ne_of_lt (Nat.lt_of_lt_of_le S1175.tlt (Nat.le_of_eq g1165.symm))))
      have K1192 : Keep h0 h1190 [] := K1187.wr W1190 (Or.inr (Nat.le_trans K1169.1 (Nat.le_of_eq g1165.symm)))
      have E1194 := (E1189.wr W1190)
      refine g_virtual C E1194 w_241 w_242 (fun hZ => nf_sel hw w_244 hZ) w_244 w_243 (by decide) [(.int (4 : Int32))] (ct_ch hEL hw S1191 (Sta_keep Szc K1192) hzc (Sta_keep Sfm K1192) hfm 4 (nb rfl) (4 : Int32) rfl) all0 (by decide) 5 (by decide) rfl pd__I_C rfl [(.int (4 : Int32)), (.ref b1165), (.ref b1165), (.ref b1164), (.ref b1164)] rfl (Nat.le_of_eq rfl) at_230 (by decide) (by decide) ?_
      intro v1193 h1193 Q1193
      obtain ⟨ev1193, e1193⟩ := Q1193
      replace e1193 := e1193.symm
      subst e1193
      replace ev1193 : v1193 = some (.int (102 : Int32)) := ev1193
      subst ev1193
      refine g_castore C V1190 (mg (i := 0) rfl) at_233 ⟨by decide, by decide⟩ 4 rfl (nb rfl) ?_
      intro h1195 W1195 V1195
      rw [nar_ch8 (by unfold Ch8; decide)] at V1195
      replace V1195 : Arv Z h1195 b1165 ka1165 .char (15 : Int32) [(.int (104 : Int32)), (.int (111 : Int32)), (.int (108 : Int32)), (.int (100 : Int32)), (.int (102 : Int32)), (.int (0 : Int32)), (.int (0 : Int32)), (.int (0 : Int32)), (.int (0 : Int32)), (.int (0 : Int32)), (.int (0 : Int32)), (.int (0 : Int32)), (.int (0 : Int32)), (.int (0 : Int32)), (.int (0 : Int32))] (.int (0 : Int32)) := V1195
      refine g_dup C at_234 rfl ?_
      refine g_iconst C 5 at_235 rfl ?_
      refine g_aload C at_236 rfl rfl ?_
      refine g_iconst C 5 at_238 rfl ?_
      have S1196 := (S1191.other W1195 (Nat.ne_of_lt (Nat.lt_of_lt_of_le E1174.lt (Nat.le_of_eq g1165.symm))) (Nat.ne_of_lt (Nat.lt_of_lt_of_le S1175.tlt (Nat.le_of_eq g1165.symm))))
      have K1197 : Keep h0 h1195 [] := K1192.wr W1195 (Or.inr (Nat.le_trans K1169.1 (Nat.le_of_eq g1165.symm)))
      have E1199 := (E1194.wr W1195)
      refine g_virtual C E1199 w_241 w_242 (fun hZ => nf_sel hw w_244 hZ) w_244 w_243 (by decide) [(.int (5 : Int32))] (ct_ch hEL hw S1196 (Sta_keep Szc K1197) hzc (Sta_keep Sfm K1197) hfm 5 (nb rfl) (5 : Int32) rfl) all0 (by decide) 5 (by decide) rfl pd__I_C rfl [(.int (5 : Int32)), (.ref b1165), (.ref b1165), (.ref b1164), (.ref b1164)] rfl (Nat.le_of_eq rfl) at_239 (by decide) (by decide) ?_
      intro v1198 h1198 Q1198
      obtain ⟨ev1198, e1198⟩ := Q1198
      replace e1198 := e1198.symm
      subst e1198
      replace ev1198 : v1198 = some (.int (97 : Int32)) := ev1198
      subst ev1198
      refine g_castore C V1195 (mg (i := 0) rfl) at_242 ⟨by decide, by decide⟩ 5 rfl (nb rfl) ?_
      intro h1200 W1200 V1200
      rw [nar_ch8 (by unfold Ch8; decide)] at V1200
      replace V1200 : Arv Z h1200 b1165 ka1165 .char (15 : Int32) [(.int (104 : Int32)), (.int (111 : Int32)), (.int (108 : Int32)), (.int (100 : Int32)), (.int (102 : Int32)), (.int (97 : Int32)), (.int (0 : Int32)), (.int (0 : Int32)), (.int (0 : Int32)), (.int (0 : Int32)), (.int (0 : Int32)), (.int (0 : Int32)), (.int (0 : Int32)), (.int (0 : Int32)), (.int (0 : Int32))] (.int (0 : Int32)) := V1200
      refine g_dup C at_243 rfl ?_
      refine g_bipush C 6 at_244 rfl ?_
      refine g_aload C at_246 rfl rfl ?_
      refine g_bipush C 6 at_248 rfl ?_
      have S1201 := (S1196.other W1200 (Nat.ne_of_lt (Nat.lt_of_lt_of_le E1174.lt (Nat.le_of_eq g1165.symm))) (Nat.ne_of_lt (Nat.lt_of_lt_of_le S1175.tlt (Nat.le_of_eq g1165.symm))))
      have K1202 : Keep h0 h1200 [] := K1197.wr W1200 (Or.inr (Nat.le_trans K1169.1 (Nat.le_of_eq g1165.symm)))
      have E1204 := (E1199.wr W1200)
      refine g_virtual C E1204 w_241 w_242 (fun hZ => nf_sel hw w_244 hZ) w_244 w_243 (by decide) [(.int (6 : Int32))] (ct_ch hEL hw S1201 (Sta_keep Szc K1202) hzc (Sta_keep Sfm K1202) hfm 6 (nb rfl) (6 : Int32) rfl) all0 (by decide) 5 (by decide) rfl pd__I_C rfl [(.int (6 : Int32)), (.ref b1165), (.ref b1165), (.ref b1164), (.ref b1164)] rfl (Nat.le_of_eq rfl) at_250 (by decide) (by decide) ?_
      intro v1203 h1203 Q1203
      obtain ⟨ev1203, e1203⟩ := Q1203
      replace e1203 := e1203.symm
      subst e1203
      replace ev1203 : v1203 = some (.int (115 : Int32)) := ev1203
      subst ev1203
      refine g_castore C V1200 (mg (i := 0) rfl) at_253 ⟨by decide, by decide⟩ 6 rfl (nb rfl) ?_
      intro h1205 W1205 V1205
      rw [nar_ch8 (by unfold Ch8; decide)] at V1205
      replace V1205 : Arv Z h1205 b1165 ka1165 .char (15 : Int32) [(.int (104 : Int32)), (.int (111 : Int32)), (.int (108 : Int32)), (.int (100 : Int32)), (.int (102 : Int32)), (.int (97 : Int32)), (.int (115 : Int32)), (.int (0 : Int32)), (.int (0 : Int32)), (.int (0 : Int32)), (.int (0 : Int32)), (.int (0 : Int32)), (.int (0 : Int32)), (.int (0 : Int32)), (.int (0 : Int32))] (.int (0 : Int32)) := V1205
      refine g_dup C at_254 rfl ?_
      refine g_bipush C 7 at_255 rfl ?_
      refine g_aload C at_257 rfl rfl ?_
      refine g_bipush C 7 at_259 rfl ?_
      have S1206 := (S1201.other W1205 (Nat.ne_of_lt (Nat.lt_of_lt_of_le E1174.lt (Nat.le_of_eq g1165.symm))) (Nat.ne_of_lt (Nat.lt_of_lt_of_le S1175.tlt (Nat.le_of_eq g1165.symm))))
      have K1207 : Keep h0 h1205 [] := K1202.wr W1205 (Or.inr (Nat.le_trans K1169.1 (Nat.le_of_eq g1165.symm)))
      have E1209 := (E1204.wr W1205)
      refine g_virtual C E1209 w_241 w_242 (fun hZ => nf_sel hw w_244 hZ) w_244 w_243 (by decide) [(.int (7 : Int32))] (ct_ch hEL hw S1206 (Sta_keep Szc K1207) hzc (Sta_keep Sfm K1207) hfm 7 (nb rfl) (7 : Int32) rfl) all0 (by decide) 5 (by decide) rfl pd__I_C rfl [(.int (7 : Int32)), (.ref b1165), (.ref b1165), (.ref b1164), (.ref b1164)] rfl (Nat.le_of_eq rfl) at_261 (by decide) (by decide) ?_
      intro v1208 h1208 Q1208
      obtain ⟨ev1208, e1208⟩ := Q1208
      replace e1208 := e1208.symm
      subst e1208
      replace ev1208 : v1208 = some (.int (116 : Int32)) := ev1208
      subst ev1208
      refine g_castore C V1205 (mg (i := 0) rfl) at_264 ⟨by decide, by decide⟩ 7 rfl (nb rfl) ?_
      intro h1210 W1210 V1210
      rw [nar_ch8 (by unfold Ch8; decide)] at V1210
      replace V1210 : Arv Z h1210 b1165 ka1165 .char (15 : Int32) [(.int (104 : Int32)), (.int (111 : Int32)), (.int (108 : Int32)), (.int (100 : Int32)), (.int (102 : Int32)), (.int (97 : Int32)), (.int (115 : Int32)), (.int (116 : Int32)), (.int (0 : Int32)), (.int (0 : Int32)), (.int (0 : Int32)), (.int (0 : Int32)), (.int (0 : Int32)), (.int (0 : Int32)), (.int (0 : Int32))] (.int (0 : Int32)) := V1210
      refine g_dup C at_265 rfl ?_
      refine g_bipush C 8 at_266 rfl ?_
      refine g_aload C at_268 rfl rfl ?_
      refine g_bipush C 8 at_270 rfl ?_
      have S1211 := (S1206.other W1210 (Nat.ne_of_lt (Nat.lt_of_lt_of_le E1174.lt (Nat.le_of_eq g1165.symm))) (Nat.ne_of_lt (Nat.lt_of_lt_of_le S1175.tlt (Nat.le_of_eq g1165.symm))))
      have K1212 : Keep h0 h1210 [] := K1207.wr W1210 (Or.inr (Nat.le_trans K1169.1 (Nat.le_of_eq g1165.symm)))
      have E1214 := (E1209.wr W1210)
      refine g_virtual C E1214 w_241 w_242 (fun hZ => nf_sel hw w_244 hZ) w_244 w_243 (by decide) [(.int (8 : Int32))] (ct_ch hEL hw S1211 (Sta_keep Szc K1212) hzc (Sta_keep Sfm K1212) hfm 8 (nb rfl) (8 : Int32) rfl) all0 (by decide) 5 (by decide) rfl pd__I_C rfl [(.int (8 : Int32)), (.ref b1165), (.ref b1165), (.ref b1164), (.ref b1164)] rfl (Nat.le_of_eq rfl) at_272 (by decide) (by decide) ?_
      intro v1213 h1213 Q1213
      obtain ⟨ev1213, e1213⟩ := Q1213
      replace e1213 := e1213.symm
      subst e1213
      replace ev1213 : v1213 = some (.int (58 : Int32)) := ev1213
      subst ev1213
      refine g_castore C V1210 (mg (i := 0) rfl) at_275 ⟨by decide, by decide⟩ 8 rfl (nb rfl) ?_
      intro h1215 W1215 V1215
      rw [nar_ch8 (by unfold Ch8; decide)] at V1215
      replace V1215 : Arv Z h1215 b1165 ka1165 .char (15 : Int32) [(.int (104 : Int32)), (.int (111 : Int32)), (.int (108 : Int32)), (.int (100 : Int32)), (.int (102 : Int32)), (.int (97 : Int32)), (.int (115 : Int32)), (.int (116 : Int32)), (.int (58 : Int32)), (.int (0 : Int32)), (.int (0 : Int32)), (.int (0 : Int32)), (.int (0 : Int32)), (.int (0 : Int32)), (.int (0 : Int32))] (.int (0 : Int32)) := V1215
      refine g_dup C at_276 rfl ?_
      refine g_bipush C 9 at_277 rfl ?_
      refine g_aload C at_279 rfl rfl ?_
      refine g_bipush C 9 at_281 rfl ?_
      have S1216 := (S1211.other W1215 (Nat.ne_of_lt (Nat.lt_of_lt_of_le E1174.lt (Nat.le_of_eq g1165.symm))) (Nat.ne_of_lt (Nat.lt_of_lt_of_le S1175.tlt (Nat.le_of_eq g1165.symm))))
      have K1217 : Keep h0 h1215 [] := K1212.wr W1215 (Or.inr (Nat.le_trans K1169.1 (Nat.le_of_eq g1165.symm)))
      have E1219 := (E1214.wr W1215)
      refine g_virtual C E1219 w_241 w_242 (fun hZ => nf_sel hw w_244 hZ) w_244 w_243 (by decide) [(.int (9 : Int32))] (ct_ch hEL hw S1216 (Sta_keep Szc K1217) hzc (Sta_keep Sfm K1217) hfm 9 (nb rfl) (9 : Int32) rfl) all0 (by decide) 5 (by decide) rfl pd__I_C rfl [(.int (9 : Int32)), (.ref b1165), (.ref b1165), (.ref b1164), (.ref b1164)] rfl (Nat.le_of_eq rfl) at_283 (by decide) (by decide) ?_
      intro v1218 h1218 Q1218
      obtain ⟨ev1218, e1218⟩ := Q1218
      replace e1218 := e1218.symm
      subst e1218
      replace ev1218 : v1218 = some (.int (99 : Int32)) := ev1218
      subst ev1218
      refine g_castore C V1215 (mg (i := 0) rfl) at_286 ⟨by decide, by decide⟩ 9 rfl (nb rfl) ?_
      intro h1220 W1220 V1220
      rw [nar_ch8 (by unfold Ch8; decide)] at V1220
      replace V1220 : Arv Z h1220 b1165 ka1165 .char (15 : Int32) [(.int (104 : Int32)), (.int (111 : Int32)), (.int (108 : Int32)), (.int (100 : Int32)), (.int (102 : Int32)), (.int (97 : Int32)), (.int (115 : Int32)), (.int (116 : Int32)), (.int (58 : Int32)), (.int (99 : Int32)), (.int (0 : Int32)), (.int (0 : Int32)), (.int (0 : Int32)), (.int (0 : Int32)), (.int (0 : Int32))] (.int (0 : Int32)) := V1220
      refine g_dup C at_287 rfl ?_
      refine g_bipush C 10 at_288 rfl ?_
      refine g_aload C at_290 rfl rfl ?_
      refine g_bipush C 10 at_292 rfl ?_
      have S1221 := (S1216.other W1220 (Nat.ne_of_lt (Nat.lt_of_lt_of_le E1174.lt (Nat.le_of_eq g1165.symm))) (Nat.ne_of_lt (Nat.lt_of_lt_of_le S1175.tlt (Nat.le_of_eq g1165.symm))))
      have K1222 : Keep h0 h1220 [] := K1217.wr W1220 (Or.inr (Nat.le_trans K1169.1 (Nat.le_of_eq g1165.symm)))
      have E1224 := (E1219.wr W1220)
      refine g_virtual C E1224 w_241 w_242 (fun hZ => nf_sel hw w_244 hZ) w_244 w_243 (by decide) [(.int (10 : Int32))] (ct_ch hEL hw S1221 (Sta_keep Szc K1222) hzc (Sta_keep Sfm K1222) hfm 10 (nb rfl) (10 : Int32) rfl) all0 (by decide) 5 (by decide) rfl pd__I_C rfl [(.int (10 : Int32)), (.ref b1165), (.ref b1165), (.ref b1164), (.ref b1164)] rfl (Nat.le_of_eq rfl) at_294 (by decide) (by decide) ?_
      intro v1223 h1223 Q1223
      obtain ⟨ev1223, e1223⟩ := Q1223
      replace e1223 := e1223.symm
      subst e1223
      replace ev1223 : v1223 = some (.int (97 : Int32)) := ev1223
      subst ev1223
      refine g_castore C V1220 (mg (i := 0) rfl) at_297 ⟨by decide, by decide⟩ 10 rfl (nb rfl) ?_
      intro h1225 W1225 V1225
      rw [nar_ch8 (by unfold Ch8; decide)] at V1225
      replace V1225 : Arv Z h1225 b1165 ka1165 .char (15 : Int32) [(.int (104 : Int32)), (.int (111 : Int32)), (.int (108 : Int32)), (.int (100 : Int32)), (.int (102 : Int32)), (.int (97 : Int32)), (.int (115 : Int32)), (.int (116 : Int32)), (.int (58 : Int32)), (.int (99 : Int32)), (.int (97 : Int32)), (.int (0 : Int32)), (.int (0 : Int32)), (.int (0 : Int32)), (.int (0 : Int32))] (.int (0 : Int32)) := V1225
      refine g_dup C at_298 rfl ?_
      refine g_bipush C 11 at_299 rfl ?_
      refine g_aload C at_301 rfl rfl ?_
      refine g_bipush C 11 at_303 rfl ?_
      have S1226 := (S1221.other W1225 (Nat.ne_of_lt (Nat.lt_of_lt_of_le E1174.lt (Nat.le_of_eq g1165.symm))) (Nat.ne_of_lt (Nat.lt_of_lt_of_le S1175.tlt (Nat.le_of_eq g1165.symm))))
      have K1227 : Keep h0 h1225 [] := K1222.wr W1225 (Or.inr (Nat.le_trans K1169.1 (Nat.le_of_eq g1165.symm)))
      have E1229 := (E1224.wr W1225)
      refine g_virtual C E1229 w_241 w_242 (fun hZ => nf_sel hw w_244 hZ) w_244 w_243 (by decide) [(.int (11 : Int32))] (ct_ch hEL hw S1226 (Sta_keep Szc K1227) hzc (Sta_keep Sfm K1227) hfm 11 (nb rfl) (11 : Int32) rfl) all0 (by decide) 5 (by decide) rfl pd__I_C rfl [(.int (11 : Int32)), (.ref b1165), (.ref b1165), (.ref b1164), (.ref b1164)] rfl (Nat.le_of_eq rfl) at_305 (by decide) (by decide) ?_
      intro v1228 h1228 Q1228
      obtain ⟨ev1228, e1228⟩ := Q1228
      replace e1228 := e1228.symm
      subst e1228
      replace ev1228 : v1228 = some (.int (108 : Int32)) := ev1228
      subst ev1228
      refine g_castore C V1225 (mg (i := 0) rfl) at_308 ⟨by decide, by decide⟩ 11 rfl (nb rfl) ?_
      intro h1230 W1230 V1230
      rw [nar_ch8 (by unfold Ch8; decide)] at V1230
      replace V1230 : Arv Z h1230 b1165 ka1165 .char (15 : Int32) [(.int (104 : Int32)), (.int (111 : Int32)), (.int (108 : Int32)), (.int (100 : Int32)), (.int (102 : Int32)), (.int (97 : Int32)), (.int (115 : Int32)), (.int (116 : Int32)), (.int (58 : Int32)), (.int (99 : Int32)), (.int (97 : Int32)), (.int (108 : Int32)), (.int (0 : Int32)), (.int (0 : Int32)), (.int (0 : Int32))] (.int (0 : Int32)) := V1230
      refine g_dup C at_309 rfl ?_
      refine g_bipush C 12 at_310 rfl ?_
      refine g_aload C at_312 rfl rfl ?_
      refine g_bipush C 12 at_314 rfl ?_
      have S1231 := (S1226.other W1230 (Nat.ne_of_lt (Nat.lt_of_lt_of_le E1174.lt (Nat.le_of_eq g1165.symm))) (Nat.ne_of_lt (Nat.lt_of_lt_of_le S1175.tlt (Nat.le_of_eq g1165.symm))))
      have K1232 : Keep h0 h1230 [] := K1227.wr W1230 (Or.inr (Nat.le_trans K1169.1 (Nat.le_of_eq g1165.symm)))
      have E1234 := (E1229.wr W1230)
      refine g_virtual C E1234 w_241 w_242 (fun hZ => nf_sel hw w_244 hZ) w_244 w_243 (by decide) [(.int (12 : Int32))] (ct_ch hEL hw S1231 (Sta_keep Szc K1232) hzc (Sta_keep Sfm K1232) hfm 12 (nb rfl) (12 : Int32) rfl) all0 (by decide) 5 (by decide) rfl pd__I_C rfl [(.int (12 : Int32)), (.ref b1165), (.ref b1165), (.ref b1164), (.ref b1164)] rfl (Nat.le_of_eq rfl) at_316 (by decide) (by decide) ?_
      intro v1233 h1233 Q1233
      obtain ⟨ev1233, e1233⟩ := Q1233
      replace e1233 := e1233.symm
      subst e1233
      replace ev1233 : v1233 = some (.int (108 : Int32)) := ev1233
      subst ev1233
      refine g_castore C V1230 (mg (i := 0) rfl) at_319 ⟨by decide, by decide⟩ 12 rfl (nb rfl) ?_
      intro h1235 W1235 V1235
      rw [nar_ch8 (by unfold Ch8; decide)] at V1235
      replace V1235 : Arv Z h1235 b1165 ka1165 .char (15 : Int32) [(.int (104 : Int32)), (.int (111 : Int32)), (.int (108 : Int32)), (.int (100 : Int32)), (.int (102 : Int32)), (.int (97 : Int32)), (.int (115 : Int32)), (.int (116 : Int32)), (.int (58 : Int32)), (.int (99 : Int32)), (.int (97 : Int32)), (.int (108 : Int32)), (.int (108 : Int32)), (.int (0 : Int32)), (.int (0 : Int32))] (.int (0 : Int32)) := V1235
      refine g_dup C at_320 rfl ?_
      refine g_bipush C 13 at_321 rfl ?_
      refine g_aload C at_323 rfl rfl ?_
      refine g_bipush C 13 at_325 rfl ?_
      have S1236 := (S1231.other W1235 (Nat.ne_of_lt (Nat.lt_of_lt_of_le E1174.lt (Nat.le_of_eq g1165.symm))) (Nat.ne_of_lt (Nat.lt_of_lt_of_le S1175.tlt (Nat.le_of_eq g1165.symm))))
      have K1237 : Keep h0 h1235 [] := K1232.wr W1235 (Or.inr (Nat.le_trans K1169.1 (Nat.le_of_eq g1165.symm)))
      have E1239 := (E1234.wr W1235)
      refine g_virtual C E1239 w_241 w_242 (fun hZ => nf_sel hw w_244 hZ) w_244 w_243 (by decide) [(.int (13 : Int32))] (ct_ch hEL hw S1236 (Sta_keep Szc K1237) hzc (Sta_keep Sfm K1237) hfm 13 (nb rfl) (13 : Int32) rfl) all0 (by decide) 5 (by decide) rfl pd__I_C rfl [(.int (13 : Int32)), (.ref b1165), (.ref b1165), (.ref b1164), (.ref b1164)] rfl (Nat.le_of_eq rfl) at_327 (by decide) (by decide) ?_
      intro v1238 h1238 Q1238
      obtain ⟨ev1238, e1238⟩ := Q1238
      replace e1238 := e1238.symm
      subst e1238
      replace ev1238 : v1238 = some (.int (58 : Int32)) := ev1238
      subst ev1238
      refine g_castore C V1235 (mg (i := 0) rfl) at_330 ⟨by decide, by decide⟩ 13 rfl (nb rfl) ?_
      intro h1240 W1240 V1240
      rw [nar_ch8 (by unfold Ch8; decide)] at V1240
      replace V1240 : Arv Z h1240 b1165 ka1165 .char (15 : Int32) [(.int (104 : Int32)), (.int (111 : Int32)), (.int (108 : Int32)), (.int (100 : Int32)), (.int (102 : Int32)), (.int (97 : Int32)), (.int (115 : Int32)), (.int (116 : Int32)), (.int (58 : Int32)), (.int (99 : Int32)), (.int (97 : Int32)), (.int (108 : Int32)), (.int (108 : Int32)), (.int (58 : Int32)), (.int (0 : Int32))] (.int (0 : Int32)) := V1240
      refine g_dup C at_331 rfl ?_
      refine g_bipush C 14 at_332 rfl ?_
      refine g_aload C at_334 rfl rfl ?_
      refine g_bipush C 14 at_336 rfl ?_
      have S1241 := (S1236.other W1240 (Nat.ne_of_lt (Nat.lt_of_lt_of_le E1174.lt (Nat.le_of_eq g1165.symm))) (Nat.ne_of_lt (Nat.lt_of_lt_of_le S1175.tlt (Nat.le_of_eq g1165.symm))))
      have K1242 : Keep h0 h1240 [] := K1237.wr W1240 (Or.inr (Nat.le_trans K1169.1 (Nat.le_of_eq g1165.symm)))
      have E1244 := (E1239.wr W1240)
      refine g_virtual C E1244 w_241 w_242 (fun hZ => nf_sel hw w_244 hZ) w_244 w_243 (by decide) [(.int (14 : Int32))] (ct_ch hEL hw S1241 (Sta_keep Szc K1242) hzc (Sta_keep Sfm K1242) hfm 14 (nb rfl) (14 : Int32) rfl) all0 (by decide) 5 (by decide) rfl pd__I_C rfl [(.int (14 : Int32)), (.ref b1165), (.ref b1165), (.ref b1164), (.ref b1164)] rfl (Nat.le_of_eq rfl) at_338 (by decide) (by decide) ?_
      intro v1243 h1243 Q1243
      obtain ⟨ev1243, e1243⟩ := Q1243
      replace e1243 := e1243.symm
      subst e1243
      replace ev1243 : v1243 = some (.int (123 : Int32)) := ev1243
      subst ev1243
      refine g_castore C V1240 (mg (i := 0) rfl) at_341 ⟨by decide, by decide⟩ 14 rfl (nb rfl) ?_
      intro h1245 W1245 V1245
      rw [nar_ch8 (by unfold Ch8; decide)] at V1245
      replace V1245 : Arv Z h1245 b1165 ka1165 .char (15 : Int32) [(.int (104 : Int32)), (.int (111 : Int32)), (.int (108 : Int32)), (.int (100 : Int32)), (.int (102 : Int32)), (.int (97 : Int32)), (.int (115 : Int32)), (.int (116 : Int32)), (.int (58 : Int32)), (.int (99 : Int32)), (.int (97 : Int32)), (.int (108 : Int32)), (.int (108 : Int32)), (.int (58 : Int32)), (.int (123 : Int32))] (.int (0 : Int32)) := V1245
      have K1246 : Keep h1164 h1165 [] := (Keep.refl h1164 []).ext E1165
      have K1247 : Keep h1164 h1173 [] := K1246.wr W1173 (Or.inr (Nat.le_of_eq g1165.symm))
      have K1248 : Keep h1164 h1180 [] := K1247.wr W1180 (Or.inr (Nat.le_of_eq g1165.symm))
      have K1249 : Keep h1164 h1185 [] := K1248.wr W1185 (Or.inr (Nat.le_of_eq g1165.symm))
      have K1250 : Keep h1164 h1190 [] := K1249.wr W1190 (Or.inr (Nat.le_of_eq g1165.symm))
      have K1251 : Keep h1164 h1195 [] := K1250.wr W1195 (Or.inr (Nat.le_of_eq g1165.symm))
      have K1252 : Keep h1164 h1200 [] := K1251.wr W1200 (Or.inr (Nat.le_of_eq g1165.symm))
      have K1253 : Keep h1164 h1205 [] := K1252.wr W1205 (Or.inr (Nat.le_of_eq g1165.symm))
      have K1254 : Keep h1164 h1210 [] := K1253.wr W1210 (Or.inr (Nat.le_of_eq g1165.symm))
      have K1255 : Keep h1164 h1215 [] := K1254.wr W1215 (Or.inr (Nat.le_of_eq g1165.symm))
      have K1256 : Keep h1164 h1220 [] := K1255.wr W1220 (Or.inr (Nat.le_of_eq g1165.symm))
      have K1257 : Keep h1164 h1225 [] := K1256.wr W1225 (Or.inr (Nat.le_of_eq g1165.symm))
      have K1258 : Keep h1164 h1230 [] := K1257.wr W1230 (Or.inr (Nat.le_of_eq g1165.symm))
      have K1259 : Keep h1164 h1235 [] := K1258.wr W1235 (Or.inr (Nat.le_of_eq g1165.symm))
      have K1260 : Keep h1164 h1240 [] := K1259.wr W1240 (Or.inr (Nat.le_of_eq g1165.symm))
      have K1261 : Keep h1164 h1245 [] := K1260.wr W1245 (Or.inr (Nat.le_of_eq g1165.symm))
      have E1262 := (A1164.keep K1261)
      have F1263 := ((D1164 (Or.inr (C.hw w_27)) (ty := (.array .byte)) (by decide)).keep K1261 nin0)
      have F1264 := ((D1164 (Or.inr (C.hw w_29)) (ty := .byte) (by decide)).keep K1261 nin0)
      have K1265 : Keep h0 h1245 [] := K1242.wr W1245 (Or.inr (Nat.le_trans K1169.1 (Nat.le_of_eq g1165.symm)))
      refine g_special C (a := b1164) w_255 w_256 w_257 rfl (by decide) [(.ref b1165)] (ct_newS hEL hw (cs := [(104 : Int32), (111 : Int32), (108 : Int32), (100 : Int32), (102 : Int32), (97 : Int32), (115 : Int32), (116 : Int32), (58 : Int32), (99 : Int32), (97 : Int32), (108 : Int32), (108 : Int32), (58 : Int32), (123 : Int32)]) (n := 15) E1262 F1263 F1264 V1245 (Sta_keep Szc K1265) hzc rfl (by decide) (by decide) (own_allc (by unfold Ch8; decide) (own_allc (by unfold Ch8; decide) (own_allc (by unfold Ch8; decide) (own_allc (by unfold Ch8; decide) (own_allc (by unfold Ch8; decide) (own_allc (by unfold Ch8; decide) (own_allc (by unfold Ch8; decide) (own_allc (by unfold Ch8; decide) (own_allc (by unfold Ch8; decide) (own_allc (by unfold Ch8; decide) (own_allc (by unfold Ch8; decide) (own_allc (by unfold Ch8; decide) (own_allc (by unfold Ch8; decide) (own_allc (by unfold Ch8; decide) (own_allc (by unfold Ch8; decide) (fun _ q => nomatch q))))))))))))))))) (allS (mg (i := 1) rfl) all0) (by decide) 1 (by decide) rfl pd___C_V rfl [(.ref b1164)] rfl (Nat.le_of_eq rfl) at_342 (by decide) (by decide) ?_
      intro v1266 h1266 Q1266
      obtain ⟨rfl, KC1266, t1266, kb1266, ht1266, htx1266, S1266⟩ := Q1266
      refine g_astore C #[.val (.int i1), .val (.int i2), .val (.int i3), .val (.int (2 : Int32)), .val (.int z1135), .val (.int z1136), .val (.ref b1137), .val (.int (0 : Int32)), .val (.int c8), .val (.int c9), .val (.ref a1152), .val (.ref a1157), .val (.ref a1161), .val (.ref b1164)] at_345 rfl rfl ?_
      refine g_aload C at_347 rfl rfl ?_
      refine g_ldcS C hEL w_271 own_sA (mg (i := 17) rfl) [104, 111, 108, 100, 102, 97, 115, 116, 58, 99, 97, 108, 108, 58, 123] ⟨by decide +kernel, by decide +kernel⟩ (by decide) (by decide) at_349 60 (by decide +kernel) (by decide) (by decide) (by decide) ?_
      intro a1267 t1267 kb1267 h1267 E1267 S1267 X1267
      have K1268 : Keep h1266 h1267 [] := (Keep.refl h1266 []).ext E1267
      have S1269 := (S1266.keep K1268 nin0 nin0)
      have K1270 : Keep h0 h1266 [] := K1265.trans KC1266 (allS (Or.inr (Nat.le_trans K1162.1 (Nat.le_of_eq g1164.symm))) all0)
      have K1271 : Keep h0 h1267 [] := K1270.ext E1267
      have E1273 := (S1266.1.keep K1268)
      refine g_virtual C E1273 w_272 w_273 (fun hZ => nf_sel hw w_275 hZ) w_275 w_274 (by decide) [(.ref a1267)] (ct_eq hEL hw S1269 S1267 (Sta_keep Szc K1271) hzc) all0 (by decide) 0 (by decide) rfl pd__Ljava_lang_Object__Z rfl [] rfl (Nat.le_of_eq rfl) at_351 (by decide) (by decide) ?_
      intro v1272 h1272 Q1272
      obtain ⟨ev1272, e1272⟩ := Q1272
      replace e1272 := e1272.symm
      subst e1272
      replace ev1272 : v1272 = some (.int (1 : Int32)) := ev1272.trans (by rw [if_pos rfl])
      subst ev1272
      refine g_if_t C 359 at_354 (XT.i0_ne_t (by decide)) (by decide) (by decide) ?_
      refine g_aload C at_359 rfl rfl ?_
      refine g_bipush C 15 at_361 rfl ?_
      have S1274 := (((S1241.other W1245 (Nat.ne_of_lt (Nat.lt_of_lt_of_le E1174.lt (Nat.le_of_eq g1165.symm))) (Nat.ne_of_lt (Nat.lt_of_lt_of_le S1175.tlt (Nat.le_of_eq g1165.symm)))).keep KC1266 (ninS (Nat.ne_of_lt (Nat.lt_of_lt_of_le S1161.1.lt (Nat.le_of_eq g1164.symm))) nin0) (ninS (Nat.ne_of_lt (Nat.lt_of_lt_of_le S1161.tlt (Nat.le_of_eq g1164.symm))) nin0)).ext E1267)
      have E1276 := (((E1244.wr W1245).keep KC1266).ext E1267)
      refine g_virtual C E1276 w_241 w_242 (fun hZ => nf_sel hw w_244 hZ) w_244 w_243 (by decide) [(.int (15 : Int32))] (ct_ch hEL hw S1274 (Sta_keep Szc K1271) hzc (Sta_keep Sfm K1271) hfm 15 (nb rfl) (15 : Int32) rfl) all0 (by decide) 0 (by decide) rfl pd__I_C rfl [] rfl (Nat.le_of_eq rfl) at_363 (by decide) (by decide) ?_
      intro v1275 h1275 Q1275
      obtain ⟨ev1275, e1275⟩ := Q1275
      replace e1275 := e1275.symm
      subst e1275
      replace ev1275 : v1275 = some (.int z1135) := ev1275
      subst ev1275
      refine g_iload C at_366 rfl ?_
      refine g_icmp_t C 373 at_368 (XT.ii_eq_t rfl) (by decide) (by decide) ?_
      refine g_iloadN C at_373 rfl ?_
      refine g_iconst C 2 at_374 rfl ?_
      refine g_icmp_f C at_375 (XT.ii_ne_f (by decide)) ?_
      refine g_aload C at_378 rfl rfl ?_
      refine g_bipush C 16 at_380 rfl ?_
      refine g_virtual C E1276 w_241 w_242 (fun hZ => nf_sel hw w_244 hZ) w_244 w_243 (by decide) [(.int (16 : Int32))] (ct_ch hEL hw S1274 (Sta_keep Szc K1271) hzc (Sta_keep Sfm K1271) hfm 16 (nb rfl) (16 : Int32) rfl) all0 (by decide) 0 (by decide) rfl pd__I_C rfl [] rfl (Nat.le_of_eq rfl) at_382 (by decide) (by decide) ?_
      intro v1277 h1277 Q1277
      obtain ⟨ev1277, e1277⟩ := Q1277
      replace e1277 := e1277.symm
      subst e1277
      replace ev1277 : v1277 = some (.int z1136) := ev1277
      subst ev1277
      refine g_iload C at_385 rfl ?_
      refine g_icmp_t C 392 at_387 (XT.ii_eq_t rfl) (by decide) (by decide) ?_
      refine g_aload C at_392 rfl rfl ?_
      refine g_bipush C 15 at_394 rfl ?_
      refine g_iloadN C at_396 rfl ?_
      refine g_iadd C at_397 ?_
      rw [show ((15 : Int32) + (2 : Int32)) = (17 : Int32) from by decide]
      refine g_virtual C E1276 w_241 w_242 (fun hZ => nf_sel hw w_244 hZ) w_244 w_243 (by decide) [(.int (17 : Int32))] (ct_ch hEL hw S1274 (Sta_keep Szc K1271) hzc (Sta_keep Sfm K1271) hfm 17 (nb rfl) (17 : Int32) rfl) all0 (by decide) 0 (by decide) rfl pd__I_C rfl [] rfl (Nat.le_of_eq rfl) at_398 (by decide) (by decide) ?_
      intro v1278 h1278 Q1278
      obtain ⟨ev1278, e1278⟩ := Q1278
      replace e1278 := e1278.symm
      subst e1278
      replace ev1278 : v1278 = some (.int (125 : Int32)) := ev1278
      subst ev1278
      refine g_bipush C 125 at_401 rfl ?_
      refine g_icmp_f C at_403 (XT.ii_ne_f (by decide)) ?_
      refine g_aload C at_406 rfl rfl ?_
      refine g_bipush C 16 at_408 rfl ?_
      refine g_iloadN C at_410 rfl ?_
      refine g_iadd C at_411 ?_
      rw [show ((16 : Int32) + (2 : Int32)) = (18 : Int32) from by decide]
      refine g_virtual C E1276 w_241 w_242 (fun hZ => nf_sel hw w_244 hZ) w_244 w_243 (by decide) [(.int (18 : Int32))] (ct_ch hEL hw S1274 (Sta_keep Szc K1271) hzc (Sta_keep Sfm K1271) hfm 18 (nb rfl) (18 : Int32) rfl) all0 (by decide) 0 (by decide) rfl pd__I_C rfl [] rfl (Nat.le_of_eq rfl) at_412 (by decide) (by decide) ?_
      intro v1279 h1279 Q1279
      obtain ⟨ev1279, e1279⟩ := Q1279
      replace e1279 := e1279.symm
      subst e1279
      replace ev1279 : v1279 = some (.int (58 : Int32)) := ev1279
      subst ev1279
      refine g_bipush C 58 at_415 rfl ?_
      refine g_icmp_t C 422 at_417 (XT.ii_eq_t (by decide)) (by decide) (by decide) ?_
      refine g_iload C at_422 rfl ?_
      refine g_iconst C 1 at_424 rfl ?_
      refine g_icmp_t C 444 at_425 (XT.ii_lt_t (by decide)) (by decide) (by decide) ?_
      refine g_iload C at_444 rfl ?_
      refine g_iconst C 2 at_446 rfl ?_
      refine g_icmp_t C 466 at_447 (XT.ii_ne_t (by decide)) (by decide) (by decide) ?_
      refine g_iconst C 1 at_466 rfl ?_
      refine g_ireturnN C hEL (t := .boolean) rfl (by simp) at_467 (by decide) (by decide) ?_
      exact rfl
    · rw [e_dB]
      refine g_iloadN C at_77 rfl ?_
      refine g_sipush C 255 at_78 rfl ?_
      refine g_iand C at_81 ?_
      refine g_i2c C at_82 ?_
      refine g_istore C #[.val (.int i1), .val (.int i2), .val (.int i3), .val (.int (2 : Int32)), .val (.int z1135), .val (.int z1136), .val (.ref b1137), .val (.int (1 : Int32)), .val (.int ((i2 &&& (255 : Int32)).toUInt32.toUInt16.toUInt32.toInt32)), .unset, .unset, .unset, .unset, .unset] at_83 rfl ?_
      obtain ⟨c8, e_c8, h_c8⟩ : ∃ z : Int32, ((i2 &&& (255 : Int32)).toUInt32.toUInt16.toUInt32.toInt32) = z ∧ Ch8 z := ⟨_, rfl, ch8_i2c _⟩
      rw [e_c8]
      refine g_iloadN C at_85 rfl ?_
      refine g_bipush C 8 at_86 rfl ?_
      refine g_iushr C at_88 ?_
      refine g_sipush C 255 at_89 rfl ?_
      refine g_iand C at_92 ?_
      refine g_i2c C at_93 ?_
      refine g_istore C #[.val (.int i1), .val (.int i2), .val (.int i3), .val (.int (2 : Int32)), .val (.int z1135), .val (.int z1136), .val (.ref b1137), .val (.int (1 : Int32)), .val (.int c8), .val (.int ((((i2.toUInt32 >>> ((8 : Int32) &&& 31).toUInt32).toInt32) &&& (255 : Int32)).toUInt32.toUInt16.toUInt32.toInt32)), .unset, .unset, .unset, .unset] at_94 rfl ?_
      obtain ⟨c9, e_c9, h_c9⟩ : ∃ z : Int32, ((((i2.toUInt32 >>> ((8 : Int32) &&& 31).toUInt32).toInt32) &&& (255 : Int32)).toUInt32.toUInt16.toUInt32.toInt32) = z ∧ Ch8 z := ⟨_, rfl, ch8_i2c _⟩
      rw [e_c9]
      refine g_iload C at_96 rfl ?_
      refine g_if_t C 106 at_98 (XT.i0_ne_t (by decide)) (by decide) (by decide) ?_
      refine g_iload C at_106 rfl ?_
      refine g_iconst C 1 at_108 rfl ?_
      refine g_icmp_f C at_109 (XT.ii_ne_f (by decide)) ?_
      refine g_iload C at_112 rfl ?_
      have K1280 : Keep h0 h1151 [] := K1150.trans KC1151 (allS (Or.inr (Nat.le_of_eq g1137.symm)) all0)
      refine g_static C w_4 w_5 w_6 w_7 (by decide) [(.int c8)] (ct_of hEL hw w_7 w_6 (rm_vo l Z a0 hw hEL c8 zc h1151 n0 h_c8 (Sta_keep Szc K1280) hzc)) all0 (by decide) 0 (by decide) rfl pd__C_Ljava_lang_String_ rfl [] rfl (Nat.le_of_eq rfl) at_114 (by decide) (by decide) ?_
      intro v1281 h1281 Q1281
      obtain ⟨a1281, t1281, k1281, rfl, KC1281, le1281, lt1281, S1281⟩ := Q1281
      refine g_goto C 140 at_117 (by decide) (by decide) ?_
      refine g_astore C #[.val (.int i1), .val (.int i2), .val (.int i3), .val (.int (2 : Int32)), .val (.int z1135), .val (.int z1136), .val (.ref b1137), .val (.int (1 : Int32)), .val (.int c8), .val (.int c9), .val (.ref a1281), .unset, .unset, .unset] at_140 rfl rfl ?_
      refine g_iloadN C at_142 rfl ?_
      refine g_bipush C 7 at_143 rfl ?_
      refine g_iand C at_145 ?_
      refine g_aload C at_146 rfl rfl ?_
      refine g_aload C at_148 rfl rfl ?_
      have K1282 : Keep h1151 h1281 [] := (Keep.refl h1151 []).trans KC1281 all0
      have S1283 := (S1151.keep K1282 nin0 nin0)
      have K1284 : Keep h0 h1281 [] := K1280.trans KC1281 all0
      refine g_static C w_33 w_34 w_2 w_35 (by decide) [(.int (i3 &&& (7 : Int32))), (.ref b1137), (.ref a1281)] (ct_of hEL hw w_35 w_2 (rm_key l Z a0 hw hEL (i3 &&& (7 : Int32)) b1137 t1151 a1281 t1281 _ _ [z1135, z1136] [c8] zc h1281 n0 S1283 (nb rfl) (nb rfl) (own_nocons hx1135 (own_nocons hx1136 (fun _ q => nomatch q))) S1281 (nb rfl) (Sta_keep Szc K1284) hzc)) all0 (by decide) 0 (by decide) rfl pd__ILjava_lang_String_Ljava_lang_String__Ljava_lang_String_ rfl [] rfl (Nat.le_of_eq rfl) at_150 (by decide) (by decide) ?_
      intro v1285 h1285 Q1285
      obtain ⟨a1285, t1285, k1285, P1285, Sx1285, rfl, KC1285, le1285, lt1285, S1285, hP1285, hP01285, hP191285, hSx1285⟩ := Q1285
      refine g_astore C #[.val (.int i1), .val (.int i2), .val (.int i3), .val (.int (2 : Int32)), .val (.int z1135), .val (.int z1136), .val (.ref b1137), .val (.int (1 : Int32)), .val (.int c8), .val (.int c9), .val (.ref a1281), .val (.ref a1285), .unset, .unset] at_153 rfl rfl ?_
      refine g_aload C at_155 rfl rfl ?_
      refine g_aload C at_157 rfl rfl ?_
      have K1286 : Keep h1281 h1285 [] := (Keep.refl h1281 []).trans KC1285 all0
      have S1287 := (S1281.keep K1286 nin0 nin0)
      have K1288 : Keep h0 h1285 [] := K1284.trans KC1285 all0
      refine g_static C w_214 w_215 w_38 w_216 (by decide) [(.ref a1285), (.ref a1281)] (ct_of hEL hw w_216 w_38 (rm_lastCall l Z a0 hw hEL a1285 t1285 a1281 t1281 _ _ P1285 [z1135, z1136] Sx1285 [c8] zc fm h1285 n0 S1285 S1287 (nb rfl) (nb rfl) (own_nocons hx1135 (own_nocons hx1136 (fun _ q => nomatch q))) (nb rfl) hP1285 hP01285 hP191285 hSx1285 (Sta_keep Szc K1288) hzc (Sta_keep Sfm K1288) hfm)) all0 (by decide) 0 (by decide) rfl pd__Ljava_lang_String_Ljava_lang_String__Ljava_lang_String_ rfl [] rfl (Nat.le_of_eq rfl) at_159 (by decide) (by decide) ?_
      intro v1289 h1289 Q1289
      obtain ⟨a1289, t1289, k1289, rfl, KC1289, le1289, lt1289, S1289⟩ := Q1289
      replace S1289 : Str Z h1289 a1289 t1289 k1289 [104, 111, 108, 100, 102, 97, 115, 116, 58, 99, 97, 108, 108, 58, 123, z1135, z1136, 125, 58, c8] := S1289
      refine g_astore C #[.val (.int i1), .val (.int i2), .val (.int i3), .val (.int (2 : Int32)), .val (.int z1135), .val (.int z1136), .val (.ref b1137), .val (.int (1 : Int32)), .val (.int c8), .val (.int c9), .val (.ref a1281), .val (.ref a1285), .val (.ref a1289), .unset] at_162 rfl rfl ?_
      refine g_aload C at_164 rfl rfl ?_
      have K1290 : Keep h0 h1289 [] := K1288.trans KC1289 all0
      refine g_virtual C S1289.1 w_238 w_73 (fun hZ => nf_sel hw w_75 hZ) w_75 w_74 (by decide) [] (ct_len hEL hw S1289 (Sta_keep Szc K1290) hzc) all0 (by decide) 0 (by decide) rfl pd___I rfl [] rfl (Nat.le_of_eq rfl) at_166 (by decide) (by decide) ?_
      intro v1291 h1291 Q1291
      obtain ⟨ev1291, e1291⟩ := Q1291
      replace e1291 := e1291.symm
      subst e1291
      replace ev1291 : v1291 = some (.int (20 : Int32)) := ev1291
      subst ev1291
      refine g_bipush C 17 at_169 rfl ?_
      refine g_iloadN C at_171 rfl ?_
      refine g_iadd C at_172 ?_
      rw [show ((17 : Int32) + (2 : Int32)) = (19 : Int32) from by decide]
      refine g_iload C at_173 rfl ?_
      refine g_iadd C at_175 ?_
      rw [show ((19 : Int32) + (1 : Int32)) = (20 : Int32) from by decide]
      refine g_icmp_t C 181 at_176 (XT.ii_eq_t (by decide)) (by decide) (by decide) ?_
      refine g_new C w_239 w_14 w_6 at_181 (by decide) (by decide) ?_
      intro b1292 h1292 g1292 E1292 A1292 D1292
      refine g_dup C at_184 rfl ?_
      refine g_bipush C 15 at_185 rfl ?_
      refine g_newarray C (aty := .char) w_240 at_187 (by decide) 15 (by decide) (by decide) (by decide) (by decide) "[C" rfl ?_
      intro b1293 h1293 ka1293 g1293 E1293 V1293 A1293
      replace V1293 : Arv Z h1293 b1293 ka1293 .char (15 : Int32) [(.int (0 : Int32)), (.int (0 : Int32)), (.int (0 : Int32)), (.int (0 : Int32)), (.int (0 : Int32)), (.int (0 : Int32)), (.int (0 : Int32)), (.int (0 : Int32)), (.int (0 : Int32)), (.int (0 : Int32)), (.int (0 : Int32)), (.int (0 : Int32)), (.int (0 : Int32)), (.int (0 : Int32)), (.int (0 : Int32))] (.int (0 : Int32)) := V1293.pad (pad_rep [] _ 15)
      refine g_dup C at_189 rfl ?_
      refine g_iconst C 0 at_190 rfl ?_
      refine g_aload C at_191 rfl rfl ?_
      refine g_iconst C 0 at_193 rfl ?_
      have K1294 : Keep h1289 h1292 [] := (Keep.refl h1289 []).ext E1292
      have K1295 : Keep h1289 h1293 [] := K1294.ext E1293
      have S1296 := (S1289.keep K1295 nin0 nin0)
      have K1297 : Keep h0 h1292 [] := K1290.ext E1292
      have K1298 : Keep h0 h1293 [] := K1297.ext E1293
      have E1300 := (S1289.1.keep K1295)
      refine g_virtual C E1300 w_241 w_242 (fun hZ => nf_sel hw w_244 hZ) w_244 w_243 (by decide) [(.int (0 : Int32))] (ct_ch hEL hw S1296 (Sta_keep Szc K1298) hzc (Sta_keep Sfm K1298) hfm 0 (nb rfl) (0 : Int32) rfl) all0 (by decide) 5 (by decide) rfl pd__I_C rfl [(.int (0 : Int32)), (.ref b1293), (.ref b1293), (.ref b1292), (.ref b1292)] rfl (Nat.le_of_eq rfl) at_194 (by decide) (by decide) ?_
      intro v1299 h1299 Q1299
      obtain ⟨ev1299, e1299⟩ := Q1299
      replace e1299 := e1299.symm
      subst e1299
      replace ev1299 : v1299 = some (.int (104 : Int32)) := ev1299
      subst ev1299
      refine g_castore C V1293 (mg (i := 0) rfl) at_197 ⟨by decide, by decide⟩ 0 rfl (nb rfl) ?_
      intro h1301 W1301 V1301
      rw [nar_ch8 (by unfold Ch8; decide)] at V1301
      replace V1301 : Arv Z h1301 b1293 ka1293 .char (15 : Int32) [(.int (104 : Int32)), (.int (0 : Int32)), (.int (0 : Int32)), (.int (0 : Int32)), (.int (0 : Int32)), (.int (0 : Int32)), (.int (0 : Int32)), (.int (0 : Int32)), (.int (0 : Int32)), (.int (0 : Int32)), (.int (0 : Int32)), (.int (0 : Int32)), (.int (0 : Int32)), (.int (0 : Int32)), (.int (0 : Int32))] (.int (0 : Int32)) := V1301
      refine g_dup C at_198 rfl ?_
      refine g_iconst C 1 at_199 rfl ?_
      refine g_aload C at_200 rfl rfl ?_
      refine g_iconst C 1 at_202 rfl ?_
      have E1302 := (S1289.1.keep K1294)
      have S1303 := (S1289.keep K1294 nin0 nin0)
      have S1304 := (S1296.other W1301 (Nat.ne_of_lt (Nat.lt_of_lt_of_le E1302.lt (Nat.le_of_eq g1293.symm))) (Nat.ne_of_lt (Nat.lt_of_lt_of_le S1303.tlt (Nat.le_of_eq g1293.symm))))
      have K1305 : Keep h0 h1301 [] := K1298.wr W1301 (Or.inr (Nat.le_trans K1297.1 (Nat.le_of_eq g1293.symm)))
      have E1307 := (E1300.wr W1301)
      refine g_virtual C E1307 w_241 w_242 (fun hZ => nf_sel hw w_244 hZ) w_244 w_243 (by decide) [(.int (1 : Int32))] (ct_ch hEL hw S1304 (Sta_keep Szc K1305) hzc (Sta_keep Sfm K1305) hfm 1 (nb rfl) (1 : Int32) rfl) all0 (by decide) 5 (by decide) rfl pd__I_C rfl [(.int (1 : Int32)), (.ref b1293), (.ref b1293), (.ref b1292), (.ref b1292)] rfl (Nat.le_of_eq rfl) at_203 (by decide) (by decide) ?_
      intro v1306 h1306 Q1306
      obtain ⟨ev1306, e1306⟩ := Q1306
      replace e1306 := e1306.symm
      subst e1306
      replace ev1306 : v1306 = some (.int (111 : Int32)) := ev1306
      subst ev1306
      refine g_castore C V1301 (mg (i := 0) rfl) at_206 ⟨by decide, by decide⟩ 1 rfl (nb rfl) ?_
      intro h1308 W1308 V1308
      rw [nar_ch8 (by unfold Ch8; decide)] at V1308
      replace V1308 : Arv Z h1308 b1293 ka1293 .char (15 : Int32) [(.int (104 : Int32)), (.int (111 : Int32)), (.int (0 : Int32)), (.int (0 : Int32)), (.int (0 : Int32)), (.int (0 : Int32)), (.int (0 : Int32)), (.int (0 : Int32)), (.int (0 : Int32)), (.int (0 : Int32)), (.int (0 : Int32)), (.int (0 : Int32)), (.int (0 : Int32)), (.int (0 : Int32)), (.int (0 : Int32))] (.int (0 : Int32)) := V1308
      refine g_dup C at_207 rfl ?_
      refine g_iconst C 2 at_208 rfl ?_
      refine g_aload C at_209 rfl rfl ?_
      refine g_iconst C 2 at_211 rfl ?_
      have S1309 := (S1304.other W1308 (Nat.ne_of_lt (Nat.lt_of_lt_of_le E1302.lt (Nat.le_of_eq g1293.symm))) (Nat.ne_of_lt (Nat.lt_of_lt_of_le S1303.tlt (Nat.le_of_eq g1293.symm))))
      have K1310 : Keep h0 h1308 [] := K1305.wr W1308 (Or.inr (Nat.le_trans K1297.1 (Nat.le_of_eq g1293.symm)))
      have E1312 := (E1307.wr W1308)
      refine g_virtual C E1312 w_241 w_242 (fun hZ => nf_sel hw w_244 hZ) w_244 w_243 (by decide) [(.int (2 : Int32))] (ct_ch hEL hw S1309 (Sta_keep Szc K1310) hzc (Sta_keep Sfm K1310) hfm 2 (nb rfl) (2 : Int32) rfl) all0 (by decide) 5 (by decide) rfl pd__I_C rfl [(.int (2 : Int32)), (.ref b1293), (.ref b1293), (.ref b1292), (.ref b1292)] rfl (Nat.le_of_eq rfl) at_212 (by decide) (by decide) ?_
      intro v1311 h1311 Q1311
      obtain ⟨ev1311, e1311⟩ := Q1311
      replace e1311 := e1311.symm
      subst e1311
      replace ev1311 : v1311 = some (.int (108 : Int32)) := ev1311
      subst ev1311
      refine g_castore C V1308 (mg (i := 0) rfl) at_215 ⟨by decide, by decide⟩ 2 rfl (nb rfl) ?_
      intro h1313 W1313 V1313
      rw [nar_ch8 (by unfold Ch8; decide)] at V1313
      replace V1313 : Arv Z h1313 b1293 ka1293 .char (15 : Int32) [(.int (104 : Int32)), (.int (111 : Int32)), (.int (108 : Int32)), (.int (0 : Int32)), (.int (0 : Int32)), (.int (0 : Int32)), (.int (0 : Int32)), (.int (0 : Int32)), (.int (0 : Int32)), (.int (0 : Int32)), (.int (0 : Int32)), (.int (0 : Int32)), (.int (0 : Int32)), (.int (0 : Int32)), (.int (0 : Int32))] (.int (0 : Int32)) := V1313
      refine g_dup C at_216 rfl ?_
      refine g_iconst C 3 at_217 rfl ?_
      refine g_aload C at_218 rfl rfl ?_
      refine g_iconst C 3 at_220 rfl ?_
      have S1314 := (S1309.other W1313 (Nat.ne_of_lt (Nat.lt_of_lt_of_le E1302.lt (Nat.le_of_eq g1293.symm))) (Nat.ne_of_lt (Nat.lt_of_lt_of_le S1303.tlt (Nat.le_of_eq g1293.symm))))
      have K1315 : Keep h0 h1313 [] := K1310.wr W1313 (Or.inr (Nat.le_trans K1297.1 (Nat.le_of_eq g1293.symm)))
      have E1317 := (E1312.wr W1313)
      refine g_virtual C E1317 w_241 w_242 (fun hZ => nf_sel hw w_244 hZ) w_244 w_243 (by decide) [(.int (3 : Int32))] (ct_ch hEL hw S1314 (Sta_keep Szc K1315) hzc (Sta_keep Sfm K1315) hfm 3 (nb rfl) (3 : Int32) rfl) all0 (by decide) 5 (by decide) rfl pd__I_C rfl [(.int (3 : Int32)), (.ref b1293), (.ref b1293), (.ref b1292), (.ref b1292)] rfl (Nat.le_of_eq rfl) at_221 (by decide) (by decide) ?_
      intro v1316 h1316 Q1316
      obtain ⟨ev1316, e1316⟩ := Q1316
      replace e1316 := e1316.symm
      subst e1316
      replace ev1316 : v1316 = some (.int (100 : Int32)) := ev1316
      subst ev1316
      refine g_castore C V1313 (mg (i := 0) rfl) at_224 ⟨by decide, by decide⟩ 3 rfl (nb rfl) ?_
      intro h1318 W1318 V1318
      rw [nar_ch8 (by unfold Ch8; decide)] at V1318
      replace V1318 : Arv Z h1318 b1293 ka1293 .char (15 : Int32) [(.int (104 : Int32)), (.int (111 : Int32)), (.int (108 : Int32)), (.int (100 : Int32)), (.int (0 : Int32)), (.int (0 : Int32)), (.int (0 : Int32)), (.int (0 : Int32)), (.int (0 : Int32)), (.int (0 : Int32)), (.int (0 : Int32)), (.int (0 : Int32)), (.int (0 : Int32)), (.int (0 : Int32)), (.int (0 : Int32))] (.int (0 : Int32)) := V1318
      refine g_dup C at_225 rfl ?_
      refine g_iconst C 4 at_226 rfl ?_
      refine g_aload C at_227 rfl rfl ?_
      refine g_iconst C 4 at_229 rfl ?_
      have S1319 := (S1314.other W1318 (Nat.ne_of_lt (Nat.lt_of_lt_of_le E1302.lt (Nat.le_of_eq g1293.symm))) (Nat.ne_of_lt (Nat.lt_of_lt_of_le S1303.tlt (Nat.le_of_eq g1293.symm))))
      have K1320 : Keep h0 h1318 [] := K1315.wr W1318 (Or.inr (Nat.le_trans K1297.1 (Nat.le_of_eq g1293.symm)))
      have E1322 := (E1317.wr W1318)
      refine g_virtual C E1322 w_241 w_242 (fun hZ => nf_sel hw w_244 hZ) w_244 w_243 (by decide) [(.int (4 : Int32))] (ct_ch hEL hw S1319 (Sta_keep Szc K1320) hzc (Sta_keep Sfm K1320) hfm 4 (nb rfl) (4 : Int32) rfl) all0 (by decide) 5 (by decide) rfl pd__I_C rfl [(.int (4 : Int32)), (.ref b1293), (.ref b1293), (.ref b1292), (.ref b1292)] rfl (Nat.le_of_eq rfl) at_230 (by decide) (by decide) ?_
      intro v1321 h1321 Q1321
      obtain ⟨ev1321, e1321⟩ := Q1321
      replace e1321 := e1321.symm
      subst e1321
      replace ev1321 : v1321 = some (.int (102 : Int32)) := ev1321
      subst ev1321
      refine g_castore C V1318 (mg (i := 0) rfl) at_233 ⟨by decide, by decide⟩ 4 rfl (nb rfl) ?_
      intro h1323 W1323 V1323
      rw [nar_ch8 (by unfold Ch8; decide)] at V1323
      replace V1323 : Arv Z h1323 b1293 ka1293 .char (15 : Int32) [(.int (104 : Int32)), (.int (111 : Int32)), (.int (108 : Int32)), (.int (100 : Int32)), (.int (102 : Int32)), (.int (0 : Int32)), (.int (0 : Int32)), (.int (0 : Int32)), (.int (0 : Int32)), (.int (0 : Int32)), (.int (0 : Int32)), (.int (0 : Int32)), (.int (0 : Int32)), (.int (0 : Int32)), (.int (0 : Int32))] (.int (0 : Int32)) := V1323
      refine g_dup C at_234 rfl ?_
      refine g_iconst C 5 at_235 rfl ?_
      refine g_aload C at_236 rfl rfl ?_
      refine g_iconst C 5 at_238 rfl ?_
      have S1324 := (S1319.other W1323 (Nat.ne_of_lt (Nat.lt_of_lt_of_le E1302.lt (Nat.le_of_eq g1293.symm))) (Nat.ne_of_lt (Nat.lt_of_lt_of_le S1303.tlt (Nat.le_of_eq g1293.symm))))
      have K1325 : Keep h0 h1323 [] := K1320.wr W1323 (Or.inr (Nat.le_trans K1297.1 (Nat.le_of_eq g1293.symm)))
      have E1327 := (E1322.wr W1323)
      refine g_virtual C E1327 w_241 w_242 (fun hZ => nf_sel hw w_244 hZ) w_244 w_243 (by decide) [(.int (5 : Int32))] (ct_ch hEL hw S1324 (Sta_keep Szc K1325) hzc (Sta_keep Sfm K1325) hfm 5 (nb rfl) (5 : Int32) rfl) all0 (by decide) 5 (by decide) rfl pd__I_C rfl [(.int (5 : Int32)), (.ref b1293), (.ref b1293), (.ref b1292), (.ref b1292)] rfl (Nat.le_of_eq rfl) at_239 (by decide) (by decide) ?_
      intro v1326 h1326 Q1326
      obtain ⟨ev1326, e1326⟩ := Q1326
      replace e1326 := e1326.symm
      subst e1326
      replace ev1326 : v1326 = some (.int (97 : Int32)) := ev1326
      subst ev1326
      refine g_castore C V1323 (mg (i := 0) rfl) at_242 ⟨by decide, by decide⟩ 5 rfl (nb rfl) ?_
      intro h1328 W1328 V1328
      rw [nar_ch8 (by unfold Ch8; decide)] at V1328
      replace V1328 : Arv Z h1328 b1293 ka1293 .char (15 : Int32) [(.int (104 : Int32)), (.int (111 : Int32)), (.int (108 : Int32)), (.int (100 : Int32)), (.int (102 : Int32)), (.int (97 : Int32)), (.int (0 : Int32)), (.int (0 : Int32)), (.int (0 : Int32)), (.int (0 : Int32)), (.int (0 : Int32)), (.int (0 : Int32)), (.int (0 : Int32)), (.int (0 : Int32)), (.int (0 : Int32))] (.int (0 : Int32)) := V1328
      refine g_dup C at_243 rfl ?_
      refine g_bipush C 6 at_244 rfl ?_
      refine g_aload C at_246 rfl rfl ?_
      refine g_bipush C 6 at_248 rfl ?_
      have S1329 := (S1324.other W1328 (Nat.ne_of_lt (Nat.lt_of_lt_of_le E1302.lt (Nat.le_of_eq g1293.symm))) (Nat.ne_of_lt (Nat.lt_of_lt_of_le S1303.tlt (Nat.le_of_eq g1293.symm))))
      have K1330 : Keep h0 h1328 [] := K1325.wr W1328 (Or.inr (Nat.le_trans K1297.1 (Nat.le_of_eq g1293.symm)))
      have E1332 := (E1327.wr W1328)
      refine g_virtual C E1332 w_241 w_242 (fun hZ => nf_sel hw w_244 hZ) w_244 w_243 (by decide) [(.int (6 : Int32))] (ct_ch hEL hw S1329 (Sta_keep Szc K1330) hzc (Sta_keep Sfm K1330) hfm 6 (nb rfl) (6 : Int32) rfl) all0 (by decide) 5 (by decide) rfl pd__I_C rfl [(.int (6 : Int32)), (.ref b1293), (.ref b1293), (.ref b1292), (.ref b1292)] rfl (Nat.le_of_eq rfl) at_250 (by decide) (by decide) ?_
      intro v1331 h1331 Q1331
      obtain ⟨ev1331, e1331⟩ := Q1331
      replace e1331 := e1331.symm
      subst e1331
      replace ev1331 : v1331 = some (.int (115 : Int32)) := ev1331
      subst ev1331
      refine g_castore C V1328 (mg (i := 0) rfl) at_253 ⟨by decide, by decide⟩ 6 rfl (nb rfl) ?_
      intro h1333 W1333 V1333
      rw [nar_ch8 (by unfold Ch8; decide)] at V1333
      replace V1333 : Arv Z h1333 b1293 ka1293 .char (15 : Int32) [(.int (104 : Int32)), (.int (111 : Int32)), (.int (108 : Int32)), (.int (100 : Int32)), (.int (102 : Int32)), (.int (97 : Int32)), (.int (115 : Int32)), (.int (0 : Int32)), (.int (0 : Int32)), (.int (0 : Int32)), (.int (0 : Int32)), (.int (0 : Int32)), (.int (0 : Int32)), (.int (0 : Int32)), (.int (0 : Int32))] (.int (0 : Int32)) := V1333
      refine g_dup C at_254 rfl ?_
      refine g_bipush C 7 at_255 rfl ?_
      refine g_aload C at_257 rfl rfl ?_
      refine g_bipush C 7 at_259 rfl ?_
      have S1334 := (S1329.other W1333 (Nat.ne_of_lt (Nat.lt_of_lt_of_le E1302.lt (Nat.le_of_eq g1293.symm))) (Nat.ne_of_lt (Nat.lt_of_lt_of_le S1303.tlt (Nat.le_of_eq g1293.symm))))
      have K1335 : Keep h0 h1333 [] := K1330.wr W1333 (Or.inr (Nat.le_trans K1297.1 (Nat.le_of_eq g1293.symm)))
      have E1337 := (E1332.wr W1333)
      refine g_virtual C E1337 w_241 w_242 (fun hZ => nf_sel hw w_244 hZ) w_244 w_243 (by decide) [(.int (7 : Int32))] (ct_ch hEL hw S1334 (Sta_keep Szc K1335) hzc (Sta_keep Sfm K1335) hfm 7 (nb rfl) (7 : Int32) rfl) all0 (by decide) 5 (by decide) rfl pd__I_C rfl [(.int (7 : Int32)), (.ref b1293), (.ref b1293), (.ref b1292), (.ref b1292)] rfl (Nat.le_of_eq rfl) at_261 (by decide) (by decide) ?_
      intro v1336 h1336 Q1336
      obtain ⟨ev1336, e1336⟩ := Q1336
      replace e1336 := e1336.symm
      subst e1336
      replace ev1336 : v1336 = some (.int (116 : Int32)) := ev1336
      subst ev1336
      refine g_castore C V1333 (mg (i := 0) rfl) at_264 ⟨by decide, by decide⟩ 7 rfl (nb rfl) ?_
      intro h1338 W1338 V1338
      rw [nar_ch8 (by unfold Ch8; decide)] at V1338
      replace V1338 : Arv Z h1338 b1293 ka1293 .char (15 : Int32) [(.int (104 : Int32)), (.int (111 : Int32)), (.int (108 : Int32)), (.int (100 : Int32)), (.int (102 : Int32)), (.int (97 : Int32)), (.int (115 : Int32)), (.int (116 : Int32)), (.int (0 : Int32)), (.int (0 : Int32)), (.int (0 : Int32)), (.int (0 : Int32)), (.int (0 : Int32)), (.int (0 : Int32)), (.int (0 : Int32))] (.int (0 : Int32)) := V1338
      refine g_dup C at_265 rfl ?_
      refine g_bipush C 8 at_266 rfl ?_
      refine g_aload C at_268 rfl rfl ?_
      refine g_bipush C 8 at_270 rfl ?_
      have S1339 := (S1334.other W1338 (Nat.ne_of_lt (Nat.lt_of_lt_of_le E1302.lt (Nat.le_of_eq g1293.symm))) (Nat.ne_of_lt (Nat.lt_of_lt_of_le S1303.tlt (Nat.le_of_eq g1293.symm))))
      have K1340 : Keep h0 h1338 [] := K1335.wr W1338 (Or.inr (Nat.le_trans K1297.1 (Nat.le_of_eq g1293.symm)))
      have E1342 := (E1337.wr W1338)
      refine g_virtual C E1342 w_241 w_242 (fun hZ => nf_sel hw w_244 hZ) w_244 w_243 (by decide) [(.int (8 : Int32))] (ct_ch hEL hw S1339 (Sta_keep Szc K1340) hzc (Sta_keep Sfm K1340) hfm 8 (nb rfl) (8 : Int32) rfl) all0 (by decide) 5 (by decide) rfl pd__I_C rfl [(.int (8 : Int32)), (.ref b1293), (.ref b1293), (.ref b1292), (.ref b1292)] rfl (Nat.le_of_eq rfl) at_272 (by decide) (by decide) ?_
      intro v1341 h1341 Q1341
      obtain ⟨ev1341, e1341⟩ := Q1341
      replace e1341 := e1341.symm
      subst e1341
      replace ev1341 : v1341 = some (.int (58 : Int32)) := ev1341
      subst ev1341
      refine g_castore C V1338 (mg (i := 0) rfl) at_275 ⟨by decide, by decide⟩ 8 rfl (nb rfl) ?_
      intro h1343 W1343 V1343
      rw [nar_ch8 (by unfold Ch8; decide)] at V1343
      replace V1343 : Arv Z h1343 b1293 ka1293 .char (15 : Int32) [(.int (104 : Int32)), (.int (111 : Int32)), (.int (108 : Int32)), (.int (100 : Int32)), (.int (102 : Int32)), (.int (97 : Int32)), (.int (115 : Int32)), (.int (116 : Int32)), (.int (58 : Int32)), (.int (0 : Int32)), (.int (0 : Int32)), (.int (0 : Int32)), (.int (0 : Int32)), (.int (0 : Int32)), (.int (0 : Int32))] (.int (0 : Int32)) := V1343
      refine g_dup C at_276 rfl ?_
      refine g_bipush C 9 at_277 rfl ?_
      refine g_aload C at_279 rfl rfl ?_
      refine g_bipush C 9 at_281 rfl ?_
      have S1344 := (S1339.other W1343 (Nat.ne_of_lt (Nat.lt_of_lt_of_le E1302.lt (Nat.le_of_eq g1293.symm))) (Nat.ne_of_lt (Nat.lt_of_lt_of_le S1303.tlt (Nat.le_of_eq g1293.symm))))
      have K1345 : Keep h0 h1343 [] := K1340.wr W1343 (Or.inr (Nat.le_trans K1297.1 (Nat.le_of_eq g1293.symm)))
      have E1347 := (E1342.wr W1343)
      refine g_virtual C E1347 w_241 w_242 (fun hZ => nf_sel hw w_244 hZ) w_244 w_243 (by decide) [(.int (9 : Int32))] (ct_ch hEL hw S1344 (Sta_keep Szc K1345) hzc (Sta_keep Sfm K1345) hfm 9 (nb rfl) (9 : Int32) rfl) all0 (by decide) 5 (by decide) rfl pd__I_C rfl [(.int (9 : Int32)), (.ref b1293), (.ref b1293), (.ref b1292), (.ref b1292)] rfl (Nat.le_of_eq rfl) at_283 (by decide) (by decide) ?_
      intro v1346 h1346 Q1346
      obtain ⟨ev1346, e1346⟩ := Q1346
      replace e1346 := e1346.symm
      subst e1346
      replace ev1346 : v1346 = some (.int (99 : Int32)) := ev1346
      subst ev1346
      refine g_castore C V1343 (mg (i := 0) rfl) at_286 ⟨by decide, by decide⟩ 9 rfl (nb rfl) ?_
      intro h1348 W1348 V1348
      rw [nar_ch8 (by unfold Ch8; decide)] at V1348
      replace V1348 : Arv Z h1348 b1293 ka1293 .char (15 : Int32) [(.int (104 : Int32)), (.int (111 : Int32)), (.int (108 : Int32)), (.int (100 : Int32)), (.int (102 : Int32)), (.int (97 : Int32)), (.int (115 : Int32)), (.int (116 : Int32)), (.int (58 : Int32)), (.int (99 : Int32)), (.int (0 : Int32)), (.int (0 : Int32)), (.int (0 : Int32)), (.int (0 : Int32)), (.int (0 : Int32))] (.int (0 : Int32)) := V1348
      refine g_dup C at_287 rfl ?_
      refine g_bipush C 10 at_288 rfl ?_
      refine g_aload C at_290 rfl rfl ?_
      refine g_bipush C 10 at_292 rfl ?_
      have S1349 := (S1344.other W1348 (Nat.ne_of_lt (Nat.lt_of_lt_of_le E1302.lt (Nat.le_of_eq g1293.symm))) (Nat.ne_of_lt (Nat.lt_of_lt_of_le S1303.tlt (Nat.le_of_eq g1293.symm))))
      have K1350 : Keep h0 h1348 [] := K1345.wr W1348 (Or.inr (Nat.le_trans K1297.1 (Nat.le_of_eq g1293.symm)))
      have E1352 := (E1347.wr W1348)
      refine g_virtual C E1352 w_241 w_242 (fun hZ => nf_sel hw w_244 hZ) w_244 w_243 (by decide) [(.int (10 : Int32))] (ct_ch hEL hw S1349 (Sta_keep Szc K1350) hzc (Sta_keep Sfm K1350) hfm 10 (nb rfl) (10 : Int32) rfl) all0 (by decide) 5 (by decide) rfl pd__I_C rfl [(.int (10 : Int32)), (.ref b1293), (.ref b1293), (.ref b1292), (.ref b1292)] rfl (Nat.le_of_eq rfl) at_294 (by decide) (by decide) ?_
      intro v1351 h1351 Q1351
      obtain ⟨ev1351, e1351⟩ := Q1351
      replace e1351 := e1351.symm
      subst e1351
      replace ev1351 : v1351 = some (.int (97 : Int32)) := ev1351
      subst ev1351
      refine g_castore C V1348 (mg (i := 0) rfl) at_297 ⟨by decide, by decide⟩ 10 rfl (nb rfl) ?_
      intro h1353 W1353 V1353
      rw [nar_ch8 (by unfold Ch8; decide)] at V1353
      replace V1353 : Arv Z h1353 b1293 ka1293 .char (15 : Int32) [(.int (104 : Int32)), (.int (111 : Int32)), (.int (108 : Int32)), (.int (100 : Int32)), (.int (102 : Int32)), (.int (97 : Int32)), (.int (115 : Int32)), (.int (116 : Int32)), (.int (58 : Int32)), (.int (99 : Int32)), (.int (97 : Int32)), (.int (0 : Int32)), (.int (0 : Int32)), (.int (0 : Int32)), (.int (0 : Int32))] (.int (0 : Int32)) := V1353
      refine g_dup C at_298 rfl ?_
      refine g_bipush C 11 at_299 rfl ?_
      refine g_aload C at_301 rfl rfl ?_
      refine g_bipush C 11 at_303 rfl ?_
      have S1354 := (S1349.other W1353 (Nat.ne_of_lt (Nat.lt_of_lt_of_le E1302.lt (Nat.le_of_eq g1293.symm))) (Nat.ne_of_lt (Nat.lt_of_lt_of_le S1303.tlt (Nat.le_of_eq g1293.symm))))
      have K1355 : Keep h0 h1353 [] := K1350.wr W1353 (Or.inr (Nat.le_trans K1297.1 (Nat.le_of_eq g1293.symm)))
      have E1357 := (E1352.wr W1353)
      refine g_virtual C E1357 w_241 w_242 (fun hZ => nf_sel hw w_244 hZ) w_244 w_243 (by decide) [(.int (11 : Int32))] (ct_ch hEL hw S1354 (Sta_keep Szc K1355) hzc (Sta_keep Sfm K1355) hfm 11 (nb rfl) (11 : Int32) rfl) all0 (by decide) 5 (by decide) rfl pd__I_C rfl [(.int (11 : Int32)), (.ref b1293), (.ref b1293), (.ref b1292), (.ref b1292)] rfl (Nat.le_of_eq rfl) at_305 (by decide) (by decide) ?_
      intro v1356 h1356 Q1356
      obtain ⟨ev1356, e1356⟩ := Q1356
      replace e1356 := e1356.symm
      subst e1356
      replace ev1356 : v1356 = some (.int (108 : Int32)) := ev1356
      subst ev1356
      refine g_castore C V1353 (mg (i := 0) rfl) at_308 ⟨by decide, by decide⟩ 11 rfl (nb rfl) ?_
      intro h1358 W1358 V1358
      rw [nar_ch8 (by unfold Ch8; decide)] at V1358
      replace V1358 : Arv Z h1358 b1293 ka1293 .char (15 : Int32) [(.int (104 : Int32)), (.int (111 : Int32)), (.int (108 : Int32)), (.int (100 : Int32)), (.int (102 : Int32)), (.int (97 : Int32)), (.int (115 : Int32)), (.int (116 : Int32)), (.int (58 : Int32)), (.int (99 : Int32)), (.int (97 : Int32)), (.int (108 : Int32)), (.int (0 : Int32)), (.int (0 : Int32)), (.int (0 : Int32))] (.int (0 : Int32)) := V1358
      refine g_dup C at_309 rfl ?_
      refine g_bipush C 12 at_310 rfl ?_
      refine g_aload C at_312 rfl rfl ?_
      refine g_bipush C 12 at_314 rfl ?_
      have S1359 := (S1354.other W1358 (Nat.ne_of_lt (Nat.lt_of_lt_of_le E1302.lt (Nat.le_of_eq g1293.symm))) (Nat.ne_of_lt (Nat.lt_of_lt_of_le S1303.tlt (Nat.le_of_eq g1293.symm))))
      have K1360 : Keep h0 h1358 [] := K1355.wr W1358 (Or.inr (Nat.le_trans K1297.1 (Nat.le_of_eq g1293.symm)))
      have E1362 := (E1357.wr W1358)
      refine g_virtual C E1362 w_241 w_242 (fun hZ => nf_sel hw w_244 hZ) w_244 w_243 (by decide) [(.int (12 : Int32))] (ct_ch hEL hw S1359 (Sta_keep Szc K1360) hzc (Sta_keep Sfm K1360) hfm 12 (nb rfl) (12 : Int32) rfl) all0 (by decide) 5 (by decide) rfl pd__I_C rfl [(.int (12 : Int32)), (.ref b1293), (.ref b1293), (.ref b1292), (.ref b1292)] rfl (Nat.le_of_eq rfl) at_316 (by decide) (by decide) ?_
      intro v1361 h1361 Q1361
      obtain ⟨ev1361, e1361⟩ := Q1361
      replace e1361 := e1361.symm
      subst e1361
      replace ev1361 : v1361 = some (.int (108 : Int32)) := ev1361
      subst ev1361
      refine g_castore C V1358 (mg (i := 0) rfl) at_319 ⟨by decide, by decide⟩ 12 rfl (nb rfl) ?_
      intro h1363 W1363 V1363
      rw [nar_ch8 (by unfold Ch8; decide)] at V1363
      replace V1363 : Arv Z h1363 b1293 ka1293 .char (15 : Int32) [(.int (104 : Int32)), (.int (111 : Int32)), (.int (108 : Int32)), (.int (100 : Int32)), (.int (102 : Int32)), (.int (97 : Int32)), (.int (115 : Int32)), (.int (116 : Int32)), (.int (58 : Int32)), (.int (99 : Int32)), (.int (97 : Int32)), (.int (108 : Int32)), (.int (108 : Int32)), (.int (0 : Int32)), (.int (0 : Int32))] (.int (0 : Int32)) := V1363
      refine g_dup C at_320 rfl ?_
      refine g_bipush C 13 at_321 rfl ?_
      refine g_aload C at_323 rfl rfl ?_
      refine g_bipush C 13 at_325 rfl ?_
      have S1364 := (S1359.other W1363 (Nat.ne_of_lt (Nat.lt_of_lt_of_le E1302.lt (Nat.le_of_eq g1293.symm))) (Nat.ne_of_lt (Nat.lt_of_lt_of_le S1303.tlt (Nat.le_of_eq g1293.symm))))
      have K1365 : Keep h0 h1363 [] := K1360.wr W1363 (Or.inr (Nat.le_trans K1297.1 (Nat.le_of_eq g1293.symm)))
      have E1367 := (E1362.wr W1363)
      refine g_virtual C E1367 w_241 w_242 (fun hZ => nf_sel hw w_244 hZ) w_244 w_243 (by decide) [(.int (13 : Int32))] (ct_ch hEL hw S1364 (Sta_keep Szc K1365) hzc (Sta_keep Sfm K1365) hfm 13 (nb rfl) (13 : Int32) rfl) all0 (by decide) 5 (by decide) rfl pd__I_C rfl [(.int (13 : Int32)), (.ref b1293), (.ref b1293), (.ref b1292), (.ref b1292)] rfl (Nat.le_of_eq rfl) at_327 (by decide) (by decide) ?_
      intro v1366 h1366 Q1366
      obtain ⟨ev1366, e1366⟩ := Q1366
      replace e1366 := e1366.symm
      subst e1366
      replace ev1366 : v1366 = some (.int (58 : Int32)) := ev1366
      subst ev1366
      refine g_castore C V1363 (mg (i := 0) rfl) at_330 ⟨by decide, by decide⟩ 13 rfl (nb rfl) ?_
      intro h1368 W1368 V1368
      rw [nar_ch8 (by unfold Ch8; decide)] at V1368
      replace V1368 : Arv Z h1368 b1293 ka1293 .char (15 : Int32) [(.int (104 : Int32)), (.int (111 : Int32)), (.int (108 : Int32)), (.int (100 : Int32)), (.int (102 : Int32)), (.int (97 : Int32)), (.int (115 : Int32)), (.int (116 : Int32)), (.int (58 : Int32)), (.int (99 : Int32)), (.int (97 : Int32)), (.int (108 : Int32)), (.int (108 : Int32)), (.int (58 : Int32)), (.int (0 : Int32))] (.int (0 : Int32)) := V1368
      refine g_dup C at_331 rfl ?_
      refine g_bipush C 14 at_332 rfl ?_
      refine g_aload C at_334 rfl rfl ?_
      refine g_bipush C 14 at_336 rfl ?_
      have S1369 := (S1364.other W1368 (Nat.ne_of_lt (Nat.lt_of_lt_of_le E1302.lt (Nat.le_of_eq g1293.symm))) (Nat.ne_of_lt (Nat.lt_of_lt_of_le S1303.tlt (Nat.le_of_eq g1293.symm))))
      have K1370 : Keep h0 h1368 [] := K1365.wr W1368 (Or.inr (Nat.le_trans K1297.1 (Nat.le_of_eq g1293.symm)))
      have E1372 := (E1367.wr W1368)
      refine g_virtual C E1372 w_241 w_242 (fun hZ => nf_sel hw w_244 hZ) w_244 w_243 (by decide) [(.int (14 : Int32))] (ct_ch hEL hw S1369 (Sta_keep Szc K1370) hzc (Sta_keep Sfm K1370) hfm 14 (nb rfl) (14 : Int32) rfl) all0 (by decide) 5 (by decide) rfl pd__I_C rfl [(.int (14 : Int32)), (.ref b1293), (.ref b1293), (.ref b1292), (.ref b1292)] rfl (Nat.le_of_eq rfl) at_338 (by decide) (by decide) ?_
      intro v1371 h1371 Q1371
      obtain ⟨ev1371, e1371⟩ := Q1371
      replace e1371 := e1371.symm
      subst e1371
      replace ev1371 : v1371 = some (.int (123 : Int32)) := ev1371
      subst ev1371
      refine g_castore C V1368 (mg (i := 0) rfl) at_341 ⟨by decide, by decide⟩ 14 rfl (nb rfl) ?_
      intro h1373 W1373 V1373
      rw [nar_ch8 (by unfold Ch8; decide)] at V1373
      replace V1373 : Arv Z h1373 b1293 ka1293 .char (15 : Int32) [(.int (104 : Int32)), (.int (111 : Int32)), (.int (108 : Int32)), (.int (100 : Int32)), (.int (102 : Int32)), (.int (97 : Int32)), (.int (115 : Int32)), (.int (116 : Int32)), (.int (58 : Int32)), (.int (99 : Int32)), (.int (97 : Int32)), (.int (108 : Int32)), (.int (108 : Int32)), (.int (58 : Int32)), (.int (123 : Int32))] (.int (0 : Int32)) := V1373
      have K1374 : Keep h1292 h1293 [] := (Keep.refl h1292 []).ext E1293
      have K1375 : Keep h1292 h1301 [] := K1374.wr W1301 (Or.inr (Nat.le_of_eq g1293.symm))
      have K1376 : Keep h1292 h1308 [] := K1375.wr W1308 (Or.inr (Nat.le_of_eq g1293.symm))
      have K1377 : Keep h1292 h1313 [] := K1376.wr W1313 (Or.inr (Nat.le_of_eq g1293.symm))
      have K1378 : Keep h1292 h1318 [] := K1377.wr W1318 (Or.inr (Nat.le_of_eq g1293.symm))
      have K1379 : Keep h1292 h1323 [] := K1378.wr W1323 (Or.inr (Nat.le_of_eq g1293.symm))
      have K1380 : Keep h1292 h1328 [] := K1379.wr W1328 (Or.inr (Nat.le_of_eq g1293.symm))
      have K1381 : Keep h1292 h1333 [] := K1380.wr W1333 (Or.inr (Nat.le_of_eq g1293.symm))
      have K1382 : Keep h1292 h1338 [] := K1381.wr W1338 (Or.inr (Nat.le_of_eq g1293.symm))
      have K1383 : Keep h1292 h1343 [] := K1382.wr W1343 (Or.inr (Nat.le_of_eq g1293.symm))
      have K1384 : Keep h1292 h1348 [] := K1383.wr W1348 (Or.inr (Nat.le_of_eq g1293.symm))
      have K1385 : Keep h1292 h1353 [] := K1384.wr W1353 (Or.inr (Nat.le_of_eq g1293.symm))
      have K1386 : Keep h1292 h1358 [] := K1385.wr W1358 (Or.inr (Nat.le_of_eq g1293.symm))
      have K1387 : Keep h1292 h1363 [] := K1386.wr W1363 (Or.inr (Nat.le_of_eq g1293.symm))
      have K1388 : Keep h1292 h1368 [] := K1387.wr W1368 (Or.inr (Nat.le_of_eq g1293.symm))
      have K1389 : Keep h1292 h1373 [] := K1388.wr W1373 (Or.inr (Nat.le_of_eq g1293.symm))
      have E1390 := (A1292.keep K1389)
      have F1391 := ((D1292 (Or.inr (C.hw w_27)) (ty := (.array .byte)) (by decide)).keep K1389 nin0)
      have F1392 := ((D1292 (Or.inr (C.hw w_29)) (ty := .byte) (by decide)).keep K1389 nin0)
      have K1393 : Keep h0 h1373 [] := K1370.wr W1373 (Or.inr (Nat.le_trans K1297.1 (Nat.le_of_eq g1293.symm)))
      refine g_special C (a := b1292) w_255 w_256 w_257 rfl (by decide) [(.ref b1293)] (ct_newS hEL hw (cs := [(104 : Int32), (111 : Int32), (108 : Int32), (100 : Int32), (102 : Int32), (97 : Int32), (115 : Int32), (116 : Int32), (58 : Int32), (99 : Int32), (97 : Int32), (108 : Int32), (108 : Int32), (58 : Int32), (123 : Int32)]) (n := 15) E1390 F1391 F1392 V1373 (Sta_keep Szc K1393) hzc rfl (by decide) (by decide) (own_allc (by unfold Ch8; decide) (own_allc (by unfold Ch8; decide) (own_allc (by unfold Ch8; decide) (own_allc (by unfold Ch8; decide) (own_allc (by unfold Ch8; decide) (own_allc (by unfold Ch8; decide) (own_allc (by unfold Ch8; decide) (own_allc (by unfold Ch8; decide) (own_allc (by unfold Ch8; decide) (own_allc (by unfold Ch8; decide) (own_allc (by unfold Ch8; decide) (own_allc (by unfold Ch8; decide) (own_allc (by unfold Ch8; decide) (own_allc (by unfold Ch8; decide) (own_allc (by unfold Ch8; decide) (fun _ q => nomatch q))))))))))))))))) (allS (mg (i := 1) rfl) all0) (by decide) 1 (by decide) rfl pd___C_V rfl [(.ref b1292)] rfl (Nat.le_of_eq rfl) at_342 (by decide) (by decide) ?_
      intro v1394 h1394 Q1394
      obtain ⟨rfl, KC1394, t1394, kb1394, ht1394, htx1394, S1394⟩ := Q1394
      refine g_astore C #[.val (.int i1), .val (.int i2), .val (.int i3), .val (.int (2 : Int32)), .val (.int z1135), .val (.int z1136), .val (.ref b1137), .val (.int (1 : Int32)), .val (.int c8), .val (.int c9), .val (.ref a1281), .val (.ref a1285), .val (.ref a1289), .val (.ref b1292)] at_345 rfl rfl ?_
      refine g_aload C at_347 rfl rfl ?_
      refine g_ldcS C hEL w_271 own_sA (mg (i := 17) rfl) [104, 111, 108, 100, 102, 97, 115, 116, 58, 99, 97, 108, 108, 58, 123] ⟨by decide +kernel, by decide +kernel⟩ (by decide) (by decide) at_349 60 (by decide +kernel) (by decide) (by decide) (by decide) ?_
      intro a1395 t1395 kb1395 h1395 E1395 S1395 X1395
      have K1396 : Keep h1394 h1395 [] := (Keep.refl h1394 []).ext E1395
      have S1397 := (S1394.keep K1396 nin0 nin0)
      have K1398 : Keep h0 h1394 [] := K1393.trans KC1394 (allS (Or.inr (Nat.le_trans K1290.1 (Nat.le_of_eq g1292.symm))) all0)
      have K1399 : Keep h0 h1395 [] := K1398.ext E1395
      have E1401 := (S1394.1.keep K1396)
      refine g_virtual C E1401 w_272 w_273 (fun hZ => nf_sel hw w_275 hZ) w_275 w_274 (by decide) [(.ref a1395)] (ct_eq hEL hw S1397 S1395 (Sta_keep Szc K1399) hzc) all0 (by decide) 0 (by decide) rfl pd__Ljava_lang_Object__Z rfl [] rfl (Nat.le_of_eq rfl) at_351 (by decide) (by decide) ?_
      intro v1400 h1400 Q1400
      obtain ⟨ev1400, e1400⟩ := Q1400
      replace e1400 := e1400.symm
      subst e1400
      replace ev1400 : v1400 = some (.int (1 : Int32)) := ev1400.trans (by rw [if_pos rfl])
      subst ev1400
      refine g_if_t C 359 at_354 (XT.i0_ne_t (by decide)) (by decide) (by decide) ?_
      refine g_aload C at_359 rfl rfl ?_
      refine g_bipush C 15 at_361 rfl ?_
      have S1402 := (((S1369.other W1373 (Nat.ne_of_lt (Nat.lt_of_lt_of_le E1302.lt (Nat.le_of_eq g1293.symm))) (Nat.ne_of_lt (Nat.lt_of_lt_of_le S1303.tlt (Nat.le_of_eq g1293.symm)))).keep KC1394 (ninS (Nat.ne_of_lt (Nat.lt_of_lt_of_le S1289.1.lt (Nat.le_of_eq g1292.symm))) nin0) (ninS (Nat.ne_of_lt (Nat.lt_of_lt_of_le S1289.tlt (Nat.le_of_eq g1292.symm))) nin0)).ext E1395)
      have E1404 := (((E1372.wr W1373).keep KC1394).ext E1395)
      refine g_virtual C E1404 w_241 w_242 (fun hZ => nf_sel hw w_244 hZ) w_244 w_243 (by decide) [(.int (15 : Int32))] (ct_ch hEL hw S1402 (Sta_keep Szc K1399) hzc (Sta_keep Sfm K1399) hfm 15 (nb rfl) (15 : Int32) rfl) all0 (by decide) 0 (by decide) rfl pd__I_C rfl [] rfl (Nat.le_of_eq rfl) at_363 (by decide) (by decide) ?_
      intro v1403 h1403 Q1403
      obtain ⟨ev1403, e1403⟩ := Q1403
      replace e1403 := e1403.symm
      subst e1403
      replace ev1403 : v1403 = some (.int z1135) := ev1403
      subst ev1403
      refine g_iload C at_366 rfl ?_
      refine g_icmp_t C 373 at_368 (XT.ii_eq_t rfl) (by decide) (by decide) ?_
      refine g_iloadN C at_373 rfl ?_
      refine g_iconst C 2 at_374 rfl ?_
      refine g_icmp_f C at_375 (XT.ii_ne_f (by decide)) ?_
      refine g_aload C at_378 rfl rfl ?_
      refine g_bipush C 16 at_380 rfl ?_
      refine g_virtual C E1404 w_241 w_242 (fun hZ => nf_sel hw w_244 hZ) w_244 w_243 (by decide) [(.int (16 : Int32))] (ct_ch hEL hw S1402 (Sta_keep Szc K1399) hzc (Sta_keep Sfm K1399) hfm 16 (nb rfl) (16 : Int32) rfl) all0 (by decide) 0 (by decide) rfl pd__I_C rfl [] rfl (Nat.le_of_eq rfl) at_382 (by decide) (by decide) ?_
      intro v1405 h1405 Q1405
      obtain ⟨ev1405, e1405⟩ := Q1405
      replace e1405 := e1405.symm
      subst e1405
      replace ev1405 : v1405 = some (.int z1136) := ev1405
      subst ev1405
      refine g_iload C at_385 rfl ?_
      refine g_icmp_t C 392 at_387 (XT.ii_eq_t rfl) (by decide) (by decide) ?_
      refine g_aload C at_392 rfl rfl ?_
      refine g_bipush C 15 at_394 rfl ?_
      refine g_iloadN C at_396 rfl ?_
      refine g_iadd C at_397 ?_
      rw [show ((15 : Int32) + (2 : Int32)) = (17 : Int32) from by decide]
      refine g_virtual C E1404 w_241 w_242 (fun hZ => nf_sel hw w_244 hZ) w_244 w_243 (by decide) [(.int (17 : Int32))] (ct_ch hEL hw S1402 (Sta_keep Szc K1399) hzc (Sta_keep Sfm K1399) hfm 17 (nb rfl) (17 : Int32) rfl) all0 (by decide) 0 (by decide) rfl pd__I_C rfl [] rfl (Nat.le_of_eq rfl) at_398 (by decide) (by decide) ?_
      intro v1406 h1406 Q1406
      obtain ⟨ev1406, e1406⟩ := Q1406
      replace e1406 := e1406.symm
      subst e1406
      replace ev1406 : v1406 = some (.int (125 : Int32)) := ev1406
      subst ev1406
      refine g_bipush C 125 at_401 rfl ?_
      refine g_icmp_f C at_403 (XT.ii_ne_f (by decide)) ?_
      refine g_aload C at_406 rfl rfl ?_
      refine g_bipush C 16 at_408 rfl ?_
      refine g_iloadN C at_410 rfl ?_
      refine g_iadd C at_411 ?_
      rw [show ((16 : Int32) + (2 : Int32)) = (18 : Int32) from by decide]
      refine g_virtual C E1404 w_241 w_242 (fun hZ => nf_sel hw w_244 hZ) w_244 w_243 (by decide) [(.int (18 : Int32))] (ct_ch hEL hw S1402 (Sta_keep Szc K1399) hzc (Sta_keep Sfm K1399) hfm 18 (nb rfl) (18 : Int32) rfl) all0 (by decide) 0 (by decide) rfl pd__I_C rfl [] rfl (Nat.le_of_eq rfl) at_412 (by decide) (by decide) ?_
      intro v1407 h1407 Q1407
      obtain ⟨ev1407, e1407⟩ := Q1407
      replace e1407 := e1407.symm
      subst e1407
      replace ev1407 : v1407 = some (.int (58 : Int32)) := ev1407
      subst ev1407
      refine g_bipush C 58 at_415 rfl ?_
      refine g_icmp_t C 422 at_417 (XT.ii_eq_t (by decide)) (by decide) (by decide) ?_
      refine g_iload C at_422 rfl ?_
      refine g_iconst C 1 at_424 rfl ?_
      refine g_icmp_f C at_425 (XT.ii_lt_f (by decide)) ?_
      refine g_aload C at_428 rfl rfl ?_
      refine g_bipush C 17 at_430 rfl ?_
      refine g_iloadN C at_432 rfl ?_
      refine g_iadd C at_433 ?_
      rw [show ((17 : Int32) + (2 : Int32)) = (19 : Int32) from by decide]
      refine g_virtual C E1404 w_241 w_242 (fun hZ => nf_sel hw w_244 hZ) w_244 w_243 (by decide) [(.int (19 : Int32))] (ct_ch hEL hw S1402 (Sta_keep Szc K1399) hzc (Sta_keep Sfm K1399) hfm 19 (nb rfl) (19 : Int32) rfl) all0 (by decide) 0 (by decide) rfl pd__I_C rfl [] rfl (Nat.le_of_eq rfl) at_434 (by decide) (by decide) ?_
      intro v1408 h1408 Q1408
      obtain ⟨ev1408, e1408⟩ := Q1408
      replace e1408 := e1408.symm
      subst e1408
      replace ev1408 : v1408 = some (.int c8) := ev1408
      subst ev1408
      refine g_iload C at_437 rfl ?_
      refine g_icmp_t C 444 at_439 (XT.ii_eq_t rfl) (by decide) (by decide) ?_
      refine g_iload C at_444 rfl ?_
      refine g_iconst C 2 at_446 rfl ?_
      refine g_icmp_t C 466 at_447 (XT.ii_ne_t (by decide)) (by decide) (by decide) ?_
      refine g_iconst C 1 at_466 rfl ?_
      refine g_ireturnN C hEL (t := .boolean) rfl (by simp) at_467 (by decide) (by decide) ?_
      exact rfl
    · rw [e_dB]
      refine g_iloadN C at_77 rfl ?_
      refine g_sipush C 255 at_78 rfl ?_
      refine g_iand C at_81 ?_
      refine g_i2c C at_82 ?_
      refine g_istore C #[.val (.int i1), .val (.int i2), .val (.int i3), .val (.int (2 : Int32)), .val (.int z1135), .val (.int z1136), .val (.ref b1137), .val (.int (2 : Int32)), .val (.int ((i2 &&& (255 : Int32)).toUInt32.toUInt16.toUInt32.toInt32)), .unset, .unset, .unset, .unset, .unset] at_83 rfl ?_
      obtain ⟨c8, e_c8, h_c8⟩ : ∃ z : Int32, ((i2 &&& (255 : Int32)).toUInt32.toUInt16.toUInt32.toInt32) = z ∧ Ch8 z := ⟨_, rfl, ch8_i2c _⟩
      rw [e_c8]
      refine g_iloadN C at_85 rfl ?_
      refine g_bipush C 8 at_86 rfl ?_
      refine g_iushr C at_88 ?_
      refine g_sipush C 255 at_89 rfl ?_
      refine g_iand C at_92 ?_
      refine g_i2c C at_93 ?_
      refine g_istore C #[.val (.int i1), .val (.int i2), .val (.int i3), .val (.int (2 : Int32)), .val (.int z1135), .val (.int z1136), .val (.ref b1137), .val (.int (2 : Int32)), .val (.int c8), .val (.int ((((i2.toUInt32 >>> ((8 : Int32) &&& 31).toUInt32).toInt32) &&& (255 : Int32)).toUInt32.toUInt16.toUInt32.toInt32)), .unset, .unset, .unset, .unset] at_94 rfl ?_
      obtain ⟨c9, e_c9, h_c9⟩ : ∃ z : Int32, ((((i2.toUInt32 >>> ((8 : Int32) &&& 31).toUInt32).toInt32) &&& (255 : Int32)).toUInt32.toUInt16.toUInt32.toInt32) = z ∧ Ch8 z := ⟨_, rfl, ch8_i2c _⟩
      rw [e_c9]
      refine g_iload C at_96 rfl ?_
      refine g_if_t C 106 at_98 (XT.i0_ne_t (by decide)) (by decide) (by decide) ?_
      refine g_iload C at_106 rfl ?_
      refine g_iconst C 1 at_108 rfl ?_
      refine g_icmp_t C 120 at_109 (XT.ii_ne_t (by decide)) (by decide) (by decide) ?_
      refine g_new C w_239 w_14 w_6 at_120 (by decide) (by decide) ?_
      intro b1409 h1409 g1409 E1409 A1409 D1409
      refine g_dup C at_123 rfl ?_
      refine g_iconst C 2 at_124 rfl ?_
      refine g_newarray C (aty := .char) w_240 at_125 (by decide) 2 (by decide) (by decide) (by decide) (by decide) "[C" rfl ?_
      intro b1410 h1410 ka1410 g1410 E1410 V1410 A1410
      replace V1410 : Arv Z h1410 b1410 ka1410 .char (2 : Int32) [(.int (0 : Int32)), (.int (0 : Int32))] (.int (0 : Int32)) := V1410.pad (pad_rep [] _ 2)
      refine g_dup C at_127 rfl ?_
      refine g_iconst C 0 at_128 rfl ?_
      refine g_iload C at_129 rfl ?_
      refine g_castore C V1410 (mg (i := 0) rfl) at_131 ⟨by decide, by decide⟩ 0 rfl (nb rfl) ?_
      intro h1411 W1411 V1411
      rw [nar_ch8 h_c8] at V1411
      replace V1411 : Arv Z h1411 b1410 ka1410 .char (2 : Int32) [(.int c8), (.int (0 : Int32))] (.int (0 : Int32)) := V1411
      refine g_dup C at_132 rfl ?_
      refine g_iconst C 1 at_133 rfl ?_
      refine g_iload C at_134 rfl ?_
      refine g_castore C V1411 (mg (i := 0) rfl) at_136 ⟨by decide, by decide⟩ 1 rfl (nb rfl) ?_
      intro h1412 W1412 V1412
      rw [nar_ch8 h_c9] at V1412
      replace V1412 : Arv Z h1412 b1410 ka1410 .char (2 : Int32) [(.int c8), (.int c9)] (.int (0 : Int32)) := V1412
      have K1413 : Keep h1409 h1410 [] := (Keep.refl h1409 []).ext E1410
      have K1414 : Keep h1409 h1411 [] := K1413.wr W1411 (Or.inr (Nat.le_of_eq g1410.symm))
      have K1415 : Keep h1409 h1412 [] := K1414.wr W1412 (Or.inr (Nat.le_of_eq g1410.symm))
      have E1416 := (A1409.keep K1415)
      have F1417 := ((D1409 (Or.inr (C.hw w_27)) (ty := (.array .byte)) (by decide)).keep K1415 nin0)
      have F1418 := ((D1409 (Or.inr (C.hw w_29)) (ty := .byte) (by decide)).keep K1415 nin0)
      have K1419 : Keep h0 h1151 [] := K1150.trans KC1151 (allS (Or.inr (Nat.le_of_eq g1137.symm)) all0)
      have K1420 : Keep h0 h1409 [] := K1419.ext E1409
      have K1421 : Keep h0 h1410 [] := K1420.ext E1410
      have K1422 : Keep h0 h1411 [] := K1421.wr W1411 (Or.inr (Nat.le_trans K1420.1 (Nat.le_of_eq g1410.symm)))
      have K1423 : Keep h0 h1412 [] := K1422.wr W1412 (Or.inr (Nat.le_trans K1420.1 (Nat.le_of_eq g1410.symm)))
      refine g_special C (a := b1409) w_255 w_256 w_257 rfl (by decide) [(.ref b1410)] (ct_newS hEL hw (cs := [c8, c9]) (n := 2) E1416 F1417 F1418 V1412 (Sta_keep Szc K1423) hzc rfl (by decide) (by decide) (own_allc h_c8 (own_allc h_c9 (fun _ q => nomatch q)))) (allS (mg (i := 1) rfl) all0) (by decide) 1 (by decide) rfl pd___C_V rfl [(.ref b1409)] rfl (Nat.le_of_eq rfl) at_137 (by decide) (by decide) ?_
      intro v1424 h1424 Q1424
      obtain ⟨rfl, KC1424, t1424, kb1424, ht1424, htx1424, S1424⟩ := Q1424
      refine g_astore C #[.val (.int i1), .val (.int i2), .val (.int i3), .val (.int (2 : Int32)), .val (.int z1135), .val (.int z1136), .val (.ref b1137), .val (.int (2 : Int32)), .val (.int c8), .val (.int c9), .val (.ref b1409), .unset, .unset, .unset] at_140 rfl rfl ?_
      refine g_iloadN C at_142 rfl ?_
      refine g_bipush C 7 at_143 rfl ?_
      refine g_iand C at_145 ?_
      refine g_aload C at_146 rfl rfl ?_
      refine g_aload C at_148 rfl rfl ?_
      have K1425 : Keep h1151 h1409 [] := (Keep.refl h1151 []).ext E1409
      have K1426 : Keep h1151 h1410 [] := K1425.ext E1410
      have K1427 : Keep h1151 h1411 [] := K1426.wr W1411 (Or.inr (Nat.le_trans K1425.1 (Nat.le_of_eq g1410.symm)))
      have K1428 : Keep h1151 h1412 [] := K1427.wr W1412 (Or.inr (Nat.le_trans K1425.1 (Nat.le_of_eq g1410.symm)))
      have K1429 : Keep h1151 h1424 [] := K1428.trans KC1424 (allS (Or.inr (Nat.le_of_eq g1409.symm)) all0)
      have S1430 := (S1151.keep K1429 nin0 nin0)
      have K1431 : Keep h0 h1424 [] := K1423.trans KC1424 (allS (Or.inr (Nat.le_trans K1419.1 (Nat.le_of_eq g1409.symm))) all0)
      refine g_static C w_33 w_34 w_2 w_35 (by decide) [(.int (i3 &&& (7 : Int32))), (.ref b1137), (.ref b1409)] (ct_of hEL hw w_35 w_2 (rm_key l Z a0 hw hEL (i3 &&& (7 : Int32)) b1137 t1151 b1409 t1424 _ _ [z1135, z1136] [c8, c9] zc h1424 n0 S1430 (nb rfl) (nb rfl) (own_nocons hx1135 (own_nocons hx1136 (fun _ q => nomatch q))) S1424 (nb rfl) (Sta_keep Szc K1431) hzc)) all0 (by decide) 0 (by decide) rfl pd__ILjava_lang_String_Ljava_lang_String__Ljava_lang_String_ rfl [] rfl (Nat.le_of_eq rfl) at_150 (by decide) (by decide) ?_
      intro v1432 h1432 Q1432
      obtain ⟨a1432, t1432, k1432, P1432, Sx1432, rfl, KC1432, le1432, lt1432, S1432, hP1432, hP01432, hP191432, hSx1432⟩ := Q1432
      refine g_astore C #[.val (.int i1), .val (.int i2), .val (.int i3), .val (.int (2 : Int32)), .val (.int z1135), .val (.int z1136), .val (.ref b1137), .val (.int (2 : Int32)), .val (.int c8), .val (.int c9), .val (.ref b1409), .val (.ref a1432), .unset, .unset] at_153 rfl rfl ?_
      refine g_aload C at_155 rfl rfl ?_
      refine g_aload C at_157 rfl rfl ?_
      have K1433 : Keep h1424 h1432 [] := (Keep.refl h1424 []).trans KC1432 all0
      have S1434 := (S1424.keep K1433 nin0 nin0)
      have K1435 : Keep h0 h1432 [] := K1431.trans KC1432 all0
      refine g_static C w_214 w_215 w_38 w_216 (by decide) [(.ref a1432), (.ref b1409)] (ct_of hEL hw w_216 w_38 (rm_lastCall l Z a0 hw hEL a1432 t1432 b1409 t1424 _ _ P1432 [z1135, z1136] Sx1432 [c8, c9] zc fm h1432 n0 S1432 S1434 (nb rfl) (nb rfl) (own_nocons hx1135 (own_nocons hx1136 (fun _ q => nomatch q))) (nb rfl) hP1432 hP01432 hP191432 hSx1432 (Sta_keep Szc K1435) hzc (Sta_keep Sfm K1435) hfm)) all0 (by decide) 0 (by decide) rfl pd__Ljava_lang_String_Ljava_lang_String__Ljava_lang_String_ rfl [] rfl (Nat.le_of_eq rfl) at_159 (by decide) (by decide) ?_
      intro v1436 h1436 Q1436
      obtain ⟨a1436, t1436, k1436, rfl, KC1436, le1436, lt1436, S1436⟩ := Q1436
      replace S1436 : Str Z h1436 a1436 t1436 k1436 [104, 111, 108, 100, 102, 97, 115, 116, 58, 99, 97, 108, 108, 58, 123, z1135, z1136, 125, 58, c8, c9] := S1436
      refine g_astore C #[.val (.int i1), .val (.int i2), .val (.int i3), .val (.int (2 : Int32)), .val (.int z1135), .val (.int z1136), .val (.ref b1137), .val (.int (2 : Int32)), .val (.int c8), .val (.int c9), .val (.ref b1409), .val (.ref a1432), .val (.ref a1436), .unset] at_162 rfl rfl ?_
      refine g_aload C at_164 rfl rfl ?_
      have K1437 : Keep h0 h1436 [] := K1435.trans KC1436 all0
      refine g_virtual C S1436.1 w_238 w_73 (fun hZ => nf_sel hw w_75 hZ) w_75 w_74 (by decide) [] (ct_len hEL hw S1436 (Sta_keep Szc K1437) hzc) all0 (by decide) 0 (by decide) rfl pd___I rfl [] rfl (Nat.le_of_eq rfl) at_166 (by decide) (by decide) ?_
      intro v1438 h1438 Q1438
      obtain ⟨ev1438, e1438⟩ := Q1438
      replace e1438 := e1438.symm
      subst e1438
      replace ev1438 : v1438 = some (.int (21 : Int32)) := ev1438
      subst ev1438
      refine g_bipush C 17 at_169 rfl ?_
      refine g_iloadN C at_171 rfl ?_
      refine g_iadd C at_172 ?_
      rw [show ((17 : Int32) + (2 : Int32)) = (19 : Int32) from by decide]
      refine g_iload C at_173 rfl ?_
      refine g_iadd C at_175 ?_
      rw [show ((19 : Int32) + (2 : Int32)) = (21 : Int32) from by decide]
      refine g_icmp_t C 181 at_176 (XT.ii_eq_t (by decide)) (by decide) (by decide) ?_
      refine g_new C w_239 w_14 w_6 at_181 (by decide) (by decide) ?_
      intro b1439 h1439 g1439 E1439 A1439 D1439
      refine g_dup C at_184 rfl ?_
      refine g_bipush C 15 at_185 rfl ?_
      refine g_newarray C (aty := .char) w_240 at_187 (by decide) 15 (by decide) (by decide) (by decide) (by decide) "[C" rfl ?_
      intro b1440 h1440 ka1440 g1440 E1440 V1440 A1440
      replace V1440 : Arv Z h1440 b1440 ka1440 .char (15 : Int32) [(.int (0 : Int32)), (.int (0 : Int32)), (.int (0 : Int32)), (.int (0 : Int32)), (.int (0 : Int32)), (.int (0 : Int32)), (.int (0 : Int32)), (.int (0 : Int32)), (.int (0 : Int32)), (.int (0 : Int32)), (.int (0 : Int32)), (.int (0 : Int32)), (.int (0 : Int32)), (.int (0 : Int32)), (.int (0 : Int32))] (.int (0 : Int32)) := V1440.pad (pad_rep [] _ 15)
      refine g_dup C at_189 rfl ?_
      refine g_iconst C 0 at_190 rfl ?_
      refine g_aload C at_191 rfl rfl ?_
      refine g_iconst C 0 at_193 rfl ?_
      have K1441 : Keep h1436 h1439 [] := (Keep.refl h1436 []).ext E1439
      have K1442 : Keep h1436 h1440 [] := K1441.ext E1440
      have S1443 := (S1436.keep K1442 nin0 nin0)
      have K1444 : Keep h0 h1439 [] := K1437.ext E1439
      have K1445 : Keep h0 h1440 [] := K1444.ext E1440
      have E1447 := (S1436.1.keep K1442)
      refine g_virtual C E1447 w_241 w_242 (fun hZ => nf_sel hw w_244 hZ) w_244 w_243 (by decide) [(.int (0 : Int32))] (ct_ch hEL hw S1443 (Sta_keep Szc K1445) hzc (Sta_keep Sfm K1445) hfm 0 (nb rfl) (0 : Int32) rfl) all0 (by decide) 5 (by decide) rfl pd__I_C rfl [(.int (0 : Int32)), (.ref b1440), (.ref b1440), (.ref b1439), (.ref b1439)] rfl (Nat.le_of_eq rfl) at_194 (by decide) (by decide) ?_
      intro v1446 h1446 Q1446
      obtain ⟨ev1446, e1446⟩ := Q1446
      replace e1446 := e1446.symm
      subst e1446
      replace ev1446 : v1446 = some (.int (104 : Int32)) := ev1446
      subst ev1446
      refine g_castore C V1440 (mg (i := 0) rfl) at_197 ⟨by decide, by decide⟩ 0 rfl (nb rfl) ?_
      intro h1448 W1448 V1448
      rw [nar_ch8 (by unfold Ch8; decide)] at V1448
      replace V1448 : Arv Z h1448 b1440 ka1440 .char (15 : Int32) [(.int (104 : Int32)), (.int (0 : Int32)), (.int (0 : Int32)), (.int (0 : Int32)), (.int (0 : Int32)), (.int (0 : Int32)), (.int (0 : Int32)), (.int (0 : Int32)), (.int (0 : Int32)), (.int (0 : Int32)), (.int (0 : Int32)), (.int (0 : Int32)), (.int (0 : Int32)), (.int (0 : Int32)), (.int (0 : Int32))] (.int (0 : Int32)) := V1448
      refine g_dup C at_198 rfl ?_
      refine g_iconst C 1 at_199 rfl ?_
      refine g_aload C at_200 rfl rfl ?_
      refine g_iconst C 1 at_202 rfl ?_
      have E1449 := (S1436.1.keep K1441)
      have S1450 := (S1436.keep K1441 nin0 nin0)
      have S1451 := (S1443.other W1448 (Nat.ne_of_lt (Nat.lt_of_lt_of_le E1449.lt (Nat.le_of_eq g1440.symm))) (Nat.ne_of_lt (Nat.lt_of_lt_of_le S1450.tlt (Nat.le_of_eq g1440.symm))))
      have K1452 : Keep h0 h1448 [] := K1445.wr W1448 (Or.inr (Nat.le_trans K1444.1 (Nat.le_of_eq g1440.symm)))
      have E1454 := (E1447.wr W1448)
      refine g_virtual C E1454 w_241 w_242 (fun hZ => nf_sel hw w_244 hZ) w_244 w_243 (by decide) [(.int (1 : Int32))] (ct_ch hEL hw S1451 (Sta_keep Szc K1452) hzc (Sta_keep Sfm K1452) hfm 1 (nb rfl) (1 : Int32) rfl) all0 (by decide) 5 (by decide) rfl pd__I_C rfl [(.int (1 : Int32)), (.ref b1440), (.ref b1440), (.ref b1439), (.ref b1439)] rfl (Nat.le_of_eq rfl) at_203 (by decide) (by decide) ?_
      intro v1453 h1453 Q1453
      obtain ⟨ev1453, e1453⟩ := Q1453
      replace e1453 := e1453.symm
      subst e1453
      replace ev1453 : v1453 = some (.int (111 : Int32)) := ev1453
      subst ev1453
      refine g_castore C V1448 (mg (i := 0) rfl) at_206 ⟨by decide, by decide⟩ 1 rfl (nb rfl) ?_
      intro h1455 W1455 V1455
      rw [nar_ch8 (by unfold Ch8; decide)] at V1455
      replace V1455 : Arv Z h1455 b1440 ka1440 .char (15 : Int32) [(.int (104 : Int32)), (.int (111 : Int32)), (.int (0 : Int32)), (.int (0 : Int32)), (.int (0 : Int32)), (.int (0 : Int32)), (.int (0 : Int32)), (.int (0 : Int32)), (.int (0 : Int32)), (.int (0 : Int32)), (.int (0 : Int32)), (.int (0 : Int32)), (.int (0 : Int32)), (.int (0 : Int32)), (.int (0 : Int32))] (.int (0 : Int32)) := V1455
      refine g_dup C at_207 rfl ?_
      refine g_iconst C 2 at_208 rfl ?_
      refine g_aload C at_209 rfl rfl ?_
      refine g_iconst C 2 at_211 rfl ?_
      have S1456 := (S1451.other W1455 (Nat.ne_of_lt (Nat.lt_of_lt_of_le E1449.lt (Nat.le_of_eq g1440.symm))) (Nat.ne_of_lt (Nat.lt_of_lt_of_le S1450.tlt (Nat.le_of_eq g1440.symm))))
      have K1457 : Keep h0 h1455 [] := K1452.wr W1455 (Or.inr (Nat.le_trans K1444.1 (Nat.le_of_eq g1440.symm)))
      have E1459 := (E1454.wr W1455)
      refine g_virtual C E1459 w_241 w_242 (fun hZ => nf_sel hw w_244 hZ) w_244 w_243 (by decide) [(.int (2 : Int32))] (ct_ch hEL hw S1456 (Sta_keep Szc K1457) hzc (Sta_keep Sfm K1457) hfm 2 (nb rfl) (2 : Int32) rfl) all0 (by decide) 5 (by decide) rfl pd__I_C rfl [(.int (2 : Int32)), (.ref b1440), (.ref b1440), (.ref b1439), (.ref b1439)] rfl (Nat.le_of_eq rfl) at_212 (by decide) (by decide) ?_
      intro v1458 h1458 Q1458
      obtain ⟨ev1458, e1458⟩ := Q1458
      replace e1458 := e1458.symm
      subst e1458
      replace ev1458 : v1458 = some (.int (108 : Int32)) := ev1458
      subst ev1458
      refine g_castore C V1455 (mg (i := 0) rfl) at_215 ⟨by decide, by decide⟩ 2 rfl (nb rfl) ?_
      intro h1460 W1460 V1460
      rw [nar_ch8 (by unfold Ch8; decide)] at V1460
      replace V1460 : Arv Z h1460 b1440 ka1440 .char (15 : Int32) [(.int (104 : Int32)), (.int (111 : Int32)), (.int (108 : Int32)), (.int (0 : Int32)), (.int (0 : Int32)), (.int (0 : Int32)), (.int (0 : Int32)), (.int (0 : Int32)), (.int (0 : Int32)), (.int (0 : Int32)), (.int (0 : Int32)), (.int (0 : Int32)), (.int (0 : Int32)), (.int (0 : Int32)), (.int (0 : Int32))] (.int (0 : Int32)) := V1460
      refine g_dup C at_216 rfl ?_
      refine g_iconst C 3 at_217 rfl ?_
      refine g_aload C at_218 rfl rfl ?_
      refine g_iconst C 3 at_220 rfl ?_
      have S1461 := (S1456.other W1460 (Nat.ne_of_lt (Nat.lt_of_lt_of_le E1449.lt (Nat.le_of_eq g1440.symm))) (Nat.ne_of_lt (Nat.lt_of_lt_of_le S1450.tlt (Nat.le_of_eq g1440.symm))))
      have K1462 : Keep h0 h1460 [] := K1457.wr W1460 (Or.inr (Nat.le_trans K1444.1 (Nat.le_of_eq g1440.symm)))
      have E1464 := (E1459.wr W1460)
      refine g_virtual C E1464 w_241 w_242 (fun hZ => nf_sel hw w_244 hZ) w_244 w_243 (by decide) [(.int (3 : Int32))] (ct_ch hEL hw S1461 (Sta_keep Szc K1462) hzc (Sta_keep Sfm K1462) hfm 3 (nb rfl) (3 : Int32) rfl) all0 (by decide) 5 (by decide) rfl pd__I_C rfl [(.int (3 : Int32)), (.ref b1440), (.ref b1440), (.ref b1439), (.ref b1439)] rfl (Nat.le_of_eq rfl) at_221 (by decide) (by decide) ?_
      intro v1463 h1463 Q1463
      obtain ⟨ev1463, e1463⟩ := Q1463
      replace e1463 := e1463.symm
      subst e1463
      replace ev1463 : v1463 = some (.int (100 : Int32)) := ev1463
      subst ev1463
      refine g_castore C V1460 (mg (i := 0) rfl) at_224 ⟨by decide, by decide⟩ 3 rfl (nb rfl) ?_
      intro h1465 W1465 V1465
      rw [nar_ch8 (by unfold Ch8; decide)] at V1465
      replace V1465 : Arv Z h1465 b1440 ka1440 .char (15 : Int32) [(.int (104 : Int32)), (.int (111 : Int32)), (.int (108 : Int32)), (.int (100 : Int32)), (.int (0 : Int32)), (.int (0 : Int32)), (.int (0 : Int32)), (.int (0 : Int32)), (.int (0 : Int32)), (.int (0 : Int32)), (.int (0 : Int32)), (.int (0 : Int32)), (.int (0 : Int32)), (.int (0 : Int32)), (.int (0 : Int32))] (.int (0 : Int32)) := V1465
      refine g_dup C at_225 rfl ?_
      refine g_iconst C 4 at_226 rfl ?_
      refine g_aload C at_227 rfl rfl ?_
      refine g_iconst C 4 at_229 rfl ?_
      have S1466 := (S1461.other W1465 (Nat.ne_of_lt (Nat.lt_of_lt_of_le E1449.lt (Nat.le_of_eq g1440.symm))) (Nat.ne_of_lt (Nat.lt_of_lt_of_le S1450.tlt (Nat.le_of_eq g1440.symm))))
      have K1467 : Keep h0 h1465 [] := K1462.wr W1465 (Or.inr (Nat.le_trans K1444.1 (Nat.le_of_eq g1440.symm)))
      have E1469 := (E1464.wr W1465)
      refine g_virtual C E1469 w_241 w_242 (fun hZ => nf_sel hw w_244 hZ) w_244 w_243 (by decide) [(.int (4 : Int32))] (ct_ch hEL hw S1466 (Sta_keep Szc K1467) hzc (Sta_keep Sfm K1467) hfm 4 (nb rfl) (4 : Int32) rfl) all0 (by decide) 5 (by decide) rfl pd__I_C rfl [(.int (4 : Int32)), (.ref b1440), (.ref b1440), (.ref b1439), (.ref b1439)] rfl (Nat.le_of_eq rfl) at_230 (by decide) (by decide) ?_
      intro v1468 h1468 Q1468
      obtain ⟨ev1468, e1468⟩ := Q1468
      replace e1468 := e1468.symm
      subst e1468
      replace ev1468 : v1468 = some (.int (102 : Int32)) := ev1468
      subst ev1468
      refine g_castore C V1465 (mg (i := 0) rfl) at_233 ⟨by decide, by decide⟩ 4 rfl (nb rfl) ?_
      intro h1470 W1470 V1470
      rw [nar_ch8 (by unfold Ch8; decide)] at V1470
      replace V1470 : Arv Z h1470 b1440 ka1440 .char (15 : Int32) [(.int (104 : Int32)), (.int (111 : Int32)), (.int (108 : Int32)), (.int (100 : Int32)), (.int (102 : Int32)), (.int (0 : Int32)), (.int (0 : Int32)), (.int (0 : Int32)), (.int (0 : Int32)), (.int (0 : Int32)), (.int (0 : Int32)), (.int (0 : Int32)), (.int (0 : Int32)), (.int (0 : Int32)), (.int (0 : Int32))] (.int (0 : Int32)) := V1470
      refine g_dup C at_234 rfl ?_
      refine g_iconst C 5 at_235 rfl ?_
      refine g_aload C at_236 rfl rfl ?_
      refine g_iconst C 5 at_238 rfl ?_
      have S1471 := (S1466.other W1470 (Nat.ne_of_lt (Nat.lt_of_lt_of_le E1449.lt (Nat.le_of_eq g1440.symm))) (Nat.ne_of_lt (Nat.lt_of_lt_of_le S1450.tlt (Nat.le_of_eq g1440.symm))))
      have K1472 : Keep h0 h1470 [] := K1467.wr W1470 (Or.inr (Nat.le_trans K1444.1 (Nat.le_of_eq g1440.symm)))
      have E1474 := (E1469.wr W1470)
      refine g_virtual C E1474 w_241 w_242 (fun hZ => nf_sel hw w_244 hZ) w_244 w_243 (by decide) [(.int (5 : Int32))] (ct_ch hEL hw S1471 (Sta_keep Szc K1472) hzc (Sta_keep Sfm K1472) hfm 5 (nb rfl) (5 : Int32) rfl) all0 (by decide) 5 (by decide) rfl pd__I_C rfl [(.int (5 : Int32)), (.ref b1440), (.ref b1440), (.ref b1439), (.ref b1439)] rfl (Nat.le_of_eq rfl) at_239 (by decide) (by decide) ?_
      intro v1473 h1473 Q1473
      obtain ⟨ev1473, e1473⟩ := Q1473
      replace e1473 := e1473.symm
      subst e1473
      replace ev1473 : v1473 = some (.int (97 : Int32)) := ev1473
      subst ev1473
      refine g_castore C V1470 (mg (i := 0) rfl) at_242 ⟨by decide, by decide⟩ 5 rfl (nb rfl) ?_
      intro h1475 W1475 V1475
      rw [nar_ch8 (by unfold Ch8; decide)] at V1475
      replace V1475 : Arv Z h1475 b1440 ka1440 .char (15 : Int32) [(.int (104 : Int32)), (.int (111 : Int32)), (.int (108 : Int32)), (.int (100 : Int32)), (.int (102 : Int32)), (.int (97 : Int32)), (.int (0 : Int32)), (.int (0 : Int32)), (.int (0 : Int32)), (.int (0 : Int32)), (.int (0 : Int32)), (.int (0 : Int32)), (.int (0 : Int32)), (.int (0 : Int32)), (.int (0 : Int32))] (.int (0 : Int32)) := V1475
      refine g_dup C at_243 rfl ?_
      refine g_bipush C 6 at_244 rfl ?_
      refine g_aload C at_246 rfl rfl ?_
      refine g_bipush C 6 at_248 rfl ?_
      have S1476 := (S1471.other W1475 (Nat.ne_of_lt (Nat.lt_of_lt_of_le E1449.lt (Nat.le_of_eq g1440.symm))) (Nat.ne_of_lt (Nat.lt_of_lt_of_le S1450.tlt (Nat.le_of_eq g1440.symm))))
      have K1477 : Keep h0 h1475 [] := K1472.wr W1475 (Or.inr (Nat.le_trans K1444.1 (Nat.le_of_eq g1440.symm)))
      have E1479 := (E1474.wr W1475)
      refine g_virtual C E1479 w_241 w_242 (fun hZ => nf_sel hw w_244 hZ) w_244 w_243 (by decide) [(.int (6 : Int32))] (ct_ch hEL hw S1476 (Sta_keep Szc K1477) hzc (Sta_keep Sfm K1477) hfm 6 (nb rfl) (6 : Int32) rfl) all0 (by decide) 5 (by decide) rfl pd__I_C rfl [(.int (6 : Int32)), (.ref b1440), (.ref b1440), (.ref b1439), (.ref b1439)] rfl (Nat.le_of_eq rfl) at_250 (by decide) (by decide) ?_
      intro v1478 h1478 Q1478
      obtain ⟨ev1478, e1478⟩ := Q1478
      replace e1478 := e1478.symm
      subst e1478
      replace ev1478 : v1478 = some (.int (115 : Int32)) := ev1478
      subst ev1478
      refine g_castore C V1475 (mg (i := 0) rfl) at_253 ⟨by decide, by decide⟩ 6 rfl (nb rfl) ?_
      intro h1480 W1480 V1480
      rw [nar_ch8 (by unfold Ch8; decide)] at V1480
      replace V1480 : Arv Z h1480 b1440 ka1440 .char (15 : Int32) [(.int (104 : Int32)), (.int (111 : Int32)), (.int (108 : Int32)), (.int (100 : Int32)), (.int (102 : Int32)), (.int (97 : Int32)), (.int (115 : Int32)), (.int (0 : Int32)), (.int (0 : Int32)), (.int (0 : Int32)), (.int (0 : Int32)), (.int (0 : Int32)), (.int (0 : Int32)), (.int (0 : Int32)), (.int (0 : Int32))] (.int (0 : Int32)) := V1480
      refine g_dup C at_254 rfl ?_
      refine g_bipush C 7 at_255 rfl ?_
      refine g_aload C at_257 rfl rfl ?_
      refine g_bipush C 7 at_259 rfl ?_
      have S1481 := (S1476.other W1480 (Nat.ne_of_lt (Nat.lt_of_lt_of_le E1449.lt (Nat.le_of_eq g1440.symm))) (Nat.ne_of_lt (Nat.lt_of_lt_of_le S1450.tlt (Nat.le_of_eq g1440.symm))))
      have K1482 : Keep h0 h1480 [] := K1477.wr W1480 (Or.inr (Nat.le_trans K1444.1 (Nat.le_of_eq g1440.symm)))
      have E1484 := (E1479.wr W1480)
      refine g_virtual C E1484 w_241 w_242 (fun hZ => nf_sel hw w_244 hZ) w_244 w_243 (by decide) [(.int (7 : Int32))] (ct_ch hEL hw S1481 (Sta_keep Szc K1482) hzc (Sta_keep Sfm K1482) hfm 7 (nb rfl) (7 : Int32) rfl) all0 (by decide) 5 (by decide) rfl pd__I_C rfl [(.int (7 : Int32)), (.ref b1440), (.ref b1440), (.ref b1439), (.ref b1439)] rfl (Nat.le_of_eq rfl) at_261 (by decide) (by decide) ?_
      intro v1483 h1483 Q1483
      obtain ⟨ev1483, e1483⟩ := Q1483
      replace e1483 := e1483.symm
      subst e1483
      replace ev1483 : v1483 = some (.int (116 : Int32)) := ev1483
      subst ev1483
      refine g_castore C V1480 (mg (i := 0) rfl) at_264 ⟨by decide, by decide⟩ 7 rfl (nb rfl) ?_
      intro h1485 W1485 V1485
      rw [nar_ch8 (by unfold Ch8; decide)] at V1485
      replace V1485 : Arv Z h1485 b1440 ka1440 .char (15 : Int32) [(.int (104 : Int32)), (.int (111 : Int32)), (.int (108 : Int32)), (.int (100 : Int32)), (.int (102 : Int32)), (.int (97 : Int32)), (.int (115 : Int32)), (.int (116 : Int32)), (.int (0 : Int32)), (.int (0 : Int32)), (.int (0 : Int32)), (.int (0 : Int32)), (.int (0 : Int32)), (.int (0 : Int32)), (.int (0 : Int32))] (.int (0 : Int32)) := V1485
      refine g_dup C at_265 rfl ?_
      refine g_bipush C 8 at_266 rfl ?_
      refine g_aload C at_268 rfl rfl ?_
      refine g_bipush C 8 at_270 rfl ?_
      have S1486 := (S1481.other W1485 (Nat.ne_of_lt (Nat.lt_of_lt_of_le E1449.lt (Nat.le_of_eq g1440.symm))) (Nat.ne_of_lt (Nat.lt_of_lt_of_le S1450.tlt (Nat.le_of_eq g1440.symm))))
      have K1487 : Keep h0 h1485 [] := K1482.wr W1485 (Or.inr (Nat.le_trans K1444.1 (Nat.le_of_eq g1440.symm)))
      have E1489 := (E1484.wr W1485)
      refine g_virtual C E1489 w_241 w_242 (fun hZ => nf_sel hw w_244 hZ) w_244 w_243 (by decide) [(.int (8 : Int32))] (ct_ch hEL hw S1486 (Sta_keep Szc K1487) hzc (Sta_keep Sfm K1487) hfm 8 (nb rfl) (8 : Int32) rfl) all0 (by decide) 5 (by decide) rfl pd__I_C rfl [(.int (8 : Int32)), (.ref b1440), (.ref b1440), (.ref b1439), (.ref b1439)] rfl (Nat.le_of_eq rfl) at_272 (by decide) (by decide) ?_
      intro v1488 h1488 Q1488
      obtain ⟨ev1488, e1488⟩ := Q1488
      replace e1488 := e1488.symm
      subst e1488
      replace ev1488 : v1488 = some (.int (58 : Int32)) := ev1488
      subst ev1488
      refine g_castore C V1485 (mg (i := 0) rfl) at_275 ⟨by decide, by decide⟩ 8 rfl (nb rfl) ?_
      intro h1490 W1490 V1490
      rw [nar_ch8 (by unfold Ch8; decide)] at V1490
      replace V1490 : Arv Z h1490 b1440 ka1440 .char (15 : Int32) [(.int (104 : Int32)), (.int (111 : Int32)), (.int (108 : Int32)), (.int (100 : Int32)), (.int (102 : Int32)), (.int (97 : Int32)), (.int (115 : Int32)), (.int (116 : Int32)), (.int (58 : Int32)), (.int (0 : Int32)), (.int (0 : Int32)), (.int (0 : Int32)), (.int (0 : Int32)), (.int (0 : Int32)), (.int (0 : Int32))] (.int (0 : Int32)) := V1490
      refine g_dup C at_276 rfl ?_
      refine g_bipush C 9 at_277 rfl ?_
      refine g_aload C at_279 rfl rfl ?_
      refine g_bipush C 9 at_281 rfl ?_
      have S1491 := (S1486.other W1490 (Nat.ne_of_lt (Nat.lt_of_lt_of_le E1449.lt (Nat.le_of_eq g1440.symm))) (Nat.ne_of_lt (Nat.lt_of_lt_of_le S1450.tlt (Nat.le_of_eq g1440.symm))))
      have K1492 : Keep h0 h1490 [] := K1487.wr W1490 (Or.inr (Nat.le_trans K1444.1 (Nat.le_of_eq g1440.symm)))
      have E1494 := (E1489.wr W1490)
      refine g_virtual C E1494 w_241 w_242 (fun hZ => nf_sel hw w_244 hZ) w_244 w_243 (by decide) [(.int (9 : Int32))] (ct_ch hEL hw S1491 (Sta_keep Szc K1492) hzc (Sta_keep Sfm K1492) hfm 9 (nb rfl) (9 : Int32) rfl) all0 (by decide) 5 (by decide) rfl pd__I_C rfl [(.int (9 : Int32)), (.ref b1440), (.ref b1440), (.ref b1439), (.ref b1439)] rfl (Nat.le_of_eq rfl) at_283 (by decide) (by decide) ?_
      intro v1493 h1493 Q1493
      obtain ⟨ev1493, e1493⟩ := Q1493
      replace e1493 := e1493.symm
      subst e1493
      replace ev1493 : v1493 = some (.int (99 : Int32)) := ev1493
      subst ev1493
      refine g_castore C V1490 (mg (i := 0) rfl) at_286 ⟨by decide, by decide⟩ 9 rfl (nb rfl) ?_
      intro h1495 W1495 V1495
      rw [nar_ch8 (by unfold Ch8; decide)] at V1495
      replace V1495 : Arv Z h1495 b1440 ka1440 .char (15 : Int32) [(.int (104 : Int32)), (.int (111 : Int32)), (.int (108 : Int32)), (.int (100 : Int32)), (.int (102 : Int32)), (.int (97 : Int32)), (.int (115 : Int32)), (.int (116 : Int32)), (.int (58 : Int32)), (.int (99 : Int32)), (.int (0 : Int32)), (.int (0 : Int32)), (.int (0 : Int32)), (.int (0 : Int32)), (.int (0 : Int32))] (.int (0 : Int32)) := V1495
      refine g_dup C at_287 rfl ?_
      refine g_bipush C 10 at_288 rfl ?_
      refine g_aload C at_290 rfl rfl ?_
      refine g_bipush C 10 at_292 rfl ?_
      have S1496 := (S1491.other W1495 (Nat.ne_of_lt (Nat.lt_of_lt_of_le E1449.lt (Nat.le_of_eq g1440.symm))) (Nat.ne_of_lt (Nat.lt_of_lt_of_le S1450.tlt (Nat.le_of_eq g1440.symm))))
      have K1497 : Keep h0 h1495 [] := K1492.wr W1495 (Or.inr (Nat.le_trans K1444.1 (Nat.le_of_eq g1440.symm)))
      have E1499 := (E1494.wr W1495)
      refine g_virtual C E1499 w_241 w_242 (fun hZ => nf_sel hw w_244 hZ) w_244 w_243 (by decide) [(.int (10 : Int32))] (ct_ch hEL hw S1496 (Sta_keep Szc K1497) hzc (Sta_keep Sfm K1497) hfm 10 (nb rfl) (10 : Int32) rfl) all0 (by decide) 5 (by decide) rfl pd__I_C rfl [(.int (10 : Int32)), (.ref b1440), (.ref b1440), (.ref b1439), (.ref b1439)] rfl (Nat.le_of_eq rfl) at_294 (by decide) (by decide) ?_
      intro v1498 h1498 Q1498
      obtain ⟨ev1498, e1498⟩ := Q1498
      replace e1498 := e1498.symm
      subst e1498
      replace ev1498 : v1498 = some (.int (97 : Int32)) := ev1498
      subst ev1498
      refine g_castore C V1495 (mg (i := 0) rfl) at_297 ⟨by decide, by decide⟩ 10 rfl (nb rfl) ?_
      intro h1500 W1500 V1500
      rw [nar_ch8 (by unfold Ch8; decide)] at V1500
      replace V1500 : Arv Z h1500 b1440 ka1440 .char (15 : Int32) [(.int (104 : Int32)), (.int (111 : Int32)), (.int (108 : Int32)), (.int (100 : Int32)), (.int (102 : Int32)), (.int (97 : Int32)), (.int (115 : Int32)), (.int (116 : Int32)), (.int (58 : Int32)), (.int (99 : Int32)), (.int (97 : Int32)), (.int (0 : Int32)), (.int (0 : Int32)), (.int (0 : Int32)), (.int (0 : Int32))] (.int (0 : Int32)) := V1500
      refine g_dup C at_298 rfl ?_
      refine g_bipush C 11 at_299 rfl ?_
      refine g_aload C at_301 rfl rfl ?_
      refine g_bipush C 11 at_303 rfl ?_
      have S1501 := (S1496.other W1500 (Nat.ne_of_lt (Nat.lt_of_lt_of_le E1449.lt (Nat.le_of_eq g1440.symm))) (Nat.ne_of_lt (Nat.lt_of_lt_of_le S1450.tlt (Nat.le_of_eq g1440.symm))))
      have K1502 : Keep h0 h1500 [] := K1497.wr W1500 (Or.inr (Nat.le_trans K1444.1 (Nat.le_of_eq g1440.symm)))
      have E1504 := (E1499.wr W1500)
      refine g_virtual C E1504 w_241 w_242 (fun hZ => nf_sel hw w_244 hZ) w_244 w_243 (by decide) [(.int (11 : Int32))] (ct_ch hEL hw S1501 (Sta_keep Szc K1502) hzc (Sta_keep Sfm K1502) hfm 11 (nb rfl) (11 : Int32) rfl) all0 (by decide) 5 (by decide) rfl pd__I_C rfl [(.int (11 : Int32)), (.ref b1440), (.ref b1440), (.ref b1439), (.ref b1439)] rfl (Nat.le_of_eq rfl) at_305 (by decide) (by decide) ?_
      intro v1503 h1503 Q1503
      obtain ⟨ev1503, e1503⟩ := Q1503
      replace e1503 := e1503.symm
      subst e1503
      replace ev1503 : v1503 = some (.int (108 : Int32)) := ev1503
      subst ev1503
      refine g_castore C V1500 (mg (i := 0) rfl) at_308 ⟨by decide, by decide⟩ 11 rfl (nb rfl) ?_
      intro h1505 W1505 V1505
      rw [nar_ch8 (by unfold Ch8; decide)] at V1505
      replace V1505 : Arv Z h1505 b1440 ka1440 .char (15 : Int32) [(.int (104 : Int32)), (.int (111 : Int32)), (.int (108 : Int32)), (.int (100 : Int32)), (.int (102 : Int32)), (.int (97 : Int32)), (.int (115 : Int32)), (.int (116 : Int32)), (.int (58 : Int32)), (.int (99 : Int32)), (.int (97 : Int32)), (.int (108 : Int32)), (.int (0 : Int32)), (.int (0 : Int32)), (.int (0 : Int32))] (.int (0 : Int32)) := V1505
      refine g_dup C at_309 rfl ?_
      refine g_bipush C 12 at_310 rfl ?_
      refine g_aload C at_312 rfl rfl ?_
      refine g_bipush C 12 at_314 rfl ?_
      have S1506 := (S1501.other W1505 (Nat.ne_of_lt (Nat.lt_of_lt_of_le E1449.lt (Nat.le_of_eq g1440.symm))) (Nat.ne_of_lt (Nat.lt_of_lt_of_le S1450.tlt (Nat.le_of_eq g1440.symm))))
      have K1507 : Keep h0 h1505 [] := K1502.wr W1505 (Or.inr (Nat.le_trans K1444.1 (Nat.le_of_eq g1440.symm)))
      have E1509 := (E1504.wr W1505)
      refine g_virtual C E1509 w_241 w_242 (fun hZ => nf_sel hw w_244 hZ) w_244 w_243 (by decide) [(.int (12 : Int32))] (ct_ch hEL hw S1506 (Sta_keep Szc K1507) hzc (Sta_keep Sfm K1507) hfm 12 (nb rfl) (12 : Int32) rfl) all0 (by decide) 5 (by decide) rfl pd__I_C rfl [(.int (12 : Int32)), (.ref b1440), (.ref b1440), (.ref b1439), (.ref b1439)] rfl (Nat.le_of_eq rfl) at_316 (by decide) (by decide) ?_
      intro v1508 h1508 Q1508
      obtain ⟨ev1508, e1508⟩ := Q1508
      replace e1508 := e1508.symm
      subst e1508
      replace ev1508 : v1508 = some (.int (108 : Int32)) := ev1508
      subst ev1508
      refine g_castore C V1505 (mg (i := 0) rfl) at_319 ⟨by decide, by decide⟩ 12 rfl (nb rfl) ?_
      intro h1510 W1510 V1510
      rw [nar_ch8 (by unfold Ch8; decide)] at V1510
      replace V1510 : Arv Z h1510 b1440 ka1440 .char (15 : Int32) [(.int (104 : Int32)), (.int (111 : Int32)), (.int (108 : Int32)), (.int (100 : Int32)), (.int (102 : Int32)), (.int (97 : Int32)), (.int (115 : Int32)), (.int (116 : Int32)), (.int (58 : Int32)), (.int (99 : Int32)), (.int (97 : Int32)), (.int (108 : Int32)), (.int (108 : Int32)), (.int (0 : Int32)), (.int (0 : Int32))] (.int (0 : Int32)) := V1510
      refine g_dup C at_320 rfl ?_
      refine g_bipush C 13 at_321 rfl ?_
      refine g_aload C at_323 rfl rfl ?_
      refine g_bipush C 13 at_325 rfl ?_
      have S1511 := (S1506.other W1510 (Nat.ne_of_lt (Nat.lt_of_lt_of_le E1449.lt (Nat.le_of_eq g1440.symm))) (Nat.ne_of_lt (Nat.lt_of_lt_of_le S1450.tlt (Nat.le_of_eq g1440.symm))))
      have K1512 : Keep h0 h1510 [] := K1507.wr W1510 (Or.inr (Nat.le_trans K1444.1 (Nat.le_of_eq g1440.symm)))
      have E1514 := (E1509.wr W1510)
      refine g_virtual C E1514 w_241 w_242 (fun hZ => nf_sel hw w_244 hZ) w_244 w_243 (by decide) [(.int (13 : Int32))] (ct_ch hEL hw S1511 (Sta_keep Szc K1512) hzc (Sta_keep Sfm K1512) hfm 13 (nb rfl) (13 : Int32) rfl) all0 (by decide) 5 (by decide) rfl pd__I_C rfl [(.int (13 : Int32)), (.ref b1440), (.ref b1440), (.ref b1439), (.ref b1439)] rfl (Nat.le_of_eq rfl) at_327 (by decide) (by decide) ?_
      intro v1513 h1513 Q1513
      obtain ⟨ev1513, e1513⟩ := Q1513
      replace e1513 := e1513.symm
      subst e1513
      replace ev1513 : v1513 = some (.int (58 : Int32)) := ev1513
      subst ev1513
      refine g_castore C V1510 (mg (i := 0) rfl) at_330 ⟨by decide, by decide⟩ 13 rfl (nb rfl) ?_
      intro h1515 W1515 V1515
      rw [nar_ch8 (by unfold Ch8; decide)] at V1515
      replace V1515 : Arv Z h1515 b1440 ka1440 .char (15 : Int32) [(.int (104 : Int32)), (.int (111 : Int32)), (.int (108 : Int32)), (.int (100 : Int32)), (.int (102 : Int32)), (.int (97 : Int32)), (.int (115 : Int32)), (.int (116 : Int32)), (.int (58 : Int32)), (.int (99 : Int32)), (.int (97 : Int32)), (.int (108 : Int32)), (.int (108 : Int32)), (.int (58 : Int32)), (.int (0 : Int32))] (.int (0 : Int32)) := V1515
      refine g_dup C at_331 rfl ?_
      refine g_bipush C 14 at_332 rfl ?_
      refine g_aload C at_334 rfl rfl ?_
      refine g_bipush C 14 at_336 rfl ?_
      have S1516 := (S1511.other W1515 (Nat.ne_of_lt (Nat.lt_of_lt_of_le E1449.lt (Nat.le_of_eq g1440.symm))) (Nat.ne_of_lt (Nat.lt_of_lt_of_le S1450.tlt (Nat.le_of_eq g1440.symm))))
      have K1517 : Keep h0 h1515 [] := K1512.wr W1515 (Or.inr (Nat.le_trans K1444.1 (Nat.le_of_eq g1440.symm)))
      have E1519 := (E1514.wr W1515)
      refine g_virtual C E1519 w_241 w_242 (fun hZ => nf_sel hw w_244 hZ) w_244 w_243 (by decide) [(.int (14 : Int32))] (ct_ch hEL hw S1516 (Sta_keep Szc K1517) hzc (Sta_keep Sfm K1517) hfm 14 (nb rfl) (14 : Int32) rfl) all0 (by decide) 5 (by decide) rfl pd__I_C rfl [(.int (14 : Int32)), (.ref b1440), (.ref b1440), (.ref b1439), (.ref b1439)] rfl (Nat.le_of_eq rfl) at_338 (by decide) (by decide) ?_
      intro v1518 h1518 Q1518
      obtain ⟨ev1518, e1518⟩ := Q1518
      replace e1518 := e1518.symm
      subst e1518
      replace ev1518 : v1518 = some (.int (123 : Int32)) := ev1518
      subst ev1518
      refine g_castore C V1515 (mg (i := 0) rfl) at_341 ⟨by decide, by decide⟩ 14 rfl (nb rfl) ?_
      intro h1520 W1520 V1520
      rw [nar_ch8 (by unfold Ch8; decide)] at V1520
      replace V1520 : Arv Z h1520 b1440 ka1440 .char (15 : Int32) [(.int (104 : Int32)), (.int (111 : Int32)), (.int (108 : Int32)), (.int (100 : Int32)), (.int (102 : Int32)), (.int (97 : Int32)), (.int (115 : Int32)), (.int (116 : Int32)), (.int (58 : Int32)), (.int (99 : Int32)), (.int (97 : Int32)), (.int (108 : Int32)), (.int (108 : Int32)), (.int (58 : Int32)), (.int (123 : Int32))] (.int (0 : Int32)) := V1520
      have K1521 : Keep h1439 h1440 [] := (Keep.refl h1439 []).ext E1440
      have K1522 : Keep h1439 h1448 [] := K1521.wr W1448 (Or.inr (Nat.le_of_eq g1440.symm))
      have K1523 : Keep h1439 h1455 [] := K1522.wr W1455 (Or.inr (Nat.le_of_eq g1440.symm))
      have K1524 : Keep h1439 h1460 [] := K1523.wr W1460 (Or.inr (Nat.le_of_eq g1440.symm))
      have K1525 : Keep h1439 h1465 [] := K1524.wr W1465 (Or.inr (Nat.le_of_eq g1440.symm))
      have K1526 : Keep h1439 h1470 [] := K1525.wr W1470 (Or.inr (Nat.le_of_eq g1440.symm))
      have K1527 : Keep h1439 h1475 [] := K1526.wr W1475 (Or.inr (Nat.le_of_eq g1440.symm))
      have K1528 : Keep h1439 h1480 [] := K1527.wr W1480 (Or.inr (Nat.le_of_eq g1440.symm))
      have K1529 : Keep h1439 h1485 [] := K1528.wr W1485 (Or.inr (Nat.le_of_eq g1440.symm))
      have K1530 : Keep h1439 h1490 [] := K1529.wr W1490 (Or.inr (Nat.le_of_eq g1440.symm))
      have K1531 : Keep h1439 h1495 [] := K1530.wr W1495 (Or.inr (Nat.le_of_eq g1440.symm))
      have K1532 : Keep h1439 h1500 [] := K1531.wr W1500 (Or.inr (Nat.le_of_eq g1440.symm))
      have K1533 : Keep h1439 h1505 [] := K1532.wr W1505 (Or.inr (Nat.le_of_eq g1440.symm))
      have K1534 : Keep h1439 h1510 [] := K1533.wr W1510 (Or.inr (Nat.le_of_eq g1440.symm))
      have K1535 : Keep h1439 h1515 [] := K1534.wr W1515 (Or.inr (Nat.le_of_eq g1440.symm))
      have K1536 : Keep h1439 h1520 [] := K1535.wr W1520 (Or.inr (Nat.le_of_eq g1440.symm))
      have E1537 := (A1439.keep K1536)
      have F1538 := ((D1439 (Or.inr (C.hw w_27)) (ty := (.array .byte)) (by decide)).keep K1536 nin0)
      have F1539 := ((D1439 (Or.inr (C.hw w_29)) (ty := .byte) (by decide)).keep K1536 nin0)
      have K1540 : Keep h0 h1520 [] := K1517.wr W1520 (Or.inr (Nat.le_trans K1444.1 (Nat.le_of_eq g1440.symm)))
      refine g_special C (a := b1439) w_255 w_256 w_257 rfl (by decide) [(.ref b1440)] (ct_newS hEL hw (cs := [(104 : Int32), (111 : Int32), (108 : Int32), (100 : Int32), (102 : Int32), (97 : Int32), (115 : Int32), (116 : Int32), (58 : Int32), (99 : Int32), (97 : Int32), (108 : Int32), (108 : Int32), (58 : Int32), (123 : Int32)]) (n := 15) E1537 F1538 F1539 V1520 (Sta_keep Szc K1540) hzc rfl (by decide) (by decide) (own_allc (by unfold Ch8; decide) (own_allc (by unfold Ch8; decide) (own_allc (by unfold Ch8; decide) (own_allc (by unfold Ch8; decide) (own_allc (by unfold Ch8; decide) (own_allc (by unfold Ch8; decide) (own_allc (by unfold Ch8; decide) (own_allc (by unfold Ch8; decide) (own_allc (by unfold Ch8; decide) (own_allc (by unfold Ch8; decide) (own_allc (by unfold Ch8; decide) (own_allc (by unfold Ch8; decide) (own_allc (by unfold Ch8; decide) (own_allc (by unfold Ch8; decide) (own_allc (by unfold Ch8; decide) (fun _ q => nomatch q))))))))))))))))) (allS (mg (i := 1) rfl) all0) (by decide) 1 (by decide) rfl pd___C_V rfl [(.ref b1439)] rfl (Nat.le_of_eq rfl) at_342 (by decide) (by decide) ?_
      intro v1541 h1541 Q1541
      obtain ⟨rfl, KC1541, t1541, kb1541, ht1541, htx1541, S1541⟩ := Q1541
      refine g_astore C #[.val (.int i1), .val (.int i2), .val (.int i3), .val (.int (2 : Int32)), .val (.int z1135), .val (.int z1136), .val (.ref b1137), .val (.int (2 : Int32)), .val (.int c8), .val (.int c9), .val (.ref b1409), .val (.ref a1432), .val (.ref a1436), .val (.ref b1439)] at_345 rfl rfl ?_
      refine g_aload C at_347 rfl rfl ?_
      refine g_ldcS C hEL w_271 own_sA (mg (i := 17) rfl) [104, 111, 108, 100, 102, 97, 115, 116, 58, 99, 97, 108, 108, 58, 123] ⟨by decide +kernel, by decide +kernel⟩ (by decide) (by decide) at_349 60 (by decide +kernel) (by decide) (by decide) (by decide) ?_
      intro a1542 t1542 kb1542 h1542 E1542 S1542 X1542
      have K1543 : Keep h1541 h1542 [] := (Keep.refl h1541 []).ext E1542
      have S1544 := (S1541.keep K1543 nin0 nin0)
      have K1545 : Keep h0 h1541 [] := K1540.trans KC1541 (allS (Or.inr (Nat.le_trans K1437.1 (Nat.le_of_eq g1439.symm))) all0)
      have K1546 : Keep h0 h1542 [] := K1545.ext E1542
      have E1548 := (S1541.1.keep K1543)
      refine g_virtual C E1548 w_272 w_273 (fun hZ => nf_sel hw w_275 hZ) w_275 w_274 (by decide) [(.ref a1542)] (ct_eq hEL hw S1544 S1542 (Sta_keep Szc K1546) hzc) all0 (by decide) 0 (by decide) rfl pd__Ljava_lang_Object__Z rfl [] rfl (Nat.le_of_eq rfl) at_351 (by decide) (by decide) ?_
      intro v1547 h1547 Q1547
      obtain ⟨ev1547, e1547⟩ := Q1547
      replace e1547 := e1547.symm
      subst e1547
      replace ev1547 : v1547 = some (.int (1 : Int32)) := ev1547.trans (by rw [if_pos rfl])
      subst ev1547
      refine g_if_t C 359 at_354 (XT.i0_ne_t (by decide)) (by decide) (by decide) ?_
      refine g_aload C at_359 rfl rfl ?_
      refine g_bipush C 15 at_361 rfl ?_
      have S1549 := (((S1516.other W1520 (Nat.ne_of_lt (Nat.lt_of_lt_of_le E1449.lt (Nat.le_of_eq g1440.symm))) (Nat.ne_of_lt (Nat.lt_of_lt_of_le S1450.tlt (Nat.le_of_eq g1440.symm)))).keep KC1541 (ninS (Nat.ne_of_lt (Nat.lt_of_lt_of_le S1436.1.lt (Nat.le_of_eq g1439.symm))) nin0) (ninS (Nat.ne_of_lt (Nat.lt_of_lt_of_le S1436.tlt (Nat.le_of_eq g1439.symm))) nin0)).ext E1542)
      have E1551 := (((E1519.wr W1520).keep KC1541).ext E1542)
      refine g_virtual C E1551 w_241 w_242 (fun hZ => nf_sel hw w_244 hZ) w_244 w_243 (by decide) [(.int (15 : Int32))] (ct_ch hEL hw S1549 (Sta_keep Szc K1546) hzc (Sta_keep Sfm K1546) hfm 15 (nb rfl) (15 : Int32) rfl) all0 (by decide) 0 (by decide) rfl pd__I_C rfl [] rfl (Nat.le_of_eq rfl) at_363 (by decide) (by decide) ?_
      intro v1550 h1550 Q1550
      obtain ⟨ev1550, e1550⟩ := Q1550
      replace e1550 := e1550.symm
      subst e1550
      replace ev1550 : v1550 = some (.int z1135) := ev1550
      subst ev1550
      refine g_iload C at_366 rfl ?_
      refine g_icmp_t C 373 at_368 (XT.ii_eq_t rfl) (by decide) (by decide) ?_
      refine g_iloadN C at_373 rfl ?_
      refine g_iconst C 2 at_374 rfl ?_
      refine g_icmp_f C at_375 (XT.ii_ne_f (by decide)) ?_
      refine g_aload C at_378 rfl rfl ?_
      refine g_bipush C 16 at_380 rfl ?_
      refine g_virtual C E1551 w_241 w_242 (fun hZ => nf_sel hw w_244 hZ) w_244 w_243 (by decide) [(.int (16 : Int32))] (ct_ch hEL hw S1549 (Sta_keep Szc K1546) hzc (Sta_keep Sfm K1546) hfm 16 (nb rfl) (16 : Int32) rfl) all0 (by decide) 0 (by decide) rfl pd__I_C rfl [] rfl (Nat.le_of_eq rfl) at_382 (by decide) (by decide) ?_
      intro v1552 h1552 Q1552
      obtain ⟨ev1552, e1552⟩ := Q1552
      replace e1552 := e1552.symm
      subst e1552
      replace ev1552 : v1552 = some (.int z1136) := ev1552
      subst ev1552
      refine g_iload C at_385 rfl ?_
      refine g_icmp_t C 392 at_387 (XT.ii_eq_t rfl) (by decide) (by decide) ?_
      refine g_aload C at_392 rfl rfl ?_
      refine g_bipush C 15 at_394 rfl ?_
      refine g_iloadN C at_396 rfl ?_
      refine g_iadd C at_397 ?_
      rw [show ((15 : Int32) + (2 : Int32)) = (17 : Int32) from by decide]
      refine g_virtual C E1551 w_241 w_242 (fun hZ => nf_sel hw w_244 hZ) w_244 w_243 (by decide) [(.int (17 : Int32))] (ct_ch hEL hw S1549 (Sta_keep Szc K1546) hzc (Sta_keep Sfm K1546) hfm 17 (nb rfl) (17 : Int32) rfl) all0 (by decide) 0 (by decide) rfl pd__I_C rfl [] rfl (Nat.le_of_eq rfl) at_398 (by decide) (by decide) ?_
      intro v1553 h1553 Q1553
      obtain ⟨ev1553, e1553⟩ := Q1553
      replace e1553 := e1553.symm
      subst e1553
      replace ev1553 : v1553 = some (.int (125 : Int32)) := ev1553
      subst ev1553
      refine g_bipush C 125 at_401 rfl ?_
      refine g_icmp_f C at_403 (XT.ii_ne_f (by decide)) ?_
      refine g_aload C at_406 rfl rfl ?_
      refine g_bipush C 16 at_408 rfl ?_
      refine g_iloadN C at_410 rfl ?_
      refine g_iadd C at_411 ?_
      rw [show ((16 : Int32) + (2 : Int32)) = (18 : Int32) from by decide]
      refine g_virtual C E1551 w_241 w_242 (fun hZ => nf_sel hw w_244 hZ) w_244 w_243 (by decide) [(.int (18 : Int32))] (ct_ch hEL hw S1549 (Sta_keep Szc K1546) hzc (Sta_keep Sfm K1546) hfm 18 (nb rfl) (18 : Int32) rfl) all0 (by decide) 0 (by decide) rfl pd__I_C rfl [] rfl (Nat.le_of_eq rfl) at_412 (by decide) (by decide) ?_
      intro v1554 h1554 Q1554
      obtain ⟨ev1554, e1554⟩ := Q1554
      replace e1554 := e1554.symm
      subst e1554
      replace ev1554 : v1554 = some (.int (58 : Int32)) := ev1554
      subst ev1554
      refine g_bipush C 58 at_415 rfl ?_
      refine g_icmp_t C 422 at_417 (XT.ii_eq_t (by decide)) (by decide) (by decide) ?_
      refine g_iload C at_422 rfl ?_
      refine g_iconst C 1 at_424 rfl ?_
      refine g_icmp_f C at_425 (XT.ii_lt_f (by decide)) ?_
      refine g_aload C at_428 rfl rfl ?_
      refine g_bipush C 17 at_430 rfl ?_
      refine g_iloadN C at_432 rfl ?_
      refine g_iadd C at_433 ?_
      rw [show ((17 : Int32) + (2 : Int32)) = (19 : Int32) from by decide]
      refine g_virtual C E1551 w_241 w_242 (fun hZ => nf_sel hw w_244 hZ) w_244 w_243 (by decide) [(.int (19 : Int32))] (ct_ch hEL hw S1549 (Sta_keep Szc K1546) hzc (Sta_keep Sfm K1546) hfm 19 (nb rfl) (19 : Int32) rfl) all0 (by decide) 0 (by decide) rfl pd__I_C rfl [] rfl (Nat.le_of_eq rfl) at_434 (by decide) (by decide) ?_
      intro v1555 h1555 Q1555
      obtain ⟨ev1555, e1555⟩ := Q1555
      replace e1555 := e1555.symm
      subst e1555
      replace ev1555 : v1555 = some (.int c8) := ev1555
      subst ev1555
      refine g_iload C at_437 rfl ?_
      refine g_icmp_t C 444 at_439 (XT.ii_eq_t rfl) (by decide) (by decide) ?_
      refine g_iload C at_444 rfl ?_
      refine g_iconst C 2 at_446 rfl ?_
      refine g_icmp_f C at_447 (XT.ii_ne_f (by decide)) ?_
      refine g_aload C at_450 rfl rfl ?_
      refine g_bipush C 18 at_452 rfl ?_
      refine g_iloadN C at_454 rfl ?_
      refine g_iadd C at_455 ?_
      rw [show ((18 : Int32) + (2 : Int32)) = (20 : Int32) from by decide]
      refine g_virtual C E1551 w_241 w_242 (fun hZ => nf_sel hw w_244 hZ) w_244 w_243 (by decide) [(.int (20 : Int32))] (ct_ch hEL hw S1549 (Sta_keep Szc K1546) hzc (Sta_keep Sfm K1546) hfm 20 (nb rfl) (20 : Int32) rfl) all0 (by decide) 0 (by decide) rfl pd__I_C rfl [] rfl (Nat.le_of_eq rfl) at_456 (by decide) (by decide) ?_
      intro v1556 h1556 Q1556
      obtain ⟨ev1556, e1556⟩ := Q1556
      replace e1556 := e1556.symm
      subst e1556
      replace ev1556 : v1556 = some (.int c9) := ev1556
      subst ev1556
      refine g_iload C at_459 rfl ?_
      refine g_icmp_t C 466 at_461 (XT.ii_eq_t rfl) (by decide) (by decide) ?_
      refine g_iconst C 1 at_466 rfl ?_
      refine g_ireturnN C hEL (t := .boolean) rfl (by simp) at_467 (by decide) (by decide) ?_
      exact rfl
theorem comes_1 {Post : Tables → Env → Array Value → State → Outcome → State → Prop} (hpost : ∀ tb e args s v u, (limb_1_1.after args s (.returned v) u = true ∧ limb_1_2.after args s (.returned v) u = true ∧ True) → ReturnedEndW s (.returned v) u (Jvm.fieldLocs frame_1_writes args s ++ Jvm.arrayLocs frame_1_arrays args s ++ Jvm.staticLocs frame_1_statics s) 120 19456 → Post tb e args s (.returned v) u) :
    ArmFor flags0 classFile x code maxLocals ret World_1 tables_1 room_1 Calls_1 rest_1 Pre_1 Post := by
  intro l hfl _ _ p e ha hc hk s m args below hf hA hF happ hP
  obtain ⟨hcalls, hrest, hpre⟩ := hP
  obtain ⟨-, -, -, hnamed, -, -, -, hat⟩ := (Spec.applies_iff hf).mp happ
  obtain ⟨hg, hn⟩ := and_e (Cond.before_iff.mp (show (Jvm.Cond.and given_1 narrow_1).before args s = true from hpre))
  obtain ⟨hcount, ga0⟩ := and_e hg
  obtain ⟨gv0, ga1⟩ := and_e ga0
  obtain ⟨gv1, ga2⟩ := and_e ga1
  obtain ⟨w0, w1, w2, rfl⟩ : ∃ w0 w1 w2 : Value, args = #[w0, w1, w2] := by
    have hs : args.size = 3 := by simpa [Cond.value, given_1] using hcount
    obtain ⟨L⟩ := args
    match L, hs with
    | [w0, w1, w2], _ => exact ⟨w0, w1, w2, rfl⟩
  have hw := fun d (hd : d ∈ tables_1) => atoms_spec (ws := Jvm.Cond.code x code maxLocals ret :: tables_1) hat d (List.mem_cons_of_mem _ hd)
  have hfit : Fit s := fun {y c} hc i hi => by
    obtain ⟨ha, rfl⟩ := Array.getElem?_eq_some_iff.mp hc
    have q := List.all_eq_true.mp ((Array.all_eq_true_iff_forall_mem.mp hF) _ (Array.getElem_mem ha)) i (List.mem_range.mpr hi)
    simpa [Array.getElem?_eq_getElem hi] using q
  obtain ⟨hsets, hown0⟩ := atoms_of _ (rest_1_c_eq ▸ (show rest_1_c.before _ s = true from hrest))
  obtain ⟨i0, ei0⟩ := is_v gv0
  obtain rfl : w0 = (.int i0) := Option.some.inj ei0
  obtain ⟨i1, ei1⟩ := is_v gv1
  obtain rfl : w1 = (.int i1) := Option.some.inj ei1
  obtain ⟨i2, ei2⟩ := is_v ga2
  obtain rfl : w2 = (.int i2) := Option.some.inj ei2
  have hEL : EW s _ consts_1 := (EW.cons (hw _ w_61) (by decide +kernel) (EW.cons (hw _ w_313) (by decide +kernel) (EW.cons (hw _ w_213) (by decide +kernel) (EW.cons (hw _ w_286) (by decide +kernel) (EW.cons (hw _ w_287) (by decide +kernel) (EW.cons (hw _ w_298) (by decide +kernel) (EW.cons (hw _ w_299) (by decide +kernel) (EW.cons (hw _ w_306) (by decide +kernel) (EW.cons (hw _ w_237) (by decide +kernel) (EW.cons (hw _ w_297) (by decide +kernel) (EW.cons (hw _ w_321) (by decide +kernel) (EW.cons (hw _ w_322) (by decide +kernel) (EW.cons (hw _ w_236) (by decide +kernel) (EW.cons (hw _ w_112) (by decide +kernel) (EW.cons (hw _ w_154) (by decide +kernel) (EW.cons (hw _ w_155) (by decide +kernel) (EW.cons (hw _ w_30) (by decide +kernel) (EW.cons (hw _ w_271) (by decide +kernel) EW.nil))))))))))))))))))
  have hCH : CHv s consts_1 s.vm s.heap := CHv.start hEL (fun p hp => hcalls.1 p hp) (hsets _ (mg (i := 2) rfl)) (hw _ w_18) (hw _ w_14)
  have n5 := not_v (Cond.before_iff.mp (hsets _ (mg (i := 2) rfl)))
  obtain ⟨zc, ezc⟩ := is_v (Cond.before_iff.mp (hsets _ (mg (i := 1) rfl)))
  have Szc : Sta s s.heap "java/lang/String" "COMPACT_STRINGS" "Z" (.int zc) := Sta.start ezc (Or.inl (hsets _ (mg (i := 0) rfl)))
  have hzc : ¬ (zc = (0 : Int32)) := gotF (Cond.eq_ints ezc (Term.int_eval (0))) n5
  obtain ⟨fm, efm, hfm⟩ := isR_v (Cond.before_iff.mp (hsets _ (mg (i := 8) rfl)))
  have Sfm := Sta.start efm (Or.inl (hsets _ (mg (i := 7) rfl)))
  obtain ⟨n, o, h1, h2, h3, _, L, ns, rfl, ⟨⟨rfl, rfl⟩, N⟩, -, -, hq⟩ := rm_law l s _ hw hEL (ws := tables_1) i0 i1 i2 zc fm s.heap s.heap.size Szc hzc Sfm hfm (Nat.le_refl _) all0 p e ha hc hk s m _ below hf ((Spec.applies_iff_loose hf).mp happ).1 ⟨rfl, State.Warmed39.refl s, rfl, hCH, all0⟩ trivial
  refine ⟨n, _, h1, h2, h3, hpost _ _ _ _ _ _ ⟨Cond.after_iff.mpr rfl, Cond.after_iff.mpr (eq_i res_at (Term.int_eval (1)) rfl), trivial⟩ ⟨hq.1, hq.2.1, hq.2.2.1, (hq.2.2.2.sift fun y hy => Or.inr (N y hy)).mono (by decide) (by decide)⟩⟩
theorem main_1_1 : Claimed_1_1 := comes_1 fun _ _ _ _ _ _ h hF => ⟨h.1, hF⟩
theorem main_1_2 : Claimed_1_2 := comes_1 fun _ _ _ _ _ _ h hF => ⟨h.2.1, hF⟩

end Jvm.Pilot.@@N@@
namespace Jvm.Pilot.@@N@@
open Jvm Jvm.ClassFile Sem Op Lib Jvm.Free Jvm.Stand Jvm.Pilot.@@N@@.Jvm.D
/-! MADE BY PROGRAM (witnessworld.py) out of the Statement's table words and the real class files: 27 classes; the members and pool entries that the words name. The judged class is class 1, her method 3. -/
namespace start1
open Jvm.ClassFile
def u (s : String) : CpInfo := .utf8 (stringToUtf16 s)
/-- a pool by its gaps: so many unusable entries, then the entry; so many at the end -/
def gap : Nat → List CpInfo → List CpInfo
  | 0, r => r
  | n + 1, r => .unusable :: gap n r
def poolList (es : List (Nat × CpInfo)) (last : Nat) : List CpInfo := es.foldr (fun e r => gap e.1 (e.2 :: r)) (gap last [])
def pool (es : List (Nat × CpInfo)) (last : Nat) : Array CpInfo := ⟨poolList es last⟩
def fileOf (pool : Array CpInfo) (this : Nat) (attrs : Array Attribute := #[]) (ms : Array MethodInfo := #[]) (fl : Nat := 33) (sup : Nat := 0) (ifs : Array Nat := #[]) (fds : Array FieldInfo := #[]) : ClassFile where
  minorVersion := 0
  majorVersion := 65
  constantPool := pool
  accessFlags := fl
  thisClass := this
  superClass := sup
  interfaces := ifs
  fields := fds
  methods := ms
  attributes := attrs
def plain (name : String) (sup : Option ClassId) : Class where
  name := name
  kind := .ordinary
  loader := none
  accessFlags := 33
  super := sup
  interfaces := #[]
  cf := none
  fields := #[]
  methods := #[]
  instanceTypes := #[]
  staticTypes := #[]
  resolved := #[]
  callSites := []
  init := .initialized
  statics := none
  mirror := none

def pool0 : Array CpInfo := pool [(5, u "<init>"), (0, u "()V"), (1, .class_ 10), (1, u "java/lang/Object"), (85, u "clone"), (0, u "()Ljava/lang/Object;")] 26

def k0c0 : Code := { maxStack := 0, maxLocals := 1, code := object_method_1_code, exceptionTable := #[], attributes := #[] }
def k0m0 : Method := { name := "<init>", desc := "()V", sig := { parameters := [], returnType := none }, accessFlags := 1, code := some k0c0 }
def k0m1 : Method := { name := "clone", desc := "()Ljava/lang/Object;", sig := { parameters := [], returnType := some (.object "java/lang/Object") }, accessFlags := 260, code := none }
/-- java/lang/Object -/
def k0 : Class := { plain "java/lang/Object" none with
  accessFlags := 33
  interfaces := #[]
  cf := some (fileOf pool0 8 #[] #[{ accessFlags := 1, nameIndex := 5, descriptorIndex := 6, attributes := #[] }, { accessFlags := 260, nameIndex := 96, descriptorIndex := 97, attributes := #[] }] 33 0 #[] #[])
  fields := #[]
  methods := #[k0m0, k0m1]
  instanceTypes := #[]
  staticTypes := #[]
  resolved := Array.replicate 124 none
  statics := none }

def pool1 : Array CpInfo := pool [(2, .class_ 4), (1, u "java/lang/Object"), (0, u "<init>"), (0, u "()V"), (0, .methodref 8 9), (0, .class_ 10), (0, .nameAndType 11 12), (0, u "com/example/holdfast/holdfast/Keys"), (0, u "lock"), (0, u "(Ljava/lang/String;)Ljava/lang/String;"), (0, .methodref 8 14), (0, .nameAndType 15 12), (0, u "lockToken"), (0, .methodref 8 17), (0, .nameAndType 18 12), (0, u "lockReleased"), (0, .methodref 8 20), (0, .nameAndType 21 12), (0, u "fairLockLine"), (0, .methodref 8 23), (0, .nameAndType 24 12), (0, u "readers"), (0, .methodref 8 26), (0, .nameAndType 27 28), (0, u "readHold"), (0, u "(Ljava/lang/String;Ljava/lang/String;)Ljava/lang/String;"), (0, .methodref 8 30), (0, .nameAndType 31 12), (0, u "semaphoreCopy"), (0, .methodref 8 33), (0, .nameAndType 34 12), (0, u "waitingWriters"), (0, .methodref 36 37), (0, .class_ 38), (0, .nameAndType 39 40), (0, u "com/example/holdfast/holdfast/KeysLastCallPinLaw"), (0, u "nameChar"), (0, u "(I)C"), (0, .methodref 42 43), (0, .class_ 44), (0, .nameAndType 45 46), (0, u "java/lang/String"), (0, u "valueOf"), (0, u "(C)Ljava/lang/String;"), (0, .methodref 42 48), (0, .nameAndType 5 49), (0, u "([C)V"), (0, .string 51), (0, u ""), (0, .methodref 36 53), (0, .nameAndType 54 55), (0, u "key"), (0, u "(ILjava/lang/String;Ljava/lang/String;)Ljava/lang/String;"), (0, .methodref 8 57), (0, .nameAndType 58 28), (0, u "lastCall"), (0, .methodref 42 60), (0, .nameAndType 61 62), (0, u "length"), (0, u "()I"), (0, .methodref 42 64), (0, .nameAndType 65 40), (0, u "charAt"), (0, .string 67), (0, u "holdfast:call:{"), (0, .methodref 42 69), (0, .nameAndType 70 71), (0, u "equals"), (0, u "(Ljava/lang/Object;)Z"), (3, u "law"), (0, u "(III)Z")] 2

def k1m0 : Method := { name := "<init>", desc := "()V", sig := { parameters := [], returnType := none }, accessFlags := 2, code := none }
def k1c1 : Code := { maxStack := 2, maxLocals := 1, code := method_2_code, exceptionTable := #[], attributes := #[] }
def k1m1 : Method := { name := "nameChar", desc := "(I)C", sig := { parameters := [.int], returnType := some .char }, accessFlags := 10, code := some k1c1 }
def k1c2 : Code := { maxStack := 2, maxLocals := 3, code := method_3_code, exceptionTable := #[], attributes := #[] }
def k1m2 : Method := { name := "key", desc := "(ILjava/lang/String;Ljava/lang/String;)Ljava/lang/String;", sig := { parameters := [.int, (.object "java/lang/String"), (.object "java/lang/String")], returnType := some (.object "java/lang/String") }, accessFlags := 10, code := some k1c2 }
def k1c3 : Code := { maxStack := 7, maxLocals := 14, code := code, exceptionTable := #[], attributes := #[] }
def k1m3 : Method := { name := "law", desc := "(III)Z", sig := { parameters := [.int, .int, .int], returnType := some .boolean }, accessFlags := 9, code := some k1c3 }
/-- com/example/holdfast/holdfast/KeysLastCallPinLaw -/
def k1 : Class := { plain "com/example/holdfast/holdfast/KeysLastCallPinLaw" (some 0) with
  accessFlags := 49
  interfaces := #[]
  cf := some (fileOf pool1 36 #[] #[{ accessFlags := 2, nameIndex := 5, descriptorIndex := 6, attributes := #[] }, { accessFlags := 10, nameIndex := 39, descriptorIndex := 40, attributes := #[] }, { accessFlags := 10, nameIndex := 54, descriptorIndex := 55, attributes := #[] }, { accessFlags := 9, nameIndex := 75, descriptorIndex := 76, attributes := #[] }] 49 2 #[] #[])
  fields := #[]
  methods := #[k1m0, k1m1, k1m2, k1m3]
  instanceTypes := #[]
  staticTypes := #[]
  resolved := Array.replicate 79 none
  statics := none }

def pool2 : Array CpInfo := pool [(1, .class_ 2), (0, u "java/io/Serializable"), (0, .class_ 4), (0, u "java/lang/Object")] 2

/-- java/io/Serializable -/
def k2 : Class := { plain "java/io/Serializable" (some 0) with
  accessFlags := 1537
  interfaces := #[]
  cf := some (fileOf pool2 1 #[] #[] 1537 3 #[] #[])
  fields := #[]
  methods := #[]
  instanceTypes := #[]
  staticTypes := #[]
  resolved := Array.replicate 7 none
  statics := none }

def pool3 : Array CpInfo := pool [(1, .class_ 2), (0, u "java/lang/Comparable"), (0, .class_ 4), (0, u "java/lang/Object")] 7

/-- java/lang/Comparable -/
def k3 : Class := { plain "java/lang/Comparable" (some 0) with
  accessFlags := 1537
  interfaces := #[]
  cf := some (fileOf pool3 1 #[] #[] 1537 3 #[] #[])
  fields := #[]
  methods := #[]
  instanceTypes := #[]
  staticTypes := #[]
  resolved := Array.replicate 12 none
  statics := none }

def pool4 : Array CpInfo := pool [(2, .class_ 4), (1, u "java/lang/CharSequence"), (42, .class_ 48), (0, u "java/lang/CharSequence$1CodePointIterator"), (10, .class_ 60), (0, u "java/lang/CharSequence$1CharIterator"), (5, .class_ 67), (0, u "java/lang/Object")] 63

/-- java/lang/CharSequence -/
def k4 : Class := { plain "java/lang/CharSequence" (some 0) with
  accessFlags := 1537
  interfaces := #[]
  cf := some (fileOf pool4 2 #[.nestMembers #[47, 59]] #[] 1537 66 #[] #[])
  fields := #[]
  methods := #[]
  instanceTypes := #[]
  staticTypes := #[]
  resolved := Array.replicate 131 none
  statics := none }

def pool5 : Array CpInfo := pool [(1, .class_ 2), (0, u "java/lang/constant/Constable"), (0, .class_ 4), (0, u "java/lang/Object")] 6

/-- java/lang/constant/Constable -/
def k5 : Class := { plain "java/lang/constant/Constable" (some 0) with
  accessFlags := 1537
  interfaces := #[]
  cf := some (fileOf pool5 1 #[] #[] 1537 3 #[] #[])
  fields := #[]
  methods := #[]
  instanceTypes := #[]
  staticTypes := #[]
  resolved := Array.replicate 11 none
  statics := none }

def pool6 : Array CpInfo := pool [(1, .class_ 2), (0, u "java/lang/constant/ConstantDesc"), (0, .class_ 4), (0, u "java/lang/Object")] 32

/-- java/lang/constant/ConstantDesc -/
def k6 : Class := { plain "java/lang/constant/ConstantDesc" (some 0) with
  accessFlags := 1537
  interfaces := #[]
  cf := some (fileOf pool6 1 #[] #[] 1537 3 #[] #[])
  fields := #[]
  methods := #[]
  instanceTypes := #[]
  staticTypes := #[]
  resolved := Array.replicate 37 none
  statics := none }

def pool7 : Array CpInfo := pool [(1, .methodref 2 3), (0, .class_ 4), (0, .nameAndType 5 6), (0, u "java/lang/Object"), (0, u "<init>"), (0, u "()V"), (2, .fieldref 10 11), (0, .class_ 12), (0, .nameAndType 13 14), (0, u "java/lang/String"), (0, u "value"), (0, u "[B"), (0, .fieldref 10 16), (0, .nameAndType 17 18), (0, u "coder"), (0, u "B"), (2, u "hash"), (0, u "I"), (2, u "hashIsZero"), (0, u "Z"), (0, .methodref 10 28), (0, .nameAndType 5 29), (0, u "([CIILjava/lang/Void;)V"), (8, .fieldref 10 39), (0, .nameAndType 40 26), (0, u "COMPACT_STRINGS"), (1, .class_ 44), (1, u "java/lang/StringUTF16"), (0, u "compress"), (1, .methodref 42 48), (0, .nameAndType 49 50), (0, u "coderFromArrayLen"), (0, u "([BI)B"), (2, u "toBytes"), (0, .methodref 55 56), (0, .class_ 57), (0, .nameAndType 58 59), (0, u "java/util/Arrays"), (0, u "copyOfRange"), (0, u "([BII)[B"), (47, .class_ 109), (1, u "java/lang/StringLatin1"), (32, u "()Z"), (34, .methodref 42 178), (0, .nameAndType 45 179), (0, u "([CII)[B"), (13, .class_ 195), (1, u "java/lang/System"), (13, .methodref 10 210), (0, .nameAndType 5 211), (0, u "([BB)V"), (0, .methodref 193 213), (0, .nameAndType 214 215), (0, u "arraycopy"), (0, u "(Ljava/lang/Object;ILjava/lang/Object;II)V"), (118, u "()I"), (0, .methodref 10 336), (0, .nameAndType 17 337), (0, u "()B"), (2, u "()[B"), (22, u "([BI)C"), (5, u "(C)Z"), (21, u "(II)V"), (35, u "(I)C"), (61, .methodref 10 490), (0, .nameAndType 5 491), (0, u "(Ljava/lang/AbstractStringBuilder;Ljava/lang/Void;)V"), (0, .methodref 10 493), (0, .nameAndType 494 142), (0, u "isLatin1"), (0, .methodref 107 496), (0, .nameAndType 497 363), (0, u "charAt"), (3, u "checkIndex"), (3, .methodref 10 506), (0, .nameAndType 507 334), (0, u "length"), (5, u "checkFromToIndex"), (7, .methodref 10 522), (0, .nameAndType 523 524), (0, u "checkBoundsBeginEnd"), (0, u "(III)V"), (7, u "getBytes"), (8, .methodref 107 542), (0, .nameAndType 543 544), (0, u "equals"), (0, u "([B[B)Z"), (4, .methodref 550 506), (0, .class_ 551), (0, u "java/lang/AbstractStringBuilder"), (0, .methodref 550 553), (0, .nameAndType 554 340), (0, u "getValue"), (18, u "(Ljava/lang/Object;)Z"), (1, .class_ 576), (0, u "java/lang/CharSequence"), (22, u "CASE_INSENSITIVE_ORDER"), (0, u "Ljava/util/Comparator;"), (32, .methodref 10 634), (0, .nameAndType 635 636), (0, u "indexOf"), (0, u "(II)I"), (0, .methodref 107 638), (0, .nameAndType 635 639), (0, u "([BIII)I"), (43, u "substring"), (0, u "(II)Ljava/lang/String;"), (0, .methodref 107 686), (0, .nameAndType 687 688), (0, u "newString"), (0, u "([BII)Ljava/lang/String;"), (3, u "isEmpty"), (72, u "(I)I"), (16, u "valueOf"), (0, u "(C)Ljava/lang/String;"), (37, u "([BIB)V"), (188, u "([C)V"), (4, .methodref 107 1016), (0, .nameAndType 1017 369), (0, u "canEncode"), (0, .methodref 107 1019), (0, .nameAndType 53 1020), (0, u "(C)[B"), (26, .methodref 550 493), (5, .fieldref 1054 1055), (0, .class_ 1056), (0, .nameAndType 1057 1058), (0, u "jdk/internal/util/Preconditions"), (0, u "SIOOBE_FORMATTER"), (0, u "Ljava/util/function/BiFunction;"), (0, .methodref 1054 1060), (0, .nameAndType 501 1061), (0, u "(IILjava/util/function/BiFunction;)I"), (0, .methodref 1054 1063), (0, .nameAndType 513 1064), (0, u "(IIILjava/util/function/BiFunction;)I"), (36, u "serialPersistentFields"), (0, u "[Ljava/io/ObjectStreamField;"), (0, .class_ 1104), (0, u "java/lang/String$CaseInsensitiveComparator"), (1, .class_ 1107), (0, u "java/io/Serializable"), (0, .class_ 1109), (0, u "java/lang/Comparable"), (0, .class_ 1111), (0, u "java/lang/constant/Constable"), (0, .class_ 1113), (0, u "java/lang/constant/ConstantDesc"), (2, u "serialVersionUID"), (0, u "J"), (3, u "REPL"), (0, u "C"), (2, u "LATIN1"), (1, u "UTF16"), (105, u "(Ljava/lang/StringBuilder;)V")] 217

def k7m0 : Method := { name := "<init>", desc := "()V", sig := { parameters := [], returnType := none }, accessFlags := 1, code := none }
def k7c1 : Code := { maxStack := 5, maxLocals := 2, code := jdk_42_method_3_code, exceptionTable := #[], attributes := #[] }
def k7m1 : Method := { name := "<init>", desc := "([C)V", sig := { parameters := [(.array .char)], returnType := none }, accessFlags := 1, code := some k7c1 }
def k7c2 : Code := { maxStack := 3, maxLocals := 2, code := jdk_42_method_53_code, exceptionTable := #[], attributes := #[] }
def k7m2 : Method := { name := "<init>", desc := "(Ljava/lang/StringBuilder;)V", sig := { parameters := [(.object "java/lang/StringBuilder")], returnType := none }, accessFlags := 1, code := some k7c2 }
def k7c3 : Code := { maxStack := 2, maxLocals := 1, code := jdk_42_method_54_code, exceptionTable := #[], attributes := #[] }
def k7m3 : Method := { name := "length", desc := "()I", sig := { parameters := [], returnType := some .int }, accessFlags := 1, code := some k7c3 }
def k7c4 : Code := { maxStack := 1, maxLocals := 1, code := jdk_42_method_55_code, exceptionTable := #[], attributes := #[] }
def k7m4 : Method := { name := "isEmpty", desc := "()Z", sig := { parameters := [], returnType := some .boolean }, accessFlags := 1, code := some k7c4 }
def k7c5 : Code := { maxStack := 2, maxLocals := 2, code := jdk_42_method_56_code, exceptionTable := #[], attributes := #[] }
def k7m5 : Method := { name := "charAt", desc := "(I)C", sig := { parameters := [.int], returnType := some .char }, accessFlags := 1, code := some k7c5 }
def k7c6 : Code := { maxStack := 2, maxLocals := 3, code := jdk_42_method_66_code, exceptionTable := #[], attributes := #[] }
def k7m6 : Method := { name := "equals", desc := "(Ljava/lang/Object;)Z", sig := { parameters := [(.object "java/lang/Object")], returnType := some .boolean }, accessFlags := 1, code := some k7c6 }
def k7c7 : Code := { maxStack := 3, maxLocals := 2, code := jdk_42_method_79_code, exceptionTable := #[], attributes := #[] }
def k7m7 : Method := { name := "indexOf", desc := "(I)I", sig := { parameters := [.int], returnType := some .int }, accessFlags := 1, code := some k7c7 }
def k7c8 : Code := { maxStack := 4, maxLocals := 3, code := jdk_42_method_80_code, exceptionTable := #[], attributes := #[] }
def k7m8 : Method := { name := "indexOf", desc := "(II)I", sig := { parameters := [.int, .int], returnType := some .int }, accessFlags := 1, code := some k7c8 }
def k7c9 : Code := { maxStack := 3, maxLocals := 5, code := jdk_42_method_92_code, exceptionTable := #[], attributes := #[] }
def k7m9 : Method := { name := "substring", desc := "(II)Ljava/lang/String;", sig := { parameters := [.int, .int], returnType := some (.object "java/lang/String") }, accessFlags := 1, code := some k7c9 }
def k7c10 : Code := { maxStack := 4, maxLocals := 1, code := jdk_42_method_139_code, exceptionTable := #[], attributes := #[] }
def k7m10 : Method := { name := "valueOf", desc := "(C)Ljava/lang/String;", sig := { parameters := [.char], returnType := some (.object "java/lang/String") }, accessFlags := 9, code := some k7c10 }
def k7c11 : Code := { maxStack := 5, maxLocals := 4, code := jdk_42_method_147_code, exceptionTable := #[], attributes := #[] }
def k7m11 : Method := { name := "getBytes", desc := "([BIB)V", sig := { parameters := [(.array .byte), .int, .byte], returnType := none }, accessFlags := 0, code := some k7c11 }
def k7c12 : Code := { maxStack := 4, maxLocals := 6, code := jdk_42_method_149_code, exceptionTable := #[], attributes := #[] }
def k7m12 : Method := { name := "<init>", desc := "([CIILjava/lang/Void;)V", sig := { parameters := [(.array .char), .int, .int, (.object "java/lang/Void")], returnType := none }, accessFlags := 2, code := some k7c12 }
def k7c13 : Code := { maxStack := 5, maxLocals := 5, code := jdk_42_method_150_code, exceptionTable := #[], attributes := #[] }
def k7m13 : Method := { name := "<init>", desc := "(Ljava/lang/AbstractStringBuilder;Ljava/lang/Void;)V", sig := { parameters := [(.object "java/lang/AbstractStringBuilder"), (.object "java/lang/Void")], returnType := none }, accessFlags := 0, code := some k7c13 }
def k7c14 : Code := { maxStack := 2, maxLocals := 3, code := jdk_42_method_151_code, exceptionTable := #[], attributes := #[] }
def k7m14 : Method := { name := "<init>", desc := "([BB)V", sig := { parameters := [(.array .byte), .byte], returnType := none }, accessFlags := 0, code := some k7c14 }
def k7c15 : Code := { maxStack := 1, maxLocals := 1, code := jdk_42_method_152_code, exceptionTable := #[], attributes := #[] }
def k7m15 : Method := { name := "coder", desc := "()B", sig := { parameters := [], returnType := some .byte }, accessFlags := 0, code := some k7c15 }
def k7c16 : Code := { maxStack := 1, maxLocals := 1, code := jdk_42_method_154_code, exceptionTable := #[], attributes := #[] }
def k7m16 : Method := { name := "isLatin1", desc := "()Z", sig := { parameters := [], returnType := some .boolean }, accessFlags := 0, code := some k7c16 }
def k7c17 : Code := { maxStack := 3, maxLocals := 2, code := jdk_42_method_155_code, exceptionTable := #[], attributes := #[] }
def k7m17 : Method := { name := "checkIndex", desc := "(II)V", sig := { parameters := [.int, .int], returnType := none }, accessFlags := 8, code := some k7c17 }
def k7c18 : Code := { maxStack := 4, maxLocals := 3, code := jdk_42_method_158_code, exceptionTable := #[], attributes := #[] }
def k7m18 : Method := { name := "checkBoundsBeginEnd", desc := "(III)V", sig := { parameters := [.int, .int, .int], returnType := none }, accessFlags := 8, code := some k7c18 }
/-- java/lang/String -/
def k7 : Class := { plain "java/lang/String" (some 0) with
  accessFlags := 49
  interfaces := #[2, 3, 4, 5, 6]
  cf := some (fileOf pool7 10 #[.nestMembers #[1103]] #[{ accessFlags := 1, nameIndex := 5, descriptorIndex := 6, attributes := #[] }, { accessFlags := 1, nameIndex := 5, descriptorIndex := 1010, attributes := #[] }, { accessFlags := 1, nameIndex := 5, descriptorIndex := 1233, attributes := #[] }, { accessFlags := 1, nameIndex := 507, descriptorIndex := 334, attributes := #[] }, { accessFlags := 1, nameIndex := 692, descriptorIndex := 142, attributes := #[] }, { accessFlags := 1, nameIndex := 497, descriptorIndex := 427, attributes := #[] }, { accessFlags := 1, nameIndex := 543, descriptorIndex := 573, attributes := #[] }, { accessFlags := 1, nameIndex := 635, descriptorIndex := 765, attributes := #[] }, { accessFlags := 1, nameIndex := 635, descriptorIndex := 636, attributes := #[] }, { accessFlags := 1, nameIndex := 683, descriptorIndex := 684, attributes := #[] }, { accessFlags := 9, nameIndex := 782, descriptorIndex := 783, attributes := #[] }, { accessFlags := 0, nameIndex := 532, descriptorIndex := 821, attributes := #[] }, { accessFlags := 2, nameIndex := 5, descriptorIndex := 29, attributes := #[] }, { accessFlags := 0, nameIndex := 5, descriptorIndex := 491, attributes := #[] }, { accessFlags := 0, nameIndex := 5, descriptorIndex := 211, attributes := #[] }, { accessFlags := 0, nameIndex := 17, descriptorIndex := 337, attributes := #[] }, { accessFlags := 0, nameIndex := 494, descriptorIndex := 142, attributes := #[] }, { accessFlags := 8, nameIndex := 501, descriptorIndex := 391, attributes := #[] }, { accessFlags := 8, nameIndex := 523, descriptorIndex := 524, attributes := #[] }] 49 2 #[1106, 1108, 575, 1110, 1112] #[{ accessFlags := 18, nameIndex := 13, descriptorIndex := 14, attributes := #[] }, { accessFlags := 18, nameIndex := 17, descriptorIndex := 18, attributes := #[] }, { accessFlags := 2, nameIndex := 21, descriptorIndex := 22, attributes := #[] }, { accessFlags := 2, nameIndex := 25, descriptorIndex := 26, attributes := #[] }, { accessFlags := 26, nameIndex := 1116, descriptorIndex := 1117, attributes := #[] }, { accessFlags := 24, nameIndex := 40, descriptorIndex := 26, attributes := #[] }, { accessFlags := 26, nameIndex := 1101, descriptorIndex := 1102, attributes := #[] }, { accessFlags := 26, nameIndex := 1121, descriptorIndex := 1122, attributes := #[] }, { accessFlags := 25, nameIndex := 599, descriptorIndex := 600, attributes := #[] }, { accessFlags := 24, nameIndex := 1125, descriptorIndex := 18, attributes := #[] }, { accessFlags := 24, nameIndex := 1127, descriptorIndex := 18, attributes := #[] }])
  fields := #[{ name := "value", type := (.array .byte), accessFlags := 18, slot := 0, constantValue := 0 }, { name := "coder", type := .byte, accessFlags := 18, slot := 1, constantValue := 0 }, { name := "hash", type := .int, accessFlags := 2, slot := 2, constantValue := 0 }, { name := "hashIsZero", type := .boolean, accessFlags := 2, slot := 3, constantValue := 0 }, { name := "serialVersionUID", type := .long, accessFlags := 26, slot := 0, constantValue := 0 }, { name := "COMPACT_STRINGS", type := .boolean, accessFlags := 24, slot := 1, constantValue := 0 }, { name := "serialPersistentFields", type := (.array (.object "java/io/ObjectStreamField")), accessFlags := 26, slot := 2, constantValue := 0 }, { name := "REPL", type := .char, accessFlags := 26, slot := 3, constantValue := 0 }, { name := "CASE_INSENSITIVE_ORDER", type := (.object "java/util/Comparator"), accessFlags := 25, slot := 4, constantValue := 0 }, { name := "LATIN1", type := .byte, accessFlags := 24, slot := 5, constantValue := 0 }, { name := "UTF16", type := .byte, accessFlags := 24, slot := 6, constantValue := 0 }]
  methods := #[k7m0, k7m1, k7m2, k7m3, k7m4, k7m5, k7m6, k7m7, k7m8, k7m9, k7m10, k7m11, k7m12, k7m13, k7m14, k7m15, k7m16, k7m17, k7m18]
  instanceTypes := #[(.array .byte), .byte, .int, .boolean]
  staticTypes := #[.long, .boolean, (.array (.object "java/io/ObjectStreamField")), .char, (.object "java/util/Comparator"), .byte, .byte]
  resolved := Array.replicate 1451 none
  statics := some 0 }

def pool8 : Array CpInfo := pool [(1, .class_ 2), (0, u "java/lang/String"), (1, .class_ 6), (1, u "java/lang/Object"), (0, u "<init>"), (0, u "()V"), (0, .methodref 1 10), (0, .nameAndType 11 12), (0, u "checkIndex"), (0, u "(II)V"), (1, .class_ 16), (1, u "java/lang/StringLatin1"), (21, .methodref 39 40), (0, .class_ 41), (0, .nameAndType 42 43), (0, u "java/lang/Math"), (0, u "min"), (0, u "(II)I"), (9, u "([BI)C"), (34, .methodref 14 89), (0, .nameAndType 90 91), (0, u "canEncode"), (0, u "(I)Z"), (0, .methodref 39 93), (0, .nameAndType 94 43), (0, u "max"), (0, .methodref 14 96), (0, .nameAndType 97 98), (0, u "indexOfChar"), (0, u "([BIII)I"), (2, u "indexOf"), (3, u "(C)Z"), (6, .methodref 1 113), (0, .nameAndType 7 114), (0, u "([BB)V"), (6, u "$assertionsDisabled"), (0, u "Z"), (8, .class_ 133), (1, u "java/util/Arrays"), (62, u "newString"), (0, u "([BII)Ljava/lang/String;"), (23, .class_ 223), (1, u "java/lang/StringLatin1$LinesSpliterator"), (8, .methodref 131 233), (0, .nameAndType 234 235), (0, u "copyOfRange"), (0, u "([BII)[B"), (16, u "charAt"), (28, u "equals"), (0, u "([B[B)Z"), (97, u "toBytes"), (1, u "(C)[B"), (7, .class_ 391), (0, u "java/lang/StringLatin1$CharsSpliterator")] 3

def k8m0 : Method := { name := "<init>", desc := "()V", sig := { parameters := [], returnType := none }, accessFlags := 0, code := none }
def k8c1 : Code := { maxStack := 2, maxLocals := 2, code := jdk_43_method_2_code, exceptionTable := #[], attributes := #[] }
def k8m1 : Method := { name := "charAt", desc := "([BI)C", sig := { parameters := [(.array .byte), .int], returnType := some .char }, accessFlags := 9, code := some k8c1 }
def k8c2 : Code := { maxStack := 2, maxLocals := 1, code := jdk_43_method_3_code, exceptionTable := #[], attributes := #[] }
def k8m2 : Method := { name := "canEncode", desc := "(C)Z", sig := { parameters := [.char], returnType := some .boolean }, accessFlags := 9, code := some k8c2 }
def k8c3 : Code := { maxStack := 2, maxLocals := 1, code := jdk_43_method_4_code, exceptionTable := #[], attributes := #[] }
def k8m3 : Method := { name := "canEncode", desc := "(I)Z", sig := { parameters := [.int], returnType := some .boolean }, accessFlags := 9, code := some k8c3 }
def k8c4 : Code := { maxStack := 3, maxLocals := 3, code := jdk_43_method_13_code, exceptionTable := #[], attributes := #[] }
def k8m4 : Method := { name := "equals", desc := "([B[B)Z", sig := { parameters := [(.array .byte), (.array .byte)], returnType := some .boolean }, accessFlags := 9, code := some k8c4 }
def k8c5 : Code := { maxStack := 4, maxLocals := 4, code := jdk_43_method_22_code, exceptionTable := #[], attributes := #[] }
def k8m5 : Method := { name := "indexOf", desc := "([BIII)I", sig := { parameters := [(.array .byte), .int, .int, .int], returnType := some .int }, accessFlags := 9, code := some k8c5 }
def k8c6 : Code := { maxStack := 2, maxLocals := 6, code := jdk_43_method_23_code, exceptionTable := #[], attributes := #[] }
def k8m6 : Method := { name := "indexOfChar", desc := "([BIII)I", sig := { parameters := [(.array .byte), .int, .int, .int], returnType := some .int }, accessFlags := 10, code := some k8c6 }
def k8c7 : Code := { maxStack := 4, maxLocals := 1, code := jdk_43_method_46_code, exceptionTable := #[], attributes := #[] }
def k8m7 : Method := { name := "toBytes", desc := "(C)[B", sig := { parameters := [.char], returnType := some (.array .byte) }, accessFlags := 9, code := some k8c7 }
def k8c8 : Code := { maxStack := 6, maxLocals := 3, code := jdk_43_method_47_code, exceptionTable := #[], attributes := #[] }
def k8m8 : Method := { name := "newString", desc := "([BII)Ljava/lang/String;", sig := { parameters := [(.array .byte), .int, .int], returnType := some (.object "java/lang/String") }, accessFlags := 9, code := some k8c8 }
/-- java/lang/StringLatin1 -/
def k8 : Class := { plain "java/lang/StringLatin1" (some 0) with
  accessFlags := 48
  interfaces := #[]
  cf := some (fileOf pool8 14 #[.nestMembers #[390, 221]] #[{ accessFlags := 0, nameIndex := 7, descriptorIndex := 8, attributes := #[] }, { accessFlags := 9, nameIndex := 252, descriptorIndex := 53, attributes := #[] }, { accessFlags := 9, nameIndex := 90, descriptorIndex := 105, attributes := #[] }, { accessFlags := 9, nameIndex := 90, descriptorIndex := 91, attributes := #[] }, { accessFlags := 9, nameIndex := 281, descriptorIndex := 282, attributes := #[] }, { accessFlags := 9, nameIndex := 101, descriptorIndex := 98, attributes := #[] }, { accessFlags := 10, nameIndex := 97, descriptorIndex := 98, attributes := #[] }, { accessFlags := 9, nameIndex := 380, descriptorIndex := 382, attributes := #[] }, { accessFlags := 9, nameIndex := 196, descriptorIndex := 197, attributes := #[] }] 48 4 #[] #[{ accessFlags := 4120, nameIndex := 121, descriptorIndex := 122, attributes := #[] }])
  fields := #[{ name := "$assertionsDisabled", type := .boolean, accessFlags := 4120, slot := 0, constantValue := 0 }]
  methods := #[k8m0, k8m1, k8m2, k8m3, k8m4, k8m5, k8m6, k8m7, k8m8]
  instanceTypes := #[]
  staticTypes := #[.boolean]
  resolved := Array.replicate 395 none
  statics := none }

def pool9 : Array CpInfo := pool [(2, .class_ 4), (0, .nameAndType 5 6), (0, u "java/lang/Object"), (0, u "<init>"), (0, u "()V"), (0, .class_ 8), (0, u "java/lang/StringBuilder"), (0, .methodref 7 3), (0, .class_ 11), (0, u "com/example/holdfast/holdfast/Keys"), (0, .string 13), (0, u "holdfast:lock:"), (0, .methodref 7 15), (0, .nameAndType 16 17), (0, u "append"), (0, u "(Ljava/lang/String;)Ljava/lang/StringBuilder;"), (0, .methodref 10 19), (0, .nameAndType 20 21), (0, u "hashTag"), (0, u "(Ljava/lang/String;)Ljava/lang/String;"), (0, .methodref 7 23), (0, .nameAndType 24 25), (0, u "toString"), (0, u "()Ljava/lang/String;"), (0, .methodref 10 27), (0, .nameAndType 28 21), (0, u "lock"), (0, .string 30), (0, u ":token"), (0, .string 32), (0, u ":released"), (0, .string 34), (0, u "holdfast:fairlock:"), (0, .methodref 10 36), (0, .nameAndType 37 21), (0, u "fairLock"), (2, .string 41), (0, u ":line"), (0, .string 43), (0, u ":waiting"), (0, .methodref 10 45), (0, .nameAndType 46 21), (0, u "readWriteLock"), (0, .string 48), (0, u ":write"), (0, .string 50), (0, u ":read"), (0, .methodref 10 52), (0, .nameAndType 53 21), (0, u "readers"), (0, .methodref 10 55), (0, .nameAndType 56 57), (0, u "readHoldAmong"), (0, u "(Ljava/lang/String;Ljava/lang/String;)Ljava/lang/String;"), (0, .string 59), (0, u ":"), (0, .methodref 10 61), (0, .nameAndType 62 21), (0, u "places"), (0, .string 64), (0, u "holdfast:rwlock:"), (0, .string 66), (0, u "holdfast:semaphore:"), (0, .methodref 10 68), (0, .nameAndType 69 21), (0, u "semaphore"), (0, .string 71), (0, u ":copy"), (0, .methodref 73 74), (0, .class_ 75), (0, .nameAndType 76 77), (0, u "java/lang/String"), (0, u "indexOf"), (0, u "(I)I"), (0, .methodref 73 79), (0, .nameAndType 80 81), (0, u "substring"), (0, u "(II)Ljava/lang/String;"), (0, .string 83), (0, u "holdfast:call:"), (0, .string 85), (0, u "name"), (0, .methodref 87 88), (0, .class_ 89), (0, .nameAndType 90 91), (0, u "java/util/Objects"), (0, u "requireNonNull"), (0, u "(Ljava/lang/Object;Ljava/lang/String;)Ljava/lang/Object;"), (0, .methodref 73 93), (0, .nameAndType 94 95), (0, u "isEmpty"), (0, u "()Z"), (9, .string 106), (0, u "{"), (0, .string 108), (0, u "}"), (0, u "PREFIX"), (0, u "Ljava/lang/String;"), (5, u "lockToken"), (0, u "lockReleased"), (1, u "fairLockLine"), (3, u "readHold"), (2, u "waitingWriters"), (1, u "semaphoreCopy"), (1, u "lastCall")] 3

def k9m0 : Method := { name := "<init>", desc := "()V", sig := { parameters := [], returnType := none }, accessFlags := 2, code := none }
def k9c1 : Code := { maxStack := 2, maxLocals := 1, code := prog_8_method_2_code, exceptionTable := #[], attributes := #[] }
def k9m1 : Method := { name := "lock", desc := "(Ljava/lang/String;)Ljava/lang/String;", sig := { parameters := [(.object "java/lang/String")], returnType := some (.object "java/lang/String") }, accessFlags := 8, code := some k9c1 }
def k9c2 : Code := { maxStack := 2, maxLocals := 1, code := prog_8_method_3_code, exceptionTable := #[], attributes := #[] }
def k9m2 : Method := { name := "lockToken", desc := "(Ljava/lang/String;)Ljava/lang/String;", sig := { parameters := [(.object "java/lang/String")], returnType := some (.object "java/lang/String") }, accessFlags := 8, code := some k9c2 }
def k9c3 : Code := { maxStack := 2, maxLocals := 1, code := prog_8_method_4_code, exceptionTable := #[], attributes := #[] }
def k9m3 : Method := { name := "lockReleased", desc := "(Ljava/lang/String;)Ljava/lang/String;", sig := { parameters := [(.object "java/lang/String")], returnType := some (.object "java/lang/String") }, accessFlags := 8, code := some k9c3 }
def k9c4 : Code := { maxStack := 2, maxLocals := 1, code := prog_8_method_5_code, exceptionTable := #[], attributes := #[] }
def k9m4 : Method := { name := "fairLock", desc := "(Ljava/lang/String;)Ljava/lang/String;", sig := { parameters := [(.object "java/lang/String")], returnType := some (.object "java/lang/String") }, accessFlags := 8, code := some k9c4 }
def k9c5 : Code := { maxStack := 2, maxLocals := 1, code := prog_8_method_7_code, exceptionTable := #[], attributes := #[] }
def k9m5 : Method := { name := "fairLockLine", desc := "(Ljava/lang/String;)Ljava/lang/String;", sig := { parameters := [(.object "java/lang/String")], returnType := some (.object "java/lang/String") }, accessFlags := 8, code := some k9c5 }
def k9c6 : Code := { maxStack := 2, maxLocals := 1, code := prog_8_method_11_code, exceptionTable := #[], attributes := #[] }
def k9m6 : Method := { name := "readers", desc := "(Ljava/lang/String;)Ljava/lang/String;", sig := { parameters := [(.object "java/lang/String")], returnType := some (.object "java/lang/String") }, accessFlags := 8, code := some k9c6 }
def k9c7 : Code := { maxStack := 2, maxLocals := 2, code := prog_8_method_12_code, exceptionTable := #[], attributes := #[] }
def k9m7 : Method := { name := "readHold", desc := "(Ljava/lang/String;Ljava/lang/String;)Ljava/lang/String;", sig := { parameters := [(.object "java/lang/String"), (.object "java/lang/String")], returnType := some (.object "java/lang/String") }, accessFlags := 8, code := some k9c7 }
def k9c8 : Code := { maxStack := 2, maxLocals := 2, code := prog_8_method_13_code, exceptionTable := #[], attributes := #[] }
def k9m8 : Method := { name := "readHoldAmong", desc := "(Ljava/lang/String;Ljava/lang/String;)Ljava/lang/String;", sig := { parameters := [(.object "java/lang/String"), (.object "java/lang/String")], returnType := some (.object "java/lang/String") }, accessFlags := 8, code := some k9c8 }
def k9c9 : Code := { maxStack := 2, maxLocals := 1, code := prog_8_method_15_code, exceptionTable := #[], attributes := #[] }
def k9m9 : Method := { name := "places", desc := "(Ljava/lang/String;)Ljava/lang/String;", sig := { parameters := [(.object "java/lang/String")], returnType := some (.object "java/lang/String") }, accessFlags := 8, code := some k9c9 }
def k9c10 : Code := { maxStack := 2, maxLocals := 1, code := prog_8_method_17_code, exceptionTable := #[], attributes := #[] }
def k9m10 : Method := { name := "waitingWriters", desc := "(Ljava/lang/String;)Ljava/lang/String;", sig := { parameters := [(.object "java/lang/String")], returnType := some (.object "java/lang/String") }, accessFlags := 8, code := some k9c10 }
def k9c11 : Code := { maxStack := 2, maxLocals := 1, code := prog_8_method_19_code, exceptionTable := #[], attributes := #[] }
def k9m11 : Method := { name := "readWriteLock", desc := "(Ljava/lang/String;)Ljava/lang/String;", sig := { parameters := [(.object "java/lang/String")], returnType := some (.object "java/lang/String") }, accessFlags := 10, code := some k9c11 }
def k9c12 : Code := { maxStack := 2, maxLocals := 1, code := prog_8_method_20_code, exceptionTable := #[], attributes := #[] }
def k9m12 : Method := { name := "semaphore", desc := "(Ljava/lang/String;)Ljava/lang/String;", sig := { parameters := [(.object "java/lang/String")], returnType := some (.object "java/lang/String") }, accessFlags := 8, code := some k9c12 }
def k9c13 : Code := { maxStack := 2, maxLocals := 1, code := prog_8_method_21_code, exceptionTable := #[], attributes := #[] }
def k9m13 : Method := { name := "semaphoreCopy", desc := "(Ljava/lang/String;)Ljava/lang/String;", sig := { parameters := [(.object "java/lang/String")], returnType := some (.object "java/lang/String") }, accessFlags := 8, code := some k9c13 }
def k9c14 : Code := { maxStack := 4, maxLocals := 3, code := prog_8_method_23_code, exceptionTable := #[], attributes := #[] }
def k9m14 : Method := { name := "lastCall", desc := "(Ljava/lang/String;Ljava/lang/String;)Ljava/lang/String;", sig := { parameters := [(.object "java/lang/String"), (.object "java/lang/String")], returnType := some (.object "java/lang/String") }, accessFlags := 8, code := some k9c14 }
def k9c15 : Code := { maxStack := 4, maxLocals := 1, code := prog_8_method_24_code, exceptionTable := #[], attributes := #[] }
def k9m15 : Method := { name := "hashTag", desc := "(Ljava/lang/String;)Ljava/lang/String;", sig := { parameters := [(.object "java/lang/String")], returnType := some (.object "java/lang/String") }, accessFlags := 10, code := some k9c15 }
/-- com/example/holdfast/holdfast/Keys -/
def k9 : Class := { plain "com/example/holdfast/holdfast/Keys" (some 0) with
  accessFlags := 48
  interfaces := #[]
  cf := some (fileOf pool9 10 #[] #[{ accessFlags := 2, nameIndex := 5, descriptorIndex := 6, attributes := #[] }, { accessFlags := 8, nameIndex := 28, descriptorIndex := 21, attributes := #[] }, { accessFlags := 8, nameIndex := 116, descriptorIndex := 21, attributes := #[] }, { accessFlags := 8, nameIndex := 117, descriptorIndex := 21, attributes := #[] }, { accessFlags := 8, nameIndex := 37, descriptorIndex := 21, attributes := #[] }, { accessFlags := 8, nameIndex := 119, descriptorIndex := 21, attributes := #[] }, { accessFlags := 8, nameIndex := 53, descriptorIndex := 21, attributes := #[] }, { accessFlags := 8, nameIndex := 123, descriptorIndex := 57, attributes := #[] }, { accessFlags := 8, nameIndex := 56, descriptorIndex := 57, attributes := #[] }, { accessFlags := 8, nameIndex := 62, descriptorIndex := 21, attributes := #[] }, { accessFlags := 8, nameIndex := 126, descriptorIndex := 21, attributes := #[] }, { accessFlags := 10, nameIndex := 46, descriptorIndex := 21, attributes := #[] }, { accessFlags := 8, nameIndex := 69, descriptorIndex := 21, attributes := #[] }, { accessFlags := 8, nameIndex := 128, descriptorIndex := 21, attributes := #[] }, { accessFlags := 8, nameIndex := 130, descriptorIndex := 57, attributes := #[] }, { accessFlags := 10, nameIndex := 20, descriptorIndex := 21, attributes := #[] }] 48 2 #[] #[{ accessFlags := 26, nameIndex := 109, descriptorIndex := 110, attributes := #[] }])
  fields := #[{ name := "PREFIX", type := (.object "java/lang/String"), accessFlags := 26, slot := 0, constantValue := 0 }]
  methods := #[k9m0, k9m1, k9m2, k9m3, k9m4, k9m5, k9m6, k9m7, k9m8, k9m9, k9m10, k9m11, k9m12, k9m13, k9m14, k9m15]
  instanceTypes := #[]
  staticTypes := #[(.object "java/lang/String")]
  resolved := Array.replicate 134 none
  statics := none }

def pool10 : Array CpInfo := pool [(1, .class_ 2), (0, u "java/lang/Appendable"), (0, .class_ 4), (0, u "java/lang/Object")] 9

/-- java/lang/Appendable -/
def k10 : Class := { plain "java/lang/Appendable" (some 0) with
  accessFlags := 1537
  interfaces := #[]
  cf := some (fileOf pool10 1 #[] #[] 1537 3 #[] #[])
  fields := #[]
  methods := #[]
  instanceTypes := #[]
  staticTypes := #[]
  resolved := Array.replicate 14 none
  statics := none }

def pool11 : Array CpInfo := pool [(1, .class_ 2), (0, u "java/lang/String"), (0, .methodref 4 5), (0, .class_ 6), (0, .nameAndType 7 8), (0, u "java/lang/Object"), (0, u "<init>"), (0, u "()V"), (1, .class_ 12), (1, u "java/lang/AbstractStringBuilder"), (0, u "EMPTYVALUE"), (0, u "[B"), (0, .fieldref 10 16), (0, .nameAndType 17 14), (0, u "value"), (0, .fieldref 1 19), (0, .nameAndType 20 21), (0, u "COMPACT_STRINGS"), (0, u "Z"), (0, .fieldref 10 23), (0, .nameAndType 24 25), (0, u "coder"), (0, u "B"), (6, .methodref 1 33), (0, .nameAndType 34 35), (0, u "length"), (0, u "()I"), (3, .integer 2147483647), (0, .methodref 1 41), (0, .nameAndType 24 42), (0, u "()B"), (2, u "append"), (0, u "(Ljava/lang/String;)Ljava/lang/AbstractStringBuilder;"), (1, .class_ 49), (0, u "java/lang/CharSequence"), (19, u "(Ljava/lang/String;)V"), (5, u "maybeLatin1"), (3, .fieldref 10 80), (0, .nameAndType 81 82), (0, u "count"), (0, u "I"), (2, u "isLatin1"), (0, u "()Z"), (13, .methodref 10 101), (0, .nameAndType 102 103), (0, u "ensureCapacityInternal"), (0, u "(I)V"), (0, .methodref 10 105), (0, .nameAndType 106 107), (0, u "newCapacity"), (0, u "(I)I"), (0, .methodref 109 110), (0, .class_ 111), (0, .nameAndType 112 113), (0, u "java/util/Arrays"), (0, u "copyOf"), (0, u "([BI)[B"), (0, .methodref 115 116), (0, .class_ 117), (0, .nameAndType 118 119), (0, u "jdk/internal/util/ArraysSupport"), (0, u "newLength"), (0, u "(III)I"), (88, .methodref 10 209), (0, .nameAndType 210 211), (0, u "putStringAt"), (0, u "(ILjava/lang/String;)V"), (5, u "inflateIfNeededFor"), (2, .nameAndType 221 222), (0, u "getBytes"), (0, u "([BIB)V"), (174, .methodref 10 398), (0, .nameAndType 217 69), (0, .methodref 1 220), (3, u "()[B"), (40, .class_ 445), (0, u "java/lang/Appendable"), (106, u "getValue")] 56

def k11m0 : Method := { name := "<init>", desc := "()V", sig := { parameters := [], returnType := none }, accessFlags := 0, code := none }
def k11c1 : Code := { maxStack := 2, maxLocals := 2, code := jdk_68_method_2_code, exceptionTable := #[], attributes := #[] }
def k11m1 : Method := { name := "<init>", desc := "(I)V", sig := { parameters := [.int], returnType := none }, accessFlags := 0, code := some k11c1 }
def k11c2 : Code := { maxStack := 1, maxLocals := 1, code := jdk_68_method_6_code, exceptionTable := #[], attributes := #[] }
def k11m2 : Method := { name := "length", desc := "()I", sig := { parameters := [], returnType := some .int }, accessFlags := 1, code := some k11c2 }
def k11c3 : Code := { maxStack := 4, maxLocals := 3, code := jdk_68_method_9_code, exceptionTable := #[], attributes := #[] }
def k11m3 : Method := { name := "ensureCapacityInternal", desc := "(I)V", sig := { parameters := [.int], returnType := none }, accessFlags := 2, code := some k11c3 }
def k11c4 : Code := { maxStack := 5, maxLocals := 6, code := jdk_68_method_10_code, exceptionTable := #[], attributes := #[] }
def k11m4 : Method := { name := "newCapacity", desc := "(I)I", sig := { parameters := [.int], returnType := some .int }, accessFlags := 2, code := some k11c4 }
def k11c5 : Code := { maxStack := 3, maxLocals := 3, code := jdk_68_method_22_code, exceptionTable := #[], attributes := #[] }
def k11m5 : Method := { name := "append", desc := "(Ljava/lang/String;)Ljava/lang/AbstractStringBuilder;", sig := { parameters := [(.object "java/lang/String")], returnType := some (.object "java/lang/AbstractStringBuilder") }, accessFlags := 1, code := some k11c5 }
def k11c6 : Code := { maxStack := 1, maxLocals := 1, code := jdk_68_method_64_code, exceptionTable := #[], attributes := #[] }
def k11m6 : Method := { name := "getValue", desc := "()[B", sig := { parameters := [], returnType := some (.array .byte) }, accessFlags := 16, code := some k11c6 }
def k11c7 : Code := { maxStack := 1, maxLocals := 1, code := jdk_68_method_68_code, exceptionTable := #[], attributes := #[] }
def k11m7 : Method := { name := "isLatin1", desc := "()Z", sig := { parameters := [], returnType := some .boolean }, accessFlags := 16, code := some k11c7 }
def k11c8 : Code := { maxStack := 2, maxLocals := 2, code := jdk_68_method_71_code, exceptionTable := #[], attributes := #[] }
def k11m8 : Method := { name := "inflateIfNeededFor", desc := "(Ljava/lang/String;)V", sig := { parameters := [(.object "java/lang/String")], returnType := none }, accessFlags := 2, code := some k11c8 }
def k11c9 : Code := { maxStack := 4, maxLocals := 3, code := jdk_68_method_73_code, exceptionTable := #[], attributes := #[] }
def k11m9 : Method := { name := "putStringAt", desc := "(ILjava/lang/String;)V", sig := { parameters := [.int, (.object "java/lang/String")], returnType := none }, accessFlags := 2, code := some k11c9 }
/-- java/lang/AbstractStringBuilder -/
def k11 : Class := { plain "java/lang/AbstractStringBuilder" (some 0) with
  accessFlags := 1056
  interfaces := #[10, 4]
  cf := some (fileOf pool11 10 #[] #[{ accessFlags := 0, nameIndex := 7, descriptorIndex := 8, attributes := #[] }, { accessFlags := 0, nameIndex := 7, descriptorIndex := 103, attributes := #[] }, { accessFlags := 1, nameIndex := 34, descriptorIndex := 35, attributes := #[] }, { accessFlags := 2, nameIndex := 102, descriptorIndex := 103, attributes := #[] }, { accessFlags := 2, nameIndex := 106, descriptorIndex := 107, attributes := #[] }, { accessFlags := 1, nameIndex := 45, descriptorIndex := 46, attributes := #[] }, { accessFlags := 16, nameIndex := 552, descriptorIndex := 403, attributes := #[] }, { accessFlags := 16, nameIndex := 85, descriptorIndex := 86, attributes := #[] }, { accessFlags := 2, nameIndex := 217, descriptorIndex := 69, attributes := #[] }, { accessFlags := 2, nameIndex := 210, descriptorIndex := 211, attributes := #[] }] 1056 4 #[444, 48] #[{ accessFlags := 0, nameIndex := 17, descriptorIndex := 14, attributes := #[] }, { accessFlags := 0, nameIndex := 24, descriptorIndex := 25, attributes := #[] }, { accessFlags := 0, nameIndex := 75, descriptorIndex := 21, attributes := #[] }, { accessFlags := 0, nameIndex := 81, descriptorIndex := 82, attributes := #[] }, { accessFlags := 26, nameIndex := 13, descriptorIndex := 14, attributes := #[] }])
  fields := #[{ name := "value", type := (.array .byte), accessFlags := 0, slot := 0, constantValue := 0 }, { name := "coder", type := .byte, accessFlags := 0, slot := 1, constantValue := 0 }, { name := "maybeLatin1", type := .boolean, accessFlags := 0, slot := 2, constantValue := 0 }, { name := "count", type := .int, accessFlags := 0, slot := 3, constantValue := 0 }, { name := "EMPTYVALUE", type := (.array .byte), accessFlags := 26, slot := 0, constantValue := 0 }]
  methods := #[k11m0, k11m1, k11m2, k11m3, k11m4, k11m5, k11m6, k11m7, k11m8, k11m9]
  instanceTypes := #[(.array .byte), .byte, .boolean, .int]
  staticTypes := #[(.array .byte)]
  resolved := Array.replicate 609 none
  statics := none }

def pool12 : Array CpInfo := pool [(1, .methodref 2 3), (0, .class_ 4), (0, .nameAndType 5 6), (0, u "java/lang/AbstractStringBuilder"), (0, u "<init>"), (0, u "(I)V"), (11, .class_ 20), (1, u "java/lang/String"), (3, .class_ 26), (1, u "java/lang/StringBuilder"), (0, u "append"), (0, u "(Ljava/lang/String;)Ljava/lang/StringBuilder;"), (0, .methodref 2 30), (0, .nameAndType 27 31), (0, u "(Ljava/lang/String;)Ljava/lang/AbstractStringBuilder;"), (105, .methodref 18 138), (0, .nameAndType 5 139), (0, u "(Ljava/lang/StringBuilder;)V"), (5, u "()V"), (10, u "()I"), (186, .methodref 2 344), (0, .nameAndType 345 156), (0, u "length"), (3, .class_ 350), (0, u "java/lang/Appendable"), (0, .class_ 352), (0, u "java/io/Serializable"), (0, .class_ 354), (0, u "java/lang/Comparable"), (0, .class_ 356), (0, u "java/lang/CharSequence"), (0, u "serialVersionUID"), (0, u "J"), (40, u "toString"), (0, u "()Ljava/lang/String;")] 21

def k12c0 : Code := { maxStack := 2, maxLocals := 1, code := jdk_67_method_1_code, exceptionTable := #[], attributes := #[] }
def k12m0 : Method := { name := "<init>", desc := "()V", sig := { parameters := [], returnType := none }, accessFlags := 1, code := some k12c0 }
def k12c1 : Code := { maxStack := 2, maxLocals := 2, code := jdk_67_method_7_code, exceptionTable := #[], attributes := #[] }
def k12m1 : Method := { name := "append", desc := "(Ljava/lang/String;)Ljava/lang/StringBuilder;", sig := { parameters := [(.object "java/lang/String")], returnType := some (.object "java/lang/StringBuilder") }, accessFlags := 1, code := some k12c1 }
def k12c2 : Code := { maxStack := 3, maxLocals := 1, code := jdk_67_method_42_code, exceptionTable := #[], attributes := #[] }
def k12m2 : Method := { name := "toString", desc := "()Ljava/lang/String;", sig := { parameters := [], returnType := some (.object "java/lang/String") }, accessFlags := 1, code := some k12c2 }
def k12c3 : Code := { maxStack := 1, maxLocals := 1, code := jdk_67_method_93_code, exceptionTable := #[], attributes := #[] }
def k12m3 : Method := { name := "length", desc := "()I", sig := { parameters := [], returnType := some .int }, accessFlags := 4161, code := some k12c3 }
/-- java/lang/StringBuilder -/
def k12 : Class := { plain "java/lang/StringBuilder" (some 11) with
  accessFlags := 49
  interfaces := #[10, 2, 3, 4]
  cf := some (fileOf pool12 24 #[] #[{ accessFlags := 1, nameIndex := 5, descriptorIndex := 145, attributes := #[] }, { accessFlags := 1, nameIndex := 27, descriptorIndex := 28, attributes := #[] }, { accessFlags := 1, nameIndex := 399, descriptorIndex := 400, attributes := #[] }, { accessFlags := 4161, nameIndex := 345, descriptorIndex := 156, attributes := #[] }] 49 2 #[349, 351, 353, 355] #[{ accessFlags := 24, nameIndex := 357, descriptorIndex := 358, attributes := #[] }])
  fields := #[{ name := "serialVersionUID", type := .long, accessFlags := 24, slot := 0, constantValue := 0 }]
  methods := #[k12m0, k12m1, k12m2, k12m3]
  instanceTypes := #[(.array .byte), .byte, .boolean, .int]
  staticTypes := #[.long]
  resolved := Array.replicate 422 none
  statics := none }

def pool13 : Array CpInfo := pool [(2, .class_ 4), (1, u "java/lang/Object"), (0, u "<init>"), (0, u "()V"), (1, .class_ 10), (1, u "java/lang/System"), (0, u "allowSecurityManager"), (0, u "I"), (16, u "cons"), (0, u "Ljava/io/Console;"), (77, .class_ 110), (1, u "java/lang/System$CallersHolder"), (43, u "initialErrStream"), (0, u "Ljava/io/PrintStream;"), (19, u "security"), (0, u "Ljava/lang/SecurityManager;"), (31, .class_ 209), (0, u "java/lang/System$1"), (7, u "props"), (0, u "Ljava/util/Properties;"), (2, u "lineSeparator"), (0, u "Ljava/lang/String;"), (96, .class_ 321), (1, u "java/lang/System$LoggerFinder"), (5, .class_ 328), (0, u "java/lang/System$Logger"), (67, u "err"), (2, u "out"), (91, u "notSupportedJnuEncoding"), (15, u "in"), (17, u "initialIn"), (0, u "Ljava/io/InputStream;"), (35, u "bootLayer"), (0, u "Ljava/lang/ModuleLayer;"), (99, .class_ 664), (0, u "java/lang/System$2"), (9, u "NEVER"), (2, u "MAYBE"), (49, u "arraycopy"), (0, u "(Ljava/lang/Object;ILjava/lang/Object;II)V"), (72, .class_ 802), (0, u "java/lang/System$Logger$Level")] 31

def k13m0 : Method := { name := "<init>", desc := "()V", sig := { parameters := [], returnType := none }, accessFlags := 2, code := none }
def k13m1 : Method := { name := "arraycopy", desc := "(Ljava/lang/Object;ILjava/lang/Object;II)V", sig := { parameters := [(.object "java/lang/Object"), .int, (.object "java/lang/Object"), .int, .int], returnType := none }, accessFlags := 265, code := none }
/-- java/lang/System -/
def k13 : Class := { plain "java/lang/System" (some 0) with
  accessFlags := 49
  interfaces := #[]
  cf := some (fileOf pool13 8 #[.nestMembers #[319, 327, 801, 108, 663, 208]] #[{ accessFlags := 2, nameIndex := 5, descriptorIndex := 6, attributes := #[] }, { accessFlags := 265, nameIndex := 727, descriptorIndex := 728, attributes := #[] }] 49 2 #[] #[{ accessFlags := 25, nameIndex := 507, descriptorIndex := 526, attributes := #[] }, { accessFlags := 25, nameIndex := 399, descriptorIndex := 155, attributes := #[] }, { accessFlags := 25, nameIndex := 396, descriptorIndex := 155, attributes := #[] }, { accessFlags := 10, nameIndex := 525, descriptorIndex := 526, attributes := #[] }, { accessFlags := 26, nameIndex := 674, descriptorIndex := 12, attributes := #[] }, { accessFlags := 26, nameIndex := 677, descriptorIndex := 12, attributes := #[] }, { accessFlags := 10, nameIndex := 11, descriptorIndex := 12, attributes := #[] }, { accessFlags := 74, nameIndex := 175, descriptorIndex := 176, attributes := #[] }, { accessFlags := 10, nameIndex := 491, descriptorIndex := 222, attributes := #[] }, { accessFlags := 74, nameIndex := 29, descriptorIndex := 30, attributes := #[] }, { accessFlags := 74, nameIndex := 154, descriptorIndex := 155, attributes := #[] }, { accessFlags := 10, nameIndex := 217, descriptorIndex := 218, attributes := #[] }, { accessFlags := 10, nameIndex := 221, descriptorIndex := 222, attributes := #[] }, { accessFlags := 8, nameIndex := 562, descriptorIndex := 563, attributes := #[] }])
  fields := #[{ name := "in", type := (.object "java/io/InputStream"), accessFlags := 25, slot := 0, constantValue := 0 }, { name := "out", type := (.object "java/io/PrintStream"), accessFlags := 25, slot := 1, constantValue := 0 }, { name := "err", type := (.object "java/io/PrintStream"), accessFlags := 25, slot := 2, constantValue := 0 }, { name := "initialIn", type := (.object "java/io/InputStream"), accessFlags := 10, slot := 3, constantValue := 0 }, { name := "NEVER", type := .int, accessFlags := 26, slot := 4, constantValue := 0 }, { name := "MAYBE", type := .int, accessFlags := 26, slot := 5, constantValue := 0 }, { name := "allowSecurityManager", type := .int, accessFlags := 10, slot := 6, constantValue := 0 }, { name := "security", type := (.object "java/lang/SecurityManager"), accessFlags := 74, slot := 7, constantValue := 0 }, { name := "notSupportedJnuEncoding", type := (.object "java/lang/String"), accessFlags := 10, slot := 8, constantValue := 0 }, { name := "cons", type := (.object "java/io/Console"), accessFlags := 74, slot := 9, constantValue := 0 }, { name := "initialErrStream", type := (.object "java/io/PrintStream"), accessFlags := 74, slot := 10, constantValue := 0 }, { name := "props", type := (.object "java/util/Properties"), accessFlags := 10, slot := 11, constantValue := 0 }, { name := "lineSeparator", type := (.object "java/lang/String"), accessFlags := 10, slot := 12, constantValue := 0 }, { name := "bootLayer", type := (.object "java/lang/ModuleLayer"), accessFlags := 8, slot := 13, constantValue := 0 }]
  methods := #[k13m0, k13m1]
  instanceTypes := #[]
  staticTypes := #[(.object "java/io/InputStream"), (.object "java/io/PrintStream"), (.object "java/io/PrintStream"), (.object "java/io/InputStream"), .int, .int, .int, (.object "java/lang/SecurityManager"), (.object "java/lang/String"), (.object "java/io/Console"), (.object "java/io/PrintStream"), (.object "java/util/Properties"), (.object "java/lang/String"), (.object "java/lang/ModuleLayer")]
  resolved := Array.replicate 834 none
  statics := none }

def pool14 : Array CpInfo := pool [(2, .class_ 4), (1, u "java/lang/Object"), (0, u "<init>"), (0, u "()V"), (35, .class_ 44), (1, u "java/util/Objects"), (0, u "requireNonNull"), (48, u "(Ljava/lang/Object;Ljava/lang/String;)Ljava/lang/Object;")] 89

def k14m0 : Method := { name := "<init>", desc := "()V", sig := { parameters := [], returnType := none }, accessFlags := 2, code := none }
def k14c1 : Code := { maxStack := 3, maxLocals := 2, code := jdk_31_method_11_code, exceptionTable := #[], attributes := #[] }
def k14m1 : Method := { name := "requireNonNull", desc := "(Ljava/lang/Object;Ljava/lang/String;)Ljava/lang/Object;", sig := { parameters := [(.object "java/lang/Object"), (.object "java/lang/String")], returnType := some (.object "java/lang/Object") }, accessFlags := 9, code := some k14c1 }
/-- java/util/Objects -/
def k14 : Class := { plain "java/util/Objects" (some 0) with
  accessFlags := 49
  interfaces := #[]
  cf := some (fileOf pool14 42 #[] #[{ accessFlags := 2, nameIndex := 5, descriptorIndex := 6, attributes := #[] }, { accessFlags := 9, nameIndex := 45, descriptorIndex := 94, attributes := #[] }] 49 2 #[] #[])
  fields := #[]
  methods := #[k14m0, k14m1]
  instanceTypes := #[]
  staticTypes := #[]
  resolved := Array.replicate 184 none
  statics := none }

def pool15 : Array CpInfo := pool [(1, .class_ 2), (0, u "java/lang/Math"), (1, .class_ 6), (1, u "java/lang/Object"), (0, u "<init>"), (0, u "()V"), (89, .class_ 100), (1, u "java/lang/Math$RandomNumberGeneratorHolder"), (71, u "negativeZeroFloatBits"), (0, u "J"), (2, u "negativeZeroDoubleBits"), (21, u "max"), (2, u "min"), (43, u "$assertionsDisabled"), (0, u "Z"), (88, u "(II)I"), (2, u "twoToTheDoubleScaleDown"), (0, u "D"), (4, u "twoToTheDoubleScaleUp"), (9, u "E"), (3, u "PI"), (2, u "TAU"), (2, u "DEGREES_TO_RADIANS"), (0, u "RADIANS_TO_DEGREES")] 94

def k15m0 : Method := { name := "<init>", desc := "()V", sig := { parameters := [], returnType := none }, accessFlags := 2, code := none }
def k15c1 : Code := { maxStack := 2, maxLocals := 2, code := jdk_29_method_65_code, exceptionTable := #[], attributes := #[] }
def k15m1 : Method := { name := "max", desc := "(II)I", sig := { parameters := [.int, .int], returnType := some .int }, accessFlags := 9, code := some k15c1 }
def k15c2 : Code := { maxStack := 2, maxLocals := 2, code := jdk_29_method_69_code, exceptionTable := #[], attributes := #[] }
def k15m2 : Method := { name := "min", desc := "(II)I", sig := { parameters := [.int, .int], returnType := some .int }, accessFlags := 9, code := some k15c2 }
/-- java/lang/Math -/
def k15 : Class := { plain "java/lang/Math" (some 0) with
  accessFlags := 49
  interfaces := #[]
  cf := some (fileOf pool15 1 #[.nestMembers #[98]] #[{ accessFlags := 2, nameIndex := 7, descriptorIndex := 8, attributes := #[] }, { accessFlags := 9, nameIndex := 198, descriptorIndex := 335, attributes := #[] }, { accessFlags := 9, nameIndex := 201, descriptorIndex := 335, attributes := #[] }] 49 4 #[] #[{ accessFlags := 25, nameIndex := 354, descriptorIndex := 339, attributes := #[] }, { accessFlags := 25, nameIndex := 358, descriptorIndex := 339, attributes := #[] }, { accessFlags := 25, nameIndex := 361, descriptorIndex := 339, attributes := #[] }, { accessFlags := 26, nameIndex := 364, descriptorIndex := 339, attributes := #[] }, { accessFlags := 26, nameIndex := 365, descriptorIndex := 339, attributes := #[] }, { accessFlags := 26, nameIndex := 172, descriptorIndex := 173, attributes := #[] }, { accessFlags := 26, nameIndex := 176, descriptorIndex := 173, attributes := #[] }, { accessFlags := 8, nameIndex := 344, descriptorIndex := 339, attributes := #[] }, { accessFlags := 8, nameIndex := 338, descriptorIndex := 339, attributes := #[] }, { accessFlags := 4120, nameIndex := 245, descriptorIndex := 246, attributes := #[] }])
  fields := #[{ name := "E", type := .double, accessFlags := 25, slot := 0, constantValue := 0 }, { name := "PI", type := .double, accessFlags := 25, slot := 1, constantValue := 0 }, { name := "TAU", type := .double, accessFlags := 25, slot := 2, constantValue := 0 }, { name := "DEGREES_TO_RADIANS", type := .double, accessFlags := 26, slot := 3, constantValue := 0 }, { name := "RADIANS_TO_DEGREES", type := .double, accessFlags := 26, slot := 4, constantValue := 0 }, { name := "negativeZeroFloatBits", type := .long, accessFlags := 26, slot := 5, constantValue := 0 }, { name := "negativeZeroDoubleBits", type := .long, accessFlags := 26, slot := 6, constantValue := 0 }, { name := "twoToTheDoubleScaleUp", type := .double, accessFlags := 8, slot := 7, constantValue := 0 }, { name := "twoToTheDoubleScaleDown", type := .double, accessFlags := 8, slot := 8, constantValue := 0 }, { name := "$assertionsDisabled", type := .boolean, accessFlags := 4120, slot := 9, constantValue := 0 }]
  methods := #[k15m0, k15m1, k15m2]
  instanceTypes := #[]
  staticTypes := #[.double, .double, .double, .double, .double, .long, .long, .double, .double, .boolean]
  resolved := Array.replicate 460 none
  statics := none }

def pool16 : Array CpInfo := pool [(2, .class_ 4), (1, u "java/lang/Object"), (0, u "<init>"), (0, u "()V"), (7, .class_ 16), (1, u "java/util/Arrays"), (57, .class_ 76), (1, u "java/util/Arrays$NaturalOrder"), (32, u "()Ljava/lang/Object;"), (3, .class_ 115), (1, u "java/util/Arrays$LegacyMergeSort"), (1, u "Z"), (10, .nameAndType 129 109), (0, u "clone"), (9, u "copyOfRange"), (10, .methodref 151 152), (0, .class_ 153), (0, .nameAndType 154 155), (0, u "java/lang/System"), (0, u "arraycopy"), (0, u "(Ljava/lang/Object;ILjava/lang/Object;II)V"), (146, u "copyOf"), (1, .methodref 305 306), (0, .class_ 307), (0, .nameAndType 308 309), (0, u "java/lang/Math"), (0, u "min"), (0, u "(II)I"), (0, .methodref 311 128), (0, .class_ 312), (0, u "[B"), (26, .methodref 14 340), (0, .nameAndType 341 342), (0, u "copyOfRangeByte"), (0, u "([BII)[B"), (0, .methodref 14 344), (0, .nameAndType 345 346), (0, u "checkLength"), (0, u "(II)V"), (28, .class_ 376), (0, u "java/util/Arrays$ArrayList"), (68, u "$assertionsDisabled"), (269, u "MIN_ARRAY_SORT_GRAN"), (0, u "I"), (2, u "INSERTIONSORT_THRESHOLD"), (149, u "([BI)[B"), (105, .class_ 976), (0, u "java/util/Arrays$ArrayItr")] 52

def k16m0 : Method := { name := "<init>", desc := "()V", sig := { parameters := [], returnType := none }, accessFlags := 2, code := none }
def k16c1 : Code := { maxStack := 6, maxLocals := 3, code := jdk_65_method_121_code, exceptionTable := #[], attributes := #[] }
def k16m1 : Method := { name := "copyOf", desc := "([BI)[B", sig := { parameters := [(.array .byte), .int], returnType := some (.array .byte) }, accessFlags := 9, code := some k16c1 }
def k16c2 : Code := { maxStack := 4, maxLocals := 2, code := jdk_65_method_131_code, exceptionTable := #[], attributes := #[] }
def k16m2 : Method := { name := "checkLength", desc := "(II)V", sig := { parameters := [.int, .int], returnType := none }, accessFlags := 10, code := some k16c2 }
def k16c3 : Code := { maxStack := 3, maxLocals := 3, code := jdk_65_method_132_code, exceptionTable := #[], attributes := #[] }
def k16m3 : Method := { name := "copyOfRange", desc := "([BII)[B", sig := { parameters := [(.array .byte), .int, .int], returnType := some (.array .byte) }, accessFlags := 9, code := some k16c3 }
def k16c4 : Code := { maxStack := 6, maxLocals := 5, code := jdk_65_method_133_code, exceptionTable := #[], attributes := #[] }
def k16m4 : Method := { name := "copyOfRangeByte", desc := "([BII)[B", sig := { parameters := [(.array .byte), .int, .int], returnType := some (.array .byte) }, accessFlags := 10, code := some k16c4 }
/-- java/util/Arrays -/
def k16 : Class := { plain "java/util/Arrays" (some 0) with
  accessFlags := 49
  interfaces := #[]
  cf := some (fileOf pool16 14 #[.nestMembers #[975, 375, 113, 74]] #[{ accessFlags := 2, nameIndex := 5, descriptorIndex := 6, attributes := #[] }, { accessFlags := 9, nameIndex := 302, descriptorIndex := 869, attributes := #[] }, { accessFlags := 10, nameIndex := 345, descriptorIndex := 346, attributes := #[] }, { accessFlags := 9, nameIndex := 139, descriptorIndex := 342, attributes := #[] }, { accessFlags := 10, nameIndex := 341, descriptorIndex := 342, attributes := #[] }] 49 2 #[] #[{ accessFlags := 26, nameIndex := 715, descriptorIndex := 716, attributes := #[] }, { accessFlags := 26, nameIndex := 719, descriptorIndex := 716, attributes := #[] }, { accessFlags := 4120, nameIndex := 445, descriptorIndex := 117, attributes := #[] }])
  fields := #[{ name := "MIN_ARRAY_SORT_GRAN", type := .int, accessFlags := 26, slot := 0, constantValue := 0 }, { name := "INSERTIONSORT_THRESHOLD", type := .int, accessFlags := 26, slot := 1, constantValue := 0 }, { name := "$assertionsDisabled", type := .boolean, accessFlags := 4120, slot := 2, constantValue := 0 }]
  methods := #[k16m0, k16m1, k16m2, k16m3, k16m4]
  instanceTypes := #[]
  staticTypes := #[.int, .int, .boolean]
  resolved := Array.replicate 1029 none
  statics := none }

def pool17 : Array CpInfo := pool [(9, u "<init>"), (6, .class_ 18), (1, u "java/lang/Object"), (0, u "()V"), (1, .class_ 23), (1, u "jdk/internal/util/ArraysSupport"), (0, u "LOG2_ARRAY_LONG_INDEX_SCALE"), (0, u "I"), (2, u "U"), (0, u "Ljdk/internal/misc/Unsafe;"), (8, u "BIG_ENDIAN"), (0, u "Z"), (8, u "LOG2_BYTE_BIT_SIZE"), (4, u "LOG2_ARRAY_INT_INDEX_SCALE"), (54, u "JLA"), (0, u "Ljdk/internal/access/JavaLangAccess;"), (11, u "LOG2_ARRAY_BOOLEAN_INDEX_SCALE"), (9, u "LOG2_ARRAY_BYTE_INDEX_SCALE"), (5, u "LOG2_ARRAY_CHAR_INDEX_SCALE"), (5, u "LOG2_ARRAY_SHORT_INDEX_SCALE"), (18, u "LOG2_ARRAY_FLOAT_INDEX_SCALE"), (24, u "LOG2_ARRAY_DOUBLE_INDEX_SCALE"), (6, .methodref 195 196), (0, .class_ 197), (0, .nameAndType 198 199), (0, u "java/lang/Math"), (0, u "max"), (0, u "(II)I"), (0, .integer 2147483639), (76, u "T_BOOLEAN"), (2, u "T_CHAR"), (1, u "T_FLOAT"), (1, u "T_DOUBLE"), (1, u "T_BYTE"), (1, u "T_SHORT"), (1, u "T_INT"), (1, u "T_LONG"), (1, u "SOFT_MAX_ARRAY_LENGTH"), (56, u "newLength"), (0, u "(III)I")] 25

def k17m0 : Method := { name := "<init>", desc := "()V", sig := { parameters := [], returnType := none }, accessFlags := 2, code := none }
def k17c1 : Code := { maxStack := 3, maxLocals := 4, code := jdk_48_method_27_code, exceptionTable := #[], attributes := #[] }
def k17m1 : Method := { name := "newLength", desc := "(III)I", sig := { parameters := [.int, .int, .int], returnType := some .int }, accessFlags := 9, code := some k17c1 }
/-- jdk/internal/util/ArraysSupport -/
def k17 : Class := { plain "jdk/internal/util/ArraysSupport" (some 0) with
  accessFlags := 33
  interfaces := #[]
  cf := some (fileOf pool17 21 #[] #[{ accessFlags := 2, nameIndex := 9, descriptorIndex := 19, attributes := #[] }, { accessFlags := 9, nameIndex := 351, descriptorIndex := 352, attributes := #[] }] 33 16 #[] #[{ accessFlags := 24, nameIndex := 28, descriptorIndex := 29, attributes := #[] }, { accessFlags := 26, nameIndex := 38, descriptorIndex := 39, attributes := #[] }, { accessFlags := 25, nameIndex := 121, descriptorIndex := 25, attributes := #[] }, { accessFlags := 25, nameIndex := 131, descriptorIndex := 25, attributes := #[] }, { accessFlags := 25, nameIndex := 137, descriptorIndex := 25, attributes := #[] }, { accessFlags := 25, nameIndex := 143, descriptorIndex := 25, attributes := #[] }, { accessFlags := 25, nameIndex := 53, descriptorIndex := 25, attributes := #[] }, { accessFlags := 25, nameIndex := 24, descriptorIndex := 25, attributes := #[] }, { accessFlags := 25, nameIndex := 162, descriptorIndex := 25, attributes := #[] }, { accessFlags := 25, nameIndex := 187, descriptorIndex := 25, attributes := #[] }, { accessFlags := 26, nameIndex := 48, descriptorIndex := 25, attributes := #[] }, { accessFlags := 25, nameIndex := 277, descriptorIndex := 25, attributes := #[] }, { accessFlags := 25, nameIndex := 280, descriptorIndex := 25, attributes := #[] }, { accessFlags := 25, nameIndex := 282, descriptorIndex := 25, attributes := #[] }, { accessFlags := 25, nameIndex := 284, descriptorIndex := 25, attributes := #[] }, { accessFlags := 25, nameIndex := 286, descriptorIndex := 25, attributes := #[] }, { accessFlags := 25, nameIndex := 288, descriptorIndex := 25, attributes := #[] }, { accessFlags := 25, nameIndex := 290, descriptorIndex := 25, attributes := #[] }, { accessFlags := 25, nameIndex := 292, descriptorIndex := 25, attributes := #[] }, { accessFlags := 26, nameIndex := 108, descriptorIndex := 109, attributes := #[] }, { accessFlags := 25, nameIndex := 294, descriptorIndex := 25, attributes := #[] }])
  fields := #[{ name := "U", type := (.object "jdk/internal/misc/Unsafe"), accessFlags := 24, slot := 0, constantValue := 0 }, { name := "BIG_ENDIAN", type := .boolean, accessFlags := 26, slot := 1, constantValue := 0 }, { name := "LOG2_ARRAY_BOOLEAN_INDEX_SCALE", type := .int, accessFlags := 25, slot := 2, constantValue := 0 }, { name := "LOG2_ARRAY_BYTE_INDEX_SCALE", type := .int, accessFlags := 25, slot := 3, constantValue := 0 }, { name := "LOG2_ARRAY_CHAR_INDEX_SCALE", type := .int, accessFlags := 25, slot := 4, constantValue := 0 }, { name := "LOG2_ARRAY_SHORT_INDEX_SCALE", type := .int, accessFlags := 25, slot := 5, constantValue := 0 }, { name := "LOG2_ARRAY_INT_INDEX_SCALE", type := .int, accessFlags := 25, slot := 6, constantValue := 0 }, { name := "LOG2_ARRAY_LONG_INDEX_SCALE", type := .int, accessFlags := 25, slot := 7, constantValue := 0 }, { name := "LOG2_ARRAY_FLOAT_INDEX_SCALE", type := .int, accessFlags := 25, slot := 8, constantValue := 0 }, { name := "LOG2_ARRAY_DOUBLE_INDEX_SCALE", type := .int, accessFlags := 25, slot := 9, constantValue := 0 }, { name := "LOG2_BYTE_BIT_SIZE", type := .int, accessFlags := 26, slot := 10, constantValue := 0 }, { name := "T_BOOLEAN", type := .int, accessFlags := 25, slot := 11, constantValue := 0 }, { name := "T_CHAR", type := .int, accessFlags := 25, slot := 12, constantValue := 0 }, { name := "T_FLOAT", type := .int, accessFlags := 25, slot := 13, constantValue := 0 }, { name := "T_DOUBLE", type := .int, accessFlags := 25, slot := 14, constantValue := 0 }, { name := "T_BYTE", type := .int, accessFlags := 25, slot := 15, constantValue := 0 }, { name := "T_SHORT", type := .int, accessFlags := 25, slot := 16, constantValue := 0 }, { name := "T_INT", type := .int, accessFlags := 25, slot := 17, constantValue := 0 }, { name := "T_LONG", type := .int, accessFlags := 25, slot := 18, constantValue := 0 }, { name := "JLA", type := (.object "jdk/internal/access/JavaLangAccess"), accessFlags := 26, slot := 19, constantValue := 0 }, { name := "SOFT_MAX_ARRAY_LENGTH", type := .int, accessFlags := 25, slot := 20, constantValue := 0 }]
  methods := #[k17m0, k17m1]
  instanceTypes := #[]
  staticTypes := #[(.object "jdk/internal/misc/Unsafe"), .boolean, .int, .int, .int, .int, .int, .int, .int, .int, .int, .int, .int, .int, .int, .int, .int, .int, .int, (.object "jdk/internal/access/JavaLangAccess"), .int]
  resolved := Array.replicate 378 none
  statics := none }

def pool18 : Array CpInfo := pool [(2, .class_ 4), (1, u "java/lang/Object"), (0, u "<init>"), (0, u "()V"), (17, .class_ 26), (1, u "jdk/internal/util/Preconditions"), (6, u "checkIndex"), (13, u "checkFromToIndex"), (7, .class_ 56), (0, u "jdk/internal/util/Preconditions$4"), (57, .class_ 115), (0, u "jdk/internal/util/Preconditions$1"), (7, u "SIOOBE_FORMATTER"), (0, u "Ljava/util/function/BiFunction;"), (0, .class_ 126), (0, u "jdk/internal/util/Preconditions$2"), (3, u "AIOOBE_FORMATTER"), (0, .class_ 132), (0, u "jdk/internal/util/Preconditions$3"), (3, u "IOOBE_FORMATTER"), (41, u "(IILjava/util/function/BiFunction;)I"), (4, u "(IIILjava/util/function/BiFunction;)I")] 10

def k18m0 : Method := { name := "<init>", desc := "()V", sig := { parameters := [], returnType := none }, accessFlags := 1, code := none }
def k18c1 : Code := { maxStack := 3, maxLocals := 3, code := jdk_41_method_11_code, exceptionTable := #[], attributes := #[] }
def k18m1 : Method := { name := "checkIndex", desc := "(IILjava/util/function/BiFunction;)I", sig := { parameters := [.int, .int, (.object "java/util/function/BiFunction")], returnType := some .int }, accessFlags := 9, code := some k18c1 }
def k18c2 : Code := { maxStack := 4, maxLocals := 4, code := jdk_41_method_12_code, exceptionTable := #[], attributes := #[] }
def k18m2 : Method := { name := "checkFromToIndex", desc := "(IIILjava/util/function/BiFunction;)I", sig := { parameters := [.int, .int, .int, (.object "java/util/function/BiFunction")], returnType := some .int }, accessFlags := 9, code := some k18c2 }
/-- jdk/internal/util/Preconditions -/
def k18 : Class := { plain "jdk/internal/util/Preconditions" (some 0) with
  accessFlags := 33
  interfaces := #[]
  cf := some (fileOf pool18 24 #[.nestMembers #[55, 131, 125, 114]] #[{ accessFlags := 1, nameIndex := 5, descriptorIndex := 6, attributes := #[] }, { accessFlags := 9, nameIndex := 33, descriptorIndex := 178, attributes := #[] }, { accessFlags := 9, nameIndex := 47, descriptorIndex := 183, attributes := #[] }] 33 2 #[] #[{ accessFlags := 25, nameIndex := 123, descriptorIndex := 124, attributes := #[] }, { accessFlags := 25, nameIndex := 130, descriptorIndex := 124, attributes := #[] }, { accessFlags := 25, nameIndex := 136, descriptorIndex := 124, attributes := #[] }])
  fields := #[{ name := "SIOOBE_FORMATTER", type := (.object "java/util/function/BiFunction"), accessFlags := 25, slot := 0, constantValue := 0 }, { name := "AIOOBE_FORMATTER", type := (.object "java/util/function/BiFunction"), accessFlags := 25, slot := 1, constantValue := 0 }, { name := "IOOBE_FORMATTER", type := (.object "java/util/function/BiFunction"), accessFlags := 25, slot := 2, constantValue := 0 }]
  methods := #[k18m0, k18m1, k18m2]
  instanceTypes := #[]
  staticTypes := #[(.object "java/util/function/BiFunction"), (.object "java/util/function/BiFunction"), (.object "java/util/function/BiFunction")]
  resolved := Array.replicate 194 none
  statics := some 1 }

def pool19 : Array CpInfo := pool [(6, .class_ 8), (1, u "java/lang/Object"), (0, u "<init>"), (0, u "()V"), (1, .class_ 14), (1, u "java/lang/StringUTF16"), (31, u "$assertionsDisabled"), (0, u "Z"), (13, u "HI_BYTE_SHIFT"), (0, u "I"), (2, u "LO_BYTE_SHIFT"), (49, .methodref 12 116), (0, .nameAndType 117 118), (0, u "compress"), (0, u "([CI[BII)I"), (3, u "([CII)[B"), (138, u "coderFromArrayLen"), (0, u "([BI)B"), (106, .class_ 371), (1, u "java/lang/StringUTF16$LinesSpliterator"), (58, u "MAX_LENGTH"), (196, .class_ 628), (0, u "java/lang/StringUTF16$CodePointsSpliterator"), (0, .class_ 630), (0, u "java/lang/StringUTF16$CharsSpliterator")] 4

def k19m0 : Method := { name := "<init>", desc := "()V", sig := { parameters := [], returnType := none }, accessFlags := 0, code := none }
def k19c1 : Code := { maxStack := 2, maxLocals := 2, code := jdk_52_method_15_code, exceptionTable := #[], attributes := #[] }
def k19m1 : Method := { name := "coderFromArrayLen", desc := "([BI)B", sig := { parameters := [(.array .byte), .int], returnType := some .byte }, accessFlags := 8, code := some k19c1 }
def k19c2 : Code := { maxStack := 5, maxLocals := 6, code := jdk_52_method_16_code, exceptionTable := #[], attributes := #[] }
def k19m2 : Method := { name := "compress", desc := "([CII)[B", sig := { parameters := [(.array .char), .int, .int], returnType := some (.array .byte) }, accessFlags := 9, code := some k19c2 }
def k19c3 : Code := { maxStack := 3, maxLocals := 7, code := jdk_52_method_21_code, exceptionTable := #[], attributes := #[] }
def k19m3 : Method := { name := "compress", desc := "([CI[BII)I", sig := { parameters := [(.array .char), .int, (.array .byte), .int, .int], returnType := some .int }, accessFlags := 9, code := some k19c3 }
/-- java/lang/StringUTF16 -/
def k19 : Class := { plain "java/lang/StringUTF16" (some 0) with
  accessFlags := 48
  interfaces := #[]
  cf := some (fileOf pool19 12 #[.nestMembers #[627, 629, 369]] #[{ accessFlags := 0, nameIndex := 9, descriptorIndex := 10, attributes := #[] }, { accessFlags := 8, nameIndex := 261, descriptorIndex := 262, attributes := #[] }, { accessFlags := 9, nameIndex := 117, descriptorIndex := 122, attributes := #[] }, { accessFlags := 9, nameIndex := 117, descriptorIndex := 118, attributes := #[] }] 48 6 #[] #[{ accessFlags := 26, nameIndex := 61, descriptorIndex := 62, attributes := #[] }, { accessFlags := 26, nameIndex := 65, descriptorIndex := 62, attributes := #[] }, { accessFlags := 24, nameIndex := 430, descriptorIndex := 62, attributes := #[] }, { accessFlags := 4120, nameIndex := 46, descriptorIndex := 47, attributes := #[] }])
  fields := #[{ name := "HI_BYTE_SHIFT", type := .int, accessFlags := 26, slot := 0, constantValue := 0 }, { name := "LO_BYTE_SHIFT", type := .int, accessFlags := 26, slot := 1, constantValue := 0 }, { name := "MAX_LENGTH", type := .int, accessFlags := 24, slot := 2, constantValue := 0 }, { name := "$assertionsDisabled", type := .boolean, accessFlags := 4120, slot := 3, constantValue := 0 }]
  methods := #[k19m0, k19m1, k19m2, k19m3]
  instanceTypes := #[]
  staticTypes := #[.int, .int, .int, .boolean]
  resolved := Array.replicate 635 none
  statics := none }

def pool20 : Array CpInfo := pool [(1, .class_ 2), (0, u "java/lang/Cloneable"), (0, .class_ 4), (0, u "java/lang/Object")] 2

/-- java/lang/Cloneable -/
def k20 : Class := { plain "java/lang/Cloneable" (some 0) with
  accessFlags := 1537
  interfaces := #[]
  cf := some (fileOf pool20 1 #[] #[] 1537 3 #[] #[])
  fields := #[]
  methods := #[]
  instanceTypes := #[]
  staticTypes := #[]
  resolved := Array.replicate 7 none
  statics := none }

/-- the primitive byte -/
def k21 : Class := { plain "byte" none with kind := .primitive 'B', accessFlags := 0x411 }
/-- [B -/
def k22 : Class := { plain "[B" (some 0) with kind := .array 21 .byte, interfaces := #[20, 2], accessFlags := 1041 }

/-- the primitive char -/
def k23 : Class := { plain "char" none with kind := .primitive 'C', accessFlags := 0x411 }
/-- [C -/
def k24 : Class := { plain "[C" (some 0) with kind := .array 23 .char, interfaces := #[20, 2], accessFlags := 1041 }

/-- the primitive int -/
def k25 : Class := { plain "int" none with kind := .primitive 'I', accessFlags := 0x411 }
/-- [I -/
def k26 : Class := { plain "[I" (some 0) with kind := .array 25 .int, interfaces := #[20, 2], accessFlags := 1041 }

def heap : Heap := #[{ cls := 7, slots := #[.long 0, .int 1, .null, .int 0, .null, .int 0, .int 0], vm := .statics 7 },
  { cls := 18, slots := #[.null, .null, .null], vm := .statics 18 }]
def classes : Array Class := #[k0, k1, k2, k3, k4, k5, k6, k7, k8, k9, k10, k11, k12, k13, k14, k15, k16, k17, k18, k19, k20, k21, k22, k23, k24, k25, k26]
def interned : List (Array UInt16 × Addr) := []
def slotsUsed : Nat := 10
def theMethod : MethodId := ⟨1, 3⟩
def args0 : Array Value := #[.int 0, .int 0, .int 0]
def aboutOver (below : List Frame) : State where
  vm := { classes := classes, interned := interned.toArray }
  heap := heap
  slotsUsed := slotsUsed
  threads := #[{ frames := .invoking theMethod args0 :: below }]
def below0 : List Frame := [.native { method := ⟨0, 0⟩, args := #[] }]
def about1 : State := aboutOver below0
def p0 : Program := .bare "" "" ""
def e0 : Env := launch0.env 0 0 0
theorem w_frames : about1.frames = Frame.invoking theMethod args0 :: below0 := rfl
set_option maxRecDepth 65536 in
theorem w_args : argsFit about1.vm theMethod args0 = true := by decide +kernel
set_option maxRecDepth 65536 in
theorem w_heap : heapFits about1 = true := by decide +kernel
set_option maxRecDepth 65536 in
theorem w_runnable : about1.curStatus? = some .runnable := by decide +kernel
set_option maxRecDepth 65536 in
theorem w_alone : about1.alone = true := by decide +kernel
set_option maxRecDepth 65536 in
theorem w_named : about1.methodNamed? x = some theMethod := by decide +kernel
set_option maxRecDepth 65536 in
theorem w_hears : about1.hears theMethod below0 = true := by decide +kernel
set_option maxRecDepth 65536 in
theorem w_ripe : about1.ripe theMethod args0 below0 = true := by decide +kernel
theorem w_running : about1.status = .running := rfl
set_option maxRecDepth 65536 in
theorem w_room : about1.hasRoom e0.platform room_1 = true :=
  launch0.hasRoom_least _ room_1 (by decide +kernel) (by decide +kernel) (by decide +kernel) (by decide +kernel) (by decide +kernel) (by decide +kernel)
theorem allAtoms_all (ts : List Jvm.Cond) (a : Array Jvm.Value) (st : Jvm.State) : (allAtoms ts).before a st = ts.all (fun c => c.before a st) := by
  induction ts with
  | nil => rfl
  | cons c t ih =>
    show (Jvm.Cond.and c (allAtoms t)).before a st = _
    rw [Jvm.Cond.before_and, ih, List.all_cons]
def words1 : List Jvm.Cond := Jvm.Cond.code x code maxLocals ret :: tables_1
/-- a 'code' word, met by the world's own term for the bytes: nothing is compared byte by byte -/
theorem code_word {y : MethodName} {bytes : ByteArray} {mx : Nat} {rt : Option FieldType} {a : Array Value} {s : State} {m : MethodId} {meth : Method} {c : Code} (h1 : s.methodNamed? y = some m) (h2 : s.vm.method? m = some meth) (h3 : meth.code = some c) (h4 : c.code = bytes)
    (h5 : (c.maxLocals == mx && c.exceptionTable.isEmpty && decide (c.maxStack ≤ mostOperands) && decide (meth.sig.returnType = rt) && !meth.locks && decide (parseMethodDescriptor y.desc = some meth.sig)) = true) : (Jvm.Cond.code y bytes mx rt).before a s = true := by
  simp only [Bool.and_eq_true, beq_iff_eq, Bool.not_eq_true', decide_eq_true_eq] at h5
  obtain ⟨⟨⟨⟨⟨g1, g2⟩, g3⟩, g4⟩, g5⟩, g6⟩ := h5
  simp [Cond.before, Cond.holds, Cond.value, h1, h2, h3, h4, g1, g2, g3, g4, g5, g6]
def isCode : Jvm.Cond → Bool
  | .code _ _ _ _ => true
  | _ => false
theorem all_split {L : List Jvm.Cond} {P : Jvm.Cond → Bool} (h1 : L.all (fun c => isCode c || P c) = true) (h2 : ∀ c ∈ L.filter isCode, P c = true) : L.all P = true := by
  refine List.all_eq_true.mpr fun c hc => ?_
  have h := List.all_eq_true.mp h1 c hc
  rcases Bool.eq_false_or_eq_true (isCode c) with hi | hi
  · exact h2 c (List.mem_filter.mpr ⟨hc, hi⟩)
  · simpa [hi] using h
set_option maxRecDepth 65536 in
theorem w_c0 : (Jvm.Cond.code x code maxLocals ret).before args0 about1 = true := code_word (m := ⟨1, 3⟩) (meth := k1m3) (c := k1c3) (by decide +kernel) rfl rfl rfl (by decide +kernel)
set_option maxRecDepth 65536 in
theorem w_c1 : (Jvm.Cond.code ({ cls := "com/example/holdfast/holdfast/KeysLastCallPinLaw", name := "nameChar", desc := "(I)C" } : Jvm.MethodName) method_2_code (1 : Nat) (Option.some Jvm.ClassFile.FieldType.char)).before args0 about1 = true := code_word (m := ⟨1, 1⟩) (meth := k1m1) (c := k1c1) (by decide +kernel) rfl rfl rfl (by decide +kernel)
set_option maxRecDepth 65536 in
theorem w_c2 : (Jvm.Cond.code ({ cls := "java/lang/String", name := "valueOf", desc := "(C)Ljava/lang/String;" } : Jvm.MethodName) jdk_42_method_139_code (1 : Nat) (Option.some (Jvm.ClassFile.FieldType.object "java/lang/String"))).before args0 about1 = true := code_word (m := ⟨7, 10⟩) (meth := k7m10) (c := k7c10) (by decide +kernel) rfl rfl rfl (by decide +kernel)
set_option maxRecDepth 65536 in
theorem w_c3 : (Jvm.Cond.code ({ cls := "java/lang/StringLatin1", name := "canEncode", desc := "(C)Z" } : Jvm.MethodName) jdk_43_method_3_code (1 : Nat) (Option.some Jvm.ClassFile.FieldType.boolean)).before args0 about1 = true := code_word (m := ⟨8, 2⟩) (meth := k8m2) (c := k8c2) (by decide +kernel) rfl rfl rfl (by decide +kernel)
set_option maxRecDepth 65536 in
theorem w_c4 : (Jvm.Cond.code ({ cls := "java/lang/StringLatin1", name := "toBytes", desc := "(C)[B" } : Jvm.MethodName) jdk_43_method_46_code (1 : Nat) (Option.some (Jvm.ClassFile.FieldType.array Jvm.ClassFile.FieldType.byte))).before args0 about1 = true := code_word (m := ⟨8, 7⟩) (meth := k8m7) (c := k8c7) (by decide +kernel) rfl rfl rfl (by decide +kernel)
set_option maxRecDepth 65536 in
theorem w_c5 : (Jvm.Cond.code ({ cls := "java/lang/String", name := "<init>", desc := "([BB)V" } : Jvm.MethodName) jdk_42_method_151_code (3 : Nat) (Option.none : Option Jvm.ClassFile.FieldType)).before args0 about1 = true := code_word (m := ⟨7, 14⟩) (meth := k7m14) (c := k7c14) (by decide +kernel) rfl rfl rfl (by decide +kernel)
set_option maxRecDepth 65536 in
theorem w_c6 : (Jvm.Cond.code ({ cls := "java/lang/Object", name := "<init>", desc := "()V" } : Jvm.MethodName) object_method_1_code (1 : Nat) (Option.none : Option Jvm.ClassFile.FieldType)).before args0 about1 = true := code_word (m := ⟨0, 0⟩) (meth := k0m0) (c := k0c0) (by decide +kernel) rfl rfl rfl (by decide +kernel)
set_option maxRecDepth 65536 in
theorem w_c7 : (Jvm.Cond.code ({ cls := "com/example/holdfast/holdfast/KeysLastCallPinLaw", name := "key", desc := "(ILjava/lang/String;Ljava/lang/String;)Ljava/lang/String;" } : Jvm.MethodName) method_3_code (3 : Nat) (Option.some (Jvm.ClassFile.FieldType.object "java/lang/String"))).before args0 about1 = true := code_word (m := ⟨1, 2⟩) (meth := k1m2) (c := k1c2) (by decide +kernel) rfl rfl rfl (by decide +kernel)
set_option maxRecDepth 65536 in
theorem w_c8 : (Jvm.Cond.code ({ cls := "com/example/holdfast/holdfast/Keys", name := "lockReleased", desc := "(Ljava/lang/String;)Ljava/lang/String;" } : Jvm.MethodName) prog_8_method_4_code (1 : Nat) (Option.some (Jvm.ClassFile.FieldType.object "java/lang/String"))).before args0 about1 = true := code_word (m := ⟨9, 3⟩) (meth := k9m3) (c := k9c3) (by decide +kernel) rfl rfl rfl (by decide +kernel)
set_option maxRecDepth 65536 in
theorem w_c9 : (Jvm.Cond.code ({ cls := "java/lang/StringBuilder", name := "<init>", desc := "()V" } : Jvm.MethodName) jdk_67_method_1_code (1 : Nat) (Option.none : Option Jvm.ClassFile.FieldType)).before args0 about1 = true := code_word (m := ⟨12, 0⟩) (meth := k12m0) (c := k12c0) (by decide +kernel) rfl rfl rfl (by decide +kernel)
set_option maxRecDepth 65536 in
theorem w_c10 : (Jvm.Cond.code ({ cls := "java/lang/AbstractStringBuilder", name := "<init>", desc := "(I)V" } : Jvm.MethodName) jdk_68_method_2_code (2 : Nat) (Option.none : Option Jvm.ClassFile.FieldType)).before args0 about1 = true := code_word (m := ⟨11, 1⟩) (meth := k11m1) (c := k11c1) (by decide +kernel) rfl rfl rfl (by decide +kernel)
set_option maxRecDepth 65536 in
theorem w_c11 : (Jvm.Cond.code ({ cls := "com/example/holdfast/holdfast/Keys", name := "lock", desc := "(Ljava/lang/String;)Ljava/lang/String;" } : Jvm.MethodName) prog_8_method_2_code (1 : Nat) (Option.some (Jvm.ClassFile.FieldType.object "java/lang/String"))).before args0 about1 = true := code_word (m := ⟨9, 1⟩) (meth := k9m1) (c := k9c1) (by decide +kernel) rfl rfl rfl (by decide +kernel)
set_option maxRecDepth 65536 in
theorem w_c12 : (Jvm.Cond.code ({ cls := "java/lang/StringBuilder", name := "append", desc := "(Ljava/lang/String;)Ljava/lang/StringBuilder;" } : Jvm.MethodName) jdk_67_method_7_code (2 : Nat) (Option.some (Jvm.ClassFile.FieldType.object "java/lang/StringBuilder"))).before args0 about1 = true := code_word (m := ⟨12, 1⟩) (meth := k12m1) (c := k12c1) (by decide +kernel) rfl rfl rfl (by decide +kernel)
set_option maxRecDepth 65536 in
theorem w_c13 : (Jvm.Cond.code ({ cls := "java/lang/AbstractStringBuilder", name := "append", desc := "(Ljava/lang/String;)Ljava/lang/AbstractStringBuilder;" } : Jvm.MethodName) jdk_68_method_22_code (3 : Nat) (Option.some (Jvm.ClassFile.FieldType.object "java/lang/AbstractStringBuilder"))).before args0 about1 = true := code_word (m := ⟨11, 5⟩) (meth := k11m5) (c := k11c5) (by decide +kernel) rfl rfl rfl (by decide +kernel)
set_option maxRecDepth 65536 in
theorem w_c14 : (Jvm.Cond.code ({ cls := "java/lang/String", name := "length", desc := "()I" } : Jvm.MethodName) jdk_42_method_54_code (1 : Nat) (Option.some Jvm.ClassFile.FieldType.int)).before args0 about1 = true := code_word (m := ⟨7, 3⟩) (meth := k7m3) (c := k7c3) (by decide +kernel) rfl rfl rfl (by decide +kernel)
set_option maxRecDepth 65536 in
theorem w_c15 : (Jvm.Cond.code ({ cls := "java/lang/String", name := "coder", desc := "()B" } : Jvm.MethodName) jdk_42_method_152_code (1 : Nat) (Option.some Jvm.ClassFile.FieldType.byte)).before args0 about1 = true := code_word (m := ⟨7, 15⟩) (meth := k7m15) (c := k7c15) (by decide +kernel) rfl rfl rfl (by decide +kernel)
set_option maxRecDepth 65536 in
theorem w_c16 : (Jvm.Cond.code ({ cls := "java/lang/AbstractStringBuilder", name := "ensureCapacityInternal", desc := "(I)V" } : Jvm.MethodName) jdk_68_method_9_code (3 : Nat) (Option.none : Option Jvm.ClassFile.FieldType)).before args0 about1 = true := code_word (m := ⟨11, 3⟩) (meth := k11m3) (c := k11c3) (by decide +kernel) rfl rfl rfl (by decide +kernel)
set_option maxRecDepth 65536 in
theorem w_c17 : (Jvm.Cond.code ({ cls := "java/lang/AbstractStringBuilder", name := "putStringAt", desc := "(ILjava/lang/String;)V" } : Jvm.MethodName) jdk_68_method_73_code (3 : Nat) (Option.none : Option Jvm.ClassFile.FieldType)).before args0 about1 = true := code_word (m := ⟨11, 9⟩) (meth := k11m9) (c := k11c9) (by decide +kernel) rfl rfl rfl (by decide +kernel)
set_option maxRecDepth 65536 in
theorem w_c18 : (Jvm.Cond.code ({ cls := "java/lang/AbstractStringBuilder", name := "inflateIfNeededFor", desc := "(Ljava/lang/String;)V" } : Jvm.MethodName) jdk_68_method_71_code (2 : Nat) (Option.none : Option Jvm.ClassFile.FieldType)).before args0 about1 = true := code_word (m := ⟨11, 8⟩) (meth := k11m8) (c := k11c8) (by decide +kernel) rfl rfl rfl (by decide +kernel)
set_option maxRecDepth 65536 in
theorem w_c19 : (Jvm.Cond.code ({ cls := "java/lang/String", name := "getBytes", desc := "([BIB)V" } : Jvm.MethodName) jdk_42_method_147_code (4 : Nat) (Option.none : Option Jvm.ClassFile.FieldType)).before args0 about1 = true := code_word (m := ⟨7, 11⟩) (meth := k7m11) (c := k7c11) (by decide +kernel) rfl rfl rfl (by decide +kernel)
set_option maxRecDepth 65536 in
theorem w_c20 : (Jvm.Cond.code ({ cls := "com/example/holdfast/holdfast/Keys", name := "hashTag", desc := "(Ljava/lang/String;)Ljava/lang/String;" } : Jvm.MethodName) prog_8_method_24_code (1 : Nat) (Option.some (Jvm.ClassFile.FieldType.object "java/lang/String"))).before args0 about1 = true := code_word (m := ⟨9, 15⟩) (meth := k9m15) (c := k9c15) (by decide +kernel) rfl rfl rfl (by decide +kernel)
set_option maxRecDepth 65536 in
theorem w_c21 : (Jvm.Cond.code ({ cls := "java/util/Objects", name := "requireNonNull", desc := "(Ljava/lang/Object;Ljava/lang/String;)Ljava/lang/Object;" } : Jvm.MethodName) jdk_31_method_11_code (2 : Nat) (Option.some (Jvm.ClassFile.FieldType.object "java/lang/Object"))).before args0 about1 = true := code_word (m := ⟨14, 1⟩) (meth := k14m1) (c := k14c1) (by decide +kernel) rfl rfl rfl (by decide +kernel)
set_option maxRecDepth 65536 in
theorem w_c22 : (Jvm.Cond.code ({ cls := "java/lang/String", name := "isEmpty", desc := "()Z" } : Jvm.MethodName) jdk_42_method_55_code (1 : Nat) (Option.some Jvm.ClassFile.FieldType.boolean)).before args0 about1 = true := code_word (m := ⟨7, 4⟩) (meth := k7m4) (c := k7c4) (by decide +kernel) rfl rfl rfl (by decide +kernel)
set_option maxRecDepth 65536 in
theorem w_c23 : (Jvm.Cond.code ({ cls := "java/lang/String", name := "indexOf", desc := "(I)I" } : Jvm.MethodName) jdk_42_method_79_code (2 : Nat) (Option.some Jvm.ClassFile.FieldType.int)).before args0 about1 = true := code_word (m := ⟨7, 7⟩) (meth := k7m7) (c := k7c7) (by decide +kernel) rfl rfl rfl (by decide +kernel)
set_option maxRecDepth 65536 in
theorem w_c24 : (Jvm.Cond.code ({ cls := "java/lang/String", name := "indexOf", desc := "(II)I" } : Jvm.MethodName) jdk_42_method_80_code (3 : Nat) (Option.some Jvm.ClassFile.FieldType.int)).before args0 about1 = true := code_word (m := ⟨7, 8⟩) (meth := k7m8) (c := k7c8) (by decide +kernel) rfl rfl rfl (by decide +kernel)
set_option maxRecDepth 65536 in
theorem w_c25 : (Jvm.Cond.code ({ cls := "java/lang/String", name := "isLatin1", desc := "()Z" } : Jvm.MethodName) jdk_42_method_154_code (1 : Nat) (Option.some Jvm.ClassFile.FieldType.boolean)).before args0 about1 = true := code_word (m := ⟨7, 16⟩) (meth := k7m16) (c := k7c16) (by decide +kernel) rfl rfl rfl (by decide +kernel)
set_option maxRecDepth 65536 in
theorem w_c26 : (Jvm.Cond.code ({ cls := "java/lang/StringLatin1", name := "indexOf", desc := "([BIII)I" } : Jvm.MethodName) jdk_43_method_22_code (4 : Nat) (Option.some Jvm.ClassFile.FieldType.int)).before args0 about1 = true := code_word (m := ⟨8, 5⟩) (meth := k8m5) (c := k8c5) (by decide +kernel) rfl rfl rfl (by decide +kernel)
set_option maxRecDepth 65536 in
theorem w_c27 : (Jvm.Cond.code ({ cls := "java/lang/StringLatin1", name := "canEncode", desc := "(I)Z" } : Jvm.MethodName) jdk_43_method_4_code (1 : Nat) (Option.some Jvm.ClassFile.FieldType.boolean)).before args0 about1 = true := code_word (m := ⟨8, 3⟩) (meth := k8m3) (c := k8c3) (by decide +kernel) rfl rfl rfl (by decide +kernel)
set_option maxRecDepth 65536 in
theorem w_c28 : (Jvm.Cond.code ({ cls := "java/lang/Math", name := "max", desc := "(II)I" } : Jvm.MethodName) jdk_29_method_65_code (2 : Nat) (Option.some Jvm.ClassFile.FieldType.int)).before args0 about1 = true := code_word (m := ⟨15, 1⟩) (meth := k15m1) (c := k15c1) (by decide +kernel) rfl rfl rfl (by decide +kernel)
set_option maxRecDepth 65536 in
theorem w_c29 : (Jvm.Cond.code ({ cls := "java/lang/Math", name := "min", desc := "(II)I" } : Jvm.MethodName) jdk_29_method_69_code (2 : Nat) (Option.some Jvm.ClassFile.FieldType.int)).before args0 about1 = true := code_word (m := ⟨15, 2⟩) (meth := k15m2) (c := k15c2) (by decide +kernel) rfl rfl rfl (by decide +kernel)
set_option maxRecDepth 65536 in
theorem w_c30 : (Jvm.Cond.code ({ cls := "java/lang/StringLatin1", name := "indexOfChar", desc := "([BIII)I" } : Jvm.MethodName) jdk_43_method_23_code (6 : Nat) (Option.some Jvm.ClassFile.FieldType.int)).before args0 about1 = true := code_word (m := ⟨8, 6⟩) (meth := k8m6) (c := k8c6) (by decide +kernel) rfl rfl rfl (by decide +kernel)
set_option maxRecDepth 65536 in
theorem w_c31 : (Jvm.Cond.code ({ cls := "java/lang/StringBuilder", name := "toString", desc := "()Ljava/lang/String;" } : Jvm.MethodName) jdk_67_method_42_code (1 : Nat) (Option.some (Jvm.ClassFile.FieldType.object "java/lang/String"))).before args0 about1 = true := code_word (m := ⟨12, 2⟩) (meth := k12m2) (c := k12c2) (by decide +kernel) rfl rfl rfl (by decide +kernel)
set_option maxRecDepth 65536 in
theorem w_c32 : (Jvm.Cond.code ({ cls := "java/lang/String", name := "<init>", desc := "(Ljava/lang/StringBuilder;)V" } : Jvm.MethodName) jdk_42_method_53_code (2 : Nat) (Option.none : Option Jvm.ClassFile.FieldType)).before args0 about1 = true := code_word (m := ⟨7, 2⟩) (meth := k7m2) (c := k7c2) (by decide +kernel) rfl rfl rfl (by decide +kernel)
set_option maxRecDepth 65536 in
theorem w_c33 : (Jvm.Cond.code ({ cls := "java/lang/String", name := "<init>", desc := "(Ljava/lang/AbstractStringBuilder;Ljava/lang/Void;)V" } : Jvm.MethodName) jdk_42_method_150_code (5 : Nat) (Option.none : Option Jvm.ClassFile.FieldType)).before args0 about1 = true := code_word (m := ⟨7, 13⟩) (meth := k7m13) (c := k7c13) (by decide +kernel) rfl rfl rfl (by decide +kernel)
set_option maxRecDepth 65536 in
theorem w_c34 : (Jvm.Cond.code ({ cls := "java/lang/AbstractStringBuilder", name := "getValue", desc := "()[B" } : Jvm.MethodName) jdk_68_method_64_code (1 : Nat) (Option.some (Jvm.ClassFile.FieldType.array Jvm.ClassFile.FieldType.byte))).before args0 about1 = true := code_word (m := ⟨11, 6⟩) (meth := k11m6) (c := k11c6) (by decide +kernel) rfl rfl rfl (by decide +kernel)
set_option maxRecDepth 65536 in
theorem w_c35 : (Jvm.Cond.code ({ cls := "java/lang/StringBuilder", name := "length", desc := "()I" } : Jvm.MethodName) jdk_67_method_93_code (1 : Nat) (Option.some Jvm.ClassFile.FieldType.int)).before args0 about1 = true := code_word (m := ⟨12, 3⟩) (meth := k12m3) (c := k12c3) (by decide +kernel) rfl rfl rfl (by decide +kernel)
set_option maxRecDepth 65536 in
theorem w_c36 : (Jvm.Cond.code ({ cls := "java/lang/AbstractStringBuilder", name := "length", desc := "()I" } : Jvm.MethodName) jdk_68_method_6_code (1 : Nat) (Option.some Jvm.ClassFile.FieldType.int)).before args0 about1 = true := code_word (m := ⟨11, 2⟩) (meth := k11m2) (c := k11c2) (by decide +kernel) rfl rfl rfl (by decide +kernel)
set_option maxRecDepth 65536 in
theorem w_c37 : (Jvm.Cond.code ({ cls := "java/lang/AbstractStringBuilder", name := "isLatin1", desc := "()Z" } : Jvm.MethodName) jdk_68_method_68_code (1 : Nat) (Option.some Jvm.ClassFile.FieldType.boolean)).before args0 about1 = true := code_word (m := ⟨11, 7⟩) (meth := k11m7) (c := k11c7) (by decide +kernel) rfl rfl rfl (by decide +kernel)
set_option maxRecDepth 65536 in
theorem w_c38 : (Jvm.Cond.code ({ cls := "java/util/Arrays", name := "copyOfRange", desc := "([BII)[B" } : Jvm.MethodName) jdk_65_method_132_code (3 : Nat) (Option.some (Jvm.ClassFile.FieldType.array Jvm.ClassFile.FieldType.byte))).before args0 about1 = true := code_word (m := ⟨16, 3⟩) (meth := k16m3) (c := k16c3) (by decide +kernel) rfl rfl rfl (by decide +kernel)
set_option maxRecDepth 65536 in
theorem w_c39 : (Jvm.Cond.code ({ cls := "java/util/Arrays", name := "copyOfRangeByte", desc := "([BII)[B" } : Jvm.MethodName) jdk_65_method_133_code (5 : Nat) (Option.some (Jvm.ClassFile.FieldType.array Jvm.ClassFile.FieldType.byte))).before args0 about1 = true := code_word (m := ⟨16, 4⟩) (meth := k16m4) (c := k16c4) (by decide +kernel) rfl rfl rfl (by decide +kernel)
set_option maxRecDepth 65536 in
theorem w_c40 : (Jvm.Cond.code ({ cls := "java/util/Arrays", name := "checkLength", desc := "(II)V" } : Jvm.MethodName) jdk_65_method_131_code (2 : Nat) (Option.none : Option Jvm.ClassFile.FieldType)).before args0 about1 = true := code_word (m := ⟨16, 2⟩) (meth := k16m2) (c := k16c2) (by decide +kernel) rfl rfl rfl (by decide +kernel)
set_option maxRecDepth 65536 in
theorem w_c41 : (Jvm.Cond.code ({ cls := "java/lang/AbstractStringBuilder", name := "newCapacity", desc := "(I)I" } : Jvm.MethodName) jdk_68_method_10_code (6 : Nat) (Option.some Jvm.ClassFile.FieldType.int)).before args0 about1 = true := code_word (m := ⟨11, 4⟩) (meth := k11m4) (c := k11c4) (by decide +kernel) rfl rfl rfl (by decide +kernel)
set_option maxRecDepth 65536 in
theorem w_c42 : (Jvm.Cond.code ({ cls := "jdk/internal/util/ArraysSupport", name := "newLength", desc := "(III)I" } : Jvm.MethodName) jdk_48_method_27_code (4 : Nat) (Option.some Jvm.ClassFile.FieldType.int)).before args0 about1 = true := code_word (m := ⟨17, 1⟩) (meth := k17m1) (c := k17c1) (by decide +kernel) rfl rfl rfl (by decide +kernel)
set_option maxRecDepth 65536 in
theorem w_c43 : (Jvm.Cond.code ({ cls := "java/util/Arrays", name := "copyOf", desc := "([BI)[B" } : Jvm.MethodName) jdk_65_method_121_code (3 : Nat) (Option.some (Jvm.ClassFile.FieldType.array Jvm.ClassFile.FieldType.byte))).before args0 about1 = true := code_word (m := ⟨16, 1⟩) (meth := k16m1) (c := k16c1) (by decide +kernel) rfl rfl rfl (by decide +kernel)
set_option maxRecDepth 65536 in
theorem w_c44 : (Jvm.Cond.code ({ cls := "com/example/holdfast/holdfast/Keys", name := "lastCall", desc := "(Ljava/lang/String;Ljava/lang/String;)Ljava/lang/String;" } : Jvm.MethodName) prog_8_method_23_code (3 : Nat) (Option.some (Jvm.ClassFile.FieldType.object "java/lang/String"))).before args0 about1 = true := code_word (m := ⟨9, 14⟩) (meth := k9m14) (c := k9c14) (by decide +kernel) rfl rfl rfl (by decide +kernel)
set_option maxRecDepth 65536 in
theorem w_c45 : (Jvm.Cond.code ({ cls := "java/lang/String", name := "substring", desc := "(II)Ljava/lang/String;" } : Jvm.MethodName) jdk_42_method_92_code (5 : Nat) (Option.some (Jvm.ClassFile.FieldType.object "java/lang/String"))).before args0 about1 = true := code_word (m := ⟨7, 9⟩) (meth := k7m9) (c := k7c9) (by decide +kernel) rfl rfl rfl (by decide +kernel)
set_option maxRecDepth 65536 in
theorem w_c46 : (Jvm.Cond.code ({ cls := "java/lang/String", name := "checkBoundsBeginEnd", desc := "(III)V" } : Jvm.MethodName) jdk_42_method_158_code (3 : Nat) (Option.none : Option Jvm.ClassFile.FieldType)).before args0 about1 = true := code_word (m := ⟨7, 18⟩) (meth := k7m18) (c := k7c18) (by decide +kernel) rfl rfl rfl (by decide +kernel)
set_option maxRecDepth 65536 in
theorem w_c47 : (Jvm.Cond.code ({ cls := "jdk/internal/util/Preconditions", name := "checkFromToIndex", desc := "(IIILjava/util/function/BiFunction;)I" } : Jvm.MethodName) jdk_41_method_12_code (4 : Nat) (Option.some Jvm.ClassFile.FieldType.int)).before args0 about1 = true := code_word (m := ⟨18, 2⟩) (meth := k18m2) (c := k18c2) (by decide +kernel) rfl rfl rfl (by decide +kernel)
set_option maxRecDepth 65536 in
theorem w_c48 : (Jvm.Cond.code ({ cls := "java/lang/StringLatin1", name := "newString", desc := "([BII)Ljava/lang/String;" } : Jvm.MethodName) jdk_43_method_47_code (3 : Nat) (Option.some (Jvm.ClassFile.FieldType.object "java/lang/String"))).before args0 about1 = true := code_word (m := ⟨8, 8⟩) (meth := k8m8) (c := k8c8) (by decide +kernel) rfl rfl rfl (by decide +kernel)
set_option maxRecDepth 65536 in
theorem w_c49 : (Jvm.Cond.code ({ cls := "java/lang/String", name := "charAt", desc := "(I)C" } : Jvm.MethodName) jdk_42_method_56_code (2 : Nat) (Option.some Jvm.ClassFile.FieldType.char)).before args0 about1 = true := code_word (m := ⟨7, 5⟩) (meth := k7m5) (c := k7c5) (by decide +kernel) rfl rfl rfl (by decide +kernel)
set_option maxRecDepth 65536 in
theorem w_c50 : (Jvm.Cond.code ({ cls := "java/lang/StringLatin1", name := "charAt", desc := "([BI)C" } : Jvm.MethodName) jdk_43_method_2_code (2 : Nat) (Option.some Jvm.ClassFile.FieldType.char)).before args0 about1 = true := code_word (m := ⟨8, 1⟩) (meth := k8m1) (c := k8c1) (by decide +kernel) rfl rfl rfl (by decide +kernel)
set_option maxRecDepth 65536 in
theorem w_c51 : (Jvm.Cond.code ({ cls := "java/lang/String", name := "checkIndex", desc := "(II)V" } : Jvm.MethodName) jdk_42_method_155_code (2 : Nat) (Option.none : Option Jvm.ClassFile.FieldType)).before args0 about1 = true := code_word (m := ⟨7, 17⟩) (meth := k7m17) (c := k7c17) (by decide +kernel) rfl rfl rfl (by decide +kernel)
set_option maxRecDepth 65536 in
theorem w_c52 : (Jvm.Cond.code ({ cls := "jdk/internal/util/Preconditions", name := "checkIndex", desc := "(IILjava/util/function/BiFunction;)I" } : Jvm.MethodName) jdk_41_method_11_code (3 : Nat) (Option.some Jvm.ClassFile.FieldType.int)).before args0 about1 = true := code_word (m := ⟨18, 1⟩) (meth := k18m1) (c := k18c1) (by decide +kernel) rfl rfl rfl (by decide +kernel)
set_option maxRecDepth 65536 in
theorem w_c53 : (Jvm.Cond.code ({ cls := "java/lang/String", name := "<init>", desc := "([C)V" } : Jvm.MethodName) jdk_42_method_3_code (2 : Nat) (Option.none : Option Jvm.ClassFile.FieldType)).before args0 about1 = true := code_word (m := ⟨7, 1⟩) (meth := k7m1) (c := k7c1) (by decide +kernel) rfl rfl rfl (by decide +kernel)
set_option maxRecDepth 65536 in
theorem w_c54 : (Jvm.Cond.code ({ cls := "java/lang/String", name := "<init>", desc := "([CIILjava/lang/Void;)V" } : Jvm.MethodName) jdk_42_method_149_code (6 : Nat) (Option.none : Option Jvm.ClassFile.FieldType)).before args0 about1 = true := code_word (m := ⟨7, 12⟩) (meth := k7m12) (c := k7c12) (by decide +kernel) rfl rfl rfl (by decide +kernel)
set_option maxRecDepth 65536 in
theorem w_c55 : (Jvm.Cond.code ({ cls := "java/lang/StringUTF16", name := "compress", desc := "([CII)[B" } : Jvm.MethodName) jdk_52_method_16_code (6 : Nat) (Option.some (Jvm.ClassFile.FieldType.array Jvm.ClassFile.FieldType.byte))).before args0 about1 = true := code_word (m := ⟨19, 2⟩) (meth := k19m2) (c := k19c2) (by decide +kernel) rfl rfl rfl (by decide +kernel)
set_option maxRecDepth 65536 in
theorem w_c56 : (Jvm.Cond.code ({ cls := "java/lang/StringUTF16", name := "compress", desc := "([CI[BII)I" } : Jvm.MethodName) jdk_52_method_21_code (7 : Nat) (Option.some Jvm.ClassFile.FieldType.int)).before args0 about1 = true := code_word (m := ⟨19, 3⟩) (meth := k19m3) (c := k19c3) (by decide +kernel) rfl rfl rfl (by decide +kernel)
set_option maxRecDepth 65536 in
theorem w_c57 : (Jvm.Cond.code ({ cls := "java/lang/StringUTF16", name := "coderFromArrayLen", desc := "([BI)B" } : Jvm.MethodName) jdk_52_method_15_code (2 : Nat) (Option.some Jvm.ClassFile.FieldType.byte)).before args0 about1 = true := code_word (m := ⟨19, 1⟩) (meth := k19m1) (c := k19c1) (by decide +kernel) rfl rfl rfl (by decide +kernel)
set_option maxRecDepth 65536 in
theorem w_c58 : (Jvm.Cond.code ({ cls := "java/lang/String", name := "equals", desc := "(Ljava/lang/Object;)Z" } : Jvm.MethodName) jdk_42_method_66_code (3 : Nat) (Option.some Jvm.ClassFile.FieldType.boolean)).before args0 about1 = true := code_word (m := ⟨7, 6⟩) (meth := k7m6) (c := k7c6) (by decide +kernel) rfl rfl rfl (by decide +kernel)
set_option maxRecDepth 65536 in
theorem w_c59 : (Jvm.Cond.code ({ cls := "java/lang/StringLatin1", name := "equals", desc := "([B[B)Z" } : Jvm.MethodName) jdk_43_method_13_code (3 : Nat) (Option.some Jvm.ClassFile.FieldType.boolean)).before args0 about1 = true := code_word (m := ⟨8, 4⟩) (meth := k8m4) (c := k8c4) (by decide +kernel) rfl rfl rfl (by decide +kernel)
set_option maxRecDepth 65536 in
theorem w_c60 : (Jvm.Cond.code ({ cls := "com/example/holdfast/holdfast/Keys", name := "fairLockLine", desc := "(Ljava/lang/String;)Ljava/lang/String;" } : Jvm.MethodName) prog_8_method_7_code (1 : Nat) (Option.some (Jvm.ClassFile.FieldType.object "java/lang/String"))).before args0 about1 = true := code_word (m := ⟨9, 5⟩) (meth := k9m5) (c := k9c5) (by decide +kernel) rfl rfl rfl (by decide +kernel)
set_option maxRecDepth 65536 in
theorem w_c61 : (Jvm.Cond.code ({ cls := "com/example/holdfast/holdfast/Keys", name := "fairLock", desc := "(Ljava/lang/String;)Ljava/lang/String;" } : Jvm.MethodName) prog_8_method_5_code (1 : Nat) (Option.some (Jvm.ClassFile.FieldType.object "java/lang/String"))).before args0 about1 = true := code_word (m := ⟨9, 4⟩) (meth := k9m4) (c := k9c4) (by decide +kernel) rfl rfl rfl (by decide +kernel)
set_option maxRecDepth 65536 in
theorem w_c62 : (Jvm.Cond.code ({ cls := "com/example/holdfast/holdfast/Keys", name := "waitingWriters", desc := "(Ljava/lang/String;)Ljava/lang/String;" } : Jvm.MethodName) prog_8_method_17_code (1 : Nat) (Option.some (Jvm.ClassFile.FieldType.object "java/lang/String"))).before args0 about1 = true := code_word (m := ⟨9, 10⟩) (meth := k9m10) (c := k9c10) (by decide +kernel) rfl rfl rfl (by decide +kernel)
set_option maxRecDepth 65536 in
theorem w_c63 : (Jvm.Cond.code ({ cls := "com/example/holdfast/holdfast/Keys", name := "places", desc := "(Ljava/lang/String;)Ljava/lang/String;" } : Jvm.MethodName) prog_8_method_15_code (1 : Nat) (Option.some (Jvm.ClassFile.FieldType.object "java/lang/String"))).before args0 about1 = true := code_word (m := ⟨9, 9⟩) (meth := k9m9) (c := k9c9) (by decide +kernel) rfl rfl rfl (by decide +kernel)
set_option maxRecDepth 65536 in
theorem w_c64 : (Jvm.Cond.code ({ cls := "com/example/holdfast/holdfast/Keys", name := "readWriteLock", desc := "(Ljava/lang/String;)Ljava/lang/String;" } : Jvm.MethodName) prog_8_method_19_code (1 : Nat) (Option.some (Jvm.ClassFile.FieldType.object "java/lang/String"))).before args0 about1 = true := code_word (m := ⟨9, 11⟩) (meth := k9m11) (c := k9c11) (by decide +kernel) rfl rfl rfl (by decide +kernel)
set_option maxRecDepth 65536 in
theorem w_c65 : (Jvm.Cond.code ({ cls := "com/example/holdfast/holdfast/Keys", name := "readHold", desc := "(Ljava/lang/String;Ljava/lang/String;)Ljava/lang/String;" } : Jvm.MethodName) prog_8_method_12_code (2 : Nat) (Option.some (Jvm.ClassFile.FieldType.object "java/lang/String"))).before args0 about1 = true := code_word (m := ⟨9, 7⟩) (meth := k9m7) (c := k9c7) (by decide +kernel) rfl rfl rfl (by decide +kernel)
set_option maxRecDepth 65536 in
theorem w_c66 : (Jvm.Cond.code ({ cls := "com/example/holdfast/holdfast/Keys", name := "readers", desc := "(Ljava/lang/String;)Ljava/lang/String;" } : Jvm.MethodName) prog_8_method_11_code (1 : Nat) (Option.some (Jvm.ClassFile.FieldType.object "java/lang/String"))).before args0 about1 = true := code_word (m := ⟨9, 6⟩) (meth := k9m6) (c := k9c6) (by decide +kernel) rfl rfl rfl (by decide +kernel)
set_option maxRecDepth 65536 in
theorem w_c67 : (Jvm.Cond.code ({ cls := "com/example/holdfast/holdfast/Keys", name := "readHoldAmong", desc := "(Ljava/lang/String;Ljava/lang/String;)Ljava/lang/String;" } : Jvm.MethodName) prog_8_method_13_code (2 : Nat) (Option.some (Jvm.ClassFile.FieldType.object "java/lang/String"))).before args0 about1 = true := code_word (m := ⟨9, 8⟩) (meth := k9m8) (c := k9c8) (by decide +kernel) rfl rfl rfl (by decide +kernel)
set_option maxRecDepth 65536 in
theorem w_c68 : (Jvm.Cond.code ({ cls := "com/example/holdfast/holdfast/Keys", name := "lockToken", desc := "(Ljava/lang/String;)Ljava/lang/String;" } : Jvm.MethodName) prog_8_method_3_code (1 : Nat) (Option.some (Jvm.ClassFile.FieldType.object "java/lang/String"))).before args0 about1 = true := code_word (m := ⟨9, 2⟩) (meth := k9m2) (c := k9c2) (by decide +kernel) rfl rfl rfl (by decide +kernel)
set_option maxRecDepth 65536 in
theorem w_c69 : (Jvm.Cond.code ({ cls := "com/example/holdfast/holdfast/Keys", name := "semaphoreCopy", desc := "(Ljava/lang/String;)Ljava/lang/String;" } : Jvm.MethodName) prog_8_method_21_code (1 : Nat) (Option.some (Jvm.ClassFile.FieldType.object "java/lang/String"))).before args0 about1 = true := code_word (m := ⟨9, 13⟩) (meth := k9m13) (c := k9c13) (by decide +kernel) rfl rfl rfl (by decide +kernel)
set_option maxRecDepth 65536 in
theorem w_c70 : (Jvm.Cond.code ({ cls := "com/example/holdfast/holdfast/Keys", name := "semaphore", desc := "(Ljava/lang/String;)Ljava/lang/String;" } : Jvm.MethodName) prog_8_method_20_code (1 : Nat) (Option.some (Jvm.ClassFile.FieldType.object "java/lang/String"))).before args0 about1 = true := code_word (m := ⟨9, 12⟩) (meth := k9m12) (c := k9c12) (by decide +kernel) rfl rfl rfl (by decide +kernel)
def codes1 : List Jvm.Cond := [Jvm.Cond.code x code maxLocals ret, Jvm.Cond.code ({ cls := "com/example/holdfast/holdfast/KeysLastCallPinLaw", name := "nameChar", desc := "(I)C" } : Jvm.MethodName) method_2_code (1 : Nat) (Option.some Jvm.ClassFile.FieldType.char), Jvm.Cond.code ({ cls := "java/lang/String", name := "valueOf", desc := "(C)Ljava/lang/String;" } : Jvm.MethodName) jdk_42_method_139_code (1 : Nat) (Option.some (Jvm.ClassFile.FieldType.object "java/lang/String")), Jvm.Cond.code ({ cls := "java/lang/StringLatin1", name := "canEncode", desc := "(C)Z" } : Jvm.MethodName) jdk_43_method_3_code (1 : Nat) (Option.some Jvm.ClassFile.FieldType.boolean), Jvm.Cond.code ({ cls := "java/lang/StringLatin1", name := "toBytes", desc := "(C)[B" } : Jvm.MethodName) jdk_43_method_46_code (1 : Nat) (Option.some (Jvm.ClassFile.FieldType.array Jvm.ClassFile.FieldType.byte)), Jvm.Cond.code ({ cls := "java/lang/String", name := "<init>", desc := "([BB)V" } : Jvm.MethodName) jdk_42_method_151_code (3 : Nat) (Option.none : Option Jvm.ClassFile.FieldType), Jvm.Cond.code ({ cls := "java/lang/Object", name := "<init>", desc := "()V" } : Jvm.MethodName) object_method_1_code (1 : Nat) (Option.none : Option Jvm.ClassFile.FieldType), Jvm.Cond.code ({ cls := "com/example/holdfast/holdfast/KeysLastCallPinLaw", name := "key", desc := "(ILjava/lang/String;Ljava/lang/String;)Ljava/lang/String;" } : Jvm.MethodName) method_3_code (3 : Nat) (Option.some (Jvm.ClassFile.FieldType.object "java/lang/String")), Jvm.Cond.code ({ cls := "com/example/holdfast/holdfast/Keys", name := "lockReleased", desc := "(Ljava/lang/String;)Ljava/lang/String;" } : Jvm.MethodName) prog_8_method_4_code (1 : Nat) (Option.some (Jvm.ClassFile.FieldType.object "java/lang/String")), Jvm.Cond.code ({ cls := "java/lang/StringBuilder", name := "<init>", desc := "()V" } : Jvm.MethodName) jdk_67_method_1_code (1 : Nat) (Option.none : Option Jvm.ClassFile.FieldType), Jvm.Cond.code ({ cls := "java/lang/AbstractStringBuilder", name := "<init>", desc := "(I)V" } : Jvm.MethodName) jdk_68_method_2_code (2 : Nat) (Option.none : Option Jvm.ClassFile.FieldType), Jvm.Cond.code ({ cls := "com/example/holdfast/holdfast/Keys", name := "lock", desc := "(Ljava/lang/String;)Ljava/lang/String;" } : Jvm.MethodName) prog_8_method_2_code (1 : Nat) (Option.some (Jvm.ClassFile.FieldType.object "java/lang/String")), Jvm.Cond.code ({ cls := "java/lang/StringBuilder", name := "append", desc := "(Ljava/lang/String;)Ljava/lang/StringBuilder;" } : Jvm.MethodName) jdk_67_method_7_code (2 : Nat) (Option.some (Jvm.ClassFile.FieldType.object "java/lang/StringBuilder")), Jvm.Cond.code ({ cls := "java/lang/AbstractStringBuilder", name := "append", desc := "(Ljava/lang/String;)Ljava/lang/AbstractStringBuilder;" } : Jvm.MethodName) jdk_68_method_22_code (3 : Nat) (Option.some (Jvm.ClassFile.FieldType.object "java/lang/AbstractStringBuilder")), Jvm.Cond.code ({ cls := "java/lang/String", name := "length", desc := "()I" } : Jvm.MethodName) jdk_42_method_54_code (1 : Nat) (Option.some Jvm.ClassFile.FieldType.int), Jvm.Cond.code ({ cls := "java/lang/String", name := "coder", desc := "()B" } : Jvm.MethodName) jdk_42_method_152_code (1 : Nat) (Option.some Jvm.ClassFile.FieldType.byte), Jvm.Cond.code ({ cls := "java/lang/AbstractStringBuilder", name := "ensureCapacityInternal", desc := "(I)V" } : Jvm.MethodName) jdk_68_method_9_code (3 : Nat) (Option.none : Option Jvm.ClassFile.FieldType), Jvm.Cond.code ({ cls := "java/lang/AbstractStringBuilder", name := "putStringAt", desc := "(ILjava/lang/String;)V" } : Jvm.MethodName) jdk_68_method_73_code (3 : Nat) (Option.none : Option Jvm.ClassFile.FieldType), Jvm.Cond.code ({ cls := "java/lang/AbstractStringBuilder", name := "inflateIfNeededFor", desc := "(Ljava/lang/String;)V" } : Jvm.MethodName) jdk_68_method_71_code (2 : Nat) (Option.none : Option Jvm.ClassFile.FieldType), Jvm.Cond.code ({ cls := "java/lang/String", name := "getBytes", desc := "([BIB)V" } : Jvm.MethodName) jdk_42_method_147_code (4 : Nat) (Option.none : Option Jvm.ClassFile.FieldType), Jvm.Cond.code ({ cls := "com/example/holdfast/holdfast/Keys", name := "hashTag", desc := "(Ljava/lang/String;)Ljava/lang/String;" } : Jvm.MethodName) prog_8_method_24_code (1 : Nat) (Option.some (Jvm.ClassFile.FieldType.object "java/lang/String")), Jvm.Cond.code ({ cls := "java/util/Objects", name := "requireNonNull", desc := "(Ljava/lang/Object;Ljava/lang/String;)Ljava/lang/Object;" } : Jvm.MethodName) jdk_31_method_11_code (2 : Nat) (Option.some (Jvm.ClassFile.FieldType.object "java/lang/Object")), Jvm.Cond.code ({ cls := "java/lang/String", name := "isEmpty", desc := "()Z" } : Jvm.MethodName) jdk_42_method_55_code (1 : Nat) (Option.some Jvm.ClassFile.FieldType.boolean), Jvm.Cond.code ({ cls := "java/lang/String", name := "indexOf", desc := "(I)I" } : Jvm.MethodName) jdk_42_method_79_code (2 : Nat) (Option.some Jvm.ClassFile.FieldType.int), Jvm.Cond.code ({ cls := "java/lang/String", name := "indexOf", desc := "(II)I" } : Jvm.MethodName) jdk_42_method_80_code (3 : Nat) (Option.some Jvm.ClassFile.FieldType.int), Jvm.Cond.code ({ cls := "java/lang/String", name := "isLatin1", desc := "()Z" } : Jvm.MethodName) jdk_42_method_154_code (1 : Nat) (Option.some Jvm.ClassFile.FieldType.boolean), Jvm.Cond.code ({ cls := "java/lang/StringLatin1", name := "indexOf", desc := "([BIII)I" } : Jvm.MethodName) jdk_43_method_22_code (4 : Nat) (Option.some Jvm.ClassFile.FieldType.int), Jvm.Cond.code ({ cls := "java/lang/StringLatin1", name := "canEncode", desc := "(I)Z" } : Jvm.MethodName) jdk_43_method_4_code (1 : Nat) (Option.some Jvm.ClassFile.FieldType.boolean), Jvm.Cond.code ({ cls := "java/lang/Math", name := "max", desc := "(II)I" } : Jvm.MethodName) jdk_29_method_65_code (2 : Nat) (Option.some Jvm.ClassFile.FieldType.int), Jvm.Cond.code ({ cls := "java/lang/Math", name := "min", desc := "(II)I" } : Jvm.MethodName) jdk_29_method_69_code (2 : Nat) (Option.some Jvm.ClassFile.FieldType.int), Jvm.Cond.code ({ cls := "java/lang/StringLatin1", name := "indexOfChar", desc := "([BIII)I" } : Jvm.MethodName) jdk_43_method_23_code (6 : Nat) (Option.some Jvm.ClassFile.FieldType.int), Jvm.Cond.code ({ cls := "java/lang/StringBuilder", name := "toString", desc := "()Ljava/lang/String;" } : Jvm.MethodName) jdk_67_method_42_code (1 : Nat) (Option.some (Jvm.ClassFile.FieldType.object "java/lang/String")), Jvm.Cond.code ({ cls := "java/lang/String", name := "<init>", desc := "(Ljava/lang/StringBuilder;)V" } : Jvm.MethodName) jdk_42_method_53_code (2 : Nat) (Option.none : Option Jvm.ClassFile.FieldType), Jvm.Cond.code ({ cls := "java/lang/String", name := "<init>", desc := "(Ljava/lang/AbstractStringBuilder;Ljava/lang/Void;)V" } : Jvm.MethodName) jdk_42_method_150_code (5 : Nat) (Option.none : Option Jvm.ClassFile.FieldType), Jvm.Cond.code ({ cls := "java/lang/AbstractStringBuilder", name := "getValue", desc := "()[B" } : Jvm.MethodName) jdk_68_method_64_code (1 : Nat) (Option.some (Jvm.ClassFile.FieldType.array Jvm.ClassFile.FieldType.byte)), Jvm.Cond.code ({ cls := "java/lang/StringBuilder", name := "length", desc := "()I" } : Jvm.MethodName) jdk_67_method_93_code (1 : Nat) (Option.some Jvm.ClassFile.FieldType.int), Jvm.Cond.code ({ cls := "java/lang/AbstractStringBuilder", name := "length", desc := "()I" } : Jvm.MethodName) jdk_68_method_6_code (1 : Nat) (Option.some Jvm.ClassFile.FieldType.int), Jvm.Cond.code ({ cls := "java/lang/AbstractStringBuilder", name := "isLatin1", desc := "()Z" } : Jvm.MethodName) jdk_68_method_68_code (1 : Nat) (Option.some Jvm.ClassFile.FieldType.boolean), Jvm.Cond.code ({ cls := "java/util/Arrays", name := "copyOfRange", desc := "([BII)[B" } : Jvm.MethodName) jdk_65_method_132_code (3 : Nat) (Option.some (Jvm.ClassFile.FieldType.array Jvm.ClassFile.FieldType.byte)), Jvm.Cond.code ({ cls := "java/util/Arrays", name := "copyOfRangeByte", desc := "([BII)[B" } : Jvm.MethodName) jdk_65_method_133_code (5 : Nat) (Option.some (Jvm.ClassFile.FieldType.array Jvm.ClassFile.FieldType.byte)), Jvm.Cond.code ({ cls := "java/util/Arrays", name := "checkLength", desc := "(II)V" } : Jvm.MethodName) jdk_65_method_131_code (2 : Nat) (Option.none : Option Jvm.ClassFile.FieldType), Jvm.Cond.code ({ cls := "java/lang/AbstractStringBuilder", name := "newCapacity", desc := "(I)I" } : Jvm.MethodName) jdk_68_method_10_code (6 : Nat) (Option.some Jvm.ClassFile.FieldType.int), Jvm.Cond.code ({ cls := "jdk/internal/util/ArraysSupport", name := "newLength", desc := "(III)I" } : Jvm.MethodName) jdk_48_method_27_code (4 : Nat) (Option.some Jvm.ClassFile.FieldType.int), Jvm.Cond.code ({ cls := "java/util/Arrays", name := "copyOf", desc := "([BI)[B" } : Jvm.MethodName) jdk_65_method_121_code (3 : Nat) (Option.some (Jvm.ClassFile.FieldType.array Jvm.ClassFile.FieldType.byte)), Jvm.Cond.code ({ cls := "com/example/holdfast/holdfast/Keys", name := "lastCall", desc := "(Ljava/lang/String;Ljava/lang/String;)Ljava/lang/String;" } : Jvm.MethodName) prog_8_method_23_code (3 : Nat) (Option.some (Jvm.ClassFile.FieldType.object "java/lang/String")), Jvm.Cond.code ({ cls := "java/lang/String", name := "substring", desc := "(II)Ljava/lang/String;" } : Jvm.MethodName) jdk_42_method_92_code (5 : Nat) (Option.some (Jvm.ClassFile.FieldType.object "java/lang/String")), Jvm.Cond.code ({ cls := "java/lang/String", name := "checkBoundsBeginEnd", desc := "(III)V" } : Jvm.MethodName) jdk_42_method_158_code (3 : Nat) (Option.none : Option Jvm.ClassFile.FieldType), Jvm.Cond.code ({ cls := "jdk/internal/util/Preconditions", name := "checkFromToIndex", desc := "(IIILjava/util/function/BiFunction;)I" } : Jvm.MethodName) jdk_41_method_12_code (4 : Nat) (Option.some Jvm.ClassFile.FieldType.int), Jvm.Cond.code ({ cls := "java/lang/StringLatin1", name := "newString", desc := "([BII)Ljava/lang/String;" } : Jvm.MethodName) jdk_43_method_47_code (3 : Nat) (Option.some (Jvm.ClassFile.FieldType.object "java/lang/String")), Jvm.Cond.code ({ cls := "java/lang/String", name := "charAt", desc := "(I)C" } : Jvm.MethodName) jdk_42_method_56_code (2 : Nat) (Option.some Jvm.ClassFile.FieldType.char), Jvm.Cond.code ({ cls := "java/lang/StringLatin1", name := "charAt", desc := "([BI)C" } : Jvm.MethodName) jdk_43_method_2_code (2 : Nat) (Option.some Jvm.ClassFile.FieldType.char), Jvm.Cond.code ({ cls := "java/lang/String", name := "checkIndex", desc := "(II)V" } : Jvm.MethodName) jdk_42_method_155_code (2 : Nat) (Option.none : Option Jvm.ClassFile.FieldType), Jvm.Cond.code ({ cls := "jdk/internal/util/Preconditions", name := "checkIndex", desc := "(IILjava/util/function/BiFunction;)I" } : Jvm.MethodName) jdk_41_method_11_code (3 : Nat) (Option.some Jvm.ClassFile.FieldType.int), Jvm.Cond.code ({ cls := "java/lang/String", name := "<init>", desc := "([C)V" } : Jvm.MethodName) jdk_42_method_3_code (2 : Nat) (Option.none : Option Jvm.ClassFile.FieldType), Jvm.Cond.code ({ cls := "java/lang/String", name := "<init>", desc := "([CIILjava/lang/Void;)V" } : Jvm.MethodName) jdk_42_method_149_code (6 : Nat) (Option.none : Option Jvm.ClassFile.FieldType), Jvm.Cond.code ({ cls := "java/lang/StringUTF16", name := "compress", desc := "([CII)[B" } : Jvm.MethodName) jdk_52_method_16_code (6 : Nat) (Option.some (Jvm.ClassFile.FieldType.array Jvm.ClassFile.FieldType.byte)), Jvm.Cond.code ({ cls := "java/lang/StringUTF16", name := "compress", desc := "([CI[BII)I" } : Jvm.MethodName) jdk_52_method_21_code (7 : Nat) (Option.some Jvm.ClassFile.FieldType.int), Jvm.Cond.code ({ cls := "java/lang/StringUTF16", name := "coderFromArrayLen", desc := "([BI)B" } : Jvm.MethodName) jdk_52_method_15_code (2 : Nat) (Option.some Jvm.ClassFile.FieldType.byte), Jvm.Cond.code ({ cls := "java/lang/String", name := "equals", desc := "(Ljava/lang/Object;)Z" } : Jvm.MethodName) jdk_42_method_66_code (3 : Nat) (Option.some Jvm.ClassFile.FieldType.boolean), Jvm.Cond.code ({ cls := "java/lang/StringLatin1", name := "equals", desc := "([B[B)Z" } : Jvm.MethodName) jdk_43_method_13_code (3 : Nat) (Option.some Jvm.ClassFile.FieldType.boolean), Jvm.Cond.code ({ cls := "com/example/holdfast/holdfast/Keys", name := "fairLockLine", desc := "(Ljava/lang/String;)Ljava/lang/String;" } : Jvm.MethodName) prog_8_method_7_code (1 : Nat) (Option.some (Jvm.ClassFile.FieldType.object "java/lang/String")), Jvm.Cond.code ({ cls := "com/example/holdfast/holdfast/Keys", name := "fairLock", desc := "(Ljava/lang/String;)Ljava/lang/String;" } : Jvm.MethodName) prog_8_method_5_code (1 : Nat) (Option.some (Jvm.ClassFile.FieldType.object "java/lang/String")), Jvm.Cond.code ({ cls := "com/example/holdfast/holdfast/Keys", name := "waitingWriters", desc := "(Ljava/lang/String;)Ljava/lang/String;" } : Jvm.MethodName) prog_8_method_17_code (1 : Nat) (Option.some (Jvm.ClassFile.FieldType.object "java/lang/String")), Jvm.Cond.code ({ cls := "com/example/holdfast/holdfast/Keys", name := "places", desc := "(Ljava/lang/String;)Ljava/lang/String;" } : Jvm.MethodName) prog_8_method_15_code (1 : Nat) (Option.some (Jvm.ClassFile.FieldType.object "java/lang/String")), Jvm.Cond.code ({ cls := "com/example/holdfast/holdfast/Keys", name := "readWriteLock", desc := "(Ljava/lang/String;)Ljava/lang/String;" } : Jvm.MethodName) prog_8_method_19_code (1 : Nat) (Option.some (Jvm.ClassFile.FieldType.object "java/lang/String")), Jvm.Cond.code ({ cls := "com/example/holdfast/holdfast/Keys", name := "readHold", desc := "(Ljava/lang/String;Ljava/lang/String;)Ljava/lang/String;" } : Jvm.MethodName) prog_8_method_12_code (2 : Nat) (Option.some (Jvm.ClassFile.FieldType.object "java/lang/String")), Jvm.Cond.code ({ cls := "com/example/holdfast/holdfast/Keys", name := "readers", desc := "(Ljava/lang/String;)Ljava/lang/String;" } : Jvm.MethodName) prog_8_method_11_code (1 : Nat) (Option.some (Jvm.ClassFile.FieldType.object "java/lang/String")), Jvm.Cond.code ({ cls := "com/example/holdfast/holdfast/Keys", name := "readHoldAmong", desc := "(Ljava/lang/String;Ljava/lang/String;)Ljava/lang/String;" } : Jvm.MethodName) prog_8_method_13_code (2 : Nat) (Option.some (Jvm.ClassFile.FieldType.object "java/lang/String")), Jvm.Cond.code ({ cls := "com/example/holdfast/holdfast/Keys", name := "lockToken", desc := "(Ljava/lang/String;)Ljava/lang/String;" } : Jvm.MethodName) prog_8_method_3_code (1 : Nat) (Option.some (Jvm.ClassFile.FieldType.object "java/lang/String")), Jvm.Cond.code ({ cls := "com/example/holdfast/holdfast/Keys", name := "semaphoreCopy", desc := "(Ljava/lang/String;)Ljava/lang/String;" } : Jvm.MethodName) prog_8_method_21_code (1 : Nat) (Option.some (Jvm.ClassFile.FieldType.object "java/lang/String")), Jvm.Cond.code ({ cls := "com/example/holdfast/holdfast/Keys", name := "semaphore", desc := "(Ljava/lang/String;)Ljava/lang/String;" } : Jvm.MethodName) prog_8_method_20_code (1 : Nat) (Option.some (Jvm.ClassFile.FieldType.object "java/lang/String"))]
set_option maxRecDepth 65536 in
theorem codes_eq : words1.filter isCode = codes1 := rfl
theorem w_codes : ∀ c ∈ words1.filter isCode, c.before args0 about1 = true := by
  rw [codes_eq]
  intro c hc
  simp only [codes1, List.mem_cons, List.not_mem_nil, or_false] at hc
  rcases hc with rfl | rfl | rfl | rfl | rfl | rfl | rfl | rfl | rfl | rfl | rfl | rfl | rfl | rfl | rfl | rfl | rfl | rfl | rfl | rfl | rfl | rfl | rfl | rfl | rfl | rfl | rfl | rfl | rfl | rfl | rfl | rfl | rfl | rfl | rfl | rfl | rfl | rfl | rfl | rfl | rfl | rfl | rfl | rfl | rfl | rfl | rfl | rfl | rfl | rfl | rfl | rfl | rfl | rfl | rfl | rfl | rfl | rfl | rfl | rfl | rfl | rfl | rfl | rfl | rfl | rfl | rfl | rfl | rfl | rfl | rfl
  · exact w_c0
  · exact w_c1
  · exact w_c2
  · exact w_c3
  · exact w_c4
  · exact w_c5
  · exact w_c6
  · exact w_c7
  · exact w_c8
  · exact w_c9
  · exact w_c10
  · exact w_c11
  · exact w_c12
  · exact w_c13
  · exact w_c14
  · exact w_c15
  · exact w_c16
  · exact w_c17
  · exact w_c18
  · exact w_c19
  · exact w_c20
  · exact w_c21
  · exact w_c22
  · exact w_c23
  · exact w_c24
  · exact w_c25
  · exact w_c26
  · exact w_c27
  · exact w_c28
  · exact w_c29
  · exact w_c30
  · exact w_c31
  · exact w_c32
  · exact w_c33
  · exact w_c34
  · exact w_c35
  · exact w_c36
  · exact w_c37
  · exact w_c38
  · exact w_c39
  · exact w_c40
  · exact w_c41
  · exact w_c42
  · exact w_c43
  · exact w_c44
  · exact w_c45
  · exact w_c46
  · exact w_c47
  · exact w_c48
  · exact w_c49
  · exact w_c50
  · exact w_c51
  · exact w_c52
  · exact w_c53
  · exact w_c54
  · exact w_c55
  · exact w_c56
  · exact w_c57
  · exact w_c58
  · exact w_c59
  · exact w_c60
  · exact w_c61
  · exact w_c62
  · exact w_c63
  · exact w_c64
  · exact w_c65
  · exact w_c66
  · exact w_c67
  · exact w_c68
  · exact w_c69
  · exact w_c70
set_option maxRecDepth 65536 in
theorem w_t1 : (words1.take 24).all (fun c => isCode c || c.before args0 about1) = true := by decide +kernel
set_option maxRecDepth 65536 in
theorem w_t2 : ((words1.drop 24).take 24).all (fun c => isCode c || c.before args0 about1) = true := by decide +kernel
set_option maxRecDepth 65536 in
theorem w_t3 : (((words1.drop 24).drop 24).take 24).all (fun c => isCode c || c.before args0 about1) = true := by decide +kernel
set_option maxRecDepth 65536 in
theorem w_t4 : ((((words1.drop 24).drop 24).drop 24).take 24).all (fun c => isCode c || c.before args0 about1) = true := by decide +kernel
set_option maxRecDepth 65536 in
theorem w_t5 : (((((words1.drop 24).drop 24).drop 24).drop 24).take 24).all (fun c => isCode c || c.before args0 about1) = true := by decide +kernel
set_option maxRecDepth 65536 in
theorem w_t6 : ((((((words1.drop 24).drop 24).drop 24).drop 24).drop 24).take 24).all (fun c => isCode c || c.before args0 about1) = true := by decide +kernel
set_option maxRecDepth 65536 in
theorem w_t7 : (((((((words1.drop 24).drop 24).drop 24).drop 24).drop 24).drop 24).take 24).all (fun c => isCode c || c.before args0 about1) = true := by decide +kernel
set_option maxRecDepth 65536 in
theorem w_t8 : ((((((((words1.drop 24).drop 24).drop 24).drop 24).drop 24).drop 24).drop 24).take 24).all (fun c => isCode c || c.before args0 about1) = true := by decide +kernel
set_option maxRecDepth 65536 in
theorem w_t9 : (((((((((words1.drop 24).drop 24).drop 24).drop 24).drop 24).drop 24).drop 24).drop 24).take 24).all (fun c => isCode c || c.before args0 about1) = true := by decide +kernel
set_option maxRecDepth 65536 in
theorem w_t10 : ((((((((((words1.drop 24).drop 24).drop 24).drop 24).drop 24).drop 24).drop 24).drop 24).drop 24).take 24).all (fun c => isCode c || c.before args0 about1) = true := by decide +kernel
set_option maxRecDepth 65536 in
theorem w_t11 : (((((((((((words1.drop 24).drop 24).drop 24).drop 24).drop 24).drop 24).drop 24).drop 24).drop 24).drop 24).take 24).all (fun c => isCode c || c.before args0 about1) = true := by decide +kernel
set_option maxRecDepth 65536 in
theorem w_t12 : ((((((((((((words1.drop 24).drop 24).drop 24).drop 24).drop 24).drop 24).drop 24).drop 24).drop 24).drop 24).drop 24).take 24).all (fun c => isCode c || c.before args0 about1) = true := by decide +kernel
set_option maxRecDepth 65536 in
theorem w_t13 : (((((((((((((words1.drop 24).drop 24).drop 24).drop 24).drop 24).drop 24).drop 24).drop 24).drop 24).drop 24).drop 24).drop 24).take 24).all (fun c => isCode c || c.before args0 about1) = true := by decide +kernel
set_option maxRecDepth 65536 in
theorem w_t14 : (((((((((((((words1.drop 24).drop 24).drop 24).drop 24).drop 24).drop 24).drop 24).drop 24).drop 24).drop 24).drop 24).drop 24).drop 24).all (fun c => isCode c || c.before args0 about1) = true := by decide +kernel
theorem w_tables : (allAtoms (Jvm.Cond.code x code maxLocals ret :: tables_1)).before args0 about1 = true := by
  rw [allAtoms_all]
  show words1.all (fun c => c.before args0 about1) = true
  refine all_split ?_ w_codes
  rw [← List.take_append_drop 24 words1, List.all_append, w_t1, ← List.take_append_drop 24 (words1.drop 24), List.all_append, w_t2, ← List.take_append_drop 24 ((words1.drop 24).drop 24), List.all_append, w_t3, ← List.take_append_drop 24 (((words1.drop 24).drop 24).drop 24), List.all_append, w_t4, ← List.take_append_drop 24 ((((words1.drop 24).drop 24).drop 24).drop 24), List.all_append, w_t5, ← List.take_append_drop 24 (((((words1.drop 24).drop 24).drop 24).drop 24).drop 24), List.all_append, w_t6, ← List.take_append_drop 24 ((((((words1.drop 24).drop 24).drop 24).drop 24).drop 24).drop 24), List.all_append, w_t7, ← List.take_append_drop 24 (((((((words1.drop 24).drop 24).drop 24).drop 24).drop 24).drop 24).drop 24), List.all_append, w_t8, ← List.take_append_drop 24 ((((((((words1.drop 24).drop 24).drop 24).drop 24).drop 24).drop 24).drop 24).drop 24), List.all_append, w_t9, ← List.take_append_drop 24 (((((((((words1.drop 24).drop 24).drop 24).drop 24).drop 24).drop 24).drop 24).drop 24).drop 24), List.all_append, w_t10, ← List.take_append_drop 24 ((((((((((words1.drop 24).drop 24).drop 24).drop 24).drop 24).drop 24).drop 24).drop 24).drop 24).drop 24), List.all_append, w_t11, ← List.take_append_drop 24 (((((((((((words1.drop 24).drop 24).drop 24).drop 24).drop 24).drop 24).drop 24).drop 24).drop 24).drop 24).drop 24), List.all_append, w_t12, ← List.take_append_drop 24 ((((((((((((words1.drop 24).drop 24).drop 24).drop 24).drop 24).drop 24).drop 24).drop 24).drop 24).drop 24).drop 24).drop 24), List.all_append, w_t13, w_t14]
  rfl
set_option maxRecDepth 65536 in
theorem w_rest : rest_1_c.before args0 about1 = true := by decide +kernel
set_option maxRecDepth 65536 in
theorem w_case : (Jvm.Cond.and given_1 narrow_1).before args0 about1 = true := by decide +kernel
set_option maxRecDepth 65536 in
theorem w_consts : constsHeld consts_1 about1 := Jvm.Lit.constsHeldB_iff.mp (by decide +kernel)
theorem w_applies : (headSpec (Jvm.Cond.code x code maxLocals ret :: tables_1) room_1).applies x e0.platform about1 = true :=
  (Spec.applies_iff w_frames).mpr ⟨w_running, w_runnable, w_alone, w_named, w_hears, w_ripe, w_room, w_tables⟩
theorem atStart : AtStart classFile x code maxLocals ret World_1 tables_1 room_1 Calls_1 rest_1 Pre_1 launch0 p0 e0 about1 theMethod args0 below0 :=
  ⟨lists_1, trivial, launch0.admits_env _ _ _, launch0.least_env, fairChoices_fair.cas, fairChoices_fair.clock, w_frames, w_args, w_heap, w_applies, ⟨w_consts, trivial⟩, w_rest, w_case⟩
end start1
theorem witness_1 : WitnessClaimed_1 := ⟨start1.p0, start1.e0, start1.about1, start1.theMethod, start1.args0, start1.below0, start1.atStart⟩
end Jvm.Pilot.@@N@@
