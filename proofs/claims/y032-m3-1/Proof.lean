import JvmDerived
import JvmDerived.Pilot.@@N@@Statement
import JvmDerived.Pilot.@@N@@Code
set_option linter.unusedVariables false
set_option linter.unusedSimpArgs false
namespace Jvm.OwnGo
open Sem ClassFile Op Lib Jvm.Stand Jvm.Free Jvm.LawKit Jvm.RoadKit Bundle
section OwnFacts
variable {Z : State} {h h' : Heap} {a b t : Addr} {C n d : String} {v w : Value} {ws : List Addr} {bo : Bool} {ka kb : ClassId} {ty : FieldType} {z : Int32} {vs : List Value} {dv : Value} {cs : List Int32} {sl : Nat}
theorem Sta_keep (F : Sta Z h C n d v) (K : Keep h h' []) : Sta Z h' C n d v := by
  obtain ⟨cf, i, k, f, st, cell, h1, h2, h3, h4, h5, h6, h7⟩ := F
  exact ⟨cf, i, k, f, st, cell, h1, h2, h3, h4, K.2.1 _ _ h5 nin0, h6, h7⟩
theorem Ins_keep (F : Ins Z h a C bo) (K : Keep h h' ws) : Ins Z h' a C bo := by
  obtain ⟨cell, cT, h1, h2, h3⟩ := F
  obtain ⟨c', q, r1, r2, r3⟩ := K.2.2 a cell h1
  exact ⟨c', cT, q, h2, by rw [r1, r2]; exact h3⟩
theorem own_sto {y : Addr} (F : Arv Z h a ka ty z vs dv) (O : Ovr Z ka C) (I : Ins Z h y C true) : Sto Z h a (.ref y) := by
  obtain ⟨cl, A, q, -⟩ := F
  exact Sto.ofV A q O I
theorem Sta_keepE (F : Sta Z h C n d v) (K : Keep h h' ws) (q : ∀ x ∈ ws, ∃ Cx, Exa Z h x Cx) : Sta Z h' C n d v := by
  obtain ⟨cf, i, k, f, st, cell, h1, h2, h3, h4, h5, h6, h7⟩ := F
  refine ⟨cf, i, k, f, st, cell, h1, h2, h3, h4, K.2.1 _ _ h5 (fun hm => ?_), h6, h7⟩
  obtain ⟨Cx, c1, k1, e1, -, -, e4, -⟩ := q _ hm
  cases e1.symm.trans h5
  rw [e4] at h6; cases h6
theorem own_ne_arv {a0 : Array Value} {nk : Nat} (F : Exa Z h a C) (wi : (Cond.instantiable C nk).before a0 Z = true) (G : Arv Z h b ka ty z vs dv) : a ≠ b := by
  obtain ⟨cl, A, -⟩ := G
  exact ne_arr F wi A
/-- the String at a: one byte a char, its array at t -/
def Str (Z : State) (h : Heap) (a t : Addr) (kb : ClassId) (cs : List Int32) : Prop :=
  Exa Z h a "java/lang/String" ∧ Fld Z h a "java/lang/String" "coder" "B" (.int 0) ∧ Fld Z h a "java/lang/String" "value" "[B" (.ref t) ∧ Arv Z h t kb .byte (Int32.ofNat cs.length) ((cs.map fun c => c.toInt8.toInt32).map Value.int) (.int 0) ∧ cs.length ≤ 4000 ∧ ∀ c ∈ cs, ¬ c < 0 ∧ ¬ (255 : Int32) < c
theorem Str.keep (S : Str Z h a t kb cs) (K : Keep h h' ws) (q : a ∉ ws) (r : t ∉ ws) : Str Z h' a t kb cs := ⟨S.1.keep K, S.2.1.keep K q, S.2.2.1.keep K q, S.2.2.2.1.keep K r, S.2.2.2.2⟩
theorem Str.ext (S : Str Z h a t kb cs) (E : Ext h h') : Str Z h' a t kb cs := ⟨S.1.ext E, S.2.1.ext E, S.2.2.1.ext E, S.2.2.2.1.ext E, S.2.2.2.2⟩
theorem Str.other (S : Str Z h a t kb cs) (W : Wr h h' b sl v) (q : a ≠ b) (r : t ≠ b) : Str Z h' a t kb cs := ⟨S.1.wr W, S.2.1.other W (Or.inl q), S.2.2.1.other W (Or.inl q), S.2.2.2.1.other W r, S.2.2.2.2⟩
theorem Str.tlt (S : Str Z h a t kb cs) : t < h.size := S.2.2.2.1.lt
/-- C's chain of superclasses does not meet K, a class that can be made -/
theorem own_root {a0 : Array Value} {O K : String} {nk : Nat} (w : (Cond.noSuperclass O).before a0 Z = true) (wk : (Cond.instantiable K nk).before a0 Z = true) (hn : O ≠ K) : NS Z O K := by
  obtain ⟨c, k, h1, h2, h3, -, -⟩ := Cond.noSuperclass_spec w
  obtain ⟨t, kt, g1, -⟩ := Cond.instantiable_spec wk
  have ne := ids_ne h1 g1 hn
  refine ⟨c, t, h1, g1, fun fuel => ?_⟩
  cases fuel with
  | zero => rfl
  | succ f => simp [Vm.isSubclassAux, ne, h2, h3]
theorem own_no {a0 : Array Value} {C S K : String} {nk : Nat} (w : (Cond.superclass C S).before a0 Z = true) (wk : (Cond.instantiable K nk).before a0 Z = true) (n : NS Z C K) (hn : C ≠ K) : ∃ c t, Z.vm.findClass C = some c ∧ Z.vm.findClass K = some t ∧ Z.vm.assignable c t = false := by
  obtain ⟨c, t, h0, g0, n3⟩ := n
  obtain ⟨p, k, kp, h1, h2, h3, h4, h5, -, h7⟩ := Cond.superclass_spec h0 w
  obtain ⟨t', k', g1, g2, g3, g4, -⟩ := Cond.instantiable_spec wk
  cases g0.symm.trans g1
  have g5 : k'.isInterface = false := by
    cases hi : k'.isInterface <;> simp [hi] at g4 ⊢
  have ne := ids_ne h0 g0 hn
  refine ⟨c, t, h0, g0, ?_⟩
  show Z.vm.assignableAux (255 + 1) c t = false
  simp [Vm.assignableAux, ne, h2, g2, h5, g3, g5, Vm.isSubclass, n3]
/-- the boxes that stood before -/
def Box (Z : State) (h : Heap) (a : Addr) (K d : String) (z : Int32) (val : Int32 → Value) : Prop :=
  ∃ c : Cell, Arr Z h a c (.object K) ∧ c.slots.size = z.toNatClampNeg ∧ ¬ z < 0 ∧ ∀ j : Int32, ¬ (j < 0 ∨ c.slots.size ≤ j.toNatClampNeg) → ∃ b : Addr, c.slots[j.toNatClampNeg]? = some (.ref b) ∧ Exa Z h b K ∧ Fld Z h b K "value" d (val j)
theorem Box.start {K : String} {val : Int32 → Value} {c : Cell} (F : Bxs Z a c K d z val) : Box Z Z.heap a K d z val := ⟨c, F.1, F.2.1, F.2.2.1, F.2.2.2⟩
theorem Box.keep {K : String} {val : Int32 → Value} (F : Box Z h a K d z val) (Kp : Keep h h' []) : Box Z h' a K d z val := by
  obtain ⟨c, f1, f2, f3, f4⟩ := F
  refine ⟨c, ⟨Kp.2.1 _ _ f1.1 nin0, f1.2⟩, f2, f3, fun j hj => ?_⟩
  obtain ⟨b, q1, q2, q3⟩ := f4 j hj
  exact ⟨b, q1, q2.keep Kp, q3.keep Kp nin0⟩
end OwnFacts
end Jvm.OwnGo
namespace Jvm.OwnGo
open Sem ClassFile Op Lib Jvm.Stand Jvm.Free Jvm.LawKit Jvm.RoadKit Bundle
section OwnGo
variable {Z : State} {a0 : Array Value} {tb : List Jvm.Cond} {p : Program} {l : Launch} {e : Env} {R : Room} {s : State} {m : MethodId} {args : Array Value} {below : List Frame} {meth : Method} {c : Code} {own mname : String} {bytes : ByteArray} {maxL : Nat} {ret : Option FieldType} {n0 : Nat} {Q : Option Value → Heap → List Addr → Prop} {Q2 : Option Value → Heap → Prop} {fs : List Addr} {h : Heap} {k n : Nat} {pc : Nat} {Ls : Array Slot} {St : List Value} {EL : List (String × Nat)}
/-- what is fixed in the walk of one body -/
def Cx (Z : State) (a0 : Array Value) (tb : List Jvm.Cond) (p : Program) (s : State) (m : MethodId) (meth : Method) (c : Code) (own mname : String) (bytes : ByteArray) (maxL : Nat) (ret : Option FieldType) (n0 : Nat) : Prop :=
  p.tables.exec = Jvm.exec ∧ Z.Warmed39 s.vm ∧ s.vm.findClass own = some m.cls ∧ c.code = bytes ∧ c.maxLocals = maxL ∧ meth.sig.returnType = ret ∧ meth.locks = false ∧ (∀ d ∈ tb, d.before a0 Z = true) ∧ meth.name = mname ∧ n0 ≤ s.heap.size
theorem Cx.hx (C : Cx Z a0 tb p s m meth c own mname bytes maxL ret n0) : p.tables.exec = Jvm.exec := C.1
theorem Cx.hZ (C : Cx Z a0 tb p s m meth c own mname bytes maxL ret n0) : Z.Warmed39 s.vm := C.2.1
theorem Cx.hown (C : Cx Z a0 tb p s m meth c own mname bytes maxL ret n0) : s.vm.findClass own = some m.cls := C.2.2.1
theorem Cx.hby (C : Cx Z a0 tb p s m meth c own mname bytes maxL ret n0) : c.code = bytes := C.2.2.2.1
theorem Cx.hml (C : Cx Z a0 tb p s m meth c own mname bytes maxL ret n0) : c.maxLocals = maxL := C.2.2.2.2.1
theorem Cx.hret (C : Cx Z a0 tb p s m meth c own mname bytes maxL ret n0) : meth.sig.returnType = ret := C.2.2.2.2.2.1
theorem Cx.hlk (C : Cx Z a0 tb p s m meth c own mname bytes maxL ret n0) : meth.locks = false := C.2.2.2.2.2.2.1
theorem Cx.hw (C : Cx Z a0 tb p s m meth c own mname bytes maxL ret n0) {d : Jvm.Cond} (hd : d ∈ tb) : d.before a0 Z = true := C.2.2.2.2.2.2.2.1 d hd
theorem Cx.hnm (C : Cx Z a0 tb p s m meth c own mname bytes maxL ret n0) : meth.name = mname := C.2.2.2.2.2.2.2.2.1
theorem Cx.hn0 (C : Cx Z a0 tb p s m meth c own mname bytes maxL ret n0) : n0 ≤ s.heap.size := C.2.2.2.2.2.2.2.2.2
theorem Cx.hownAt (C : Cx Z a0 tb p s m meth c own mname bytes maxL ret n0) {vm0 : Vm} (hZ : Z.Warmed39 vm0) : vm0.findClass own = some m.cls := by
  rw [hZ.alike.findClass, ← C.hZ.alike.findClass]; exact C.hown
/-- what holds of the tables and the heap all along: the literals' invariant, and which new cells may be written -/
def Inv (Z : State) (EL : List (String × Nat)) (s : State) (vm0 : Vm) (n0 : Nat) (fs : List Addr) (h : Heap) : Prop :=
  n0 ≤ h.size ∧ (∀ x ∈ fs, n0 ≤ x ∧ x < h.size ∧ Safe Z EL vm0 h x) ∧ (∃ k0, s.Since vm0 k0 ∧ k0 ≤ h.size) ∧ Z.Warmed39 vm0 ∧ CHv Z EL vm0 h ∧ CHr Z EL s.vm s.heap vm0 h
theorem Inv.hZ {vm0 : Vm} (I : Inv Z EL s vm0 n0 fs h) : Z.Warmed39 vm0 := I.2.2.2.1
theorem Inv.ext {vm0 : Vm} {h' : Heap} (I : Inv Z EL s vm0 n0 fs h) (E : Ext h h') : Inv Z EL s vm0 n0 fs h' := by
  obtain ⟨i1, i2, ⟨k0, i3, i4⟩, i5, i6, i7⟩ := I
  exact ⟨Nat.le_trans i1 E.1, fun x hx => ⟨(i2 x hx).1, Nat.lt_of_lt_of_le (i2 x hx).2.1 E.1, (i2 x hx).2.2.ext E i6⟩, ⟨k0, i3, Nat.le_trans i4 E.1⟩, i5, i6.ext E, i7.trans (CHr.ext E i6)⟩
theorem Inv.new {vm0 : Vm} {h' : Heap} (I : Inv Z EL s vm0 n0 fs h) (E : Ext h h') (q : h.size < h'.size) : Inv Z EL s vm0 n0 (h.size :: fs) h' := by
  have J := I.ext E
  refine ⟨J.1, fun x hx => ?_, J.2.2⟩
  rcases List.mem_cons.mp hx with rfl | hx
  · exact ⟨I.1, q, (Safe.new (Nat.le_refl _)).ext E I.2.2.2.2.1⟩
  · exact J.2.1 x hx
theorem Inv.wr {vm0 : Vm} {h' : Heap} {a : Addr} {sl : Nat} {v : Value} (I : Inv Z EL s vm0 n0 fs h) (W : Wr h h' a sl v) (ha : a ∈ fs) : Inv Z EL s vm0 n0 fs h' := by
  obtain ⟨i1, i2, ⟨k0, i3, i4⟩, i5, i6, i7⟩ := I
  have hs := W.size
  have S := (i2 a ha).2.2
  exact ⟨by omega, fun x hx => ⟨(i2 x hx).1, by rw [hs]; exact (i2 x hx).2.1, Safe.wr W S i6 (i2 x hx).2.2⟩, ⟨k0, i3, by omega⟩, i5, i6.wr W S, i7.trans (CHr.wr W S i6)⟩
theorem Inv.kept {vm0 : Vm} {h' : Heap} {a : Addr} (I : Inv Z EL s vm0 n0 fs h) (K : Keep h h' [a]) (ha : a ∈ fs) : Inv Z EL s vm0 n0 fs h' := by
  obtain ⟨i1, i2, ⟨k0, i3, i4⟩, i5, i6, i7⟩ := I
  have S : ∀ x ∈ [a], Safe Z EL vm0 h x := fun x hx => by cases List.mem_singleton.mp hx; exact (i2 a ha).2.2
  exact ⟨Nat.le_trans i1 K.1, fun x hx => ⟨(i2 x hx).1, Nat.lt_of_lt_of_le (i2 x hx).2.1 K.1, (i2 x hx).2.2.keep K S i6⟩, ⟨k0, i3, Nat.le_trans i4 K.1⟩, i5, i6.keep K S, i7.trans (CHr.keep K S i6)⟩
theorem Inv.ge {vm0 : Vm} {a : Addr} (I : Inv Z EL s vm0 n0 fs h) (ha : a ∈ fs) : n0 ≤ a := (I.2.1 a ha).1
theorem Inv.less {vm0 : Vm} {fs' : List Addr} (I : Inv Z EL s vm0 n0 fs h) (q : ∀ x ∈ fs', x ∈ fs) : Inv Z EL s vm0 n0 fs' h := ⟨I.1, fun x hx => I.2.1 x (q x hx), I.2.2⟩
/-- a body that tells of no new cell that its caller may write -/
def nq (Q : Option Value → Heap → Prop) : Option Value → Heap → List Addr → Prop := fun v h ns => ns = [] ∧ Q v h
/-- from every state that stands at frame f over the heap h, the body ends well -/
def Go (Z : State) (EL : List (String × Nat)) (p : Program) (l : Launch) (e : Env) (R : Room) (s : State) (m : MethodId) (args : Array Value) (below : List Frame) (meth : Method) (c : Code) (n0 : Nat) (Q : Option Value → Heap → List Addr → Prop) (fs : List Addr) (h : Heap) (k n : Nat) (f : JFrame) : Prop :=
  ∀ vm0 T locs, Stand p l e R (s.setVm vm0) m args below meth c T locs k n → T.heap = h → Fr n0 locs → Inv Z EL s vm0 n0 fs h →
    ∃ s₂ o, Steps p.tables e below (T.setTop f) s₂ ∧ s₂.status = .running ∧ Ended s₂ below o ∧ ∃ v L ns, o = .returned v ∧ (Q v s₂.heap ns ∧ Fr n0 L) ∧ (∀ x ∈ ns, n0 ≤ x ∧ x < s₂.heap.size ∧ Safe Z EL s₂.vm s₂.heap x) ∧ CHr Z EL s.vm s.heap s₂.vm s₂.heap ∧ ReturnedEndW s o s₂ L R.cells R.slots
theorem Go.step {f f' : JFrame} (H : ∀ T : State, At T m c below → ∀ t, Steps p.tables e below (T.setTop f') t → Steps p.tables e below (T.setTop f) t) (K : Go Z EL p l e R s m args below meth c n0 Q fs h k n f') : Go Z EL p l e R s m args below meth c n0 Q fs h k n f := by
  intro vm0 T locs X eT N I
  obtain ⟨s2, o, st, r⟩ := K vm0 T locs X eT N I
  exact ⟨s2, o, H T X.here s2 st, r⟩
theorem Go.less {f : JFrame} {fs' : List Addr} (K : Go Z EL p l e R s m args below meth c n0 Q fs' h k n f) (q : ∀ x ∈ fs', x ∈ fs) : Go Z EL p l e R s m args below meth c n0 Q fs h k n f := by
  intro vm0 T locs X eT N I
  exact K vm0 T locs X eT N (I.less q)
theorem Go.size {f : JFrame} (K : n0 ≤ h.size → Go Z EL p l e R s m args below meth c n0 Q fs h k n f) : Go Z EL p l e R s m args below meth c n0 Q fs h k n f := by
  intro vm0 T locs X eT N I
  exact K I.1 vm0 T locs X eT N I
theorem Go.ge {f : JFrame} {a : Addr} (ha : a ∈ fs) (K : n0 ≤ a → Go Z EL p l e R s m args below meth c n0 Q fs h k n f) : Go Z EL p l e R s m args below meth c n0 Q fs h k n f := by
  intro vm0 T locs X eT N I
  exact K (I.ge ha) vm0 T locs X eT N I
theorem g_iload (C : Cx Z a0 tb p s m meth c own mname bytes maxL ret n0) {j : Nat} {z : Int32} (hd : decode bytes pc = .ok (.iload j, 2)) (hl : Ls[j]? = some (.val (.int z))) (K : Go Z EL p l e R s m args below meth c n0 Q fs h k n (mkF m (pc + 2) Ls (.int z :: St))) : Go Z EL p l e R s m args below meth c n0 Q fs h k n (mkF m pc Ls (St)) :=
  Go.step (fun T A t st => XS.iload A C.hx rfl (hb C.hby hd) hl st) K
theorem g_iloadN (C : Cx Z a0 tb p s m meth c own mname bytes maxL ret n0) {j : Fin 4} {z : Int32} (hd : decode bytes pc = .ok (.iload_n j, 1)) (hl : Ls[j.val]? = some (.val (.int z))) (K : Go Z EL p l e R s m args below meth c n0 Q fs h k n (mkF m (pc + 1) Ls (.int z :: St))) : Go Z EL p l e R s m args below meth c n0 Q fs h k n (mkF m pc Ls (St)) :=
  Go.step (fun T A t st => XS.iloadN A C.hx rfl (hb C.hby hd) hl st) K
theorem g_aload (C : Cx Z a0 tb p s m meth c own mname bytes maxL ret n0) {j : Nat} {v : Value} (hd : decode bytes pc = .ok (.aload j, 2)) (hl : Ls[j]? = some (.val v)) (hv : v.isRef = true) (K : Go Z EL p l e R s m args below meth c n0 Q fs h k n (mkF m (pc + 2) Ls (v :: St))) : Go Z EL p l e R s m args below meth c n0 Q fs h k n (mkF m pc Ls (St)) :=
  Go.step (fun T A t st => XS.aload A C.hx rfl (hb C.hby hd) hl hv st) K
theorem g_aloadN (C : Cx Z a0 tb p s m meth c own mname bytes maxL ret n0) {j : Fin 4} {v : Value} (hd : decode bytes pc = .ok (.aload_n j, 1)) (hl : Ls[j.val]? = some (.val v)) (hv : v.isRef = true) (K : Go Z EL p l e R s m args below meth c n0 Q fs h k n (mkF m (pc + 1) Ls (v :: St))) : Go Z EL p l e R s m args below meth c n0 Q fs h k n (mkF m pc Ls (St)) :=
  Go.step (fun T A t st => XS.aloadN A C.hx rfl (hb C.hby hd) hl hv st) K
theorem g_istore (C : Cx Z a0 tb p s m meth c own mname bytes maxL ret n0) {j : Nat} {z : Int32} (l' : Array Slot) (hd : decode bytes pc = .ok (.istore j, 2)) (hl : storeLocals Ls j (.int z) = some l') (K : Go Z EL p l e R s m args below meth c n0 Q fs h k n (mkF m (pc + 2) l' St)) : Go Z EL p l e R s m args below meth c n0 Q fs h k n (mkF m pc Ls (.int z :: St)) :=
  Go.step (fun T A t st => XS.istore A C.hx rfl (hb C.hby hd) rfl hl st) K
theorem g_istoreN (C : Cx Z a0 tb p s m meth c own mname bytes maxL ret n0) {j : Fin 4} {z : Int32} (l' : Array Slot) (hd : decode bytes pc = .ok (.istore_n j, 1)) (hl : storeLocals Ls j.val (.int z) = some l') (K : Go Z EL p l e R s m args below meth c n0 Q fs h k n (mkF m (pc + 1) l' St)) : Go Z EL p l e R s m args below meth c n0 Q fs h k n (mkF m pc Ls (.int z :: St)) :=
  Go.step (fun T A t st => XS.istoreN A C.hx rfl (hb C.hby hd) rfl hl st) K
theorem g_astore (C : Cx Z a0 tb p s m meth c own mname bytes maxL ret n0) {j : Nat} {v : Value} (l' : Array Slot) (hd : decode bytes pc = .ok (.astore j, 2)) (hv : v.isRef = true) (hl : storeLocals Ls j v = some l') (K : Go Z EL p l e R s m args below meth c n0 Q fs h k n (mkF m (pc + 2) l' St)) : Go Z EL p l e R s m args below meth c n0 Q fs h k n (mkF m pc Ls (v :: St)) :=
  Go.step (fun T A t st => XS.astore A C.hx rfl (hb C.hby hd) rfl hv hl st) K
theorem g_iconst (C : Cx Z a0 tb p s m meth c own mname bytes maxL ret n0) {i : Int} (z : Int32) (hd : decode bytes pc = .ok (.iconst i, 1)) (hz : Int32.ofInt i = z) (K : Go Z EL p l e R s m args below meth c n0 Q fs h k n (mkF m (pc + 1) Ls (.int z :: St))) : Go Z EL p l e R s m args below meth c n0 Q fs h k n (mkF m pc Ls (St)) :=
  Go.step (fun T A t st => XS.iconst A C.hx rfl (hb C.hby hd) (hz ▸ st)) K
theorem g_bipush (C : Cx Z a0 tb p s m meth c own mname bytes maxL ret n0) {i : Int} (z : Int32) (hd : decode bytes pc = .ok (.bipush i, 2)) (hz : (Int8.ofInt i).toInt32 = z) (K : Go Z EL p l e R s m args below meth c n0 Q fs h k n (mkF m (pc + 2) Ls (.int z :: St))) : Go Z EL p l e R s m args below meth c n0 Q fs h k n (mkF m pc Ls (St)) :=
  Go.step (fun T A t st => XS.bipush A C.hx rfl (hb C.hby hd) (hz ▸ st)) K
theorem g_sipush (C : Cx Z a0 tb p s m meth c own mname bytes maxL ret n0) {i : Int} (z : Int32) (hd : decode bytes pc = .ok (.sipush i, 3)) (hz : (Int16.ofInt i).toInt32 = z) (K : Go Z EL p l e R s m args below meth c n0 Q fs h k n (mkF m (pc + 3) Ls (.int z :: St))) : Go Z EL p l e R s m args below meth c n0 Q fs h k n (mkF m pc Ls (St)) :=
  Go.step (fun T A t st => XS.sipush A C.hx rfl (hb C.hby hd) (hz ▸ st)) K
theorem g_aconst_null (C : Cx Z a0 tb p s m meth c own mname bytes maxL ret n0)  (hd : decode bytes pc = .ok (.aconst_null, 1))  (K : Go Z EL p l e R s m args below meth c n0 Q fs h k n (mkF m (pc + 1) Ls (.null :: St))) : Go Z EL p l e R s m args below meth c n0 Q fs h k n (mkF m pc Ls (St)) :=
  Go.step (fun T A t st => XS.aconstNull A C.hx rfl (hb C.hby hd) st) K
theorem g_iadd (C : Cx Z a0 tb p s m meth c own mname bytes maxL ret n0) {x y : Int32} (hd : decode bytes pc = .ok (.iadd, 1))  (K : Go Z EL p l e R s m args below meth c n0 Q fs h k n (mkF m (pc + 1) Ls (.int (x + y) :: St))) : Go Z EL p l e R s m args below meth c n0 Q fs h k n (mkF m pc Ls (.int y :: .int x :: St)) :=
  Go.step (fun T A t st => XS.iadd A C.hx rfl (hb C.hby hd) rfl st) K
theorem g_isub (C : Cx Z a0 tb p s m meth c own mname bytes maxL ret n0) {x y : Int32} (hd : decode bytes pc = .ok (.isub, 1))  (K : Go Z EL p l e R s m args below meth c n0 Q fs h k n (mkF m (pc + 1) Ls (.int (x - y) :: St))) : Go Z EL p l e R s m args below meth c n0 Q fs h k n (mkF m pc Ls (.int y :: .int x :: St)) :=
  Go.step (fun T A t st => XS.isub A C.hx rfl (hb C.hby hd) rfl st) K
theorem g_iand (C : Cx Z a0 tb p s m meth c own mname bytes maxL ret n0) {x y : Int32} (hd : decode bytes pc = .ok (.iand, 1))  (K : Go Z EL p l e R s m args below meth c n0 Q fs h k n (mkF m (pc + 1) Ls (.int (x &&& y) :: St))) : Go Z EL p l e R s m args below meth c n0 Q fs h k n (mkF m pc Ls (.int y :: .int x :: St)) :=
  Go.step (fun T A t st => XS.iand A C.hx rfl (hb C.hby hd) rfl st) K
theorem g_iushr (C : Cx Z a0 tb p s m meth c own mname bytes maxL ret n0) {x y : Int32} (hd : decode bytes pc = .ok (.iushr, 1))  (K : Go Z EL p l e R s m args below meth c n0 Q fs h k n (mkF m (pc + 1) Ls (.int ((x.toUInt32 >>> (y &&& 31).toUInt32).toInt32) :: St))) : Go Z EL p l e R s m args below meth c n0 Q fs h k n (mkF m pc Ls (.int y :: .int x :: St)) :=
  Go.step (fun T A t st => XS.iushr A C.hx rfl (hb C.hby hd) rfl st) K
theorem g_i2c (C : Cx Z a0 tb p s m meth c own mname bytes maxL ret n0) {x : Int32} (hd : decode bytes pc = .ok (.i2c, 1))  (K : Go Z EL p l e R s m args below meth c n0 Q fs h k n (mkF m (pc + 1) Ls (.int (x.toUInt32.toUInt16.toUInt32.toInt32) :: St))) : Go Z EL p l e R s m args below meth c n0 Q fs h k n (mkF m pc Ls (.int x :: St)) :=
  Go.step (fun T A t st => XS.i2c A C.hx rfl (hb C.hby hd) rfl st) K
theorem g_irem (C : Cx Z a0 tb p s m meth c own mname bytes maxL ret n0) {x y : Int32} (hd : decode bytes pc = .ok (.irem, 1)) (hy : y ≠ 0) (K : Go Z EL p l e R s m args below meth c n0 Q fs h k n (mkF m (pc + 1) Ls (.int (x % y) :: St))) : Go Z EL p l e R s m args below meth c n0 Q fs h k n (mkF m pc Ls (.int y :: .int x :: St)) :=
  Go.step (fun T A t st => XS.irem A C.hx rfl (hb C.hby hd) rfl hy (by rw [irem_eq_mod]; exact st)) K
theorem g_dup (C : Cx Z a0 tb p s m meth c own mname bytes maxL ret n0) {v : Value} (hd : decode bytes pc = .ok (.dup, 1)) (hc : v.category = 1) (K : Go Z EL p l e R s m args below meth c n0 Q fs h k n (mkF m (pc + 1) Ls (v :: v :: St))) : Go Z EL p l e R s m args below meth c n0 Q fs h k n (mkF m pc Ls (v :: St)) :=
  Go.step (fun T A t st => XS.dup A C.hx rfl (hb C.hby hd) rfl hc st) K
theorem g_pop (C : Cx Z a0 tb p s m meth c own mname bytes maxL ret n0) {v : Value} (hd : decode bytes pc = .ok (.pop, 1)) (hc : v.category = 1) (K : Go Z EL p l e R s m args below meth c n0 Q fs h k n (mkF m (pc + 1) Ls St)) : Go Z EL p l e R s m args below meth c n0 Q fs h k n (mkF m pc Ls (v :: St)) :=
  Go.step (fun T A t st => XS.pop A C.hx rfl (hb C.hby hd) rfl hc st) K
theorem g_iinc (C : Cx Z a0 tb p s m meth c own mname bytes maxL ret n0) {j : Nat} {i : Int} {z : Int32} (w : Int32) (l' : Array Slot) (hd : decode bytes pc = .ok (.iinc j i, 3)) (hz : Int32.ofInt i = w) (hl : Ls[j]? = some (.val (.int z))) (hl' : storeLocals Ls j (.int (z + w)) = some l') (K : Go Z EL p l e R s m args below meth c n0 Q fs h k n (mkF m (pc + 3) l' St)) : Go Z EL p l e R s m args below meth c n0 Q fs h k n (mkF m pc Ls (St)) :=
  Go.step (fun T A t st => XS.iinc A C.hx rfl (hb C.hby hd) hl (hz ▸ hl') st) K
theorem g_goto (C : Cx Z a0 tb p s m meth c own mname bytes maxL ret n0)  {o : Int} (pc' : Nat) (hd : decode bytes pc = .ok (.goto o, 3))  (ho : 0 ≤ (pc : Int) + o) (hp : ((pc : Int) + o).toNat = pc') (K : Go Z EL p l e R s m args below meth c n0 Q fs h k n (mkF m pc' Ls St)) : Go Z EL p l e R s m args below meth c n0 Q fs h k n (mkF m pc Ls (St)) :=
  Go.step (fun T A t st => XS.goto A C.hx rfl rfl (hb C.hby hd) ho hp st) K
theorem g_if_t (C : Cx Z a0 tb p s m meth c own mname bytes maxL ret n0) {cd : ClassFile.Cond} {x : Int32} {o : Int} (pc' : Nat) (hd : decode bytes pc = .ok (.ifCond cd o, 3)) (hc : ifCond.holds cd x = true) (ho : 0 ≤ (pc : Int) + o) (hp : ((pc : Int) + o).toNat = pc') (K : Go Z EL p l e R s m args below meth c n0 Q fs h k n (mkF m pc' Ls St)) : Go Z EL p l e R s m args below meth c n0 Q fs h k n (mkF m pc Ls (.int x :: St)) :=
  Go.step (fun T A t st => XS.ifYes A C.hx rfl rfl (hb C.hby hd) rfl hc ho hp st) K
theorem g_icmp_t (C : Cx Z a0 tb p s m meth c own mname bytes maxL ret n0) {cd : ClassFile.Cond} {x y : Int32} {o : Int} (pc' : Nat) (hd : decode bytes pc = .ok (.if_icmp cd o, 3)) (hc : if_icmp.holds cd x y = true) (ho : 0 ≤ (pc : Int) + o) (hp : ((pc : Int) + o).toNat = pc') (K : Go Z EL p l e R s m args below meth c n0 Q fs h k n (mkF m pc' Ls St)) : Go Z EL p l e R s m args below meth c n0 Q fs h k n (mkF m pc Ls (.int y :: .int x :: St)) :=
  Go.step (fun T A t st => XS.icmpYes A C.hx rfl rfl (hb C.hby hd) rfl hc ho hp st) K
theorem g_if_f (C : Cx Z a0 tb p s m meth c own mname bytes maxL ret n0) {cd : ClassFile.Cond} {x : Int32} {o : Int} (hd : decode bytes pc = .ok (.ifCond cd o, 3)) (hc : ifCond.holds cd x = false) (K : Go Z EL p l e R s m args below meth c n0 Q fs h k n (mkF m (pc + 3) Ls St)) : Go Z EL p l e R s m args below meth c n0 Q fs h k n (mkF m pc Ls (.int x :: St)) :=
  Go.step (fun T A t st => XS.ifNo A C.hx rfl (hb C.hby hd) rfl hc st) K
theorem g_icmp_f (C : Cx Z a0 tb p s m meth c own mname bytes maxL ret n0) {cd : ClassFile.Cond} {x y : Int32} {o : Int} (hd : decode bytes pc = .ok (.if_icmp cd o, 3)) (hc : if_icmp.holds cd x y = false) (K : Go Z EL p l e R s m args below meth c n0 Q fs h k n (mkF m (pc + 3) Ls St)) : Go Z EL p l e R s m args below meth c n0 Q fs h k n (mkF m pc Ls (.int y :: .int x :: St)) :=
  Go.step (fun T A t st => XS.icmpNo A C.hx rfl (hb C.hby hd) rfl hc st) K
theorem g_ifnull_f (C : Cx Z a0 tb p s m meth c own mname bytes maxL ret n0) {b : Addr} {o : Int} (hd : decode bytes pc = .ok (.ifnull o, 3))  (K : Go Z EL p l e R s m args below meth c n0 Q fs h k n (mkF m (pc + 3) Ls St)) : Go Z EL p l e R s m args below meth c n0 Q fs h k n (mkF m pc Ls (.ref b :: St)) :=
  Go.step (fun T A t st => XS.ifnullNo A C.hx rfl (hb C.hby hd) rfl st) K
theorem g_ldcI (C : Cx Z a0 tb p s m meth c own mname bytes maxL ret n0) {index : Nat} {z : Int32} (w : Jvm.Cond.constant own index z ∈ tb) (hd : decode bytes pc = .ok (.ldc index, 2)) (K : Go Z EL p l e R s m args below meth c n0 Q fs h k n (mkF m (pc + 2) Ls (.int z :: St))) : Go Z EL p l e R s m args below meth c n0 Q fs h k n (mkF m pc Ls St) := by
  intro vm0 T locs X eT N I
  have hZ : Z.Warmed39 (s.setVm vm0).vm := I.hZ
  have hown : (s.setVm vm0).vm.findClass own = some m.cls := C.hownAt I.hZ
  obtain ⟨s2, o, st, r⟩ := K vm0 T locs X eT N I
  exact ⟨s2, o, X.ldcInt C.hx hown (mvT hZ (C.hw w)) (g := mkF m pc Ls St) rfl (hb C.hby hd) s2 st, r⟩
theorem g_new (C : Cx Z a0 tb p s m meth c own mname bytes maxL ret n0) {index ns : Nat} {Cn : String} (w : Jvm.Cond.classLink own index Cn ∈ tb) (wi : Jvm.Cond.instantiable Cn ns ∈ tb) (wz : Jvm.Cond.initialized Cn ∈ tb) (hd : decode bytes pc = .ok (.new index, 3)) (hc : k + 1 ≤ R.cells) (hl : n + ns ≤ R.slots)
    (K : ∀ a h', a = h.size → Ext h h' → Exa Z h' a Cn → (∀ {O nm d : String} {ty : FieldType}, Laid Z a0 Cn O nm d → parseFieldDescriptor d = some ty → Fld Z h' a O nm d (defaultValue ty)) → Go Z EL p l e R s m args below meth c n0 Q (a :: fs) h' (k + 1) (n + ns) (mkF m (pc + 3) Ls (.ref a :: St))) : Go Z EL p l e R s m args below meth c n0 Q fs h k n (mkF m pc Ls St) := by
  intro vm0 T locs X eT N I
  have hZ : Z.Warmed39 (s.setVm vm0).vm := I.hZ
  have hown : (s.setVm vm0).vm.findClass own = some m.cls := C.hownAt I.hZ
  obtain ⟨T', h', X', e', E', A', D', -, st⟩ := newO X C.hx hZ hown (C.hw w) (C.hw wi) (C.hw wz) eT (g := mkF m pc Ls St) rfl (hb C.hby hd) hc hl
  obtain ⟨s2, o, st2, r⟩ := K h.size h' rfl E' A' D' vm0 T' locs X' e' N (I.new E' A'.lt)
  exact ⟨s2, o, st _ st2, r⟩
theorem g_newarray (C : Cx Z a0 tb p s m meth c own mname bytes maxL ret n0) {aty : ArrayType} {z : Int32} (w : Jvm.Cond.arrayClass (newarray.typeOf aty) ∈ tb) (hd : decode bytes pc = .ok (.newarray aty, 2)) (hz : ¬ z < 0) (cap : Nat) (hcap : z.toNatClampNeg ≤ cap) (hbig : cap * 8 ≤ 536870912) (hc : k + 1 ≤ R.cells) (hl : n + cap ≤ R.slots) (ad : String) (had : "[" ++ (newarray.typeOf aty).toString = ad)
    (K : ∀ a h' ka, a = h.size → Ext h h' → Arv Z h' a ka (newarray.typeOf aty) z [] (defaultValue (newarray.typeOf aty)) → Exa Z h' a ad → Go Z EL p l e R s m args below meth c n0 Q (a :: fs) h' (k + 1) (n + cap) (mkF m (pc + 2) Ls (.ref a :: St))) : Go Z EL p l e R s m args below meth c n0 Q fs h k n (mkF m pc Ls (.int z :: St)) := by
  intro vm0 T locs X eT N I
  have hZ : Z.Warmed39 (s.setVm vm0).vm := I.hZ
  have hown : (s.setVm vm0).vm.findClass own = some m.cls := C.hownAt I.hZ
  obtain ⟨T', h', ka, X', e', E', A', Ex', st⟩ := newPE X C.hx hZ (C.hw w) eT (g := mkF m pc Ls (.int z :: St)) rfl (hb C.hby hd) rfl hz hcap hbig hc hl had
  obtain ⟨s2, o, st2, r⟩ := K h.size h' ka rfl E' (Arv.new A' hz) Ex' vm0 T' locs X' e' N (I.new E' A'.lt)
  exact ⟨s2, o, st _ st2, r⟩
theorem g_castore (C : Cx Z a0 tb p s m meth c own mname bytes maxL ret n0) {a : Addr} {ka : ClassId} {z j : Int32} {x : Int32} {vs : List Value} {dv : Value} (F : Arv Z h a ka .char z vs dv) (ha : a ∈ fs) (hd : decode bytes pc = .ok (.castore, 1)) (hj : ¬ j < 0 ∧ j < z) (i : Nat) (hi : j.toNatClampNeg = i) (hl : i < vs.length)
    (K : ∀ h', Wr h h' a j.toNatClampNeg (.int (nar .char x)) → Arv Z h' a ka .char z (vs.set i (.int (nar .char x))) dv → Go Z EL p l e R s m args below meth c n0 Q fs h' k n (mkF m (pc + 1) Ls St)) : Go Z EL p l e R s m args below meth c n0 Q fs h k n (mkF m pc Ls (.int x :: .int j :: .ref a :: St)) := by
  intro vm0 T locs X eT N I
  have hZ : Z.Warmed39 (s.setVm vm0).vm := I.hZ
  have hown : (s.setVm vm0).vm.findClass own = some m.cls := C.hownAt I.hZ
  obtain ⟨cl, A, q, S, Nn, H, G⟩ := F
  obtain ⟨T', h', X', e', W', st⟩ := stC X C.hx hZ eT A (j := j) (inb_of S hj) (g := mkF m pc Ls (.int x :: .int j :: .ref a :: St)) rfl rfl (hb C.hby hd)
  obtain ⟨s2, o, st2, r⟩ := K h' W' (Arv.set A q S Nn H G (fits_nar_char x) W' i hi hl) vm0 T' _ X' e' (Fr.snoc X' N (I.ge ha)) (I.wr W' ha)
  exact ⟨s2, o, st _ st2, r⟩
theorem g_caload (C : Cx Z a0 tb p s m meth c own mname bytes maxL ret n0) {a : Addr} {ka : ClassId} {z j : Int32} {vs : List Value} {dv v : Value} (F : Arv Z h a ka .char z vs dv) (hd : decode bytes pc = .ok (.caload, 1)) (hj : ¬ j < 0 ∧ j < z) (hv : vs.getD j.toNatClampNeg dv = v)
    (K : Go Z EL p l e R s m args below meth c n0 Q fs h k n (mkF m (pc + 1) Ls (v :: St))) : Go Z EL p l e R s m args below meth c n0 Q fs h k n (mkF m pc Ls (.int j :: .ref a :: St)) := by
  intro vm0 T locs X eT N I
  have hZ : Z.Warmed39 (s.setVm vm0).vm := I.hZ
  have hown : (s.setVm vm0).vm.findClass own = some m.cls := C.hownAt I.hZ
  obtain ⟨cl, A, q, S, Nn, H, G⟩ := F
  obtain ⟨s2, o, st2, r⟩ := K vm0 T locs X eT N I
  exact ⟨s2, o, X.caload C.hx (j := j) (v := v) (by rw [eT]; exact A.1) (State.isArrayOf_alike hZ.alike A.2.1) A.2.2 (inb_of S hj) (H.at (inb_of S hj) hv) (g := mkF m pc Ls (.int j :: .ref a :: St)) rfl rfl (hb C.hby hd) _ st2, r⟩
theorem g_arraylength (C : Cx Z a0 tb p s m meth c own mname bytes maxL ret n0) {a : Addr} {ka : ClassId} {ty : FieldType} {z : Int32} {vs : List Value} {dv : Value} (F : Arv Z h a ka ty z vs dv) (hd : decode bytes pc = .ok (.arraylength, 1))
    (K : Go Z EL p l e R s m args below meth c n0 Q fs h k n (mkF m (pc + 1) Ls (.int z :: St))) : Go Z EL p l e R s m args below meth c n0 Q fs h k n (mkF m pc Ls (.ref a :: St)) := by
  intro vm0 T locs X eT N I
  have hZ : Z.Warmed39 (s.setVm vm0).vm := I.hZ
  have hown : (s.setVm vm0).vm.findClass own = some m.cls := C.hownAt I.hZ
  obtain ⟨cl, A, q, S, Nn, H, G⟩ := F
  obtain ⟨s2, o, st2, r⟩ := K vm0 T locs X eT N I
  refine ⟨s2, o, X.arraylength C.hx (by rw [eT]; exact A.1) (State.isArrayOf_alike hZ.alike A.2.1) (g := mkF m pc Ls (.ref a :: St)) rfl rfl (hb C.hby hd) _ ?_, r⟩
  rw [len_of S Nn]; exact st2
theorem g_arraycopy (C : Cx Z a0 tb p s m meth c own mname bytes maxL ret n0) {index : Nat} {a b : Addr} {ka kb : ClassId} {ty : FieldType} {z z' sp dp nn : Int32} {vs vd : List Value} {dv dd : Value} (w1 : Jvm.Cond.methodLink own index Jvm.Stand.acN ∈ tb) (w2 : Jvm.Cond.native Jvm.Stand.acN ∈ tb) (w3 : Jvm.Cond.static Jvm.Stand.acN ∈ tb) (w4 : Jvm.Cond.initialized "java/lang/System" ∈ tb)
    (A : Arv Z h a ka ty z vs dv) (B : Arv Z h b kb ty z' vd dd) (hty : refKind ty = false) (h1 : ¬ sp < 0) (h2 : ¬ dp < 0) (h3 : ¬ nn < 0) (h4 : sp.toNatClampNeg + nn.toNatClampNeg ≤ z.toNatClampNeg) (h5 : dp.toNatClampNeg + nn.toNatClampNeg ≤ z'.toNatClampNeg) (us : List Value) (hus : us = (List.range nn.toNatClampNeg).map fun i => vs.getD (sp.toNatClampNeg + i) dv) (hlv : dp.toNatClampNeg + nn.toNatClampNeg ≤ vd.length)
    (hb' : b ∈ fs) (hsz : Ls.size = maxL) (hd : decode bytes pc = .ok (.invokestatic index, 3)) (hf : 1 ≤ R.frames) (W : Nat) (hW : (St.map fun v => v.category).sum ≤ W) (hlo : W + (nativeFrameWords "java/lang/System" "arraycopy" 5 + 11) ≤ R.locals)
    (K : ∀ h', Keep h h' [b] → Arv Z h' b kb ty z' (vd.take dp.toNatClampNeg ++ us ++ vd.drop (dp.toNatClampNeg + nn.toNatClampNeg)) dd → Go Z EL p l e R s m args below meth c n0 Q fs h' k n (mkF m (pc + 3) Ls St)) : Go Z EL p l e R s m args below meth c n0 Q fs h k n (mkF m pc Ls (.int nn :: .int dp :: .ref b :: .int sp :: .ref a :: St)) := by
  intro vm0 T locs X eT N I
  have hZ : Z.Warmed39 (s.setVm vm0).vm := I.hZ
  have hown : (s.setVm vm0).vm.findClass own = some m.cls := C.hownAt I.hZ
  obtain ⟨T', h', L, X', e', N', K', V', st⟩ := cpA X C.hx hZ hown (C.hw w1) (C.hw w2) (C.hw w3) (C.hw w4) eT A B (Or.inl ⟨rfl, hty⟩) h1 h2 h3 h4 h5 hus hlv N (I.ge hb') (g := mkF m pc Ls (.int nn :: .int dp :: .ref b :: .int sp :: .ref a :: St)) rfl (hsz.trans C.hml.symm) rfl (hb C.hby hd) hf (W := W) (by show 2 * 0 + _ ≤ _; omega) hlo
  obtain ⟨s2, o, st2, r⟩ := K h' K' V' vm0 T' L X' e' N' (I.kept K' hb')
  exact ⟨s2, o, st _ st2, r⟩
theorem g_getfield (C : Cx Z a0 tb p s m meth c own mname bytes maxL ret n0) {index : Nat} {R0 O nm d : String} {a : Addr} {v : Value} (w : Jvm.Cond.fieldLink own index R0 nm d ∈ tb) (via : Via Z R0 O nm d) (F : Fld Z h a O nm d v) (hd : decode bytes pc = .ok (.getfield index, 3))
    (K : Go Z EL p l e R s m args below meth c n0 Q fs h k n (mkF m (pc + 3) Ls (v :: St))) : Go Z EL p l e R s m args below meth c n0 Q fs h k n (mkF m pc Ls (.ref a :: St)) := by
  intro vm0 T locs X eT N I
  have hZ : Z.Warmed39 (s.setVm vm0).vm := I.hZ
  have hown : (s.setVm vm0).vm.findClass own = some m.cls := C.hownAt I.hZ
  obtain ⟨T', X', e', st⟩ := getF X C.hx hZ hown (host := "") (Or.inl (C.hw w)) via eT F (g := mkF m pc Ls (.ref a :: St)) rfl rfl (hb C.hby hd)
  obtain ⟨s2, o, st2, r⟩ := K vm0 T' locs X' e' N I
  exact ⟨s2, o, st _ st2, r⟩
theorem g_putfield (C : Cx Z a0 tb p s m meth c own mname bytes maxL ret n0) {index kk : Nat} {R0 O nm d Cn : String} {a : Addr} {v old : Value} (ty : FieldType) (w : Jvm.Cond.fieldLink own index R0 nm d ∈ tb) (via : Via Z R0 O nm d) (F : Fld Z h a O nm d old) (E : Exa Z h a Cn) (hl : Jvm.Cond.lays Cn O nm d ∈ tb ∨ (Jvm.Cond.laysFinal Cn O nm d ∈ tb ∧ own = O ∧ mname = "<init>")) (wi : Jvm.Cond.instantiable Cn kk ∈ tb)
    (hty : parseFieldDescriptor d = some ty) (hn : narrow ty v = v) (hf : fits ty v = true) (ha : a ∈ fs) (hd : decode bytes pc = .ok (.putfield index, 3))
    (K : ∀ h', Wr h h' a (Jvm.RoadKit.slotOf Z O nm d) v → Fld Z h' a O nm d v → Go Z EL p l e R s m args below meth c n0 Q fs h' k n (mkF m (pc + 3) Ls St)) : Go Z EL p l e R s m args below meth c n0 Q fs h k n (mkF m pc Ls (v :: .ref a :: St)) := by
  intro vm0 T locs X eT N I
  have hZ : Z.Warmed39 (s.setVm vm0).vm := I.hZ
  have hown : (s.setVm vm0).vm.findClass own = some m.cls := C.hownAt I.hZ
  obtain ⟨T', h', X', e', W', st⟩ := putF X C.hx hZ hown (host := "") (Or.inl (C.hw w)) via eT F E (hl.imp (fun q => C.hw q) (fun q => ⟨C.hw q.1, q.2.1, C.hnm.trans q.2.2⟩)) (C.hw wi) (ty := ty) hty hn hf (g := mkF m pc Ls (v :: .ref a :: St)) rfl rfl (hb C.hby hd)
  obtain ⟨s2, o, st2, r⟩ := K h' W' (F.same W') vm0 T' _ X' e' (Fr.snoc X' N (I.ge ha)) (I.wr W' ha)
  exact ⟨s2, o, st _ st2, r⟩
theorem g_putfieldZ (C : Cx Z a0 tb p s m meth c own mname bytes maxL ret n0) {index kk : Nat} {R0 O nm d Cn : String} {a : Addr} {x : Int32} {old : Value} (ty : FieldType) (v' : Value) (w : Jvm.Cond.fieldLink own index R0 nm d ∈ tb) (via : Via Z R0 O nm d) (F : Fld Z h a O nm d old) (E : Exa Z h a Cn) (hl : Jvm.Cond.lays Cn O nm d ∈ tb ∨ (Jvm.Cond.laysFinal Cn O nm d ∈ tb ∧ own = O ∧ mname = "<init>")) (wi : Jvm.Cond.instantiable Cn kk ∈ tb)
    (hty : parseFieldDescriptor d = some ty) (hn : narrow ty (.int x) = v') (hf : fits ty v' = true) (ha : a ∈ fs) (hd : decode bytes pc = .ok (.putfield index, 3))
    (K : ∀ h', Wr h h' a (Jvm.RoadKit.slotOf Z O nm d) v' → Fld Z h' a O nm d v' → Go Z EL p l e R s m args below meth c n0 Q fs h' k n (mkF m (pc + 3) Ls St)) : Go Z EL p l e R s m args below meth c n0 Q fs h k n (mkF m pc Ls (.int x :: .ref a :: St)) := by
  intro vm0 T locs X eT N I
  have hZ : Z.Warmed39 (s.setVm vm0).vm := I.hZ
  have hown : (s.setVm vm0).vm.findClass own = some m.cls := C.hownAt I.hZ
  obtain ⟨T', h', X', e', W', st⟩ := putFN X C.hx hZ hown (C.hw w) via eT F E (hl.imp (fun q => C.hw q) (fun q => ⟨C.hw q.1, q.2.1, C.hnm.trans q.2.2⟩)) (C.hw wi) (ty := ty) (v' := v') hty hn hf (g := mkF m pc Ls (.int x :: .ref a :: St)) rfl rfl (hb C.hby hd)
  obtain ⟨s2, o, st2, r⟩ := K h' W' (F.same W') vm0 T' _ X' e' (Fr.snoc X' N (I.ge ha)) (I.wr W' ha)
  exact ⟨s2, o, st _ st2, r⟩
theorem g_getstatic (C : Cx Z a0 tb p s m meth c own mname bytes maxL ret n0) {index : Nat} {R0 O nm d : String} {v : Value} (w : Jvm.Cond.fieldLink own index R0 nm d ∈ tb) (via : Via Z R0 O nm d) (F : Sta Z h O nm d v) (hd : decode bytes pc = .ok (.getstatic index, 3))
    (K : Go Z EL p l e R s m args below meth c n0 Q fs h k n (mkF m (pc + 3) Ls (v :: St))) : Go Z EL p l e R s m args below meth c n0 Q fs h k n (mkF m pc Ls St) := by
  intro vm0 T locs X eT N I
  have hZ : Z.Warmed39 (s.setVm vm0).vm := I.hZ
  have hown : (s.setVm vm0).vm.findClass own = some m.cls := C.hownAt I.hZ
  obtain ⟨T', X', e', st⟩ := getS2 X C.hx hZ hown (host := "") (Or.inl (C.hw w)) via eT F (g := mkF m pc Ls St) rfl (hb C.hby hd)
  obtain ⟨s2, o, st2, r⟩ := K vm0 T' locs X' e' N I
  exact ⟨s2, o, st _ st2, r⟩
theorem g_initO (C : Cx Z a0 tb p s m meth c own mname bytes maxL ret n0) {index : Nat} {a : Addr} (w1 : Jvm.Cond.methodLink own index Lib.objectInit ∈ tb) (w2 : Jvm.Cond.instanceMethod Lib.objectInit ∈ tb) (w3 : Jvm.Cond.code Lib.objectInit ⟨#[0xb1]⟩ 1 none ∈ tb) (hsz : Ls.size = maxL) (hd : decode bytes pc = .ok (.invokespecial index, 3)) (hf : 1 ≤ R.frames) (W : Nat) (hW : (St.map fun v => v.category).sum ≤ W) (hl : W + 12 ≤ R.locals)
    (K : Go Z EL p l e R s m args below meth c n0 Q fs h k n (mkF m (pc + 3) Ls St)) : Go Z EL p l e R s m args below meth c n0 Q fs h k n (mkF m pc Ls (.ref a :: St)) := by
  intro vm0 T locs X eT N I
  have hZ : Z.Warmed39 (s.setVm vm0).vm := I.hZ
  have hown : (s.setVm vm0).vm.findClass own = some m.cls := C.hownAt I.hZ
  obtain ⟨T', X', e', st⟩ := initO X C.hx hZ hown (C.hw w1) (C.hw w2) (C.hw w3) eT (g := mkF m pc Ls (.ref a :: St)) rfl (hsz.trans C.hml.symm) rfl (hb C.hby hd) hf (W := W) (by show 2 * 0 + _ ≤ _; omega) hl
  obtain ⟨s2, o, st2, r⟩ := K vm0 T' locs X' e' N I
  exact ⟨s2, o, st _ st2, r⟩
theorem own_end {vm0 : Vm} {k0 : Nat} {v : Option Value} {T : State} {ff : List Frame} {L : List Loc} {kc kn : Nat} (hS : s.Since vm0 k0) (hk0 : k0 ≤ T.heap.size) (hW : (s.setVm vm0).WarmedH (T.setFrames ff).vm) (hs : (s.setVm vm0).sameButNew ({ T.setFrames ff with vm := (s.setVm vm0).vm } : State) L kc kn) : ReturnedEndW s (.returned v) (T.setFrames ff) L kc kn := by
  have q := hS.trans (hW.since (T.setFrames ff).heap.size) hk0
  exact ⟨⟨_, rfl⟩, q.1, q.2, hs.setVm s.vm⟩
theorem g_ldcS (C : Cx Z a0 tb p s m meth c own mname bytes maxL ret n0) (hEL : EW Z a0 EL) {index : Nat} {text : String} (w : Jvm.Cond.stringLink own index text ∈ tb) (wS : ∀ a ∈ Bundle.stringAtoms, a ∈ tb) (hmem : (own, index) ∈ EL) (cs : List Int32) (ht : (∀ c ∈ text.toList, c.toNat < 256) ∧ text.toList.map (fun c => Value.int (Jvm.Lit.byteI c.toNat.toUInt16)) = (cs.map fun c => c.toInt8.toInt32).map Value.int) (hcs : cs.length ≤ 4000) (hb8 : ∀ c ∈ cs, ¬ c < 0 ∧ ¬ (255 : Int32) < c)
    (hd : decode bytes pc = .ok (.ldc index, 2)) (nn : Nat) (hn : 4 * text.toList.length ≤ nn) (hbig : nn ≤ 536870912) (hc : k + 2 ≤ R.cells) (hl : n + (nn + 4) ≤ R.slots)
    (K : ∀ a b kb h', Ext h h' → Str Z h' a b kb cs → (∀ x ∈ fs, x ≠ a ∧ x ≠ b) → Go Z EL p l e R s m args below meth c n0 Q fs h' (k + 2) (n + (nn + 4)) (mkF m (pc + 2) Ls (.ref a :: St))) : Go Z EL p l e R s m args below meth c n0 Q fs h k n (mkF m pc Ls St) := by
  intro vm0 T locs X eT N I
  have hZ : Z.Warmed39 (s.setVm vm0).vm := I.hZ
  have hown : (s.setVm vm0).vm.findClass own = some m.cls := C.hownAt I.hZ
  obtain ⟨k0, hS, hk0⟩ := I.2.2.1
  have e31 : (Int32.ofNat cs.length).toInt = cs.length := Int32.toInt_ofNat_of_lt (by omega)
  have hz : ¬ Int32.ofNat cs.length < 0 := by
    rw [Int32.lt_iff_toInt_lt, e31]; show ¬ (cs.length : Int) < 0; omega
  have hlen : (Int32.ofNat cs.length).toNatClampNeg = ((cs.map fun c => c.toInt8.toInt32).map Value.int).length := by
    rw [Int32.toNatClampNeg, e31]; simp
  obtain ⟨a, T', h', k1, b, kb, X', e', E', hS', hk1, hZ', hown', s1, s2, s3, s4, s5, s6, hC, hL, hne, st⟩ := ldcCH X C.hx hZ hown (C.hw w) (fun a ha => C.hw (wS a ha)) eT hS hk0 hEL hmem I.2.2.2.2.1 ht hz hlen (g := mkF m pc Ls St) rfl (hb C.hby hd) hn hbig hc hl
  have I' : Inv Z EL s T'.vm n0 fs h' := ⟨Nat.le_trans I.1 hC.2.1, fun x hx => ⟨(I.2.1 x hx).1, Nat.lt_of_lt_of_le (I.2.1 x hx).2.1 hC.2.1, hC.safe (I.2.1 x hx).2.1 (I.2.1 x hx).2.2⟩, ⟨k1, hS', hk1⟩, hZ', hC.1, I.2.2.2.2.2.trans hC⟩
  obtain ⟨s2', o, st2, r⟩ := K a b kb h' E' ⟨s1, s2, s3, s4, hcs, hb8⟩ (fun x hx => hne x (I'.2.1 x hx).2.2) T'.vm T' locs X' e' N I'
  exact ⟨s2', o, st _ st2, r⟩
theorem own_narref {t : FieldType} {v : Value} (ht : t.isReference = true) (hv : v.isRef = true) : narrow t v = v := by
  rcases ref_cases hv with rfl | ⟨b, rfl⟩ <;> cases t <;> first | rfl | (cases ht)
theorem g_returnX (C : Cx Z a0 tb p s m meth c own mname bytes maxL ret n0) (hEL : EW Z a0 EL)  (ns : List Addr) (hns : ∀ x ∈ ns, x ∈ fs) (hret : ret = none) (hd : decode bytes pc = .ok (.return_, 1)) (hk : k ≤ R.cells) (hn : n ≤ R.slots) (hQ : Q (none) h ns) : Go Z EL p l e R s m args below meth c n0 Q fs h k n (mkF m pc Ls ([])) := by
  intro vm0 T locs X eT N I
  have hZ : Z.Warmed39 (s.setVm vm0).vm := I.hZ
  have hown : (s.setVm vm0).vm.findClass own = some m.cls := C.hownAt I.hZ
  obtain ⟨ff, hr, hrun, hended, hW, hsame⟩ := X.leave (v := none) (fun _ => rfl) C.hlk
  refine ⟨_, _, X.returnOut C.hx (C.hret.trans hret) (hb C.hby hd) hr, hrun, hended, _, _, ns, rfl, ⟨by rw [show (T.setFrames ff).heap = T.heap from rfl, eT]; exact hQ, N⟩, ?_, ?_, ?_⟩
  · intro y hy
    have J := CHv.at X I.hZ hEL I.2.2.2.2.1
    have q := I.2.1 y (hns y hy)
    rw [show (T.setFrames ff).heap = h from eT]
    exact ⟨q.1, q.2.1, J.safe q.2.1 q.2.2⟩
  · exact (by rw [show (T.setFrames ff).heap = h from eT]; exact (show CHr Z EL s.vm s.heap T.vm h from I.2.2.2.2.2.trans (CHv.at X I.hZ hEL I.2.2.2.2.1)))
  · obtain ⟨k0, hS, hk0⟩ := I.2.2.1
    exact own_end hS (by rw [← eT] at hk0; exact hk0) hW (hsame.mono hk hn)
theorem g_return (C : Cx Z a0 tb p s m meth c own mname bytes maxL ret n0) (hEL : EW Z a0 EL)  (hret : ret = none) (hd : decode bytes pc = .ok (.return_, 1)) (hk : k ≤ R.cells) (hn : n ≤ R.slots) (hQ : Q2 (none) h) : Go Z EL p l e R s m args below meth c n0 (nq Q2) fs h k n (mkF m pc Ls ([])) :=
  g_returnX C hEL [] all0 hret hd hk hn ⟨rfl, hQ⟩
theorem g_ireturnIX (C : Cx Z a0 tb p s m meth c own mname bytes maxL ret n0) (hEL : EW Z a0 EL) {z : Int32} (ns : List Addr) (hns : ∀ x ∈ ns, x ∈ fs) (hret : ret = some .int) (hd : decode bytes pc = .ok (.ireturn, 1)) (hk : k ≤ R.cells) (hn : n ≤ R.slots) (hQ : Q (some (.int z)) h ns) : Go Z EL p l e R s m args below meth c n0 Q fs h k n (mkF m pc Ls (.int z :: St)) := by
  intro vm0 T locs X eT N I
  have hZ : Z.Warmed39 (s.setVm vm0).vm := I.hZ
  have hown : (s.setVm vm0).vm.findClass own = some m.cls := C.hownAt I.hZ
  obtain ⟨ff, hr, hrun, hended, hW, hsame⟩ := X.leave (v := some (.int z)) (fun q => by rw [C.hret, hret] at q; cases q) C.hlk
  refine ⟨_, _, retOut X C.hx (t := .int) (C.hret.trans hret) rfl (Or.inl ⟨rfl, Or.inl rfl, z, rfl⟩) (hb C.hby hd) hr, hrun, hended, _, _, ns, rfl, ⟨by rw [show (T.setFrames ff).heap = T.heap from rfl, eT]; exact hQ, N⟩, ?_, ?_, ?_⟩
  · intro y hy
    have J := CHv.at X I.hZ hEL I.2.2.2.2.1
    have q := I.2.1 y (hns y hy)
    rw [show (T.setFrames ff).heap = h from eT]
    exact ⟨q.1, q.2.1, J.safe q.2.1 q.2.2⟩
  · exact (by rw [show (T.setFrames ff).heap = h from eT]; exact (show CHr Z EL s.vm s.heap T.vm h from I.2.2.2.2.2.trans (CHv.at X I.hZ hEL I.2.2.2.2.1)))
  · obtain ⟨k0, hS, hk0⟩ := I.2.2.1
    exact own_end hS (by rw [← eT] at hk0; exact hk0) hW (hsame.mono hk hn)
theorem g_ireturnI (C : Cx Z a0 tb p s m meth c own mname bytes maxL ret n0) (hEL : EW Z a0 EL) {z : Int32} (hret : ret = some .int) (hd : decode bytes pc = .ok (.ireturn, 1)) (hk : k ≤ R.cells) (hn : n ≤ R.slots) (hQ : Q2 (some (.int z)) h) : Go Z EL p l e R s m args below meth c n0 (nq Q2) fs h k n (mkF m pc Ls (.int z :: St)) :=
  g_ireturnIX C hEL [] all0 hret hd hk hn ⟨rfl, hQ⟩
theorem g_ireturnNX (C : Cx Z a0 tb p s m meth c own mname bytes maxL ret n0) (hEL : EW Z a0 EL) {z : Int32} {t : FieldType} (ns : List Addr) (hns : ∀ x ∈ ns, x ∈ fs) (hret : ret = some t) (ht : t = .boolean ∨ t = .byte ∨ t = .char ∨ t = .short) (hd : decode bytes pc = .ok (.ireturn, 1)) (hk : k ≤ R.cells) (hn : n ≤ R.slots) (hQ : Q (some (.int (nar t z))) h ns) : Go Z EL p l e R s m args below meth c n0 Q fs h k n (mkF m pc Ls (.int z :: St)) := by
  intro vm0 T locs X eT N I
  have hZ : Z.Warmed39 (s.setVm vm0).vm := I.hZ
  have hown : (s.setVm vm0).vm.findClass own = some m.cls := C.hownAt I.hZ
  obtain ⟨ff, hr, hrun, hended, hW, hsame⟩ := X.leave (v := some (.int (nar t z))) (fun q => by rw [C.hret, hret] at q; cases q) C.hlk
  refine ⟨_, _, retN X C.hx (C.hret.trans hret) ht (hb C.hby hd) hr, hrun, hended, _, _, ns, rfl, ⟨by rw [show (T.setFrames ff).heap = T.heap from rfl, eT]; exact hQ, N⟩, ?_, ?_, ?_⟩
  · intro y hy
    have J := CHv.at X I.hZ hEL I.2.2.2.2.1
    have q := I.2.1 y (hns y hy)
    rw [show (T.setFrames ff).heap = h from eT]
    exact ⟨q.1, q.2.1, J.safe q.2.1 q.2.2⟩
  · exact (by rw [show (T.setFrames ff).heap = h from eT]; exact (show CHr Z EL s.vm s.heap T.vm h from I.2.2.2.2.2.trans (CHv.at X I.hZ hEL I.2.2.2.2.1)))
  · obtain ⟨k0, hS, hk0⟩ := I.2.2.1
    exact own_end hS (by rw [← eT] at hk0; exact hk0) hW (hsame.mono hk hn)
theorem g_ireturnN (C : Cx Z a0 tb p s m meth c own mname bytes maxL ret n0) (hEL : EW Z a0 EL) {z : Int32} {t : FieldType} (hret : ret = some t) (ht : t = .boolean ∨ t = .byte ∨ t = .char ∨ t = .short) (hd : decode bytes pc = .ok (.ireturn, 1)) (hk : k ≤ R.cells) (hn : n ≤ R.slots) (hQ : Q2 (some (.int (nar t z))) h) : Go Z EL p l e R s m args below meth c n0 (nq Q2) fs h k n (mkF m pc Ls (.int z :: St)) :=
  g_ireturnNX C hEL [] all0 hret ht hd hk hn ⟨rfl, hQ⟩
theorem g_areturnX (C : Cx Z a0 tb p s m meth c own mname bytes maxL ret n0) (hEL : EW Z a0 EL) {v : Value} {t : FieldType} (ns : List Addr) (hns : ∀ x ∈ ns, x ∈ fs) (hret : ret = some t) (ht : t.isReference = true) (hv : v.isRef = true) (hd : decode bytes pc = .ok (.areturn, 1)) (hk : k ≤ R.cells) (hn : n ≤ R.slots) (hQ : Q (some v) h ns) : Go Z EL p l e R s m args below meth c n0 Q fs h k n (mkF m pc Ls (v :: St)) := by
  intro vm0 T locs X eT N I
  have hZ : Z.Warmed39 (s.setVm vm0).vm := I.hZ
  have hown : (s.setVm vm0).vm.findClass own = some m.cls := C.hownAt I.hZ
  obtain ⟨ff, hr, hrun, hended, hW, hsame⟩ := X.leave (v := some v) (fun q => by rw [C.hret, hret] at q; cases q) C.hlk
  refine ⟨_, _, retOut X C.hx (C.hret.trans hret) (own_narref ht hv) (Or.inr (Or.inr (Or.inr (Or.inr ⟨rfl, ht, hv⟩)))) (hb C.hby hd) hr, hrun, hended, _, _, ns, rfl, ⟨by rw [show (T.setFrames ff).heap = T.heap from rfl, eT]; exact hQ, N⟩, ?_, ?_, ?_⟩
  · intro y hy
    have J := CHv.at X I.hZ hEL I.2.2.2.2.1
    have q := I.2.1 y (hns y hy)
    rw [show (T.setFrames ff).heap = h from eT]
    exact ⟨q.1, q.2.1, J.safe q.2.1 q.2.2⟩
  · exact (by rw [show (T.setFrames ff).heap = h from eT]; exact (show CHr Z EL s.vm s.heap T.vm h from I.2.2.2.2.2.trans (CHv.at X I.hZ hEL I.2.2.2.2.1)))
  · obtain ⟨k0, hS, hk0⟩ := I.2.2.1
    exact own_end hS (by rw [← eT] at hk0; exact hk0) hW (hsame.mono hk hn)
theorem g_areturn (C : Cx Z a0 tb p s m meth c own mname bytes maxL ret n0) (hEL : EW Z a0 EL) {v : Value} {t : FieldType} (hret : ret = some t) (ht : t.isReference = true) (hv : v.isRef = true) (hd : decode bytes pc = .ok (.areturn, 1)) (hk : k ≤ R.cells) (hn : n ≤ R.slots) (hQ : Q2 (some v) h) : Go Z EL p l e R s m args below meth c n0 (nq Q2) fs h k n (mkF m pc Ls (v :: St)) :=
  g_areturnX C hEL [] all0 hret ht hv hd hk hn ⟨rfl, hQ⟩
/-- a body's contract: called so, over this heap, it returns with Q, and the literals' invariant goes on -/
def Met (l : Launch) (Z : State) (EL : List (String × Nat)) (y : MethodName) (bytes : ByteArray) (maxL : Nat) (ret : Option FieldType) (ws : List Jvm.Cond) (rm : Room) (fs : List Addr) (as' : Array Value) (h : Heap) (n0 : Nat) (Q : Option Value → Heap → List Addr → Prop) : Prop :=
  n0 ≤ h.size → (∀ x ∈ fs, n0 ≤ x ∧ x < h.size) → MetFree l y (head1 (Jvm.Cond.code y bytes maxL ret :: ws) rm) (fun a U => a = as' ∧ Z.Warmed39 U.vm ∧ U.heap = h ∧ CHv Z EL U.vm h ∧ ∀ x ∈ fs, Safe Z EL U.vm h x) (fun _ _ _ _ _ => True) (fun _ U o U' => ∃ v L ns, o = .returned v ∧ (Q v U'.heap ns ∧ Fr n0 L) ∧ (∀ x ∈ ns, n0 ≤ x ∧ x < U'.heap.size ∧ Safe Z EL U'.vm U'.heap x) ∧ CHr Z EL U.vm U.heap U'.vm U'.heap ∧ ReturnedEndW U o U' L rm.cells rm.slots)
theorem met_of {y : MethodName} {ws : List Jvm.Cond} {as' : Array Value} (hpl : plainFor y = true) (hw : ∀ d ∈ tb, d.before a0 Z = true) (Ls : Array Slot) (hef : ∀ m : MethodId, entryFrame m as' maxL = mkF m 0 Ls [])
    (H : ∀ p e s m below meth c, Cx Z a0 tb p s m meth c y.cls y.name bytes maxL ret n0 → Go Z EL p l e R s m as' below meth c n0 Q fs h 0 0 (mkF m 0 Ls [])) : Met l Z EL y bytes maxL ret ws R fs as' h n0 Q := by
  intro hn0 hfs
  refine MetFree.of_bodySF hpl hisR ?_
  intro p e s m args below meth c s₁ Bd hml0 hP hK
  obtain ⟨rfl, hZ, hh, hH, hsf⟩ := hP
  have X0 : Stand p l e R (s.setVm s.vm) m args below meth c s₁ [] 0 0 := Stand.of_body Bd
  have e0 : s₁.heap = h := by rw [← hh, Bd.state]; rfl
  have C : Cx Z a0 tb p s m meth c y.cls y.name bytes maxL ret n0 := ⟨Bd.exec, hZ, findClass_of_methodNamed Bd.named, Bd.bytes, hml0, Bd.returns, Bd.notSynchronized, hw, (name_of_methodNamed Bd.named Bd.method).1, by rw [hh]; exact hn0⟩
  have I : Inv Z EL s s.vm n0 fs h := ⟨hn0, fun x hx => ⟨(hfs x hx).1, (hfs x hx).2, hsf x hx⟩, ⟨0, (State.WarmedH.refl s).since 0, Nat.zero_le _⟩, hZ, hH, by rw [hh]; exact CHr.refl hH⟩
  obtain ⟨s2, o, st, r⟩ := H p e s m below meth c C s.vm s₁ [] X0 e0 (Fr.nil n0) I
  exact ⟨s2, o, castTop (hef m) st, r⟩
/-- the same as the caller needs it -/
def Ct (l : Launch) (Z : State) (EL : List (String × Nat)) (y : MethodName) (maxL : Nat) (rm : Room) (fs : List Addr) (as' : Array Value) (h : Heap) (n0 : Nat) (Q : Option Value → Heap → List Addr → Prop) : Prop :=
  ∀ ⦃R : Room⦄ ⦃p : Program⦄ ⦃e : Env⦄ ⦃below : List Frame⦄ ⦃s : State⦄ ⦃vm0 : Vm⦄ ⦃args : Array Value⦄ ⦃len W : Nat⦄, Z.Warmed39 vm0 → n0 ≤ h.size → (∀ x ∈ fs, n0 ≤ x ∧ x < h.size ∧ Safe Z EL vm0 h x) → CHv Z EL vm0 h → rm.frames + 1 ≤ R.frames → W + (maxL + 11) + rm.locals ≤ R.locals →
    BackS l R p e below (s.setVm vm0) args y len W (fun A a => a = as' ∧ A.U.heap = h ∧ A.cells + rm.cells ≤ R.cells ∧ A.slots + rm.slots ≤ R.slots) (fun A _ v B => ∃ L ns, (Q v B.U.heap ns ∧ Fr n0 L) ∧ B.locs = A.locs ++ L ∧ B.cells = A.cells + rm.cells ∧ B.slots = A.slots + rm.slots ∧ (∀ x ∈ ns, n0 ≤ x ∧ x < B.U.heap.size ∧ Safe Z EL B.U.vm B.U.heap x) ∧ CHr Z EL vm0 h B.U.vm B.U.heap)
theorem ct_of {y : MethodName} {rm : Room} {as' : Array Value} (hEL : EW Z a0 EL) (hw : ∀ d ∈ tb, d.before a0 Z = true) (wc : Jvm.Cond.code y bytes maxL ret ∈ tb) (wz : Jvm.Cond.initialized y.cls ∈ tb) (M : Met l Z EL y bytes maxL ret [] rm fs as' h n0 Q) : Ct l Z EL y maxL rm fs as' h n0 Q := by
  intro R p e below s vm0 args len W hZ hn0 hfs H hf hl
  exact BackS.of_freeW (bytes := bytes) (maxL := maxL) (ret := ret) (E := fun _ first o t L k n => k = rm.cells ∧ n = rm.slots ∧ (∃ v ns, o = .returned v ∧ (Q v t.heap ns ∧ Fr n0 L) ∧ ∀ x ∈ ns, n0 ≤ x ∧ x < t.heap.size ∧ Safe Z EL t.vm t.heap x) ∧ CHr Z EL first.vm first.heap t.vm t.heap) (M hn0 fun x hx => ⟨(hfs x hx).1, (hfs x hx).2.1⟩) hf hl
    (fun m meth c A a Y hp => have hU : Z.Warmed39 A.U.vm := wtrans (s := s.setVm vm0) hZ Y.warmed
      ⟨by show (Cond.and _ .tt).before a A.U = true; rw [Cond.before_and, mv hU (hw _ wc)]; rfl, mv hU (hw _ wc), mv hU (hw _ wz), hp.2.2.1, hp.2.2.2⟩)
    (fun m meth c A a g mk Y hp => ⟨hp.1, wtrans (s := s.setVm vm0) hZ Y.warmed, hp.2.1, (CHv.at Y hZ hEL H).1, fun x hx => (CHv.at Y hZ hEL H).safe (hfs x hx).2.1 (hfs x hx).2.2⟩) (fun _ _ _ _ _ _ _ _ _ => trivial)
    (fun _ _ _ _ ⟨v, L, ns, h1, h2, hs, h3, h4⟩ => ⟨L, _, _, h4, rfl, rfl, ⟨v, ns, h1, h2, hs⟩, h3⟩)
    (fun m meth c A a g mk v t L k n Y hp _ _ ⟨e1, e2, ⟨v', ns, e3, e4, e6⟩, e5⟩ => by
      cases e3; subst e1 e2
      refine ⟨L, ns, e4, rfl, rfl, rfl, e6, (CHv.at Y hZ hEL H).trans ?_⟩
      rw [← hp.2.1]; exact e5)
/-- a callee that interns nothing -/
theorem ct_back {y : MethodName} {rm : Room} {as' : Array Value} (hEL : EW Z a0 EL) (hK : ∀ v h', Q2 v h' → Keep h h' fs)
    (B0 : ∀ {R : Room} {p : Program} {e : Env} {below : List Frame} {s : State} {args : Array Value} {len W : Nat}, Z.Warmed39 s.vm → n0 ≤ h.size → (∀ x ∈ fs, n0 ≤ x) → rm.frames + 1 ≤ R.frames → W + (maxL + 11) + rm.locals ≤ R.locals →
      Back l R p e below s args y len W (fun A a => a = as' ∧ A.U.heap = h ∧ A.cells + rm.cells ≤ R.cells ∧ A.slots + rm.slots ≤ R.slots) (fun A _ v B => ∃ L, (Q2 v B.U.heap ∧ Fr n0 L) ∧ B.locs = A.locs ++ L ∧ B.cells = A.cells + rm.cells ∧ B.slots = A.slots + rm.slots)) : Ct l Z EL y maxL rm fs as' h n0 (nq Q2) := by
  intro R p e below s vm0 args len W hZ hn0 hfs H hf hl m meth c A g ig mk a X hg hsize hdg hW hn hp
  obtain ⟨v, B, X', ⟨L, ⟨q1, q2⟩, q3, q4, q5⟩, hsteps⟩ := B0 (s := s.setVm vm0) hZ hn0 (fun x hx => (hfs x hx).1) hf hl m meth c A g ig mk a X hg hsize hdg hW hn hp
  have K := hK _ _ q1
  have c1 := CHr.keep K (fun x hx => (hfs x hx).2.2) H
  have c2 := CHv.at X' hZ hEL c1.1
  exact ⟨v, B, X'.retabled X'.warmed.wide, X'.warmed.since _, by rw [hp.2.1]; exact K.1, ⟨L, [], ⟨⟨rfl, q1⟩, q2⟩, q3, q4, q5, all0, c1.trans c2⟩, hsteps⟩
theorem own_inv {vm0 vm1 : Vm} {h' : Heap} {k1 : Nat} {ns : List Addr} (I : Inv Z EL s vm0 n0 fs h) (hS : (s.setVm vm0).Since vm1 k1) (hk : k1 ≤ h'.size) (hle : h.size ≤ k1) (hns : ∀ x ∈ ns, n0 ≤ x ∧ x < h'.size ∧ Safe Z EL vm1 h' x) (hC : CHr Z EL vm0 h vm1 h') : Inv Z EL s vm1 n0 (ns ++ fs) h' := by
  obtain ⟨i1, i2, ⟨k0, i3, i4⟩, i5, i6, i7⟩ := I
  refine ⟨Nat.le_trans i1 hC.2.1, fun x hx => ?_, ⟨k1, i3.trans hS (Nat.le_trans i4 hle), hk⟩, State.Warmed39.trans (t := s.setVm vm0) i5 hS.1, hC.1, i7.trans hC⟩
  rcases List.mem_append.mp hx with hx | hx
  · exact hns x hx
  · exact ⟨(i2 x hx).1, Nat.lt_of_lt_of_le (i2 x hx).2.1 hC.2.1, hC.safe (i2 x hx).2.1 (i2 x hx).2.2⟩
theorem g_staticX (C : Cx Z a0 tb p s m meth c own mname bytes maxL ret n0) {index : Nat} {y : MethodName} {yb : ByteArray} {yr : Option FieldType} {yl' : Nat} (w1 : Jvm.Cond.methodLink own index y ∈ tb) (w2 : Jvm.Cond.static y ∈ tb) (w3 : Jvm.Cond.initialized y.cls ∈ tb) (w4 : Jvm.Cond.code y yb yl' yr ∈ tb) (hy : y.cls ≠ "java/lang/invoke/MethodHandle" ∧ y.cls ≠ "java/lang/invoke/VarHandle") {rm : Room} {fs0 : List Addr} (argsL : List Value) {Qy : Option Value → Heap → List Addr → Prop} {yl : Nat} (K0 : Ct l Z EL y yl rm fs0 argsL.toArray h n0 Qy) (hfs : ∀ x ∈ fs0, x ∈ fs) (hf : rm.frames + 1 ≤ R.frames) (W : Nat) (hlo : W + (yl + 11) + rm.locals ≤ R.locals) (hsz : Ls.size = maxL) {sig : MethodDescriptor} (hdesc : parseMethodDescriptor y.desc = some sig) (hlen : argsL.length = sig.parameters.length) (rest : List Value) (hs : St = argsL.reverse ++ rest) (hW : (rest.map fun v => v.category).sum ≤ W) (hd : decode bytes pc = .ok (.invokestatic index, 3)) (hc : k + rm.cells ≤ R.cells) (hn : n + rm.slots ≤ R.slots)
    (K : ∀ v h' ns, Qy v h' ns → Go Z EL p l e R s m args below meth c n0 Q (ns ++ fs) h' (k + rm.cells) (n + rm.slots) (mkF m (pc + 3) Ls (v.toList ++ rest))) : Go Z EL p l e R s m args below meth c n0 Q fs h k n (mkF m pc Ls St) := by
  intro vm0 T locs X eT N I
  have hZ : Z.Warmed39 (s.setVm vm0).vm := I.hZ
  have hown : (s.setVm vm0).vm.findClass own = some m.cls := C.hownAt I.hZ
  obtain ⟨v, _, ⟨T', L', k', n'⟩, -, X', hS, hgr, ⟨Lc, ns, ⟨hQ, hN⟩, hl', hk', hn', hns, hC⟩, st⟩ := callSS X C.hx hown (mvT hZ (C.hw w1)) (mvT hZ (C.hw w2)) (mvT hZ (C.hw w3)) (mvT hZ (C.hw w4)) hy (K0 (W := W) I.hZ I.1 (I.less hfs).2.1 I.2.2.2.2.1 hf hlo) (g := mkF m pc Ls St) rfl (hsz.trans C.hml.symm) (argsL := argsL) (rest := rest) (fun sg q => by cases hdesc.symm.trans q; exact hlen) hs (by show 2 * 0 + _ ≤ _; omega) (hb C.hby hd) (fun _ _ => ⟨rfl, eT, hc, hn⟩)
  dsimp only [Pt.U, Pt.locs, Pt.cells, Pt.slots] at X' hl' hk' hn' st hQ hS hgr hC hns
  subst hl' hk' hn'
  obtain ⟨s2, o, st2, r⟩ := K v T'.heap ns hQ T'.vm T' _ X' rfl (N.app hN) (own_inv I hS (Nat.le_refl _) (by rw [← eT]; exact hgr) hns hC)
  exact ⟨s2, o, st.trans st2, r⟩
theorem g_static (C : Cx Z a0 tb p s m meth c own mname bytes maxL ret n0) {index : Nat} {y : MethodName} {yb : ByteArray} {yr : Option FieldType} {yl' : Nat} (w1 : Jvm.Cond.methodLink own index y ∈ tb) (w2 : Jvm.Cond.static y ∈ tb) (w3 : Jvm.Cond.initialized y.cls ∈ tb) (w4 : Jvm.Cond.code y yb yl' yr ∈ tb) (hy : y.cls ≠ "java/lang/invoke/MethodHandle" ∧ y.cls ≠ "java/lang/invoke/VarHandle") {rm : Room} {fs0 : List Addr} (argsL : List Value) {Qy : Option Value → Heap → Prop} {yl : Nat} (K0 : Ct l Z EL y yl rm fs0 argsL.toArray h n0 (nq Qy)) (hfs : ∀ x ∈ fs0, x ∈ fs) (hf : rm.frames + 1 ≤ R.frames) (W : Nat) (hlo : W + (yl + 11) + rm.locals ≤ R.locals) (hsz : Ls.size = maxL) {sig : MethodDescriptor} (hdesc : parseMethodDescriptor y.desc = some sig) (hlen : argsL.length = sig.parameters.length) (rest : List Value) (hs : St = argsL.reverse ++ rest) (hW : (rest.map fun v => v.category).sum ≤ W) (hd : decode bytes pc = .ok (.invokestatic index, 3)) (hc : k + rm.cells ≤ R.cells) (hn : n + rm.slots ≤ R.slots)
    (K : ∀ v h', Qy v h' → Go Z EL p l e R s m args below meth c n0 Q fs h' (k + rm.cells) (n + rm.slots) (mkF m (pc + 3) Ls (v.toList ++ rest))) : Go Z EL p l e R s m args below meth c n0 Q fs h k n (mkF m pc Ls St) :=
  g_staticX C w1 w2 w3 w4 hy argsL K0 hfs hf W hlo hsz hdesc hlen rest hs hW hd hc hn (fun v h' ns q => by obtain ⟨rfl, q⟩ := q; exact K v h' q)
theorem g_specialX (C : Cx Z a0 tb p s m meth c own mname bytes maxL ret n0) {index : Nat} {y : MethodName} {a : Addr} {yb : ByteArray} {yl' : Nat} (w1 : Jvm.Cond.methodLink own index y ∈ tb) (w2 : Jvm.Cond.instanceMethod y ∈ tb) (w4 : Jvm.Cond.code y yb yl' none ∈ tb) (hy1 : y.name = "<init>") (hy : y.cls ≠ "java/lang/invoke/MethodHandle" ∧ y.cls ≠ "java/lang/invoke/VarHandle") {rm : Room} {fs0 : List Addr} (argsL : List Value) {Qy : Option Value → Heap → List Addr → Prop} {yl : Nat} (K0 : Ct l Z EL y yl rm fs0 (.ref a :: argsL).toArray h n0 Qy) (hfs : ∀ x ∈ fs0, x ∈ fs) (hf : rm.frames + 1 ≤ R.frames) (W : Nat) (hlo : W + (yl + 11) + rm.locals ≤ R.locals) (hsz : Ls.size = maxL) {sig : MethodDescriptor} (hdesc : parseMethodDescriptor y.desc = some sig) (hlen : argsL.length = sig.parameters.length) (rest : List Value) (hs : St = argsL.reverse ++ .ref a :: rest) (hW : (rest.map fun v => v.category).sum ≤ W) (hd : decode bytes pc = .ok (.invokespecial index, 3)) (hc : k + rm.cells ≤ R.cells) (hn : n + rm.slots ≤ R.slots)
    (K : ∀ v h' ns, Qy v h' ns → Go Z EL p l e R s m args below meth c n0 Q (ns ++ fs) h' (k + rm.cells) (n + rm.slots) (mkF m (pc + 3) Ls (v.toList ++ rest))) : Go Z EL p l e R s m args below meth c n0 Q fs h k n (mkF m pc Ls St) := by
  intro vm0 T locs X eT N I
  have hZ : Z.Warmed39 (s.setVm vm0).vm := I.hZ
  have hown : (s.setVm vm0).vm.findClass own = some m.cls := C.hownAt I.hZ
  obtain ⟨v, _, ⟨T', L', k', n'⟩, -, X', hS, hgr, ⟨Lc, ns, ⟨hQ, hN⟩, hl', hk', hn', hns, hC⟩, st⟩ := X.specialBackS C.hx hy1 hown (mvT hZ (C.hw w1)) (mvT hZ (C.hw w2)) (mvT hZ (C.hw w4)) hy (K0 (W := W) I.hZ I.1 (I.less hfs).2.1 I.2.2.2.2.1 hf hlo) (g := mkF m pc Ls St) rfl (hsz.trans C.hml.symm) (Steps.refl _) (a := a) (argsL := argsL) (rest := rest) (fun sg q => by cases hdesc.symm.trans q; exact hlen) hs (by show 2 * 0 + _ ≤ _; omega) (hb C.hby hd) (fun _ _ => ⟨rfl, eT, hc, hn⟩)
  dsimp only [Pt.U, Pt.locs, Pt.cells, Pt.slots] at X' hl' hk' hn' st hQ hS hgr hC hns
  subst hl' hk' hn'
  obtain ⟨s2, o, st2, r⟩ := K v T'.heap ns hQ T'.vm T' _ X' rfl (N.app hN) (own_inv I hS (Nat.le_refl _) (by rw [← eT]; exact hgr) hns hC)
  exact ⟨s2, o, st.trans st2, r⟩
theorem g_special (C : Cx Z a0 tb p s m meth c own mname bytes maxL ret n0) {index : Nat} {y : MethodName} {a : Addr} {yb : ByteArray} {yl' : Nat} (w1 : Jvm.Cond.methodLink own index y ∈ tb) (w2 : Jvm.Cond.instanceMethod y ∈ tb) (w4 : Jvm.Cond.code y yb yl' none ∈ tb) (hy1 : y.name = "<init>") (hy : y.cls ≠ "java/lang/invoke/MethodHandle" ∧ y.cls ≠ "java/lang/invoke/VarHandle") {rm : Room} {fs0 : List Addr} (argsL : List Value) {Qy : Option Value → Heap → Prop} {yl : Nat} (K0 : Ct l Z EL y yl rm fs0 (.ref a :: argsL).toArray h n0 (nq Qy)) (hfs : ∀ x ∈ fs0, x ∈ fs) (hf : rm.frames + 1 ≤ R.frames) (W : Nat) (hlo : W + (yl + 11) + rm.locals ≤ R.locals) (hsz : Ls.size = maxL) {sig : MethodDescriptor} (hdesc : parseMethodDescriptor y.desc = some sig) (hlen : argsL.length = sig.parameters.length) (rest : List Value) (hs : St = argsL.reverse ++ .ref a :: rest) (hW : (rest.map fun v => v.category).sum ≤ W) (hd : decode bytes pc = .ok (.invokespecial index, 3)) (hc : k + rm.cells ≤ R.cells) (hn : n + rm.slots ≤ R.slots)
    (K : ∀ v h', Qy v h' → Go Z EL p l e R s m args below meth c n0 Q fs h' (k + rm.cells) (n + rm.slots) (mkF m (pc + 3) Ls (v.toList ++ rest))) : Go Z EL p l e R s m args below meth c n0 Q fs h k n (mkF m pc Ls St) :=
  g_specialX C w1 w2 w4 hy1 hy argsL K0 hfs hf W hlo hsz hdesc hlen rest hs hW hd hc hn (fun v h' ns q => by obtain ⟨rfl, q⟩ := q; exact K v h' q)
theorem g_virtualX (C : Cx Z a0 tb p s m meth c own mname bytes maxL ret n0) {index : Nat} {y z : MethodName} {Cn : String} {a : Addr} (E : Exa Z h a Cn) (w1 : Jvm.Cond.methodLink own index y ∈ tb) (w2 : Jvm.Cond.declares y ∈ tb) (hnf : ∀ {s' : State}, Z.Warmed39 s'.vm → NotFace s' y) (w3 : Jvm.Cond.selects Cn y z ∈ tb) (w4 : Jvm.Cond.instanceMethod z ∈ tb) (hy : y.cls ≠ "java/lang/invoke/MethodHandle" ∧ y.cls ≠ "java/lang/invoke/VarHandle") {rm : Room} {fs0 : List Addr} (argsL : List Value) {Qy : Option Value → Heap → List Addr → Prop} {yl : Nat} (K0 : Ct l Z EL z yl rm fs0 (.ref a :: argsL).toArray h n0 Qy) (hfs : ∀ x ∈ fs0, x ∈ fs) (hf : rm.frames + 1 ≤ R.frames) (W : Nat) (hlo : W + (yl + 11) + rm.locals ≤ R.locals) (hsz : Ls.size = maxL) {sig : MethodDescriptor} (hdesc : parseMethodDescriptor y.desc = some sig) (hlen : argsL.length = sig.parameters.length) (rest : List Value) (hs : St = argsL.reverse ++ .ref a :: rest) (hW : (rest.map fun v => v.category).sum ≤ W) (hd : decode bytes pc = .ok (.invokevirtual index, 3)) (hc : k + rm.cells ≤ R.cells) (hn : n + rm.slots ≤ R.slots)
    (K : ∀ v h' ns, Qy v h' ns → Go Z EL p l e R s m args below meth c n0 Q (ns ++ fs) h' (k + rm.cells) (n + rm.slots) (mkF m (pc + 3) Ls (v.toList ++ rest))) : Go Z EL p l e R s m args below meth c n0 Q fs h k n (mkF m pc Ls St) := by
  intro vm0 T locs X eT N I
  have hZ : Z.Warmed39 (s.setVm vm0).vm := I.hZ
  have hown : (s.setVm vm0).vm.findClass own = some m.cls := C.hownAt I.hZ
  obtain ⟨cq, kq, qa, qb, qc⟩ := isOf hZ eT E
  obtain ⟨v, _, ⟨T', L', k', n'⟩, -, X', hS, hgr, ⟨Lc, ns, ⟨hQ, hN⟩, hl', hk', hn', hns, hC⟩, st⟩ := X.virtualBackS C.hx hown (mvT hZ (C.hw w1)) (mvT hZ (C.hw w2)) (hnf hZ) (mvT hZ (C.hw w3)) (mvT hZ (C.hw w4)) hy (K0 (W := W) I.hZ I.1 (I.less hfs).2.1 I.2.2.2.2.1 hf hlo) qa qc (g := mkF m pc Ls St) rfl (hsz.trans C.hml.symm) (Steps.refl _) (argsL := argsL) (rest := rest) (fun sg q => by cases hdesc.symm.trans q; exact hlen) hs (by show 2 * 0 + _ ≤ _; omega) (hb C.hby hd) (fun _ _ => ⟨rfl, eT, hc, hn⟩)
  dsimp only [Pt.U, Pt.locs, Pt.cells, Pt.slots] at X' hl' hk' hn' st hQ hS hgr hC hns
  subst hl' hk' hn'
  obtain ⟨s2, o, st2, r⟩ := K v T'.heap ns hQ T'.vm T' _ X' rfl (N.app hN) (own_inv I hS (Nat.le_refl _) (by rw [← eT]; exact hgr) hns hC)
  exact ⟨s2, o, st.trans st2, r⟩
theorem g_virtual (C : Cx Z a0 tb p s m meth c own mname bytes maxL ret n0) {index : Nat} {y z : MethodName} {Cn : String} {a : Addr} (E : Exa Z h a Cn) (w1 : Jvm.Cond.methodLink own index y ∈ tb) (w2 : Jvm.Cond.declares y ∈ tb) (hnf : ∀ {s' : State}, Z.Warmed39 s'.vm → NotFace s' y) (w3 : Jvm.Cond.selects Cn y z ∈ tb) (w4 : Jvm.Cond.instanceMethod z ∈ tb) (hy : y.cls ≠ "java/lang/invoke/MethodHandle" ∧ y.cls ≠ "java/lang/invoke/VarHandle") {rm : Room} {fs0 : List Addr} (argsL : List Value) {Qy : Option Value → Heap → Prop} {yl : Nat} (K0 : Ct l Z EL z yl rm fs0 (.ref a :: argsL).toArray h n0 (nq Qy)) (hfs : ∀ x ∈ fs0, x ∈ fs) (hf : rm.frames + 1 ≤ R.frames) (W : Nat) (hlo : W + (yl + 11) + rm.locals ≤ R.locals) (hsz : Ls.size = maxL) {sig : MethodDescriptor} (hdesc : parseMethodDescriptor y.desc = some sig) (hlen : argsL.length = sig.parameters.length) (rest : List Value) (hs : St = argsL.reverse ++ .ref a :: rest) (hW : (rest.map fun v => v.category).sum ≤ W) (hd : decode bytes pc = .ok (.invokevirtual index, 3)) (hc : k + rm.cells ≤ R.cells) (hn : n + rm.slots ≤ R.slots)
    (K : ∀ v h', Qy v h' → Go Z EL p l e R s m args below meth c n0 Q fs h' (k + rm.cells) (n + rm.slots) (mkF m (pc + 3) Ls (v.toList ++ rest))) : Go Z EL p l e R s m args below meth c n0 Q fs h k n (mkF m pc Ls St) :=
  g_virtualX C E w1 w2 hnf w3 w4 hy argsL K0 hfs hf W hlo hsz hdesc hlen rest hs hW hd hc hn (fun v h' ns q => by obtain ⟨rfl, q⟩ := q; exact K v h' q)
theorem nf_sel {y : MethodName} {Cn : String} (hw : ∀ d ∈ tb, d.before a0 Z = true) (w : Jvm.Cond.selects Cn y y ∈ tb) {s' : State} (hZ : Z.Warmed39 s'.vm) : NotFace s' y := notFace_of_selects (args := #[]) (mvT hZ (hw _ w))
end OwnGo
end Jvm.OwnGo
namespace Jvm.OwnGo
open Sem ClassFile Op Lib Jvm.Stand Jvm.Free Jvm.LawKit Jvm.RoadKit Bundle
section OwnBox
variable {Z : State} {a0 : Array Value} {tb : List Jvm.Cond} {p : Program} {l : Launch} {e : Env} {R : Room} {s : State} {m : MethodId} {args : Array Value} {below : List Frame} {meth : Method} {c : Code} {own mname : String} {bytes : ByteArray} {maxL : Nat} {ret : Option FieldType} {n0 : Nat} {Q : Option Value → Heap → List Addr → Prop} {Q2 : Option Value → Heap → Prop} {fs : List Addr} {h : Heap} {k n : Nat} {pc : Nat} {Ls : Array Slot} {St : List Value} {EL : List (String × Nat)}
end OwnBox
end Jvm.OwnGo
/- laws to paste: Road.backV, Road.lenW, Road.chN (cut by pick.py; bodies as the Statement names them) -/
namespace Jvm.Pilot.@@N@@
namespace StrChars
open Jvm Sem ClassFile Op Lib Jvm.Stand Jvm.Free.XT Jvm.Free.ALB Jvm.Free.JM Jvm.Free
open Jvm.Lib.Cold (StaticIs)
/-- a char array whose places are chars -/
def Ch (a : Addr) (A : Cell) (U : State) : Prop := Arr .char a A U ∧ Typed .char A
theorem Ch.mv {a : Addr} {A : Cell} {U U' : State} (h : Ch a A U) (hal : U.vm.Alike U'.vm) (hh : U'.heap = U.heap) : Ch a A U' := ⟨h.1.mv hal hh, h.2⟩
theorem Ch.keep {a : Addr} {A : Cell} {U U' : State} (h : Ch a A U) (hal : U.vm.Alike U'.vm) (hk : U'.heap[a]? = some A) : Ch a A U' := ⟨h.1.keep hal hk, h.2⟩
/-- what place i of a char[]'s cell holds -/
def cv (A : Cell) (i : Nat) : Int32 := match A.slots[i]? with | some (.int x) => x | _ => 0
theorem Ch.get {a : Addr} {A : Cell} {U : State} (h : Ch a A U) {i : Nat} (hi : i < A.slots.size) : A.slots[i]? = some (.int (cv A i)) := by
  have e := Array.getElem?_eq_getElem hi
  have f := h.2 i _ e
  unfold cv; rw [e]
  generalize A.slots[i] = v at f
  cases v <;> simp [fits] at f ⊢
/-- the byte that i2b leaves of a char -/
def lo8 (x : Int32) : Int32 := x.toInt8.toInt32
theorem fits_lo8 (y : Int32) : fits .byte (.int (lo8 y)) = true := by
  have h1 := y.toInt8.le_toInt
  have h2 := y.toInt8.toInt_lt
  simp only [lo8, fits, Bool.and_eq_true, decide_eq_true_eq, Int32.le_iff_toInt_le, Int8.toInt_toInt32, show (-128 : Int32).toInt = -128 from by decide, show (127 : Int32).toInt = 127 from by decide]
  omega
/-- A' is A but that each place j of lo .. hi - 1 holds f j -/
def Laid (A A' : Cell) (lo hi : Nat) (f : Nat → Value) : Prop := A'.cls = A.cls ∧ A'.vm = A.vm ∧ A'.slots.size = A.slots.size ∧ ∀ i, A'.slots[i]? = if lo ≤ i ∧ i < hi then some (f i) else A.slots[i]?
theorem Laid.zero (A : Cell) (lo : Nat) (f : Nat → Value) : Laid A A lo (lo + 0) f := ⟨rfl, rfl, rfl, fun i => by rw [if_neg (by omega)]⟩
theorem Laid.step {A Ak : Cell} {lo k : Nat} {f : Nat → Value} {v : Value} (h : Laid A Ak lo k f) (hlo : lo ≤ k) (hk : k < Ak.slots.size) (hv : v = f k) : Laid A (Ak.setSlot k v) lo (k + 1) f := by
  refine ⟨h.1, h.2.1, by simpa [Cell.setSlot] using h.2.2.1, fun i => ?_⟩
  by_cases e : k = i
  · subst e; rw [Cell.slots_setSlot_self v hk, if_pos (by omega), hv]
  · rw [Cell.slots_setSlot_ne v e, h.2.2.2 i]
    by_cases q : lo ≤ i ∧ i < k
    · rw [if_pos q, if_pos (by omega)]
    · rw [if_neg q, if_neg (by omega)]
def U16 : String := "java/lang/StringUTF16"
namespace Cmp5
def yN : MethodName := ⟨"java/lang/StringUTF16", "compress", "([CI[BII)I"⟩
abbrev yB : ByteArray := jdk_52_method_21_code
theorem d0 : decode yB 0 = .ok (.iconst 0, 1) := by decide +kernel
theorem d1 : decode yB 1 = .ok (.istore 5, 2) := by decide +kernel
theorem d3 : decode yB 3 = .ok (.iload 5, 2) := by decide +kernel
theorem d5 : decode yB 5 = .ok (.iload 4, 2) := by decide +kernel
theorem d7 : decode yB 7 = .ok (.if_icmp (.ge) 37, 3) := by decide +kernel
theorem d10 : decode yB 10 = .ok (.aload_n 0, 1) := by decide +kernel
theorem d11 : decode yB 11 = .ok (.iload_n 1, 1) := by decide +kernel
theorem d12 : decode yB 12 = .ok (.caload, 1) := by decide +kernel
theorem d13 : decode yB 13 = .ok (.istore 6, 2) := by decide +kernel
theorem d15 : decode yB 15 = .ok (.iload 6, 2) := by decide +kernel
theorem d17 : decode yB 17 = .ok (.sipush 255, 3) := by decide +kernel
theorem d20 : decode yB 20 = .ok (.if_icmp (.le) 6, 3) := by decide +kernel
theorem d26 : decode yB 26 = .ok (.aload_n 2, 1) := by decide +kernel
theorem d27 : decode yB 27 = .ok (.iload_n 3, 1) := by decide +kernel
theorem d28 : decode yB 28 = .ok (.iload 6, 2) := by decide +kernel
theorem d30 : decode yB 30 = .ok (.i2b, 1) := by decide +kernel
theorem d31 : decode yB 31 = .ok (.bastore, 1) := by decide +kernel
theorem d32 : decode yB 32 = .ok (.iinc 1 1, 3) := by decide +kernel
theorem d35 : decode yB 35 = .ok (.iinc 3 1, 3) := by decide +kernel
theorem d38 : decode yB 38 = .ok (.iinc 5 1, 3) := by decide +kernel
theorem d41 : decode yB 41 = .ok (.goto (-38), 3) := by decide +kernel
theorem d44 : decode yB 44 = .ok (.iload 4, 2) := by decide +kernel
theorem d46 : decode yB 46 = .ok (.ireturn, 1) := by decide +kernel
def site : List Cond := []
def tab : Cond := tabOf yN yB 7 (some .int) site
def P (b : Addr) (A : Cell) (d : Addr) (B : Cell) (o q len : Nat) (args : Array Value) (s : State) : Prop := args = #[.ref b, .int (Int32.ofNat o), .ref d, .int (Int32.ofNat q), .int (Int32.ofNat len)] ∧ Ch b A s ∧ Arr .byte d B s ∧ b ≠ d ∧ o + len ≤ A.slots.size ∧ q + len ≤ B.slots.size ∧ ∀ i, i < len → ¬ 255 < cv A (o + i)
def E (b : Addr) (A : Cell) (d : Addr) (B : Cell) (o q len : Nat) (r : Option Value) (s u : State) : Prop := r = some (.int (Int32.ofNat len)) ∧ ∃ B', Put d B' s u ∧ Laid B B' q (q + len) (fun j => Value.int (lo8 (cv A (o + (j - q)))))
/-- no char of the range above 255: len; the places written hold each char's low byte -/
theorem law (l : Launch) (b : Addr) (A : Cell) (d : Addr) (B : Cell) (o q len : Nat) : Law l yN 5 5 0 0 yB 7 (some .int) site (P b A d B o q len) (E b A d B o q len) (copyLocs d q len) 0 0 := by
  refine Law.of_walk (plainFor_of_name (by decide +kernel)) (by decide +kernel) (by decide +kernel) (by decide) (fun _ _ h => by rw [h.1]; rfl) (fun _ U U' hal hh h => ⟨h.1, h.2.1.mv hal hh, h.2.2.1.mv hal hh, h.2.2.2⟩) (fun r U U' V V' h1 hal h2 h => ⟨h.1, h.2.elim fun B' q => ⟨B', q.1.mv h1 h2, q.2⟩⟩) ?_
  intro p e s m args below meth c s₁ X0 hexec hbytes hml hret hlk hnm hown hh0 W hP
  obtain ⟨rfl, hA, hB, hne, l1, l2, hp⟩ := hP
  have c1 : Steps p.tables e below (s₁.setTop (entryFrame m #[.ref b, .int (Int32.ofNat o), .ref d, .int (Int32.ofNat q), .int (Int32.ofNat len)] 7)) (s₁.setTop (mkF m 0 #[.val (.ref b), .val (.int (Int32.ofNat o)), .val (.ref d), .val (.int (Int32.ofNat q)), .val (.int (Int32.ofNat len)), .unset, .unset] [])) := entry rfl
  have hA0 := hA.1.mv X0.warmed.alike hh0
  have hB0 := hB.mv X0.warmed.alike hh0
  have a31 := hA.1.2.2.2
  have c2 : Steps p.tables e below (s₁.setTop (entryFrame m #[.ref b, .int (Int32.ofNat o), .ref d, .int (Int32.ofNat q), .int (Int32.ofNat len)] 7)) (s₁.setTop (mkF m 3 #[.val (.ref b), .val (.int (Int32.ofNat o)), .val (.ref d), .val (.int (Int32.ofNat q)), .val (.int (Int32.ofNat len)), .val (.int 0), .unset] [])) := c1.trans (by
    refine iconstV X0.here hexec rfl 0 (hb hbytes d0) (by decide) ?_
    refine XS.istore X0.here hexec rfl (hb hbytes d1) rfl rfl ?_
    exact Steps.refl _)
  have loop : ∀ (r i : Nat), i + r = len → ∀ (z : Slot), (z = .unset ∨ ∃ w, z = .val w ∧ w.category = 1) → ∀ (Tl : State) (Bk : Cell), Stand p l e { frames := 0, locals := 0, cells := 0, slots := 0 } s m #[.ref b, .int (Int32.ofNat o), .ref d, .int (Int32.ofNat q), .int (Int32.ofNat len)] below meth c Tl ([] ++ copyLocs d q i) 0 0 → Put d Bk s₁ Tl → Laid B Bk q (q + i) (fun j => Value.int (lo8 (cv A (o + (j - q))))) →
      Steps p.tables e below (s₁.setTop (entryFrame m #[.ref b, .int (Int32.ofNat o), .ref d, .int (Int32.ofNat q), .int (Int32.ofNat len)] 7)) (Tl.setTop (mkF m 3 #[.val (.ref b), .val (.int (Int32.ofNat (o + i))), .val (.ref d), .val (.int (Int32.ofNat (q + i))), .val (.int (Int32.ofNat len)), .val (.int (Int32.ofNat i)), z] [])) → ∃ (T' : State) (B' : Cell) (z' : Slot), Stand p l e { frames := 0, locals := 0, cells := 0, slots := 0 } s m #[.ref b, .int (Int32.ofNat o), .ref d, .int (Int32.ofNat q), .int (Int32.ofNat len)] below meth c T' ([] ++ copyLocs d q len) 0 0 ∧ Put d B' s₁ T' ∧ Laid B B' q (q + len) (fun j => Value.int (lo8 (cv A (o + (j - q))))) ∧
      Steps p.tables e below (s₁.setTop (entryFrame m #[.ref b, .int (Int32.ofNat o), .ref d, .int (Int32.ofNat q), .int (Int32.ofNat len)] 7)) (T'.setTop (mkF m 3 #[.val (.ref b), .val (.int (Int32.ofNat (o + len))), .val (.ref d), .val (.int (Int32.ofNat (q + len))), .val (.int (Int32.ofNat len)), .val (.int (Int32.ofNat len)), z'] [])) := by
    intro r
    induction r with
    | zero =>
      intro i hi z hz Tl Bk Xl pl fl cl
      have hil : i = len := by omega
      rw [hil] at Xl fl cl
      exact ⟨Tl, Bk, z, Xl, pl, fl, cl⟩
    | succ r ih =>
      intro i hi z hz Tl Bk Xl pl fl cl
      have all := X0.warmed.alike.symm.trans Xl.warmed.alike
      have hAl := hA0.keep all (pl.other hne hA0.1)
      have hBk := hB0.like all pl.1 fl.1 fl.2.1 fl.2.2.1
      have hlt : q + i < Bk.slots.size := by rw [fl.2.2.1]; omega
      have c3 : Steps p.tables e below (s₁.setTop (entryFrame m #[.ref b, .int (Int32.ofNat o), .ref d, .int (Int32.ofNat q), .int (Int32.ofNat len)] 7)) (Tl.setTop (mkF m 12 #[.val (.ref b), .val (.int (Int32.ofNat (o + i))), .val (.ref d), .val (.int (Int32.ofNat (q + i))), .val (.int (Int32.ofNat len)), .val (.int (Int32.ofNat i)), z] [.int (Int32.ofNat (o + i)), .ref b])) := cl.trans (by
        refine XS.iload Xl.here hexec rfl (hb hbytes d3) rfl ?_
        refine XS.iload Xl.here hexec rfl (hb hbytes d5) rfl ?_
        refine XS.icmpNo Xl.here hexec rfl (hb hbytes d7) rfl (ii_ge_f (lt32 (by omega) (by omega))) ?_
        refine XS.aloadN Xl.here hexec rfl (hb hbytes d10) rfl rfl ?_
        refine XS.iloadN Xl.here hexec rfl (hb hbytes d11) rfl ?_
        exact Steps.refl _)
      have c4 : Steps p.tables e below (s₁.setTop (entryFrame m #[.ref b, .int (Int32.ofNat o), .ref d, .int (Int32.ofNat q), .int (Int32.ofNat len)] 7)) (Tl.setTop (mkF m 13 #[.val (.ref b), .val (.int (Int32.ofNat (o + i))), .val (.ref d), .val (.int (Int32.ofNat (q + i))), .val (.int (Int32.ofNat len)), .val (.int (Int32.ofNat i)), z] [.int (cv A (o + i))])) := c3.trans (by
        refine Xl.aget hexec hAl rfl (hA.get (i := o + i) (by omega)) rfl rfl (hb hbytes d12) ?_
        exact Steps.refl _)
      have c5 : Steps p.tables e below (s₁.setTop (entryFrame m #[.ref b, .int (Int32.ofNat o), .ref d, .int (Int32.ofNat q), .int (Int32.ofNat len)] 7)) (Tl.setTop (mkF m 15 #[.val (.ref b), .val (.int (Int32.ofNat (o + i))), .val (.ref d), .val (.int (Int32.ofNat (q + i))), .val (.int (Int32.ofNat len)), .val (.int (Int32.ofNat i)), .val (.int (cv A (o + i)))] [])) := c4.trans (by
        refine XS.istoreS Xl.here hexec rfl (hb hbytes d13) rfl rfl hz ?_
        exact Steps.refl _)
      have c6 : Steps p.tables e below (s₁.setTop (entryFrame m #[.ref b, .int (Int32.ofNat o), .ref d, .int (Int32.ofNat q), .int (Int32.ofNat len)] 7)) (Tl.setTop (mkF m 31 #[.val (.ref b), .val (.int (Int32.ofNat (o + i))), .val (.ref d), .val (.int (Int32.ofNat (q + i))), .val (.int (Int32.ofNat len)), .val (.int (Int32.ofNat i)), .val (.int (cv A (o + i)))] [.int (lo8 (cv A (o + i))), .int (Int32.ofNat (q + i)), .ref d])) := c5.trans (by
        refine XS.iload Xl.here hexec rfl (hb hbytes d15) rfl ?_
        refine sipushV Xl.here hexec rfl 255 (hb hbytes d17) (by decide) ?_
        refine XS.icmpYes Xl.here hexec rfl (pc0 := 20) rfl (hb hbytes d20) rfl (ii_le_t (hp i (by omega))) (by decide) rfl ?_
        refine XS.aloadN Xl.here hexec rfl (hb hbytes d26) rfl rfl ?_
        refine XS.iloadN Xl.here hexec rfl (hb hbytes d27) rfl ?_
        refine XS.iload Xl.here hexec rfl (hb hbytes d28) rfl ?_
        refine i2b Xl.here hexec rfl (hb hbytes d30) rfl ?_
        exact Steps.refl _)
      obtain ⟨T7, X7, p7, st7⟩ := Xl.aput hexec hBk rfl hlt rfl (fits_lo8 (cv A (o + i))) (g := (mkF m 31 #[.val (.ref b), .val (.int (Int32.ofNat (o + i))), .val (.ref d), .val (.int (Int32.ofNat (q + i))), .val (.int (Int32.ofNat len)), .val (.int (Int32.ofNat i)), .val (.int (cv A (o + i)))] [.int (lo8 (cv A (o + i))), .int (Int32.ofNat (q + i)), .ref d])) rfl (rest := []) rfl (hb hbytes d31)
      have c8 : Steps p.tables e below (s₁.setTop (entryFrame m #[.ref b, .int (Int32.ofNat o), .ref d, .int (Int32.ofNat q), .int (Int32.ofNat len)] 7)) (T7.setTop (mkF m 32 #[.val (.ref b), .val (.int (Int32.ofNat (o + i))), .val (.ref d), .val (.int (Int32.ofNat (q + i))), .val (.int (Int32.ofNat len)), .val (.int (Int32.ofNat i)), .val (.int (cv A (o + i)))] [])) := c6.trans (st7 _ (Steps.refl _))
      have c9 : Steps p.tables e below (s₁.setTop (entryFrame m #[.ref b, .int (Int32.ofNat o), .ref d, .int (Int32.ofNat q), .int (Int32.ofNat len)] 7)) (T7.setTop (mkF m 3 #[.val (.ref b), .val (.int (Int32.ofNat (o + i) + 1)), .val (.ref d), .val (.int (Int32.ofNat (q + i) + 1)), .val (.int (Int32.ofNat len)), .val (.int (Int32.ofNat i + 1)), .val (.int (cv A (o + i)))] [])) := c8.trans (by
        refine iincV X7.here hexec rfl 1 (hb hbytes d32) (by decide) rfl rfl ?_
        refine iincV X7.here hexec rfl 1 (hb hbytes d35) (by decide) rfl rfl ?_
        refine iincV X7.here hexec rfl 1 (hb hbytes d38) (by decide) rfl rfl ?_
        refine XS.goto X7.here hexec rfl (pc0 := 41) rfl (hb hbytes d41) (by decide) rfl ?_
        exact Steps.refl _)
      have c10 : Steps p.tables e below (s₁.setTop (entryFrame m #[.ref b, .int (Int32.ofNat o), .ref d, .int (Int32.ofNat q), .int (Int32.ofNat len)] 7)) (T7.setTop (mkF m 3 #[.val (.ref b), .val (.int (Int32.ofNat (o + (i + 1)))), .val (.ref d), .val (.int (Int32.ofNat (q + (i + 1)))), .val (.int (Int32.ofNat len)), .val (.int (Int32.ofNat (i + 1))), .val (.int (cv A (o + i)))] [])) := by
        have := c9
        rw [succ32, succ32, succ32] at this
        exact this
      exact ih (i + 1) (by omega) _ (Or.inr ⟨_, rfl, rfl⟩) T7 _ (by rw [copyLocs_step, ← List.append_assoc]; exact X7) (pl.trans p7) (fl.step (by omega) hlt (by simp)) c10
  obtain ⟨T9, B9, z9, X9, p9, f9, g9⟩ := loop len 0 (by omega) .unset (Or.inl rfl) s₁ B (by simpa [copyLocs] using X0) ⟨hB0.1, fun _ _ => rfl, rfl⟩ (Laid.zero _ _ _) c2
  have c11 : Steps p.tables e below (s₁.setTop (entryFrame m #[.ref b, .int (Int32.ofNat o), .ref d, .int (Int32.ofNat q), .int (Int32.ofNat len)] 7)) (T9.setTop (mkF m 46 #[.val (.ref b), .val (.int (Int32.ofNat (o + len))), .val (.ref d), .val (.int (Int32.ofNat (q + len))), .val (.int (Int32.ofNat len)), .val (.int (Int32.ofNat len)), z9] [.int (Int32.ofNat len)])) := g9.trans (by
    refine XS.iload X9.here hexec rfl (hb hbytes d3) rfl ?_
    refine XS.iload X9.here hexec rfl (hb hbytes d5) rfl ?_
    refine XS.icmpYes X9.here hexec rfl (pc0 := 7) rfl (hb hbytes d7) rfl (ii_ge_t (nlt32 (by omega) (Nat.le_refl _))) (by decide) rfl ?_
    refine XS.iload X9.here hexec rfl (hb hbytes d44) rfl ?_
    exact Steps.refl _)
  exact ⟨T9, some (.int (Int32.ofNat len)), _, _, _, X9, by simp, rfl, rfl, (fun h => by cases h), ⟨rfl, B9, p9.from hh0, f9⟩, fun fs hl => c11.trans (X9.ireturnOut hexec hret rfl (Or.inl rfl) (hb hbytes d46) hl)⟩
end Cmp5
namespace Cmp3
def yN : MethodName := ⟨"java/lang/StringUTF16", "compress", "([CII)[B"⟩
abbrev yB : ByteArray := jdk_52_method_16_code
theorem d0 : decode yB 0 = .ok (.iload_n 2, 1) := by decide +kernel
theorem d1 : decode yB 1 = .ok (.newarray .byte, 2) := by decide +kernel
theorem d3 : decode yB 3 = .ok (.astore_n 3, 1) := by decide +kernel
theorem d4 : decode yB 4 = .ok (.aload_n 0, 1) := by decide +kernel
theorem d5 : decode yB 5 = .ok (.iload_n 1, 1) := by decide +kernel
theorem d6 : decode yB 6 = .ok (.aload_n 3, 1) := by decide +kernel
theorem d7 : decode yB 7 = .ok (.iconst 0, 1) := by decide +kernel
theorem d8 : decode yB 8 = .ok (.iload_n 2, 1) := by decide +kernel
theorem d9 : decode yB 9 = .ok (.invokestatic 115, 3) := by decide +kernel
theorem d12 : decode yB 12 = .ok (.istore 4, 2) := by decide +kernel
theorem d14 : decode yB 14 = .ok (.iload 4, 2) := by decide +kernel
theorem d16 : decode yB 16 = .ok (.iload_n 2, 1) := by decide +kernel
theorem d17 : decode yB 17 = .ok (.if_icmp (.eq) 40, 3) := by decide +kernel
theorem d57 : decode yB 57 = .ok (.aload_n 3, 1) := by decide +kernel
theorem d58 : decode yB 58 = .ok (.areturn, 1) := by decide +kernel
def site : List Cond := [.arrayClass .byte, Cmp5.tab] ++ staticW U16 115 Cmp5.yN
def tab : Cond := tabOf yN yB 6 (some (.array .byte)) site
def P (b : Addr) (A : Cell) (o len : Nat) (args : Array Value) (s : State) : Prop := args = #[.ref b, .int (Int32.ofNat o), .int (Int32.ofNat len)] ∧ Ch b A s ∧ o + len ≤ A.slots.size ∧ len ≤ 536870912 ∧ ∀ i, i < len → ¬ 255 < cv A (o + i)
def E (b : Addr) (A : Cell) (o len : Nat) (r : Option Value) (s u : State) : Prop := NewArr .byte "[B" len (fun j => .int (lo8 (cv A (o + j)))) r s u ∧ u.heap.size = s.heap.size + 1
/-- no char of the range above 255: a new byte[] of their low bytes -/
theorem law (l : Launch) (b : Addr) (A : Cell) (o len : Nat) : Law l yN 3 3 1 18 yB 6 (some (.array .byte)) site (P b A o len) (E b A o len) [] 1 len := by
  refine Law.of_walk (plainFor_of_name (by decide +kernel)) (by decide +kernel) (by decide +kernel) (by decide) (fun _ _ h => by rw [h.1]; rfl) (fun _ U U' hal hh h => ⟨h.1, h.2.1.mv hal hh, h.2.2⟩) (fun r U U' V V' h1 hal h2 h => ⟨NewArr.mv r U U' V V' h1 hal h2 h.1, by rw [h1, h2]; exact h.2⟩) ?_
  intro p e s m args below meth c s₁ X0 hexec hbytes hml hret hlk hnm hown hh0 W hP
  obtain ⟨rfl, hA, l1, l2, hp⟩ := hP
  have a31 := hA.1.2.2.2
  have c1 : Steps p.tables e below (s₁.setTop (entryFrame m #[.ref b, .int (Int32.ofNat o), .int (Int32.ofNat len)] 6)) (s₁.setTop (mkF m 0 #[.val (.ref b), .val (.int (Int32.ofNat o)), .val (.int (Int32.ofNat len)), .unset, .unset, .unset] [])) := entry rfl
  have c2 : Steps p.tables e below (s₁.setTop (entryFrame m #[.ref b, .int (Int32.ofNat o), .int (Int32.ofNat len)] 6)) (s₁.setTop (mkF m 1 #[.val (.ref b), .val (.int (Int32.ofNat o)), .val (.int (Int32.ofNat len)), .unset, .unset, .unset] [.int (Int32.ofNat len)])) := c1.trans (by
    refine XS.iloadN X0.here hexec rfl (hb hbytes d0) rfl ?_
    exact Steps.refl _)
  obtain ⟨T3, B3, X3, ba3, bs3, bv3, bh3, bf3, st3⟩ := X0.anew hexec (atype := .byte) (wk W (.arrayClass .byte)) rfl (by show len * 1 ≤ _; omega) (by omega) (g := (mkF m 1 #[.val (.ref b), .val (.int (Int32.ofNat o)), .val (.int (Int32.ofNat len)), .unset, .unset, .unset] [.int (Int32.ofNat len)])) rfl (hb hbytes d1) (rest := []) rfl (Nat.le_refl _) (by show 0 + len ≤ len; omega)
  rw [hh0] at ba3 st3
  have kp3 : XT.Kept s T3 := (XT.Kept.of_eq hh0).push bh3
  have hA3 := hA.keep X3.warmed.alike (kp3 _ _ hA.1.1)
  have hne : b ≠ s.heap.size := hA.1.ne
  have c4 : Steps p.tables e below (s₁.setTop (entryFrame m #[.ref b, .int (Int32.ofNat o), .int (Int32.ofNat len)] 6)) (T3.setTop (mkF m 3 #[.val (.ref b), .val (.int (Int32.ofNat o)), .val (.int (Int32.ofNat len)), .unset, .unset, .unset] [.ref s.heap.size])) := c2.trans (st3 _ (Steps.refl _))
  have c5 : Steps p.tables e below (s₁.setTop (entryFrame m #[.ref b, .int (Int32.ofNat o), .int (Int32.ofNat len)] 6)) (T3.setTop (mkF m 9 #[.val (.ref b), .val (.int (Int32.ofNat o)), .val (.int (Int32.ofNat len)), .val (.ref s.heap.size), .unset, .unset] [.int (Int32.ofNat len), .int 0, .ref s.heap.size, .int (Int32.ofNat o), .ref b])) := c4.trans (by
    refine XS.astoreN X3.here hexec rfl (hb hbytes d3) rfl rfl rfl ?_
    refine XS.aloadN X3.here hexec rfl (hb hbytes d4) rfl rfl ?_
    refine XS.iloadN X3.here hexec rfl (hb hbytes d5) rfl ?_
    refine XS.aloadN X3.here hexec rfl (hb hbytes d6) rfl rfl ?_
    refine iconstV X3.here hexec rfl 0 (hb hbytes d7) (by decide) ?_
    refine XS.iloadN X3.here hexec rfl (hb hbytes d8) rfl ?_
    exact Steps.refl _)
  obtain ⟨v6, T6, X6, E6, g6⟩ := X3.callS hexec (Cmp5.law l b A s.heap.size B3 o 0 len) hown (wks W (staticW U16 115 Cmp5.yN)) (wk W Cmp5.tab) (W := 0) (Nat.le_of_ble_eq_true rfl) (Nat.le_of_ble_eq_true rfl) (Nat.le_refl _) (by show 0 + len + 0 ≤ len; omega) (g := (mkF m 9 #[.val (.ref b), .val (.int (Int32.ofNat o)), .val (.int (Int32.ofNat len)), .val (.ref s.heap.size), .unset, .unset] [.int (Int32.ofNat len), .int (Int32.ofNat 0), .ref s.heap.size, .int (Int32.ofNat o), .ref b])) rfl (by rw [hml]; rfl) c5 (argsL := [.ref b, .int (Int32.ofNat o), .ref s.heap.size, .int (Int32.ofNat 0), .int (Int32.ofNat len)]) (rest := []) rfl rfl (by show 2 * 0 + 0 ≤ _; decide) (hb hbytes d9) (⟨rfl, hA3, ba3, hne, l1, by rw [bs3]; simp, hp⟩)
  obtain ⟨rfl, B6, p6, f6⟩ := E6
  have c7 : Steps p.tables e below (s₁.setTop (entryFrame m #[.ref b, .int (Int32.ofNat o), .int (Int32.ofNat len)] 6)) (T6.setTop (mkF m 12 #[.val (.ref b), .val (.int (Int32.ofNat o)), .val (.int (Int32.ofNat len)), .val (.ref s.heap.size), .unset, .unset] [.int (Int32.ofNat len)])) := g6
  have c8 : Steps p.tables e below (s₁.setTop (entryFrame m #[.ref b, .int (Int32.ofNat o), .int (Int32.ofNat len)] 6)) (T6.setTop (mkF m 58 #[.val (.ref b), .val (.int (Int32.ofNat o)), .val (.int (Int32.ofNat len)), .val (.ref s.heap.size), .val (.int (Int32.ofNat len)), .unset] [.ref s.heap.size])) := c7.trans (by
    refine XS.istore X6.here hexec rfl (hb hbytes d12) rfl rfl ?_
    refine XS.iload X6.here hexec rfl (hb hbytes d14) rfl ?_
    refine XS.iloadN X6.here hexec rfl (hb hbytes d16) rfl ?_
    refine XS.icmpYes X6.here hexec rfl (pc0 := 17) rfl (hb hbytes d17) rfl (ii_eq_t rfl) (by decide) rfl ?_
    refine XS.aloadN X6.here hexec rfl (hb hbytes d57) rfl rfl ?_
    exact Steps.refl _)
  have X8 := X6.wide (L' := []) (cells' := 1) (slots' := len) (fun x hx hlt => by
    simp only [List.nil_append, copyLocs, List.mem_map, List.mem_range] at hx
    obtain ⟨i, -, rfl⟩ := hx
    exact absurd hlt (Nat.lt_irrefl _)) (Nat.le_refl _) (by omega)
  exact ⟨T6, some (.ref s.heap.size), _, _, _, X8, rfl, rfl, rfl, (fun h => by cases h), ⟨⟨rfl, B6, ba3.like (X3.warmed.alike.symm.trans X6.warmed.alike) p6.1 f6.1 f6.2.1 f6.2.2.1, f6.2.1.trans bv3, by rw [X6.warmed.alike.findClass, f6.1]; exact bf3, by rw [f6.2.2.1, bs3]; simp, fun j hj => by rw [f6.2.2.2 j, if_pos (by omega)]; rfl, kp3.put p6 (Nat.le_refl _)⟩, by rw [p6.2.2, bh3, hh0]; simp⟩, fun fs hl => c8.trans (X8.areturnOut hexec rfl hret rfl (hb hbytes d58) hl)⟩
end Cmp3
namespace CodL
def yN : MethodName := ⟨"java/lang/StringUTF16", "coderFromArrayLen", "([BI)B"⟩
abbrev yB : ByteArray := jdk_52_method_15_code
theorem d0 : decode yB 0 = .ok (.iload_n 1, 1) := by decide +kernel
theorem d1 : decode yB 1 = .ok (.aload_n 0, 1) := by decide +kernel
theorem d2 : decode yB 2 = .ok (.arraylength, 1) := by decide +kernel
theorem d3 : decode yB 3 = .ok (.isub, 1) := by decide +kernel
theorem d4 : decode yB 4 = .ok (.bipush 31, 2) := by decide +kernel
theorem d6 : decode yB 6 = .ok (.iushr, 1) := by decide +kernel
theorem d7 : decode yB 7 = .ok (.i2b, 1) := by decide +kernel
theorem d8 : decode yB 8 = .ok (.ireturn, 1) := by decide +kernel
def site : List Cond := []
def tab : Cond := tabOf yN yB 2 (some .byte) site
def P (d : Addr) (B : Cell) (args : Array Value) (s : State) : Prop := args = #[.ref d, .int (Int32.ofNat B.slots.size)] ∧ Arr .byte d B s
def E (r : Option Value) (s u : State) : Prop := XT.PureE (some (.int 0)) r s u
/-- an array as long as the number of chars: LATIN1 -/
theorem law (l : Launch) (d : Addr) (B : Cell) : Law l yN 2 2 0 0 yB 2 (some .byte) site (P d B) E [] 0 0 := by
  refine Law.of_walk (plainFor_of_name (by decide +kernel)) (by decide +kernel) (by decide +kernel) (by decide) (fun _ _ h => by rw [h.1]; rfl) (fun _ U U' hal hh h => ⟨h.1, h.2.mv hal hh⟩) (fun r U U' V V' h1 hal h2 h => XT.PureE.mv r U U' V V' h1 hal h2 h) ?_
  intro p e s m args below meth c s₁ X0 hexec hbytes hml hret hlk hnm hown hh0 W hP
  obtain ⟨rfl, hB⟩ := hP
  have hB0 := hB.mv X0.warmed.alike hh0
  have c1 : Steps p.tables e below (s₁.setTop (entryFrame m #[.ref d, .int (Int32.ofNat B.slots.size)] 2)) (s₁.setTop (mkF m 0 #[.val (.ref d), .val (.int (Int32.ofNat B.slots.size))] [])) := entry rfl
  have c2 : Steps p.tables e below (s₁.setTop (entryFrame m #[.ref d, .int (Int32.ofNat B.slots.size)] 2)) (s₁.setTop (mkF m 2 #[.val (.ref d), .val (.int (Int32.ofNat B.slots.size))] [.ref d, .int (Int32.ofNat B.slots.size)])) := c1.trans (by
    refine XS.iloadN X0.here hexec rfl (hb hbytes d0) rfl ?_
    refine XS.aloadN X0.here hexec rfl (hb hbytes d1) rfl rfl ?_
    exact Steps.refl _)
  have c3 : Steps p.tables e below (s₁.setTop (entryFrame m #[.ref d, .int (Int32.ofNat B.slots.size)] 2)) (s₁.setTop (mkF m 8 #[.val (.ref d), .val (.int (Int32.ofNat B.slots.size))] [.int (lo8 (ushr (Int32.ofNat B.slots.size - Int32.ofNat B.slots.size) 31))])) := c2.trans (by
    refine X0.alen hexec hB0 rfl rfl (hb hbytes d2) ?_
    refine XS.isub X0.here hexec rfl (hb hbytes d3) rfl ?_
    refine bipushV X0.here hexec rfl 31 (hb hbytes d4) (by decide) ?_
    refine iushr X0.here hexec rfl (hb hbytes d6) rfl ?_
    refine i2b X0.here hexec rfl (hb hbytes d7) rfl ?_
    exact Steps.refl _)
  have e0 : lo8 (ushr (Int32.ofNat B.slots.size - Int32.ofNat B.slots.size) 31) = 0 := by rw [Int32.sub_self]; decide
  rw [e0] at c3
  exact ⟨s₁, some (.int 0), _, _, _, X0, rfl, rfl, rfl, (fun h => by cases h), ⟨rfl, hh0⟩, fun fs hl => c3.trans (X0.ireturnOut hexec hret rfl (Or.inr (Or.inr (Or.inl rfl))) (hb hbytes d8) hl)⟩
end CodL
/-- the String at a is Latin-1 over a new byte[] (the heap's one new cell): the low bytes of the len chars of A from o on; every cell but a is kept -/
def Got (a : Addr) (D : Cell) (fV fC : Field) (A : Cell) (o len : Nat) (r : Option Value) (s u : State) : Prop := r = none ∧ ∃ D' V : Cell, Blank "java/lang/String" a D' u ∧ Same D D' [fV.slot, fC.slot] ∧ D'.slots[fV.slot]? = some (.ref s.heap.size) ∧ D'.slots[fC.slot]? = some (.int 0) ∧ Arr .byte s.heap.size V u ∧ V.vm = .none ∧ u.vm.findClass "[B" = some V.cls ∧ V.slots.size = len ∧ (∀ j, j < len → V.slots[j]? = some (.int (lo8 (cv A (o + j))))) ∧ (∀ (y : Addr) (c : Cell), y ≠ a → s.heap[y]? = some c → u.heap[y]? = some c) ∧ u.heap.size = s.heap.size + 1
theorem Got.mv {a : Addr} {D A : Cell} {fV fC : Field} {o len : Nat} : ∀ r (U U' V V' : State), U'.heap = U.heap → V.vm.Alike V'.vm → V'.heap = V.heap → Got a D fV fC A o len r U V → Got a D fV fC A o len r U' V' :=
  fun r U U' V V' h1 hal h2 ⟨e0, D', X, a1, a2, a3, a4, a5, a6, a7, a8, a9, a10, a11⟩ => ⟨e0, D', X, a1.mv hal h2, a2, by rw [h1]; exact a3, a4, by rw [h1]; exact a5.mv hal h2, a6, by rw [hal.findClass]; exact a7, a8, a9, by rw [h1, h2]; exact a10, by rw [h1, h2]; exact a11⟩
namespace New4
def yN : MethodName := ⟨"java/lang/String", "<init>", "([CIILjava/lang/Void;)V"⟩
abbrev yB : ByteArray := jdk_42_method_149_code
theorem d0 : decode yB 0 = .ok (.aload_n 0, 1) := by decide +kernel
theorem d1 : decode yB 1 = .ok (.invokespecial 1, 3) := by decide +kernel
theorem d4 : decode yB 4 = .ok (.iload_n 3, 1) := by decide +kernel
theorem d5 : decode yB 5 = .ok (.ifCond (.ne) 22, 3) := by decide +kernel
theorem d27 : decode yB 27 = .ok (.getstatic 38, 3) := by decide +kernel
theorem d30 : decode yB 30 = .ok (.ifCond (.eq) 28, 3) := by decide +kernel
theorem d33 : decode yB 33 = .ok (.aload_n 1, 1) := by decide +kernel
theorem d34 : decode yB 34 = .ok (.iload_n 2, 1) := by decide +kernel
theorem d35 : decode yB 35 = .ok (.iload_n 3, 1) := by decide +kernel
theorem d36 : decode yB 36 = .ok (.invokestatic 177, 3) := by decide +kernel
theorem d39 : decode yB 39 = .ok (.astore 5, 2) := by decide +kernel
theorem d41 : decode yB 41 = .ok (.aload_n 0, 1) := by decide +kernel
theorem d42 : decode yB 42 = .ok (.aload 5, 2) := by decide +kernel
theorem d44 : decode yB 44 = .ok (.iload_n 3, 1) := by decide +kernel
theorem d45 : decode yB 45 = .ok (.invokestatic 47, 3) := by decide +kernel
theorem d48 : decode yB 48 = .ok (.putfield 15, 3) := by decide +kernel
theorem d51 : decode yB 51 = .ok (.aload_n 0, 1) := by decide +kernel
theorem d52 : decode yB 52 = .ok (.aload 5, 2) := by decide +kernel
theorem d54 : decode yB 54 = .ok (.putfield 9, 3) := by decide +kernel
theorem d57 : decode yB 57 = .ok (.return_, 1) := by decide +kernel
def site : List Cond := [.fieldLink "java/lang/String" 38 "java/lang/String" "COMPACT_STRINGS" "Z", Cmp3.tab, CodL.tab, .laysFinal "java/lang/String" "java/lang/String" "value" "[B", .fieldLink "java/lang/String" 9 "java/lang/String" "value" "[B", .laysFinal "java/lang/String" "java/lang/String" "coder" "B", .fieldLink "java/lang/String" 15 "java/lang/String" "coder" "B"] ++ objW "java/lang/String" 1 ++ staticW "java/lang/String" 177 Cmp3.yN ++ staticW "java/lang/String" 47 CodL.yN
def tab : Cond := tabOf yN yB 6 none site
def P (a : Addr) (D : Cell) (fV fC : Field) (b : Addr) (A : Cell) (z : Int32) (o len : Nat) (args : Array Value) (s : State) : Prop := args = #[.ref a, .ref b, .int (Int32.ofNat o), .int (Int32.ofNat len), .null] ∧ Blank "java/lang/String" a D s ∧ Found "java/lang/String" "value" "[B" fV s ∧ Found "java/lang/String" "coder" "B" fC s ∧ Ch b A s ∧ StaticIs s "java/lang/String" "COMPACT_STRINGS" "Z" (.int z) ∧ ¬ z = 0 ∧ 0 < len ∧ o + len ≤ A.slots.size ∧ len ≤ 536870912 ∧ ∀ i, i < len → ¬ 255 < cv A (o + i)
def E (a : Addr) (D : Cell) (fV fC : Field) (A : Cell) (o len : Nat) (r : Option Value) (s u : State) : Prop := Got a D fV fC A o len r s u
/-- len > 0, no char of the range above 255: a Latin-1 String of their low bytes -/
theorem law (l : Launch) (a : Addr) (D : Cell) (fV fC : Field) (b : Addr) (A : Cell) (z : Int32) (o len : Nat) : Law l yN 5 4 2 35 yB 6 none site (P a D fV fC b A z o len) (E a D fV fC A o len) [⟨a, fC.slot⟩, ⟨a, fV.slot⟩] 1 len := by
  refine Law.of_walk (plainFor_of_name (by decide +kernel)) (by decide +kernel) (by decide +kernel) (by decide) (fun _ _ h => by rw [h.1]; rfl) (fun _ U U' hal hh h => ⟨h.1, h.2.1.mv hal hh, h.2.2.1.al hal, h.2.2.2.1.al hal, h.2.2.2.2.1.mv hal hh, h.2.2.2.2.2.1.there hal hh, h.2.2.2.2.2.2⟩) (fun r U U' V V' h1 hal h2 h => Got.mv r U U' V V' h1 hal h2 h) ?_
  intro p e s m args below meth c s₁ X0 hexec hbytes hml hret hlk hnm hown hh0 W hP
  obtain ⟨rfl, hB, f1, f2, hA, s1, hz, l0, l1, l2, hp⟩ := hP
  have a31 := hA.1.2.2.2
  have c1 : Steps p.tables e below (s₁.setTop (entryFrame m #[.ref a, .ref b, .int (Int32.ofNat o), .int (Int32.ofNat len), .null] 6)) (s₁.setTop (mkF m 0 #[.val (.ref a), .val (.ref b), .val (.int (Int32.ofNat o)), .val (.int (Int32.ofNat len)), .val .null, .unset] [])) := entry rfl
  have c2 : Steps p.tables e below (s₁.setTop (entryFrame m #[.ref a, .ref b, .int (Int32.ofNat o), .int (Int32.ofNat len), .null] 6)) (s₁.setTop (mkF m 1 #[.val (.ref a), .val (.ref b), .val (.int (Int32.ofNat o)), .val (.int (Int32.ofNat len)), .val .null, .unset] [.ref a])) := c1.trans (by
    refine XS.aloadN X0.here hexec rfl (hb hbytes d0) rfl rfl ?_
    exact Steps.refl _)
  obtain ⟨T3, X3, q3, st3⟩ := X0.oinit hexec hown (wks W (objW "java/lang/String" 1)) (g := (mkF m 1 #[.val (.ref a), .val (.ref b), .val (.int (Int32.ofNat o)), .val (.int (Int32.ofNat len)), .val .null, .unset] [.ref a])) rfl (by rw [hml]; rfl) (rest := []) rfl (hb hbytes d1) (W := 0) (by show 2 * 0 + 0 ≤ _; decide) (Nat.le_of_ble_eq_true rfl) (Nat.le_of_ble_eq_true rfl)
  have hh3 := q3.trans hh0
  have c4 : Steps p.tables e below (s₁.setTop (entryFrame m #[.ref a, .ref b, .int (Int32.ofNat o), .int (Int32.ofNat len), .null] 6)) (T3.setTop (mkF m 27 #[.val (.ref a), .val (.ref b), .val (.int (Int32.ofNat o)), .val (.int (Int32.ofNat len)), .val .null, .unset] [])) := (c2.trans (st3 _ (Steps.refl _))).trans (by
    refine XS.iloadN X3.here hexec rfl (hb hbytes d4) rfl ?_
    refine XS.ifYes X3.here hexec rfl (pc0 := 5) rfl (hb hbytes d5) rfl (i0_ne_t (nz32 (by omega) l0)) (by decide) rfl ?_
    exact Steps.refl _)
  obtain ⟨T5, X5, q5, st5⟩ := X3.sget hexec hown (wk W (.fieldLink "java/lang/String" 38 "java/lang/String" "COMPACT_STRINGS" "Z")) s1 (fun _ _ h => by rw [hh3]; exact h) (g := (mkF m 27 #[.val (.ref a), .val (.ref b), .val (.int (Int32.ofNat o)), .val (.int (Int32.ofNat len)), .val .null, .unset] [])) rfl (hb hbytes d27)
  have hh5 := q5.trans hh3
  have c6 : Steps p.tables e below (s₁.setTop (entryFrame m #[.ref a, .ref b, .int (Int32.ofNat o), .int (Int32.ofNat len), .null] 6)) (T5.setTop (mkF m 30 #[.val (.ref a), .val (.ref b), .val (.int (Int32.ofNat o)), .val (.int (Int32.ofNat len)), .val .null, .unset] [.int z])) := c4.trans (st5 _ (Steps.refl _))
  have c7 : Steps p.tables e below (s₁.setTop (entryFrame m #[.ref a, .ref b, .int (Int32.ofNat o), .int (Int32.ofNat len), .null] 6)) (T5.setTop (mkF m 36 #[.val (.ref a), .val (.ref b), .val (.int (Int32.ofNat o)), .val (.int (Int32.ofNat len)), .val .null, .unset] [.int (Int32.ofNat len), .int (Int32.ofNat o), .ref b])) := c6.trans (by
    refine XS.ifNo X5.here hexec rfl (hb hbytes d30) rfl (i0_eq_f hz) ?_
    refine XS.aloadN X5.here hexec rfl (hb hbytes d33) rfl rfl ?_
    refine XS.iloadN X5.here hexec rfl (hb hbytes d34) rfl ?_
    refine XS.iloadN X5.here hexec rfl (hb hbytes d35) rfl ?_
    exact Steps.refl _)
  obtain ⟨v8, T8, X8, E8, g8⟩ := X5.callS hexec (Cmp3.law l b A o len) hown (wks W (staticW "java/lang/String" 177 Cmp3.yN)) (wk W Cmp3.tab) (W := 0) (Nat.le_of_ble_eq_true rfl) (Nat.le_of_ble_eq_true rfl) (Nat.le_refl _) (by show 0 + len ≤ len; omega) (g := (mkF m 36 #[.val (.ref a), .val (.ref b), .val (.int (Int32.ofNat o)), .val (.int (Int32.ofNat len)), .val .null, .unset] [.int (Int32.ofNat len), .int (Int32.ofNat o), .ref b])) rfl (by rw [hml]; rfl) c7 (argsL := [.ref b, .int (Int32.ofNat o), .int (Int32.ofNat len)]) (rest := []) rfl rfl (by show 2 * 0 + 0 ≤ _; decide) (hb hbytes d36) (⟨rfl, hA.mv X5.warmed.alike hh5, l1, l2, hp⟩)
  obtain ⟨e8, z8⟩ := E8
  obtain ⟨rfl, N, n1, n2, n3, n4, n5, n6⟩ := NewArr.mv _ T5 s _ _ hh5.symm (Vm.Alike.refl _) rfl e8
  rw [hh5] at z8
  have hB1 := hB.keep X8.warmed.alike (n6 _ _ hB.1)
  have hne : s.heap.size ≠ a := (Nat.ne_of_lt (Array.getElem?_eq_some_iff.mp hB.1).1).symm
  have c9 : Steps p.tables e below (s₁.setTop (entryFrame m #[.ref a, .ref b, .int (Int32.ofNat o), .int (Int32.ofNat len), .null] 6)) (T8.setTop (mkF m 39 #[.val (.ref a), .val (.ref b), .val (.int (Int32.ofNat o)), .val (.int (Int32.ofNat len)), .val .null, .unset] [.ref s.heap.size])) := g8
  have c10 : Steps p.tables e below (s₁.setTop (entryFrame m #[.ref a, .ref b, .int (Int32.ofNat o), .int (Int32.ofNat len), .null] 6)) (T8.setTop (mkF m 45 #[.val (.ref a), .val (.ref b), .val (.int (Int32.ofNat o)), .val (.int (Int32.ofNat len)), .val .null, .val (.ref s.heap.size)] [.int (Int32.ofNat N.slots.size), .ref s.heap.size, .ref a])) := by
    have hc : Steps p.tables e below (s₁.setTop (entryFrame m #[.ref a, .ref b, .int (Int32.ofNat o), .int (Int32.ofNat len), .null] 6)) (T8.setTop (mkF m 45 #[.val (.ref a), .val (.ref b), .val (.int (Int32.ofNat o)), .val (.int (Int32.ofNat len)), .val .null, .val (.ref s.heap.size)] [.int (Int32.ofNat len), .ref s.heap.size, .ref a])) := c9.trans (by
      refine XS.astore X8.here hexec rfl (hb hbytes d39) rfl rfl rfl ?_
      refine XS.aloadN X8.here hexec rfl (hb hbytes d41) rfl rfl ?_
      refine XS.aload X8.here hexec rfl (hb hbytes d42) rfl rfl ?_
      refine XS.iloadN X8.here hexec rfl (hb hbytes d44) rfl ?_
      exact Steps.refl _)
    rw [n4]; exact hc
  obtain ⟨v11, T11, X11, E11, g11⟩ := X8.callS hexec (CodL.law l s.heap.size N) hown (wks W (staticW "java/lang/String" 47 CodL.yN)) (wk W CodL.tab) (W := 1) (Nat.le_of_ble_eq_true rfl) (Nat.le_of_ble_eq_true rfl) (Nat.le_refl _) (by show 0 + len + 0 ≤ len; omega) (g := (mkF m 45 #[.val (.ref a), .val (.ref b), .val (.int (Int32.ofNat o)), .val (.int (Int32.ofNat len)), .val .null, .val (.ref s.heap.size)] [.int (Int32.ofNat N.slots.size), .ref s.heap.size, .ref a])) rfl (by rw [hml]; rfl) c10 (argsL := [.ref s.heap.size, .int (Int32.ofNat N.slots.size)]) (rest := [.ref a]) rfl rfl (by show 2 * 0 + (1 + 0) ≤ _; decide) (hb hbytes d45) (⟨rfl, n1⟩)
  obtain ⟨rfl, q11⟩ := E11
  have hB11 := hB1.mv (X8.warmed.alike.symm.trans X11.warmed.alike) q11
  have c12 : Steps p.tables e below (s₁.setTop (entryFrame m #[.ref a, .ref b, .int (Int32.ofNat o), .int (Int32.ofNat len), .null] 6)) (T11.setTop (mkF m 48 #[.val (.ref a), .val (.ref b), .val (.int (Int32.ofNat o)), .val (.int (Int32.ofNat len)), .val .null, .val (.ref s.heap.size)] [.int 0, .ref a])) := g11
  obtain ⟨T13, X13, p13, bl13, sl13, st13⟩ := X11.finit hexec hown (wk W (.fieldLink "java/lang/String" 15 "java/lang/String" "coder" "B")) (Or.inr ⟨_, (wk W (.laysFinal "java/lang/String" "java/lang/String" "coder" "B"))⟩) (Or.inl ⟨rfl, hnm⟩) f2 (Or.inl rfl) hB11 (t := .byte) (by decide +kernel) rfl (g := (mkF m 48 #[.val (.ref a), .val (.ref b), .val (.int (Int32.ofNat o)), .val (.int (Int32.ofNat len)), .val .null, .val (.ref s.heap.size)] [.int 0, .ref a])) rfl (rest := []) rfl (hb hbytes d48)
  have c14 : Steps p.tables e below (s₁.setTop (entryFrame m #[.ref a, .ref b, .int (Int32.ofNat o), .int (Int32.ofNat len), .null] 6)) (T13.setTop (mkF m 54 #[.val (.ref a), .val (.ref b), .val (.int (Int32.ofNat o)), .val (.int (Int32.ofNat len)), .val .null, .val (.ref s.heap.size)] [.ref s.heap.size, .ref a])) := (c12.trans (st13 _ (Steps.refl _))).trans (by
    refine XS.aloadN X13.here hexec rfl (hb hbytes d51) rfl rfl ?_
    refine XS.aload X13.here hexec rfl (hb hbytes d52) rfl rfl ?_
    exact Steps.refl _)
  obtain ⟨T15, X15, p15, bl15, sl15, st15⟩ := X13.finit hexec hown (wk W (.fieldLink "java/lang/String" 9 "java/lang/String" "value" "[B")) (Or.inr ⟨_, (wk W (.laysFinal "java/lang/String" "java/lang/String" "value" "[B"))⟩) (Or.inl ⟨rfl, hnm⟩) f1 (Or.inl rfl) bl13 (t := (.array .byte)) (by decide +kernel) rfl (g := (mkF m 54 #[.val (.ref a), .val (.ref b), .val (.int (Int32.ofNat o)), .val (.int (Int32.ofNat len)), .val .null, .val (.ref s.heap.size)] [.ref s.heap.size, .ref a])) rfl (rest := []) rfl (hb hbytes d54)
  have c16 : Steps p.tables e below (s₁.setTop (entryFrame m #[.ref a, .ref b, .int (Int32.ofNat o), .int (Int32.ofNat len), .null] 6)) (T15.setTop (mkF m 57 #[.val (.ref a), .val (.ref b), .val (.int (Int32.ofNat o)), .val (.int (Int32.ofNat len)), .val .null, .val (.ref s.heap.size)] [])) := c14.trans (st15 _ (Steps.refl _))
  have ap := apart (Or.inr ⟨_, (wk W (.laysFinal "java/lang/String" "java/lang/String" "value" "[B"))⟩) (Or.inr ⟨_, (wk W (.laysFinal "java/lang/String" "java/lang/String" "coder" "B"))⟩) f1 f2 (t₁ := .array .byte) (t₂ := .byte) (by decide +kernel) (by decide +kernel) (by decide)
  have al := X8.warmed.alike.symm.trans X15.warmed.alike
  have n7 : T11.heap[s.heap.size]? = some N := by rw [q11]; exact n1.1
  exact ⟨T15, none, _, _, _, X15, by simp, rfl, by omega, (fun _ => rfl), ⟨rfl, _, N, bl15, ((Same.refl D _).set _ (by simp)).set _ (by simp), sl15, (Cell.slots_setSlot_ne _ ap).trans sl13, n1.keep al (p15.other hne (p13.other hne n7)), n2, by rw [al.findClass]; exact n3, n4, n5, fun y c h1 h2 => p15.other h1 (p13.other h1 (by rw [q11]; exact n6 y c h2)), by rw [p15.2.2, p13.2.2, q11]; exact z8⟩, fun fs hl => c16.trans (X15.returnOut hexec hret (hb hbytes d57) hl)⟩
end New4
namespace New1
def yN : MethodName := ⟨"java/lang/String", "<init>", "([C)V"⟩
abbrev yB : ByteArray := jdk_42_method_3_code
theorem d0 : decode yB 0 = .ok (.aload_n 0, 1) := by decide +kernel
theorem d1 : decode yB 1 = .ok (.aload_n 1, 1) := by decide +kernel
theorem d2 : decode yB 2 = .ok (.iconst 0, 1) := by decide +kernel
theorem d3 : decode yB 3 = .ok (.aload_n 1, 1) := by decide +kernel
theorem d4 : decode yB 4 = .ok (.arraylength, 1) := by decide +kernel
theorem d5 : decode yB 5 = .ok (.aconst_null, 1) := by decide +kernel
theorem d6 : decode yB 6 = .ok (.invokespecial 27, 3) := by decide +kernel
theorem d9 : decode yB 9 = .ok (.return_, 1) := by decide +kernel
def site : List Cond := [New4.tab] ++ initW "java/lang/String" 27 New4.yN
def tab : Cond := tabOf yN yB 2 none site
def P (a : Addr) (D : Cell) (fV fC : Field) (b : Addr) (A : Cell) (z : Int32) (args : Array Value) (s : State) : Prop := args = #[.ref a, .ref b] ∧ Blank "java/lang/String" a D s ∧ Found "java/lang/String" "value" "[B" fV s ∧ Found "java/lang/String" "coder" "B" fC s ∧ Ch b A s ∧ StaticIs s "java/lang/String" "COMPACT_STRINGS" "Z" (.int z) ∧ ¬ z = 0 ∧ 0 < A.slots.size ∧ A.slots.size ≤ 536870912 ∧ ∀ i, i < A.slots.size → ¬ 255 < cv A i
def E (a : Addr) (D : Cell) (fV fC : Field) (A : Cell) (r : Option Value) (s u : State) : Prop := Got a D fV fC A 0 A.slots.size r s u
/-- new String(chars), not empty, no char above 255: a Latin-1 String of their low bytes -/
theorem law (l : Launch) (a : Addr) (D : Cell) (fV fC : Field) (b : Addr) (A : Cell) (z : Int32) : Law l yN 2 1 3 52 yB 2 none site (P a D fV fC b A z) (E a D fV fC A) [⟨a, fC.slot⟩, ⟨a, fV.slot⟩] 1 A.slots.size := by
  refine Law.of_walk (plainFor_of_name (by decide +kernel)) (by decide +kernel) (by decide +kernel) (by decide) (fun _ _ h => by rw [h.1]; rfl) (fun _ U U' hal hh h => ⟨h.1, h.2.1.mv hal hh, h.2.2.1.al hal, h.2.2.2.1.al hal, h.2.2.2.2.1.mv hal hh, h.2.2.2.2.2.1.there hal hh, h.2.2.2.2.2.2⟩) (fun r U U' V V' h1 hal h2 h => Got.mv r U U' V V' h1 hal h2 h) ?_
  intro p e s m args below meth c s₁ X0 hexec hbytes hml hret hlk hnm hown hh0 W hP
  obtain ⟨rfl, hB, f1, f2, hA, s1, hz, l0, l2, hp⟩ := hP
  have c1 : Steps p.tables e below (s₁.setTop (entryFrame m #[.ref a, .ref b] 2)) (s₁.setTop (mkF m 0 #[.val (.ref a), .val (.ref b)] [])) := entry rfl
  have c2 : Steps p.tables e below (s₁.setTop (entryFrame m #[.ref a, .ref b] 2)) (s₁.setTop (mkF m 6 #[.val (.ref a), .val (.ref b)] [.null, .int (Int32.ofNat A.slots.size), .int 0, .ref b, .ref a])) := c1.trans (by
    refine XS.aloadN X0.here hexec rfl (hb hbytes d0) rfl rfl ?_
    refine XS.aloadN X0.here hexec rfl (hb hbytes d1) rfl rfl ?_
    refine iconstV X0.here hexec rfl 0 (hb hbytes d2) (by decide) ?_
    refine XS.aloadN X0.here hexec rfl (hb hbytes d3) rfl rfl ?_
    refine X0.alen hexec (hA.1.mv X0.warmed.alike hh0) rfl rfl (hb hbytes d4) ?_
    refine XS.aconstNull X0.here hexec rfl (hb hbytes d5) ?_
    exact Steps.refl _)
  obtain ⟨v3, T3, X3, E3, g3⟩ := X0.callN hexec (New4.law l a D fV fC b A z 0 A.slots.size) rfl hown (wks W (initW "java/lang/String" 27 New4.yN)) (W New4.tab (by simp only [site, List.mem_cons, List.mem_append, true_or, or_true])) (W := 0) (Nat.le_of_ble_eq_true rfl) (Nat.le_of_ble_eq_true rfl) (Nat.le_refl _) (by show 0 + A.slots.size ≤ A.slots.size; omega) (g := (mkF m 6 #[.val (.ref a), .val (.ref b)] [.null, .int (Int32.ofNat A.slots.size), .int (Int32.ofNat 0), .ref b, .ref a])) rfl (by rw [hml]; rfl) c2 (argsL := [.ref b, .int (Int32.ofNat 0), .int (Int32.ofNat A.slots.size), .null]) (rest := []) rfl rfl (by show 2 * 0 + 0 ≤ _; decide) (hb hbytes d6) (⟨rfl, hB.mv X0.warmed.alike hh0, f1.al X0.warmed.alike, f2.al X0.warmed.alike, hA.mv X0.warmed.alike hh0, s1.there X0.warmed.alike hh0, hz, l0, by omega, l2, fun i hi => by rw [Nat.zero_add]; exact hp i hi⟩)
  have e0 := Got.mv _ s₁ s _ _ hh0.symm (Vm.Alike.refl _) rfl E3
  obtain rfl := e0.1
  have c4 : Steps p.tables e below (s₁.setTop (entryFrame m #[.ref a, .ref b] 2)) (T3.setTop (mkF m 9 #[.val (.ref a), .val (.ref b)] [])) := g3
  exact ⟨T3, none, _, _, _, X3, by simp, rfl, by omega, (fun _ => rfl), e0, fun fs hl => c4.trans (X3.returnOut hexec hret (hb hbytes d9) hl)⟩
theorem pays {l : Launch} {R : Room} {p : Program} {e : Env} {below : List Frame} {s : State} {sargs : Array Value} {len W : Nat} (a : Addr) (D : Cell) (fV fC : Field) (b : Addr) (A : Cell) (z : Int32) (htab : tab.before sargs s = true) (hfr : 4 ≤ R.frames) (hlo : W + 65 ≤ R.locals) :
    Back l R p e below s sargs yN len W (fun A₁ a₁ => A₁.cells + 1 ≤ R.cells ∧ A₁.slots + A.slots.size ≤ R.slots ∧ P a D fV fC b A z a₁ A₁.U) (fun A₁ _ v₁ B₁ => E a D fV fC A v₁ A₁.U B₁.U ∧ B₁.locs = A₁.locs ++ [⟨a, fC.slot⟩, ⟨a, fV.slot⟩] ∧ B₁.cells = A₁.cells + 1 ∧ B₁.slots = A₁.slots + A.slots.size) :=
  (law l a D fV fC b A z).pays htab hfr (by omega)
end New1
/-- the byte, read back as charAt reads it, is the char -/
theorem lo8_mask {x : Int32} (h0 : ¬ x < 0) (h1 : ¬ 255 < x) : lo8 x &&& 255 = x := by
  have t : ∀ k : Fin 256, lo8 (Int32.ofNat k.val) &&& 255 = Int32.ofNat k.val := by decide +kernel
  rw [Int32.lt_iff_toInt_lt] at h0 h1
  have e0 : (0 : Int32).toInt = 0 := rfl
  have e1 : (255 : Int32).toInt = 255 := rfl
  obtain ⟨k, hk⟩ : ∃ k : Nat, x.toInt = k := ⟨x.toInt.toNat, by omega⟩
  have hx : x = Int32.ofNat k := Int32.toInt_inj.mp (by rw [hk, Int32.toInt_ofNat_small (by omega)])
  rw [hx]
  exact t ⟨k, by omega⟩
end StrChars
namespace StrChars.Road
open Jvm Sem ClassFile Op Lib Jvm.Stand Jvm.Free Jvm.Free.XT
open Jvm.Lib.Cold (StaticIs)
abbrev ST : String := "java/lang/String"
/-- every table word that New1's law asks, flat -/
abbrev words : List Jvm.Cond := [.code New1.yN New1.yB 2 none, .initialized ST, .methodLink ST 27 New4.yN, .instanceMethod New4.yN,
  .code New4.yN New4.yB 6 none, .fieldLink ST 38 ST "COMPACT_STRINGS" "Z", .laysFinal ST ST "value" "[B", .fieldLink ST 9 ST "value" "[B", .laysFinal ST ST "coder" "B", .fieldLink ST 15 ST "coder" "B",
  .methodLink ST 1 Lib.objectInit, .instanceMethod Lib.objectInit, .code Lib.objectInit ⟨#[0xb1]⟩ 1 none, .methodLink ST 177 Cmp3.yN, .static Cmp3.yN, .methodLink ST 47 CodL.yN, .static CodL.yN,
  .code Cmp3.yN Cmp3.yB 6 (some (.array .byte)), .initialized U16, .arrayClass .byte, .methodLink U16 115 Cmp5.yN, .static Cmp5.yN, .code Cmp5.yN Cmp5.yB 7 (some .int), .code CodL.yN CodL.yB 2 (some .byte)]
theorem tab_of {a : Array Value} {s : State} (h : ∀ w ∈ words, w.before a s = true) : New1.tab.before a s = true := by
  have h5 : Cmp5.tab.before a s = true := unparts (wk h (.code Cmp5.yN Cmp5.yB 7 (some .int))) (wks h (.initialized Cmp5.yN.cls :: Cmp5.site))
  have hc : CodL.tab.before a s = true := unparts (wk h (.code CodL.yN CodL.yB 2 (some .byte))) (wks h (.initialized CodL.yN.cls :: CodL.site))
  have q5 : ∀ w ∈ Cmp5.tab :: words, w.before a s = true := fun w hw => (List.mem_cons.mp hw).elim (fun e => e ▸ h5) (h w)
  have h3 : Cmp3.tab.before a s = true := unparts (wk q5 (.code Cmp3.yN Cmp3.yB 6 (some (.array .byte)))) (wks q5 (.initialized Cmp3.yN.cls :: Cmp3.site))
  have q3 : ∀ w ∈ Cmp3.tab :: CodL.tab :: words, w.before a s = true := fun w hw => (List.mem_cons.mp hw).elim (fun e => e ▸ h3) fun hw => (List.mem_cons.mp hw).elim (fun e => e ▸ hc) (h w)
  have h4 : New4.tab.before a s = true := unparts (wk q3 (.code New4.yN New4.yB 6 none)) (wks q3 (.initialized New4.yN.cls :: New4.site))
  have q4 : ∀ w ∈ New4.tab :: words, w.before a s = true := fun w hw => (List.mem_cons.mp hw).elim (fun e => e ▸ h4) (h w)
  exact unparts (wk q4 (.code New1.yN New1.yB 2 none)) (wks q4 (.initialized New1.yN.cls :: New1.site))
/-- the words ride from the start Z to the walk's own state -/
theorem moved {Z s : State} {a0 args : Array Value} (hZ : Z.Warmed39 s.vm) (hw : ∀ d ∈ words, d.before a0 Z = true) : ∀ d ∈ words, d.before args s = true := fun d hd => by
  have q := hw d hd
  have t : ∀ d ∈ words, d = .arrayClass .byte ∨ (d.onTables && d.keepsFace) = true := by decide +kernel
  rcases t d hd with rfl | t
  · exact RoadKit.mvA hZ q
  · exact RoadKit.mv hZ q t
/-- WHAT COMES BACK, over the tables of the start Z: h the heap at the call, h' behind it -/
def Q (Z : State) (x : Addr) (A : Cell) (h : Heap) (v : Option Value) (h' : Heap) (L : List Loc) : Prop := v = none ∧ (∀ y ∈ L, y.base = x) ∧ RoadKit.Keep h h' [x] ∧ h'.size = h.size + 1 ∧ RoadKit.Exa Z h' x ST ∧ RoadKit.Fld Z h' x ST "value" "[B" (.ref h.size) ∧ RoadKit.Fld Z h' x ST "coder" "B" (.int 0) ∧
  (∃ V : Cell, RoadKit.Arr Z h' h.size V .byte ∧ V.vm = .none ∧ Z.vm.findClass "[B" = some V.cls ∧ V.slots.size = A.slots.size ∧ ∀ j, j < A.slots.size → V.slots[j]? = some (.int (lo8 (cv A j)))) ∧
  ∀ (O n d : String) (w : Value), RoadKit.Fld Z h x O n d w → RoadKit.slotOf Z O n d ≠ RoadKit.slotOf Z ST "value" "[B" → RoadKit.slotOf Z O n d ≠ RoadKit.slotOf Z ST "coder" "B" → RoadKit.Fld Z h' x O n d w
/-- **new String(chars) AT A CALL, IN THE ROAD'S FORM**: for specialBack behind newO: x the fresh String, b the char[] with the cell A -/
theorem back {p : Program} {l : Launch} {e : Env} {R : Room} {s : State} {args : Array Value} {below : List Frame} {len W : Nat} {Z : State} {a0 : Array Value} {h : Heap} (hZ : Z.Warmed39 s.vm) (hw : ∀ d ∈ words, d.before a0 Z = true) {kI : Nat} (wi : (Jvm.Cond.instantiable ST kI).before a0 Z = true)
    {x b : Addr} {A : Cell} {z : Int32} {v0 c0 : Value} (E : RoadKit.Exa Z h x ST) (V : RoadKit.Fld Z h x ST "value" "[B" v0) (C : RoadKit.Fld Z h x ST "coder" "B" c0) (K : RoadKit.Arr Z h b A .char) (hty : Typed .char A) (S : RoadKit.Sta Z h ST "COMPACT_STRINGS" "Z" (.int z)) (hz : ¬ z = 0)
    (l0 : 0 < A.slots.size) (l2 : A.slots.size ≤ 536870912) (hp : ∀ i, i < A.slots.size → ¬ 255 < cv A i) (hfr : 4 ≤ R.frames) (hlo : W + 65 ≤ R.locals) :
    Back l R p e below s args New1.yN len W (fun P a => a = #[.ref x, .ref b] ∧ P.U.heap = h ∧ P.cells + 1 ≤ R.cells ∧ P.slots + A.slots.size ≤ R.slots)
      (fun P _ v B => ∃ L, Q Z x A h v B.U.heap L ∧ B.locs = P.locs ++ L ∧ B.cells = P.cells + 1 ∧ B.slots = P.slots + A.slots.size) := by
  intro m meth c P g ig mk a X hg hsize hdg hW hn hp'
  obtain ⟨rfl, rfl, r1, r2⟩ := hp'
  have al : Z.vm.Alike P.U.vm := hZ.alike.trans X.warmed.alike
  obtain ⟨D, cfV, kV, iV, fV, hD, gV, stV, knV, obV, asV, slV⟩ := id V
  obtain ⟨D', cfC, kC, iC, fC, hD', gC, stC, -, -, asC, slC⟩ := id C
  cases hD.symm.trans hD'
  obtain ⟨D2, kD, e1, e2, e3, e4, e5⟩ := id E
  cases hD.symm.trans e1
  obtain ⟨c2, k2, i1, i2, i3, -⟩ := Cond.instantiable_spec wi
  cases e2.symm.trans i1
  cases e3.symm.trans i2
  obtain ⟨kU, u1, u2⟩ := al.2.2 _ _ e3
  have hB : Blank ST x D P.U := ⟨hD, ⟨knV, fun q hq => by rw [hq] at obV; cases obV⟩, by rw [al.findClass]; exact e2, kU, u1, by rw [u2]; exact i3, by rw [u2]; exact e5 i3⟩
  have F1 : Found ST "value" "[B" fV P.U := ⟨SBG.found_only al ⟨cfV, kV, iV, gV⟩, stV⟩
  have F2 : Found ST "coder" "B" fC P.U := ⟨SBG.found_only al ⟨cfC, kC, iC, gC⟩, stC⟩
  have hA : Ch b A P.U := ⟨⟨K.1, State.isArrayOf_alike al K.2.1, K.2.2, by omega⟩, hty⟩
  have hS : StaticIs P.U ST "COMPACT_STRINGS" "Z" (.int z) := by
    obtain ⟨cfS, iS, kS, fS, st, cS, t1, t2, t3, t4, t5, t6, t7⟩ := S
    exact StaticIs.there (s := { Z with heap := P.U.heap }) ⟨cfS, iS, kS, fS, st, cS, t1, t2, t3, t4, t5, (fun q => by rw [q] at t6; cases t6), t7⟩ al rfl
  obtain ⟨v, B, X', ⟨⟨hv, E', V', q1, q2, q3, q4, q5, q6, q7, q8, q9, q10, q11⟩, hl, hc, hs⟩, st⟩ := New1.pays x D fV fC b A z (tab_of (moved hZ hw)) hfr hlo m meth c P g ig mk _ X hg hsize hdg hW hn ⟨r1, r2, rfl, hB, F1, F2, hA, hS, hz, l0, l2, hp⟩
  have al' : Z.vm.Alike B.U.vm := hZ.alike.trans X'.warmed.alike
  have hsz : E'.slots.size = D.slots.size := by
    obtain ⟨-, -, -, kB, w1, w2, w3⟩ := q1
    obtain ⟨kB', y1, y2⟩ := al'.2.2 _ _ e3
    rw [q2.2.1] at w1
    cases w1.symm.trans y1
    rw [w3, e5 i3, y2]
  refine ⟨v, B, X', ⟨_, ⟨hv, ?_, ⟨by omega, fun y cy hy hn' => q10 y cy (by simpa using hn') hy, fun y cy hy => ?_⟩, q11, ⟨E', _, q1.1, by rw [q2.2.1]; exact e2, by rw [q2.2.1]; exact e3, by rw [q2.1]; exact obV, fun _ => by rw [hsz]; exact e5 i3⟩,
    ⟨E', cfV, kV, iV, fV, q1.1, gV, stV, by rw [q2.1]; exact knV, by rw [q2.1]; exact obV, by rw [q2.2.1]; exact asV, q3⟩, ⟨E', cfC, kC, iC, fC, q1.1, gC, stC, by rw [q2.1]; exact knV, by rw [q2.1]; exact obV, by rw [q2.2.1]; exact asC, q4⟩,
    ⟨V', ⟨q5.1, State.isArrayOf_alike al'.symm q5.2.1, q5.2.2.1⟩, q6, by rw [← al'.findClass]; exact q7, q8, fun j hj => by have := q9 j hj; rwa [Nat.zero_add] at this⟩, fun O n d w F n1 n2 => ?_⟩, hl, hc, hs⟩, st⟩
  · intro y hy
    simp only [List.mem_cons, List.not_mem_nil, or_false] at hy
    rcases hy with rfl | rfl <;> rfl
  · by_cases q : y = x
    · subst q
      cases hD.symm.trans hy
      exact ⟨E', q1.1, q2.2.1, q2.1, hsz⟩
    · exact ⟨cy, q10 y cy q hy, rfl, rfl, rfl⟩
  · obtain ⟨D3, cf, k, i, f, g1, g2, g3, g4, g5, g6, g7⟩ := F
    cases hD.symm.trans g1
    simp only [RoadKit.slotOf, g2, gV, gC, Option.map_some, Option.getD_some] at n1 n2
    exact ⟨E', cf, k, i, f, q1.1, g2, g3, by rw [q2.1]; exact g4, by rw [q2.1]; exact g5, by rw [q2.2.1]; exact g6, by rw [q2.2.2 f.slot (by simp [n1, n2])]; exact g7⟩
end StrChars.Road
namespace StrChars.Road
open Jvm Sem ClassFile Op Lib Jvm.Stand Jvm.Free Jvm.Free.XT
/-- WHAT COMES BACK, the byte[] as a list of values -/
def QA (Z : State) (x : Addr) (zn : Int32) (cs : List Int32) (h : Heap) (v : Option Value) (h' : Heap) (L : List Loc) : Prop := v = none ∧ (∀ y ∈ L, y.base = x) ∧ RoadKit.Keep h h' [x] ∧ h'.size = h.size + 1 ∧ RoadKit.Exa Z h' x ST ∧ RoadKit.Fld Z h' x ST "value" "[B" (.ref h.size) ∧ RoadKit.Fld Z h' x ST "coder" "B" (.int 0) ∧
  (∃ kb, Z.vm.findClass "[B" = some kb ∧ RoadKit.Arv Z h' h.size kb .byte zn (cs.map fun c => .int (lo8 c)) (.int 0)) ∧
  ∀ (O n d : String) (w : Value), RoadKit.Fld Z h x O n d w → RoadKit.slotOf Z O n d ≠ RoadKit.slotOf Z ST "value" "[B" → RoadKit.slotOf Z O n d ≠ RoadKit.slotOf Z ST "coder" "B" → RoadKit.Fld Z h' x O n d w
/-- **new String(chars) AT A CALL, THE ARRAYS AS LISTS**: the char[] at b holds cs, not empty, no char above 255 -/
theorem backArv {p : Program} {l : Launch} {e : Env} {R : Room} {s : State} {args : Array Value} {below : List Frame} {len W : Nat} {Z : State} {a0 : Array Value} {h : Heap} (hZ : Z.Warmed39 s.vm) (hw : ∀ d ∈ words, d.before a0 Z = true) {kI : Nat} (wi : (Jvm.Cond.instantiable ST kI).before a0 Z = true)
    {x b : Addr} {k : ClassId} {zn z : Int32} {cs : List Int32} {dv v0 c0 : Value} (E : RoadKit.Exa Z h x ST) (V : RoadKit.Fld Z h x ST "value" "[B" v0) (C : RoadKit.Fld Z h x ST "coder" "B" c0) (K : RoadKit.Arv Z h b k .char zn (cs.map Value.int) dv) (S : RoadKit.Sta Z h ST "COMPACT_STRINGS" "Z" (.int z)) (hz : ¬ z = 0)
    (hlen : zn.toNatClampNeg = cs.length) (h0 : 0 < cs.length) (hbig : cs.length ≤ 536870912) (hall : ∀ c ∈ cs, ¬ 255 < c) (hfr : 4 ≤ R.frames) (hlo : W + 65 ≤ R.locals) :
    Back l R p e below s args New1.yN len W (fun P a => a = #[.ref x, .ref b] ∧ P.U.heap = h ∧ P.cells + 1 ≤ R.cells ∧ P.slots + cs.length ≤ R.slots)
      (fun P _ v B => ∃ L, QA Z x zn cs h v B.U.heap L ∧ B.locs = P.locs ++ L ∧ B.cells = P.cells + 1 ∧ B.slots = P.slots + cs.length) := by
  obtain ⟨A, K1, K2, K3, K4, K5, K6⟩ := K
  have e : A.slots.size = cs.length := K3.trans hlen
  have hat : ∀ (i : Nat) (hi : i < cs.length), A.slots[i]? = some (.int cs[i]) := fun i hi => by rw [K5 i (by omega)]; simp [List.getD_eq_getElem?_getD, hi]
  have hcv : ∀ (i : Nat) (hi : i < cs.length), cv A i = cs[i] := fun i hi => by unfold cv; rw [hat i hi]
  have hty : Typed .char A := fun i v hv => by
    have hi : i < A.slots.size := (Array.getElem?_eq_some_iff.mp hv).1
    have q := K5 i hi
    rw [hv] at q
    rw [Option.some.inj q]
    exact K6 i hi
  refine Back.mono (back hZ hw wi E V C K1 hty S hz (by omega) (by omega) (fun i hi => by rw [hcv i (by omega)]; exact hall _ (List.getElem_mem _)) hfr hlo) (fun P a hp => ⟨hp.1, hp.2.1, hp.2.2.1, by rw [e]; exact hp.2.2.2⟩) (fun P a v B hp hq => ?_)
  obtain ⟨L, ⟨q1, q2, q3, q4, q5, q6, q7, ⟨V', v1, v2, v3, v4, v5⟩, q9⟩, hl, hc, hs⟩ := hq
  refine ⟨L, ⟨q1, q2, q3, q4, q5, q6, q7, ⟨V'.cls, v3, V', v1, rfl, by rw [v4, e, hlen], K4, fun i hi => ?_, fun i hi => ?_⟩, q9⟩, hl, hc, by rw [hs, e]⟩
  · have hi' : i < cs.length := by omega
    rw [v5 i (by omega), hcv i hi']; simp [List.getD_eq_getElem?_getD, hi']
  · have hi' : i < cs.length := by omega
    simp only [List.getD_eq_getElem?_getD, List.getElem?_map, List.getElem?_eq_getElem hi', Option.map_some, Option.getD_some]
    exact fits_lo8 _
end StrChars.Road
namespace StrChars.Road
open Jvm Sem ClassFile Op Lib Jvm.Stand Jvm.Free Jvm.Free.XT
/-- WHAT COMES BACK, in the writer's own shape -/
def QV (Z : State) (x : Addr) (N : Int32) (bs : List Int32) (h : Heap) (n0 : Nat) (v : Option Value) (h' : Heap) (L : List Loc) : Prop := v = none ∧ RoadKit.Fr n0 L ∧ RoadKit.Keep h h' [x] ∧ RoadKit.Exa Z h' x ST ∧ RoadKit.Fld Z h' x ST "coder" "B" (.int 0) ∧
  ∃ (t : Addr) (kb : ClassId), n0 ≤ t ∧ h.size ≤ t ∧ ¬ t = x ∧ RoadKit.Fld Z h' x ST "value" "[B" (.ref t) ∧ RoadKit.Arv Z h' t kb .byte N (bs.map Value.int) (.int 0)
/-- **new String(chars) AT A CALL, FOR THE WRITER**: a char[] of n known ints, each 0 to 255 -/
theorem backV {p : Program} {l : Launch} {e : Env} {R : Room} {s : State} {args : Array Value} {below : List Frame} {len W : Nat} {Z : State} {a0 : Array Value} {h : Heap} (hZ : Z.Warmed39 s.vm) (hw : ∀ d ∈ words, d.before a0 Z = true) {kI : Nat} (wi : (Jvm.Cond.instantiable ST kI).before a0 Z = true)
    {x b : Addr} {kC : ClassId} {cs bs : List Int32} {d v0 c0 : Value} {z N : Int32} {n n0 : Nat} (hx0 : n0 ≤ x) (hh0 : n0 ≤ h.size) (E : RoadKit.Exa Z h x ST) (V : RoadKit.Fld Z h x ST "value" "[B" v0) (C : RoadKit.Fld Z h x ST "coder" "B" c0) (K : RoadKit.Arv Z h b kC .char N (cs.map Value.int) d) (S : RoadKit.Sta Z h ST "COMPACT_STRINGS" "Z" (.int z)) (hz : ¬ z = 0)
    (hn : cs.length = n) (hN : N = Int32.ofNat n) (l0 : 0 < n) (l2 : n ≤ 4000) (hp : ∀ c ∈ cs, ¬ c < 0 ∧ ¬ (255 : Int32) < c) (hb : bs = cs.map (fun c => c.toInt8.toInt32)) (hfr : 4 ≤ R.frames) (hlo : W + 65 ≤ R.locals) :
    Back l R p e below s args (⟨"java/lang/String", "<init>", "([C)V"⟩ : MethodName) len W (fun P a => a = #[.ref x, .ref b] ∧ P.U.heap = h ∧ P.cells + 1 ≤ R.cells ∧ P.slots + n ≤ R.slots)
      (fun P _ v B => ∃ L, QV Z x N bs h n0 v B.U.heap L ∧ B.locs = P.locs ++ L ∧ B.cells = P.cells + 1 ∧ B.slots = P.slots + n) := by
  subst hn hN hb
  refine Back.mono (backArv hZ hw wi E V C K S hz (n32 (by omega)) l0 (by omega) (fun c hc => (hp c hc).2) hfr hlo) (fun P a hp => hp) (fun P a v B hp hq => ?_)
  obtain ⟨L, ⟨q1, q2, q3, q4, q5, q6, q7, ⟨kb, v1, v2⟩, q9⟩, hl, hc, hs⟩ := hq
  exact ⟨L, ⟨q1, fun y hy => by rw [q2 y hy]; exact hx0, q3, q5, q7, h.size, kb, hh0, Nat.le_refl _, Nat.ne_of_gt E.lt, q6, by rw [List.map_map]; exact v2⟩, hl, hc, hs⟩
end StrChars.Road
namespace StrChars
open Jvm Sem ClassFile Op Lib Jvm.Stand Jvm.Free.XT Jvm.Free.ALB Jvm.Free.JM Jvm.Free
open Jvm.Lib.Cold (StaticIs)
def hi8 (x : Int32) : Int32 := lo8 (x >>> ((8 : Int32) &&& 31))
/-- what StringUTF16.getChar makes of two bytes -/
def pairCh (u v : Int32) : Int32 := (((u &&& 255) <<< ((0 : Int32) &&& 31)) ||| ((v &&& 255) <<< ((8 : Int32) &&& 31))).toUInt32.toUInt16.toUInt32.toInt32
theorem shr0 (c : Int32) : c >>> ((0 : Int32) &&& 31) = c := by
  have e : ((0 : Int32) &&& 31) = 0 := by decide
  rw [e]
  apply Int32.toBitVec_inj.mp
  rw [Int32.toBitVec_shiftRight]
  have e1 : ((0 : Int32).toBitVec.smod 32) = 0#32 := by decide
  rw [e1, BitVec.sshiftRight_eq']
  exact BitVec.sshiftRight_zero
theorem lo8_and (x : Int32) : (lo8 x &&& 255).toBitVec.toNat = x.toBitVec.toNat % 256 := by
  have h : (lo8 x).toBitVec = (x.toBitVec.signExtend 8).signExtend 32 := by rw [lo8, Int8.toBitVec_toInt32, Int32.toBitVec_toInt8]
  rw [Int32.toBitVec_and, BitVec.toNat_and, h]
  have e : ((x.toBitVec.signExtend 8).signExtend 32).toNat % 256 = x.toBitVec.toNat % 256 := by
    rw [BitVec.toNat_signExtend]
    have hlt := x.toBitVec.isLt
    simp only [BitVec.toNat_setWidth, BitVec.toNat_signExtend]
    split <;> split <;> omega
  rw [← e]
  exact Nat.and_two_pow_sub_one_eq_mod _ 8
theorem pair_says {c : Int32} (h0 : ¬ c < 0) (h1 : ¬ 65535 < c) : pairCh (lo8 c) (hi8 c) = c := by
  rw [Int32.lt_iff_toInt_lt] at h0 h1
  have e0 : (0 : Int32).toInt = 0 := rfl
  have e1 : (65535 : Int32).toInt = 65535 := rfl
  have hc : c.toInt = c.toBitVec.toNat := by
    have := c.toBitVec.isLt
    have e : c.toInt = c.toBitVec.toInt := rfl
    rw [e] at h0 h1
    rw [e]
    rw [BitVec.toInt_eq_toNat_cond] at h0 h1 ⊢
    split at h0 <;> split <;> omega
  have hn : c.toBitVec.toNat < 65536 := by omega
  have a1 := lo8_and c
  have a2 : (hi8 c &&& 255).toBitVec.toNat = c.toBitVec.toNat / 256 := by
    rw [hi8, lo8_and]
    have e : ((8 : Int32) &&& 31) = 8 := by decide
    rw [e, Int32.toBitVec_shiftRight]
    have e2 : ((8 : Int32).toBitVec.smod 32) = 8#32 := by decide
    rw [e2, BitVec.sshiftRight_eq', BitVec.toNat_sshiftRight_of_msb_false (by rw [BitVec.msb_eq_false_iff_two_mul_lt]; omega)]
    show c.toBitVec.toNat >>> 8 % 256 = _
    rw [Nat.shiftRight_eq_div_pow]
    omega
  unfold pairCh
  apply Int32.toBitVec_inj.mp
  apply BitVec.eq_of_toNat_eq
  have f0 : ((0 : Int32) &&& 31) = 0 := by decide
  have f8 : ((8 : Int32) &&& 31) = 8 := by decide
  rw [f0, f8]
  have g : (((lo8 c &&& 255) <<< (0 : Int32)) ||| ((hi8 c &&& 255) <<< (8 : Int32))).toBitVec.toNat = c.toBitVec.toNat := by
    rw [Int32.toBitVec_or, Int32.toBitVec_shiftLeft, Int32.toBitVec_shiftLeft]
    have s0 : ((0 : Int32).toBitVec.smod 32) = 0#32 := by decide
    have s8 : ((8 : Int32).toBitVec.smod 32) = 8#32 := by decide
    rw [s0, s8, BitVec.toNat_or]
    simp only [BitVec.shiftLeft_eq', BitVec.toNat_shiftLeft, a1, a2]
    show (c.toBitVec.toNat % 256) <<< 0 % 2 ^ 32 ||| (c.toBitVec.toNat / 256) <<< 8 % 2 ^ 32 = _
    rw [Nat.shiftLeft_zero, Nat.mod_eq_of_lt (show c.toBitVec.toNat % 256 < 2 ^ 32 by omega), Nat.mod_eq_of_lt (show (c.toBitVec.toNat / 256) <<< 8 < 2 ^ 32 by rw [Nat.shiftLeft_eq]; omega), Nat.or_comm, ← Nat.shiftLeft_add_eq_or_of_lt (by omega), Nat.shiftLeft_eq]
    omega
  show BitVec.toNat (((((lo8 c &&& 255) <<< (0 : Int32)) ||| ((hi8 c &&& 255) <<< (8 : Int32))).toBitVec.setWidth 16).setWidth 32) = _
  rw [BitVec.toNat_setWidth, BitVec.toNat_setWidth, g]
  omega
end StrChars
namespace StrChars
open Jvm Sem ClassFile Op Lib Jvm.Stand Jvm.Free.XT Jvm.Free.ALB Jvm.Free.JM Jvm.Free
open Jvm.Lib.Cold (StaticIs)
theorem shr1 {n : Nat} (h : 2 * n < 2 ^ 31) : Int32.ofNat (2 * n) >>> ((1 : Int32) &&& 31) = Int32.ofNat n := by
  have e : ((1 : Int32) &&& 31) = 1 := by decide
  rw [e]
  apply Int32.toBitVec_inj.mp
  rw [Int32.toBitVec_shiftRight]
  have e1 : ((1 : Int32).toBitVec.smod 32) = 1#32 := by decide
  have hm : (BitVec.ofNat 32 (2 * n)).toNat = 2 * n := by rw [BitVec.toNat_ofNat, Nat.mod_eq_of_lt (by omega)]
  rw [e1, BitVec.sshiftRight_eq']
  apply BitVec.eq_of_toNat_eq
  show ((BitVec.ofNat 32 (2 * n)).sshiftRight 1).toNat = (BitVec.ofNat 32 n).toNat
  rw [BitVec.toNat_sshiftRight_of_msb_false (by rw [BitVec.msb_eq_false_iff_two_mul_lt, hm]; omega), hm, BitVec.toNat_ofNat, Nat.shiftRight_eq_div_pow]
  omega
/-- charAt's cast of a byte read back -/
def chr8 (u : Int32) : Int32 := (u &&& 255).toUInt32.toUInt16.toUInt32.toInt32
theorem chr8_lo8 {c : Int32} (h0 : ¬ c < 0) (h1 : ¬ 255 < c) : chr8 (lo8 c) = c := by
  have t : ∀ k : Fin 256, (Int32.ofNat k.val).toUInt32.toUInt16.toUInt32.toInt32 = Int32.ofNat k.val := by decide +kernel
  unfold chr8
  rw [lo8_mask h0 h1]
  rw [Int32.lt_iff_toInt_lt] at h0 h1
  have e0 : (0 : Int32).toInt = 0 := rfl
  have e1 : (255 : Int32).toInt = 255 := rfl
  obtain ⟨k, hk⟩ : ∃ k : Nat, c.toInt = k := ⟨c.toInt.toNat, by omega⟩
  have hx : c = Int32.ofNat k := Int32.toInt_inj.mp (by rw [hk, Int32.toInt_ofNat_small (by omega)])
  rw [hx]
  exact t ⟨k, by omega⟩
theorem narrow_ch {c : Int32} (h0 : ¬ c < 0) (h1 : ¬ 65535 < c) : narrow .char (.int c) = .int c := by
  have q : narrow .char (.int (pairCh (lo8 c) (hi8 c))) = .int (pairCh (lo8 c) (hi8 c)) := narrow_c _
  rwa [pair_says h0 h1] at q
/-- the array's cell V codes the n chars f 0 .. f (n - 1) by the coder cd, as the JDK does: coder 1 just where some char is above 255 -/
def Cod (cd : Int32) (n : Nat) (f : Nat → Int32) (V : Cell) : Prop := (cd = 0 ∧ V.slots.size = n ∧ ∀ j, j < n → V.slots[j]? = some (.int (lo8 (f j))) ∧ ¬ 255 < f j) ∨ (cd = 1 ∧ V.slots.size = 2 * n ∧ (∀ j, j < n → V.slots[2 * j]? = some (.int (lo8 (f j))) ∧ V.slots[2 * j + 1]? = some (.int (hi8 (f j)))) ∧ ∃ j, j < n ∧ 255 < f j)
theorem Cod.cd {cd : Int32} {n : Nat} {f : Nat → Int32} {V : Cell} (h : Cod cd n f V) : cd = 0 ∨ cd = 1 := h.imp (fun q => q.1) fun q => q.1
theorem Cod.len {cd : Int32} {n : Nat} {f : Nat → Int32} {V : Cell} (h : Cod cd n f V) (hs : V.slots.size < 2 ^ 31) : Int32.ofNat V.slots.size >>> (cd &&& 31) = Int32.ofNat n := by
  rcases h with ⟨rfl, h, -⟩ | ⟨rfl, h, -⟩
  · rw [shr0, h]
  · rw [h, shr1 (by omega)]
/-- **x is a String of the n chars f 0 .. f (n - 1)**, Latin-1 or UTF-16; its array at t has the cell V -/
def Txt (x t : Addr) (V : Cell) (cd : Int32) (n : Nat) (f : Nat → Int32) (U : State) : Prop := Exact "java/lang/String" x U ∧ Has x "java/lang/String" "value" "[B" (.ref t) U ∧ Has x "java/lang/String" "coder" "B" (.int cd) U ∧ XT.Arr .byte t V U ∧ Cod cd n f V ∧ ∀ j, j < n → ¬ f j < 0 ∧ ¬ 65535 < f j
theorem Txt.mv {x t : Addr} {V : Cell} {cd : Int32} {n : Nat} {f : Nat → Int32} {U U' : State} (h : Txt x t V cd n f U) (hal : U.vm.Alike U'.vm) (hh : U'.heap = U.heap) : Txt x t V cd n f U' := ⟨h.1.mv hal hh, h.2.1.mv hal hh, h.2.2.1.mv hal hh, h.2.2.2.1.mv hal hh, h.2.2.2.2⟩
namespace Cdr
def yN : MethodName := ⟨"java/lang/String", "coder", "()B"⟩
abbrev yB : ByteArray := jdk_42_method_152_code
theorem d0 : decode yB 0 = .ok (.getstatic 38, 3) := by decide +kernel
theorem d3 : decode yB 3 = .ok (.ifCond (.eq) 10, 3) := by decide +kernel
theorem d6 : decode yB 6 = .ok (.aload_n 0, 1) := by decide +kernel
theorem d7 : decode yB 7 = .ok (.getfield 15, 3) := by decide +kernel
theorem d10 : decode yB 10 = .ok (.goto 4, 3) := by decide +kernel
theorem d14 : decode yB 14 = .ok (.ireturn, 1) := by decide +kernel
def site : List Cond := [.fieldLink "java/lang/String" 38 "java/lang/String" "COMPACT_STRINGS" "Z", .fieldLink "java/lang/String" 15 "java/lang/String" "coder" "B"]
def tab : Cond := tabOf yN yB 1 (some .byte) site
def P (x : Addr) (cd z : Int32) (args : Array Value) (s : State) : Prop := args = #[.ref x] ∧ Has x "java/lang/String" "coder" "B" (.int cd) s ∧ (cd = 0 ∨ cd = 1) ∧ StaticIs s "java/lang/String" "COMPACT_STRINGS" "Z" (.int z) ∧ ¬ z = 0
def E (cd : Int32) (r : Option Value) (s u : State) : Prop := XT.PureE (some (.int cd)) r s u
theorem law (l : Launch) (x : Addr) (cd z : Int32) : Law l yN 1 0 0 0 yB 1 (some .byte) site (P x cd z) (E cd) [] 0 0 := by
  refine Law.of_walk (plainFor_of_name (by decide +kernel)) (by decide +kernel) (by decide +kernel) (by decide) (fun _ _ h => by rw [h.1]; rfl) (fun _ U U' hal hh h => ⟨h.1, h.2.1.mv hal hh, h.2.2.1, h.2.2.2.1.there hal hh, h.2.2.2.2⟩) (fun r U U' V V' h1 hal h2 h => XT.PureE.mv r U U' V V' h1 hal h2 h) ?_
  intro p e s m args below meth c s₁ X0 hexec hbytes hml hret hlk hnm hown hh0 W hP
  obtain ⟨rfl, hx, hc, s1, hz⟩ := hP
  have c1 : Steps p.tables e below (s₁.setTop (entryFrame m #[.ref x] 1)) (s₁.setTop (mkF m 0 #[.val (.ref x)] [])) := entry rfl
  obtain ⟨T2, X2, q2, st2⟩ := X0.sget hexec hown (wk W (.fieldLink "java/lang/String" 38 "java/lang/String" "COMPACT_STRINGS" "Z")) s1 (fun _ _ h => by rw [hh0]; exact h) (g := (mkF m 0 #[.val (.ref x)] [])) rfl (hb hbytes d0)
  have hh2 := q2.trans hh0
  have c3 : Steps p.tables e below (s₁.setTop (entryFrame m #[.ref x] 1)) (T2.setTop (mkF m 7 #[.val (.ref x)] [.ref x])) := (c1.trans (st2 _ (Steps.refl _))).trans (by
    refine XS.ifNo X2.here hexec rfl (hb hbytes d3) rfl (i0_eq_f hz) ?_
    refine XS.aloadN X2.here hexec rfl (hb hbytes d6) rfl rfl ?_
    exact Steps.refl _)
  obtain ⟨T4, X4, q4, st4⟩ := X2.hget hexec hown (wk W (.fieldLink "java/lang/String" 15 "java/lang/String" "coder" "B")) (hx.mv X2.warmed.alike hh2) (g := (mkF m 7 #[.val (.ref x)] [.ref x])) rfl (rest := []) rfl (hb hbytes d7)
  have c5 : Steps p.tables e below (s₁.setTop (entryFrame m #[.ref x] 1)) (T4.setTop (mkF m 14 #[.val (.ref x)] [.int cd])) := (c3.trans (st4 _ (Steps.refl _))).trans (by
    refine XS.goto X4.here hexec rfl (pc0 := 10) rfl (hb hbytes d10) (by decide) rfl ?_
    exact Steps.refl _)
  exact ⟨T4, some (.int cd), _, _, _, X4, rfl, rfl, rfl, (fun h => by cases h), ⟨rfl, q4.trans hh2⟩, fun fs hl => c5.trans (X4.ireturnOut hexec hret (by rcases hc with rfl | rfl <;> rfl) (Or.inr (Or.inr (Or.inl rfl))) (hb hbytes d14) hl)⟩
end Cdr
namespace Len
def yN : MethodName := ⟨"java/lang/String", "length", "()I"⟩
abbrev yB : ByteArray := jdk_42_method_54_code
theorem d0 : decode yB 0 = .ok (.aload_n 0, 1) := by decide +kernel
theorem d1 : decode yB 1 = .ok (.getfield 9, 3) := by decide +kernel
theorem d4 : decode yB 4 = .ok (.arraylength, 1) := by decide +kernel
theorem d5 : decode yB 5 = .ok (.aload_n 0, 1) := by decide +kernel
theorem d6 : decode yB 6 = .ok (.invokevirtual 335, 3) := by decide +kernel
theorem d9 : decode yB 9 = .ok (.ishr, 1) := by decide +kernel
theorem d10 : decode yB 10 = .ok (.ireturn, 1) := by decide +kernel
def site : List Cond := [.fieldLink "java/lang/String" 9 "java/lang/String" "value" "[B", Cdr.tab] ++ virtW "java/lang/String" 335 "java/lang/String" Cdr.yN Cdr.yN
def tab : Cond := tabOf yN yB 1 (some .int) site
def P (x t : Addr) (V : Cell) (cd : Int32) (n : Nat) (f : Nat → Int32) (z : Int32) (args : Array Value) (s : State) : Prop := args = #[.ref x] ∧ Txt x t V cd n f s ∧ StaticIs s "java/lang/String" "COMPACT_STRINGS" "Z" (.int z) ∧ ¬ z = 0
def E (n : Nat) (r : Option Value) (s u : State) : Prop := XT.PureE (some (.int (Int32.ofNat n))) r s u
/-- length() of a String of n chars, in either coding -/
theorem law (l : Launch) (x t : Addr) (V : Cell) (cd : Int32) (n : Nat) (f : Nat → Int32) (z : Int32) : Law l yN 1 0 1 13 yB 1 (some .int) site (P x t V cd n f z) (E n) [] 0 0 := by
  refine Law.of_walk (plainFor_of_name (by decide +kernel)) (by decide +kernel) (by decide +kernel) (by decide) (fun _ _ h => by rw [h.1]; rfl) (fun _ U U' hal hh h => ⟨h.1, h.2.1.mv hal hh, h.2.2.1.there hal hh, h.2.2.2⟩) (fun r U U' V V' h1 hal h2 h => XT.PureE.mv r U U' V V' h1 hal h2 h) ?_
  intro p e s m args below meth c s₁ X0 hexec hbytes hml hret hlk hnm hown hh0 W hP
  obtain ⟨rfl, hx, s1, hz⟩ := hP
  have v31 := hx.2.2.2.1.2.2.2
  have c1 : Steps p.tables e below (s₁.setTop (entryFrame m #[.ref x] 1)) (s₁.setTop (mkF m 1 #[.val (.ref x)] [.ref x])) := Steps.trans (entry rfl) (by
    show Steps p.tables e below (s₁.setTop (mkF m 0 #[.val (.ref x)] [])) _
    refine XS.aloadN X0.here hexec rfl (hb hbytes d0) rfl rfl ?_
    exact Steps.refl _)
  obtain ⟨T2, X2, q2, st2⟩ := X0.hget hexec hown (wk W (.fieldLink "java/lang/String" 9 "java/lang/String" "value" "[B")) (hx.mv X0.warmed.alike hh0).2.1 (g := (mkF m 1 #[.val (.ref x)] [.ref x])) rfl (rest := []) rfl (hb hbytes d1)
  have hh2 := q2.trans hh0
  have hx2 := hx.mv X2.warmed.alike hh2
  have c3 : Steps p.tables e below (s₁.setTop (entryFrame m #[.ref x] 1)) (T2.setTop (mkF m 6 #[.val (.ref x)] [.ref x, .int (Int32.ofNat V.slots.size)])) := (c1.trans (st2 _ (Steps.refl _))).trans (by
    refine X2.alen hexec hx2.2.2.2.1 rfl rfl (hb hbytes d4) ?_
    refine XS.aloadN X2.here hexec rfl (hb hbytes d5) rfl rfl ?_
    exact Steps.refl _)
  obtain ⟨v4, T4, X4, E4, g4⟩ := X2.callV hexec (Cdr.law l x cd z) hown (wks W (virtW "java/lang/String" 335 "java/lang/String" Cdr.yN Cdr.yN)) rfl (by decide) (wk W Cdr.tab) (W := 1) (Nat.le_of_ble_eq_true rfl) (Nat.le_of_ble_eq_true rfl) (Nat.le_refl _) (Nat.le_refl _) (hx2.1.fc X2.warmed.alike) hx2.1.is (g := (mkF m 6 #[.val (.ref x)] [.ref x, .int (Int32.ofNat V.slots.size)])) rfl (by rw [hml]; rfl) c3 (argsL := []) (rest := [.int (Int32.ofNat V.slots.size)]) rfl rfl (by show 2 * 0 + (1 + 0) ≤ _; decide) (hb hbytes d6) (⟨rfl, hx2.2.2.1, hx.2.2.2.2.1.cd, s1.there X2.warmed.alike hh2, hz⟩)
  obtain ⟨rfl, q4⟩ := E4
  have c5 : Steps p.tables e below (s₁.setTop (entryFrame m #[.ref x] 1)) (T4.setTop (mkF m 10 #[.val (.ref x)] [.int (Int32.ofNat V.slots.size >>> (cd &&& 31))])) := Steps.trans g4 (by
    refine ishr X4.here hexec rfl (hb hbytes d9) rfl ?_
    exact Steps.refl _)
  rw [hx.2.2.2.2.1.len v31] at c5
  exact ⟨T4, some (.int (Int32.ofNat n)), _, _, _, X4, rfl, rfl, rfl, (fun h => by cases h), ⟨rfl, q4.trans hh2⟩, fun fs hl => c5.trans (X4.ireturnOut hexec hret rfl (Or.inl rfl) (hb hbytes d10) hl)⟩
theorem pays {l : Launch} {R : Room} {p : Program} {e : Env} {below : List Frame} {s : State} {sargs : Array Value} {len W : Nat} (x t : Addr) (V : Cell) (cd : Int32) (n : Nat) (f : Nat → Int32) (z : Int32) (htab : tab.before sargs s = true) (hfr : 2 ≤ R.frames) (hlo : W + 25 ≤ R.locals) :
    Back l R p e below s sargs yN len W (fun A₁ a₁ => A₁.cells + 0 ≤ R.cells ∧ A₁.slots + 0 ≤ R.slots ∧ P x t V cd n f z a₁ A₁.U) (fun A₁ _ v₁ B₁ => E n v₁ A₁.U B₁.U ∧ B₁.locs = A₁.locs ++ [] ∧ B₁.cells = A₁.cells + 0 ∧ B₁.slots = A₁.slots + 0) :=
  (law l x t V cd n f z).pays htab hfr (by omega)
end Len
namespace IsL
def yN : MethodName := ⟨"java/lang/String", "isLatin1", "()Z"⟩
abbrev yB : ByteArray := jdk_42_method_154_code
theorem d0 : decode yB 0 = .ok (.getstatic 38, 3) := by decide +kernel
theorem d3 : decode yB 3 = .ok (.ifCond (.eq) 14, 3) := by decide +kernel
theorem d6 : decode yB 6 = .ok (.aload_n 0, 1) := by decide +kernel
theorem d7 : decode yB 7 = .ok (.getfield 15, 3) := by decide +kernel
theorem d10 : decode yB 10 = .ok (.ifCond (.ne) 7, 3) := by decide +kernel
theorem d13 : decode yB 13 = .ok (.iconst 1, 1) := by decide +kernel
theorem d14 : decode yB 14 = .ok (.goto 4, 3) := by decide +kernel
theorem d17 : decode yB 17 = .ok (.iconst 0, 1) := by decide +kernel
theorem d18 : decode yB 18 = .ok (.ireturn, 1) := by decide +kernel
def site : List Cond := [.fieldLink "java/lang/String" 38 "java/lang/String" "COMPACT_STRINGS" "Z", .fieldLink "java/lang/String" 15 "java/lang/String" "coder" "B"]
def tab : Cond := tabOf yN yB 1 (some .boolean) site
def P (x : Addr) (cd z : Int32) (args : Array Value) (s : State) : Prop := args = #[.ref x] ∧ Has x "java/lang/String" "coder" "B" (.int cd) s ∧ (cd = 0 ∨ cd = 1) ∧ StaticIs s "java/lang/String" "COMPACT_STRINGS" "Z" (.int z) ∧ ¬ z = 0
def E (cd : Int32) (r : Option Value) (s u : State) : Prop := XT.PureE (some (.int (1 - cd))) r s u
theorem law (l : Launch) (x : Addr) (cd z : Int32) : Law l yN 1 0 0 0 yB 1 (some .boolean) site (P x cd z) (E cd) [] 0 0 := by
  refine Law.of_walk (plainFor_of_name (by decide +kernel)) (by decide +kernel) (by decide +kernel) (by decide) (fun _ _ h => by rw [h.1]; rfl) (fun _ U U' hal hh h => ⟨h.1, h.2.1.mv hal hh, h.2.2.1, h.2.2.2.1.there hal hh, h.2.2.2.2⟩) (fun r U U' V V' h1 hal h2 h => XT.PureE.mv r U U' V V' h1 hal h2 h) ?_
  intro p e s m args below meth c s₁ X0 hexec hbytes hml hret hlk hnm hown hh0 W hP
  obtain ⟨rfl, hx, hc, s1, hz⟩ := hP
  have c1 : Steps p.tables e below (s₁.setTop (entryFrame m #[.ref x] 1)) (s₁.setTop (mkF m 0 #[.val (.ref x)] [])) := entry rfl
  obtain ⟨T2, X2, q2, st2⟩ := X0.sget hexec hown (wk W (.fieldLink "java/lang/String" 38 "java/lang/String" "COMPACT_STRINGS" "Z")) s1 (fun _ _ h => by rw [hh0]; exact h) (g := (mkF m 0 #[.val (.ref x)] [])) rfl (hb hbytes d0)
  have hh2 := q2.trans hh0
  have c3 : Steps p.tables e below (s₁.setTop (entryFrame m #[.ref x] 1)) (T2.setTop (mkF m 7 #[.val (.ref x)] [.ref x])) := (c1.trans (st2 _ (Steps.refl _))).trans (by
    refine XS.ifNo X2.here hexec rfl (hb hbytes d3) rfl (i0_eq_f hz) ?_
    refine XS.aloadN X2.here hexec rfl (hb hbytes d6) rfl rfl ?_
    exact Steps.refl _)
  obtain ⟨T4, X4, q4, st4⟩ := X2.hget hexec hown (wk W (.fieldLink "java/lang/String" 15 "java/lang/String" "coder" "B")) (hx.mv X2.warmed.alike hh2) (g := (mkF m 7 #[.val (.ref x)] [.ref x])) rfl (rest := []) rfl (hb hbytes d7)
  have c5 : Steps p.tables e below (s₁.setTop (entryFrame m #[.ref x] 1)) (T4.setTop (mkF m 10 #[.val (.ref x)] [.int cd])) := c3.trans (st4 _ (Steps.refl _))
  have c6 : Steps p.tables e below (s₁.setTop (entryFrame m #[.ref x] 1)) (T4.setTop (mkF m 18 #[.val (.ref x)] [.int (1 - cd)])) := by
    rcases hc with rfl | rfl
    · exact c5.trans (by
        refine XS.ifNo X4.here hexec rfl (hb hbytes d10) rfl (i0_ne_f rfl) ?_
        refine iconstV X4.here hexec rfl 1 (hb hbytes d13) (by decide) ?_
        refine XS.goto X4.here hexec rfl (pc0 := 14) rfl (hb hbytes d14) (by decide) rfl ?_
        exact Steps.refl _)
    · exact c5.trans (by
        refine XS.ifYes X4.here hexec rfl (pc0 := 10) rfl (hb hbytes d10) rfl (i0_ne_t (by decide)) (by decide) rfl ?_
        refine iconstV X4.here hexec rfl 0 (hb hbytes d17) (by decide) ?_
        exact Steps.refl _)
  exact ⟨T4, some (.int (1 - cd)), _, _, _, X4, rfl, rfl, rfl, (fun h => by cases h), ⟨rfl, q4.trans hh2⟩, fun fs hl => c6.trans (X4.ireturnOut hexec hret (by rcases hc with rfl | rfl <;> rfl) (Or.inr (Or.inl rfl)) (hb hbytes d18) hl)⟩
end IsL
namespace LChA
def yN : MethodName := ⟨"java/lang/StringLatin1", "charAt", "([BI)C"⟩
abbrev yB : ByteArray := jdk_43_method_2_code
theorem d0 : decode yB 0 = .ok (.iload_n 1, 1) := by decide +kernel
theorem d1 : decode yB 1 = .ok (.aload_n 0, 1) := by decide +kernel
theorem d2 : decode yB 2 = .ok (.arraylength, 1) := by decide +kernel
theorem d3 : decode yB 3 = .ok (.invokestatic 9, 3) := by decide +kernel
theorem d6 : decode yB 6 = .ok (.aload_n 0, 1) := by decide +kernel
theorem d7 : decode yB 7 = .ok (.iload_n 1, 1) := by decide +kernel
theorem d8 : decode yB 8 = .ok (.baload, 1) := by decide +kernel
theorem d9 : decode yB 9 = .ok (.sipush 255, 3) := by decide +kernel
theorem d12 : decode yB 12 = .ok (.iand, 1) := by decide +kernel
theorem d13 : decode yB 13 = .ok (.i2c, 1) := by decide +kernel
theorem d14 : decode yB 14 = .ok (.ireturn, 1) := by decide +kernel
def site : List Cond := [JO.Str_checkIndex.tab] ++ staticW "java/lang/StringLatin1" 9 JO.Str_checkIndex.yN
def tab : Cond := tabOf yN yB 2 (some .char) site
def P (t : Addr) (V : Cell) (i : Nat) (u : Int32) (fm : Value) (args : Array Value) (s : State) : Prop := args = #[.ref t, .int (Int32.ofNat i)] ∧ XT.Arr .byte t V s ∧ V.slots[i]? = some (.int u) ∧ (StaticIs s "jdk/internal/util/Preconditions" "SIOOBE_FORMATTER" "Ljava/util/function/BiFunction;" fm ∧ fm.isRef = true)
def E (u : Int32) (r : Option Value) (s w : State) : Prop := XT.PureE (some (.int (chr8 u))) r s w
theorem law (l : Launch) (t : Addr) (V : Cell) (i : Nat) (u : Int32) (fm : Value) : Law l yN 2 2 2 27 yB 2 (some .char) site (P t V i u fm) (E u) [] 0 0 := by
  refine Law.of_walk (plainFor_of_name (by decide +kernel)) (by decide +kernel) (by decide +kernel) (by decide) (fun _ _ h => by rw [h.1]; rfl) (fun _ U U' hal hh h => ⟨h.1, h.2.1.mv hal hh, h.2.2.1, h.2.2.2.1.there hal hh, h.2.2.2.2⟩) (fun r U U' V V' h1 hal h2 h => XT.PureE.mv r U U' V V' h1 hal h2 h) ?_
  intro p e s m args below meth c s₁ X0 hexec hbytes hml hret hlk hnm hown hh0 W hP
  obtain ⟨rfl, hV, hu, s1, rf⟩ := hP
  have v31 := hV.2.2.2
  have hi : i < V.slots.size := (Array.getElem?_eq_some_iff.mp hu).1
  have c1 : Steps p.tables e below (s₁.setTop (entryFrame m #[.ref t, .int (Int32.ofNat i)] 2)) (s₁.setTop (mkF m 0 #[.val (.ref t), .val (.int (Int32.ofNat i))] [])) := entry rfl
  have c2 : Steps p.tables e below (s₁.setTop (entryFrame m #[.ref t, .int (Int32.ofNat i)] 2)) (s₁.setTop (mkF m 3 #[.val (.ref t), .val (.int (Int32.ofNat i))] [.int (Int32.ofNat V.slots.size), .int (Int32.ofNat i)])) := c1.trans (by
    refine XS.iloadN X0.here hexec rfl (hb hbytes d0) rfl ?_
    refine XS.aloadN X0.here hexec rfl (hb hbytes d1) rfl rfl ?_
    refine X0.alen hexec (hV.mv X0.warmed.alike hh0) rfl rfl (hb hbytes d2) ?_
    exact Steps.refl _)
  obtain ⟨v3, T3, X3, E3, g3⟩ := X0.callS hexec (JO.Str_checkIndex.law l (Int32.ofNat i) (Int32.ofNat V.slots.size) fm) hown (wks W (staticW "java/lang/StringLatin1" 9 JO.Str_checkIndex.yN)) (wk W JO.Str_checkIndex.tab) (W := 0) (Nat.le_of_ble_eq_true rfl) (Nat.le_of_ble_eq_true rfl) (Nat.le_refl _) (Nat.le_refl _) (g := (mkF m 3 #[.val (.ref t), .val (.int (Int32.ofNat i))] [.int (Int32.ofNat V.slots.size), .int (Int32.ofNat i)])) rfl (by rw [hml]; rfl) c2 (argsL := [.int (Int32.ofNat i), .int (Int32.ofNat V.slots.size)]) (rest := []) rfl rfl (by show 2 * 0 + 0 ≤ _; decide) (hb hbytes d3) (⟨rfl, rf, s1.there X0.warmed.alike hh0, Int32.ofNat_not_neg (by omega), lt32 v31 hi⟩)
  obtain ⟨rfl, q3⟩ := E3
  have hh3 := q3.trans hh0
  have c4 : Steps p.tables e below (s₁.setTop (entryFrame m #[.ref t, .int (Int32.ofNat i)] 2)) (T3.setTop (mkF m 14 #[.val (.ref t), .val (.int (Int32.ofNat i))] [.int (chr8 u)])) := Steps.trans g3 (by
    refine XS.aloadN X3.here hexec rfl (hb hbytes d6) rfl rfl ?_
    refine XS.iloadN X3.here hexec rfl (hb hbytes d7) rfl ?_
    refine X3.aget hexec (hV.mv X3.warmed.alike hh3) rfl hu rfl rfl (hb hbytes d8) ?_
    refine sipushV X3.here hexec rfl 255 (hb hbytes d9) (by decide) ?_
    refine XS.iand X3.here hexec rfl (hb hbytes d12) rfl ?_
    refine i2c X3.here hexec rfl (hb hbytes d13) rfl ?_
    exact Steps.refl _)
  exact ⟨T3, some (.int (chr8 u)), _, _, _, X3, rfl, rfl, rfl, (fun h => by cases h), ⟨rfl, hh3⟩, fun fs hl => c4.trans (X3.ireturnOut hexec hret (narrow_c _) (Or.inr (Or.inr (Or.inr (Or.inl rfl)))) (hb hbytes d14) hl)⟩
end LChA
end StrChars
namespace StrChars.Road
open Jvm Sem ClassFile Op Lib Jvm.Stand Jvm.Free Jvm.Free.XT
open Jvm.Lib.Cold (StaticIs)
theorem consq {a : Array Value} {s : State} {c : Jvm.Cond} {L : List Jvm.Cond} (h0 : c.before a s = true) (h : ∀ w ∈ L, w.before a s = true) : ∀ w ∈ c :: L, w.before a s = true := fun w hw => (List.mem_cons.mp hw).elim (fun e => e ▸ h0) (h w)
/-- the words of String.length(), either coding -/
abbrev wordsLen : List Jvm.Cond := [.code Len.yN Len.yB 1 (some .int), .initialized ST, .fieldLink ST 9 ST "value" "[B", .fieldLink ST 38 ST "COMPACT_STRINGS" "Z", .fieldLink ST 15 ST "coder" "B", .code Cdr.yN Cdr.yB 1 (some .byte), .methodLink ST 335 Cdr.yN, .declares Cdr.yN, .selects ST Cdr.yN Cdr.yN, .instanceMethod Cdr.yN]
theorem tabLen_of {a : Array Value} {s : State} (h : ∀ w ∈ wordsLen, w.before a s = true) : Len.tab.before a s = true := by
  have hc : Cdr.tab.before a s = true := unparts (wk h (.code Cdr.yN Cdr.yB 1 (some .byte))) (wks h (.initialized Cdr.yN.cls :: Cdr.site))
  have q := consq hc h
  exact unparts (wk q (.code Len.yN Len.yB 1 (some .int))) (wks q (.initialized Len.yN.cls :: Len.site))
theorem movedLen {Z s : State} {a0 args : Array Value} (hZ : Z.Warmed39 s.vm) (hw : ∀ d ∈ wordsLen, d.before a0 Z = true) : ∀ d ∈ wordsLen, d.before args s = true := fun d hd => by
  have q := hw d hd
  have t : ∀ d ∈ wordsLen, d = .arrayClass .byte ∨ (d.onTables && d.keepsFace) = true := by decide +kernel
  rcases t d hd with rfl | t
  · exact RoadKit.mvA hZ q
  · exact RoadKit.mv hZ q t
/-- the bytes of the chars cs, low before high -/
def wideBytes : List Int32 → List Value
  | [] => []
  | c :: cs => .int (lo8 c) :: .int (hi8 c) :: wideBytes cs
theorem wide_lo (d : Value) : ∀ (cs : List Int32) (j : Nat), j < cs.length → (wideBytes cs).getD (2 * j) d = .int (lo8 (cs.getD j 0))
  | [], j, h => absurd h (Nat.not_lt_zero j)
  | c :: cs, 0, _ => rfl
  | c :: cs, j + 1, h => by
    have q := wide_lo d cs j (by simpa using h)
    rw [show 2 * (j + 1) = 2 * j + 1 + 1 from by omega]
    simpa [wideBytes] using q
theorem wide_hi (d : Value) : ∀ (cs : List Int32) (j : Nat), j < cs.length → (wideBytes cs).getD (2 * j + 1) d = .int (hi8 (cs.getD j 0))
  | [], j, h => absurd h (Nat.not_lt_zero j)
  | c :: cs, 0, _ => rfl
  | c :: cs, j + 1, h => by
    have q := wide_hi d cs j (by simpa using h)
    rw [show 2 * (j + 1) + 1 = 2 * j + 1 + 1 + 1 from by omega]
    simpa [wideBytes] using q
theorem low_at (d : Value) (cs : List Int32) (j : Nat) (h : j < cs.length) : (cs.map fun c => Value.int (lo8 c)).getD j d = .int (lo8 (cs.getD j 0)) := by
  simp [List.getD_eq_getElem?_getD, h]
/-- an array of N2 bytes vs codes the chars cs by the coder cd -/
def CodA (cs : List Int32) (cd N2 : Int32) (vs : List Value) : Prop := (cd = 0 ∧ N2 = Int32.ofNat cs.length ∧ vs = (cs.map fun c => Value.int (lo8 c)) ∧ ∀ c ∈ cs, ¬ 255 < c) ∨ (cd = 1 ∧ N2 = Int32.ofNat (2 * cs.length) ∧ vs = wideBytes cs ∧ ∃ c ∈ cs, 255 < c)
theorem CodA.cod {cs : List Int32} {cd N2 : Int32} {vs : List Value} {V : Cell} (h : CodA cs cd N2 vs) (hn : 2 * cs.length < 2 ^ 31) (hs : V.slots.size = N2.toNatClampNeg) (hv : RoadKit.Has V vs (.int 0)) : Cod cd cs.length (fun j => cs.getD j 0) V := by
  rcases h with ⟨rfl, rfl, rfl, h⟩ | ⟨rfl, rfl, rfl, c, hc, hw⟩
  · rw [n32 (by omega)] at hs
    exact Or.inl ⟨rfl, hs, fun j hj => ⟨by rw [hv j (by omega), low_at _ _ _ hj], by
      have e : cs.getD j 0 = cs[j] := by simp [List.getD_eq_getElem?_getD, hj]
      show ¬ 255 < cs.getD j 0
      rw [e]; exact h _ (List.getElem_mem _)⟩⟩
  · rw [n32 (by omega)] at hs
    obtain ⟨j, hj, rfl⟩ := List.getElem_of_mem hc
    exact Or.inr ⟨rfl, hs, fun j hj => ⟨by rw [hv _ (by omega), wide_lo _ _ _ hj], by rw [hv _ (by omega), wide_hi _ _ _ hj]⟩, j, hj, by
      have e : cs.getD j 0 = cs[j] := by simp [List.getD_eq_getElem?_getD, hj]
      show 255 < cs.getD j 0
      rw [e]; exact hw⟩
/-- an object of exactly java/lang/String, its two fields found: as the laws ask it -/
theorem strObj {Z U : State} {a0 : Array Value} {kI : Nat} (wi : (Jvm.Cond.instantiable ST kI).before a0 Z = true) (al : Z.vm.Alike U.vm) {x : Addr} {v0 c0 : Value} (E : RoadKit.Exa Z U.heap x ST) (V : RoadKit.Fld Z U.heap x ST "value" "[B" v0) (C : RoadKit.Fld Z U.heap x ST "coder" "B" c0) :
    ∃ (D : Cell) (fV fC : Field), Blank ST x D U ∧ Found ST "value" "[B" fV U ∧ Found ST "coder" "B" fC U ∧ D.slots[fV.slot]? = some v0 ∧ D.slots[fC.slot]? = some c0 ∧ RoadKit.slotOf Z ST "value" "[B" = fV.slot ∧ RoadKit.slotOf Z ST "coder" "B" = fC.slot := by
  obtain ⟨D, cfV, kV, iV, fV, hD, gV, stV, knV, obV, asV, slV⟩ := V
  obtain ⟨D', cfC, kC, iC, fC, hD', gC, stC, -, -, asC, slC⟩ := C
  cases hD.symm.trans hD'
  obtain ⟨D2, kD, e1, e2, e3, e4, e5⟩ := E
  cases hD.symm.trans e1
  obtain ⟨c2, k2, i1, i2, i3, -⟩ := Cond.instantiable_spec wi
  cases e2.symm.trans i1
  cases e3.symm.trans i2
  obtain ⟨kU, u1, u2⟩ := al.2.2 _ _ e3
  exact ⟨D, fV, fC, ⟨hD, ⟨knV, fun q hq => by rw [hq] at obV; cases obV⟩, by rw [al.findClass]; exact e2, kU, u1, by rw [u2]; exact i3, by rw [u2]; exact e5 i3⟩, ⟨SBG.found_only al ⟨cfV, kV, iV, gV⟩, stV⟩, ⟨SBG.found_only al ⟨cfC, kC, iC, gC⟩, stC⟩, slV, slC, by simp [RoadKit.slotOf, gV], by simp [RoadKit.slotOf, gC]⟩
theorem sta_is {Z U : State} (al : Z.vm.Alike U.vm) {C n d : String} {v : Value} (S : RoadKit.Sta Z U.heap C n d v) : StaticIs U C n d v := by
  obtain ⟨cfS, iS, kS, fS, st, cS, t1, t2, t3, t4, t5, t6, t7⟩ := S
  exact StaticIs.there (s := { Z with heap := U.heap }) ⟨cfS, iS, kS, fS, st, cS, t1, t2, t3, t4, t5, (fun q => by rw [q] at t6; cases t6), t7⟩ al rfl
/-- **length() OF SUCH A STRING** -/
theorem lenW {p : Program} {l : Launch} {e : Env} {R : Room} {s : State} {args : Array Value} {below : List Frame} {len W : Nat} {Z : State} {a0 : Array Value} {h : Heap} (hZ : Z.Warmed39 s.vm) (hw : ∀ d ∈ wordsLen, d.before a0 Z = true) {kI : Nat} (wi : (Jvm.Cond.instantiable ST kI).before a0 Z = true)
    {x t : Addr} {kb : ClassId} {cs : List Int32} {cd N2 z : Int32} {vs : List Value} (E : RoadKit.Exa Z h x ST) (V : RoadKit.Fld Z h x ST "value" "[B" (.ref t)) (C : RoadKit.Fld Z h x ST "coder" "B" (.int cd)) (K : RoadKit.Arv Z h t kb .byte N2 vs (.int 0)) (hc : CodA cs cd N2 vs) (hb : ∀ c ∈ cs, ¬ c < 0 ∧ ¬ (65535 : Int32) < c)
    (S : RoadKit.Sta Z h ST "COMPACT_STRINGS" "Z" (.int z)) (hz : ¬ z = 0) (l2 : cs.length ≤ 4000) (hfr : 2 ≤ R.frames) (hlo : W + 25 ≤ R.locals) :
    Back l R p e below s args (⟨"java/lang/String", "length", "()I"⟩ : MethodName) len W (fun P a => a = #[.ref x] ∧ P.U.heap = h ∧ P.cells + 0 ≤ R.cells ∧ P.slots + 0 ≤ R.slots)
      (fun P _ v B => ∃ L, (v = some (.int (Int32.ofNat cs.length)) ∧ L = [] ∧ B.U.heap = h) ∧ B.locs = P.locs ++ L ∧ B.cells = P.cells + 0 ∧ B.slots = P.slots + 0) := by
  obtain ⟨A, K1, K2, K3, K4, K5, K6⟩ := K
  have hcod := hc.cod (by omega) K3 K5
  intro m meth c P g ig mk a X hg hsize hdg hW hn hp'
  obtain ⟨rfl, rfl, r1, r2⟩ := hp'
  have al : Z.vm.Alike P.U.vm := hZ.alike.trans X.warmed.alike
  obtain ⟨D, fV, fC, hB, F1, F2, g1, g2, -, -⟩ := strObj wi al E V C
  have hx : Txt x t A cd cs.length (fun j => cs.getD j 0) P.U := ⟨⟨_, hB.2.2.1, D, hB.1, rfl, by cases q : D.vm <;> first | rfl | exact absurd q (hB.2.1.2 _)⟩, Has.of hB F1 g1, Has.of hB F2 g2, ⟨K1.1, State.isArrayOf_alike al K1.2.1, K1.2.2, by rcases hcod with ⟨-, q, -⟩ | ⟨-, q, -⟩ <;> omega⟩, hcod, fun j hj => by
    have e : cs.getD j 0 = cs[j] := by simp [List.getD_eq_getElem?_getD, hj]
    show ¬ cs.getD j 0 < 0 ∧ ¬ 65535 < cs.getD j 0
    rw [e]; exact hb _ (List.getElem_mem _)⟩
  obtain ⟨v, B, X', ⟨⟨hv, hh⟩, hl, hk, hs⟩, st⟩ := Len.pays x t A cd cs.length (fun j => cs.getD j 0) z (tabLen_of (movedLen hZ hw)) hfr hlo m meth c P g ig mk _ X hg hsize hdg hW hn ⟨r1, r2, rfl, hx, sta_is al S, hz⟩
  exact ⟨v, B, X', ⟨[], ⟨hv, rfl, hh⟩, hl, hk, hs⟩, st⟩
end StrChars.Road
namespace StrChars.Road
open Jvm Sem ClassFile Op Lib Jvm.Stand Jvm.Free Jvm.Free.XT
open Jvm.Lib.Cold (StaticIs)
/-- the road's facts of a String, as the laws ask it -/
theorem txt_of {Z U : State} {a0 : Array Value} {kI : Nat} (wi : (Jvm.Cond.instantiable ST kI).before a0 Z = true) (al : Z.vm.Alike U.vm) {x t : Addr} {kb : ClassId} {cs : List Int32} {cd N2 : Int32} {vs : List Value} (E : RoadKit.Exa Z U.heap x ST) (V : RoadKit.Fld Z U.heap x ST "value" "[B" (.ref t)) (C : RoadKit.Fld Z U.heap x ST "coder" "B" (.int cd)) (K : RoadKit.Arv Z U.heap t kb .byte N2 vs (.int 0)) (hc : CodA cs cd N2 vs) (hb : ∀ c ∈ cs, ¬ c < 0 ∧ ¬ (65535 : Int32) < c) (l2 : cs.length ≤ 4000) :
    ∃ A, Txt x t A cd cs.length (fun j => cs.getD j 0) U := by
  obtain ⟨A, K1, K2, K3, K4, K5, K6⟩ := K
  have hcod := hc.cod (by omega) K3 K5
  obtain ⟨D, fV, fC, hB, F1, F2, g1, g2, -, -⟩ := strObj wi al E V C
  exact ⟨A, ⟨_, hB.2.2.1, D, hB.1, rfl, by cases q : D.vm <;> first | rfl | exact absurd q (hB.2.1.2 _)⟩, Has.of hB F1 g1, Has.of hB F2 g2, ⟨K1.1, State.isArrayOf_alike al K1.2.1, K1.2.2, by rcases hcod with ⟨-, q, -⟩ | ⟨-, q, -⟩ <;> omega⟩, hcod, fun j hj => by
    have e : cs.getD j 0 = cs[j] := by simp [List.getD_eq_getElem?_getD, hj]
    show ¬ cs.getD j 0 < 0 ∧ ¬ 65535 < cs.getD j 0
    rw [e]; exact hb _ (List.getElem_mem _)⟩
end StrChars.Road
namespace StrChars
open Jvm Sem ClassFile Op Lib Jvm.Stand Jvm.Free.XT Jvm.Free.ALB Jvm.Free.JM Jvm.Free
open Jvm.Lib.Cold (StaticIs)
namespace ChN
def yN : MethodName := ⟨"java/lang/String", "charAt", "(I)C"⟩
abbrev yB : ByteArray := jdk_42_method_56_code
theorem d0 : decode yB 0 = .ok (.aload_n 0, 1) := by decide +kernel
theorem d1 : decode yB 1 = .ok (.invokevirtual 492, 3) := by decide +kernel
theorem d4 : decode yB 4 = .ok (.ifCond (.eq) 12, 3) := by decide +kernel
theorem d7 : decode yB 7 = .ok (.aload_n 0, 1) := by decide +kernel
theorem d8 : decode yB 8 = .ok (.getfield 9, 3) := by decide +kernel
theorem d11 : decode yB 11 = .ok (.iload_n 1, 1) := by decide +kernel
theorem d12 : decode yB 12 = .ok (.invokestatic 495, 3) := by decide +kernel
theorem d15 : decode yB 15 = .ok (.ireturn, 1) := by decide +kernel
def site : List Cond := [.fieldLink "java/lang/String" 9 "java/lang/String" "value" "[B", IsL.tab, LChA.tab] ++ virtW "java/lang/String" 492 "java/lang/String" IsL.yN IsL.yN ++ staticW "java/lang/String" 495 LChA.yN
def tab : Cond := tabOf yN yB 2 (some .char) site
def P (x t : Addr) (V : Cell) (n : Nat) (f : Nat → Int32) (z : Int32) (fm : Value) (i : Nat) (args : Array Value) (s : State) : Prop := args = #[.ref x, .int (Int32.ofNat i)] ∧ Txt x t V 0 n f s ∧ i < n ∧ StaticIs s "java/lang/String" "COMPACT_STRINGS" "Z" (.int z) ∧ ¬ z = 0 ∧ StaticIs s "jdk/internal/util/Preconditions" "SIOOBE_FORMATTER" "Ljava/util/function/BiFunction;" fm ∧ fm.isRef = true
def E (f : Nat → Int32) (i : Nat) (r : Option Value) (s u : State) : Prop := XT.PureE (some (.int (f i))) r s u
/-- charAt(i) of a Latin-1 String of n chars, i < n: f i -/
theorem law (l : Launch) (x t : Addr) (V : Cell) (n : Nat) (f : Nat → Int32) (z : Int32) (fm : Value) (i : Nat) : Law l yN 2 1 3 40 yB 2 (some .char) site (P x t V n f z fm i) (E f i) [] 0 0 := by
  refine Law.of_walk (plainFor_of_name (by decide +kernel)) (by decide +kernel) (by decide +kernel) (by decide) (fun _ _ h => by rw [h.1]; rfl) (fun _ U U' hal hh h => ⟨h.1, h.2.1.mv hal hh, h.2.2.1, h.2.2.2.1.there hal hh, h.2.2.2.2.1, h.2.2.2.2.2.1.there hal hh, h.2.2.2.2.2.2⟩) (fun r U U' V V' h1 hal h2 h => XT.PureE.mv r U U' V V' h1 hal h2 h) ?_
  intro p e s m args below meth c s₁ X0 hexec hbytes hml hret hlk hnm hown hh0 W hP
  obtain ⟨rfl, hx, hi, s1, hz, s3, rf⟩ := hP
  have v31 := hx.2.2.2.1.2.2.2
  have hr := hx.2.2.2.2.2 i hi
  have hx0 := hx.mv X0.warmed.alike hh0
  have c1 : Steps p.tables e below (s₁.setTop (entryFrame m #[.ref x, .int (Int32.ofNat i)] 2)) (s₁.setTop (mkF m 1 #[.val (.ref x), .val (.int (Int32.ofNat i))] [.ref x])) := Steps.trans (entry rfl) (by
    show Steps p.tables e below (s₁.setTop (mkF m 0 #[.val (.ref x), .val (.int (Int32.ofNat i))] [])) _
    refine XS.aloadN X0.here hexec rfl (hb hbytes d0) rfl rfl ?_
    exact Steps.refl _)
  obtain ⟨v2, T2, X2, E2, g2⟩ := X0.callV hexec (IsL.law l x 0 z) hown (wks W (virtW "java/lang/String" 492 "java/lang/String" IsL.yN IsL.yN)) rfl (by decide) (wk W IsL.tab) (W := 0) (Nat.le_of_ble_eq_true rfl) (Nat.le_of_ble_eq_true rfl) (Nat.le_refl _) (Nat.le_refl _) (hx0.1.fc X0.warmed.alike) hx0.1.is (g := (mkF m 1 #[.val (.ref x), .val (.int (Int32.ofNat i))] [.ref x])) rfl (by rw [hml]; rfl) c1 (argsL := []) (rest := []) rfl rfl (by show 2 * 0 + 0 ≤ _; decide) (hb hbytes d1) (⟨rfl, hx0.2.2.1, hx.2.2.2.2.1.cd, s1.there X0.warmed.alike hh0, hz⟩)
  obtain ⟨rfl, q2⟩ := E2
  have hh2 := q2.trans hh0
  have hx2 := hx.mv X2.warmed.alike hh2
  obtain ⟨-, k1, k2⟩ | ⟨k0, -⟩ := hx.2.2.2.2.1
  · have c3 : Steps p.tables e below (s₁.setTop (entryFrame m #[.ref x, .int (Int32.ofNat i)] 2)) (T2.setTop (mkF m 8 #[.val (.ref x), .val (.int (Int32.ofNat i))] [.ref x])) := Steps.trans g2 (by
      refine XS.ifNo X2.here hexec rfl (hb hbytes d4) rfl (i0_eq_f (by decide)) ?_
      refine XS.aloadN X2.here hexec rfl (hb hbytes d7) rfl rfl ?_
      exact Steps.refl _)
    obtain ⟨T4, X4, q4, st4⟩ := X2.hget hexec hown (wk W (.fieldLink "java/lang/String" 9 "java/lang/String" "value" "[B")) hx2.2.1 (g := (mkF m 8 #[.val (.ref x), .val (.int (Int32.ofNat i))] [.ref x])) rfl (rest := []) rfl (hb hbytes d8)
    have hh4 := q4.trans hh2
    have c5 : Steps p.tables e below (s₁.setTop (entryFrame m #[.ref x, .int (Int32.ofNat i)] 2)) (T4.setTop (mkF m 12 #[.val (.ref x), .val (.int (Int32.ofNat i))] [.int (Int32.ofNat i), .ref t])) := (c3.trans (st4 _ (Steps.refl _))).trans (by
      refine XS.iloadN X4.here hexec rfl (hb hbytes d11) rfl ?_
      exact Steps.refl _)
    obtain ⟨v6, T6, X6, E6, g6⟩ := X4.callS hexec (LChA.law l t V i (lo8 (f i)) fm) hown (wks W (staticW "java/lang/String" 495 LChA.yN)) (wk W LChA.tab) (W := 0) (Nat.le_of_ble_eq_true rfl) (Nat.le_of_ble_eq_true rfl) (Nat.le_refl _) (Nat.le_refl _) (g := (mkF m 12 #[.val (.ref x), .val (.int (Int32.ofNat i))] [.int (Int32.ofNat i), .ref t])) rfl (by rw [hml]; rfl) c5 (argsL := [.ref t, .int (Int32.ofNat i)]) (rest := []) rfl rfl (by show 2 * 0 + 0 ≤ _; decide) (hb hbytes d12) (⟨rfl, hx.2.2.2.1.mv X4.warmed.alike hh4, (k2 i hi).1, s3.there X4.warmed.alike hh4, rf⟩)
    obtain ⟨rfl, q6⟩ := E6
    rw [chr8_lo8 hr.1 (k2 i hi).2] at g6
    exact ⟨T6, some (.int (f i)), _, _, _, X6, rfl, rfl, rfl, (fun h => by cases h), ⟨rfl, q6.trans hh4⟩, fun fs hl => Steps.trans g6 (X6.ireturnOut hexec hret (narrow_ch hr.1 hr.2) (Or.inr (Or.inr (Or.inr (Or.inl rfl)))) (hb hbytes d15) hl)⟩
  · exact absurd k0 (by decide)
theorem pays {l : Launch} {R : Room} {p : Program} {e : Env} {below : List Frame} {s : State} {sargs : Array Value} {len W : Nat} (x t : Addr) (V : Cell) (n : Nat) (f : Nat → Int32) (z : Int32) (fm : Value) (i : Nat) (htab : tab.before sargs s = true) (hfr : 4 ≤ R.frames) (hlo : W + 53 ≤ R.locals) :
    Back l R p e below s sargs yN len W (fun A₁ a₁ => A₁.cells + 0 ≤ R.cells ∧ A₁.slots + 0 ≤ R.slots ∧ P x t V n f z fm i a₁ A₁.U) (fun A₁ _ v₁ B₁ => E f i v₁ A₁.U B₁.U ∧ B₁.locs = A₁.locs ++ [] ∧ B₁.cells = A₁.cells + 0 ∧ B₁.slots = A₁.slots + 0) :=
  (law l x t V n f z fm i).pays htab hfr (by omega)
end ChN
end StrChars
namespace StrChars.Road
open Jvm Sem ClassFile Op Lib Jvm.Stand Jvm.Free Jvm.Free.XT
open Jvm.Lib.Cold (StaticIs)
/-- the words of String.charAt(int), the Latin-1 road alone -/
abbrev wordsChN : List Jvm.Cond := [.code ChN.yN ChN.yB 2 (some .char), .initialized ST, .fieldLink ST 9 ST "value" "[B", .fieldLink ST 38 ST "COMPACT_STRINGS" "Z", .fieldLink ST 15 ST "coder" "B", .code IsL.yN IsL.yB 1 (some .boolean), .methodLink ST 492 IsL.yN, .declares IsL.yN, .selects ST IsL.yN IsL.yN, .instanceMethod IsL.yN,
  .methodLink ST 495 LChA.yN, .static LChA.yN, .code LChA.yN LChA.yB 2 (some .char), .initialized "java/lang/StringLatin1", .methodLink "java/lang/StringLatin1" 9 JO.Str_checkIndex.yN, .static JO.Str_checkIndex.yN, .code JO.Str_checkIndex.yN JO.Str_checkIndex.yB 2 none,
  .fieldLink ST 1053 "jdk/internal/util/Preconditions" "SIOOBE_FORMATTER" "Ljava/util/function/BiFunction;", .methodLink ST 1059 JC.PreCheck.yN, .static JC.PreCheck.yN, .code JC.PreCheck.yN JC.PreCheck.yB 3 (some .int), .initialized "jdk/internal/util/Preconditions"]
theorem tabChN_of {a : Array Value} {s : State} (h : ∀ w ∈ wordsChN, w.before a s = true) : ChN.tab.before a s = true := by
  have hp : JC.PreCheck.tab.before a s = true := unparts (wk h (.code JC.PreCheck.yN JC.PreCheck.yB 3 (some .int))) (wks h (.initialized JC.PreCheck.yN.cls :: JC.PreCheck.site))
  have qk := consq hp h
  have hk : JO.Str_checkIndex.tab.before a s = true := unparts (wk qk (.code JO.Str_checkIndex.yN JO.Str_checkIndex.yB 2 none)) (wks qk (.initialized JO.Str_checkIndex.yN.cls :: JO.Str_checkIndex.site))
  have ql := consq hk h
  have hl : LChA.tab.before a s = true := unparts (wk ql (.code LChA.yN LChA.yB 2 (some .char))) (wks ql (.initialized LChA.yN.cls :: LChA.site))
  have hi : IsL.tab.before a s = true := unparts (wk h (.code IsL.yN IsL.yB 1 (some .boolean))) (wks h (.initialized IsL.yN.cls :: IsL.site))
  have q := consq hi (consq hl h)
  exact unparts (wk q (.code ChN.yN ChN.yB 2 (some .char))) (wks q (.initialized ChN.yN.cls :: ChN.site))
theorem movedChN {Z s : State} {a0 args : Array Value} (hZ : Z.Warmed39 s.vm) (hw : ∀ d ∈ wordsChN, d.before a0 Z = true) : ∀ d ∈ wordsChN, d.before args s = true := fun d hd => by
  have t : ∀ d ∈ wordsChN, (d.onTables && d.keepsFace) = true := by decide +kernel
  exact RoadKit.mv hZ (hw d hd) (t d hd)
/-- **charAt(i) OF A LATIN-1 STRING**, i < n: the char -/
theorem chN {p : Program} {l : Launch} {e : Env} {R : Room} {s : State} {args : Array Value} {below : List Frame} {len W : Nat} {Z : State} {a0 : Array Value} {h : Heap} (hZ : Z.Warmed39 s.vm) (hw : ∀ d ∈ wordsChN, d.before a0 Z = true) {kI : Nat} (wi : (Jvm.Cond.instantiable ST kI).before a0 Z = true)
    {x t : Addr} {kb : ClassId} {cs : List Int32} {N2 z : Int32} {vs : List Value} {fm : Value} {i : Nat} {j : Int32} (E : RoadKit.Exa Z h x ST) (V : RoadKit.Fld Z h x ST "value" "[B" (.ref t)) (C : RoadKit.Fld Z h x ST "coder" "B" (.int 0)) (K : RoadKit.Arv Z h t kb .byte N2 vs (.int 0)) (hc : CodA cs 0 N2 vs) (hb : ∀ c ∈ cs, ¬ c < 0 ∧ ¬ (65535 : Int32) < c)
    (S : RoadKit.Sta Z h ST "COMPACT_STRINGS" "Z" (.int z)) (hz : ¬ z = 0) (F : RoadKit.Sta Z h "jdk/internal/util/Preconditions" "SIOOBE_FORMATTER" "Ljava/util/function/BiFunction;" fm) (rf : fm.isRef = true) (l2 : cs.length ≤ 4000) (hi : i < cs.length) (hj : j = Int32.ofNat i) (hfr : 4 ≤ R.frames) (hlo : W + 53 ≤ R.locals) :
    Back l R p e below s args (⟨"java/lang/String", "charAt", "(I)C"⟩ : MethodName) len W (fun P a => a = #[.ref x, .int j] ∧ P.U.heap = h ∧ P.cells + 0 ≤ R.cells ∧ P.slots + 0 ≤ R.slots)
      (fun P _ v B => ∃ L, (v = some (.int (cs.getD i 0)) ∧ L = [] ∧ B.U.heap = h) ∧ B.locs = P.locs ++ L ∧ B.cells = P.cells + 0 ∧ B.slots = P.slots + 0) := by
  subst hj
  intro m meth c P g ig mk a X hg hsize hdg hW hn hp'
  obtain ⟨rfl, rfl, r1, r2⟩ := hp'
  have al : Z.vm.Alike P.U.vm := hZ.alike.trans X.warmed.alike
  obtain ⟨A, hx⟩ := txt_of wi al E V C K hc hb l2
  obtain ⟨v, B, X', ⟨⟨hv, hh⟩, hl, hk, hs⟩, st⟩ := ChN.pays x t A cs.length (fun j => cs.getD j 0) z fm i (tabChN_of (movedChN hZ hw)) hfr hlo m meth c P g ig mk _ X hg hsize hdg hW hn ⟨r1, r2, rfl, hx, hi, sta_is al S, hz, sta_is al F, rf⟩
  exact ⟨v, B, X', ⟨[], ⟨hv, rfl, hh⟩, hl, hk, hs⟩, st⟩
end StrChars.Road
end Jvm.Pilot.@@N@@
namespace Jvm.Pilot.@@N@@
open Jvm Jvm.ClassFile Sem Op Lib Jvm.Free Jvm.Stand Jvm.LawKit Jvm.RoadKit Bundle Jvm.OwnGo Jvm.Pilot.@@N@@.Jvm.D
theorem w_0 : (Jvm.Cond.constant "com/example/tributary/tributary/DecimalsStripLeadingZerosPinLaw" (13 : Nat) (2147483647 : Int32)) ∈ tables_1 := List.mem_of_getElem? (i := 0) rfl
theorem w_1 : (Jvm.Cond.arrayClass Jvm.ClassFile.FieldType.char) ∈ tables_1 := List.mem_of_getElem? (i := 1) rfl
theorem w_2 : (Jvm.Cond.methodLink "com/example/tributary/tributary/DecimalsStripLeadingZerosPinLaw" (14 : Nat) ({ cls := "com/example/tributary/tributary/DecimalsStripLeadingZerosPinLaw", name := "ch", desc := "(I)C" } : Jvm.MethodName)) ∈ tables_1 := List.mem_of_getElem? (i := 2) rfl
theorem w_3 : (Jvm.Cond.static ({ cls := "com/example/tributary/tributary/DecimalsStripLeadingZerosPinLaw", name := "ch", desc := "(I)C" } : Jvm.MethodName)) ∈ tables_1 := List.mem_of_getElem? (i := 3) rfl
theorem w_4 : (Jvm.Cond.initialized "com/example/tributary/tributary/DecimalsStripLeadingZerosPinLaw") ∈ tables_1 := List.mem_of_getElem? (i := 4) rfl
theorem w_5 : (Jvm.Cond.code ({ cls := "com/example/tributary/tributary/DecimalsStripLeadingZerosPinLaw", name := "ch", desc := "(I)C" } : Jvm.MethodName) method_2_code (1 : Nat) (Option.some Jvm.ClassFile.FieldType.char)) ∈ tables_1 := List.mem_of_getElem? (i := 5) rfl
theorem w_6 : (Jvm.Cond.classLink "com/example/tributary/tributary/DecimalsStripLeadingZerosPinLaw" (8 : Nat) "java/lang/String") ∈ tables_1 := List.mem_of_getElem? (i := 6) rfl
theorem w_7 : (Jvm.Cond.instantiable "java/lang/String" (4 : Nat)) ∈ tables_1 := List.mem_of_getElem? (i := 7) rfl
theorem w_8 : (Jvm.Cond.initialized "java/lang/String") ∈ tables_1 := List.mem_of_getElem? (i := 8) rfl
theorem w_9 : (Jvm.Cond.methodLink "com/example/tributary/tributary/DecimalsStripLeadingZerosPinLaw" (19 : Nat) ({ cls := "java/lang/String", name := "<init>", desc := "([C)V" } : Jvm.MethodName)) ∈ tables_1 := List.mem_of_getElem? (i := 9) rfl
theorem w_10 : (Jvm.Cond.instanceMethod ({ cls := "java/lang/String", name := "<init>", desc := "([C)V" } : Jvm.MethodName)) ∈ tables_1 := List.mem_of_getElem? (i := 10) rfl
theorem w_11 : (Jvm.Cond.code ({ cls := "java/lang/String", name := "<init>", desc := "([C)V" } : Jvm.MethodName) jdk_42_method_3_code (2 : Nat) (Option.none : Option Jvm.ClassFile.FieldType)) ∈ tables_1 := List.mem_of_getElem? (i := 11) rfl
theorem w_12 : (Jvm.Cond.methodLink "java/lang/String" (27 : Nat) ({ cls := "java/lang/String", name := "<init>", desc := "([CIILjava/lang/Void;)V" } : Jvm.MethodName)) ∈ tables_1 := List.mem_of_getElem? (i := 12) rfl
theorem w_13 : (Jvm.Cond.instanceMethod ({ cls := "java/lang/String", name := "<init>", desc := "([CIILjava/lang/Void;)V" } : Jvm.MethodName)) ∈ tables_1 := List.mem_of_getElem? (i := 13) rfl
theorem w_15 : (Jvm.Cond.code ({ cls := "java/lang/String", name := "<init>", desc := "([CIILjava/lang/Void;)V" } : Jvm.MethodName) jdk_42_method_149_code (6 : Nat) (Option.none : Option Jvm.ClassFile.FieldType)) ∈ tables_1 := List.mem_of_getElem? (i := 15) rfl
theorem w_16 : (Jvm.Cond.methodLink "java/lang/String" (1 : Nat) ({ cls := "java/lang/Object", name := "<init>", desc := "()V" } : Jvm.MethodName)) ∈ tables_1 := List.mem_of_getElem? (i := 16) rfl
theorem w_17 : (Jvm.Cond.instanceMethod ({ cls := "java/lang/Object", name := "<init>", desc := "()V" } : Jvm.MethodName)) ∈ tables_1 := List.mem_of_getElem? (i := 17) rfl
theorem w_18 : (Jvm.Cond.code ({ cls := "java/lang/Object", name := "<init>", desc := "()V" } : Jvm.MethodName) object_method_1_code (1 : Nat) (Option.none : Option Jvm.ClassFile.FieldType)) ∈ tables_1 := List.mem_of_getElem? (i := 18) rfl
theorem w_19 : (Jvm.Cond.stringLink "java/lang/String" (7 : Nat) "") ∈ tables_1 := List.mem_of_getElem? (i := 19) rfl
theorem w_20 : (Jvm.Cond.arrayClass Jvm.ClassFile.FieldType.byte) ∈ tables_1 := List.mem_of_getElem? (i := 20) rfl
theorem w_21 : (Jvm.Cond.laysFinal "java/lang/String" "java/lang/String" "value" "[B") ∈ tables_1 := List.mem_of_getElem? (i := 21) rfl
theorem w_22 : (Jvm.Cond.laysFinal "java/lang/String" "java/lang/String" "coder" "B") ∈ tables_1 := List.mem_of_getElem? (i := 22) rfl
theorem w_25 : (Jvm.Cond.fieldLink "java/lang/String" (9 : Nat) "java/lang/String" "value" "[B") ∈ tables_1 := List.mem_of_getElem? (i := 25) rfl
theorem w_26 : (Jvm.Cond.fieldLink "java/lang/String" (15 : Nat) "java/lang/String" "coder" "B") ∈ tables_1 := List.mem_of_getElem? (i := 26) rfl
theorem w_27 : (Jvm.Cond.methodLink "com/example/tributary/tributary/DecimalsStripLeadingZerosPinLaw" (22 : Nat) ({ cls := "com/example/tributary/tributary/Decimals", name := "stripLeadingZeros", desc := "(Ljava/lang/String;)Ljava/lang/String;" } : Jvm.MethodName)) ∈ tables_1 := List.mem_of_getElem? (i := 27) rfl
theorem w_28 : (Jvm.Cond.static ({ cls := "com/example/tributary/tributary/Decimals", name := "stripLeadingZeros", desc := "(Ljava/lang/String;)Ljava/lang/String;" } : Jvm.MethodName)) ∈ tables_1 := List.mem_of_getElem? (i := 28) rfl
theorem w_29 : (Jvm.Cond.initialized "com/example/tributary/tributary/Decimals") ∈ tables_1 := List.mem_of_getElem? (i := 29) rfl
theorem w_30 : (Jvm.Cond.code ({ cls := "com/example/tributary/tributary/Decimals", name := "stripLeadingZeros", desc := "(Ljava/lang/String;)Ljava/lang/String;" } : Jvm.MethodName) prog_2_method_7_code (2 : Nat) (Option.some (Jvm.ClassFile.FieldType.object "java/lang/String"))) ∈ tables_1 := List.mem_of_getElem? (i := 30) rfl
theorem w_31 : (Jvm.Cond.methodLink "com/example/tributary/tributary/Decimals" (13 : Nat) ({ cls := "java/lang/String", name := "length", desc := "()I" } : Jvm.MethodName)) ∈ tables_1 := List.mem_of_getElem? (i := 31) rfl
theorem w_32 : (Jvm.Cond.declares ({ cls := "java/lang/String", name := "length", desc := "()I" } : Jvm.MethodName)) ∈ tables_1 := List.mem_of_getElem? (i := 32) rfl
theorem w_33 : (Jvm.Cond.instanceMethod ({ cls := "java/lang/String", name := "length", desc := "()I" } : Jvm.MethodName)) ∈ tables_1 := List.mem_of_getElem? (i := 33) rfl
theorem w_34 : (Jvm.Cond.selects "java/lang/String" ({ cls := "java/lang/String", name := "length", desc := "()I" } : Jvm.MethodName) ({ cls := "java/lang/String", name := "length", desc := "()I" } : Jvm.MethodName)) ∈ tables_1 := List.mem_of_getElem? (i := 34) rfl
theorem w_41 : (Jvm.Cond.fieldLink "java/lang/String" (38 : Nat) "java/lang/String" "COMPACT_STRINGS" "Z") ∈ tables_1 := List.mem_of_getElem? (i := 41) rfl
theorem w_42 : (Jvm.Cond.methodLink "com/example/tributary/tributary/Decimals" (110 : Nat) ({ cls := "java/lang/String", name := "substring", desc := "(I)Ljava/lang/String;" } : Jvm.MethodName)) ∈ tables_1 := List.mem_of_getElem? (i := 42) rfl
theorem w_43 : (Jvm.Cond.declares ({ cls := "java/lang/String", name := "substring", desc := "(I)Ljava/lang/String;" } : Jvm.MethodName)) ∈ tables_1 := List.mem_of_getElem? (i := 43) rfl
theorem w_44 : (Jvm.Cond.instanceMethod ({ cls := "java/lang/String", name := "substring", desc := "(I)Ljava/lang/String;" } : Jvm.MethodName)) ∈ tables_1 := List.mem_of_getElem? (i := 44) rfl
theorem w_45 : (Jvm.Cond.selects "java/lang/String" ({ cls := "java/lang/String", name := "substring", desc := "(I)Ljava/lang/String;" } : Jvm.MethodName) ({ cls := "java/lang/String", name := "substring", desc := "(I)Ljava/lang/String;" } : Jvm.MethodName)) ∈ tables_1 := List.mem_of_getElem? (i := 45) rfl
theorem w_46 : (Jvm.Cond.code ({ cls := "java/lang/String", name := "substring", desc := "(I)Ljava/lang/String;" } : Jvm.MethodName) jdk_42_method_91_code (2 : Nat) (Option.some (Jvm.ClassFile.FieldType.object "java/lang/String"))) ∈ tables_1 := List.mem_of_getElem? (i := 46) rfl
theorem w_47 : (Jvm.Cond.methodLink "java/lang/String" (505 : Nat) ({ cls := "java/lang/String", name := "length", desc := "()I" } : Jvm.MethodName)) ∈ tables_1 := List.mem_of_getElem? (i := 47) rfl
theorem w_48 : (Jvm.Cond.methodLink "java/lang/String" (681 : Nat) ({ cls := "java/lang/String", name := "substring", desc := "(II)Ljava/lang/String;" } : Jvm.MethodName)) ∈ tables_1 := List.mem_of_getElem? (i := 48) rfl
theorem w_49 : (Jvm.Cond.declares ({ cls := "java/lang/String", name := "substring", desc := "(II)Ljava/lang/String;" } : Jvm.MethodName)) ∈ tables_1 := List.mem_of_getElem? (i := 49) rfl
theorem w_50 : (Jvm.Cond.instanceMethod ({ cls := "java/lang/String", name := "substring", desc := "(II)Ljava/lang/String;" } : Jvm.MethodName)) ∈ tables_1 := List.mem_of_getElem? (i := 50) rfl
theorem w_51 : (Jvm.Cond.selects "java/lang/String" ({ cls := "java/lang/String", name := "substring", desc := "(II)Ljava/lang/String;" } : Jvm.MethodName) ({ cls := "java/lang/String", name := "substring", desc := "(II)Ljava/lang/String;" } : Jvm.MethodName)) ∈ tables_1 := List.mem_of_getElem? (i := 51) rfl
theorem w_52 : (Jvm.Cond.code ({ cls := "java/lang/String", name := "substring", desc := "(II)Ljava/lang/String;" } : Jvm.MethodName) jdk_42_method_92_code (5 : Nat) (Option.some (Jvm.ClassFile.FieldType.object "java/lang/String"))) ∈ tables_1 := List.mem_of_getElem? (i := 52) rfl
theorem w_53 : (Jvm.Cond.methodLink "java/lang/String" (521 : Nat) ({ cls := "java/lang/String", name := "checkBoundsBeginEnd", desc := "(III)V" } : Jvm.MethodName)) ∈ tables_1 := List.mem_of_getElem? (i := 53) rfl
theorem w_54 : (Jvm.Cond.static ({ cls := "java/lang/String", name := "checkBoundsBeginEnd", desc := "(III)V" } : Jvm.MethodName)) ∈ tables_1 := List.mem_of_getElem? (i := 54) rfl
theorem w_55 : (Jvm.Cond.code ({ cls := "java/lang/String", name := "checkBoundsBeginEnd", desc := "(III)V" } : Jvm.MethodName) jdk_42_method_158_code (3 : Nat) (Option.none : Option Jvm.ClassFile.FieldType)) ∈ tables_1 := List.mem_of_getElem? (i := 55) rfl
theorem w_56 : (Jvm.Cond.fieldLink "java/lang/String" (1053 : Nat) "jdk/internal/util/Preconditions" "SIOOBE_FORMATTER" "Ljava/util/function/BiFunction;") ∈ tables_1 := List.mem_of_getElem? (i := 56) rfl
theorem w_57 : (Jvm.Cond.initialized "jdk/internal/util/Preconditions") ∈ tables_1 := List.mem_of_getElem? (i := 57) rfl
theorem w_58 : (Jvm.Cond.methodLink "java/lang/String" (1062 : Nat) ({ cls := "jdk/internal/util/Preconditions", name := "checkFromToIndex", desc := "(IIILjava/util/function/BiFunction;)I" } : Jvm.MethodName)) ∈ tables_1 := List.mem_of_getElem? (i := 58) rfl
theorem w_59 : (Jvm.Cond.static ({ cls := "jdk/internal/util/Preconditions", name := "checkFromToIndex", desc := "(IIILjava/util/function/BiFunction;)I" } : Jvm.MethodName)) ∈ tables_1 := List.mem_of_getElem? (i := 59) rfl
theorem w_60 : (Jvm.Cond.code ({ cls := "jdk/internal/util/Preconditions", name := "checkFromToIndex", desc := "(IIILjava/util/function/BiFunction;)I" } : Jvm.MethodName) jdk_41_method_12_code (4 : Nat) (Option.some Jvm.ClassFile.FieldType.int)) ∈ tables_1 := List.mem_of_getElem? (i := 60) rfl
theorem w_61 : (Jvm.Cond.methodLink "com/example/tributary/tributary/DecimalsStripLeadingZerosPinLaw" (28 : Nat) ({ cls := "java/lang/String", name := "length", desc := "()I" } : Jvm.MethodName)) ∈ tables_1 := List.mem_of_getElem? (i := 61) rfl
theorem w_62 : (Jvm.Cond.methodLink "com/example/tributary/tributary/DecimalsStripLeadingZerosPinLaw" (32 : Nat) ({ cls := "com/example/tributary/tributary/DecimalsStripLeadingZerosPinLaw", name := "at", desc := "(Ljava/lang/String;[CIII)Z" } : Jvm.MethodName)) ∈ tables_1 := List.mem_of_getElem? (i := 62) rfl
theorem w_63 : (Jvm.Cond.static ({ cls := "com/example/tributary/tributary/DecimalsStripLeadingZerosPinLaw", name := "at", desc := "(Ljava/lang/String;[CIII)Z" } : Jvm.MethodName)) ∈ tables_1 := List.mem_of_getElem? (i := 63) rfl
theorem w_64 : (Jvm.Cond.code ({ cls := "com/example/tributary/tributary/DecimalsStripLeadingZerosPinLaw", name := "at", desc := "(Ljava/lang/String;[CIII)Z" } : Jvm.MethodName) method_3_code (5 : Nat) (Option.some Jvm.ClassFile.FieldType.boolean)) ∈ tables_1 := List.mem_of_getElem? (i := 64) rfl
theorem w_75 : (Jvm.Cond.methodLink "com/example/tributary/tributary/Decimals" (46 : Nat) ({ cls := "java/lang/String", name := "charAt", desc := "(I)C" } : Jvm.MethodName)) ∈ tables_1 := List.mem_of_getElem? (i := 75) rfl
theorem w_76 : (Jvm.Cond.declares ({ cls := "java/lang/String", name := "charAt", desc := "(I)C" } : Jvm.MethodName)) ∈ tables_1 := List.mem_of_getElem? (i := 76) rfl
theorem w_77 : (Jvm.Cond.instanceMethod ({ cls := "java/lang/String", name := "charAt", desc := "(I)C" } : Jvm.MethodName)) ∈ tables_1 := List.mem_of_getElem? (i := 77) rfl
theorem w_78 : (Jvm.Cond.selects "java/lang/String" ({ cls := "java/lang/String", name := "charAt", desc := "(I)C" } : Jvm.MethodName) ({ cls := "java/lang/String", name := "charAt", desc := "(I)C" } : Jvm.MethodName)) ∈ tables_1 := List.mem_of_getElem? (i := 78) rfl
theorem w_80 : (Jvm.Cond.methodLink "java/lang/String" (492 : Nat) ({ cls := "java/lang/String", name := "isLatin1", desc := "()Z" } : Jvm.MethodName)) ∈ tables_1 := List.mem_of_getElem? (i := 80) rfl
theorem w_81 : (Jvm.Cond.declares ({ cls := "java/lang/String", name := "isLatin1", desc := "()Z" } : Jvm.MethodName)) ∈ tables_1 := List.mem_of_getElem? (i := 81) rfl
theorem w_82 : (Jvm.Cond.instanceMethod ({ cls := "java/lang/String", name := "isLatin1", desc := "()Z" } : Jvm.MethodName)) ∈ tables_1 := List.mem_of_getElem? (i := 82) rfl
theorem w_83 : (Jvm.Cond.selects "java/lang/String" ({ cls := "java/lang/String", name := "isLatin1", desc := "()Z" } : Jvm.MethodName) ({ cls := "java/lang/String", name := "isLatin1", desc := "()Z" } : Jvm.MethodName)) ∈ tables_1 := List.mem_of_getElem? (i := 83) rfl
theorem w_84 : (Jvm.Cond.code ({ cls := "java/lang/String", name := "isLatin1", desc := "()Z" } : Jvm.MethodName) jdk_42_method_154_code (1 : Nat) (Option.some Jvm.ClassFile.FieldType.boolean)) ∈ tables_1 := List.mem_of_getElem? (i := 84) rfl
theorem w_87 : (Jvm.Cond.initialized "java/lang/StringLatin1") ∈ tables_1 := List.mem_of_getElem? (i := 87) rfl
theorem w_95 : (Jvm.Cond.methodLink "com/example/tributary/tributary/DecimalsStripLeadingZerosPinLaw" (7 : Nat) ({ cls := "java/lang/String", name := "charAt", desc := "(I)C" } : Jvm.MethodName)) ∈ tables_1 := List.mem_of_getElem? (i := 95) rfl
theorem w_96 : (Jvm.Cond.methodLink "java/lang/String" (685 : Nat) ({ cls := "java/lang/StringLatin1", name := "newString", desc := "([BII)Ljava/lang/String;" } : Jvm.MethodName)) ∈ tables_1 := List.mem_of_getElem? (i := 96) rfl
theorem w_97 : (Jvm.Cond.static ({ cls := "java/lang/StringLatin1", name := "newString", desc := "([BII)Ljava/lang/String;" } : Jvm.MethodName)) ∈ tables_1 := List.mem_of_getElem? (i := 97) rfl
theorem w_98 : (Jvm.Cond.code ({ cls := "java/lang/StringLatin1", name := "newString", desc := "([BII)Ljava/lang/String;" } : Jvm.MethodName) jdk_43_method_47_code (3 : Nat) (Option.some (Jvm.ClassFile.FieldType.object "java/lang/String"))) ∈ tables_1 := List.mem_of_getElem? (i := 98) rfl
theorem w_99 : (Jvm.Cond.stringLink "java/lang/StringLatin1" (151 : Nat) "") ∈ tables_1 := List.mem_of_getElem? (i := 99) rfl
theorem w_100 : (Jvm.Cond.classLink "java/lang/StringLatin1" (1 : Nat) "java/lang/String") ∈ tables_1 := List.mem_of_getElem? (i := 100) rfl
theorem w_101 : (Jvm.Cond.methodLink "java/lang/StringLatin1" (232 : Nat) ({ cls := "java/util/Arrays", name := "copyOfRange", desc := "([BII)[B" } : Jvm.MethodName)) ∈ tables_1 := List.mem_of_getElem? (i := 101) rfl
theorem w_102 : (Jvm.Cond.static ({ cls := "java/util/Arrays", name := "copyOfRange", desc := "([BII)[B" } : Jvm.MethodName)) ∈ tables_1 := List.mem_of_getElem? (i := 102) rfl
theorem w_103 : (Jvm.Cond.initialized "java/util/Arrays") ∈ tables_1 := List.mem_of_getElem? (i := 103) rfl
theorem w_104 : (Jvm.Cond.code ({ cls := "java/util/Arrays", name := "copyOfRange", desc := "([BII)[B" } : Jvm.MethodName) jdk_65_method_132_code (3 : Nat) (Option.some (Jvm.ClassFile.FieldType.array Jvm.ClassFile.FieldType.byte))) ∈ tables_1 := List.mem_of_getElem? (i := 104) rfl
theorem w_105 : (Jvm.Cond.methodLink "java/util/Arrays" (339 : Nat) ({ cls := "java/util/Arrays", name := "copyOfRangeByte", desc := "([BII)[B" } : Jvm.MethodName)) ∈ tables_1 := List.mem_of_getElem? (i := 105) rfl
theorem w_106 : (Jvm.Cond.static ({ cls := "java/util/Arrays", name := "copyOfRangeByte", desc := "([BII)[B" } : Jvm.MethodName)) ∈ tables_1 := List.mem_of_getElem? (i := 106) rfl
theorem w_107 : (Jvm.Cond.code ({ cls := "java/util/Arrays", name := "copyOfRangeByte", desc := "([BII)[B" } : Jvm.MethodName) jdk_65_method_133_code (5 : Nat) (Option.some (Jvm.ClassFile.FieldType.array Jvm.ClassFile.FieldType.byte))) ∈ tables_1 := List.mem_of_getElem? (i := 107) rfl
theorem w_108 : (Jvm.Cond.methodLink "java/util/Arrays" (343 : Nat) ({ cls := "java/util/Arrays", name := "checkLength", desc := "(II)V" } : Jvm.MethodName)) ∈ tables_1 := List.mem_of_getElem? (i := 108) rfl
theorem w_109 : (Jvm.Cond.static ({ cls := "java/util/Arrays", name := "checkLength", desc := "(II)V" } : Jvm.MethodName)) ∈ tables_1 := List.mem_of_getElem? (i := 109) rfl
theorem w_110 : (Jvm.Cond.code ({ cls := "java/util/Arrays", name := "checkLength", desc := "(II)V" } : Jvm.MethodName) jdk_65_method_131_code (2 : Nat) (Option.none : Option Jvm.ClassFile.FieldType)) ∈ tables_1 := List.mem_of_getElem? (i := 110) rfl
theorem w_111 : (Jvm.Cond.methodLink "java/util/Arrays" (304 : Nat) ({ cls := "java/lang/Math", name := "min", desc := "(II)I" } : Jvm.MethodName)) ∈ tables_1 := List.mem_of_getElem? (i := 111) rfl
theorem w_112 : (Jvm.Cond.static ({ cls := "java/lang/Math", name := "min", desc := "(II)I" } : Jvm.MethodName)) ∈ tables_1 := List.mem_of_getElem? (i := 112) rfl
theorem w_113 : (Jvm.Cond.initialized "java/lang/Math") ∈ tables_1 := List.mem_of_getElem? (i := 113) rfl
theorem w_114 : (Jvm.Cond.code ({ cls := "java/lang/Math", name := "min", desc := "(II)I" } : Jvm.MethodName) jdk_29_method_69_code (2 : Nat) (Option.some Jvm.ClassFile.FieldType.int)) ∈ tables_1 := List.mem_of_getElem? (i := 114) rfl
theorem w_115 : (Jvm.Cond.methodLink "java/util/Arrays" (150 : Nat) ({ cls := "java/lang/System", name := "arraycopy", desc := "(Ljava/lang/Object;ILjava/lang/Object;II)V" } : Jvm.MethodName)) ∈ tables_1 := List.mem_of_getElem? (i := 115) rfl
theorem w_116 : (Jvm.Cond.static ({ cls := "java/lang/System", name := "arraycopy", desc := "(Ljava/lang/Object;ILjava/lang/Object;II)V" } : Jvm.MethodName)) ∈ tables_1 := List.mem_of_getElem? (i := 116) rfl
theorem w_117 : (Jvm.Cond.initialized "java/lang/System") ∈ tables_1 := List.mem_of_getElem? (i := 117) rfl
theorem w_118 : (Jvm.Cond.native ({ cls := "java/lang/System", name := "arraycopy", desc := "(Ljava/lang/Object;ILjava/lang/Object;II)V" } : Jvm.MethodName)) ∈ tables_1 := List.mem_of_getElem? (i := 118) rfl
theorem w_119 : (Jvm.Cond.methodLink "java/lang/StringLatin1" (112 : Nat) ({ cls := "java/lang/String", name := "<init>", desc := "([BB)V" } : Jvm.MethodName)) ∈ tables_1 := List.mem_of_getElem? (i := 119) rfl
theorem w_120 : (Jvm.Cond.instanceMethod ({ cls := "java/lang/String", name := "<init>", desc := "([BB)V" } : Jvm.MethodName)) ∈ tables_1 := List.mem_of_getElem? (i := 120) rfl
theorem w_121 : (Jvm.Cond.code ({ cls := "java/lang/String", name := "<init>", desc := "([BB)V" } : Jvm.MethodName) jdk_42_method_151_code (3 : Nat) (Option.none : Option Jvm.ClassFile.FieldType)) ∈ tables_1 := List.mem_of_getElem? (i := 121) rfl
/-- a char of one byte -/
def Ch8 (c : Int32) : Prop := ¬ c < 0 ∧ ¬ (255 : Int32) < c
theorem ch8_mask (x : Int32) : Ch8 (x &&& 255) := by
  have h : (x &&& 255).toBitVec.toNat < 256 := by
    simp only [Int32.toBitVec_and, BitVec.toNat_and]
    exact Nat.lt_succ_of_le Nat.and_le_right
  have e : (x &&& 255) = Int32.ofNat (x &&& 255).toBitVec.toNat := by
    apply Int32.toBitVec_inj.mp
    show _ = BitVec.ofNat 32 _
    rw [BitVec.ofNat_toNat]; simp
  rw [e]
  exact (by decide +kernel : ∀ k : Fin 256, ¬ Int32.ofNat k.val < 0 ∧ ¬ (255 : Int32) < Int32.ofNat k.val) ⟨_, h⟩
theorem ch8_fin {c : Int32} (h : Ch8 c) : ∃ k : Fin 256, c = Int32.ofNat k.val := by
  obtain ⟨h1, h2⟩ := h
  rw [Int32.lt_iff_toInt_lt] at h1 h2
  have e1 : (0 : Int32).toInt = 0 := (by decide)
  have e2 : (255 : Int32).toInt = 255 := (by decide)
  have e3 : (Int32.ofNat c.toInt.toNat).toInt = (c.toInt.toNat : Int) := Int32.toInt_ofNat_of_lt (by omega)
  refine ⟨⟨c.toInt.toNat, by omega⟩, Int32.toInt_inj.mp ?_⟩
  show c.toInt = (Int32.ofNat c.toInt.toNat).toInt
  rw [e3]
  omega
theorem nar_ch8 {c : Int32} (h : Ch8 c) : nar .char c = c := by
  obtain ⟨k, rfl⟩ := ch8_fin h
  exact (by decide +kernel : ∀ k : Fin 256, nar .char (Int32.ofNat k.val) = Int32.ofNat k.val) k
theorem ch8_i2c (x : Int32) : Ch8 ((x &&& 255).toUInt32.toUInt16.toUInt32.toInt32) := by
  rw [i2c_mask]; exact ch8_mask x
theorem ch8_l2c (x : Int64) : Ch8 ((x &&& 255).toInt32.toUInt32.toUInt16.toUInt32.toInt32) := by
  rw [Int64.toInt32_and]; exact ch8_i2c x.toInt32
theorem own_allc {c : Int32} {cs : List Int32} (h : Ch8 c) (r : ∀ c ∈ cs, ¬ c < 0 ∧ ¬ (255 : Int32) < c) : ∀ x ∈ c :: cs, ¬ x < 0 ∧ ¬ (255 : Int32) < x := fun x hx => (List.mem_cons.mp hx).elim (fun e => e ▸ h) (r x)
theorem own_sA : ∀ a ∈ Bundle.stringAtoms, a ∈ tables_1 := by decide +kernel

theorem ct_newS {l : Launch} {Z : State} {a0 : Array Value} {EL : List (String × Nat)} (hEL : EW Z a0 EL) (hw : ∀ d ∈ tables_1, d.before a0 Z = true) {h : Heap} {x b : Addr} {kC : ClassId} {cs : List Int32} {d v0 c0 : Value} {z : Int32} {n n0 : Nat} (E : Exa Z h x "java/lang/String") (V : Fld Z h x "java/lang/String" "value" "[B" v0) (C : Fld Z h x "java/lang/String" "coder" "B" c0) (K : Arv Z h b kC .char (Int32.ofNat n) (cs.map Value.int) d) (S : Sta Z h "java/lang/String" "COMPACT_STRINGS" "Z" (.int z)) (hz : ¬ z = 0) (hn : cs.length = n) (l0 : 0 < n) (l2 : n ≤ 4000) (hp : ∀ c ∈ cs, ¬ c < 0 ∧ ¬ (255 : Int32) < c) :
    Ct l Z EL (⟨"java/lang/String", "<init>", "([C)V"⟩ : MethodName) 2 ({ frames := 3, cells := 1, slots := n, locals := 52 } : Room) [x] #[.ref x, .ref b] h n0 (nq fun v h' => v = none ∧ Keep h h' [x] ∧ ∃ t kb, h.size ≤ t ∧ t ≠ x ∧ Str Z h' x t kb cs) := by
  have hws : ∀ d ∈ StrChars.Road.words, d.before a0 Z = true := fun d hd => hw d ((by decide +kernel : ∀ d ∈ StrChars.Road.words, d ∈ tables_1) d hd)
  refine ct_back hEL (fun v h' q => q.2.1) ?_
  intro R p e below s args len W hZ hn0 hfs hf hl
  refine Back.mono (StrChars.Road.backV hZ hws (hw _ w_7) (hfs _ (List.mem_cons_self ..)) hn0 E V C K S hz hn rfl l0 l2 hp rfl hf (by simp only [] at hl; omega)) (fun P a q => q) (fun P a v B hp' hq => ?_)
  obtain ⟨L, ⟨q1, q2, q3, q4, q5, t, kb, r1, r2, r3, r4, r5⟩, hl', hc', hs'⟩ := hq
  exact ⟨L, ⟨⟨q1, q3, t, kb, r2, r3, q4, q5, r4, by rw [hn]; exact r5, by rw [hn]; exact l2, hp⟩, q2⟩, hl', hc', hs'⟩
theorem own_cod {cs : List Int32} (hp : ∀ c ∈ cs, ¬ c < 0 ∧ ¬ (255 : Int32) < c) : StrChars.Road.CodA cs 0 (Int32.ofNat cs.length) ((cs.map fun c => c.toInt8.toInt32).map Value.int) := Or.inl ⟨rfl, rfl, by rw [List.map_map]; rfl, fun c hc => (hp c hc).2⟩
theorem own_up {cs : List Int32} (hp : ∀ c ∈ cs, ¬ c < 0 ∧ ¬ (255 : Int32) < c) : ∀ c ∈ cs, ¬ c < 0 ∧ ¬ (65535 : Int32) < c := fun c hc => ⟨(hp c hc).1, fun q => (hp c hc).2 (by
  rw [Int32.lt_iff_toInt_lt] at q ⊢
  have e1 : (255 : Int32).toInt = 255 := by decide
  have e2 : (65535 : Int32).toInt = 65535 := by decide
  omega)⟩
theorem ct_len {l : Launch} {Z : State} {a0 : Array Value} {EL : List (String × Nat)} (hEL : EW Z a0 EL) (hw : ∀ d ∈ tables_1, d.before a0 Z = true) {h : Heap} {z : Int32} {n0 : Nat} {x t : Addr} {kb : ClassId} {cs : List Int32} (S : Str Z h x t kb cs) (Sz : Sta Z h "java/lang/String" "COMPACT_STRINGS" "Z" (.int z)) (hz : ¬ z = 0) :
    Ct l Z EL (⟨"java/lang/String", "length", "()I"⟩ : MethodName) 1 ({ frames := 1, cells := 0, slots := 0, locals := 13 } : Room) [] #[.ref x] h n0 (nq fun v h' => v = some (.int (Int32.ofNat cs.length)) ∧ h' = h) := by
  have hws : ∀ d ∈ StrChars.Road.wordsLen, d.before a0 Z = true := fun d hd => hw d ((by decide +kernel : ∀ d ∈ StrChars.Road.wordsLen, d ∈ tables_1) d hd)
  refine ct_back hEL (fun v h' q => (by rw [q.2]; exact Keep.refl _ _)) ?_
  intro R p e below s args len W hZ hn0 hfs hf hl
  refine Back.mono (StrChars.Road.lenW hZ hws (hw _ w_7) S.1 S.2.2.1 S.2.1 S.2.2.2.1 (own_cod S.2.2.2.2.2) (own_up S.2.2.2.2.2) Sz hz S.2.2.2.2.1 hf (by simp only [] at hl; omega)) (fun P a q => q) (fun P a v B hp' hq => ?_)
  obtain ⟨L, ⟨q1, rfl, q3⟩, hl', hc', hs'⟩ := hq
  exact ⟨[], ⟨⟨q1, q3⟩, Fr.nil _⟩, hl', hc', hs'⟩
theorem ct_ch {l : Launch} {Z : State} {a0 : Array Value} {EL : List (String × Nat)} (hEL : EW Z a0 EL) (hw : ∀ d ∈ tables_1, d.before a0 Z = true) {h : Heap} {z : Int32} {n0 : Nat} {x t : Addr} {kb : ClassId} {cs : List Int32} {fm : Value} (S : Str Z h x t kb cs) (Sz : Sta Z h "java/lang/String" "COMPACT_STRINGS" "Z" (.int z)) (hz : ¬ z = 0) (F : Sta Z h "jdk/internal/util/Preconditions" "SIOOBE_FORMATTER" "Ljava/util/function/BiFunction;" fm) (rf : fm.isRef = true) (i : Nat) (hi : i < cs.length) (j : Int32) (hj : j = Int32.ofNat i) :
    Ct l Z EL (⟨"java/lang/String", "charAt", "(I)C"⟩ : MethodName) 2 ({ frames := 3, cells := 0, slots := 0, locals := 40 } : Room) [] #[.ref x, .int j] h n0 (nq fun v h' => v = some (.int (cs.getD i 0)) ∧ h' = h) := by
  have hws : ∀ d ∈ StrChars.Road.wordsChN, d.before a0 Z = true := fun d hd => hw d ((by decide +kernel : ∀ d ∈ StrChars.Road.wordsChN, d ∈ tables_1) d hd)
  refine ct_back hEL (fun v h' q => (by rw [q.2]; exact Keep.refl _ _)) ?_
  intro R p e below s args len W hZ hn0 hfs hf hl
  refine Back.mono (StrChars.Road.chN hZ hws (hw _ w_7) S.1 S.2.2.1 S.2.1 S.2.2.2.1 (own_cod S.2.2.2.2.2) (own_up S.2.2.2.2.2) Sz hz F rf S.2.2.2.2.1 hi hj hf (by simp only [] at hl; omega)) (fun P a q => q) (fun P a v B hp' hq => ?_)
  obtain ⟨L, ⟨q1, rfl, q3⟩, hl', hc', hs'⟩ := hq
  exact ⟨[], ⟨⟨q1, q3⟩, Fr.nil _⟩, hl', hc', hs'⟩

theorem d_jdk_42_method_149_code_0 : decode jdk_42_method_149_code 0 = .ok (.aload_n 0, 1) := by decide +kernel
theorem d_jdk_42_method_149_code_1 : decode jdk_42_method_149_code 1 = .ok (.invokespecial 1, 3) := by decide +kernel
theorem d_jdk_42_method_149_code_4 : decode jdk_42_method_149_code 4 = .ok (.iload_n 3, 1) := by decide +kernel
theorem d_jdk_42_method_149_code_5 : decode jdk_42_method_149_code 5 = .ok (.ifCond .ne 22, 3) := by decide +kernel
theorem d_jdk_42_method_149_code_8 : decode jdk_42_method_149_code 8 = .ok (.aload_n 0, 1) := by decide +kernel
theorem d_jdk_42_method_149_code_9 : decode jdk_42_method_149_code 9 = .ok (.ldc 7, 2) := by decide +kernel
theorem d_jdk_42_method_149_code_11 : decode jdk_42_method_149_code 11 = .ok (.getfield 9, 3) := by decide +kernel
theorem d_jdk_42_method_149_code_14 : decode jdk_42_method_149_code 14 = .ok (.putfield 9, 3) := by decide +kernel
theorem d_jdk_42_method_149_code_17 : decode jdk_42_method_149_code 17 = .ok (.aload_n 0, 1) := by decide +kernel
theorem d_jdk_42_method_149_code_18 : decode jdk_42_method_149_code 18 = .ok (.ldc 7, 2) := by decide +kernel
theorem d_jdk_42_method_149_code_20 : decode jdk_42_method_149_code 20 = .ok (.getfield 15, 3) := by decide +kernel
theorem d_jdk_42_method_149_code_23 : decode jdk_42_method_149_code 23 = .ok (.putfield 15, 3) := by decide +kernel
theorem d_jdk_42_method_149_code_26 : decode jdk_42_method_149_code 26 = .ok (.return_, 1) := by decide +kernel
theorem pn_java_lang_String : plainName "java/lang/String" = true := by first | (simp [plainName, overriddenIn]; done) | decide +kernel
set_option maxRecDepth 65536 in
set_option maxHeartbeats 40000000 in
theorem rm_S4e (l : Launch) (Z : State) (a0 : Array Value) (hw : ∀ d ∈ tables_1, d.before a0 Z = true) (hEL : EW Z a0 consts_1) {ws : List Jvm.Cond} (x b : Addr) (h0 : Heap) (n0 : Nat) (E1 : Exa Z h0 x "java/lang/String") (F1 : Fld Z h0 x "java/lang/String" "value" "[B" .null) (F2 : Fld Z h0 x "java/lang/String" "coder" "B" (.int 0)) :
    Met l Z consts_1 (⟨"java/lang/String", "<init>", "([CIILjava/lang/Void;)V"⟩ : MethodName) jdk_42_method_149_code 6 none ws ({ frames := 1, cells := 4, slots := 8, locals := 14 } : Room) [x] #[(.ref x), (.ref b), (.int (0 : Int32)), (.int (0 : Int32)), .null] h0 n0 (nq (fun v h => v = none ∧ Keep h0 h [x] ∧ ∃ t kb, t ≠ x ∧ Str Z h x t kb [])) := by
  refine met_of (plainFor_of_name pn_java_lang_String) hw #[.val (.ref x), .val (.ref b), .val (.int (0 : Int32)), .val (.int (0 : Int32)), .val .null, .unset] (fun m => by first | rfl | (simp [entryFrame, mkF, argsToLocals, Value.category]; done)) ?_
  intro p e s m below meth c C0
  have C : Cx Z a0 tables_1 p s m meth c "java/lang/String" "<init>" jdk_42_method_149_code 6 none n0 := C0
  refine g_aloadN C d_jdk_42_method_149_code_0 rfl rfl ?_
  refine g_initO C w_16 w_17 w_18 rfl d_jdk_42_method_149_code_1 (by decide) 0 (Nat.le_of_eq rfl) (by decide) ?_
  refine g_iloadN C d_jdk_42_method_149_code_4 rfl ?_
  refine g_if_f C d_jdk_42_method_149_code_5 (XT.i0_ne_f (by decide)) ?_
  refine g_aloadN C d_jdk_42_method_149_code_8 rfl rfl ?_
  refine g_ldcS C hEL w_19 own_sA (List.mem_of_getElem? (i := 0) rfl) [] ⟨by decide +kernel, by decide +kernel⟩ (by decide) (by decide) d_jdk_42_method_149_code_9 0 (by decide +kernel) (by decide) (by decide) (by decide) ?_
  intro a101 t101 kb101 h101 E101 S101 X101
  refine g_getfield C w_25 Via.refl S101.2.2.1 d_jdk_42_method_149_code_11 ?_
  have K102 : Keep h0 h101 [] := (Keep.refl h0 []).ext E101
  have F103 := (F1.keep K102 nin0)
  have E104 := (E1.keep K102)
  refine g_putfield C (.array .byte) w_25 Via.refl F103 E104 (Or.inr ⟨w_21, rfl, rfl⟩) w_7 (by decide) rfl rfl (List.mem_of_getElem? (i := 0) rfl) d_jdk_42_method_149_code_14 ?_
  intro h105 W105 F105
  refine g_aloadN C d_jdk_42_method_149_code_17 rfl rfl ?_
  refine g_ldcS C hEL w_19 own_sA (List.mem_of_getElem? (i := 0) rfl) [] ⟨by decide +kernel, by decide +kernel⟩ (by decide) (by decide) d_jdk_42_method_149_code_18 0 (by decide +kernel) (by decide) (by decide) (by decide) ?_
  intro a106 t106 kb106 h106 E106 S106 X106
  refine g_getfield C w_26 Via.refl S106.2.1 d_jdk_42_method_149_code_20 ?_
  have F107 := (((F2.ext E101).other W105 (Or.inr (slot_ne (Or.inr (C.hw w_22)) (Or.inr (C.hw w_21)) (by decide) (t := .byte) (t' := (.array .byte)) (by decide) (by decide)))).ext E106)
  have E108 := ((E104.wr W105).ext E106)
  refine g_putfieldZ C .byte (.int (0 : Int32)) w_26 Via.refl F107 E108 (Or.inr ⟨w_22, rfl, rfl⟩) w_7 (by decide) rfl (by decide) (List.mem_of_getElem? (i := 0) rfl) d_jdk_42_method_149_code_23 ?_
  intro h109 W109 F109
  refine g_return C hEL rfl d_jdk_42_method_149_code_26 (by decide) (by decide) ?_
  have E110 := (E108.wr W109)
  have K111 : Keep h105 h106 [] := (Keep.refl h105 []).ext E106
  have F112 := ((F105.ext E106).other W109 (Or.inr (slot_ne (Or.inr (C.hw w_21)) (Or.inr (C.hw w_22)) (by decide) (t := (.array .byte)) (t' := .byte) (by decide) (by decide))))
  have V113 := (((S101.2.2.2.1.other W105 (Ne.symm (X101 _ (List.mem_of_getElem? (i := 0) rfl)).2)).ext E106).other W109 (Ne.symm (X101 _ (List.mem_of_getElem? (i := 0) rfl)).2))
  exact ⟨rfl, (((((Keep.refl _ _).ext E101).wr W105 (Or.inl (List.mem_cons_self ..))).ext E106).wr W109 (Or.inl (List.mem_cons_self ..))), t101, _, (Ne.symm (X101 _ (List.mem_of_getElem? (i := 0) rfl)).2), E110, F109, F112, V113, by decide, fun _ q => nomatch q⟩
theorem d_jdk_42_method_3_code_0 : decode jdk_42_method_3_code 0 = .ok (.aload_n 0, 1) := by decide +kernel
theorem d_jdk_42_method_3_code_1 : decode jdk_42_method_3_code 1 = .ok (.aload_n 1, 1) := by decide +kernel
theorem d_jdk_42_method_3_code_2 : decode jdk_42_method_3_code 2 = .ok (.iconst 0, 1) := by decide +kernel
theorem d_jdk_42_method_3_code_3 : decode jdk_42_method_3_code 3 = .ok (.aload_n 1, 1) := by decide +kernel
theorem d_jdk_42_method_3_code_4 : decode jdk_42_method_3_code 4 = .ok (.arraylength, 1) := by decide +kernel
theorem d_jdk_42_method_3_code_5 : decode jdk_42_method_3_code 5 = .ok (.aconst_null, 1) := by decide +kernel
theorem d_jdk_42_method_3_code_6 : decode jdk_42_method_3_code 6 = .ok (.invokespecial 27, 3) := by decide +kernel
theorem d_jdk_42_method_3_code_9 : decode jdk_42_method_3_code 9 = .ok (.return_, 1) := by decide +kernel
theorem pd___CIILjava_lang_Void__V : parseMethodDescriptor "([CIILjava/lang/Void;)V" = some ⟨[(.array .char), .int, .int, (.object "java/lang/Void")], none⟩ := by decide +kernel
set_option maxRecDepth 65536 in
set_option maxHeartbeats 40000000 in
theorem rm_S1e (l : Launch) (Z : State) (a0 : Array Value) (hw : ∀ d ∈ tables_1, d.before a0 Z = true) (hEL : EW Z a0 consts_1) {ws : List Jvm.Cond} (x b : Addr) (kc : ClassId) (h0 : Heap) (n0 : Nat) (E1 : Exa Z h0 x "java/lang/String") (F1 : Fld Z h0 x "java/lang/String" "value" "[B" .null) (F2 : Fld Z h0 x "java/lang/String" "coder" "B" (.int 0)) (Vb : Arv Z h0 b kc .char (0 : Int32) [] (.int 0)) :
    Met l Z consts_1 (⟨"java/lang/String", "<init>", "([C)V"⟩ : MethodName) jdk_42_method_3_code 2 none ws ({ frames := 2, cells := 4, slots := 8, locals := 31 } : Room) [x] #[(.ref x), (.ref b)] h0 n0 (nq (fun v h => v = none ∧ Keep h0 h [x] ∧ ∃ t kb, t ≠ x ∧ Str Z h x t kb [])) := by
  refine met_of (plainFor_of_name pn_java_lang_String) hw #[.val (.ref x), .val (.ref b)] (fun m => by first | rfl | (simp [entryFrame, mkF, argsToLocals, Value.category]; done)) ?_
  intro p e s m below meth c C0
  have C : Cx Z a0 tables_1 p s m meth c "java/lang/String" "<init>" jdk_42_method_3_code 2 none n0 := C0
  refine g_aloadN C d_jdk_42_method_3_code_0 rfl rfl ?_
  refine g_aloadN C d_jdk_42_method_3_code_1 rfl rfl ?_
  refine g_iconst C 0 d_jdk_42_method_3_code_2 rfl ?_
  refine g_aloadN C d_jdk_42_method_3_code_3 rfl rfl ?_
  refine g_arraylength C Vb d_jdk_42_method_3_code_4 ?_
  refine g_aconst_null C d_jdk_42_method_3_code_5 ?_
  refine g_special C (a := x) w_12 w_13 w_15 rfl (by decide) [(.ref b), (.int (0 : Int32)), (.int (0 : Int32)), .null] (ct_of hEL hw w_15 w_8 (rm_S4e l Z a0 hw hEL x b h0 n0 E1 F1 F2)) (allS (List.mem_of_getElem? (i := 0) rfl) all0) (by decide) 0 (by decide) rfl pd___CIILjava_lang_Void__V rfl [] rfl (Nat.le_of_eq rfl) d_jdk_42_method_3_code_6 (by decide) (by decide) ?_
  intro v114 h114 Q114
  obtain ⟨rfl, KC114, t114, kb114, tx114, S114⟩ := Q114
  refine g_return C hEL rfl d_jdk_42_method_3_code_9 (by decide) (by decide) ?_
  exact ⟨rfl, KC114, _, _, tx114, S114⟩
theorem d_jdk_41_method_12_code_0 : decode jdk_41_method_12_code 0 = .ok (.iload_n 0, 1) := by decide +kernel
theorem d_jdk_41_method_12_code_1 : decode jdk_41_method_12_code 1 = .ok (.ifCond .lt 13, 3) := by decide +kernel
theorem d_jdk_41_method_12_code_4 : decode jdk_41_method_12_code 4 = .ok (.iload_n 0, 1) := by decide +kernel
theorem d_jdk_41_method_12_code_5 : decode jdk_41_method_12_code 5 = .ok (.iload_n 1, 1) := by decide +kernel
theorem d_jdk_41_method_12_code_6 : decode jdk_41_method_12_code 6 = .ok (.if_icmp .gt 8, 3) := by decide +kernel
theorem d_jdk_41_method_12_code_9 : decode jdk_41_method_12_code 9 = .ok (.iload_n 1, 1) := by decide +kernel
theorem d_jdk_41_method_12_code_10 : decode jdk_41_method_12_code 10 = .ok (.iload_n 2, 1) := by decide +kernel
theorem d_jdk_41_method_12_code_11 : decode jdk_41_method_12_code 11 = .ok (.if_icmp .le 11, 3) := by decide +kernel
theorem d_jdk_41_method_12_code_22 : decode jdk_41_method_12_code 22 = .ok (.iload_n 0, 1) := by decide +kernel
theorem d_jdk_41_method_12_code_23 : decode jdk_41_method_12_code 23 = .ok (.ireturn, 1) := by decide +kernel
theorem pn_jdk_internal_util_Preconditions : plainName "jdk/internal/util/Preconditions" = true := by first | (simp [plainName, overriddenIn]; done) | decide +kernel
set_option maxRecDepth 65536 in
set_option maxHeartbeats 40000000 in
theorem rm_cfti (l : Launch) (Z : State) (a0 : Array Value) (hw : ∀ d ∈ tables_1, d.before a0 Z = true) (hEL : EW Z a0 consts_1) {ws : List Jvm.Cond} (b e' l' : Int32) (fm : Value) (h0 : Heap) (n0 : Nat) (hb0 : ¬ b < 0) (hbe : ¬ e' < b) (hel : ¬ l' < e') (hfm : fm.isRef = true) :
    Met l Z consts_1 (⟨"jdk/internal/util/Preconditions", "checkFromToIndex", "(IIILjava/util/function/BiFunction;)I"⟩ : MethodName) jdk_41_method_12_code 4 (some .int) ws ({ frames := 0, cells := 0, slots := 0, locals := 0 } : Room) [] #[(.int b), (.int e'), (.int l'), fm] h0 n0 (nq (fun v h => v = some (.int b) ∧ h = h0)) := by
  refine met_of (plainFor_of_name pn_jdk_internal_util_Preconditions) hw #[.val (.int b), .val (.int e'), .val (.int l'), .val fm] (fun m => by first | (rcases ref_cases hfm with rfl | ⟨bq, rfl⟩ <;> rfl)) ?_
  intro p e s m below meth c C0
  have C : Cx Z a0 tables_1 p s m meth c "jdk/internal/util/Preconditions" "checkFromToIndex" jdk_41_method_12_code 4 (some .int) n0 := C0
  refine g_iloadN C d_jdk_41_method_12_code_0 rfl ?_
  refine g_if_f C d_jdk_41_method_12_code_1 (XT.i0_lt_f hb0) ?_
  refine g_iloadN C d_jdk_41_method_12_code_4 rfl ?_
  refine g_iloadN C d_jdk_41_method_12_code_5 rfl ?_
  refine g_icmp_f C d_jdk_41_method_12_code_6 (XT.ii_gt_f hbe) ?_
  refine g_iloadN C d_jdk_41_method_12_code_9 rfl ?_
  refine g_iloadN C d_jdk_41_method_12_code_10 rfl ?_
  refine g_icmp_t C 22 d_jdk_41_method_12_code_11 (XT.ii_le_t hel) (by decide) (by decide) ?_
  refine g_iloadN C d_jdk_41_method_12_code_22 rfl ?_
  refine g_ireturnI C hEL rfl d_jdk_41_method_12_code_23 (by decide) (by decide) ?_
  exact ⟨rfl, rfl⟩
theorem d_jdk_42_method_158_code_0 : decode jdk_42_method_158_code 0 = .ok (.iload_n 0, 1) := by decide +kernel
theorem d_jdk_42_method_158_code_1 : decode jdk_42_method_158_code 1 = .ok (.iload_n 1, 1) := by decide +kernel
theorem d_jdk_42_method_158_code_2 : decode jdk_42_method_158_code 2 = .ok (.iload_n 2, 1) := by decide +kernel
theorem d_jdk_42_method_158_code_3 : decode jdk_42_method_158_code 3 = .ok (.getstatic 1053, 3) := by decide +kernel
theorem d_jdk_42_method_158_code_6 : decode jdk_42_method_158_code 6 = .ok (.invokestatic 1062, 3) := by decide +kernel
theorem d_jdk_42_method_158_code_9 : decode jdk_42_method_158_code 9 = .ok (.pop, 1) := by decide +kernel
theorem d_jdk_42_method_158_code_10 : decode jdk_42_method_158_code 10 = .ok (.return_, 1) := by decide +kernel
theorem pd__IIILjava_util_function_BiFunction__I : parseMethodDescriptor "(IIILjava/util/function/BiFunction;)I" = some ⟨[.int, .int, .int, (.object "java/util/function/BiFunction")], some .int⟩ := by decide +kernel
set_option maxRecDepth 65536 in
set_option maxHeartbeats 40000000 in
theorem rm_cbbe (l : Launch) (Z : State) (a0 : Array Value) (hw : ∀ d ∈ tables_1, d.before a0 Z = true) (hEL : EW Z a0 consts_1) {ws : List Jvm.Cond} (b e' l' : Int32) (fm : Value) (h0 : Heap) (n0 : Nat) (hb0 : ¬ b < 0) (hbe : ¬ e' < b) (hel : ¬ l' < e') (Sfm : Sta Z h0 "jdk/internal/util/Preconditions" "SIOOBE_FORMATTER" "Ljava/util/function/BiFunction;" fm) (hfm : fm.isRef = true) :
    Met l Z consts_1 (⟨"java/lang/String", "checkBoundsBeginEnd", "(III)V"⟩ : MethodName) jdk_42_method_158_code 3 none ws ({ frames := 1, cells := 0, slots := 0, locals := 16 } : Room) [] #[(.int b), (.int e'), (.int l')] h0 n0 (nq (fun v h => v = none ∧ h = h0)) := by
  refine met_of (plainFor_of_name pn_java_lang_String) hw #[.val (.int b), .val (.int e'), .val (.int l')] (fun m => by first | rfl | (simp [entryFrame, mkF, argsToLocals, Value.category]; done)) ?_
  intro p e s m below meth c C0
  have C : Cx Z a0 tables_1 p s m meth c "java/lang/String" "checkBoundsBeginEnd" jdk_42_method_158_code 3 none n0 := C0
  refine g_iloadN C d_jdk_42_method_158_code_0 rfl ?_
  refine g_iloadN C d_jdk_42_method_158_code_1 rfl ?_
  refine g_iloadN C d_jdk_42_method_158_code_2 rfl ?_
  refine g_getstatic C w_56 Via.refl Sfm d_jdk_42_method_158_code_3 ?_
  refine g_static C w_58 w_59 w_57 w_60 (by decide) [(.int b), (.int e'), (.int l'), fm] (ct_of hEL hw w_60 w_57 (rm_cfti l Z a0 hw hEL b e' l' fm h0 n0 hb0 hbe hel hfm)) all0 (by decide) 0 (by decide) rfl pd__IIILjava_util_function_BiFunction__I rfl [] rfl (Nat.le_of_eq rfl) d_jdk_42_method_158_code_6 (by decide) (by decide) ?_
  intro v115 h115 Q115
  obtain ⟨rfl, e115⟩ := Q115
  replace e115 := e115.symm
  subst e115
  refine g_pop C d_jdk_42_method_158_code_9 rfl ?_
  refine g_return C hEL rfl d_jdk_42_method_158_code_10 (by decide) (by decide) ?_
  exact ⟨rfl, rfl⟩
theorem d_jdk_42_method_154_code_0 : decode jdk_42_method_154_code 0 = .ok (.getstatic 38, 3) := by decide +kernel
theorem d_jdk_42_method_154_code_3 : decode jdk_42_method_154_code 3 = .ok (.ifCond .eq 14, 3) := by decide +kernel
theorem d_jdk_42_method_154_code_6 : decode jdk_42_method_154_code 6 = .ok (.aload_n 0, 1) := by decide +kernel
theorem d_jdk_42_method_154_code_7 : decode jdk_42_method_154_code 7 = .ok (.getfield 15, 3) := by decide +kernel
theorem d_jdk_42_method_154_code_10 : decode jdk_42_method_154_code 10 = .ok (.ifCond .ne 7, 3) := by decide +kernel
theorem d_jdk_42_method_154_code_13 : decode jdk_42_method_154_code 13 = .ok (.iconst 1, 1) := by decide +kernel
theorem d_jdk_42_method_154_code_14 : decode jdk_42_method_154_code 14 = .ok (.goto 4, 3) := by decide +kernel
theorem d_jdk_42_method_154_code_18 : decode jdk_42_method_154_code 18 = .ok (.ireturn, 1) := by decide +kernel
set_option maxRecDepth 65536 in
set_option maxHeartbeats 40000000 in
theorem rm_lat (l : Launch) (Z : State) (a0 : Array Value) (hw : ∀ d ∈ tables_1, d.before a0 Z = true) (hEL : EW Z a0 consts_1) {ws : List Jvm.Cond} (s : Addr) (zc : Int32) (h0 : Heap) (n0 : Nat) (Fc : Fld Z h0 s "java/lang/String" "coder" "B" (.int 0)) (Szc : Sta Z h0 "java/lang/String" "COMPACT_STRINGS" "Z" (.int zc)) (hzc : ¬ (zc = (0 : Int32))) :
    Met l Z consts_1 (⟨"java/lang/String", "isLatin1", "()Z"⟩ : MethodName) jdk_42_method_154_code 1 (some .boolean) ws ({ frames := 0, cells := 0, slots := 0, locals := 0 } : Room) [] #[(.ref s)] h0 n0 (nq (fun v h => v = some (.int 1) ∧ h = h0)) := by
  refine met_of (plainFor_of_name pn_java_lang_String) hw #[.val (.ref s)] (fun m => by first | rfl | (simp [entryFrame, mkF, argsToLocals, Value.category]; done)) ?_
  intro p e sT m below meth c C0
  have C : Cx Z a0 tables_1 p sT m meth c "java/lang/String" "isLatin1" jdk_42_method_154_code 1 (some .boolean) n0 := C0
  refine g_getstatic C w_41 Via.refl Szc d_jdk_42_method_154_code_0 ?_
  refine g_if_f C d_jdk_42_method_154_code_3 (XT.i0_eq_f hzc) ?_
  refine g_aloadN C d_jdk_42_method_154_code_6 rfl rfl ?_
  refine g_getfield C w_26 Via.refl Fc d_jdk_42_method_154_code_7 ?_
  refine g_if_f C d_jdk_42_method_154_code_10 (XT.i0_ne_f (by decide)) ?_
  refine g_iconst C 1 d_jdk_42_method_154_code_13 rfl ?_
  refine g_goto C 18 d_jdk_42_method_154_code_14 (by decide) (by decide) ?_
  refine g_ireturnN C hEL (t := .boolean) rfl (by simp) d_jdk_42_method_154_code_18 (by decide) (by decide) ?_
  exact ⟨rfl, rfl⟩
theorem d_jdk_42_method_151_code_0 : decode jdk_42_method_151_code 0 = .ok (.aload_n 0, 1) := by decide +kernel
theorem d_jdk_42_method_151_code_1 : decode jdk_42_method_151_code 1 = .ok (.invokespecial 1, 3) := by decide +kernel
theorem d_jdk_42_method_151_code_4 : decode jdk_42_method_151_code 4 = .ok (.aload_n 0, 1) := by decide +kernel
theorem d_jdk_42_method_151_code_5 : decode jdk_42_method_151_code 5 = .ok (.aload_n 1, 1) := by decide +kernel
theorem d_jdk_42_method_151_code_6 : decode jdk_42_method_151_code 6 = .ok (.putfield 9, 3) := by decide +kernel
theorem d_jdk_42_method_151_code_9 : decode jdk_42_method_151_code 9 = .ok (.aload_n 0, 1) := by decide +kernel
theorem d_jdk_42_method_151_code_10 : decode jdk_42_method_151_code 10 = .ok (.iload_n 2, 1) := by decide +kernel
theorem d_jdk_42_method_151_code_11 : decode jdk_42_method_151_code 11 = .ok (.putfield 15, 3) := by decide +kernel
theorem d_jdk_42_method_151_code_14 : decode jdk_42_method_151_code 14 = .ok (.return_, 1) := by decide +kernel
set_option maxRecDepth 65536 in
set_option maxHeartbeats 40000000 in
theorem rm_sbb (l : Launch) (Z : State) (a0 : Array Value) (hw : ∀ d ∈ tables_1, d.before a0 Z = true) (hEL : EW Z a0 consts_1) {ws : List Jvm.Cond} (x t : Addr) (h0 : Heap) (n0 : Nat) (E1 : Exa Z h0 x "java/lang/String") (F1 : Fld Z h0 x "java/lang/String" "value" "[B" .null) (F2 : Fld Z h0 x "java/lang/String" "coder" "B" (.int 0)) :
    Met l Z consts_1 (⟨"java/lang/String", "<init>", "([BB)V"⟩ : MethodName) jdk_42_method_151_code 3 none ws ({ frames := 1, cells := 0, slots := 0, locals := 12 } : Room) [x] #[(.ref x), (.ref t), (.int (0 : Int32))] h0 n0 (nq (fun v h => v = none ∧ Keep h0 h [x] ∧ Exa Z h x "java/lang/String" ∧ Fld Z h x "java/lang/String" "coder" "B" (.int 0) ∧ Fld Z h x "java/lang/String" "value" "[B" (.ref t))) := by
  refine met_of (plainFor_of_name pn_java_lang_String) hw #[.val (.ref x), .val (.ref t), .val (.int (0 : Int32))] (fun m => by first | rfl | (simp [entryFrame, mkF, argsToLocals, Value.category]; done)) ?_
  intro p e s m below meth c C0
  have C : Cx Z a0 tables_1 p s m meth c "java/lang/String" "<init>" jdk_42_method_151_code 3 none n0 := C0
  refine g_aloadN C d_jdk_42_method_151_code_0 rfl rfl ?_
  refine g_initO C w_16 w_17 w_18 rfl d_jdk_42_method_151_code_1 (by decide) 0 (Nat.le_of_eq rfl) (by decide) ?_
  refine g_aloadN C d_jdk_42_method_151_code_4 rfl rfl ?_
  refine g_aloadN C d_jdk_42_method_151_code_5 rfl rfl ?_
  refine g_putfield C (.array .byte) w_25 Via.refl F1 E1 (Or.inr ⟨w_21, rfl, rfl⟩) w_7 (by decide) rfl rfl (List.mem_of_getElem? (i := 0) rfl) d_jdk_42_method_151_code_6 ?_
  intro h116 W116 F116
  refine g_aloadN C d_jdk_42_method_151_code_9 rfl rfl ?_
  refine g_iloadN C d_jdk_42_method_151_code_10 rfl ?_
  have F117 := (F2.other W116 (Or.inr (slot_ne (Or.inr (C.hw w_22)) (Or.inr (C.hw w_21)) (by decide) (t := .byte) (t' := (.array .byte)) (by decide) (by decide))))
  have E118 := (E1.wr W116)
  refine g_putfieldZ C .byte (.int (0 : Int32)) w_26 Via.refl F117 E118 (Or.inr ⟨w_22, rfl, rfl⟩) w_7 (by decide) rfl (by decide) (List.mem_of_getElem? (i := 0) rfl) d_jdk_42_method_151_code_11 ?_
  intro h119 W119 F119
  refine g_return C hEL rfl d_jdk_42_method_151_code_14 (by decide) (by decide) ?_
  have E120 := (E118.wr W119)
  have F121 := (F116.other W119 (Or.inr (slot_ne (Or.inr (C.hw w_21)) (Or.inr (C.hw w_22)) (by decide) (t := (.array .byte)) (t' := .byte) (by decide) (by decide))))
  exact ⟨rfl, (((Keep.refl _ _).wr W116 (Or.inl (List.mem_cons_self ..))).wr W119 (Or.inl (List.mem_cons_self ..))), E120, F119, F121⟩
theorem d_jdk_29_method_69_code_0 : decode jdk_29_method_69_code 0 = .ok (.iload_n 0, 1) := by decide +kernel
theorem d_jdk_29_method_69_code_1 : decode jdk_29_method_69_code 1 = .ok (.iload_n 1, 1) := by decide +kernel
theorem d_jdk_29_method_69_code_2 : decode jdk_29_method_69_code 2 = .ok (.if_icmp .gt 7, 3) := by decide +kernel
theorem d_jdk_29_method_69_code_5 : decode jdk_29_method_69_code 5 = .ok (.iload_n 0, 1) := by decide +kernel
theorem d_jdk_29_method_69_code_6 : decode jdk_29_method_69_code 6 = .ok (.goto 4, 3) := by decide +kernel
theorem d_jdk_29_method_69_code_9 : decode jdk_29_method_69_code 9 = .ok (.iload_n 1, 1) := by decide +kernel
theorem d_jdk_29_method_69_code_10 : decode jdk_29_method_69_code 10 = .ok (.ireturn, 1) := by decide +kernel
set_option maxRecDepth 65536 in
set_option maxHeartbeats 40000000 in
theorem rm_min (l : Launch) (Z : State) (a0 : Array Value) (hw : ∀ d ∈ tables_1, d.before a0 Z = true) (hEL : EW Z a0 consts_1) {ws : List Jvm.Cond} (x y : Int32) (h0 : Heap) (n0 : Nat) :
    Met l Z consts_1 (⟨"java/lang/Math", "min", "(II)I"⟩ : MethodName) jdk_29_method_69_code 2 (some .int) ws ({ frames := 0, cells := 0, slots := 0, locals := 0 } : Room) [] #[(.int x), (.int y)] h0 n0 (nq (fun v h => v = some (.int (if y < x then y else x)) ∧ h = h0)) := by
  refine met_of (Jvm.Free.JP.mathPlain rfl (by decide +kernel)) hw #[.val (.int x), .val (.int y)] (fun m => by first | rfl | (simp [entryFrame, mkF, argsToLocals, Value.category]; done)) ?_
  intro p e s m below meth c C0
  have C : Cx Z a0 tables_1 p s m meth c "java/lang/Math" "min" jdk_29_method_69_code 2 (some .int) n0 := C0
  refine g_iloadN C d_jdk_29_method_69_code_0 rfl ?_
  refine g_iloadN C d_jdk_29_method_69_code_1 rfl ?_
  by_cases hc122 : y < x
  · refine g_icmp_t C 9 d_jdk_29_method_69_code_2 (XT.ii_gt_t hc122) (by decide) (by decide) ?_
    refine g_iloadN C d_jdk_29_method_69_code_9 rfl ?_
    refine g_ireturnI C hEL rfl d_jdk_29_method_69_code_10 (by decide) (by decide) ?_
    exact ⟨by simp [hc122], rfl⟩
  · refine g_icmp_f C d_jdk_29_method_69_code_2 (XT.ii_gt_f hc122) ?_
    refine g_iloadN C d_jdk_29_method_69_code_5 rfl ?_
    refine g_goto C 10 d_jdk_29_method_69_code_6 (by decide) (by decide) ?_
    refine g_ireturnI C hEL rfl d_jdk_29_method_69_code_10 (by decide) (by decide) ?_
    exact ⟨by simp [hc122], rfl⟩
theorem d_jdk_65_method_131_code_0 : decode jdk_65_method_131_code 0 = .ok (.iload_n 1, 1) := by decide +kernel
theorem d_jdk_65_method_131_code_1 : decode jdk_65_method_131_code 1 = .ok (.iload_n 0, 1) := by decide +kernel
theorem d_jdk_65_method_131_code_2 : decode jdk_65_method_131_code 2 = .ok (.if_icmp .ge 35, 3) := by decide +kernel
theorem d_jdk_65_method_131_code_37 : decode jdk_65_method_131_code 37 = .ok (.return_, 1) := by decide +kernel
theorem pn_java_util_Arrays : plainName "java/util/Arrays" = true := by first | (simp [plainName, overriddenIn]; done) | decide +kernel
set_option maxRecDepth 65536 in
set_option maxHeartbeats 40000000 in
theorem rm_cl (l : Launch) (Z : State) (a0 : Array Value) (hw : ∀ d ∈ tables_1, d.before a0 Z = true) (hEL : EW Z a0 consts_1) {ws : List Jvm.Cond} (x y : Int32) (h0 : Heap) (n0 : Nat) (hxy : ¬ y < x) :
    Met l Z consts_1 (⟨"java/util/Arrays", "checkLength", "(II)V"⟩ : MethodName) jdk_65_method_131_code 2 none ws ({ frames := 0, cells := 0, slots := 0, locals := 0 } : Room) [] #[(.int x), (.int y)] h0 n0 (nq (fun v h => v = none ∧ h = h0)) := by
  refine met_of (plainFor_of_name pn_java_util_Arrays) hw #[.val (.int x), .val (.int y)] (fun m => by first | rfl | (simp [entryFrame, mkF, argsToLocals, Value.category]; done)) ?_
  intro p e s m below meth c C0
  have C : Cx Z a0 tables_1 p s m meth c "java/util/Arrays" "checkLength" jdk_65_method_131_code 2 none n0 := C0
  refine g_iloadN C d_jdk_65_method_131_code_0 rfl ?_
  refine g_iloadN C d_jdk_65_method_131_code_1 rfl ?_
  refine g_icmp_t C 37 d_jdk_65_method_131_code_2 (XT.ii_ge_t hxy) (by decide) (by decide) ?_
  refine g_return C hEL rfl d_jdk_65_method_131_code_37 (by decide) (by decide) ?_
  exact ⟨rfl, rfl⟩
def dz : List Int32 → List Int32
  | [] => []
  | x :: r => if x = 48 then dz r else x :: r
theorem own_five (x : Int32) : (x &&& 2147483647) % 5 = 0 ∨ (x &&& 2147483647) % 5 = 1 ∨ (x &&& 2147483647) % 5 = 2 ∨ (x &&& 2147483647) % 5 = 3 ∨ (x &&& 2147483647) % 5 = 4 := by
  have hx : ¬ (x &&& (2147483647 : Int32)) < 0 := by
    rw [XT.and_neg32]; exact fun q => absurd q.2 (by decide)
  rw [Int32.lt_iff_toInt_lt] at hx
  have e0 : (0 : Int32).toInt = 0 := rfl
  simp only [← Int32.toInt_inj, Int32.toInt_mod, e0, show (1 : Int32).toInt = 1 from rfl, show (2 : Int32).toInt = 2 from rfl, show (3 : Int32).toInt = 3 from rfl, show (4 : Int32).toInt = 4 from rfl, show (5 : Int32).toInt = 5 from rfl] at *
  have h1 := Int.tmod_nonneg (a := (x &&& 2147483647).toInt) 5 (by omega)
  have h2 := Int.tmod_lt_of_pos (x &&& 2147483647).toInt (b := 5) (by omega)
  omega

theorem d_method_2_code_0 : decode method_2_code 0 = .ok (.iload_n 0, 1) := by decide +kernel
theorem d_method_2_code_1 : decode method_2_code 1 = .ok (.iconst 1, 1) := by decide +kernel
theorem d_method_2_code_2 : decode method_2_code 2 = .ok (.iand, 1) := by decide +kernel
theorem d_method_2_code_3 : decode method_2_code 3 = .ok (.ifCond .ne 8, 3) := by decide +kernel
theorem d_method_2_code_6 : decode method_2_code 6 = .ok (.bipush 48, 2) := by decide +kernel
theorem d_method_2_code_8 : decode method_2_code 8 = .ok (.goto 11, 3) := by decide +kernel
theorem d_method_2_code_11 : decode method_2_code 11 = .ok (.iload_n 0, 1) := by decide +kernel
theorem d_method_2_code_12 : decode method_2_code 12 = .ok (.iconst 1, 1) := by decide +kernel
theorem d_method_2_code_13 : decode method_2_code 13 = .ok (.iushr, 1) := by decide +kernel
theorem d_method_2_code_14 : decode method_2_code 14 = .ok (.sipush 255, 3) := by decide +kernel
theorem d_method_2_code_17 : decode method_2_code 17 = .ok (.iand, 1) := by decide +kernel
theorem d_method_2_code_18 : decode method_2_code 18 = .ok (.i2c, 1) := by decide +kernel
theorem d_method_2_code_19 : decode method_2_code 19 = .ok (.ireturn, 1) := by decide +kernel
theorem pn_com_example_tributary_tributary_DecimalsStripLeadingZerosPinLaw : plainName "com/example/tributary/tributary/DecimalsStripLeadingZerosPinLaw" = true := by first | (simp [plainName, overriddenIn]; done) | decide +kernel
set_option maxRecDepth 65536 in
set_option maxHeartbeats 40000000 in
theorem rm_ch (l : Launch) (Z : State) (a0 : Array Value) (hw : ∀ d ∈ tables_1, d.before a0 Z = true) (hEL : EW Z a0 consts_1) {ws : List Jvm.Cond} (xx : Int32) (h0 : Heap) (n0 : Nat) :
    Met l Z consts_1 (⟨"com/example/tributary/tributary/DecimalsStripLeadingZerosPinLaw", "ch", "(I)C"⟩ : MethodName) method_2_code 1 (some .char) ws ({ frames := 0, cells := 0, slots := 0, locals := 0 } : Room) [] #[(.int xx)] h0 n0 (nq (fun v h => ∃ z, v = some (.int (nar .char z)) ∧ Ch8 z ∧ h = h0)) := by
  refine met_of (plainFor_of_name pn_com_example_tributary_tributary_DecimalsStripLeadingZerosPinLaw) hw #[.val (.int xx)] (fun m => by first | rfl | (simp [entryFrame, mkF, argsToLocals, Value.category]; done)) ?_
  intro p e s m below meth c C0
  have C : Cx Z a0 tables_1 p s m meth c "com/example/tributary/tributary/DecimalsStripLeadingZerosPinLaw" "ch" method_2_code 1 (some .char) n0 := C0
  refine g_iloadN C d_method_2_code_0 rfl ?_
  refine g_iconst C 1 d_method_2_code_1 rfl ?_
  refine g_iand C d_method_2_code_2 ?_
  by_cases hc123 : (xx &&& (1 : Int32)) = 0
  · refine g_if_f C d_method_2_code_3 (XT.i0_ne_f hc123) ?_
    refine g_bipush C 48 d_method_2_code_6 rfl ?_
    refine g_goto C 19 d_method_2_code_8 (by decide) (by decide) ?_
    refine g_ireturnN C hEL (t := .char) rfl (by simp) d_method_2_code_19 (by decide) (by decide) ?_
    exact ⟨_, rfl, by unfold Ch8; decide, rfl⟩
  · refine g_if_t C 11 d_method_2_code_3 (XT.i0_ne_t hc123) (by decide) (by decide) ?_
    refine g_iloadN C d_method_2_code_11 rfl ?_
    refine g_iconst C 1 d_method_2_code_12 rfl ?_
    refine g_iushr C d_method_2_code_13 ?_
    refine g_sipush C 255 d_method_2_code_14 rfl ?_
    refine g_iand C d_method_2_code_17 ?_
    refine g_i2c C d_method_2_code_18 ?_
    refine g_ireturnN C hEL (t := .char) rfl (by simp) d_method_2_code_19 (by decide) (by decide) ?_
    exact ⟨_, rfl, ch8_i2c _, rfl⟩
theorem d_method_3_code_0 : decode method_3_code 0 = .ok (.iload_n 3, 1) := by decide +kernel
theorem d_method_3_code_1 : decode method_3_code 1 = .ok (.iload 4, 2) := by decide +kernel
theorem d_method_3_code_3 : decode method_3_code 3 = .ok (.if_icmp .ge 16, 3) := by decide +kernel
theorem d_method_3_code_19 : decode method_3_code 19 = .ok (.iconst 1, 1) := by decide +kernel
theorem d_method_3_code_20 : decode method_3_code 20 = .ok (.goto 4, 3) := by decide +kernel
theorem d_method_3_code_24 : decode method_3_code 24 = .ok (.ireturn, 1) := by decide +kernel
set_option maxRecDepth 65536 in
set_option maxHeartbeats 40000000 in
theorem rm_atT (l : Launch) (Z : State) (a0 : Array Value) (hw : ∀ d ∈ tables_1, d.before a0 Z = true) (hEL : EW Z a0 consts_1) {ws : List Jvm.Cond} (s b : Addr) (kk ii nn : Int32) (h0 : Heap) (n0 : Nat) (hin : ¬ ii < nn) :
    Met l Z consts_1 (⟨"com/example/tributary/tributary/DecimalsStripLeadingZerosPinLaw", "at", "(Ljava/lang/String;[CIII)Z"⟩ : MethodName) method_3_code 5 (some .boolean) ws ({ frames := 4, cells := 0, slots := 0, locals := 60 } : Room) [] #[(.ref s), (.ref b), (.int kk), (.int ii), (.int nn)] h0 n0 (nq (fun v h => v = some (.int 1) ∧ h = h0)) := by
  refine met_of (plainFor_of_name pn_com_example_tributary_tributary_DecimalsStripLeadingZerosPinLaw) hw #[.val (.ref s), .val (.ref b), .val (.int kk), .val (.int ii), .val (.int nn)] (fun m => by first | rfl | (simp [entryFrame, mkF, argsToLocals, Value.category]; done)) ?_
  intro p e sT m below meth c C0
  have C : Cx Z a0 tables_1 p sT m meth c "com/example/tributary/tributary/DecimalsStripLeadingZerosPinLaw" "at" method_3_code 5 (some .boolean) n0 := C0
  refine g_iloadN C d_method_3_code_0 rfl ?_
  refine g_iload C d_method_3_code_1 rfl ?_
  refine g_icmp_t C 19 d_method_3_code_3 (XT.ii_ge_t hin) (by decide) (by decide) ?_
  refine g_iconst C 1 d_method_3_code_19 rfl ?_
  refine g_goto C 24 d_method_3_code_20 (by decide) (by decide) ?_
  refine g_ireturnN C hEL (t := .boolean) rfl (by simp) d_method_3_code_24 (by decide) (by decide) ?_
  exact ⟨rfl, rfl⟩
theorem d_method_3_code_6 : decode method_3_code 6 = .ok (.aload_n 0, 1) := by decide +kernel
theorem d_method_3_code_7 : decode method_3_code 7 = .ok (.iload_n 3, 1) := by decide +kernel
theorem d_method_3_code_8 : decode method_3_code 8 = .ok (.invokevirtual 7, 3) := by decide +kernel
theorem d_method_3_code_11 : decode method_3_code 11 = .ok (.aload_n 1, 1) := by decide +kernel
theorem d_method_3_code_12 : decode method_3_code 12 = .ok (.iload_n 2, 1) := by decide +kernel
theorem d_method_3_code_13 : decode method_3_code 13 = .ok (.iload_n 3, 1) := by decide +kernel
theorem d_method_3_code_14 : decode method_3_code 14 = .ok (.iadd, 1) := by decide +kernel
theorem d_method_3_code_15 : decode method_3_code 15 = .ok (.caload, 1) := by decide +kernel
theorem d_method_3_code_16 : decode method_3_code 16 = .ok (.if_icmp .ne 7, 3) := by decide +kernel
theorem pd__I_C : parseMethodDescriptor "(I)C" = some ⟨[.int], some .char⟩ := by decide +kernel
set_option maxRecDepth 65536 in
set_option maxHeartbeats 40000000 in
theorem rm_atC (l : Launch) (Z : State) (a0 : Array Value) (hw : ∀ d ∈ tables_1, d.before a0 Z = true) (hEL : EW Z a0 consts_1) {ws : List Jvm.Cond} (s t b : Addr) (kb kc : ClassId) (cs : List Int32) (kk : Int32) (ii : Nat) (nn zb : Int32) (vs : List Value) (dv : Value) (zc : Int32) (fm : Value) (h0 : Heap) (n0 : Nat) (hin : (Int32.ofNat ii) < nn) (S0 : Str Z h0 s t kb cs) (hi : ii < cs.length) (Vb : Arv Z h0 b kc .char zb vs dv) (hix : ¬ (kk + (Int32.ofNat ii)) < 0 ∧ (kk + (Int32.ofNat ii)) < zb) (hvx : vs.getD (kk + (Int32.ofNat ii)).toNatClampNeg dv = .int (cs.getD ii 0)) (Szc : Sta Z h0 "java/lang/String" "COMPACT_STRINGS" "Z" (.int zc)) (hzc : ¬ (zc = (0 : Int32))) (Sfm : Sta Z h0 "jdk/internal/util/Preconditions" "SIOOBE_FORMATTER" "Ljava/util/function/BiFunction;" fm) (hfm : fm.isRef = true) :
    Met l Z consts_1 (⟨"com/example/tributary/tributary/DecimalsStripLeadingZerosPinLaw", "at", "(Ljava/lang/String;[CIII)Z"⟩ : MethodName) method_3_code 5 (some .boolean) ws ({ frames := 4, cells := 0, slots := 0, locals := 60 } : Room) [] #[(.ref s), (.ref b), (.int kk), (.int (Int32.ofNat ii)), (.int nn)] h0 n0 (nq (fun v h => v = some (.int 1) ∧ h = h0)) := by
  refine met_of (plainFor_of_name pn_com_example_tributary_tributary_DecimalsStripLeadingZerosPinLaw) hw #[.val (.ref s), .val (.ref b), .val (.int kk), .val (.int (Int32.ofNat ii)), .val (.int nn)] (fun m => by first | rfl | (simp [entryFrame, mkF, argsToLocals, Value.category]; done)) ?_
  intro p e sT m below meth c C0
  have C : Cx Z a0 tables_1 p sT m meth c "com/example/tributary/tributary/DecimalsStripLeadingZerosPinLaw" "at" method_3_code 5 (some .boolean) n0 := C0
  refine g_iloadN C d_method_3_code_0 rfl ?_
  refine g_iload C d_method_3_code_1 rfl ?_
  refine g_icmp_f C d_method_3_code_3 (XT.ii_ge_f hin) ?_
  refine g_aloadN C d_method_3_code_6 rfl rfl ?_
  refine g_iloadN C d_method_3_code_7 rfl ?_
  refine g_virtual C S0.1 w_95 w_76 (fun hZ => nf_sel hw w_78 hZ) w_78 w_77 (by decide) [(.int (Int32.ofNat ii))] (ct_ch hEL hw S0 Szc hzc Sfm hfm ii hi _ rfl) all0 (by decide) 0 (by decide) rfl pd__I_C rfl [] rfl (Nat.le_of_eq rfl) d_method_3_code_8 (by decide) (by decide) ?_
  intro v124 h124 Q124
  obtain ⟨rfl, e124⟩ := Q124
  replace e124 := e124.symm
  subst e124
  refine g_aloadN C d_method_3_code_11 rfl rfl ?_
  refine g_iloadN C d_method_3_code_12 rfl ?_
  refine g_iloadN C d_method_3_code_13 rfl ?_
  refine g_iadd C d_method_3_code_14 ?_
  refine g_caload C Vb d_method_3_code_15 hix (v := (.int (cs.getD ii 0))) hvx ?_
  refine g_icmp_f C d_method_3_code_16 (XT.ii_ne_f rfl) ?_
  refine g_iconst C 1 d_method_3_code_19 rfl ?_
  refine g_goto C 24 d_method_3_code_20 (by decide) (by decide) ?_
  refine g_ireturnN C hEL (t := .boolean) rfl (by simp) d_method_3_code_24 (by decide) (by decide) ?_
  exact ⟨rfl, rfl⟩
theorem d_jdk_42_method_92_code_0 : decode jdk_42_method_92_code 0 = .ok (.aload_n 0, 1) := by decide +kernel
theorem d_jdk_42_method_92_code_1 : decode jdk_42_method_92_code 1 = .ok (.invokevirtual 505, 3) := by decide +kernel
theorem d_jdk_42_method_92_code_4 : decode jdk_42_method_92_code 4 = .ok (.istore_n 3, 1) := by decide +kernel
theorem d_jdk_42_method_92_code_5 : decode jdk_42_method_92_code 5 = .ok (.iload_n 1, 1) := by decide +kernel
theorem d_jdk_42_method_92_code_6 : decode jdk_42_method_92_code 6 = .ok (.iload_n 2, 1) := by decide +kernel
theorem d_jdk_42_method_92_code_7 : decode jdk_42_method_92_code 7 = .ok (.iload_n 3, 1) := by decide +kernel
theorem d_jdk_42_method_92_code_8 : decode jdk_42_method_92_code 8 = .ok (.invokestatic 521, 3) := by decide +kernel
theorem d_jdk_42_method_92_code_11 : decode jdk_42_method_92_code 11 = .ok (.iload_n 1, 1) := by decide +kernel
theorem d_jdk_42_method_92_code_12 : decode jdk_42_method_92_code 12 = .ok (.ifCond .ne 10, 3) := by decide +kernel
theorem d_jdk_42_method_92_code_15 : decode jdk_42_method_92_code 15 = .ok (.iload_n 2, 1) := by decide +kernel
theorem d_jdk_42_method_92_code_16 : decode jdk_42_method_92_code 16 = .ok (.iload_n 3, 1) := by decide +kernel
theorem d_jdk_42_method_92_code_17 : decode jdk_42_method_92_code 17 = .ok (.if_icmp .ne 5, 3) := by decide +kernel
theorem d_jdk_42_method_92_code_20 : decode jdk_42_method_92_code 20 = .ok (.aload_n 0, 1) := by decide +kernel
theorem d_jdk_42_method_92_code_21 : decode jdk_42_method_92_code 21 = .ok (.areturn, 1) := by decide +kernel
theorem pd___I : parseMethodDescriptor "()I" = some ⟨[], some .int⟩ := by decide +kernel
theorem pd__III_V : parseMethodDescriptor "(III)V" = some ⟨[.int, .int, .int], none⟩ := by decide +kernel
set_option maxRecDepth 65536 in
set_option maxHeartbeats 40000000 in
theorem rm_s20_0_0 (l : Launch) (Z : State) (a0 : Array Value) (hw : ∀ d ∈ tables_1, d.before a0 Z = true) (hEL : EW Z a0 consts_1) {ws : List Jvm.Cond} (s t : Addr) (kb : ClassId)  (zc : Int32) (fm : Value) (h0 : Heap) (n0 : Nat) (S0 : Str Z h0 s t kb []) (Szc : Sta Z h0 "java/lang/String" "COMPACT_STRINGS" "Z" (.int zc)) (hzc : ¬ (zc = (0 : Int32))) (Sfm : Sta Z h0 "jdk/internal/util/Preconditions" "SIOOBE_FORMATTER" "Ljava/util/function/BiFunction;" fm) (hfm : fm.isRef = true) :
    Met l Z consts_1 (⟨"java/lang/String", "substring", "(II)Ljava/lang/String;"⟩ : MethodName) jdk_42_method_92_code 5 (some (.object "java/lang/String")) ws ({ frames := 4, cells := 2, slots := 16, locals := 72 } : Room) [] #[(.ref s), (.int (0 : Int32)), (.int (0 : Int32))] h0 n0 (nq (fun v h => ∃ a t' k', v = some (.ref a) ∧ Keep h0 h [] ∧ Str Z h a t' k' [])) := by
  refine met_of (plainFor_of_name pn_java_lang_String) hw #[.val (.ref s), .val (.int (0 : Int32)), .val (.int (0 : Int32)), .unset, .unset] (fun m => by first | rfl | (simp [entryFrame, mkF, argsToLocals, Value.category]; done)) ?_
  intro p e sT m below meth c C0
  have C : Cx Z a0 tables_1 p sT m meth c "java/lang/String" "substring" jdk_42_method_92_code 5 (some (.object "java/lang/String")) n0 := C0
  refine g_aloadN C d_jdk_42_method_92_code_0 rfl rfl ?_
  refine g_virtual C S0.1 w_47 w_32 (fun hZ => nf_sel hw w_34 hZ) w_34 w_33 (by decide) [] (ct_len hEL hw S0 Szc hzc) all0 (by decide) 0 (by decide) rfl pd___I rfl [] rfl (Nat.le_of_eq rfl) d_jdk_42_method_92_code_1 (by decide) (by decide) ?_
  intro v125 h125 Q125
  obtain ⟨ev125, e125⟩ := Q125
  replace e125 := e125.symm
  subst e125
  replace ev125 : v125 = some (.int (0 : Int32)) := ev125
  subst ev125
  refine g_istoreN C #[.val (.ref s), .val (.int (0 : Int32)), .val (.int (0 : Int32)), .val (.int (0 : Int32)), .unset] d_jdk_42_method_92_code_4 rfl ?_
  refine g_iloadN C d_jdk_42_method_92_code_5 rfl ?_
  refine g_iloadN C d_jdk_42_method_92_code_6 rfl ?_
  refine g_iloadN C d_jdk_42_method_92_code_7 rfl ?_
  refine g_static C w_53 w_54 w_8 w_55 (by decide) [(.int (0 : Int32)), (.int (0 : Int32)), (.int (0 : Int32))] (ct_of hEL hw w_55 w_8 (rm_cbbe l Z a0 hw hEL (0 : Int32) (0 : Int32) (0 : Int32) fm h0 n0 (by decide) (by decide) (by decide) Sfm hfm)) all0 (by decide) 0 (by decide) rfl pd__III_V rfl [] rfl (Nat.le_of_eq rfl) d_jdk_42_method_92_code_8 (by decide) (by decide) ?_
  intro v126 h126 Q126
  obtain ⟨rfl, e126⟩ := Q126
  replace e126 := e126.symm
  subst e126
  refine g_iloadN C d_jdk_42_method_92_code_11 rfl ?_
  refine g_if_f C d_jdk_42_method_92_code_12 (XT.i0_ne_f (by decide)) ?_
  refine g_iloadN C d_jdk_42_method_92_code_15 rfl ?_
  refine g_iloadN C d_jdk_42_method_92_code_16 rfl ?_
  refine g_icmp_f C d_jdk_42_method_92_code_17 (XT.ii_ne_f (by decide)) ?_
  refine g_aloadN C d_jdk_42_method_92_code_20 rfl rfl ?_
  refine g_areturn C hEL (t := (.object "java/lang/String")) rfl rfl rfl d_jdk_42_method_92_code_21 (by decide) (by decide) ?_
  exact ⟨s, _, _, rfl, (Keep.refl h0 []), S0⟩
theorem d_jdk_42_method_91_code_0 : decode jdk_42_method_91_code 0 = .ok (.aload_n 0, 1) := by decide +kernel
theorem d_jdk_42_method_91_code_1 : decode jdk_42_method_91_code 1 = .ok (.iload_n 1, 1) := by decide +kernel
theorem d_jdk_42_method_91_code_2 : decode jdk_42_method_91_code 2 = .ok (.aload_n 0, 1) := by decide +kernel
theorem d_jdk_42_method_91_code_3 : decode jdk_42_method_91_code 3 = .ok (.invokevirtual 505, 3) := by decide +kernel
theorem d_jdk_42_method_91_code_6 : decode jdk_42_method_91_code 6 = .ok (.invokevirtual 681, 3) := by decide +kernel
theorem d_jdk_42_method_91_code_9 : decode jdk_42_method_91_code 9 = .ok (.areturn, 1) := by decide +kernel
theorem pd__II_Ljava_lang_String_ : parseMethodDescriptor "(II)Ljava/lang/String;" = some ⟨[.int, .int], some (.object "java/lang/String")⟩ := by decide +kernel
set_option maxRecDepth 65536 in
set_option maxHeartbeats 40000000 in
theorem rm_s10_0_0 (l : Launch) (Z : State) (a0 : Array Value) (hw : ∀ d ∈ tables_1, d.before a0 Z = true) (hEL : EW Z a0 consts_1) {ws : List Jvm.Cond} (s t : Addr) (kb : ClassId)  (zc : Int32) (fm : Value) (h0 : Heap) (n0 : Nat) (S0 : Str Z h0 s t kb []) (Szc : Sta Z h0 "java/lang/String" "COMPACT_STRINGS" "Z" (.int zc)) (hzc : ¬ (zc = (0 : Int32))) (Sfm : Sta Z h0 "jdk/internal/util/Preconditions" "SIOOBE_FORMATTER" "Ljava/util/function/BiFunction;" fm) (hfm : fm.isRef = true) :
    Met l Z consts_1 (⟨"java/lang/String", "substring", "(I)Ljava/lang/String;"⟩ : MethodName) jdk_42_method_91_code 2 (some (.object "java/lang/String")) ws ({ frames := 5, cells := 2, slots := 16, locals := 90 } : Room) [] #[(.ref s), (.int (0 : Int32))] h0 n0 (nq (fun v h => ∃ a t' k', v = some (.ref a) ∧ Keep h0 h [] ∧ Str Z h a t' k' [])) := by
  refine met_of (plainFor_of_name pn_java_lang_String) hw #[.val (.ref s), .val (.int (0 : Int32))] (fun m => by first | rfl | (simp [entryFrame, mkF, argsToLocals, Value.category]; done)) ?_
  intro p e sT m below meth c C0
  have C : Cx Z a0 tables_1 p sT m meth c "java/lang/String" "substring" jdk_42_method_91_code 2 (some (.object "java/lang/String")) n0 := C0
  refine g_aloadN C d_jdk_42_method_91_code_0 rfl rfl ?_
  refine g_iloadN C d_jdk_42_method_91_code_1 rfl ?_
  refine g_aloadN C d_jdk_42_method_91_code_2 rfl rfl ?_
  refine g_virtual C S0.1 w_47 w_32 (fun hZ => nf_sel hw w_34 hZ) w_34 w_33 (by decide) [] (ct_len hEL hw S0 Szc hzc) all0 (by decide) 2 (by decide) rfl pd___I rfl [(.int (0 : Int32)), (.ref s)] rfl (Nat.le_of_eq rfl) d_jdk_42_method_91_code_3 (by decide) (by decide) ?_
  intro v127 h127 Q127
  obtain ⟨ev127, e127⟩ := Q127
  replace e127 := e127.symm
  subst e127
  replace ev127 : v127 = some (.int (0 : Int32)) := ev127
  subst ev127
  refine g_virtual C S0.1 w_48 w_49 (fun hZ => nf_sel hw w_51 hZ) w_51 w_50 (by decide) [(.int (0 : Int32)), (.int (0 : Int32))] (ct_of hEL hw w_52 w_8 (rm_s20_0_0 l Z a0 hw hEL s t _  zc fm h0 n0 S0  Szc hzc Sfm hfm)) all0 (by decide) 0 (by decide) rfl pd__II_Ljava_lang_String_ rfl [] rfl (Nat.le_of_eq rfl) d_jdk_42_method_91_code_6 (by decide) (by decide) ?_
  intro v128 h128 Q128
  obtain ⟨a128, t128, kb128, rfl, KC128, S128⟩ := Q128
  refine g_areturn C hEL (t := (.object "java/lang/String")) rfl rfl rfl d_jdk_42_method_91_code_9 (by decide) (by decide) ?_
  have K129 : Keep h0 h128 [] := (Keep.refl h0 []).trans KC128 all0
  exact ⟨a128, _, _, rfl, K129, S128⟩
theorem d_prog_2_method_7_code_0 : decode prog_2_method_7_code 0 = .ok (.iconst 0, 1) := by decide +kernel
theorem d_prog_2_method_7_code_1 : decode prog_2_method_7_code 1 = .ok (.istore_n 1, 1) := by decide +kernel
theorem d_prog_2_method_7_code_2 : decode prog_2_method_7_code 2 = .ok (.iload_n 1, 1) := by decide +kernel
theorem d_prog_2_method_7_code_3 : decode prog_2_method_7_code 3 = .ok (.aload_n 0, 1) := by decide +kernel
theorem d_prog_2_method_7_code_4 : decode prog_2_method_7_code 4 = .ok (.invokevirtual 13, 3) := by decide +kernel
theorem d_prog_2_method_7_code_7 : decode prog_2_method_7_code 7 = .ok (.if_icmp .ge 19, 3) := by decide +kernel
theorem d_prog_2_method_7_code_26 : decode prog_2_method_7_code 26 = .ok (.aload_n 0, 1) := by decide +kernel
theorem d_prog_2_method_7_code_27 : decode prog_2_method_7_code 27 = .ok (.iload_n 1, 1) := by decide +kernel
theorem d_prog_2_method_7_code_28 : decode prog_2_method_7_code 28 = .ok (.invokevirtual 110, 3) := by decide +kernel
theorem d_prog_2_method_7_code_31 : decode prog_2_method_7_code 31 = .ok (.areturn, 1) := by decide +kernel
theorem pn_com_example_tributary_tributary_Decimals : plainName "com/example/tributary/tributary/Decimals" = true := by first | (simp [plainName, overriddenIn]; done) | decide +kernel
theorem pd__I_Ljava_lang_String_ : parseMethodDescriptor "(I)Ljava/lang/String;" = some ⟨[.int], some (.object "java/lang/String")⟩ := by decide +kernel
set_option maxRecDepth 65536 in
set_option maxHeartbeats 40000000 in
theorem rm_strip0 (l : Launch) (Z : State) (a0 : Array Value) (hw : ∀ d ∈ tables_1, d.before a0 Z = true) (hEL : EW Z a0 consts_1) {ws : List Jvm.Cond} (s t : Addr) (kb : ClassId)  (zc : Int32) (fm : Value) (h0 : Heap) (n0 : Nat) (S0 : Str Z h0 s t kb []) (Szc : Sta Z h0 "java/lang/String" "COMPACT_STRINGS" "Z" (.int zc)) (hzc : ¬ (zc = (0 : Int32))) (Sfm : Sta Z h0 "jdk/internal/util/Preconditions" "SIOOBE_FORMATTER" "Ljava/util/function/BiFunction;" fm) (hfm : fm.isRef = true) :
    Met l Z consts_1 (⟨"com/example/tributary/tributary/Decimals", "stripLeadingZeros", "(Ljava/lang/String;)Ljava/lang/String;"⟩ : MethodName) prog_2_method_7_code 2 (some (.object "java/lang/String")) ws ({ frames := 6, cells := 2, slots := 16, locals := 110 } : Room) [] #[(.ref s)] h0 n0 (nq (fun v h => ∃ a t' k', v = some (.ref a) ∧ Keep h0 h [] ∧ Str Z h a t' k' (dz []))) := by
  refine met_of (plainFor_of_name pn_com_example_tributary_tributary_Decimals) hw #[.val (.ref s), .unset] (fun m => by first | rfl | (simp [entryFrame, mkF, argsToLocals, Value.category]; done)) ?_
  intro p e sT m below meth c C0
  have C : Cx Z a0 tables_1 p sT m meth c "com/example/tributary/tributary/Decimals" "stripLeadingZeros" prog_2_method_7_code 2 (some (.object "java/lang/String")) n0 := C0
  refine g_iconst C 0 d_prog_2_method_7_code_0 rfl ?_
  refine g_istoreN C #[.val (.ref s), .val (.int (0 : Int32))] d_prog_2_method_7_code_1 rfl ?_
  refine g_iloadN C d_prog_2_method_7_code_2 rfl ?_
  refine g_aloadN C d_prog_2_method_7_code_3 rfl rfl ?_
  refine g_virtual C S0.1 w_31 w_32 (fun hZ => nf_sel hw w_34 hZ) w_34 w_33 (by decide) [] (ct_len hEL hw S0 Szc hzc) all0 (by decide) 1 (by decide) rfl pd___I rfl [(.int (0 : Int32))] rfl (Nat.le_of_eq rfl) d_prog_2_method_7_code_4 (by decide) (by decide) ?_
  intro v130 h130 Q130
  obtain ⟨ev130, e130⟩ := Q130
  replace e130 := e130.symm
  subst e130
  replace ev130 : v130 = some (.int (0 : Int32)) := ev130
  subst ev130
  refine g_icmp_t C 26 d_prog_2_method_7_code_7 (XT.ii_ge_t (by decide)) (by decide) (by decide) ?_
  refine g_aloadN C d_prog_2_method_7_code_26 rfl rfl ?_
  refine g_iloadN C d_prog_2_method_7_code_27 rfl ?_
  refine g_virtual C S0.1 w_42 w_43 (fun hZ => nf_sel hw w_45 hZ) w_45 w_44 (by decide) [(.int (0 : Int32))] (ct_of hEL hw w_46 w_8 (rm_s10_0_0 l Z a0 hw hEL s t _  zc fm h0 n0 S0  Szc hzc Sfm hfm)) all0 (by decide) 0 (by decide) rfl pd__I_Ljava_lang_String_ rfl [] rfl (Nat.le_of_eq rfl) d_prog_2_method_7_code_28 (by decide) (by decide) ?_
  intro v131 h131 Q131
  obtain ⟨a131, t131, kb131, rfl, KC131, S131⟩ := Q131
  refine g_areturn C hEL (t := (.object "java/lang/String")) rfl rfl rfl d_prog_2_method_7_code_31 (by decide) (by decide) ?_
  have K132 : Keep h0 h131 [] := (Keep.refl h0 []).trans KC131 all0
  exact ⟨a131, t131, kb131, rfl, K132, by simpa [dz] using S131⟩
set_option maxRecDepth 65536 in
set_option maxHeartbeats 40000000 in
theorem rm_s21_0_1 (l : Launch) (Z : State) (a0 : Array Value) (hw : ∀ d ∈ tables_1, d.before a0 Z = true) (hEL : EW Z a0 consts_1) {ws : List Jvm.Cond} (s t : Addr) (kb : ClassId) (c0 : Int32) (zc : Int32) (fm : Value) (h0 : Heap) (n0 : Nat) (S0 : Str Z h0 s t kb [c0]) (h_c0 : Ch8 c0) (Szc : Sta Z h0 "java/lang/String" "COMPACT_STRINGS" "Z" (.int zc)) (hzc : ¬ (zc = (0 : Int32))) (Sfm : Sta Z h0 "jdk/internal/util/Preconditions" "SIOOBE_FORMATTER" "Ljava/util/function/BiFunction;" fm) (hfm : fm.isRef = true) :
    Met l Z consts_1 (⟨"java/lang/String", "substring", "(II)Ljava/lang/String;"⟩ : MethodName) jdk_42_method_92_code 5 (some (.object "java/lang/String")) ws ({ frames := 4, cells := 2, slots := 16, locals := 72 } : Room) [] #[(.ref s), (.int (0 : Int32)), (.int (1 : Int32))] h0 n0 (nq (fun v h => ∃ a t' k', v = some (.ref a) ∧ Keep h0 h [] ∧ Str Z h a t' k' [c0])) := by
  refine met_of (plainFor_of_name pn_java_lang_String) hw #[.val (.ref s), .val (.int (0 : Int32)), .val (.int (1 : Int32)), .unset, .unset] (fun m => by first | rfl | (simp [entryFrame, mkF, argsToLocals, Value.category]; done)) ?_
  intro p e sT m below meth c C0
  have C : Cx Z a0 tables_1 p sT m meth c "java/lang/String" "substring" jdk_42_method_92_code 5 (some (.object "java/lang/String")) n0 := C0
  refine g_aloadN C d_jdk_42_method_92_code_0 rfl rfl ?_
  refine g_virtual C S0.1 w_47 w_32 (fun hZ => nf_sel hw w_34 hZ) w_34 w_33 (by decide) [] (ct_len hEL hw S0 Szc hzc) all0 (by decide) 0 (by decide) rfl pd___I rfl [] rfl (Nat.le_of_eq rfl) d_jdk_42_method_92_code_1 (by decide) (by decide) ?_
  intro v133 h133 Q133
  obtain ⟨ev133, e133⟩ := Q133
  replace e133 := e133.symm
  subst e133
  replace ev133 : v133 = some (.int (1 : Int32)) := ev133
  subst ev133
  refine g_istoreN C #[.val (.ref s), .val (.int (0 : Int32)), .val (.int (1 : Int32)), .val (.int (1 : Int32)), .unset] d_jdk_42_method_92_code_4 rfl ?_
  refine g_iloadN C d_jdk_42_method_92_code_5 rfl ?_
  refine g_iloadN C d_jdk_42_method_92_code_6 rfl ?_
  refine g_iloadN C d_jdk_42_method_92_code_7 rfl ?_
  refine g_static C w_53 w_54 w_8 w_55 (by decide) [(.int (0 : Int32)), (.int (1 : Int32)), (.int (1 : Int32))] (ct_of hEL hw w_55 w_8 (rm_cbbe l Z a0 hw hEL (0 : Int32) (1 : Int32) (1 : Int32) fm h0 n0 (by decide) (by decide) (by decide) Sfm hfm)) all0 (by decide) 0 (by decide) rfl pd__III_V rfl [] rfl (Nat.le_of_eq rfl) d_jdk_42_method_92_code_8 (by decide) (by decide) ?_
  intro v134 h134 Q134
  obtain ⟨rfl, e134⟩ := Q134
  replace e134 := e134.symm
  subst e134
  refine g_iloadN C d_jdk_42_method_92_code_11 rfl ?_
  refine g_if_f C d_jdk_42_method_92_code_12 (XT.i0_ne_f (by decide)) ?_
  refine g_iloadN C d_jdk_42_method_92_code_15 rfl ?_
  refine g_iloadN C d_jdk_42_method_92_code_16 rfl ?_
  refine g_icmp_f C d_jdk_42_method_92_code_17 (XT.ii_ne_f (by decide)) ?_
  refine g_aloadN C d_jdk_42_method_92_code_20 rfl rfl ?_
  refine g_areturn C hEL (t := (.object "java/lang/String")) rfl rfl rfl d_jdk_42_method_92_code_21 (by decide) (by decide) ?_
  exact ⟨s, _, _, rfl, (Keep.refl h0 []), S0⟩
set_option maxRecDepth 65536 in
set_option maxHeartbeats 40000000 in
theorem rm_s11_0_1 (l : Launch) (Z : State) (a0 : Array Value) (hw : ∀ d ∈ tables_1, d.before a0 Z = true) (hEL : EW Z a0 consts_1) {ws : List Jvm.Cond} (s t : Addr) (kb : ClassId) (c0 : Int32) (zc : Int32) (fm : Value) (h0 : Heap) (n0 : Nat) (S0 : Str Z h0 s t kb [c0]) (h_c0 : Ch8 c0) (Szc : Sta Z h0 "java/lang/String" "COMPACT_STRINGS" "Z" (.int zc)) (hzc : ¬ (zc = (0 : Int32))) (Sfm : Sta Z h0 "jdk/internal/util/Preconditions" "SIOOBE_FORMATTER" "Ljava/util/function/BiFunction;" fm) (hfm : fm.isRef = true) :
    Met l Z consts_1 (⟨"java/lang/String", "substring", "(I)Ljava/lang/String;"⟩ : MethodName) jdk_42_method_91_code 2 (some (.object "java/lang/String")) ws ({ frames := 5, cells := 2, slots := 16, locals := 90 } : Room) [] #[(.ref s), (.int (0 : Int32))] h0 n0 (nq (fun v h => ∃ a t' k', v = some (.ref a) ∧ Keep h0 h [] ∧ Str Z h a t' k' [c0])) := by
  refine met_of (plainFor_of_name pn_java_lang_String) hw #[.val (.ref s), .val (.int (0 : Int32))] (fun m => by first | rfl | (simp [entryFrame, mkF, argsToLocals, Value.category]; done)) ?_
  intro p e sT m below meth c C0
  have C : Cx Z a0 tables_1 p sT m meth c "java/lang/String" "substring" jdk_42_method_91_code 2 (some (.object "java/lang/String")) n0 := C0
  refine g_aloadN C d_jdk_42_method_91_code_0 rfl rfl ?_
  refine g_iloadN C d_jdk_42_method_91_code_1 rfl ?_
  refine g_aloadN C d_jdk_42_method_91_code_2 rfl rfl ?_
  refine g_virtual C S0.1 w_47 w_32 (fun hZ => nf_sel hw w_34 hZ) w_34 w_33 (by decide) [] (ct_len hEL hw S0 Szc hzc) all0 (by decide) 2 (by decide) rfl pd___I rfl [(.int (0 : Int32)), (.ref s)] rfl (Nat.le_of_eq rfl) d_jdk_42_method_91_code_3 (by decide) (by decide) ?_
  intro v135 h135 Q135
  obtain ⟨ev135, e135⟩ := Q135
  replace e135 := e135.symm
  subst e135
  replace ev135 : v135 = some (.int (1 : Int32)) := ev135
  subst ev135
  refine g_virtual C S0.1 w_48 w_49 (fun hZ => nf_sel hw w_51 hZ) w_51 w_50 (by decide) [(.int (0 : Int32)), (.int (1 : Int32))] (ct_of hEL hw w_52 w_8 (rm_s21_0_1 l Z a0 hw hEL s t _ c0 zc fm h0 n0 S0 h_c0 Szc hzc Sfm hfm)) all0 (by decide) 0 (by decide) rfl pd__II_Ljava_lang_String_ rfl [] rfl (Nat.le_of_eq rfl) d_jdk_42_method_91_code_6 (by decide) (by decide) ?_
  intro v136 h136 Q136
  obtain ⟨a136, t136, kb136, rfl, KC136, S136⟩ := Q136
  refine g_areturn C hEL (t := (.object "java/lang/String")) rfl rfl rfl d_jdk_42_method_91_code_9 (by decide) (by decide) ?_
  have K137 : Keep h0 h136 [] := (Keep.refl h0 []).trans KC136 all0
  exact ⟨a136, _, _, rfl, K137, S136⟩
theorem d_jdk_43_method_47_code_0 : decode jdk_43_method_47_code 0 = .ok (.iload_n 2, 1) := by decide +kernel
theorem d_jdk_43_method_47_code_1 : decode jdk_43_method_47_code 1 = .ok (.ifCond .ne 6, 3) := by decide +kernel
theorem d_jdk_43_method_47_code_4 : decode jdk_43_method_47_code 4 = .ok (.ldc 151, 2) := by decide +kernel
theorem d_jdk_43_method_47_code_6 : decode jdk_43_method_47_code 6 = .ok (.areturn, 1) := by decide +kernel
theorem pn_java_lang_StringLatin1 : plainName "java/lang/StringLatin1" = true := by first | (simp [plainName, overriddenIn]; done) | decide +kernel
set_option maxRecDepth 65536 in
set_option maxHeartbeats 40000000 in
theorem rm_ns1_1_1 (l : Launch) (Z : State) (a0 : Array Value) (hw : ∀ d ∈ tables_1, d.before a0 Z = true) (hEL : EW Z a0 consts_1) {ws : List Jvm.Cond} (t : Addr) (kb : ClassId) (c0 : Int32) (h0 : Heap) (n0 : Nat) (Vt : Arv Z h0 t kb .byte (1 : Int32) [(.int (c0.toInt8.toInt32))] (.int (0 : Int32))) (h_c0 : Ch8 c0) :
    Met l Z consts_1 (⟨"java/lang/StringLatin1", "newString", "([BII)Ljava/lang/String;"⟩ : MethodName) jdk_43_method_47_code 3 (some (.object "java/lang/String")) ws ({ frames := 3, cells := 2, slots := 16, locals := 56 } : Room) [] #[(.ref t), (.int (1 : Int32)), (.int (0 : Int32))] h0 n0 (nq (fun v h => ∃ a t' k', v = some (.ref a) ∧ Keep h0 h [] ∧ Str Z h a t' k' [])) := by
  refine met_of (plainFor_of_name pn_java_lang_StringLatin1) hw #[.val (.ref t), .val (.int (1 : Int32)), .val (.int (0 : Int32))] (fun m => by first | rfl | (simp [entryFrame, mkF, argsToLocals, Value.category]; done)) ?_
  intro p e s m below meth c C0
  have C : Cx Z a0 tables_1 p s m meth c "java/lang/StringLatin1" "newString" jdk_43_method_47_code 3 (some (.object "java/lang/String")) n0 := C0
  refine g_iloadN C d_jdk_43_method_47_code_0 rfl ?_
  refine g_if_f C d_jdk_43_method_47_code_1 (XT.i0_ne_f (by decide)) ?_
  refine g_ldcS C hEL w_99 own_sA (List.mem_of_getElem? (i := 1) rfl) [] ⟨by decide +kernel, by decide +kernel⟩ (by decide) (by decide) d_jdk_43_method_47_code_4 0 (by decide +kernel) (by decide) (by decide) (by decide) ?_
  intro a138 t138 kb138 h138 E138 S138 X138
  refine g_areturn C hEL (t := (.object "java/lang/String")) rfl rfl rfl d_jdk_43_method_47_code_6 (by decide) (by decide) ?_
  have K139 : Keep h0 h138 [] := (Keep.refl h0 []).ext E138
  exact ⟨a138, _, _, rfl, K139, S138⟩
theorem d_jdk_42_method_92_code_22 : decode jdk_42_method_92_code 22 = .ok (.iload_n 2, 1) := by decide +kernel
theorem d_jdk_42_method_92_code_23 : decode jdk_42_method_92_code 23 = .ok (.iload_n 1, 1) := by decide +kernel
theorem d_jdk_42_method_92_code_24 : decode jdk_42_method_92_code 24 = .ok (.isub, 1) := by decide +kernel
theorem d_jdk_42_method_92_code_25 : decode jdk_42_method_92_code 25 = .ok (.istore 4, 2) := by decide +kernel
theorem d_jdk_42_method_92_code_27 : decode jdk_42_method_92_code 27 = .ok (.aload_n 0, 1) := by decide +kernel
theorem d_jdk_42_method_92_code_28 : decode jdk_42_method_92_code 28 = .ok (.invokevirtual 492, 3) := by decide +kernel
theorem d_jdk_42_method_92_code_31 : decode jdk_42_method_92_code 31 = .ok (.ifCond .eq 16, 3) := by decide +kernel
theorem d_jdk_42_method_92_code_34 : decode jdk_42_method_92_code 34 = .ok (.aload_n 0, 1) := by decide +kernel
theorem d_jdk_42_method_92_code_35 : decode jdk_42_method_92_code 35 = .ok (.getfield 9, 3) := by decide +kernel
theorem d_jdk_42_method_92_code_38 : decode jdk_42_method_92_code 38 = .ok (.iload_n 1, 1) := by decide +kernel
theorem d_jdk_42_method_92_code_39 : decode jdk_42_method_92_code 39 = .ok (.iload 4, 2) := by decide +kernel
theorem d_jdk_42_method_92_code_41 : decode jdk_42_method_92_code 41 = .ok (.invokestatic 685, 3) := by decide +kernel
theorem d_jdk_42_method_92_code_44 : decode jdk_42_method_92_code 44 = .ok (.goto 13, 3) := by decide +kernel
theorem d_jdk_42_method_92_code_57 : decode jdk_42_method_92_code 57 = .ok (.areturn, 1) := by decide +kernel
theorem pd___Z : parseMethodDescriptor "()Z" = some ⟨[], some .boolean⟩ := by decide +kernel
theorem pd___BII_Ljava_lang_String_ : parseMethodDescriptor "([BII)Ljava/lang/String;" = some ⟨[(.array .byte), .int, .int], some (.object "java/lang/String")⟩ := by decide +kernel
set_option maxRecDepth 65536 in
set_option maxHeartbeats 40000000 in
theorem rm_s21_1_1 (l : Launch) (Z : State) (a0 : Array Value) (hw : ∀ d ∈ tables_1, d.before a0 Z = true) (hEL : EW Z a0 consts_1) {ws : List Jvm.Cond} (s t : Addr) (kb : ClassId) (c0 : Int32) (zc : Int32) (fm : Value) (h0 : Heap) (n0 : Nat) (S0 : Str Z h0 s t kb [c0]) (h_c0 : Ch8 c0) (Szc : Sta Z h0 "java/lang/String" "COMPACT_STRINGS" "Z" (.int zc)) (hzc : ¬ (zc = (0 : Int32))) (Sfm : Sta Z h0 "jdk/internal/util/Preconditions" "SIOOBE_FORMATTER" "Ljava/util/function/BiFunction;" fm) (hfm : fm.isRef = true) :
    Met l Z consts_1 (⟨"java/lang/String", "substring", "(II)Ljava/lang/String;"⟩ : MethodName) jdk_42_method_92_code 5 (some (.object "java/lang/String")) ws ({ frames := 4, cells := 2, slots := 16, locals := 72 } : Room) [] #[(.ref s), (.int (1 : Int32)), (.int (1 : Int32))] h0 n0 (nq (fun v h => ∃ a t' k', v = some (.ref a) ∧ Keep h0 h [] ∧ Str Z h a t' k' [])) := by
  refine met_of (plainFor_of_name pn_java_lang_String) hw #[.val (.ref s), .val (.int (1 : Int32)), .val (.int (1 : Int32)), .unset, .unset] (fun m => by first | rfl | (simp [entryFrame, mkF, argsToLocals, Value.category]; done)) ?_
  intro p e sT m below meth c C0
  have C : Cx Z a0 tables_1 p sT m meth c "java/lang/String" "substring" jdk_42_method_92_code 5 (some (.object "java/lang/String")) n0 := C0
  refine g_aloadN C d_jdk_42_method_92_code_0 rfl rfl ?_
  refine g_virtual C S0.1 w_47 w_32 (fun hZ => nf_sel hw w_34 hZ) w_34 w_33 (by decide) [] (ct_len hEL hw S0 Szc hzc) all0 (by decide) 0 (by decide) rfl pd___I rfl [] rfl (Nat.le_of_eq rfl) d_jdk_42_method_92_code_1 (by decide) (by decide) ?_
  intro v140 h140 Q140
  obtain ⟨ev140, e140⟩ := Q140
  replace e140 := e140.symm
  subst e140
  replace ev140 : v140 = some (.int (1 : Int32)) := ev140
  subst ev140
  refine g_istoreN C #[.val (.ref s), .val (.int (1 : Int32)), .val (.int (1 : Int32)), .val (.int (1 : Int32)), .unset] d_jdk_42_method_92_code_4 rfl ?_
  refine g_iloadN C d_jdk_42_method_92_code_5 rfl ?_
  refine g_iloadN C d_jdk_42_method_92_code_6 rfl ?_
  refine g_iloadN C d_jdk_42_method_92_code_7 rfl ?_
  refine g_static C w_53 w_54 w_8 w_55 (by decide) [(.int (1 : Int32)), (.int (1 : Int32)), (.int (1 : Int32))] (ct_of hEL hw w_55 w_8 (rm_cbbe l Z a0 hw hEL (1 : Int32) (1 : Int32) (1 : Int32) fm h0 n0 (by decide) (by decide) (by decide) Sfm hfm)) all0 (by decide) 0 (by decide) rfl pd__III_V rfl [] rfl (Nat.le_of_eq rfl) d_jdk_42_method_92_code_8 (by decide) (by decide) ?_
  intro v141 h141 Q141
  obtain ⟨rfl, e141⟩ := Q141
  replace e141 := e141.symm
  subst e141
  refine g_iloadN C d_jdk_42_method_92_code_11 rfl ?_
  refine g_if_t C 22 d_jdk_42_method_92_code_12 (XT.i0_ne_t (by decide)) (by decide) (by decide) ?_
  refine g_iloadN C d_jdk_42_method_92_code_22 rfl ?_
  refine g_iloadN C d_jdk_42_method_92_code_23 rfl ?_
  refine g_isub C d_jdk_42_method_92_code_24 ?_
  rw [show ((1 : Int32) - (1 : Int32)) = (0 : Int32) from by decide]
  refine g_istore C #[.val (.ref s), .val (.int (1 : Int32)), .val (.int (1 : Int32)), .val (.int (1 : Int32)), .val (.int (0 : Int32))] d_jdk_42_method_92_code_25 rfl ?_
  refine g_aloadN C d_jdk_42_method_92_code_27 rfl rfl ?_
  refine g_virtual C S0.1 w_80 w_81 (fun hZ => nf_sel hw w_83 hZ) w_83 w_82 (by decide) [] (ct_of hEL hw w_84 w_8 (rm_lat l Z a0 hw hEL s zc h0 n0 S0.2.1 Szc hzc)) all0 (by decide) 0 (by decide) rfl pd___Z rfl [] rfl (Nat.le_of_eq rfl) d_jdk_42_method_92_code_28 (by decide) (by decide) ?_
  intro v142 h142 Q142
  obtain ⟨rfl, e142⟩ := Q142
  replace e142 := e142.symm
  subst e142
  refine g_if_f C d_jdk_42_method_92_code_31 (XT.i0_eq_f (by decide)) ?_
  refine g_aloadN C d_jdk_42_method_92_code_34 rfl rfl ?_
  refine g_getfield C w_25 Via.refl S0.2.2.1 d_jdk_42_method_92_code_35 ?_
  refine g_iloadN C d_jdk_42_method_92_code_38 rfl ?_
  refine g_iload C d_jdk_42_method_92_code_39 rfl ?_
  refine g_static C w_96 w_97 w_87 w_98 (by decide) [(.ref t), (.int (1 : Int32)), (.int (0 : Int32))] (ct_of hEL hw w_98 w_87 (rm_ns1_1_1 l Z a0 hw hEL t _ c0 h0 n0 S0.2.2.2.1 h_c0)) all0 (by decide) 0 (by decide) rfl pd___BII_Ljava_lang_String_ rfl [] rfl (Nat.le_of_eq rfl) d_jdk_42_method_92_code_41 (by decide) (by decide) ?_
  intro v143 h143 Q143
  obtain ⟨a143, t143, kb143, rfl, KC143, S143⟩ := Q143
  refine g_goto C 57 d_jdk_42_method_92_code_44 (by decide) (by decide) ?_
  refine g_areturn C hEL (t := (.object "java/lang/String")) rfl rfl rfl d_jdk_42_method_92_code_57 (by decide) (by decide) ?_
  have K144 : Keep h0 h143 [] := (Keep.refl h0 []).trans KC143 all0
  exact ⟨a143, _, _, rfl, K144, S143⟩
set_option maxRecDepth 65536 in
set_option maxHeartbeats 40000000 in
theorem rm_s11_1_1 (l : Launch) (Z : State) (a0 : Array Value) (hw : ∀ d ∈ tables_1, d.before a0 Z = true) (hEL : EW Z a0 consts_1) {ws : List Jvm.Cond} (s t : Addr) (kb : ClassId) (c0 : Int32) (zc : Int32) (fm : Value) (h0 : Heap) (n0 : Nat) (S0 : Str Z h0 s t kb [c0]) (h_c0 : Ch8 c0) (Szc : Sta Z h0 "java/lang/String" "COMPACT_STRINGS" "Z" (.int zc)) (hzc : ¬ (zc = (0 : Int32))) (Sfm : Sta Z h0 "jdk/internal/util/Preconditions" "SIOOBE_FORMATTER" "Ljava/util/function/BiFunction;" fm) (hfm : fm.isRef = true) :
    Met l Z consts_1 (⟨"java/lang/String", "substring", "(I)Ljava/lang/String;"⟩ : MethodName) jdk_42_method_91_code 2 (some (.object "java/lang/String")) ws ({ frames := 5, cells := 2, slots := 16, locals := 90 } : Room) [] #[(.ref s), (.int (1 : Int32))] h0 n0 (nq (fun v h => ∃ a t' k', v = some (.ref a) ∧ Keep h0 h [] ∧ Str Z h a t' k' [])) := by
  refine met_of (plainFor_of_name pn_java_lang_String) hw #[.val (.ref s), .val (.int (1 : Int32))] (fun m => by first | rfl | (simp [entryFrame, mkF, argsToLocals, Value.category]; done)) ?_
  intro p e sT m below meth c C0
  have C : Cx Z a0 tables_1 p sT m meth c "java/lang/String" "substring" jdk_42_method_91_code 2 (some (.object "java/lang/String")) n0 := C0
  refine g_aloadN C d_jdk_42_method_91_code_0 rfl rfl ?_
  refine g_iloadN C d_jdk_42_method_91_code_1 rfl ?_
  refine g_aloadN C d_jdk_42_method_91_code_2 rfl rfl ?_
  refine g_virtual C S0.1 w_47 w_32 (fun hZ => nf_sel hw w_34 hZ) w_34 w_33 (by decide) [] (ct_len hEL hw S0 Szc hzc) all0 (by decide) 2 (by decide) rfl pd___I rfl [(.int (1 : Int32)), (.ref s)] rfl (Nat.le_of_eq rfl) d_jdk_42_method_91_code_3 (by decide) (by decide) ?_
  intro v145 h145 Q145
  obtain ⟨ev145, e145⟩ := Q145
  replace e145 := e145.symm
  subst e145
  replace ev145 : v145 = some (.int (1 : Int32)) := ev145
  subst ev145
  refine g_virtual C S0.1 w_48 w_49 (fun hZ => nf_sel hw w_51 hZ) w_51 w_50 (by decide) [(.int (1 : Int32)), (.int (1 : Int32))] (ct_of hEL hw w_52 w_8 (rm_s21_1_1 l Z a0 hw hEL s t _ c0 zc fm h0 n0 S0 h_c0 Szc hzc Sfm hfm)) all0 (by decide) 0 (by decide) rfl pd__II_Ljava_lang_String_ rfl [] rfl (Nat.le_of_eq rfl) d_jdk_42_method_91_code_6 (by decide) (by decide) ?_
  intro v146 h146 Q146
  obtain ⟨a146, t146, kb146, rfl, KC146, S146⟩ := Q146
  refine g_areturn C hEL (t := (.object "java/lang/String")) rfl rfl rfl d_jdk_42_method_91_code_9 (by decide) (by decide) ?_
  have K147 : Keep h0 h146 [] := (Keep.refl h0 []).trans KC146 all0
  exact ⟨a146, _, _, rfl, K147, S146⟩
theorem d_prog_2_method_7_code_10 : decode prog_2_method_7_code 10 = .ok (.aload_n 0, 1) := by decide +kernel
theorem d_prog_2_method_7_code_11 : decode prog_2_method_7_code 11 = .ok (.iload_n 1, 1) := by decide +kernel
theorem d_prog_2_method_7_code_12 : decode prog_2_method_7_code 12 = .ok (.invokevirtual 46, 3) := by decide +kernel
theorem d_prog_2_method_7_code_15 : decode prog_2_method_7_code 15 = .ok (.bipush 48, 2) := by decide +kernel
theorem d_prog_2_method_7_code_17 : decode prog_2_method_7_code 17 = .ok (.if_icmp .ne 9, 3) := by decide +kernel
theorem d_prog_2_method_7_code_20 : decode prog_2_method_7_code 20 = .ok (.iinc 1 1, 3) := by decide +kernel
theorem d_prog_2_method_7_code_23 : decode prog_2_method_7_code 23 = .ok (.goto (-21), 3) := by decide +kernel
set_option maxRecDepth 65536 in
set_option maxHeartbeats 40000000 in
theorem rm_strip1 (l : Launch) (Z : State) (a0 : Array Value) (hw : ∀ d ∈ tables_1, d.before a0 Z = true) (hEL : EW Z a0 consts_1) {ws : List Jvm.Cond} (s t : Addr) (kb : ClassId) (c0 : Int32) (zc : Int32) (fm : Value) (h0 : Heap) (n0 : Nat) (S0 : Str Z h0 s t kb [c0]) (h_c0 : Ch8 c0) (Szc : Sta Z h0 "java/lang/String" "COMPACT_STRINGS" "Z" (.int zc)) (hzc : ¬ (zc = (0 : Int32))) (Sfm : Sta Z h0 "jdk/internal/util/Preconditions" "SIOOBE_FORMATTER" "Ljava/util/function/BiFunction;" fm) (hfm : fm.isRef = true) :
    Met l Z consts_1 (⟨"com/example/tributary/tributary/Decimals", "stripLeadingZeros", "(Ljava/lang/String;)Ljava/lang/String;"⟩ : MethodName) prog_2_method_7_code 2 (some (.object "java/lang/String")) ws ({ frames := 6, cells := 2, slots := 16, locals := 110 } : Room) [] #[(.ref s)] h0 n0 (nq (fun v h => ∃ a t' k', v = some (.ref a) ∧ Keep h0 h [] ∧ Str Z h a t' k' (dz [c0]))) := by
  refine met_of (plainFor_of_name pn_com_example_tributary_tributary_Decimals) hw #[.val (.ref s), .unset] (fun m => by first | rfl | (simp [entryFrame, mkF, argsToLocals, Value.category]; done)) ?_
  intro p e sT m below meth c C0
  have C : Cx Z a0 tables_1 p sT m meth c "com/example/tributary/tributary/Decimals" "stripLeadingZeros" prog_2_method_7_code 2 (some (.object "java/lang/String")) n0 := C0
  refine g_iconst C 0 d_prog_2_method_7_code_0 rfl ?_
  refine g_istoreN C #[.val (.ref s), .val (.int (0 : Int32))] d_prog_2_method_7_code_1 rfl ?_
  refine g_iloadN C d_prog_2_method_7_code_2 rfl ?_
  refine g_aloadN C d_prog_2_method_7_code_3 rfl rfl ?_
  refine g_virtual C S0.1 w_31 w_32 (fun hZ => nf_sel hw w_34 hZ) w_34 w_33 (by decide) [] (ct_len hEL hw S0 Szc hzc) all0 (by decide) 1 (by decide) rfl pd___I rfl [(.int (0 : Int32))] rfl (Nat.le_of_eq rfl) d_prog_2_method_7_code_4 (by decide) (by decide) ?_
  intro v148 h148 Q148
  obtain ⟨ev148, e148⟩ := Q148
  replace e148 := e148.symm
  subst e148
  replace ev148 : v148 = some (.int (1 : Int32)) := ev148
  subst ev148
  refine g_icmp_f C d_prog_2_method_7_code_7 (XT.ii_ge_f (by decide)) ?_
  refine g_aloadN C d_prog_2_method_7_code_10 rfl rfl ?_
  refine g_iloadN C d_prog_2_method_7_code_11 rfl ?_
  refine g_virtual C S0.1 w_75 w_76 (fun hZ => nf_sel hw w_78 hZ) w_78 w_77 (by decide) [(.int (0 : Int32))] (ct_ch hEL hw S0 Szc hzc Sfm hfm 0 (Nat.le_of_ble_eq_true rfl) (0 : Int32) rfl) all0 (by decide) 0 (by decide) rfl pd__I_C rfl [] rfl (Nat.le_of_eq rfl) d_prog_2_method_7_code_12 (by decide) (by decide) ?_
  intro v149 h149 Q149
  obtain ⟨ev149, e149⟩ := Q149
  replace e149 := e149.symm
  subst e149
  replace ev149 : v149 = some (.int c0) := ev149
  subst ev149
  refine g_bipush C 48 d_prog_2_method_7_code_15 rfl ?_
  by_cases hc150 : c0 = (48 : Int32)
  · refine g_icmp_f C d_prog_2_method_7_code_17 (XT.ii_ne_f hc150) ?_
    refine g_iinc C 1 #[.val (.ref s), .val (.int ((0 : Int32) + (1 : Int32)))] d_prog_2_method_7_code_20 rfl rfl rfl ?_
    rw [show ((0 : Int32) + (1 : Int32)) = (1 : Int32) from by decide]
    refine g_goto C 2 d_prog_2_method_7_code_23 (by decide) (by decide) ?_
    refine g_iloadN C d_prog_2_method_7_code_2 rfl ?_
    refine g_aloadN C d_prog_2_method_7_code_3 rfl rfl ?_
    refine g_virtual C S0.1 w_31 w_32 (fun hZ => nf_sel hw w_34 hZ) w_34 w_33 (by decide) [] (ct_len hEL hw S0 Szc hzc) all0 (by decide) 1 (by decide) rfl pd___I rfl [(.int (1 : Int32))] rfl (Nat.le_of_eq rfl) d_prog_2_method_7_code_4 (by decide) (by decide) ?_
    intro v151 h151 Q151
    obtain ⟨ev151, e151⟩ := Q151
    replace e151 := e151.symm
    subst e151
    replace ev151 : v151 = some (.int (1 : Int32)) := ev151
    subst ev151
    refine g_icmp_t C 26 d_prog_2_method_7_code_7 (XT.ii_ge_t (by decide)) (by decide) (by decide) ?_
    refine g_aloadN C d_prog_2_method_7_code_26 rfl rfl ?_
    refine g_iloadN C d_prog_2_method_7_code_27 rfl ?_
    refine g_virtual C S0.1 w_42 w_43 (fun hZ => nf_sel hw w_45 hZ) w_45 w_44 (by decide) [(.int (1 : Int32))] (ct_of hEL hw w_46 w_8 (rm_s11_1_1 l Z a0 hw hEL s t _ c0 zc fm h0 n0 S0 h_c0 Szc hzc Sfm hfm)) all0 (by decide) 0 (by decide) rfl pd__I_Ljava_lang_String_ rfl [] rfl (Nat.le_of_eq rfl) d_prog_2_method_7_code_28 (by decide) (by decide) ?_
    intro v152 h152 Q152
    obtain ⟨a152, t152, kb152, rfl, KC152, S152⟩ := Q152
    refine g_areturn C hEL (t := (.object "java/lang/String")) rfl rfl rfl d_prog_2_method_7_code_31 (by decide) (by decide) ?_
    have K153 : Keep h0 h152 [] := (Keep.refl h0 []).trans KC152 all0
    exact ⟨a152, t152, kb152, rfl, K153, by simpa [dz, hc150] using S152⟩
  · refine g_icmp_t C 26 d_prog_2_method_7_code_17 (XT.ii_ne_t hc150) (by decide) (by decide) ?_
    refine g_aloadN C d_prog_2_method_7_code_26 rfl rfl ?_
    refine g_iloadN C d_prog_2_method_7_code_27 rfl ?_
    refine g_virtual C S0.1 w_42 w_43 (fun hZ => nf_sel hw w_45 hZ) w_45 w_44 (by decide) [(.int (0 : Int32))] (ct_of hEL hw w_46 w_8 (rm_s11_0_1 l Z a0 hw hEL s t _ c0 zc fm h0 n0 S0 h_c0 Szc hzc Sfm hfm)) all0 (by decide) 0 (by decide) rfl pd__I_Ljava_lang_String_ rfl [] rfl (Nat.le_of_eq rfl) d_prog_2_method_7_code_28 (by decide) (by decide) ?_
    intro v154 h154 Q154
    obtain ⟨a154, t154, kb154, rfl, KC154, S154⟩ := Q154
    refine g_areturn C hEL (t := (.object "java/lang/String")) rfl rfl rfl d_prog_2_method_7_code_31 (by decide) (by decide) ?_
    have K155 : Keep h0 h154 [] := (Keep.refl h0 []).trans KC154 all0
    exact ⟨a154, t154, kb154, rfl, K155, by simpa [dz, hc150] using S154⟩
set_option maxRecDepth 65536 in
set_option maxHeartbeats 40000000 in
theorem rm_s22_0_2 (l : Launch) (Z : State) (a0 : Array Value) (hw : ∀ d ∈ tables_1, d.before a0 Z = true) (hEL : EW Z a0 consts_1) {ws : List Jvm.Cond} (s t : Addr) (kb : ClassId) (c0 c1 : Int32) (zc : Int32) (fm : Value) (h0 : Heap) (n0 : Nat) (S0 : Str Z h0 s t kb [c0, c1]) (h_c0 : Ch8 c0) (h_c1 : Ch8 c1) (Szc : Sta Z h0 "java/lang/String" "COMPACT_STRINGS" "Z" (.int zc)) (hzc : ¬ (zc = (0 : Int32))) (Sfm : Sta Z h0 "jdk/internal/util/Preconditions" "SIOOBE_FORMATTER" "Ljava/util/function/BiFunction;" fm) (hfm : fm.isRef = true) :
    Met l Z consts_1 (⟨"java/lang/String", "substring", "(II)Ljava/lang/String;"⟩ : MethodName) jdk_42_method_92_code 5 (some (.object "java/lang/String")) ws ({ frames := 4, cells := 2, slots := 16, locals := 72 } : Room) [] #[(.ref s), (.int (0 : Int32)), (.int (2 : Int32))] h0 n0 (nq (fun v h => ∃ a t' k', v = some (.ref a) ∧ Keep h0 h [] ∧ Str Z h a t' k' [c0, c1])) := by
  refine met_of (plainFor_of_name pn_java_lang_String) hw #[.val (.ref s), .val (.int (0 : Int32)), .val (.int (2 : Int32)), .unset, .unset] (fun m => by first | rfl | (simp [entryFrame, mkF, argsToLocals, Value.category]; done)) ?_
  intro p e sT m below meth c C0
  have C : Cx Z a0 tables_1 p sT m meth c "java/lang/String" "substring" jdk_42_method_92_code 5 (some (.object "java/lang/String")) n0 := C0
  refine g_aloadN C d_jdk_42_method_92_code_0 rfl rfl ?_
  refine g_virtual C S0.1 w_47 w_32 (fun hZ => nf_sel hw w_34 hZ) w_34 w_33 (by decide) [] (ct_len hEL hw S0 Szc hzc) all0 (by decide) 0 (by decide) rfl pd___I rfl [] rfl (Nat.le_of_eq rfl) d_jdk_42_method_92_code_1 (by decide) (by decide) ?_
  intro v156 h156 Q156
  obtain ⟨ev156, e156⟩ := Q156
  replace e156 := e156.symm
  subst e156
  replace ev156 : v156 = some (.int (2 : Int32)) := ev156
  subst ev156
  refine g_istoreN C #[.val (.ref s), .val (.int (0 : Int32)), .val (.int (2 : Int32)), .val (.int (2 : Int32)), .unset] d_jdk_42_method_92_code_4 rfl ?_
  refine g_iloadN C d_jdk_42_method_92_code_5 rfl ?_
  refine g_iloadN C d_jdk_42_method_92_code_6 rfl ?_
  refine g_iloadN C d_jdk_42_method_92_code_7 rfl ?_
  refine g_static C w_53 w_54 w_8 w_55 (by decide) [(.int (0 : Int32)), (.int (2 : Int32)), (.int (2 : Int32))] (ct_of hEL hw w_55 w_8 (rm_cbbe l Z a0 hw hEL (0 : Int32) (2 : Int32) (2 : Int32) fm h0 n0 (by decide) (by decide) (by decide) Sfm hfm)) all0 (by decide) 0 (by decide) rfl pd__III_V rfl [] rfl (Nat.le_of_eq rfl) d_jdk_42_method_92_code_8 (by decide) (by decide) ?_
  intro v157 h157 Q157
  obtain ⟨rfl, e157⟩ := Q157
  replace e157 := e157.symm
  subst e157
  refine g_iloadN C d_jdk_42_method_92_code_11 rfl ?_
  refine g_if_f C d_jdk_42_method_92_code_12 (XT.i0_ne_f (by decide)) ?_
  refine g_iloadN C d_jdk_42_method_92_code_15 rfl ?_
  refine g_iloadN C d_jdk_42_method_92_code_16 rfl ?_
  refine g_icmp_f C d_jdk_42_method_92_code_17 (XT.ii_ne_f (by decide)) ?_
  refine g_aloadN C d_jdk_42_method_92_code_20 rfl rfl ?_
  refine g_areturn C hEL (t := (.object "java/lang/String")) rfl rfl rfl d_jdk_42_method_92_code_21 (by decide) (by decide) ?_
  exact ⟨s, _, _, rfl, (Keep.refl h0 []), S0⟩
set_option maxRecDepth 65536 in
set_option maxHeartbeats 40000000 in
theorem rm_s12_0_2 (l : Launch) (Z : State) (a0 : Array Value) (hw : ∀ d ∈ tables_1, d.before a0 Z = true) (hEL : EW Z a0 consts_1) {ws : List Jvm.Cond} (s t : Addr) (kb : ClassId) (c0 c1 : Int32) (zc : Int32) (fm : Value) (h0 : Heap) (n0 : Nat) (S0 : Str Z h0 s t kb [c0, c1]) (h_c0 : Ch8 c0) (h_c1 : Ch8 c1) (Szc : Sta Z h0 "java/lang/String" "COMPACT_STRINGS" "Z" (.int zc)) (hzc : ¬ (zc = (0 : Int32))) (Sfm : Sta Z h0 "jdk/internal/util/Preconditions" "SIOOBE_FORMATTER" "Ljava/util/function/BiFunction;" fm) (hfm : fm.isRef = true) :
    Met l Z consts_1 (⟨"java/lang/String", "substring", "(I)Ljava/lang/String;"⟩ : MethodName) jdk_42_method_91_code 2 (some (.object "java/lang/String")) ws ({ frames := 5, cells := 2, slots := 16, locals := 90 } : Room) [] #[(.ref s), (.int (0 : Int32))] h0 n0 (nq (fun v h => ∃ a t' k', v = some (.ref a) ∧ Keep h0 h [] ∧ Str Z h a t' k' [c0, c1])) := by
  refine met_of (plainFor_of_name pn_java_lang_String) hw #[.val (.ref s), .val (.int (0 : Int32))] (fun m => by first | rfl | (simp [entryFrame, mkF, argsToLocals, Value.category]; done)) ?_
  intro p e sT m below meth c C0
  have C : Cx Z a0 tables_1 p sT m meth c "java/lang/String" "substring" jdk_42_method_91_code 2 (some (.object "java/lang/String")) n0 := C0
  refine g_aloadN C d_jdk_42_method_91_code_0 rfl rfl ?_
  refine g_iloadN C d_jdk_42_method_91_code_1 rfl ?_
  refine g_aloadN C d_jdk_42_method_91_code_2 rfl rfl ?_
  refine g_virtual C S0.1 w_47 w_32 (fun hZ => nf_sel hw w_34 hZ) w_34 w_33 (by decide) [] (ct_len hEL hw S0 Szc hzc) all0 (by decide) 2 (by decide) rfl pd___I rfl [(.int (0 : Int32)), (.ref s)] rfl (Nat.le_of_eq rfl) d_jdk_42_method_91_code_3 (by decide) (by decide) ?_
  intro v158 h158 Q158
  obtain ⟨ev158, e158⟩ := Q158
  replace e158 := e158.symm
  subst e158
  replace ev158 : v158 = some (.int (2 : Int32)) := ev158
  subst ev158
  refine g_virtual C S0.1 w_48 w_49 (fun hZ => nf_sel hw w_51 hZ) w_51 w_50 (by decide) [(.int (0 : Int32)), (.int (2 : Int32))] (ct_of hEL hw w_52 w_8 (rm_s22_0_2 l Z a0 hw hEL s t _ c0 c1 zc fm h0 n0 S0 h_c0 h_c1 Szc hzc Sfm hfm)) all0 (by decide) 0 (by decide) rfl pd__II_Ljava_lang_String_ rfl [] rfl (Nat.le_of_eq rfl) d_jdk_42_method_91_code_6 (by decide) (by decide) ?_
  intro v159 h159 Q159
  obtain ⟨a159, t159, kb159, rfl, KC159, S159⟩ := Q159
  refine g_areturn C hEL (t := (.object "java/lang/String")) rfl rfl rfl d_jdk_42_method_91_code_9 (by decide) (by decide) ?_
  have K160 : Keep h0 h159 [] := (Keep.refl h0 []).trans KC159 all0
  exact ⟨a159, _, _, rfl, K160, S159⟩
theorem d_jdk_65_method_133_code_0 : decode jdk_65_method_133_code 0 = .ok (.iload_n 1, 1) := by decide +kernel
theorem d_jdk_65_method_133_code_1 : decode jdk_65_method_133_code 1 = .ok (.iload_n 2, 1) := by decide +kernel
theorem d_jdk_65_method_133_code_2 : decode jdk_65_method_133_code 2 = .ok (.invokestatic 343, 3) := by decide +kernel
theorem d_jdk_65_method_133_code_5 : decode jdk_65_method_133_code 5 = .ok (.iload_n 2, 1) := by decide +kernel
theorem d_jdk_65_method_133_code_6 : decode jdk_65_method_133_code 6 = .ok (.iload_n 1, 1) := by decide +kernel
theorem d_jdk_65_method_133_code_7 : decode jdk_65_method_133_code 7 = .ok (.isub, 1) := by decide +kernel
theorem d_jdk_65_method_133_code_8 : decode jdk_65_method_133_code 8 = .ok (.istore_n 3, 1) := by decide +kernel
theorem d_jdk_65_method_133_code_9 : decode jdk_65_method_133_code 9 = .ok (.iload_n 3, 1) := by decide +kernel
theorem d_jdk_65_method_133_code_10 : decode jdk_65_method_133_code 10 = .ok (.newarray .byte, 2) := by decide +kernel
theorem d_jdk_65_method_133_code_12 : decode jdk_65_method_133_code 12 = .ok (.astore 4, 2) := by decide +kernel
theorem d_jdk_65_method_133_code_14 : decode jdk_65_method_133_code 14 = .ok (.aload_n 0, 1) := by decide +kernel
theorem d_jdk_65_method_133_code_15 : decode jdk_65_method_133_code 15 = .ok (.iload_n 1, 1) := by decide +kernel
theorem d_jdk_65_method_133_code_16 : decode jdk_65_method_133_code 16 = .ok (.aload 4, 2) := by decide +kernel
theorem d_jdk_65_method_133_code_18 : decode jdk_65_method_133_code 18 = .ok (.iconst 0, 1) := by decide +kernel
theorem d_jdk_65_method_133_code_19 : decode jdk_65_method_133_code 19 = .ok (.aload_n 0, 1) := by decide +kernel
theorem d_jdk_65_method_133_code_20 : decode jdk_65_method_133_code 20 = .ok (.arraylength, 1) := by decide +kernel
theorem d_jdk_65_method_133_code_21 : decode jdk_65_method_133_code 21 = .ok (.iload_n 1, 1) := by decide +kernel
theorem d_jdk_65_method_133_code_22 : decode jdk_65_method_133_code 22 = .ok (.isub, 1) := by decide +kernel
theorem d_jdk_65_method_133_code_23 : decode jdk_65_method_133_code 23 = .ok (.iload_n 3, 1) := by decide +kernel
theorem d_jdk_65_method_133_code_24 : decode jdk_65_method_133_code 24 = .ok (.invokestatic 304, 3) := by decide +kernel
theorem d_jdk_65_method_133_code_27 : decode jdk_65_method_133_code 27 = .ok (.invokestatic 150, 3) := by decide +kernel
theorem d_jdk_65_method_133_code_30 : decode jdk_65_method_133_code 30 = .ok (.aload 4, 2) := by decide +kernel
theorem d_jdk_65_method_133_code_32 : decode jdk_65_method_133_code 32 = .ok (.areturn, 1) := by decide +kernel
theorem pd__II_I : parseMethodDescriptor "(II)I" = some ⟨[.int, .int], some .int⟩ := by decide +kernel
theorem pd__II_V : parseMethodDescriptor "(II)V" = some ⟨[.int, .int], none⟩ := by decide +kernel
set_option maxRecDepth 65536 in
set_option maxHeartbeats 40000000 in
theorem rm_cr2_1_2 (l : Launch) (Z : State) (a0 : Array Value) (hw : ∀ d ∈ tables_1, d.before a0 Z = true) (hEL : EW Z a0 consts_1) {ws : List Jvm.Cond} (t : Addr) (kb : ClassId) (c0 c1 : Int32) (h0 : Heap) (n0 : Nat) (Vt : Arv Z h0 t kb .byte (2 : Int32) [(.int (c0.toInt8.toInt32)), (.int (c1.toInt8.toInt32))] (.int (0 : Int32))) :
    Met l Z consts_1 (⟨"java/util/Arrays", "copyOfRangeByte", "([BII)[B"⟩ : MethodName) jdk_65_method_133_code 5 (some (.array .byte)) ws ({ frames := 1, cells := 1, slots := 8, locals := 20 } : Room) [] #[(.ref t), (.int (1 : Int32)), (.int (2 : Int32))] h0 n0 (nq (fun v h => ∃ b k', v = some (.ref b) ∧ Keep h0 h [] ∧ h0.size ≤ b ∧ Arv Z h b k' .byte (1 : Int32) [(.int (c1.toInt8.toInt32))] (.int (0 : Int32)))) := by
  refine met_of (plainFor_of_name pn_java_util_Arrays) hw #[.val (.ref t), .val (.int (1 : Int32)), .val (.int (2 : Int32)), .unset, .unset] (fun m => by first | rfl | (simp [entryFrame, mkF, argsToLocals, Value.category]; done)) ?_
  intro p e s m below meth c C0
  have C : Cx Z a0 tables_1 p s m meth c "java/util/Arrays" "copyOfRangeByte" jdk_65_method_133_code 5 (some (.array .byte)) n0 := C0
  refine g_iloadN C d_jdk_65_method_133_code_0 rfl ?_
  refine g_iloadN C d_jdk_65_method_133_code_1 rfl ?_
  refine g_static C w_108 w_109 w_103 w_110 (by decide) [(.int (1 : Int32)), (.int (2 : Int32))] (ct_of hEL hw w_110 w_103 (rm_cl l Z a0 hw hEL (1 : Int32) (2 : Int32) h0 n0 (by decide))) all0 (by decide) 0 (by decide) rfl pd__II_V rfl [] rfl (Nat.le_of_eq rfl) d_jdk_65_method_133_code_2 (by decide) (by decide) ?_
  intro v161 h161 Q161
  obtain ⟨rfl, e161⟩ := Q161
  replace e161 := e161.symm
  subst e161
  refine g_iloadN C d_jdk_65_method_133_code_5 rfl ?_
  refine g_iloadN C d_jdk_65_method_133_code_6 rfl ?_
  refine g_isub C d_jdk_65_method_133_code_7 ?_
  rw [show ((2 : Int32) - (1 : Int32)) = (1 : Int32) from by decide]
  refine g_istoreN C #[.val (.ref t), .val (.int (1 : Int32)), .val (.int (2 : Int32)), .val (.int (1 : Int32)), .unset] d_jdk_65_method_133_code_8 rfl ?_
  refine g_iloadN C d_jdk_65_method_133_code_9 rfl ?_
  refine g_newarray C (aty := .byte) w_20 d_jdk_65_method_133_code_10 (by decide) 1 (by decide) (by decide) (by decide) (by decide) "[B" rfl ?_
  intro b162 h162 ka162 g162 E162 V162 A162
  replace V162 : Arv Z h162 b162 ka162 .byte (1 : Int32) [(.int (0 : Int32))] (.int (0 : Int32)) := V162.pad (pad_rep [] _ 1)
  refine g_astore C #[.val (.ref t), .val (.int (1 : Int32)), .val (.int (2 : Int32)), .val (.int (1 : Int32)), .val (.ref b162)] d_jdk_65_method_133_code_12 rfl rfl ?_
  refine g_aloadN C d_jdk_65_method_133_code_14 rfl rfl ?_
  refine g_iloadN C d_jdk_65_method_133_code_15 rfl ?_
  refine g_aload C d_jdk_65_method_133_code_16 rfl rfl ?_
  refine g_iconst C 0 d_jdk_65_method_133_code_18 rfl ?_
  refine g_aloadN C d_jdk_65_method_133_code_19 rfl rfl ?_
  have K163 : Keep h0 h162 [] := (Keep.refl h0 []).ext E162
  have V164 := (Vt.keep K163 nin0)
  refine g_arraylength C V164 d_jdk_65_method_133_code_20 ?_
  refine g_iloadN C d_jdk_65_method_133_code_21 rfl ?_
  refine g_isub C d_jdk_65_method_133_code_22 ?_
  rw [show ((2 : Int32) - (1 : Int32)) = (1 : Int32) from by decide]
  refine g_iloadN C d_jdk_65_method_133_code_23 rfl ?_
  refine g_static C w_111 w_112 w_113 w_114 (by decide) [(.int (1 : Int32)), (.int (1 : Int32))] (ct_of hEL hw w_114 w_113 (rm_min l Z a0 hw hEL (1 : Int32) (1 : Int32) h162 n0 )) all0 (by decide) 4 (by decide) rfl pd__II_I rfl [(.int (0 : Int32)), (.ref b162), (.int (1 : Int32)), (.ref t)] rfl (Nat.le_of_eq rfl) d_jdk_65_method_133_code_24 (by decide) (by decide) ?_
  intro v165 h165 Q165
  obtain ⟨ev165, e165⟩ := Q165
  replace e165 := e165.symm
  subst e165
  replace ev165 : v165 = some (.int (1 : Int32)) := ev165.trans (by first | rfl | decide)
  subst ev165
  refine g_arraycopy C w_115 w_118 w_116 w_117 V164 V162 rfl (by decide) (by decide) (by decide) (by decide) (by decide) [(.int (c1.toInt8.toInt32))] rfl (Nat.le_of_ble_eq_true rfl) (List.mem_of_getElem? (i := 0) rfl) rfl d_jdk_65_method_133_code_27 (by decide) 0 (Nat.le_of_eq rfl) (by decide) ?_
  intro h166 KC166 V166
  replace V166 : Arv Z h166 b162 ka162 .byte (1 : Int32) [(.int (c1.toInt8.toInt32))] (.int (0 : Int32)) := V166
  refine g_aload C d_jdk_65_method_133_code_30 rfl rfl ?_
  refine g_areturn C hEL (t := (.array .byte)) rfl rfl rfl d_jdk_65_method_133_code_32 (by decide) (by decide) ?_
  have K167 : Keep h0 h166 [] := K163.trans KC166 (allS (Or.inr (Nat.le_of_eq g162.symm)) all0)
  exact ⟨b162, _, rfl, K167, (Nat.le_of_eq g162.symm), V166⟩
theorem d_jdk_65_method_132_code_0 : decode jdk_65_method_132_code 0 = .ok (.iload_n 1, 1) := by decide +kernel
theorem d_jdk_65_method_132_code_1 : decode jdk_65_method_132_code 1 = .ok (.ifCond .ne 9, 3) := by decide +kernel
theorem d_jdk_65_method_132_code_10 : decode jdk_65_method_132_code 10 = .ok (.aload_n 0, 1) := by decide +kernel
theorem d_jdk_65_method_132_code_11 : decode jdk_65_method_132_code 11 = .ok (.iload_n 1, 1) := by decide +kernel
theorem d_jdk_65_method_132_code_12 : decode jdk_65_method_132_code 12 = .ok (.iload_n 2, 1) := by decide +kernel
theorem d_jdk_65_method_132_code_13 : decode jdk_65_method_132_code 13 = .ok (.invokestatic 339, 3) := by decide +kernel
theorem d_jdk_65_method_132_code_16 : decode jdk_65_method_132_code 16 = .ok (.areturn, 1) := by decide +kernel
theorem pd___BII__B : parseMethodDescriptor "([BII)[B" = some ⟨[(.array .byte), .int, .int], some (.array .byte)⟩ := by decide +kernel
set_option maxRecDepth 65536 in
set_option maxHeartbeats 40000000 in
theorem rm_c02_1_2 (l : Launch) (Z : State) (a0 : Array Value) (hw : ∀ d ∈ tables_1, d.before a0 Z = true) (hEL : EW Z a0 consts_1) {ws : List Jvm.Cond} (t : Addr) (kb : ClassId) (c0 c1 : Int32) (h0 : Heap) (n0 : Nat) (Vt : Arv Z h0 t kb .byte (2 : Int32) [(.int (c0.toInt8.toInt32)), (.int (c1.toInt8.toInt32))] (.int (0 : Int32))) :
    Met l Z consts_1 (⟨"java/util/Arrays", "copyOfRange", "([BII)[B"⟩ : MethodName) jdk_65_method_132_code 3 (some (.array .byte)) ws ({ frames := 2, cells := 1, slots := 8, locals := 36 } : Room) [] #[(.ref t), (.int (1 : Int32)), (.int (2 : Int32))] h0 n0 (nq (fun v h => ∃ b k', v = some (.ref b) ∧ Keep h0 h [] ∧ h0.size ≤ b ∧ Arv Z h b k' .byte (1 : Int32) [(.int (c1.toInt8.toInt32))] (.int (0 : Int32)))) := by
  refine met_of (plainFor_of_name pn_java_util_Arrays) hw #[.val (.ref t), .val (.int (1 : Int32)), .val (.int (2 : Int32))] (fun m => by first | rfl | (simp [entryFrame, mkF, argsToLocals, Value.category]; done)) ?_
  intro p e s m below meth c C0
  have C : Cx Z a0 tables_1 p s m meth c "java/util/Arrays" "copyOfRange" jdk_65_method_132_code 3 (some (.array .byte)) n0 := C0
  refine g_iloadN C d_jdk_65_method_132_code_0 rfl ?_
  refine g_if_t C 10 d_jdk_65_method_132_code_1 (XT.i0_ne_t (by decide)) (by decide) (by decide) ?_
  refine g_aloadN C d_jdk_65_method_132_code_10 rfl rfl ?_
  refine g_iloadN C d_jdk_65_method_132_code_11 rfl ?_
  refine g_iloadN C d_jdk_65_method_132_code_12 rfl ?_
  refine g_static C w_105 w_106 w_103 w_107 (by decide) [(.ref t), (.int (1 : Int32)), (.int (2 : Int32))] (ct_of hEL hw w_107 w_103 (rm_cr2_1_2 l Z a0 hw hEL t _ c0 c1 h0 n0 Vt)) all0 (by decide) 0 (by decide) rfl pd___BII__B rfl [] rfl (Nat.le_of_eq rfl) d_jdk_65_method_132_code_13 (by decide) (by decide) ?_
  intro v168 h168 Q168
  obtain ⟨b168, k168, rfl, KC168, le168, V168⟩ := Q168
  refine g_areturn C hEL (t := (.array .byte)) rfl rfl rfl d_jdk_65_method_132_code_16 (by decide) (by decide) ?_
  have K169 : Keep h0 h168 [] := (Keep.refl h0 []).trans KC168 all0
  exact ⟨b168, _, rfl, K169, le168, V168⟩
theorem d_jdk_43_method_47_code_7 : decode jdk_43_method_47_code 7 = .ok (.new 1, 3) := by decide +kernel
theorem d_jdk_43_method_47_code_10 : decode jdk_43_method_47_code 10 = .ok (.dup, 1) := by decide +kernel
theorem d_jdk_43_method_47_code_11 : decode jdk_43_method_47_code 11 = .ok (.aload_n 0, 1) := by decide +kernel
theorem d_jdk_43_method_47_code_12 : decode jdk_43_method_47_code 12 = .ok (.iload_n 1, 1) := by decide +kernel
theorem d_jdk_43_method_47_code_13 : decode jdk_43_method_47_code 13 = .ok (.iload_n 1, 1) := by decide +kernel
theorem d_jdk_43_method_47_code_14 : decode jdk_43_method_47_code 14 = .ok (.iload_n 2, 1) := by decide +kernel
theorem d_jdk_43_method_47_code_15 : decode jdk_43_method_47_code 15 = .ok (.iadd, 1) := by decide +kernel
theorem d_jdk_43_method_47_code_16 : decode jdk_43_method_47_code 16 = .ok (.invokestatic 232, 3) := by decide +kernel
theorem d_jdk_43_method_47_code_19 : decode jdk_43_method_47_code 19 = .ok (.iconst 0, 1) := by decide +kernel
theorem d_jdk_43_method_47_code_20 : decode jdk_43_method_47_code 20 = .ok (.invokespecial 112, 3) := by decide +kernel
theorem d_jdk_43_method_47_code_23 : decode jdk_43_method_47_code 23 = .ok (.areturn, 1) := by decide +kernel
theorem pd___BB_V : parseMethodDescriptor "([BB)V" = some ⟨[(.array .byte), .byte], none⟩ := by decide +kernel
set_option maxRecDepth 65536 in
set_option maxHeartbeats 40000000 in
theorem rm_ns2_1_2 (l : Launch) (Z : State) (a0 : Array Value) (hw : ∀ d ∈ tables_1, d.before a0 Z = true) (hEL : EW Z a0 consts_1) {ws : List Jvm.Cond} (t : Addr) (kb : ClassId) (c0 c1 : Int32) (h0 : Heap) (n0 : Nat) (Vt : Arv Z h0 t kb .byte (2 : Int32) [(.int (c0.toInt8.toInt32)), (.int (c1.toInt8.toInt32))] (.int (0 : Int32))) (h_c0 : Ch8 c0) (h_c1 : Ch8 c1) :
    Met l Z consts_1 (⟨"java/lang/StringLatin1", "newString", "([BII)Ljava/lang/String;"⟩ : MethodName) jdk_43_method_47_code 3 (some (.object "java/lang/String")) ws ({ frames := 3, cells := 2, slots := 16, locals := 56 } : Room) [] #[(.ref t), (.int (1 : Int32)), (.int (1 : Int32))] h0 n0 (nq (fun v h => ∃ a t' k', v = some (.ref a) ∧ Keep h0 h [] ∧ Str Z h a t' k' [c1])) := by
  refine met_of (plainFor_of_name pn_java_lang_StringLatin1) hw #[.val (.ref t), .val (.int (1 : Int32)), .val (.int (1 : Int32))] (fun m => by first | rfl | (simp [entryFrame, mkF, argsToLocals, Value.category]; done)) ?_
  intro p e s m below meth c C0
  have C : Cx Z a0 tables_1 p s m meth c "java/lang/StringLatin1" "newString" jdk_43_method_47_code 3 (some (.object "java/lang/String")) n0 := C0
  refine g_iloadN C d_jdk_43_method_47_code_0 rfl ?_
  refine g_if_t C 7 d_jdk_43_method_47_code_1 (XT.i0_ne_t (by decide)) (by decide) (by decide) ?_
  refine g_new C w_100 w_7 w_8 d_jdk_43_method_47_code_7 (by decide) (by decide) ?_
  intro b170 h170 g170 E170 A170 D170
  refine g_dup C d_jdk_43_method_47_code_10 rfl ?_
  refine g_aloadN C d_jdk_43_method_47_code_11 rfl rfl ?_
  refine g_iloadN C d_jdk_43_method_47_code_12 rfl ?_
  refine g_iloadN C d_jdk_43_method_47_code_13 rfl ?_
  refine g_iloadN C d_jdk_43_method_47_code_14 rfl ?_
  refine g_iadd C d_jdk_43_method_47_code_15 ?_
  rw [show ((1 : Int32) + (1 : Int32)) = (2 : Int32) from by decide]
  have K171 : Keep h0 h170 [] := (Keep.refl h0 []).ext E170
  have V172 := (Vt.keep K171 nin0)
  refine g_static C w_101 w_102 w_103 w_104 (by decide) [(.ref t), (.int (1 : Int32)), (.int (2 : Int32))] (ct_of hEL hw w_104 w_103 (rm_c02_1_2 l Z a0 hw hEL t _ c0 c1 h170 n0 V172)) all0 (by decide) 2 (by decide) rfl pd___BII__B rfl [(.ref b170), (.ref b170)] rfl (Nat.le_of_eq rfl) d_jdk_43_method_47_code_16 (by decide) (by decide) ?_
  intro v173 h173 Q173
  obtain ⟨b173, k173, rfl, KC173, le173, V173⟩ := Q173
  refine g_iconst C 0 d_jdk_43_method_47_code_19 rfl ?_
  have K174 : Keep h170 h173 [] := (Keep.refl h170 []).trans KC173 all0
  have E175 := (A170.keep K174)
  have F176 := ((D170 (Or.inr (C.hw w_21)) (ty := (.array .byte)) (by decide)).keep K174 nin0)
  have F177 := ((D170 (Or.inr (C.hw w_22)) (ty := .byte) (by decide)).keep K174 nin0)
  refine g_special C (a := b170) w_119 w_120 w_121 rfl (by decide) [(.ref b173), (.int (0 : Int32))] (ct_of hEL hw w_121 w_8 (rm_sbb l Z a0 hw hEL b170 b173 h173 n0 E175 F176 F177)) (allS (List.mem_of_getElem? (i := 0) rfl) all0) (by decide) 1 (by decide) rfl pd___BB_V rfl [(.ref b170)] rfl (Nat.le_of_eq rfl) d_jdk_43_method_47_code_20 (by decide) (by decide) ?_
  intro v178 h178 Q178
  obtain ⟨rfl, KC178, X178, G1178, G2178⟩ := Q178
  refine g_areturn C hEL (t := (.object "java/lang/String")) rfl rfl rfl d_jdk_43_method_47_code_23 (by decide) (by decide) ?_
  have K179 : Keep h0 h173 [] := K171.trans KC173 all0
  have K180 : Keep h0 h178 [] := K179.trans KC178 (allS (Or.inr (Nat.le_of_eq g170.symm)) all0)
  have V181 := (V173.keep KC178 (ninS (Ne.symm (Nat.ne_of_lt (Nat.lt_of_lt_of_le A170.lt le173))) nin0))
  exact ⟨b170, b173, _, rfl, K180, X178, G1178, G2178, V181, Nat.le_of_ble_eq_true rfl, (own_allc h_c1 (fun _ q => nomatch q))⟩
set_option maxRecDepth 65536 in
set_option maxHeartbeats 40000000 in
theorem rm_s22_1_2 (l : Launch) (Z : State) (a0 : Array Value) (hw : ∀ d ∈ tables_1, d.before a0 Z = true) (hEL : EW Z a0 consts_1) {ws : List Jvm.Cond} (s t : Addr) (kb : ClassId) (c0 c1 : Int32) (zc : Int32) (fm : Value) (h0 : Heap) (n0 : Nat) (S0 : Str Z h0 s t kb [c0, c1]) (h_c0 : Ch8 c0) (h_c1 : Ch8 c1) (Szc : Sta Z h0 "java/lang/String" "COMPACT_STRINGS" "Z" (.int zc)) (hzc : ¬ (zc = (0 : Int32))) (Sfm : Sta Z h0 "jdk/internal/util/Preconditions" "SIOOBE_FORMATTER" "Ljava/util/function/BiFunction;" fm) (hfm : fm.isRef = true) :
    Met l Z consts_1 (⟨"java/lang/String", "substring", "(II)Ljava/lang/String;"⟩ : MethodName) jdk_42_method_92_code 5 (some (.object "java/lang/String")) ws ({ frames := 4, cells := 2, slots := 16, locals := 72 } : Room) [] #[(.ref s), (.int (1 : Int32)), (.int (2 : Int32))] h0 n0 (nq (fun v h => ∃ a t' k', v = some (.ref a) ∧ Keep h0 h [] ∧ Str Z h a t' k' [c1])) := by
  refine met_of (plainFor_of_name pn_java_lang_String) hw #[.val (.ref s), .val (.int (1 : Int32)), .val (.int (2 : Int32)), .unset, .unset] (fun m => by first | rfl | (simp [entryFrame, mkF, argsToLocals, Value.category]; done)) ?_
  intro p e sT m below meth c C0
  have C : Cx Z a0 tables_1 p sT m meth c "java/lang/String" "substring" jdk_42_method_92_code 5 (some (.object "java/lang/String")) n0 := C0
  refine g_aloadN C d_jdk_42_method_92_code_0 rfl rfl ?_
  refine g_virtual C S0.1 w_47 w_32 (fun hZ => nf_sel hw w_34 hZ) w_34 w_33 (by decide) [] (ct_len hEL hw S0 Szc hzc) all0 (by decide) 0 (by decide) rfl pd___I rfl [] rfl (Nat.le_of_eq rfl) d_jdk_42_method_92_code_1 (by decide) (by decide) ?_
  intro v182 h182 Q182
  obtain ⟨ev182, e182⟩ := Q182
  replace e182 := e182.symm
  subst e182
  replace ev182 : v182 = some (.int (2 : Int32)) := ev182
  subst ev182
  refine g_istoreN C #[.val (.ref s), .val (.int (1 : Int32)), .val (.int (2 : Int32)), .val (.int (2 : Int32)), .unset] d_jdk_42_method_92_code_4 rfl ?_
  refine g_iloadN C d_jdk_42_method_92_code_5 rfl ?_
  refine g_iloadN C d_jdk_42_method_92_code_6 rfl ?_
  refine g_iloadN C d_jdk_42_method_92_code_7 rfl ?_
  refine g_static C w_53 w_54 w_8 w_55 (by decide) [(.int (1 : Int32)), (.int (2 : Int32)), (.int (2 : Int32))] (ct_of hEL hw w_55 w_8 (rm_cbbe l Z a0 hw hEL (1 : Int32) (2 : Int32) (2 : Int32) fm h0 n0 (by decide) (by decide) (by decide) Sfm hfm)) all0 (by decide) 0 (by decide) rfl pd__III_V rfl [] rfl (Nat.le_of_eq rfl) d_jdk_42_method_92_code_8 (by decide) (by decide) ?_
  intro v183 h183 Q183
  obtain ⟨rfl, e183⟩ := Q183
  replace e183 := e183.symm
  subst e183
  refine g_iloadN C d_jdk_42_method_92_code_11 rfl ?_
  refine g_if_t C 22 d_jdk_42_method_92_code_12 (XT.i0_ne_t (by decide)) (by decide) (by decide) ?_
  refine g_iloadN C d_jdk_42_method_92_code_22 rfl ?_
  refine g_iloadN C d_jdk_42_method_92_code_23 rfl ?_
  refine g_isub C d_jdk_42_method_92_code_24 ?_
  rw [show ((2 : Int32) - (1 : Int32)) = (1 : Int32) from by decide]
  refine g_istore C #[.val (.ref s), .val (.int (1 : Int32)), .val (.int (2 : Int32)), .val (.int (2 : Int32)), .val (.int (1 : Int32))] d_jdk_42_method_92_code_25 rfl ?_
  refine g_aloadN C d_jdk_42_method_92_code_27 rfl rfl ?_
  refine g_virtual C S0.1 w_80 w_81 (fun hZ => nf_sel hw w_83 hZ) w_83 w_82 (by decide) [] (ct_of hEL hw w_84 w_8 (rm_lat l Z a0 hw hEL s zc h0 n0 S0.2.1 Szc hzc)) all0 (by decide) 0 (by decide) rfl pd___Z rfl [] rfl (Nat.le_of_eq rfl) d_jdk_42_method_92_code_28 (by decide) (by decide) ?_
  intro v184 h184 Q184
  obtain ⟨rfl, e184⟩ := Q184
  replace e184 := e184.symm
  subst e184
  refine g_if_f C d_jdk_42_method_92_code_31 (XT.i0_eq_f (by decide)) ?_
  refine g_aloadN C d_jdk_42_method_92_code_34 rfl rfl ?_
  refine g_getfield C w_25 Via.refl S0.2.2.1 d_jdk_42_method_92_code_35 ?_
  refine g_iloadN C d_jdk_42_method_92_code_38 rfl ?_
  refine g_iload C d_jdk_42_method_92_code_39 rfl ?_
  refine g_static C w_96 w_97 w_87 w_98 (by decide) [(.ref t), (.int (1 : Int32)), (.int (1 : Int32))] (ct_of hEL hw w_98 w_87 (rm_ns2_1_2 l Z a0 hw hEL t _ c0 c1 h0 n0 S0.2.2.2.1 h_c0 h_c1)) all0 (by decide) 0 (by decide) rfl pd___BII_Ljava_lang_String_ rfl [] rfl (Nat.le_of_eq rfl) d_jdk_42_method_92_code_41 (by decide) (by decide) ?_
  intro v185 h185 Q185
  obtain ⟨a185, t185, kb185, rfl, KC185, S185⟩ := Q185
  refine g_goto C 57 d_jdk_42_method_92_code_44 (by decide) (by decide) ?_
  refine g_areturn C hEL (t := (.object "java/lang/String")) rfl rfl rfl d_jdk_42_method_92_code_57 (by decide) (by decide) ?_
  have K186 : Keep h0 h185 [] := (Keep.refl h0 []).trans KC185 all0
  exact ⟨a185, _, _, rfl, K186, S185⟩
set_option maxRecDepth 65536 in
set_option maxHeartbeats 40000000 in
theorem rm_s12_1_2 (l : Launch) (Z : State) (a0 : Array Value) (hw : ∀ d ∈ tables_1, d.before a0 Z = true) (hEL : EW Z a0 consts_1) {ws : List Jvm.Cond} (s t : Addr) (kb : ClassId) (c0 c1 : Int32) (zc : Int32) (fm : Value) (h0 : Heap) (n0 : Nat) (S0 : Str Z h0 s t kb [c0, c1]) (h_c0 : Ch8 c0) (h_c1 : Ch8 c1) (Szc : Sta Z h0 "java/lang/String" "COMPACT_STRINGS" "Z" (.int zc)) (hzc : ¬ (zc = (0 : Int32))) (Sfm : Sta Z h0 "jdk/internal/util/Preconditions" "SIOOBE_FORMATTER" "Ljava/util/function/BiFunction;" fm) (hfm : fm.isRef = true) :
    Met l Z consts_1 (⟨"java/lang/String", "substring", "(I)Ljava/lang/String;"⟩ : MethodName) jdk_42_method_91_code 2 (some (.object "java/lang/String")) ws ({ frames := 5, cells := 2, slots := 16, locals := 90 } : Room) [] #[(.ref s), (.int (1 : Int32))] h0 n0 (nq (fun v h => ∃ a t' k', v = some (.ref a) ∧ Keep h0 h [] ∧ Str Z h a t' k' [c1])) := by
  refine met_of (plainFor_of_name pn_java_lang_String) hw #[.val (.ref s), .val (.int (1 : Int32))] (fun m => by first | rfl | (simp [entryFrame, mkF, argsToLocals, Value.category]; done)) ?_
  intro p e sT m below meth c C0
  have C : Cx Z a0 tables_1 p sT m meth c "java/lang/String" "substring" jdk_42_method_91_code 2 (some (.object "java/lang/String")) n0 := C0
  refine g_aloadN C d_jdk_42_method_91_code_0 rfl rfl ?_
  refine g_iloadN C d_jdk_42_method_91_code_1 rfl ?_
  refine g_aloadN C d_jdk_42_method_91_code_2 rfl rfl ?_
  refine g_virtual C S0.1 w_47 w_32 (fun hZ => nf_sel hw w_34 hZ) w_34 w_33 (by decide) [] (ct_len hEL hw S0 Szc hzc) all0 (by decide) 2 (by decide) rfl pd___I rfl [(.int (1 : Int32)), (.ref s)] rfl (Nat.le_of_eq rfl) d_jdk_42_method_91_code_3 (by decide) (by decide) ?_
  intro v187 h187 Q187
  obtain ⟨ev187, e187⟩ := Q187
  replace e187 := e187.symm
  subst e187
  replace ev187 : v187 = some (.int (2 : Int32)) := ev187
  subst ev187
  refine g_virtual C S0.1 w_48 w_49 (fun hZ => nf_sel hw w_51 hZ) w_51 w_50 (by decide) [(.int (1 : Int32)), (.int (2 : Int32))] (ct_of hEL hw w_52 w_8 (rm_s22_1_2 l Z a0 hw hEL s t _ c0 c1 zc fm h0 n0 S0 h_c0 h_c1 Szc hzc Sfm hfm)) all0 (by decide) 0 (by decide) rfl pd__II_Ljava_lang_String_ rfl [] rfl (Nat.le_of_eq rfl) d_jdk_42_method_91_code_6 (by decide) (by decide) ?_
  intro v188 h188 Q188
  obtain ⟨a188, t188, kb188, rfl, KC188, S188⟩ := Q188
  refine g_areturn C hEL (t := (.object "java/lang/String")) rfl rfl rfl d_jdk_42_method_91_code_9 (by decide) (by decide) ?_
  have K189 : Keep h0 h188 [] := (Keep.refl h0 []).trans KC188 all0
  exact ⟨a188, _, _, rfl, K189, S188⟩
set_option maxRecDepth 65536 in
set_option maxHeartbeats 40000000 in
theorem rm_ns2_2_2 (l : Launch) (Z : State) (a0 : Array Value) (hw : ∀ d ∈ tables_1, d.before a0 Z = true) (hEL : EW Z a0 consts_1) {ws : List Jvm.Cond} (t : Addr) (kb : ClassId) (c0 c1 : Int32) (h0 : Heap) (n0 : Nat) (Vt : Arv Z h0 t kb .byte (2 : Int32) [(.int (c0.toInt8.toInt32)), (.int (c1.toInt8.toInt32))] (.int (0 : Int32))) (h_c0 : Ch8 c0) (h_c1 : Ch8 c1) :
    Met l Z consts_1 (⟨"java/lang/StringLatin1", "newString", "([BII)Ljava/lang/String;"⟩ : MethodName) jdk_43_method_47_code 3 (some (.object "java/lang/String")) ws ({ frames := 3, cells := 2, slots := 16, locals := 56 } : Room) [] #[(.ref t), (.int (2 : Int32)), (.int (0 : Int32))] h0 n0 (nq (fun v h => ∃ a t' k', v = some (.ref a) ∧ Keep h0 h [] ∧ Str Z h a t' k' [])) := by
  refine met_of (plainFor_of_name pn_java_lang_StringLatin1) hw #[.val (.ref t), .val (.int (2 : Int32)), .val (.int (0 : Int32))] (fun m => by first | rfl | (simp [entryFrame, mkF, argsToLocals, Value.category]; done)) ?_
  intro p e s m below meth c C0
  have C : Cx Z a0 tables_1 p s m meth c "java/lang/StringLatin1" "newString" jdk_43_method_47_code 3 (some (.object "java/lang/String")) n0 := C0
  refine g_iloadN C d_jdk_43_method_47_code_0 rfl ?_
  refine g_if_f C d_jdk_43_method_47_code_1 (XT.i0_ne_f (by decide)) ?_
  refine g_ldcS C hEL w_99 own_sA (List.mem_of_getElem? (i := 1) rfl) [] ⟨by decide +kernel, by decide +kernel⟩ (by decide) (by decide) d_jdk_43_method_47_code_4 0 (by decide +kernel) (by decide) (by decide) (by decide) ?_
  intro a190 t190 kb190 h190 E190 S190 X190
  refine g_areturn C hEL (t := (.object "java/lang/String")) rfl rfl rfl d_jdk_43_method_47_code_6 (by decide) (by decide) ?_
  have K191 : Keep h0 h190 [] := (Keep.refl h0 []).ext E190
  exact ⟨a190, _, _, rfl, K191, S190⟩
set_option maxRecDepth 65536 in
set_option maxHeartbeats 40000000 in
theorem rm_s22_2_2 (l : Launch) (Z : State) (a0 : Array Value) (hw : ∀ d ∈ tables_1, d.before a0 Z = true) (hEL : EW Z a0 consts_1) {ws : List Jvm.Cond} (s t : Addr) (kb : ClassId) (c0 c1 : Int32) (zc : Int32) (fm : Value) (h0 : Heap) (n0 : Nat) (S0 : Str Z h0 s t kb [c0, c1]) (h_c0 : Ch8 c0) (h_c1 : Ch8 c1) (Szc : Sta Z h0 "java/lang/String" "COMPACT_STRINGS" "Z" (.int zc)) (hzc : ¬ (zc = (0 : Int32))) (Sfm : Sta Z h0 "jdk/internal/util/Preconditions" "SIOOBE_FORMATTER" "Ljava/util/function/BiFunction;" fm) (hfm : fm.isRef = true) :
    Met l Z consts_1 (⟨"java/lang/String", "substring", "(II)Ljava/lang/String;"⟩ : MethodName) jdk_42_method_92_code 5 (some (.object "java/lang/String")) ws ({ frames := 4, cells := 2, slots := 16, locals := 72 } : Room) [] #[(.ref s), (.int (2 : Int32)), (.int (2 : Int32))] h0 n0 (nq (fun v h => ∃ a t' k', v = some (.ref a) ∧ Keep h0 h [] ∧ Str Z h a t' k' [])) := by
  refine met_of (plainFor_of_name pn_java_lang_String) hw #[.val (.ref s), .val (.int (2 : Int32)), .val (.int (2 : Int32)), .unset, .unset] (fun m => by first | rfl | (simp [entryFrame, mkF, argsToLocals, Value.category]; done)) ?_
  intro p e sT m below meth c C0
  have C : Cx Z a0 tables_1 p sT m meth c "java/lang/String" "substring" jdk_42_method_92_code 5 (some (.object "java/lang/String")) n0 := C0
  refine g_aloadN C d_jdk_42_method_92_code_0 rfl rfl ?_
  refine g_virtual C S0.1 w_47 w_32 (fun hZ => nf_sel hw w_34 hZ) w_34 w_33 (by decide) [] (ct_len hEL hw S0 Szc hzc) all0 (by decide) 0 (by decide) rfl pd___I rfl [] rfl (Nat.le_of_eq rfl) d_jdk_42_method_92_code_1 (by decide) (by decide) ?_
  intro v192 h192 Q192
  obtain ⟨ev192, e192⟩ := Q192
  replace e192 := e192.symm
  subst e192
  replace ev192 : v192 = some (.int (2 : Int32)) := ev192
  subst ev192
  refine g_istoreN C #[.val (.ref s), .val (.int (2 : Int32)), .val (.int (2 : Int32)), .val (.int (2 : Int32)), .unset] d_jdk_42_method_92_code_4 rfl ?_
  refine g_iloadN C d_jdk_42_method_92_code_5 rfl ?_
  refine g_iloadN C d_jdk_42_method_92_code_6 rfl ?_
  refine g_iloadN C d_jdk_42_method_92_code_7 rfl ?_
  refine g_static C w_53 w_54 w_8 w_55 (by decide) [(.int (2 : Int32)), (.int (2 : Int32)), (.int (2 : Int32))] (ct_of hEL hw w_55 w_8 (rm_cbbe l Z a0 hw hEL (2 : Int32) (2 : Int32) (2 : Int32) fm h0 n0 (by decide) (by decide) (by decide) Sfm hfm)) all0 (by decide) 0 (by decide) rfl pd__III_V rfl [] rfl (Nat.le_of_eq rfl) d_jdk_42_method_92_code_8 (by decide) (by decide) ?_
  intro v193 h193 Q193
  obtain ⟨rfl, e193⟩ := Q193
  replace e193 := e193.symm
  subst e193
  refine g_iloadN C d_jdk_42_method_92_code_11 rfl ?_
  refine g_if_t C 22 d_jdk_42_method_92_code_12 (XT.i0_ne_t (by decide)) (by decide) (by decide) ?_
  refine g_iloadN C d_jdk_42_method_92_code_22 rfl ?_
  refine g_iloadN C d_jdk_42_method_92_code_23 rfl ?_
  refine g_isub C d_jdk_42_method_92_code_24 ?_
  rw [show ((2 : Int32) - (2 : Int32)) = (0 : Int32) from by decide]
  refine g_istore C #[.val (.ref s), .val (.int (2 : Int32)), .val (.int (2 : Int32)), .val (.int (2 : Int32)), .val (.int (0 : Int32))] d_jdk_42_method_92_code_25 rfl ?_
  refine g_aloadN C d_jdk_42_method_92_code_27 rfl rfl ?_
  refine g_virtual C S0.1 w_80 w_81 (fun hZ => nf_sel hw w_83 hZ) w_83 w_82 (by decide) [] (ct_of hEL hw w_84 w_8 (rm_lat l Z a0 hw hEL s zc h0 n0 S0.2.1 Szc hzc)) all0 (by decide) 0 (by decide) rfl pd___Z rfl [] rfl (Nat.le_of_eq rfl) d_jdk_42_method_92_code_28 (by decide) (by decide) ?_
  intro v194 h194 Q194
  obtain ⟨rfl, e194⟩ := Q194
  replace e194 := e194.symm
  subst e194
  refine g_if_f C d_jdk_42_method_92_code_31 (XT.i0_eq_f (by decide)) ?_
  refine g_aloadN C d_jdk_42_method_92_code_34 rfl rfl ?_
  refine g_getfield C w_25 Via.refl S0.2.2.1 d_jdk_42_method_92_code_35 ?_
  refine g_iloadN C d_jdk_42_method_92_code_38 rfl ?_
  refine g_iload C d_jdk_42_method_92_code_39 rfl ?_
  refine g_static C w_96 w_97 w_87 w_98 (by decide) [(.ref t), (.int (2 : Int32)), (.int (0 : Int32))] (ct_of hEL hw w_98 w_87 (rm_ns2_2_2 l Z a0 hw hEL t _ c0 c1 h0 n0 S0.2.2.2.1 h_c0 h_c1)) all0 (by decide) 0 (by decide) rfl pd___BII_Ljava_lang_String_ rfl [] rfl (Nat.le_of_eq rfl) d_jdk_42_method_92_code_41 (by decide) (by decide) ?_
  intro v195 h195 Q195
  obtain ⟨a195, t195, kb195, rfl, KC195, S195⟩ := Q195
  refine g_goto C 57 d_jdk_42_method_92_code_44 (by decide) (by decide) ?_
  refine g_areturn C hEL (t := (.object "java/lang/String")) rfl rfl rfl d_jdk_42_method_92_code_57 (by decide) (by decide) ?_
  have K196 : Keep h0 h195 [] := (Keep.refl h0 []).trans KC195 all0
  exact ⟨a195, _, _, rfl, K196, S195⟩
set_option maxRecDepth 65536 in
set_option maxHeartbeats 40000000 in
theorem rm_s12_2_2 (l : Launch) (Z : State) (a0 : Array Value) (hw : ∀ d ∈ tables_1, d.before a0 Z = true) (hEL : EW Z a0 consts_1) {ws : List Jvm.Cond} (s t : Addr) (kb : ClassId) (c0 c1 : Int32) (zc : Int32) (fm : Value) (h0 : Heap) (n0 : Nat) (S0 : Str Z h0 s t kb [c0, c1]) (h_c0 : Ch8 c0) (h_c1 : Ch8 c1) (Szc : Sta Z h0 "java/lang/String" "COMPACT_STRINGS" "Z" (.int zc)) (hzc : ¬ (zc = (0 : Int32))) (Sfm : Sta Z h0 "jdk/internal/util/Preconditions" "SIOOBE_FORMATTER" "Ljava/util/function/BiFunction;" fm) (hfm : fm.isRef = true) :
    Met l Z consts_1 (⟨"java/lang/String", "substring", "(I)Ljava/lang/String;"⟩ : MethodName) jdk_42_method_91_code 2 (some (.object "java/lang/String")) ws ({ frames := 5, cells := 2, slots := 16, locals := 90 } : Room) [] #[(.ref s), (.int (2 : Int32))] h0 n0 (nq (fun v h => ∃ a t' k', v = some (.ref a) ∧ Keep h0 h [] ∧ Str Z h a t' k' [])) := by
  refine met_of (plainFor_of_name pn_java_lang_String) hw #[.val (.ref s), .val (.int (2 : Int32))] (fun m => by first | rfl | (simp [entryFrame, mkF, argsToLocals, Value.category]; done)) ?_
  intro p e sT m below meth c C0
  have C : Cx Z a0 tables_1 p sT m meth c "java/lang/String" "substring" jdk_42_method_91_code 2 (some (.object "java/lang/String")) n0 := C0
  refine g_aloadN C d_jdk_42_method_91_code_0 rfl rfl ?_
  refine g_iloadN C d_jdk_42_method_91_code_1 rfl ?_
  refine g_aloadN C d_jdk_42_method_91_code_2 rfl rfl ?_
  refine g_virtual C S0.1 w_47 w_32 (fun hZ => nf_sel hw w_34 hZ) w_34 w_33 (by decide) [] (ct_len hEL hw S0 Szc hzc) all0 (by decide) 2 (by decide) rfl pd___I rfl [(.int (2 : Int32)), (.ref s)] rfl (Nat.le_of_eq rfl) d_jdk_42_method_91_code_3 (by decide) (by decide) ?_
  intro v197 h197 Q197
  obtain ⟨ev197, e197⟩ := Q197
  replace e197 := e197.symm
  subst e197
  replace ev197 : v197 = some (.int (2 : Int32)) := ev197
  subst ev197
  refine g_virtual C S0.1 w_48 w_49 (fun hZ => nf_sel hw w_51 hZ) w_51 w_50 (by decide) [(.int (2 : Int32)), (.int (2 : Int32))] (ct_of hEL hw w_52 w_8 (rm_s22_2_2 l Z a0 hw hEL s t _ c0 c1 zc fm h0 n0 S0 h_c0 h_c1 Szc hzc Sfm hfm)) all0 (by decide) 0 (by decide) rfl pd__II_Ljava_lang_String_ rfl [] rfl (Nat.le_of_eq rfl) d_jdk_42_method_91_code_6 (by decide) (by decide) ?_
  intro v198 h198 Q198
  obtain ⟨a198, t198, kb198, rfl, KC198, S198⟩ := Q198
  refine g_areturn C hEL (t := (.object "java/lang/String")) rfl rfl rfl d_jdk_42_method_91_code_9 (by decide) (by decide) ?_
  have K199 : Keep h0 h198 [] := (Keep.refl h0 []).trans KC198 all0
  exact ⟨a198, _, _, rfl, K199, S198⟩
set_option maxRecDepth 65536 in
set_option maxHeartbeats 40000000 in
theorem rm_strip2 (l : Launch) (Z : State) (a0 : Array Value) (hw : ∀ d ∈ tables_1, d.before a0 Z = true) (hEL : EW Z a0 consts_1) {ws : List Jvm.Cond} (s t : Addr) (kb : ClassId) (c0 c1 : Int32) (zc : Int32) (fm : Value) (h0 : Heap) (n0 : Nat) (S0 : Str Z h0 s t kb [c0, c1]) (h_c0 : Ch8 c0) (h_c1 : Ch8 c1) (Szc : Sta Z h0 "java/lang/String" "COMPACT_STRINGS" "Z" (.int zc)) (hzc : ¬ (zc = (0 : Int32))) (Sfm : Sta Z h0 "jdk/internal/util/Preconditions" "SIOOBE_FORMATTER" "Ljava/util/function/BiFunction;" fm) (hfm : fm.isRef = true) :
    Met l Z consts_1 (⟨"com/example/tributary/tributary/Decimals", "stripLeadingZeros", "(Ljava/lang/String;)Ljava/lang/String;"⟩ : MethodName) prog_2_method_7_code 2 (some (.object "java/lang/String")) ws ({ frames := 6, cells := 2, slots := 16, locals := 110 } : Room) [] #[(.ref s)] h0 n0 (nq (fun v h => ∃ a t' k', v = some (.ref a) ∧ Keep h0 h [] ∧ Str Z h a t' k' (dz [c0, c1]))) := by
  refine met_of (plainFor_of_name pn_com_example_tributary_tributary_Decimals) hw #[.val (.ref s), .unset] (fun m => by first | rfl | (simp [entryFrame, mkF, argsToLocals, Value.category]; done)) ?_
  intro p e sT m below meth c C0
  have C : Cx Z a0 tables_1 p sT m meth c "com/example/tributary/tributary/Decimals" "stripLeadingZeros" prog_2_method_7_code 2 (some (.object "java/lang/String")) n0 := C0
  refine g_iconst C 0 d_prog_2_method_7_code_0 rfl ?_
  refine g_istoreN C #[.val (.ref s), .val (.int (0 : Int32))] d_prog_2_method_7_code_1 rfl ?_
  refine g_iloadN C d_prog_2_method_7_code_2 rfl ?_
  refine g_aloadN C d_prog_2_method_7_code_3 rfl rfl ?_
  refine g_virtual C S0.1 w_31 w_32 (fun hZ => nf_sel hw w_34 hZ) w_34 w_33 (by decide) [] (ct_len hEL hw S0 Szc hzc) all0 (by decide) 1 (by decide) rfl pd___I rfl [(.int (0 : Int32))] rfl (Nat.le_of_eq rfl) d_prog_2_method_7_code_4 (by decide) (by decide) ?_
  intro v200 h200 Q200
  obtain ⟨ev200, e200⟩ := Q200
  replace e200 := e200.symm
  subst e200
  replace ev200 : v200 = some (.int (2 : Int32)) := ev200
  subst ev200
  refine g_icmp_f C d_prog_2_method_7_code_7 (XT.ii_ge_f (by decide)) ?_
  refine g_aloadN C d_prog_2_method_7_code_10 rfl rfl ?_
  refine g_iloadN C d_prog_2_method_7_code_11 rfl ?_
  refine g_virtual C S0.1 w_75 w_76 (fun hZ => nf_sel hw w_78 hZ) w_78 w_77 (by decide) [(.int (0 : Int32))] (ct_ch hEL hw S0 Szc hzc Sfm hfm 0 (Nat.le_of_ble_eq_true rfl) (0 : Int32) rfl) all0 (by decide) 0 (by decide) rfl pd__I_C rfl [] rfl (Nat.le_of_eq rfl) d_prog_2_method_7_code_12 (by decide) (by decide) ?_
  intro v201 h201 Q201
  obtain ⟨ev201, e201⟩ := Q201
  replace e201 := e201.symm
  subst e201
  replace ev201 : v201 = some (.int c0) := ev201
  subst ev201
  refine g_bipush C 48 d_prog_2_method_7_code_15 rfl ?_
  by_cases hc202 : c0 = (48 : Int32)
  · refine g_icmp_f C d_prog_2_method_7_code_17 (XT.ii_ne_f hc202) ?_
    refine g_iinc C 1 #[.val (.ref s), .val (.int ((0 : Int32) + (1 : Int32)))] d_prog_2_method_7_code_20 rfl rfl rfl ?_
    rw [show ((0 : Int32) + (1 : Int32)) = (1 : Int32) from by decide]
    refine g_goto C 2 d_prog_2_method_7_code_23 (by decide) (by decide) ?_
    refine g_iloadN C d_prog_2_method_7_code_2 rfl ?_
    refine g_aloadN C d_prog_2_method_7_code_3 rfl rfl ?_
    refine g_virtual C S0.1 w_31 w_32 (fun hZ => nf_sel hw w_34 hZ) w_34 w_33 (by decide) [] (ct_len hEL hw S0 Szc hzc) all0 (by decide) 1 (by decide) rfl pd___I rfl [(.int (1 : Int32))] rfl (Nat.le_of_eq rfl) d_prog_2_method_7_code_4 (by decide) (by decide) ?_
    intro v203 h203 Q203
    obtain ⟨ev203, e203⟩ := Q203
    replace e203 := e203.symm
    subst e203
    replace ev203 : v203 = some (.int (2 : Int32)) := ev203
    subst ev203
    refine g_icmp_f C d_prog_2_method_7_code_7 (XT.ii_ge_f (by decide)) ?_
    refine g_aloadN C d_prog_2_method_7_code_10 rfl rfl ?_
    refine g_iloadN C d_prog_2_method_7_code_11 rfl ?_
    refine g_virtual C S0.1 w_75 w_76 (fun hZ => nf_sel hw w_78 hZ) w_78 w_77 (by decide) [(.int (1 : Int32))] (ct_ch hEL hw S0 Szc hzc Sfm hfm 1 (Nat.le_of_ble_eq_true rfl) (1 : Int32) rfl) all0 (by decide) 0 (by decide) rfl pd__I_C rfl [] rfl (Nat.le_of_eq rfl) d_prog_2_method_7_code_12 (by decide) (by decide) ?_
    intro v204 h204 Q204
    obtain ⟨ev204, e204⟩ := Q204
    replace e204 := e204.symm
    subst e204
    replace ev204 : v204 = some (.int c1) := ev204
    subst ev204
    refine g_bipush C 48 d_prog_2_method_7_code_15 rfl ?_
    by_cases hc205 : c1 = (48 : Int32)
    · refine g_icmp_f C d_prog_2_method_7_code_17 (XT.ii_ne_f hc205) ?_
      refine g_iinc C 1 #[.val (.ref s), .val (.int ((1 : Int32) + (1 : Int32)))] d_prog_2_method_7_code_20 rfl rfl rfl ?_
      rw [show ((1 : Int32) + (1 : Int32)) = (2 : Int32) from by decide]
      refine g_goto C 2 d_prog_2_method_7_code_23 (by decide) (by decide) ?_
      refine g_iloadN C d_prog_2_method_7_code_2 rfl ?_
      refine g_aloadN C d_prog_2_method_7_code_3 rfl rfl ?_
      refine g_virtual C S0.1 w_31 w_32 (fun hZ => nf_sel hw w_34 hZ) w_34 w_33 (by decide) [] (ct_len hEL hw S0 Szc hzc) all0 (by decide) 1 (by decide) rfl pd___I rfl [(.int (2 : Int32))] rfl (Nat.le_of_eq rfl) d_prog_2_method_7_code_4 (by decide) (by decide) ?_
      intro v206 h206 Q206
      obtain ⟨ev206, e206⟩ := Q206
      replace e206 := e206.symm
      subst e206
      replace ev206 : v206 = some (.int (2 : Int32)) := ev206
      subst ev206
      refine g_icmp_t C 26 d_prog_2_method_7_code_7 (XT.ii_ge_t (by decide)) (by decide) (by decide) ?_
      refine g_aloadN C d_prog_2_method_7_code_26 rfl rfl ?_
      refine g_iloadN C d_prog_2_method_7_code_27 rfl ?_
      refine g_virtual C S0.1 w_42 w_43 (fun hZ => nf_sel hw w_45 hZ) w_45 w_44 (by decide) [(.int (2 : Int32))] (ct_of hEL hw w_46 w_8 (rm_s12_2_2 l Z a0 hw hEL s t _ c0 c1 zc fm h0 n0 S0 h_c0 h_c1 Szc hzc Sfm hfm)) all0 (by decide) 0 (by decide) rfl pd__I_Ljava_lang_String_ rfl [] rfl (Nat.le_of_eq rfl) d_prog_2_method_7_code_28 (by decide) (by decide) ?_
      intro v207 h207 Q207
      obtain ⟨a207, t207, kb207, rfl, KC207, S207⟩ := Q207
      refine g_areturn C hEL (t := (.object "java/lang/String")) rfl rfl rfl d_prog_2_method_7_code_31 (by decide) (by decide) ?_
      have K208 : Keep h0 h207 [] := (Keep.refl h0 []).trans KC207 all0
      exact ⟨a207, t207, kb207, rfl, K208, by simpa [dz, hc202, hc205] using S207⟩
    · refine g_icmp_t C 26 d_prog_2_method_7_code_17 (XT.ii_ne_t hc205) (by decide) (by decide) ?_
      refine g_aloadN C d_prog_2_method_7_code_26 rfl rfl ?_
      refine g_iloadN C d_prog_2_method_7_code_27 rfl ?_
      refine g_virtual C S0.1 w_42 w_43 (fun hZ => nf_sel hw w_45 hZ) w_45 w_44 (by decide) [(.int (1 : Int32))] (ct_of hEL hw w_46 w_8 (rm_s12_1_2 l Z a0 hw hEL s t _ c0 c1 zc fm h0 n0 S0 h_c0 h_c1 Szc hzc Sfm hfm)) all0 (by decide) 0 (by decide) rfl pd__I_Ljava_lang_String_ rfl [] rfl (Nat.le_of_eq rfl) d_prog_2_method_7_code_28 (by decide) (by decide) ?_
      intro v209 h209 Q209
      obtain ⟨a209, t209, kb209, rfl, KC209, S209⟩ := Q209
      refine g_areturn C hEL (t := (.object "java/lang/String")) rfl rfl rfl d_prog_2_method_7_code_31 (by decide) (by decide) ?_
      have K210 : Keep h0 h209 [] := (Keep.refl h0 []).trans KC209 all0
      exact ⟨a209, t209, kb209, rfl, K210, by simpa [dz, hc202, hc205] using S209⟩
  · refine g_icmp_t C 26 d_prog_2_method_7_code_17 (XT.ii_ne_t hc202) (by decide) (by decide) ?_
    refine g_aloadN C d_prog_2_method_7_code_26 rfl rfl ?_
    refine g_iloadN C d_prog_2_method_7_code_27 rfl ?_
    refine g_virtual C S0.1 w_42 w_43 (fun hZ => nf_sel hw w_45 hZ) w_45 w_44 (by decide) [(.int (0 : Int32))] (ct_of hEL hw w_46 w_8 (rm_s12_0_2 l Z a0 hw hEL s t _ c0 c1 zc fm h0 n0 S0 h_c0 h_c1 Szc hzc Sfm hfm)) all0 (by decide) 0 (by decide) rfl pd__I_Ljava_lang_String_ rfl [] rfl (Nat.le_of_eq rfl) d_prog_2_method_7_code_28 (by decide) (by decide) ?_
    intro v211 h211 Q211
    obtain ⟨a211, t211, kb211, rfl, KC211, S211⟩ := Q211
    refine g_areturn C hEL (t := (.object "java/lang/String")) rfl rfl rfl d_prog_2_method_7_code_31 (by decide) (by decide) ?_
    have K212 : Keep h0 h211 [] := (Keep.refl h0 []).trans KC211 all0
    exact ⟨a211, t211, kb211, rfl, K212, by simpa [dz, hc202] using S211⟩
set_option maxRecDepth 65536 in
set_option maxHeartbeats 40000000 in
theorem rm_s23_0_3 (l : Launch) (Z : State) (a0 : Array Value) (hw : ∀ d ∈ tables_1, d.before a0 Z = true) (hEL : EW Z a0 consts_1) {ws : List Jvm.Cond} (s t : Addr) (kb : ClassId) (c0 c1 c2 : Int32) (zc : Int32) (fm : Value) (h0 : Heap) (n0 : Nat) (S0 : Str Z h0 s t kb [c0, c1, c2]) (h_c0 : Ch8 c0) (h_c1 : Ch8 c1) (h_c2 : Ch8 c2) (Szc : Sta Z h0 "java/lang/String" "COMPACT_STRINGS" "Z" (.int zc)) (hzc : ¬ (zc = (0 : Int32))) (Sfm : Sta Z h0 "jdk/internal/util/Preconditions" "SIOOBE_FORMATTER" "Ljava/util/function/BiFunction;" fm) (hfm : fm.isRef = true) :
    Met l Z consts_1 (⟨"java/lang/String", "substring", "(II)Ljava/lang/String;"⟩ : MethodName) jdk_42_method_92_code 5 (some (.object "java/lang/String")) ws ({ frames := 4, cells := 2, slots := 16, locals := 72 } : Room) [] #[(.ref s), (.int (0 : Int32)), (.int (3 : Int32))] h0 n0 (nq (fun v h => ∃ a t' k', v = some (.ref a) ∧ Keep h0 h [] ∧ Str Z h a t' k' [c0, c1, c2])) := by
  refine met_of (plainFor_of_name pn_java_lang_String) hw #[.val (.ref s), .val (.int (0 : Int32)), .val (.int (3 : Int32)), .unset, .unset] (fun m => by first | rfl | (simp [entryFrame, mkF, argsToLocals, Value.category]; done)) ?_
  intro p e sT m below meth c C0
  have C : Cx Z a0 tables_1 p sT m meth c "java/lang/String" "substring" jdk_42_method_92_code 5 (some (.object "java/lang/String")) n0 := C0
  refine g_aloadN C d_jdk_42_method_92_code_0 rfl rfl ?_
  refine g_virtual C S0.1 w_47 w_32 (fun hZ => nf_sel hw w_34 hZ) w_34 w_33 (by decide) [] (ct_len hEL hw S0 Szc hzc) all0 (by decide) 0 (by decide) rfl pd___I rfl [] rfl (Nat.le_of_eq rfl) d_jdk_42_method_92_code_1 (by decide) (by decide) ?_
  intro v213 h213 Q213
  obtain ⟨ev213, e213⟩ := Q213
  replace e213 := e213.symm
  subst e213
  replace ev213 : v213 = some (.int (3 : Int32)) := ev213
  subst ev213
  refine g_istoreN C #[.val (.ref s), .val (.int (0 : Int32)), .val (.int (3 : Int32)), .val (.int (3 : Int32)), .unset] d_jdk_42_method_92_code_4 rfl ?_
  refine g_iloadN C d_jdk_42_method_92_code_5 rfl ?_
  refine g_iloadN C d_jdk_42_method_92_code_6 rfl ?_
  refine g_iloadN C d_jdk_42_method_92_code_7 rfl ?_
  refine g_static C w_53 w_54 w_8 w_55 (by decide) [(.int (0 : Int32)), (.int (3 : Int32)), (.int (3 : Int32))] (ct_of hEL hw w_55 w_8 (rm_cbbe l Z a0 hw hEL (0 : Int32) (3 : Int32) (3 : Int32) fm h0 n0 (by decide) (by decide) (by decide) Sfm hfm)) all0 (by decide) 0 (by decide) rfl pd__III_V rfl [] rfl (Nat.le_of_eq rfl) d_jdk_42_method_92_code_8 (by decide) (by decide) ?_
  intro v214 h214 Q214
  obtain ⟨rfl, e214⟩ := Q214
  replace e214 := e214.symm
  subst e214
  refine g_iloadN C d_jdk_42_method_92_code_11 rfl ?_
  refine g_if_f C d_jdk_42_method_92_code_12 (XT.i0_ne_f (by decide)) ?_
  refine g_iloadN C d_jdk_42_method_92_code_15 rfl ?_
  refine g_iloadN C d_jdk_42_method_92_code_16 rfl ?_
  refine g_icmp_f C d_jdk_42_method_92_code_17 (XT.ii_ne_f (by decide)) ?_
  refine g_aloadN C d_jdk_42_method_92_code_20 rfl rfl ?_
  refine g_areturn C hEL (t := (.object "java/lang/String")) rfl rfl rfl d_jdk_42_method_92_code_21 (by decide) (by decide) ?_
  exact ⟨s, _, _, rfl, (Keep.refl h0 []), S0⟩
set_option maxRecDepth 65536 in
set_option maxHeartbeats 40000000 in
theorem rm_s13_0_3 (l : Launch) (Z : State) (a0 : Array Value) (hw : ∀ d ∈ tables_1, d.before a0 Z = true) (hEL : EW Z a0 consts_1) {ws : List Jvm.Cond} (s t : Addr) (kb : ClassId) (c0 c1 c2 : Int32) (zc : Int32) (fm : Value) (h0 : Heap) (n0 : Nat) (S0 : Str Z h0 s t kb [c0, c1, c2]) (h_c0 : Ch8 c0) (h_c1 : Ch8 c1) (h_c2 : Ch8 c2) (Szc : Sta Z h0 "java/lang/String" "COMPACT_STRINGS" "Z" (.int zc)) (hzc : ¬ (zc = (0 : Int32))) (Sfm : Sta Z h0 "jdk/internal/util/Preconditions" "SIOOBE_FORMATTER" "Ljava/util/function/BiFunction;" fm) (hfm : fm.isRef = true) :
    Met l Z consts_1 (⟨"java/lang/String", "substring", "(I)Ljava/lang/String;"⟩ : MethodName) jdk_42_method_91_code 2 (some (.object "java/lang/String")) ws ({ frames := 5, cells := 2, slots := 16, locals := 90 } : Room) [] #[(.ref s), (.int (0 : Int32))] h0 n0 (nq (fun v h => ∃ a t' k', v = some (.ref a) ∧ Keep h0 h [] ∧ Str Z h a t' k' [c0, c1, c2])) := by
  refine met_of (plainFor_of_name pn_java_lang_String) hw #[.val (.ref s), .val (.int (0 : Int32))] (fun m => by first | rfl | (simp [entryFrame, mkF, argsToLocals, Value.category]; done)) ?_
  intro p e sT m below meth c C0
  have C : Cx Z a0 tables_1 p sT m meth c "java/lang/String" "substring" jdk_42_method_91_code 2 (some (.object "java/lang/String")) n0 := C0
  refine g_aloadN C d_jdk_42_method_91_code_0 rfl rfl ?_
  refine g_iloadN C d_jdk_42_method_91_code_1 rfl ?_
  refine g_aloadN C d_jdk_42_method_91_code_2 rfl rfl ?_
  refine g_virtual C S0.1 w_47 w_32 (fun hZ => nf_sel hw w_34 hZ) w_34 w_33 (by decide) [] (ct_len hEL hw S0 Szc hzc) all0 (by decide) 2 (by decide) rfl pd___I rfl [(.int (0 : Int32)), (.ref s)] rfl (Nat.le_of_eq rfl) d_jdk_42_method_91_code_3 (by decide) (by decide) ?_
  intro v215 h215 Q215
  obtain ⟨ev215, e215⟩ := Q215
  replace e215 := e215.symm
  subst e215
  replace ev215 : v215 = some (.int (3 : Int32)) := ev215
  subst ev215
  refine g_virtual C S0.1 w_48 w_49 (fun hZ => nf_sel hw w_51 hZ) w_51 w_50 (by decide) [(.int (0 : Int32)), (.int (3 : Int32))] (ct_of hEL hw w_52 w_8 (rm_s23_0_3 l Z a0 hw hEL s t _ c0 c1 c2 zc fm h0 n0 S0 h_c0 h_c1 h_c2 Szc hzc Sfm hfm)) all0 (by decide) 0 (by decide) rfl pd__II_Ljava_lang_String_ rfl [] rfl (Nat.le_of_eq rfl) d_jdk_42_method_91_code_6 (by decide) (by decide) ?_
  intro v216 h216 Q216
  obtain ⟨a216, t216, kb216, rfl, KC216, S216⟩ := Q216
  refine g_areturn C hEL (t := (.object "java/lang/String")) rfl rfl rfl d_jdk_42_method_91_code_9 (by decide) (by decide) ?_
  have K217 : Keep h0 h216 [] := (Keep.refl h0 []).trans KC216 all0
  exact ⟨a216, _, _, rfl, K217, S216⟩
set_option maxRecDepth 65536 in
set_option maxHeartbeats 40000000 in
theorem rm_cr3_1_3 (l : Launch) (Z : State) (a0 : Array Value) (hw : ∀ d ∈ tables_1, d.before a0 Z = true) (hEL : EW Z a0 consts_1) {ws : List Jvm.Cond} (t : Addr) (kb : ClassId) (c0 c1 c2 : Int32) (h0 : Heap) (n0 : Nat) (Vt : Arv Z h0 t kb .byte (3 : Int32) [(.int (c0.toInt8.toInt32)), (.int (c1.toInt8.toInt32)), (.int (c2.toInt8.toInt32))] (.int (0 : Int32))) :
    Met l Z consts_1 (⟨"java/util/Arrays", "copyOfRangeByte", "([BII)[B"⟩ : MethodName) jdk_65_method_133_code 5 (some (.array .byte)) ws ({ frames := 1, cells := 1, slots := 8, locals := 20 } : Room) [] #[(.ref t), (.int (1 : Int32)), (.int (3 : Int32))] h0 n0 (nq (fun v h => ∃ b k', v = some (.ref b) ∧ Keep h0 h [] ∧ h0.size ≤ b ∧ Arv Z h b k' .byte (2 : Int32) [(.int (c1.toInt8.toInt32)), (.int (c2.toInt8.toInt32))] (.int (0 : Int32)))) := by
  refine met_of (plainFor_of_name pn_java_util_Arrays) hw #[.val (.ref t), .val (.int (1 : Int32)), .val (.int (3 : Int32)), .unset, .unset] (fun m => by first | rfl | (simp [entryFrame, mkF, argsToLocals, Value.category]; done)) ?_
  intro p e s m below meth c C0
  have C : Cx Z a0 tables_1 p s m meth c "java/util/Arrays" "copyOfRangeByte" jdk_65_method_133_code 5 (some (.array .byte)) n0 := C0
  refine g_iloadN C d_jdk_65_method_133_code_0 rfl ?_
  refine g_iloadN C d_jdk_65_method_133_code_1 rfl ?_
  refine g_static C w_108 w_109 w_103 w_110 (by decide) [(.int (1 : Int32)), (.int (3 : Int32))] (ct_of hEL hw w_110 w_103 (rm_cl l Z a0 hw hEL (1 : Int32) (3 : Int32) h0 n0 (by decide))) all0 (by decide) 0 (by decide) rfl pd__II_V rfl [] rfl (Nat.le_of_eq rfl) d_jdk_65_method_133_code_2 (by decide) (by decide) ?_
  intro v218 h218 Q218
  obtain ⟨rfl, e218⟩ := Q218
  replace e218 := e218.symm
  subst e218
  refine g_iloadN C d_jdk_65_method_133_code_5 rfl ?_
  refine g_iloadN C d_jdk_65_method_133_code_6 rfl ?_
  refine g_isub C d_jdk_65_method_133_code_7 ?_
  rw [show ((3 : Int32) - (1 : Int32)) = (2 : Int32) from by decide]
  refine g_istoreN C #[.val (.ref t), .val (.int (1 : Int32)), .val (.int (3 : Int32)), .val (.int (2 : Int32)), .unset] d_jdk_65_method_133_code_8 rfl ?_
  refine g_iloadN C d_jdk_65_method_133_code_9 rfl ?_
  refine g_newarray C (aty := .byte) w_20 d_jdk_65_method_133_code_10 (by decide) 2 (by decide) (by decide) (by decide) (by decide) "[B" rfl ?_
  intro b219 h219 ka219 g219 E219 V219 A219
  replace V219 : Arv Z h219 b219 ka219 .byte (2 : Int32) [(.int (0 : Int32)), (.int (0 : Int32))] (.int (0 : Int32)) := V219.pad (pad_rep [] _ 2)
  refine g_astore C #[.val (.ref t), .val (.int (1 : Int32)), .val (.int (3 : Int32)), .val (.int (2 : Int32)), .val (.ref b219)] d_jdk_65_method_133_code_12 rfl rfl ?_
  refine g_aloadN C d_jdk_65_method_133_code_14 rfl rfl ?_
  refine g_iloadN C d_jdk_65_method_133_code_15 rfl ?_
  refine g_aload C d_jdk_65_method_133_code_16 rfl rfl ?_
  refine g_iconst C 0 d_jdk_65_method_133_code_18 rfl ?_
  refine g_aloadN C d_jdk_65_method_133_code_19 rfl rfl ?_
  have K220 : Keep h0 h219 [] := (Keep.refl h0 []).ext E219
  have V221 := (Vt.keep K220 nin0)
  refine g_arraylength C V221 d_jdk_65_method_133_code_20 ?_
  refine g_iloadN C d_jdk_65_method_133_code_21 rfl ?_
  refine g_isub C d_jdk_65_method_133_code_22 ?_
  rw [show ((3 : Int32) - (1 : Int32)) = (2 : Int32) from by decide]
  refine g_iloadN C d_jdk_65_method_133_code_23 rfl ?_
  refine g_static C w_111 w_112 w_113 w_114 (by decide) [(.int (2 : Int32)), (.int (2 : Int32))] (ct_of hEL hw w_114 w_113 (rm_min l Z a0 hw hEL (2 : Int32) (2 : Int32) h219 n0 )) all0 (by decide) 4 (by decide) rfl pd__II_I rfl [(.int (0 : Int32)), (.ref b219), (.int (1 : Int32)), (.ref t)] rfl (Nat.le_of_eq rfl) d_jdk_65_method_133_code_24 (by decide) (by decide) ?_
  intro v222 h222 Q222
  obtain ⟨ev222, e222⟩ := Q222
  replace e222 := e222.symm
  subst e222
  replace ev222 : v222 = some (.int (2 : Int32)) := ev222.trans (by first | rfl | decide)
  subst ev222
  refine g_arraycopy C w_115 w_118 w_116 w_117 V221 V219 rfl (by decide) (by decide) (by decide) (by decide) (by decide) [(.int (c1.toInt8.toInt32)), (.int (c2.toInt8.toInt32))] rfl (Nat.le_of_ble_eq_true rfl) (List.mem_of_getElem? (i := 0) rfl) rfl d_jdk_65_method_133_code_27 (by decide) 0 (Nat.le_of_eq rfl) (by decide) ?_
  intro h223 KC223 V223
  replace V223 : Arv Z h223 b219 ka219 .byte (2 : Int32) [(.int (c1.toInt8.toInt32)), (.int (c2.toInt8.toInt32))] (.int (0 : Int32)) := V223
  refine g_aload C d_jdk_65_method_133_code_30 rfl rfl ?_
  refine g_areturn C hEL (t := (.array .byte)) rfl rfl rfl d_jdk_65_method_133_code_32 (by decide) (by decide) ?_
  have K224 : Keep h0 h223 [] := K220.trans KC223 (allS (Or.inr (Nat.le_of_eq g219.symm)) all0)
  exact ⟨b219, _, rfl, K224, (Nat.le_of_eq g219.symm), V223⟩
set_option maxRecDepth 65536 in
set_option maxHeartbeats 40000000 in
theorem rm_c03_1_3 (l : Launch) (Z : State) (a0 : Array Value) (hw : ∀ d ∈ tables_1, d.before a0 Z = true) (hEL : EW Z a0 consts_1) {ws : List Jvm.Cond} (t : Addr) (kb : ClassId) (c0 c1 c2 : Int32) (h0 : Heap) (n0 : Nat) (Vt : Arv Z h0 t kb .byte (3 : Int32) [(.int (c0.toInt8.toInt32)), (.int (c1.toInt8.toInt32)), (.int (c2.toInt8.toInt32))] (.int (0 : Int32))) :
    Met l Z consts_1 (⟨"java/util/Arrays", "copyOfRange", "([BII)[B"⟩ : MethodName) jdk_65_method_132_code 3 (some (.array .byte)) ws ({ frames := 2, cells := 1, slots := 8, locals := 36 } : Room) [] #[(.ref t), (.int (1 : Int32)), (.int (3 : Int32))] h0 n0 (nq (fun v h => ∃ b k', v = some (.ref b) ∧ Keep h0 h [] ∧ h0.size ≤ b ∧ Arv Z h b k' .byte (2 : Int32) [(.int (c1.toInt8.toInt32)), (.int (c2.toInt8.toInt32))] (.int (0 : Int32)))) := by
  refine met_of (plainFor_of_name pn_java_util_Arrays) hw #[.val (.ref t), .val (.int (1 : Int32)), .val (.int (3 : Int32))] (fun m => by first | rfl | (simp [entryFrame, mkF, argsToLocals, Value.category]; done)) ?_
  intro p e s m below meth c C0
  have C : Cx Z a0 tables_1 p s m meth c "java/util/Arrays" "copyOfRange" jdk_65_method_132_code 3 (some (.array .byte)) n0 := C0
  refine g_iloadN C d_jdk_65_method_132_code_0 rfl ?_
  refine g_if_t C 10 d_jdk_65_method_132_code_1 (XT.i0_ne_t (by decide)) (by decide) (by decide) ?_
  refine g_aloadN C d_jdk_65_method_132_code_10 rfl rfl ?_
  refine g_iloadN C d_jdk_65_method_132_code_11 rfl ?_
  refine g_iloadN C d_jdk_65_method_132_code_12 rfl ?_
  refine g_static C w_105 w_106 w_103 w_107 (by decide) [(.ref t), (.int (1 : Int32)), (.int (3 : Int32))] (ct_of hEL hw w_107 w_103 (rm_cr3_1_3 l Z a0 hw hEL t _ c0 c1 c2 h0 n0 Vt)) all0 (by decide) 0 (by decide) rfl pd___BII__B rfl [] rfl (Nat.le_of_eq rfl) d_jdk_65_method_132_code_13 (by decide) (by decide) ?_
  intro v225 h225 Q225
  obtain ⟨b225, k225, rfl, KC225, le225, V225⟩ := Q225
  refine g_areturn C hEL (t := (.array .byte)) rfl rfl rfl d_jdk_65_method_132_code_16 (by decide) (by decide) ?_
  have K226 : Keep h0 h225 [] := (Keep.refl h0 []).trans KC225 all0
  exact ⟨b225, _, rfl, K226, le225, V225⟩
set_option maxRecDepth 65536 in
set_option maxHeartbeats 40000000 in
theorem rm_ns3_1_3 (l : Launch) (Z : State) (a0 : Array Value) (hw : ∀ d ∈ tables_1, d.before a0 Z = true) (hEL : EW Z a0 consts_1) {ws : List Jvm.Cond} (t : Addr) (kb : ClassId) (c0 c1 c2 : Int32) (h0 : Heap) (n0 : Nat) (Vt : Arv Z h0 t kb .byte (3 : Int32) [(.int (c0.toInt8.toInt32)), (.int (c1.toInt8.toInt32)), (.int (c2.toInt8.toInt32))] (.int (0 : Int32))) (h_c0 : Ch8 c0) (h_c1 : Ch8 c1) (h_c2 : Ch8 c2) :
    Met l Z consts_1 (⟨"java/lang/StringLatin1", "newString", "([BII)Ljava/lang/String;"⟩ : MethodName) jdk_43_method_47_code 3 (some (.object "java/lang/String")) ws ({ frames := 3, cells := 2, slots := 16, locals := 56 } : Room) [] #[(.ref t), (.int (1 : Int32)), (.int (2 : Int32))] h0 n0 (nq (fun v h => ∃ a t' k', v = some (.ref a) ∧ Keep h0 h [] ∧ Str Z h a t' k' [c1, c2])) := by
  refine met_of (plainFor_of_name pn_java_lang_StringLatin1) hw #[.val (.ref t), .val (.int (1 : Int32)), .val (.int (2 : Int32))] (fun m => by first | rfl | (simp [entryFrame, mkF, argsToLocals, Value.category]; done)) ?_
  intro p e s m below meth c C0
  have C : Cx Z a0 tables_1 p s m meth c "java/lang/StringLatin1" "newString" jdk_43_method_47_code 3 (some (.object "java/lang/String")) n0 := C0
  refine g_iloadN C d_jdk_43_method_47_code_0 rfl ?_
  refine g_if_t C 7 d_jdk_43_method_47_code_1 (XT.i0_ne_t (by decide)) (by decide) (by decide) ?_
  refine g_new C w_100 w_7 w_8 d_jdk_43_method_47_code_7 (by decide) (by decide) ?_
  intro b227 h227 g227 E227 A227 D227
  refine g_dup C d_jdk_43_method_47_code_10 rfl ?_
  refine g_aloadN C d_jdk_43_method_47_code_11 rfl rfl ?_
  refine g_iloadN C d_jdk_43_method_47_code_12 rfl ?_
  refine g_iloadN C d_jdk_43_method_47_code_13 rfl ?_
  refine g_iloadN C d_jdk_43_method_47_code_14 rfl ?_
  refine g_iadd C d_jdk_43_method_47_code_15 ?_
  rw [show ((1 : Int32) + (2 : Int32)) = (3 : Int32) from by decide]
  have K228 : Keep h0 h227 [] := (Keep.refl h0 []).ext E227
  have V229 := (Vt.keep K228 nin0)
  refine g_static C w_101 w_102 w_103 w_104 (by decide) [(.ref t), (.int (1 : Int32)), (.int (3 : Int32))] (ct_of hEL hw w_104 w_103 (rm_c03_1_3 l Z a0 hw hEL t _ c0 c1 c2 h227 n0 V229)) all0 (by decide) 2 (by decide) rfl pd___BII__B rfl [(.ref b227), (.ref b227)] rfl (Nat.le_of_eq rfl) d_jdk_43_method_47_code_16 (by decide) (by decide) ?_
  intro v230 h230 Q230
  obtain ⟨b230, k230, rfl, KC230, le230, V230⟩ := Q230
  refine g_iconst C 0 d_jdk_43_method_47_code_19 rfl ?_
  have K231 : Keep h227 h230 [] := (Keep.refl h227 []).trans KC230 all0
  have E232 := (A227.keep K231)
  have F233 := ((D227 (Or.inr (C.hw w_21)) (ty := (.array .byte)) (by decide)).keep K231 nin0)
  have F234 := ((D227 (Or.inr (C.hw w_22)) (ty := .byte) (by decide)).keep K231 nin0)
  refine g_special C (a := b227) w_119 w_120 w_121 rfl (by decide) [(.ref b230), (.int (0 : Int32))] (ct_of hEL hw w_121 w_8 (rm_sbb l Z a0 hw hEL b227 b230 h230 n0 E232 F233 F234)) (allS (List.mem_of_getElem? (i := 0) rfl) all0) (by decide) 1 (by decide) rfl pd___BB_V rfl [(.ref b227)] rfl (Nat.le_of_eq rfl) d_jdk_43_method_47_code_20 (by decide) (by decide) ?_
  intro v235 h235 Q235
  obtain ⟨rfl, KC235, X235, G1235, G2235⟩ := Q235
  refine g_areturn C hEL (t := (.object "java/lang/String")) rfl rfl rfl d_jdk_43_method_47_code_23 (by decide) (by decide) ?_
  have K236 : Keep h0 h230 [] := K228.trans KC230 all0
  have K237 : Keep h0 h235 [] := K236.trans KC235 (allS (Or.inr (Nat.le_of_eq g227.symm)) all0)
  have V238 := (V230.keep KC235 (ninS (Ne.symm (Nat.ne_of_lt (Nat.lt_of_lt_of_le A227.lt le230))) nin0))
  exact ⟨b227, b230, _, rfl, K237, X235, G1235, G2235, V238, Nat.le_of_ble_eq_true rfl, (own_allc h_c1 (own_allc h_c2 (fun _ q => nomatch q)))⟩
set_option maxRecDepth 65536 in
set_option maxHeartbeats 40000000 in
theorem rm_s23_1_3 (l : Launch) (Z : State) (a0 : Array Value) (hw : ∀ d ∈ tables_1, d.before a0 Z = true) (hEL : EW Z a0 consts_1) {ws : List Jvm.Cond} (s t : Addr) (kb : ClassId) (c0 c1 c2 : Int32) (zc : Int32) (fm : Value) (h0 : Heap) (n0 : Nat) (S0 : Str Z h0 s t kb [c0, c1, c2]) (h_c0 : Ch8 c0) (h_c1 : Ch8 c1) (h_c2 : Ch8 c2) (Szc : Sta Z h0 "java/lang/String" "COMPACT_STRINGS" "Z" (.int zc)) (hzc : ¬ (zc = (0 : Int32))) (Sfm : Sta Z h0 "jdk/internal/util/Preconditions" "SIOOBE_FORMATTER" "Ljava/util/function/BiFunction;" fm) (hfm : fm.isRef = true) :
    Met l Z consts_1 (⟨"java/lang/String", "substring", "(II)Ljava/lang/String;"⟩ : MethodName) jdk_42_method_92_code 5 (some (.object "java/lang/String")) ws ({ frames := 4, cells := 2, slots := 16, locals := 72 } : Room) [] #[(.ref s), (.int (1 : Int32)), (.int (3 : Int32))] h0 n0 (nq (fun v h => ∃ a t' k', v = some (.ref a) ∧ Keep h0 h [] ∧ Str Z h a t' k' [c1, c2])) := by
  refine met_of (plainFor_of_name pn_java_lang_String) hw #[.val (.ref s), .val (.int (1 : Int32)), .val (.int (3 : Int32)), .unset, .unset] (fun m => by first | rfl | (simp [entryFrame, mkF, argsToLocals, Value.category]; done)) ?_
  intro p e sT m below meth c C0
  have C : Cx Z a0 tables_1 p sT m meth c "java/lang/String" "substring" jdk_42_method_92_code 5 (some (.object "java/lang/String")) n0 := C0
  refine g_aloadN C d_jdk_42_method_92_code_0 rfl rfl ?_
  refine g_virtual C S0.1 w_47 w_32 (fun hZ => nf_sel hw w_34 hZ) w_34 w_33 (by decide) [] (ct_len hEL hw S0 Szc hzc) all0 (by decide) 0 (by decide) rfl pd___I rfl [] rfl (Nat.le_of_eq rfl) d_jdk_42_method_92_code_1 (by decide) (by decide) ?_
  intro v239 h239 Q239
  obtain ⟨ev239, e239⟩ := Q239
  replace e239 := e239.symm
  subst e239
  replace ev239 : v239 = some (.int (3 : Int32)) := ev239
  subst ev239
  refine g_istoreN C #[.val (.ref s), .val (.int (1 : Int32)), .val (.int (3 : Int32)), .val (.int (3 : Int32)), .unset] d_jdk_42_method_92_code_4 rfl ?_
  refine g_iloadN C d_jdk_42_method_92_code_5 rfl ?_
  refine g_iloadN C d_jdk_42_method_92_code_6 rfl ?_
  refine g_iloadN C d_jdk_42_method_92_code_7 rfl ?_
  refine g_static C w_53 w_54 w_8 w_55 (by decide) [(.int (1 : Int32)), (.int (3 : Int32)), (.int (3 : Int32))] (ct_of hEL hw w_55 w_8 (rm_cbbe l Z a0 hw hEL (1 : Int32) (3 : Int32) (3 : Int32) fm h0 n0 (by decide) (by decide) (by decide) Sfm hfm)) all0 (by decide) 0 (by decide) rfl pd__III_V rfl [] rfl (Nat.le_of_eq rfl) d_jdk_42_method_92_code_8 (by decide) (by decide) ?_
  intro v240 h240 Q240
  obtain ⟨rfl, e240⟩ := Q240
  replace e240 := e240.symm
  subst e240
  refine g_iloadN C d_jdk_42_method_92_code_11 rfl ?_
  refine g_if_t C 22 d_jdk_42_method_92_code_12 (XT.i0_ne_t (by decide)) (by decide) (by decide) ?_
  refine g_iloadN C d_jdk_42_method_92_code_22 rfl ?_
  refine g_iloadN C d_jdk_42_method_92_code_23 rfl ?_
  refine g_isub C d_jdk_42_method_92_code_24 ?_
  rw [show ((3 : Int32) - (1 : Int32)) = (2 : Int32) from by decide]
  refine g_istore C #[.val (.ref s), .val (.int (1 : Int32)), .val (.int (3 : Int32)), .val (.int (3 : Int32)), .val (.int (2 : Int32))] d_jdk_42_method_92_code_25 rfl ?_
  refine g_aloadN C d_jdk_42_method_92_code_27 rfl rfl ?_
  refine g_virtual C S0.1 w_80 w_81 (fun hZ => nf_sel hw w_83 hZ) w_83 w_82 (by decide) [] (ct_of hEL hw w_84 w_8 (rm_lat l Z a0 hw hEL s zc h0 n0 S0.2.1 Szc hzc)) all0 (by decide) 0 (by decide) rfl pd___Z rfl [] rfl (Nat.le_of_eq rfl) d_jdk_42_method_92_code_28 (by decide) (by decide) ?_
  intro v241 h241 Q241
  obtain ⟨rfl, e241⟩ := Q241
  replace e241 := e241.symm
  subst e241
  refine g_if_f C d_jdk_42_method_92_code_31 (XT.i0_eq_f (by decide)) ?_
  refine g_aloadN C d_jdk_42_method_92_code_34 rfl rfl ?_
  refine g_getfield C w_25 Via.refl S0.2.2.1 d_jdk_42_method_92_code_35 ?_
  refine g_iloadN C d_jdk_42_method_92_code_38 rfl ?_
  refine g_iload C d_jdk_42_method_92_code_39 rfl ?_
  refine g_static C w_96 w_97 w_87 w_98 (by decide) [(.ref t), (.int (1 : Int32)), (.int (2 : Int32))] (ct_of hEL hw w_98 w_87 (rm_ns3_1_3 l Z a0 hw hEL t _ c0 c1 c2 h0 n0 S0.2.2.2.1 h_c0 h_c1 h_c2)) all0 (by decide) 0 (by decide) rfl pd___BII_Ljava_lang_String_ rfl [] rfl (Nat.le_of_eq rfl) d_jdk_42_method_92_code_41 (by decide) (by decide) ?_
  intro v242 h242 Q242
  obtain ⟨a242, t242, kb242, rfl, KC242, S242⟩ := Q242
  refine g_goto C 57 d_jdk_42_method_92_code_44 (by decide) (by decide) ?_
  refine g_areturn C hEL (t := (.object "java/lang/String")) rfl rfl rfl d_jdk_42_method_92_code_57 (by decide) (by decide) ?_
  have K243 : Keep h0 h242 [] := (Keep.refl h0 []).trans KC242 all0
  exact ⟨a242, _, _, rfl, K243, S242⟩
set_option maxRecDepth 65536 in
set_option maxHeartbeats 40000000 in
theorem rm_s13_1_3 (l : Launch) (Z : State) (a0 : Array Value) (hw : ∀ d ∈ tables_1, d.before a0 Z = true) (hEL : EW Z a0 consts_1) {ws : List Jvm.Cond} (s t : Addr) (kb : ClassId) (c0 c1 c2 : Int32) (zc : Int32) (fm : Value) (h0 : Heap) (n0 : Nat) (S0 : Str Z h0 s t kb [c0, c1, c2]) (h_c0 : Ch8 c0) (h_c1 : Ch8 c1) (h_c2 : Ch8 c2) (Szc : Sta Z h0 "java/lang/String" "COMPACT_STRINGS" "Z" (.int zc)) (hzc : ¬ (zc = (0 : Int32))) (Sfm : Sta Z h0 "jdk/internal/util/Preconditions" "SIOOBE_FORMATTER" "Ljava/util/function/BiFunction;" fm) (hfm : fm.isRef = true) :
    Met l Z consts_1 (⟨"java/lang/String", "substring", "(I)Ljava/lang/String;"⟩ : MethodName) jdk_42_method_91_code 2 (some (.object "java/lang/String")) ws ({ frames := 5, cells := 2, slots := 16, locals := 90 } : Room) [] #[(.ref s), (.int (1 : Int32))] h0 n0 (nq (fun v h => ∃ a t' k', v = some (.ref a) ∧ Keep h0 h [] ∧ Str Z h a t' k' [c1, c2])) := by
  refine met_of (plainFor_of_name pn_java_lang_String) hw #[.val (.ref s), .val (.int (1 : Int32))] (fun m => by first | rfl | (simp [entryFrame, mkF, argsToLocals, Value.category]; done)) ?_
  intro p e sT m below meth c C0
  have C : Cx Z a0 tables_1 p sT m meth c "java/lang/String" "substring" jdk_42_method_91_code 2 (some (.object "java/lang/String")) n0 := C0
  refine g_aloadN C d_jdk_42_method_91_code_0 rfl rfl ?_
  refine g_iloadN C d_jdk_42_method_91_code_1 rfl ?_
  refine g_aloadN C d_jdk_42_method_91_code_2 rfl rfl ?_
  refine g_virtual C S0.1 w_47 w_32 (fun hZ => nf_sel hw w_34 hZ) w_34 w_33 (by decide) [] (ct_len hEL hw S0 Szc hzc) all0 (by decide) 2 (by decide) rfl pd___I rfl [(.int (1 : Int32)), (.ref s)] rfl (Nat.le_of_eq rfl) d_jdk_42_method_91_code_3 (by decide) (by decide) ?_
  intro v244 h244 Q244
  obtain ⟨ev244, e244⟩ := Q244
  replace e244 := e244.symm
  subst e244
  replace ev244 : v244 = some (.int (3 : Int32)) := ev244
  subst ev244
  refine g_virtual C S0.1 w_48 w_49 (fun hZ => nf_sel hw w_51 hZ) w_51 w_50 (by decide) [(.int (1 : Int32)), (.int (3 : Int32))] (ct_of hEL hw w_52 w_8 (rm_s23_1_3 l Z a0 hw hEL s t _ c0 c1 c2 zc fm h0 n0 S0 h_c0 h_c1 h_c2 Szc hzc Sfm hfm)) all0 (by decide) 0 (by decide) rfl pd__II_Ljava_lang_String_ rfl [] rfl (Nat.le_of_eq rfl) d_jdk_42_method_91_code_6 (by decide) (by decide) ?_
  intro v245 h245 Q245
  obtain ⟨a245, t245, kb245, rfl, KC245, S245⟩ := Q245
  refine g_areturn C hEL (t := (.object "java/lang/String")) rfl rfl rfl d_jdk_42_method_91_code_9 (by decide) (by decide) ?_
  have K246 : Keep h0 h245 [] := (Keep.refl h0 []).trans KC245 all0
  exact ⟨a245, _, _, rfl, K246, S245⟩
set_option maxRecDepth 65536 in
set_option maxHeartbeats 40000000 in
theorem rm_cr3_2_3 (l : Launch) (Z : State) (a0 : Array Value) (hw : ∀ d ∈ tables_1, d.before a0 Z = true) (hEL : EW Z a0 consts_1) {ws : List Jvm.Cond} (t : Addr) (kb : ClassId) (c0 c1 c2 : Int32) (h0 : Heap) (n0 : Nat) (Vt : Arv Z h0 t kb .byte (3 : Int32) [(.int (c0.toInt8.toInt32)), (.int (c1.toInt8.toInt32)), (.int (c2.toInt8.toInt32))] (.int (0 : Int32))) :
    Met l Z consts_1 (⟨"java/util/Arrays", "copyOfRangeByte", "([BII)[B"⟩ : MethodName) jdk_65_method_133_code 5 (some (.array .byte)) ws ({ frames := 1, cells := 1, slots := 8, locals := 20 } : Room) [] #[(.ref t), (.int (2 : Int32)), (.int (3 : Int32))] h0 n0 (nq (fun v h => ∃ b k', v = some (.ref b) ∧ Keep h0 h [] ∧ h0.size ≤ b ∧ Arv Z h b k' .byte (1 : Int32) [(.int (c2.toInt8.toInt32))] (.int (0 : Int32)))) := by
  refine met_of (plainFor_of_name pn_java_util_Arrays) hw #[.val (.ref t), .val (.int (2 : Int32)), .val (.int (3 : Int32)), .unset, .unset] (fun m => by first | rfl | (simp [entryFrame, mkF, argsToLocals, Value.category]; done)) ?_
  intro p e s m below meth c C0
  have C : Cx Z a0 tables_1 p s m meth c "java/util/Arrays" "copyOfRangeByte" jdk_65_method_133_code 5 (some (.array .byte)) n0 := C0
  refine g_iloadN C d_jdk_65_method_133_code_0 rfl ?_
  refine g_iloadN C d_jdk_65_method_133_code_1 rfl ?_
  refine g_static C w_108 w_109 w_103 w_110 (by decide) [(.int (2 : Int32)), (.int (3 : Int32))] (ct_of hEL hw w_110 w_103 (rm_cl l Z a0 hw hEL (2 : Int32) (3 : Int32) h0 n0 (by decide))) all0 (by decide) 0 (by decide) rfl pd__II_V rfl [] rfl (Nat.le_of_eq rfl) d_jdk_65_method_133_code_2 (by decide) (by decide) ?_
  intro v247 h247 Q247
  obtain ⟨rfl, e247⟩ := Q247
  replace e247 := e247.symm
  subst e247
  refine g_iloadN C d_jdk_65_method_133_code_5 rfl ?_
  refine g_iloadN C d_jdk_65_method_133_code_6 rfl ?_
  refine g_isub C d_jdk_65_method_133_code_7 ?_
  rw [show ((3 : Int32) - (2 : Int32)) = (1 : Int32) from by decide]
  refine g_istoreN C #[.val (.ref t), .val (.int (2 : Int32)), .val (.int (3 : Int32)), .val (.int (1 : Int32)), .unset] d_jdk_65_method_133_code_8 rfl ?_
  refine g_iloadN C d_jdk_65_method_133_code_9 rfl ?_
  refine g_newarray C (aty := .byte) w_20 d_jdk_65_method_133_code_10 (by decide) 1 (by decide) (by decide) (by decide) (by decide) "[B" rfl ?_
  intro b248 h248 ka248 g248 E248 V248 A248
  replace V248 : Arv Z h248 b248 ka248 .byte (1 : Int32) [(.int (0 : Int32))] (.int (0 : Int32)) := V248.pad (pad_rep [] _ 1)
  refine g_astore C #[.val (.ref t), .val (.int (2 : Int32)), .val (.int (3 : Int32)), .val (.int (1 : Int32)), .val (.ref b248)] d_jdk_65_method_133_code_12 rfl rfl ?_
  refine g_aloadN C d_jdk_65_method_133_code_14 rfl rfl ?_
  refine g_iloadN C d_jdk_65_method_133_code_15 rfl ?_
  refine g_aload C d_jdk_65_method_133_code_16 rfl rfl ?_
  refine g_iconst C 0 d_jdk_65_method_133_code_18 rfl ?_
  refine g_aloadN C d_jdk_65_method_133_code_19 rfl rfl ?_
  have K249 : Keep h0 h248 [] := (Keep.refl h0 []).ext E248
  have V250 := (Vt.keep K249 nin0)
  refine g_arraylength C V250 d_jdk_65_method_133_code_20 ?_
  refine g_iloadN C d_jdk_65_method_133_code_21 rfl ?_
  refine g_isub C d_jdk_65_method_133_code_22 ?_
  rw [show ((3 : Int32) - (2 : Int32)) = (1 : Int32) from by decide]
  refine g_iloadN C d_jdk_65_method_133_code_23 rfl ?_
  refine g_static C w_111 w_112 w_113 w_114 (by decide) [(.int (1 : Int32)), (.int (1 : Int32))] (ct_of hEL hw w_114 w_113 (rm_min l Z a0 hw hEL (1 : Int32) (1 : Int32) h248 n0 )) all0 (by decide) 4 (by decide) rfl pd__II_I rfl [(.int (0 : Int32)), (.ref b248), (.int (2 : Int32)), (.ref t)] rfl (Nat.le_of_eq rfl) d_jdk_65_method_133_code_24 (by decide) (by decide) ?_
  intro v251 h251 Q251
  obtain ⟨ev251, e251⟩ := Q251
  replace e251 := e251.symm
  subst e251
  replace ev251 : v251 = some (.int (1 : Int32)) := ev251.trans (by first | rfl | decide)
  subst ev251
  refine g_arraycopy C w_115 w_118 w_116 w_117 V250 V248 rfl (by decide) (by decide) (by decide) (by decide) (by decide) [(.int (c2.toInt8.toInt32))] rfl (Nat.le_of_ble_eq_true rfl) (List.mem_of_getElem? (i := 0) rfl) rfl d_jdk_65_method_133_code_27 (by decide) 0 (Nat.le_of_eq rfl) (by decide) ?_
  intro h252 KC252 V252
  replace V252 : Arv Z h252 b248 ka248 .byte (1 : Int32) [(.int (c2.toInt8.toInt32))] (.int (0 : Int32)) := V252
  refine g_aload C d_jdk_65_method_133_code_30 rfl rfl ?_
  refine g_areturn C hEL (t := (.array .byte)) rfl rfl rfl d_jdk_65_method_133_code_32 (by decide) (by decide) ?_
  have K253 : Keep h0 h252 [] := K249.trans KC252 (allS (Or.inr (Nat.le_of_eq g248.symm)) all0)
  exact ⟨b248, _, rfl, K253, (Nat.le_of_eq g248.symm), V252⟩
set_option maxRecDepth 65536 in
set_option maxHeartbeats 40000000 in
theorem rm_c03_2_3 (l : Launch) (Z : State) (a0 : Array Value) (hw : ∀ d ∈ tables_1, d.before a0 Z = true) (hEL : EW Z a0 consts_1) {ws : List Jvm.Cond} (t : Addr) (kb : ClassId) (c0 c1 c2 : Int32) (h0 : Heap) (n0 : Nat) (Vt : Arv Z h0 t kb .byte (3 : Int32) [(.int (c0.toInt8.toInt32)), (.int (c1.toInt8.toInt32)), (.int (c2.toInt8.toInt32))] (.int (0 : Int32))) :
    Met l Z consts_1 (⟨"java/util/Arrays", "copyOfRange", "([BII)[B"⟩ : MethodName) jdk_65_method_132_code 3 (some (.array .byte)) ws ({ frames := 2, cells := 1, slots := 8, locals := 36 } : Room) [] #[(.ref t), (.int (2 : Int32)), (.int (3 : Int32))] h0 n0 (nq (fun v h => ∃ b k', v = some (.ref b) ∧ Keep h0 h [] ∧ h0.size ≤ b ∧ Arv Z h b k' .byte (1 : Int32) [(.int (c2.toInt8.toInt32))] (.int (0 : Int32)))) := by
  refine met_of (plainFor_of_name pn_java_util_Arrays) hw #[.val (.ref t), .val (.int (2 : Int32)), .val (.int (3 : Int32))] (fun m => by first | rfl | (simp [entryFrame, mkF, argsToLocals, Value.category]; done)) ?_
  intro p e s m below meth c C0
  have C : Cx Z a0 tables_1 p s m meth c "java/util/Arrays" "copyOfRange" jdk_65_method_132_code 3 (some (.array .byte)) n0 := C0
  refine g_iloadN C d_jdk_65_method_132_code_0 rfl ?_
  refine g_if_t C 10 d_jdk_65_method_132_code_1 (XT.i0_ne_t (by decide)) (by decide) (by decide) ?_
  refine g_aloadN C d_jdk_65_method_132_code_10 rfl rfl ?_
  refine g_iloadN C d_jdk_65_method_132_code_11 rfl ?_
  refine g_iloadN C d_jdk_65_method_132_code_12 rfl ?_
  refine g_static C w_105 w_106 w_103 w_107 (by decide) [(.ref t), (.int (2 : Int32)), (.int (3 : Int32))] (ct_of hEL hw w_107 w_103 (rm_cr3_2_3 l Z a0 hw hEL t _ c0 c1 c2 h0 n0 Vt)) all0 (by decide) 0 (by decide) rfl pd___BII__B rfl [] rfl (Nat.le_of_eq rfl) d_jdk_65_method_132_code_13 (by decide) (by decide) ?_
  intro v254 h254 Q254
  obtain ⟨b254, k254, rfl, KC254, le254, V254⟩ := Q254
  refine g_areturn C hEL (t := (.array .byte)) rfl rfl rfl d_jdk_65_method_132_code_16 (by decide) (by decide) ?_
  have K255 : Keep h0 h254 [] := (Keep.refl h0 []).trans KC254 all0
  exact ⟨b254, _, rfl, K255, le254, V254⟩
set_option maxRecDepth 65536 in
set_option maxHeartbeats 40000000 in
theorem rm_ns3_2_3 (l : Launch) (Z : State) (a0 : Array Value) (hw : ∀ d ∈ tables_1, d.before a0 Z = true) (hEL : EW Z a0 consts_1) {ws : List Jvm.Cond} (t : Addr) (kb : ClassId) (c0 c1 c2 : Int32) (h0 : Heap) (n0 : Nat) (Vt : Arv Z h0 t kb .byte (3 : Int32) [(.int (c0.toInt8.toInt32)), (.int (c1.toInt8.toInt32)), (.int (c2.toInt8.toInt32))] (.int (0 : Int32))) (h_c0 : Ch8 c0) (h_c1 : Ch8 c1) (h_c2 : Ch8 c2) :
    Met l Z consts_1 (⟨"java/lang/StringLatin1", "newString", "([BII)Ljava/lang/String;"⟩ : MethodName) jdk_43_method_47_code 3 (some (.object "java/lang/String")) ws ({ frames := 3, cells := 2, slots := 16, locals := 56 } : Room) [] #[(.ref t), (.int (2 : Int32)), (.int (1 : Int32))] h0 n0 (nq (fun v h => ∃ a t' k', v = some (.ref a) ∧ Keep h0 h [] ∧ Str Z h a t' k' [c2])) := by
  refine met_of (plainFor_of_name pn_java_lang_StringLatin1) hw #[.val (.ref t), .val (.int (2 : Int32)), .val (.int (1 : Int32))] (fun m => by first | rfl | (simp [entryFrame, mkF, argsToLocals, Value.category]; done)) ?_
  intro p e s m below meth c C0
  have C : Cx Z a0 tables_1 p s m meth c "java/lang/StringLatin1" "newString" jdk_43_method_47_code 3 (some (.object "java/lang/String")) n0 := C0
  refine g_iloadN C d_jdk_43_method_47_code_0 rfl ?_
  refine g_if_t C 7 d_jdk_43_method_47_code_1 (XT.i0_ne_t (by decide)) (by decide) (by decide) ?_
  refine g_new C w_100 w_7 w_8 d_jdk_43_method_47_code_7 (by decide) (by decide) ?_
  intro b256 h256 g256 E256 A256 D256
  refine g_dup C d_jdk_43_method_47_code_10 rfl ?_
  refine g_aloadN C d_jdk_43_method_47_code_11 rfl rfl ?_
  refine g_iloadN C d_jdk_43_method_47_code_12 rfl ?_
  refine g_iloadN C d_jdk_43_method_47_code_13 rfl ?_
  refine g_iloadN C d_jdk_43_method_47_code_14 rfl ?_
  refine g_iadd C d_jdk_43_method_47_code_15 ?_
  rw [show ((2 : Int32) + (1 : Int32)) = (3 : Int32) from by decide]
  have K257 : Keep h0 h256 [] := (Keep.refl h0 []).ext E256
  have V258 := (Vt.keep K257 nin0)
  refine g_static C w_101 w_102 w_103 w_104 (by decide) [(.ref t), (.int (2 : Int32)), (.int (3 : Int32))] (ct_of hEL hw w_104 w_103 (rm_c03_2_3 l Z a0 hw hEL t _ c0 c1 c2 h256 n0 V258)) all0 (by decide) 2 (by decide) rfl pd___BII__B rfl [(.ref b256), (.ref b256)] rfl (Nat.le_of_eq rfl) d_jdk_43_method_47_code_16 (by decide) (by decide) ?_
  intro v259 h259 Q259
  obtain ⟨b259, k259, rfl, KC259, le259, V259⟩ := Q259
  refine g_iconst C 0 d_jdk_43_method_47_code_19 rfl ?_
  have K260 : Keep h256 h259 [] := (Keep.refl h256 []).trans KC259 all0
  have E261 := (A256.keep K260)
  have F262 := ((D256 (Or.inr (C.hw w_21)) (ty := (.array .byte)) (by decide)).keep K260 nin0)
  have F263 := ((D256 (Or.inr (C.hw w_22)) (ty := .byte) (by decide)).keep K260 nin0)
  refine g_special C (a := b256) w_119 w_120 w_121 rfl (by decide) [(.ref b259), (.int (0 : Int32))] (ct_of hEL hw w_121 w_8 (rm_sbb l Z a0 hw hEL b256 b259 h259 n0 E261 F262 F263)) (allS (List.mem_of_getElem? (i := 0) rfl) all0) (by decide) 1 (by decide) rfl pd___BB_V rfl [(.ref b256)] rfl (Nat.le_of_eq rfl) d_jdk_43_method_47_code_20 (by decide) (by decide) ?_
  intro v264 h264 Q264
  obtain ⟨rfl, KC264, X264, G1264, G2264⟩ := Q264
  refine g_areturn C hEL (t := (.object "java/lang/String")) rfl rfl rfl d_jdk_43_method_47_code_23 (by decide) (by decide) ?_
  have K265 : Keep h0 h259 [] := K257.trans KC259 all0
  have K266 : Keep h0 h264 [] := K265.trans KC264 (allS (Or.inr (Nat.le_of_eq g256.symm)) all0)
  have V267 := (V259.keep KC264 (ninS (Ne.symm (Nat.ne_of_lt (Nat.lt_of_lt_of_le A256.lt le259))) nin0))
  exact ⟨b256, b259, _, rfl, K266, X264, G1264, G2264, V267, Nat.le_of_ble_eq_true rfl, (own_allc h_c2 (fun _ q => nomatch q))⟩
set_option maxRecDepth 65536 in
set_option maxHeartbeats 40000000 in
theorem rm_s23_2_3 (l : Launch) (Z : State) (a0 : Array Value) (hw : ∀ d ∈ tables_1, d.before a0 Z = true) (hEL : EW Z a0 consts_1) {ws : List Jvm.Cond} (s t : Addr) (kb : ClassId) (c0 c1 c2 : Int32) (zc : Int32) (fm : Value) (h0 : Heap) (n0 : Nat) (S0 : Str Z h0 s t kb [c0, c1, c2]) (h_c0 : Ch8 c0) (h_c1 : Ch8 c1) (h_c2 : Ch8 c2) (Szc : Sta Z h0 "java/lang/String" "COMPACT_STRINGS" "Z" (.int zc)) (hzc : ¬ (zc = (0 : Int32))) (Sfm : Sta Z h0 "jdk/internal/util/Preconditions" "SIOOBE_FORMATTER" "Ljava/util/function/BiFunction;" fm) (hfm : fm.isRef = true) :
    Met l Z consts_1 (⟨"java/lang/String", "substring", "(II)Ljava/lang/String;"⟩ : MethodName) jdk_42_method_92_code 5 (some (.object "java/lang/String")) ws ({ frames := 4, cells := 2, slots := 16, locals := 72 } : Room) [] #[(.ref s), (.int (2 : Int32)), (.int (3 : Int32))] h0 n0 (nq (fun v h => ∃ a t' k', v = some (.ref a) ∧ Keep h0 h [] ∧ Str Z h a t' k' [c2])) := by
  refine met_of (plainFor_of_name pn_java_lang_String) hw #[.val (.ref s), .val (.int (2 : Int32)), .val (.int (3 : Int32)), .unset, .unset] (fun m => by first | rfl | (simp [entryFrame, mkF, argsToLocals, Value.category]; done)) ?_
  intro p e sT m below meth c C0
  have C : Cx Z a0 tables_1 p sT m meth c "java/lang/String" "substring" jdk_42_method_92_code 5 (some (.object "java/lang/String")) n0 := C0
  refine g_aloadN C d_jdk_42_method_92_code_0 rfl rfl ?_
  refine g_virtual C S0.1 w_47 w_32 (fun hZ => nf_sel hw w_34 hZ) w_34 w_33 (by decide) [] (ct_len hEL hw S0 Szc hzc) all0 (by decide) 0 (by decide) rfl pd___I rfl [] rfl (Nat.le_of_eq rfl) d_jdk_42_method_92_code_1 (by decide) (by decide) ?_
  intro v268 h268 Q268
  obtain ⟨ev268, e268⟩ := Q268
  replace e268 := e268.symm
  subst e268
  replace ev268 : v268 = some (.int (3 : Int32)) := ev268
  subst ev268
  refine g_istoreN C #[.val (.ref s), .val (.int (2 : Int32)), .val (.int (3 : Int32)), .val (.int (3 : Int32)), .unset] d_jdk_42_method_92_code_4 rfl ?_
  refine g_iloadN C d_jdk_42_method_92_code_5 rfl ?_
  refine g_iloadN C d_jdk_42_method_92_code_6 rfl ?_
  refine g_iloadN C d_jdk_42_method_92_code_7 rfl ?_
  refine g_static C w_53 w_54 w_8 w_55 (by decide) [(.int (2 : Int32)), (.int (3 : Int32)), (.int (3 : Int32))] (ct_of hEL hw w_55 w_8 (rm_cbbe l Z a0 hw hEL (2 : Int32) (3 : Int32) (3 : Int32) fm h0 n0 (by decide) (by decide) (by decide) Sfm hfm)) all0 (by decide) 0 (by decide) rfl pd__III_V rfl [] rfl (Nat.le_of_eq rfl) d_jdk_42_method_92_code_8 (by decide) (by decide) ?_
  intro v269 h269 Q269
  obtain ⟨rfl, e269⟩ := Q269
  replace e269 := e269.symm
  subst e269
  refine g_iloadN C d_jdk_42_method_92_code_11 rfl ?_
  refine g_if_t C 22 d_jdk_42_method_92_code_12 (XT.i0_ne_t (by decide)) (by decide) (by decide) ?_
  refine g_iloadN C d_jdk_42_method_92_code_22 rfl ?_
  refine g_iloadN C d_jdk_42_method_92_code_23 rfl ?_
  refine g_isub C d_jdk_42_method_92_code_24 ?_
  rw [show ((3 : Int32) - (2 : Int32)) = (1 : Int32) from by decide]
  refine g_istore C #[.val (.ref s), .val (.int (2 : Int32)), .val (.int (3 : Int32)), .val (.int (3 : Int32)), .val (.int (1 : Int32))] d_jdk_42_method_92_code_25 rfl ?_
  refine g_aloadN C d_jdk_42_method_92_code_27 rfl rfl ?_
  refine g_virtual C S0.1 w_80 w_81 (fun hZ => nf_sel hw w_83 hZ) w_83 w_82 (by decide) [] (ct_of hEL hw w_84 w_8 (rm_lat l Z a0 hw hEL s zc h0 n0 S0.2.1 Szc hzc)) all0 (by decide) 0 (by decide) rfl pd___Z rfl [] rfl (Nat.le_of_eq rfl) d_jdk_42_method_92_code_28 (by decide) (by decide) ?_
  intro v270 h270 Q270
  obtain ⟨rfl, e270⟩ := Q270
  replace e270 := e270.symm
  subst e270
  refine g_if_f C d_jdk_42_method_92_code_31 (XT.i0_eq_f (by decide)) ?_
  refine g_aloadN C d_jdk_42_method_92_code_34 rfl rfl ?_
  refine g_getfield C w_25 Via.refl S0.2.2.1 d_jdk_42_method_92_code_35 ?_
  refine g_iloadN C d_jdk_42_method_92_code_38 rfl ?_
  refine g_iload C d_jdk_42_method_92_code_39 rfl ?_
  refine g_static C w_96 w_97 w_87 w_98 (by decide) [(.ref t), (.int (2 : Int32)), (.int (1 : Int32))] (ct_of hEL hw w_98 w_87 (rm_ns3_2_3 l Z a0 hw hEL t _ c0 c1 c2 h0 n0 S0.2.2.2.1 h_c0 h_c1 h_c2)) all0 (by decide) 0 (by decide) rfl pd___BII_Ljava_lang_String_ rfl [] rfl (Nat.le_of_eq rfl) d_jdk_42_method_92_code_41 (by decide) (by decide) ?_
  intro v271 h271 Q271
  obtain ⟨a271, t271, kb271, rfl, KC271, S271⟩ := Q271
  refine g_goto C 57 d_jdk_42_method_92_code_44 (by decide) (by decide) ?_
  refine g_areturn C hEL (t := (.object "java/lang/String")) rfl rfl rfl d_jdk_42_method_92_code_57 (by decide) (by decide) ?_
  have K272 : Keep h0 h271 [] := (Keep.refl h0 []).trans KC271 all0
  exact ⟨a271, _, _, rfl, K272, S271⟩
set_option maxRecDepth 65536 in
set_option maxHeartbeats 40000000 in
theorem rm_s13_2_3 (l : Launch) (Z : State) (a0 : Array Value) (hw : ∀ d ∈ tables_1, d.before a0 Z = true) (hEL : EW Z a0 consts_1) {ws : List Jvm.Cond} (s t : Addr) (kb : ClassId) (c0 c1 c2 : Int32) (zc : Int32) (fm : Value) (h0 : Heap) (n0 : Nat) (S0 : Str Z h0 s t kb [c0, c1, c2]) (h_c0 : Ch8 c0) (h_c1 : Ch8 c1) (h_c2 : Ch8 c2) (Szc : Sta Z h0 "java/lang/String" "COMPACT_STRINGS" "Z" (.int zc)) (hzc : ¬ (zc = (0 : Int32))) (Sfm : Sta Z h0 "jdk/internal/util/Preconditions" "SIOOBE_FORMATTER" "Ljava/util/function/BiFunction;" fm) (hfm : fm.isRef = true) :
    Met l Z consts_1 (⟨"java/lang/String", "substring", "(I)Ljava/lang/String;"⟩ : MethodName) jdk_42_method_91_code 2 (some (.object "java/lang/String")) ws ({ frames := 5, cells := 2, slots := 16, locals := 90 } : Room) [] #[(.ref s), (.int (2 : Int32))] h0 n0 (nq (fun v h => ∃ a t' k', v = some (.ref a) ∧ Keep h0 h [] ∧ Str Z h a t' k' [c2])) := by
  refine met_of (plainFor_of_name pn_java_lang_String) hw #[.val (.ref s), .val (.int (2 : Int32))] (fun m => by first | rfl | (simp [entryFrame, mkF, argsToLocals, Value.category]; done)) ?_
  intro p e sT m below meth c C0
  have C : Cx Z a0 tables_1 p sT m meth c "java/lang/String" "substring" jdk_42_method_91_code 2 (some (.object "java/lang/String")) n0 := C0
  refine g_aloadN C d_jdk_42_method_91_code_0 rfl rfl ?_
  refine g_iloadN C d_jdk_42_method_91_code_1 rfl ?_
  refine g_aloadN C d_jdk_42_method_91_code_2 rfl rfl ?_
  refine g_virtual C S0.1 w_47 w_32 (fun hZ => nf_sel hw w_34 hZ) w_34 w_33 (by decide) [] (ct_len hEL hw S0 Szc hzc) all0 (by decide) 2 (by decide) rfl pd___I rfl [(.int (2 : Int32)), (.ref s)] rfl (Nat.le_of_eq rfl) d_jdk_42_method_91_code_3 (by decide) (by decide) ?_
  intro v273 h273 Q273
  obtain ⟨ev273, e273⟩ := Q273
  replace e273 := e273.symm
  subst e273
  replace ev273 : v273 = some (.int (3 : Int32)) := ev273
  subst ev273
  refine g_virtual C S0.1 w_48 w_49 (fun hZ => nf_sel hw w_51 hZ) w_51 w_50 (by decide) [(.int (2 : Int32)), (.int (3 : Int32))] (ct_of hEL hw w_52 w_8 (rm_s23_2_3 l Z a0 hw hEL s t _ c0 c1 c2 zc fm h0 n0 S0 h_c0 h_c1 h_c2 Szc hzc Sfm hfm)) all0 (by decide) 0 (by decide) rfl pd__II_Ljava_lang_String_ rfl [] rfl (Nat.le_of_eq rfl) d_jdk_42_method_91_code_6 (by decide) (by decide) ?_
  intro v274 h274 Q274
  obtain ⟨a274, t274, kb274, rfl, KC274, S274⟩ := Q274
  refine g_areturn C hEL (t := (.object "java/lang/String")) rfl rfl rfl d_jdk_42_method_91_code_9 (by decide) (by decide) ?_
  have K275 : Keep h0 h274 [] := (Keep.refl h0 []).trans KC274 all0
  exact ⟨a274, _, _, rfl, K275, S274⟩
set_option maxRecDepth 65536 in
set_option maxHeartbeats 40000000 in
theorem rm_ns3_3_3 (l : Launch) (Z : State) (a0 : Array Value) (hw : ∀ d ∈ tables_1, d.before a0 Z = true) (hEL : EW Z a0 consts_1) {ws : List Jvm.Cond} (t : Addr) (kb : ClassId) (c0 c1 c2 : Int32) (h0 : Heap) (n0 : Nat) (Vt : Arv Z h0 t kb .byte (3 : Int32) [(.int (c0.toInt8.toInt32)), (.int (c1.toInt8.toInt32)), (.int (c2.toInt8.toInt32))] (.int (0 : Int32))) (h_c0 : Ch8 c0) (h_c1 : Ch8 c1) (h_c2 : Ch8 c2) :
    Met l Z consts_1 (⟨"java/lang/StringLatin1", "newString", "([BII)Ljava/lang/String;"⟩ : MethodName) jdk_43_method_47_code 3 (some (.object "java/lang/String")) ws ({ frames := 3, cells := 2, slots := 16, locals := 56 } : Room) [] #[(.ref t), (.int (3 : Int32)), (.int (0 : Int32))] h0 n0 (nq (fun v h => ∃ a t' k', v = some (.ref a) ∧ Keep h0 h [] ∧ Str Z h a t' k' [])) := by
  refine met_of (plainFor_of_name pn_java_lang_StringLatin1) hw #[.val (.ref t), .val (.int (3 : Int32)), .val (.int (0 : Int32))] (fun m => by first | rfl | (simp [entryFrame, mkF, argsToLocals, Value.category]; done)) ?_
  intro p e s m below meth c C0
  have C : Cx Z a0 tables_1 p s m meth c "java/lang/StringLatin1" "newString" jdk_43_method_47_code 3 (some (.object "java/lang/String")) n0 := C0
  refine g_iloadN C d_jdk_43_method_47_code_0 rfl ?_
  refine g_if_f C d_jdk_43_method_47_code_1 (XT.i0_ne_f (by decide)) ?_
  refine g_ldcS C hEL w_99 own_sA (List.mem_of_getElem? (i := 1) rfl) [] ⟨by decide +kernel, by decide +kernel⟩ (by decide) (by decide) d_jdk_43_method_47_code_4 0 (by decide +kernel) (by decide) (by decide) (by decide) ?_
  intro a276 t276 kb276 h276 E276 S276 X276
  refine g_areturn C hEL (t := (.object "java/lang/String")) rfl rfl rfl d_jdk_43_method_47_code_6 (by decide) (by decide) ?_
  have K277 : Keep h0 h276 [] := (Keep.refl h0 []).ext E276
  exact ⟨a276, _, _, rfl, K277, S276⟩
set_option maxRecDepth 65536 in
set_option maxHeartbeats 40000000 in
theorem rm_s23_3_3 (l : Launch) (Z : State) (a0 : Array Value) (hw : ∀ d ∈ tables_1, d.before a0 Z = true) (hEL : EW Z a0 consts_1) {ws : List Jvm.Cond} (s t : Addr) (kb : ClassId) (c0 c1 c2 : Int32) (zc : Int32) (fm : Value) (h0 : Heap) (n0 : Nat) (S0 : Str Z h0 s t kb [c0, c1, c2]) (h_c0 : Ch8 c0) (h_c1 : Ch8 c1) (h_c2 : Ch8 c2) (Szc : Sta Z h0 "java/lang/String" "COMPACT_STRINGS" "Z" (.int zc)) (hzc : ¬ (zc = (0 : Int32))) (Sfm : Sta Z h0 "jdk/internal/util/Preconditions" "SIOOBE_FORMATTER" "Ljava/util/function/BiFunction;" fm) (hfm : fm.isRef = true) :
    Met l Z consts_1 (⟨"java/lang/String", "substring", "(II)Ljava/lang/String;"⟩ : MethodName) jdk_42_method_92_code 5 (some (.object "java/lang/String")) ws ({ frames := 4, cells := 2, slots := 16, locals := 72 } : Room) [] #[(.ref s), (.int (3 : Int32)), (.int (3 : Int32))] h0 n0 (nq (fun v h => ∃ a t' k', v = some (.ref a) ∧ Keep h0 h [] ∧ Str Z h a t' k' [])) := by
  refine met_of (plainFor_of_name pn_java_lang_String) hw #[.val (.ref s), .val (.int (3 : Int32)), .val (.int (3 : Int32)), .unset, .unset] (fun m => by first | rfl | (simp [entryFrame, mkF, argsToLocals, Value.category]; done)) ?_
  intro p e sT m below meth c C0
  have C : Cx Z a0 tables_1 p sT m meth c "java/lang/String" "substring" jdk_42_method_92_code 5 (some (.object "java/lang/String")) n0 := C0
  refine g_aloadN C d_jdk_42_method_92_code_0 rfl rfl ?_
  refine g_virtual C S0.1 w_47 w_32 (fun hZ => nf_sel hw w_34 hZ) w_34 w_33 (by decide) [] (ct_len hEL hw S0 Szc hzc) all0 (by decide) 0 (by decide) rfl pd___I rfl [] rfl (Nat.le_of_eq rfl) d_jdk_42_method_92_code_1 (by decide) (by decide) ?_
  intro v278 h278 Q278
  obtain ⟨ev278, e278⟩ := Q278
  replace e278 := e278.symm
  subst e278
  replace ev278 : v278 = some (.int (3 : Int32)) := ev278
  subst ev278
  refine g_istoreN C #[.val (.ref s), .val (.int (3 : Int32)), .val (.int (3 : Int32)), .val (.int (3 : Int32)), .unset] d_jdk_42_method_92_code_4 rfl ?_
  refine g_iloadN C d_jdk_42_method_92_code_5 rfl ?_
  refine g_iloadN C d_jdk_42_method_92_code_6 rfl ?_
  refine g_iloadN C d_jdk_42_method_92_code_7 rfl ?_
  refine g_static C w_53 w_54 w_8 w_55 (by decide) [(.int (3 : Int32)), (.int (3 : Int32)), (.int (3 : Int32))] (ct_of hEL hw w_55 w_8 (rm_cbbe l Z a0 hw hEL (3 : Int32) (3 : Int32) (3 : Int32) fm h0 n0 (by decide) (by decide) (by decide) Sfm hfm)) all0 (by decide) 0 (by decide) rfl pd__III_V rfl [] rfl (Nat.le_of_eq rfl) d_jdk_42_method_92_code_8 (by decide) (by decide) ?_
  intro v279 h279 Q279
  obtain ⟨rfl, e279⟩ := Q279
  replace e279 := e279.symm
  subst e279
  refine g_iloadN C d_jdk_42_method_92_code_11 rfl ?_
  refine g_if_t C 22 d_jdk_42_method_92_code_12 (XT.i0_ne_t (by decide)) (by decide) (by decide) ?_
  refine g_iloadN C d_jdk_42_method_92_code_22 rfl ?_
  refine g_iloadN C d_jdk_42_method_92_code_23 rfl ?_
  refine g_isub C d_jdk_42_method_92_code_24 ?_
  rw [show ((3 : Int32) - (3 : Int32)) = (0 : Int32) from by decide]
  refine g_istore C #[.val (.ref s), .val (.int (3 : Int32)), .val (.int (3 : Int32)), .val (.int (3 : Int32)), .val (.int (0 : Int32))] d_jdk_42_method_92_code_25 rfl ?_
  refine g_aloadN C d_jdk_42_method_92_code_27 rfl rfl ?_
  refine g_virtual C S0.1 w_80 w_81 (fun hZ => nf_sel hw w_83 hZ) w_83 w_82 (by decide) [] (ct_of hEL hw w_84 w_8 (rm_lat l Z a0 hw hEL s zc h0 n0 S0.2.1 Szc hzc)) all0 (by decide) 0 (by decide) rfl pd___Z rfl [] rfl (Nat.le_of_eq rfl) d_jdk_42_method_92_code_28 (by decide) (by decide) ?_
  intro v280 h280 Q280
  obtain ⟨rfl, e280⟩ := Q280
  replace e280 := e280.symm
  subst e280
  refine g_if_f C d_jdk_42_method_92_code_31 (XT.i0_eq_f (by decide)) ?_
  refine g_aloadN C d_jdk_42_method_92_code_34 rfl rfl ?_
  refine g_getfield C w_25 Via.refl S0.2.2.1 d_jdk_42_method_92_code_35 ?_
  refine g_iloadN C d_jdk_42_method_92_code_38 rfl ?_
  refine g_iload C d_jdk_42_method_92_code_39 rfl ?_
  refine g_static C w_96 w_97 w_87 w_98 (by decide) [(.ref t), (.int (3 : Int32)), (.int (0 : Int32))] (ct_of hEL hw w_98 w_87 (rm_ns3_3_3 l Z a0 hw hEL t _ c0 c1 c2 h0 n0 S0.2.2.2.1 h_c0 h_c1 h_c2)) all0 (by decide) 0 (by decide) rfl pd___BII_Ljava_lang_String_ rfl [] rfl (Nat.le_of_eq rfl) d_jdk_42_method_92_code_41 (by decide) (by decide) ?_
  intro v281 h281 Q281
  obtain ⟨a281, t281, kb281, rfl, KC281, S281⟩ := Q281
  refine g_goto C 57 d_jdk_42_method_92_code_44 (by decide) (by decide) ?_
  refine g_areturn C hEL (t := (.object "java/lang/String")) rfl rfl rfl d_jdk_42_method_92_code_57 (by decide) (by decide) ?_
  have K282 : Keep h0 h281 [] := (Keep.refl h0 []).trans KC281 all0
  exact ⟨a281, _, _, rfl, K282, S281⟩
set_option maxRecDepth 65536 in
set_option maxHeartbeats 40000000 in
theorem rm_s13_3_3 (l : Launch) (Z : State) (a0 : Array Value) (hw : ∀ d ∈ tables_1, d.before a0 Z = true) (hEL : EW Z a0 consts_1) {ws : List Jvm.Cond} (s t : Addr) (kb : ClassId) (c0 c1 c2 : Int32) (zc : Int32) (fm : Value) (h0 : Heap) (n0 : Nat) (S0 : Str Z h0 s t kb [c0, c1, c2]) (h_c0 : Ch8 c0) (h_c1 : Ch8 c1) (h_c2 : Ch8 c2) (Szc : Sta Z h0 "java/lang/String" "COMPACT_STRINGS" "Z" (.int zc)) (hzc : ¬ (zc = (0 : Int32))) (Sfm : Sta Z h0 "jdk/internal/util/Preconditions" "SIOOBE_FORMATTER" "Ljava/util/function/BiFunction;" fm) (hfm : fm.isRef = true) :
    Met l Z consts_1 (⟨"java/lang/String", "substring", "(I)Ljava/lang/String;"⟩ : MethodName) jdk_42_method_91_code 2 (some (.object "java/lang/String")) ws ({ frames := 5, cells := 2, slots := 16, locals := 90 } : Room) [] #[(.ref s), (.int (3 : Int32))] h0 n0 (nq (fun v h => ∃ a t' k', v = some (.ref a) ∧ Keep h0 h [] ∧ Str Z h a t' k' [])) := by
  refine met_of (plainFor_of_name pn_java_lang_String) hw #[.val (.ref s), .val (.int (3 : Int32))] (fun m => by first | rfl | (simp [entryFrame, mkF, argsToLocals, Value.category]; done)) ?_
  intro p e sT m below meth c C0
  have C : Cx Z a0 tables_1 p sT m meth c "java/lang/String" "substring" jdk_42_method_91_code 2 (some (.object "java/lang/String")) n0 := C0
  refine g_aloadN C d_jdk_42_method_91_code_0 rfl rfl ?_
  refine g_iloadN C d_jdk_42_method_91_code_1 rfl ?_
  refine g_aloadN C d_jdk_42_method_91_code_2 rfl rfl ?_
  refine g_virtual C S0.1 w_47 w_32 (fun hZ => nf_sel hw w_34 hZ) w_34 w_33 (by decide) [] (ct_len hEL hw S0 Szc hzc) all0 (by decide) 2 (by decide) rfl pd___I rfl [(.int (3 : Int32)), (.ref s)] rfl (Nat.le_of_eq rfl) d_jdk_42_method_91_code_3 (by decide) (by decide) ?_
  intro v283 h283 Q283
  obtain ⟨ev283, e283⟩ := Q283
  replace e283 := e283.symm
  subst e283
  replace ev283 : v283 = some (.int (3 : Int32)) := ev283
  subst ev283
  refine g_virtual C S0.1 w_48 w_49 (fun hZ => nf_sel hw w_51 hZ) w_51 w_50 (by decide) [(.int (3 : Int32)), (.int (3 : Int32))] (ct_of hEL hw w_52 w_8 (rm_s23_3_3 l Z a0 hw hEL s t _ c0 c1 c2 zc fm h0 n0 S0 h_c0 h_c1 h_c2 Szc hzc Sfm hfm)) all0 (by decide) 0 (by decide) rfl pd__II_Ljava_lang_String_ rfl [] rfl (Nat.le_of_eq rfl) d_jdk_42_method_91_code_6 (by decide) (by decide) ?_
  intro v284 h284 Q284
  obtain ⟨a284, t284, kb284, rfl, KC284, S284⟩ := Q284
  refine g_areturn C hEL (t := (.object "java/lang/String")) rfl rfl rfl d_jdk_42_method_91_code_9 (by decide) (by decide) ?_
  have K285 : Keep h0 h284 [] := (Keep.refl h0 []).trans KC284 all0
  exact ⟨a284, _, _, rfl, K285, S284⟩
set_option maxRecDepth 65536 in
set_option maxHeartbeats 40000000 in
theorem rm_strip3 (l : Launch) (Z : State) (a0 : Array Value) (hw : ∀ d ∈ tables_1, d.before a0 Z = true) (hEL : EW Z a0 consts_1) {ws : List Jvm.Cond} (s t : Addr) (kb : ClassId) (c0 c1 c2 : Int32) (zc : Int32) (fm : Value) (h0 : Heap) (n0 : Nat) (S0 : Str Z h0 s t kb [c0, c1, c2]) (h_c0 : Ch8 c0) (h_c1 : Ch8 c1) (h_c2 : Ch8 c2) (Szc : Sta Z h0 "java/lang/String" "COMPACT_STRINGS" "Z" (.int zc)) (hzc : ¬ (zc = (0 : Int32))) (Sfm : Sta Z h0 "jdk/internal/util/Preconditions" "SIOOBE_FORMATTER" "Ljava/util/function/BiFunction;" fm) (hfm : fm.isRef = true) :
    Met l Z consts_1 (⟨"com/example/tributary/tributary/Decimals", "stripLeadingZeros", "(Ljava/lang/String;)Ljava/lang/String;"⟩ : MethodName) prog_2_method_7_code 2 (some (.object "java/lang/String")) ws ({ frames := 6, cells := 2, slots := 16, locals := 110 } : Room) [] #[(.ref s)] h0 n0 (nq (fun v h => ∃ a t' k', v = some (.ref a) ∧ Keep h0 h [] ∧ Str Z h a t' k' (dz [c0, c1, c2]))) := by
  refine met_of (plainFor_of_name pn_com_example_tributary_tributary_Decimals) hw #[.val (.ref s), .unset] (fun m => by first | rfl | (simp [entryFrame, mkF, argsToLocals, Value.category]; done)) ?_
  intro p e sT m below meth c C0
  have C : Cx Z a0 tables_1 p sT m meth c "com/example/tributary/tributary/Decimals" "stripLeadingZeros" prog_2_method_7_code 2 (some (.object "java/lang/String")) n0 := C0
  refine g_iconst C 0 d_prog_2_method_7_code_0 rfl ?_
  refine g_istoreN C #[.val (.ref s), .val (.int (0 : Int32))] d_prog_2_method_7_code_1 rfl ?_
  refine g_iloadN C d_prog_2_method_7_code_2 rfl ?_
  refine g_aloadN C d_prog_2_method_7_code_3 rfl rfl ?_
  refine g_virtual C S0.1 w_31 w_32 (fun hZ => nf_sel hw w_34 hZ) w_34 w_33 (by decide) [] (ct_len hEL hw S0 Szc hzc) all0 (by decide) 1 (by decide) rfl pd___I rfl [(.int (0 : Int32))] rfl (Nat.le_of_eq rfl) d_prog_2_method_7_code_4 (by decide) (by decide) ?_
  intro v286 h286 Q286
  obtain ⟨ev286, e286⟩ := Q286
  replace e286 := e286.symm
  subst e286
  replace ev286 : v286 = some (.int (3 : Int32)) := ev286
  subst ev286
  refine g_icmp_f C d_prog_2_method_7_code_7 (XT.ii_ge_f (by decide)) ?_
  refine g_aloadN C d_prog_2_method_7_code_10 rfl rfl ?_
  refine g_iloadN C d_prog_2_method_7_code_11 rfl ?_
  refine g_virtual C S0.1 w_75 w_76 (fun hZ => nf_sel hw w_78 hZ) w_78 w_77 (by decide) [(.int (0 : Int32))] (ct_ch hEL hw S0 Szc hzc Sfm hfm 0 (Nat.le_of_ble_eq_true rfl) (0 : Int32) rfl) all0 (by decide) 0 (by decide) rfl pd__I_C rfl [] rfl (Nat.le_of_eq rfl) d_prog_2_method_7_code_12 (by decide) (by decide) ?_
  intro v287 h287 Q287
  obtain ⟨ev287, e287⟩ := Q287
  replace e287 := e287.symm
  subst e287
  replace ev287 : v287 = some (.int c0) := ev287
  subst ev287
  refine g_bipush C 48 d_prog_2_method_7_code_15 rfl ?_
  by_cases hc288 : c0 = (48 : Int32)
  · refine g_icmp_f C d_prog_2_method_7_code_17 (XT.ii_ne_f hc288) ?_
    refine g_iinc C 1 #[.val (.ref s), .val (.int ((0 : Int32) + (1 : Int32)))] d_prog_2_method_7_code_20 rfl rfl rfl ?_
    rw [show ((0 : Int32) + (1 : Int32)) = (1 : Int32) from by decide]
    refine g_goto C 2 d_prog_2_method_7_code_23 (by decide) (by decide) ?_
    refine g_iloadN C d_prog_2_method_7_code_2 rfl ?_
    refine g_aloadN C d_prog_2_method_7_code_3 rfl rfl ?_
    refine g_virtual C S0.1 w_31 w_32 (fun hZ => nf_sel hw w_34 hZ) w_34 w_33 (by decide) [] (ct_len hEL hw S0 Szc hzc) all0 (by decide) 1 (by decide) rfl pd___I rfl [(.int (1 : Int32))] rfl (Nat.le_of_eq rfl) d_prog_2_method_7_code_4 (by decide) (by decide) ?_
    intro v289 h289 Q289
    obtain ⟨ev289, e289⟩ := Q289
    replace e289 := e289.symm
    subst e289
    replace ev289 : v289 = some (.int (3 : Int32)) := ev289
    subst ev289
    refine g_icmp_f C d_prog_2_method_7_code_7 (XT.ii_ge_f (by decide)) ?_
    refine g_aloadN C d_prog_2_method_7_code_10 rfl rfl ?_
    refine g_iloadN C d_prog_2_method_7_code_11 rfl ?_
    refine g_virtual C S0.1 w_75 w_76 (fun hZ => nf_sel hw w_78 hZ) w_78 w_77 (by decide) [(.int (1 : Int32))] (ct_ch hEL hw S0 Szc hzc Sfm hfm 1 (Nat.le_of_ble_eq_true rfl) (1 : Int32) rfl) all0 (by decide) 0 (by decide) rfl pd__I_C rfl [] rfl (Nat.le_of_eq rfl) d_prog_2_method_7_code_12 (by decide) (by decide) ?_
    intro v290 h290 Q290
    obtain ⟨ev290, e290⟩ := Q290
    replace e290 := e290.symm
    subst e290
    replace ev290 : v290 = some (.int c1) := ev290
    subst ev290
    refine g_bipush C 48 d_prog_2_method_7_code_15 rfl ?_
    by_cases hc291 : c1 = (48 : Int32)
    · refine g_icmp_f C d_prog_2_method_7_code_17 (XT.ii_ne_f hc291) ?_
      refine g_iinc C 1 #[.val (.ref s), .val (.int ((1 : Int32) + (1 : Int32)))] d_prog_2_method_7_code_20 rfl rfl rfl ?_
      rw [show ((1 : Int32) + (1 : Int32)) = (2 : Int32) from by decide]
      refine g_goto C 2 d_prog_2_method_7_code_23 (by decide) (by decide) ?_
      refine g_iloadN C d_prog_2_method_7_code_2 rfl ?_
      refine g_aloadN C d_prog_2_method_7_code_3 rfl rfl ?_
      refine g_virtual C S0.1 w_31 w_32 (fun hZ => nf_sel hw w_34 hZ) w_34 w_33 (by decide) [] (ct_len hEL hw S0 Szc hzc) all0 (by decide) 1 (by decide) rfl pd___I rfl [(.int (2 : Int32))] rfl (Nat.le_of_eq rfl) d_prog_2_method_7_code_4 (by decide) (by decide) ?_
      intro v292 h292 Q292
      obtain ⟨ev292, e292⟩ := Q292
      replace e292 := e292.symm
      subst e292
      replace ev292 : v292 = some (.int (3 : Int32)) := ev292
      subst ev292
      refine g_icmp_f C d_prog_2_method_7_code_7 (XT.ii_ge_f (by decide)) ?_
      refine g_aloadN C d_prog_2_method_7_code_10 rfl rfl ?_
      refine g_iloadN C d_prog_2_method_7_code_11 rfl ?_
      refine g_virtual C S0.1 w_75 w_76 (fun hZ => nf_sel hw w_78 hZ) w_78 w_77 (by decide) [(.int (2 : Int32))] (ct_ch hEL hw S0 Szc hzc Sfm hfm 2 (Nat.le_of_ble_eq_true rfl) (2 : Int32) rfl) all0 (by decide) 0 (by decide) rfl pd__I_C rfl [] rfl (Nat.le_of_eq rfl) d_prog_2_method_7_code_12 (by decide) (by decide) ?_
      intro v293 h293 Q293
      obtain ⟨ev293, e293⟩ := Q293
      replace e293 := e293.symm
      subst e293
      replace ev293 : v293 = some (.int c2) := ev293
      subst ev293
      refine g_bipush C 48 d_prog_2_method_7_code_15 rfl ?_
      by_cases hc294 : c2 = (48 : Int32)
      · refine g_icmp_f C d_prog_2_method_7_code_17 (XT.ii_ne_f hc294) ?_
        refine g_iinc C 1 #[.val (.ref s), .val (.int ((2 : Int32) + (1 : Int32)))] d_prog_2_method_7_code_20 rfl rfl rfl ?_
        rw [show ((2 : Int32) + (1 : Int32)) = (3 : Int32) from by decide]
        refine g_goto C 2 d_prog_2_method_7_code_23 (by decide) (by decide) ?_
        refine g_iloadN C d_prog_2_method_7_code_2 rfl ?_
        refine g_aloadN C d_prog_2_method_7_code_3 rfl rfl ?_
        refine g_virtual C S0.1 w_31 w_32 (fun hZ => nf_sel hw w_34 hZ) w_34 w_33 (by decide) [] (ct_len hEL hw S0 Szc hzc) all0 (by decide) 1 (by decide) rfl pd___I rfl [(.int (3 : Int32))] rfl (Nat.le_of_eq rfl) d_prog_2_method_7_code_4 (by decide) (by decide) ?_
        intro v295 h295 Q295
        obtain ⟨ev295, e295⟩ := Q295
        replace e295 := e295.symm
        subst e295
        replace ev295 : v295 = some (.int (3 : Int32)) := ev295
        subst ev295
        refine g_icmp_t C 26 d_prog_2_method_7_code_7 (XT.ii_ge_t (by decide)) (by decide) (by decide) ?_
        refine g_aloadN C d_prog_2_method_7_code_26 rfl rfl ?_
        refine g_iloadN C d_prog_2_method_7_code_27 rfl ?_
        refine g_virtual C S0.1 w_42 w_43 (fun hZ => nf_sel hw w_45 hZ) w_45 w_44 (by decide) [(.int (3 : Int32))] (ct_of hEL hw w_46 w_8 (rm_s13_3_3 l Z a0 hw hEL s t _ c0 c1 c2 zc fm h0 n0 S0 h_c0 h_c1 h_c2 Szc hzc Sfm hfm)) all0 (by decide) 0 (by decide) rfl pd__I_Ljava_lang_String_ rfl [] rfl (Nat.le_of_eq rfl) d_prog_2_method_7_code_28 (by decide) (by decide) ?_
        intro v296 h296 Q296
        obtain ⟨a296, t296, kb296, rfl, KC296, S296⟩ := Q296
        refine g_areturn C hEL (t := (.object "java/lang/String")) rfl rfl rfl d_prog_2_method_7_code_31 (by decide) (by decide) ?_
        have K297 : Keep h0 h296 [] := (Keep.refl h0 []).trans KC296 all0
        exact ⟨a296, t296, kb296, rfl, K297, by simpa [dz, hc288, hc291, hc294] using S296⟩
      · refine g_icmp_t C 26 d_prog_2_method_7_code_17 (XT.ii_ne_t hc294) (by decide) (by decide) ?_
        refine g_aloadN C d_prog_2_method_7_code_26 rfl rfl ?_
        refine g_iloadN C d_prog_2_method_7_code_27 rfl ?_
        refine g_virtual C S0.1 w_42 w_43 (fun hZ => nf_sel hw w_45 hZ) w_45 w_44 (by decide) [(.int (2 : Int32))] (ct_of hEL hw w_46 w_8 (rm_s13_2_3 l Z a0 hw hEL s t _ c0 c1 c2 zc fm h0 n0 S0 h_c0 h_c1 h_c2 Szc hzc Sfm hfm)) all0 (by decide) 0 (by decide) rfl pd__I_Ljava_lang_String_ rfl [] rfl (Nat.le_of_eq rfl) d_prog_2_method_7_code_28 (by decide) (by decide) ?_
        intro v298 h298 Q298
        obtain ⟨a298, t298, kb298, rfl, KC298, S298⟩ := Q298
        refine g_areturn C hEL (t := (.object "java/lang/String")) rfl rfl rfl d_prog_2_method_7_code_31 (by decide) (by decide) ?_
        have K299 : Keep h0 h298 [] := (Keep.refl h0 []).trans KC298 all0
        exact ⟨a298, t298, kb298, rfl, K299, by simpa [dz, hc288, hc291, hc294] using S298⟩
    · refine g_icmp_t C 26 d_prog_2_method_7_code_17 (XT.ii_ne_t hc291) (by decide) (by decide) ?_
      refine g_aloadN C d_prog_2_method_7_code_26 rfl rfl ?_
      refine g_iloadN C d_prog_2_method_7_code_27 rfl ?_
      refine g_virtual C S0.1 w_42 w_43 (fun hZ => nf_sel hw w_45 hZ) w_45 w_44 (by decide) [(.int (1 : Int32))] (ct_of hEL hw w_46 w_8 (rm_s13_1_3 l Z a0 hw hEL s t _ c0 c1 c2 zc fm h0 n0 S0 h_c0 h_c1 h_c2 Szc hzc Sfm hfm)) all0 (by decide) 0 (by decide) rfl pd__I_Ljava_lang_String_ rfl [] rfl (Nat.le_of_eq rfl) d_prog_2_method_7_code_28 (by decide) (by decide) ?_
      intro v300 h300 Q300
      obtain ⟨a300, t300, kb300, rfl, KC300, S300⟩ := Q300
      refine g_areturn C hEL (t := (.object "java/lang/String")) rfl rfl rfl d_prog_2_method_7_code_31 (by decide) (by decide) ?_
      have K301 : Keep h0 h300 [] := (Keep.refl h0 []).trans KC300 all0
      exact ⟨a300, t300, kb300, rfl, K301, by simpa [dz, hc288, hc291] using S300⟩
  · refine g_icmp_t C 26 d_prog_2_method_7_code_17 (XT.ii_ne_t hc288) (by decide) (by decide) ?_
    refine g_aloadN C d_prog_2_method_7_code_26 rfl rfl ?_
    refine g_iloadN C d_prog_2_method_7_code_27 rfl ?_
    refine g_virtual C S0.1 w_42 w_43 (fun hZ => nf_sel hw w_45 hZ) w_45 w_44 (by decide) [(.int (0 : Int32))] (ct_of hEL hw w_46 w_8 (rm_s13_0_3 l Z a0 hw hEL s t _ c0 c1 c2 zc fm h0 n0 S0 h_c0 h_c1 h_c2 Szc hzc Sfm hfm)) all0 (by decide) 0 (by decide) rfl pd__I_Ljava_lang_String_ rfl [] rfl (Nat.le_of_eq rfl) d_prog_2_method_7_code_28 (by decide) (by decide) ?_
    intro v302 h302 Q302
    obtain ⟨a302, t302, kb302, rfl, KC302, S302⟩ := Q302
    refine g_areturn C hEL (t := (.object "java/lang/String")) rfl rfl rfl d_prog_2_method_7_code_31 (by decide) (by decide) ?_
    have K303 : Keep h0 h302 [] := (Keep.refl h0 []).trans KC302 all0
    exact ⟨a302, t302, kb302, rfl, K303, by simpa [dz, hc288] using S302⟩
set_option maxRecDepth 65536 in
set_option maxHeartbeats 40000000 in
theorem rm_s24_0_4 (l : Launch) (Z : State) (a0 : Array Value) (hw : ∀ d ∈ tables_1, d.before a0 Z = true) (hEL : EW Z a0 consts_1) {ws : List Jvm.Cond} (s t : Addr) (kb : ClassId) (c0 c1 c2 c3 : Int32) (zc : Int32) (fm : Value) (h0 : Heap) (n0 : Nat) (S0 : Str Z h0 s t kb [c0, c1, c2, c3]) (h_c0 : Ch8 c0) (h_c1 : Ch8 c1) (h_c2 : Ch8 c2) (h_c3 : Ch8 c3) (Szc : Sta Z h0 "java/lang/String" "COMPACT_STRINGS" "Z" (.int zc)) (hzc : ¬ (zc = (0 : Int32))) (Sfm : Sta Z h0 "jdk/internal/util/Preconditions" "SIOOBE_FORMATTER" "Ljava/util/function/BiFunction;" fm) (hfm : fm.isRef = true) :
    Met l Z consts_1 (⟨"java/lang/String", "substring", "(II)Ljava/lang/String;"⟩ : MethodName) jdk_42_method_92_code 5 (some (.object "java/lang/String")) ws ({ frames := 4, cells := 2, slots := 16, locals := 72 } : Room) [] #[(.ref s), (.int (0 : Int32)), (.int (4 : Int32))] h0 n0 (nq (fun v h => ∃ a t' k', v = some (.ref a) ∧ Keep h0 h [] ∧ Str Z h a t' k' [c0, c1, c2, c3])) := by
  refine met_of (plainFor_of_name pn_java_lang_String) hw #[.val (.ref s), .val (.int (0 : Int32)), .val (.int (4 : Int32)), .unset, .unset] (fun m => by first | rfl | (simp [entryFrame, mkF, argsToLocals, Value.category]; done)) ?_
  intro p e sT m below meth c C0
  have C : Cx Z a0 tables_1 p sT m meth c "java/lang/String" "substring" jdk_42_method_92_code 5 (some (.object "java/lang/String")) n0 := C0
  refine g_aloadN C d_jdk_42_method_92_code_0 rfl rfl ?_
  refine g_virtual C S0.1 w_47 w_32 (fun hZ => nf_sel hw w_34 hZ) w_34 w_33 (by decide) [] (ct_len hEL hw S0 Szc hzc) all0 (by decide) 0 (by decide) rfl pd___I rfl [] rfl (Nat.le_of_eq rfl) d_jdk_42_method_92_code_1 (by decide) (by decide) ?_
  intro v304 h304 Q304
  obtain ⟨ev304, e304⟩ := Q304
  replace e304 := e304.symm
  subst e304
  replace ev304 : v304 = some (.int (4 : Int32)) := ev304
  subst ev304
  refine g_istoreN C #[.val (.ref s), .val (.int (0 : Int32)), .val (.int (4 : Int32)), .val (.int (4 : Int32)), .unset] d_jdk_42_method_92_code_4 rfl ?_
  refine g_iloadN C d_jdk_42_method_92_code_5 rfl ?_
  refine g_iloadN C d_jdk_42_method_92_code_6 rfl ?_
  refine g_iloadN C d_jdk_42_method_92_code_7 rfl ?_
  refine g_static C w_53 w_54 w_8 w_55 (by decide) [(.int (0 : Int32)), (.int (4 : Int32)), (.int (4 : Int32))] (ct_of hEL hw w_55 w_8 (rm_cbbe l Z a0 hw hEL (0 : Int32) (4 : Int32) (4 : Int32) fm h0 n0 (by decide) (by decide) (by decide) Sfm hfm)) all0 (by decide) 0 (by decide) rfl pd__III_V rfl [] rfl (Nat.le_of_eq rfl) d_jdk_42_method_92_code_8 (by decide) (by decide) ?_
  intro v305 h305 Q305
  obtain ⟨rfl, e305⟩ := Q305
  replace e305 := e305.symm
  subst e305
  refine g_iloadN C d_jdk_42_method_92_code_11 rfl ?_
  refine g_if_f C d_jdk_42_method_92_code_12 (XT.i0_ne_f (by decide)) ?_
  refine g_iloadN C d_jdk_42_method_92_code_15 rfl ?_
  refine g_iloadN C d_jdk_42_method_92_code_16 rfl ?_
  refine g_icmp_f C d_jdk_42_method_92_code_17 (XT.ii_ne_f (by decide)) ?_
  refine g_aloadN C d_jdk_42_method_92_code_20 rfl rfl ?_
  refine g_areturn C hEL (t := (.object "java/lang/String")) rfl rfl rfl d_jdk_42_method_92_code_21 (by decide) (by decide) ?_
  exact ⟨s, _, _, rfl, (Keep.refl h0 []), S0⟩
set_option maxRecDepth 65536 in
set_option maxHeartbeats 40000000 in
theorem rm_s14_0_4 (l : Launch) (Z : State) (a0 : Array Value) (hw : ∀ d ∈ tables_1, d.before a0 Z = true) (hEL : EW Z a0 consts_1) {ws : List Jvm.Cond} (s t : Addr) (kb : ClassId) (c0 c1 c2 c3 : Int32) (zc : Int32) (fm : Value) (h0 : Heap) (n0 : Nat) (S0 : Str Z h0 s t kb [c0, c1, c2, c3]) (h_c0 : Ch8 c0) (h_c1 : Ch8 c1) (h_c2 : Ch8 c2) (h_c3 : Ch8 c3) (Szc : Sta Z h0 "java/lang/String" "COMPACT_STRINGS" "Z" (.int zc)) (hzc : ¬ (zc = (0 : Int32))) (Sfm : Sta Z h0 "jdk/internal/util/Preconditions" "SIOOBE_FORMATTER" "Ljava/util/function/BiFunction;" fm) (hfm : fm.isRef = true) :
    Met l Z consts_1 (⟨"java/lang/String", "substring", "(I)Ljava/lang/String;"⟩ : MethodName) jdk_42_method_91_code 2 (some (.object "java/lang/String")) ws ({ frames := 5, cells := 2, slots := 16, locals := 90 } : Room) [] #[(.ref s), (.int (0 : Int32))] h0 n0 (nq (fun v h => ∃ a t' k', v = some (.ref a) ∧ Keep h0 h [] ∧ Str Z h a t' k' [c0, c1, c2, c3])) := by
  refine met_of (plainFor_of_name pn_java_lang_String) hw #[.val (.ref s), .val (.int (0 : Int32))] (fun m => by first | rfl | (simp [entryFrame, mkF, argsToLocals, Value.category]; done)) ?_
  intro p e sT m below meth c C0
  have C : Cx Z a0 tables_1 p sT m meth c "java/lang/String" "substring" jdk_42_method_91_code 2 (some (.object "java/lang/String")) n0 := C0
  refine g_aloadN C d_jdk_42_method_91_code_0 rfl rfl ?_
  refine g_iloadN C d_jdk_42_method_91_code_1 rfl ?_
  refine g_aloadN C d_jdk_42_method_91_code_2 rfl rfl ?_
  refine g_virtual C S0.1 w_47 w_32 (fun hZ => nf_sel hw w_34 hZ) w_34 w_33 (by decide) [] (ct_len hEL hw S0 Szc hzc) all0 (by decide) 2 (by decide) rfl pd___I rfl [(.int (0 : Int32)), (.ref s)] rfl (Nat.le_of_eq rfl) d_jdk_42_method_91_code_3 (by decide) (by decide) ?_
  intro v306 h306 Q306
  obtain ⟨ev306, e306⟩ := Q306
  replace e306 := e306.symm
  subst e306
  replace ev306 : v306 = some (.int (4 : Int32)) := ev306
  subst ev306
  refine g_virtual C S0.1 w_48 w_49 (fun hZ => nf_sel hw w_51 hZ) w_51 w_50 (by decide) [(.int (0 : Int32)), (.int (4 : Int32))] (ct_of hEL hw w_52 w_8 (rm_s24_0_4 l Z a0 hw hEL s t _ c0 c1 c2 c3 zc fm h0 n0 S0 h_c0 h_c1 h_c2 h_c3 Szc hzc Sfm hfm)) all0 (by decide) 0 (by decide) rfl pd__II_Ljava_lang_String_ rfl [] rfl (Nat.le_of_eq rfl) d_jdk_42_method_91_code_6 (by decide) (by decide) ?_
  intro v307 h307 Q307
  obtain ⟨a307, t307, kb307, rfl, KC307, S307⟩ := Q307
  refine g_areturn C hEL (t := (.object "java/lang/String")) rfl rfl rfl d_jdk_42_method_91_code_9 (by decide) (by decide) ?_
  have K308 : Keep h0 h307 [] := (Keep.refl h0 []).trans KC307 all0
  exact ⟨a307, _, _, rfl, K308, S307⟩
set_option maxRecDepth 65536 in
set_option maxHeartbeats 40000000 in
theorem rm_cr4_1_4 (l : Launch) (Z : State) (a0 : Array Value) (hw : ∀ d ∈ tables_1, d.before a0 Z = true) (hEL : EW Z a0 consts_1) {ws : List Jvm.Cond} (t : Addr) (kb : ClassId) (c0 c1 c2 c3 : Int32) (h0 : Heap) (n0 : Nat) (Vt : Arv Z h0 t kb .byte (4 : Int32) [(.int (c0.toInt8.toInt32)), (.int (c1.toInt8.toInt32)), (.int (c2.toInt8.toInt32)), (.int (c3.toInt8.toInt32))] (.int (0 : Int32))) :
    Met l Z consts_1 (⟨"java/util/Arrays", "copyOfRangeByte", "([BII)[B"⟩ : MethodName) jdk_65_method_133_code 5 (some (.array .byte)) ws ({ frames := 1, cells := 1, slots := 8, locals := 20 } : Room) [] #[(.ref t), (.int (1 : Int32)), (.int (4 : Int32))] h0 n0 (nq (fun v h => ∃ b k', v = some (.ref b) ∧ Keep h0 h [] ∧ h0.size ≤ b ∧ Arv Z h b k' .byte (3 : Int32) [(.int (c1.toInt8.toInt32)), (.int (c2.toInt8.toInt32)), (.int (c3.toInt8.toInt32))] (.int (0 : Int32)))) := by
  refine met_of (plainFor_of_name pn_java_util_Arrays) hw #[.val (.ref t), .val (.int (1 : Int32)), .val (.int (4 : Int32)), .unset, .unset] (fun m => by first | rfl | (simp [entryFrame, mkF, argsToLocals, Value.category]; done)) ?_
  intro p e s m below meth c C0
  have C : Cx Z a0 tables_1 p s m meth c "java/util/Arrays" "copyOfRangeByte" jdk_65_method_133_code 5 (some (.array .byte)) n0 := C0
  refine g_iloadN C d_jdk_65_method_133_code_0 rfl ?_
  refine g_iloadN C d_jdk_65_method_133_code_1 rfl ?_
  refine g_static C w_108 w_109 w_103 w_110 (by decide) [(.int (1 : Int32)), (.int (4 : Int32))] (ct_of hEL hw w_110 w_103 (rm_cl l Z a0 hw hEL (1 : Int32) (4 : Int32) h0 n0 (by decide))) all0 (by decide) 0 (by decide) rfl pd__II_V rfl [] rfl (Nat.le_of_eq rfl) d_jdk_65_method_133_code_2 (by decide) (by decide) ?_
  intro v309 h309 Q309
  obtain ⟨rfl, e309⟩ := Q309
  replace e309 := e309.symm
  subst e309
  refine g_iloadN C d_jdk_65_method_133_code_5 rfl ?_
  refine g_iloadN C d_jdk_65_method_133_code_6 rfl ?_
  refine g_isub C d_jdk_65_method_133_code_7 ?_
  rw [show ((4 : Int32) - (1 : Int32)) = (3 : Int32) from by decide]
  refine g_istoreN C #[.val (.ref t), .val (.int (1 : Int32)), .val (.int (4 : Int32)), .val (.int (3 : Int32)), .unset] d_jdk_65_method_133_code_8 rfl ?_
  refine g_iloadN C d_jdk_65_method_133_code_9 rfl ?_
  refine g_newarray C (aty := .byte) w_20 d_jdk_65_method_133_code_10 (by decide) 3 (by decide) (by decide) (by decide) (by decide) "[B" rfl ?_
  intro b310 h310 ka310 g310 E310 V310 A310
  replace V310 : Arv Z h310 b310 ka310 .byte (3 : Int32) [(.int (0 : Int32)), (.int (0 : Int32)), (.int (0 : Int32))] (.int (0 : Int32)) := V310.pad (pad_rep [] _ 3)
  refine g_astore C #[.val (.ref t), .val (.int (1 : Int32)), .val (.int (4 : Int32)), .val (.int (3 : Int32)), .val (.ref b310)] d_jdk_65_method_133_code_12 rfl rfl ?_
  refine g_aloadN C d_jdk_65_method_133_code_14 rfl rfl ?_
  refine g_iloadN C d_jdk_65_method_133_code_15 rfl ?_
  refine g_aload C d_jdk_65_method_133_code_16 rfl rfl ?_
  refine g_iconst C 0 d_jdk_65_method_133_code_18 rfl ?_
  refine g_aloadN C d_jdk_65_method_133_code_19 rfl rfl ?_
  have K311 : Keep h0 h310 [] := (Keep.refl h0 []).ext E310
  have V312 := (Vt.keep K311 nin0)
  refine g_arraylength C V312 d_jdk_65_method_133_code_20 ?_
  refine g_iloadN C d_jdk_65_method_133_code_21 rfl ?_
  refine g_isub C d_jdk_65_method_133_code_22 ?_
  rw [show ((4 : Int32) - (1 : Int32)) = (3 : Int32) from by decide]
  refine g_iloadN C d_jdk_65_method_133_code_23 rfl ?_
  refine g_static C w_111 w_112 w_113 w_114 (by decide) [(.int (3 : Int32)), (.int (3 : Int32))] (ct_of hEL hw w_114 w_113 (rm_min l Z a0 hw hEL (3 : Int32) (3 : Int32) h310 n0 )) all0 (by decide) 4 (by decide) rfl pd__II_I rfl [(.int (0 : Int32)), (.ref b310), (.int (1 : Int32)), (.ref t)] rfl (Nat.le_of_eq rfl) d_jdk_65_method_133_code_24 (by decide) (by decide) ?_
  intro v313 h313 Q313
  obtain ⟨ev313, e313⟩ := Q313
  replace e313 := e313.symm
  subst e313
  replace ev313 : v313 = some (.int (3 : Int32)) := ev313.trans (by first | rfl | decide)
  subst ev313
  refine g_arraycopy C w_115 w_118 w_116 w_117 V312 V310 rfl (by decide) (by decide) (by decide) (by decide) (by decide) [(.int (c1.toInt8.toInt32)), (.int (c2.toInt8.toInt32)), (.int (c3.toInt8.toInt32))] rfl (Nat.le_of_ble_eq_true rfl) (List.mem_of_getElem? (i := 0) rfl) rfl d_jdk_65_method_133_code_27 (by decide) 0 (Nat.le_of_eq rfl) (by decide) ?_
  intro h314 KC314 V314
  replace V314 : Arv Z h314 b310 ka310 .byte (3 : Int32) [(.int (c1.toInt8.toInt32)), (.int (c2.toInt8.toInt32)), (.int (c3.toInt8.toInt32))] (.int (0 : Int32)) := V314
  refine g_aload C d_jdk_65_method_133_code_30 rfl rfl ?_
  refine g_areturn C hEL (t := (.array .byte)) rfl rfl rfl d_jdk_65_method_133_code_32 (by decide) (by decide) ?_
  have K315 : Keep h0 h314 [] := K311.trans KC314 (allS (Or.inr (Nat.le_of_eq g310.symm)) all0)
  exact ⟨b310, _, rfl, K315, (Nat.le_of_eq g310.symm), V314⟩
set_option maxRecDepth 65536 in
set_option maxHeartbeats 40000000 in
theorem rm_c04_1_4 (l : Launch) (Z : State) (a0 : Array Value) (hw : ∀ d ∈ tables_1, d.before a0 Z = true) (hEL : EW Z a0 consts_1) {ws : List Jvm.Cond} (t : Addr) (kb : ClassId) (c0 c1 c2 c3 : Int32) (h0 : Heap) (n0 : Nat) (Vt : Arv Z h0 t kb .byte (4 : Int32) [(.int (c0.toInt8.toInt32)), (.int (c1.toInt8.toInt32)), (.int (c2.toInt8.toInt32)), (.int (c3.toInt8.toInt32))] (.int (0 : Int32))) :
    Met l Z consts_1 (⟨"java/util/Arrays", "copyOfRange", "([BII)[B"⟩ : MethodName) jdk_65_method_132_code 3 (some (.array .byte)) ws ({ frames := 2, cells := 1, slots := 8, locals := 36 } : Room) [] #[(.ref t), (.int (1 : Int32)), (.int (4 : Int32))] h0 n0 (nq (fun v h => ∃ b k', v = some (.ref b) ∧ Keep h0 h [] ∧ h0.size ≤ b ∧ Arv Z h b k' .byte (3 : Int32) [(.int (c1.toInt8.toInt32)), (.int (c2.toInt8.toInt32)), (.int (c3.toInt8.toInt32))] (.int (0 : Int32)))) := by
  refine met_of (plainFor_of_name pn_java_util_Arrays) hw #[.val (.ref t), .val (.int (1 : Int32)), .val (.int (4 : Int32))] (fun m => by first | rfl | (simp [entryFrame, mkF, argsToLocals, Value.category]; done)) ?_
  intro p e s m below meth c C0
  have C : Cx Z a0 tables_1 p s m meth c "java/util/Arrays" "copyOfRange" jdk_65_method_132_code 3 (some (.array .byte)) n0 := C0
  refine g_iloadN C d_jdk_65_method_132_code_0 rfl ?_
  refine g_if_t C 10 d_jdk_65_method_132_code_1 (XT.i0_ne_t (by decide)) (by decide) (by decide) ?_
  refine g_aloadN C d_jdk_65_method_132_code_10 rfl rfl ?_
  refine g_iloadN C d_jdk_65_method_132_code_11 rfl ?_
  refine g_iloadN C d_jdk_65_method_132_code_12 rfl ?_
  refine g_static C w_105 w_106 w_103 w_107 (by decide) [(.ref t), (.int (1 : Int32)), (.int (4 : Int32))] (ct_of hEL hw w_107 w_103 (rm_cr4_1_4 l Z a0 hw hEL t _ c0 c1 c2 c3 h0 n0 Vt)) all0 (by decide) 0 (by decide) rfl pd___BII__B rfl [] rfl (Nat.le_of_eq rfl) d_jdk_65_method_132_code_13 (by decide) (by decide) ?_
  intro v316 h316 Q316
  obtain ⟨b316, k316, rfl, KC316, le316, V316⟩ := Q316
  refine g_areturn C hEL (t := (.array .byte)) rfl rfl rfl d_jdk_65_method_132_code_16 (by decide) (by decide) ?_
  have K317 : Keep h0 h316 [] := (Keep.refl h0 []).trans KC316 all0
  exact ⟨b316, _, rfl, K317, le316, V316⟩
set_option maxRecDepth 65536 in
set_option maxHeartbeats 40000000 in
theorem rm_ns4_1_4 (l : Launch) (Z : State) (a0 : Array Value) (hw : ∀ d ∈ tables_1, d.before a0 Z = true) (hEL : EW Z a0 consts_1) {ws : List Jvm.Cond} (t : Addr) (kb : ClassId) (c0 c1 c2 c3 : Int32) (h0 : Heap) (n0 : Nat) (Vt : Arv Z h0 t kb .byte (4 : Int32) [(.int (c0.toInt8.toInt32)), (.int (c1.toInt8.toInt32)), (.int (c2.toInt8.toInt32)), (.int (c3.toInt8.toInt32))] (.int (0 : Int32))) (h_c0 : Ch8 c0) (h_c1 : Ch8 c1) (h_c2 : Ch8 c2) (h_c3 : Ch8 c3) :
    Met l Z consts_1 (⟨"java/lang/StringLatin1", "newString", "([BII)Ljava/lang/String;"⟩ : MethodName) jdk_43_method_47_code 3 (some (.object "java/lang/String")) ws ({ frames := 3, cells := 2, slots := 16, locals := 56 } : Room) [] #[(.ref t), (.int (1 : Int32)), (.int (3 : Int32))] h0 n0 (nq (fun v h => ∃ a t' k', v = some (.ref a) ∧ Keep h0 h [] ∧ Str Z h a t' k' [c1, c2, c3])) := by
  refine met_of (plainFor_of_name pn_java_lang_StringLatin1) hw #[.val (.ref t), .val (.int (1 : Int32)), .val (.int (3 : Int32))] (fun m => by first | rfl | (simp [entryFrame, mkF, argsToLocals, Value.category]; done)) ?_
  intro p e s m below meth c C0
  have C : Cx Z a0 tables_1 p s m meth c "java/lang/StringLatin1" "newString" jdk_43_method_47_code 3 (some (.object "java/lang/String")) n0 := C0
  refine g_iloadN C d_jdk_43_method_47_code_0 rfl ?_
  refine g_if_t C 7 d_jdk_43_method_47_code_1 (XT.i0_ne_t (by decide)) (by decide) (by decide) ?_
  refine g_new C w_100 w_7 w_8 d_jdk_43_method_47_code_7 (by decide) (by decide) ?_
  intro b318 h318 g318 E318 A318 D318
  refine g_dup C d_jdk_43_method_47_code_10 rfl ?_
  refine g_aloadN C d_jdk_43_method_47_code_11 rfl rfl ?_
  refine g_iloadN C d_jdk_43_method_47_code_12 rfl ?_
  refine g_iloadN C d_jdk_43_method_47_code_13 rfl ?_
  refine g_iloadN C d_jdk_43_method_47_code_14 rfl ?_
  refine g_iadd C d_jdk_43_method_47_code_15 ?_
  rw [show ((1 : Int32) + (3 : Int32)) = (4 : Int32) from by decide]
  have K319 : Keep h0 h318 [] := (Keep.refl h0 []).ext E318
  have V320 := (Vt.keep K319 nin0)
  refine g_static C w_101 w_102 w_103 w_104 (by decide) [(.ref t), (.int (1 : Int32)), (.int (4 : Int32))] (ct_of hEL hw w_104 w_103 (rm_c04_1_4 l Z a0 hw hEL t _ c0 c1 c2 c3 h318 n0 V320)) all0 (by decide) 2 (by decide) rfl pd___BII__B rfl [(.ref b318), (.ref b318)] rfl (Nat.le_of_eq rfl) d_jdk_43_method_47_code_16 (by decide) (by decide) ?_
  intro v321 h321 Q321
  obtain ⟨b321, k321, rfl, KC321, le321, V321⟩ := Q321
  refine g_iconst C 0 d_jdk_43_method_47_code_19 rfl ?_
  have K322 : Keep h318 h321 [] := (Keep.refl h318 []).trans KC321 all0
  have E323 := (A318.keep K322)
  have F324 := ((D318 (Or.inr (C.hw w_21)) (ty := (.array .byte)) (by decide)).keep K322 nin0)
  have F325 := ((D318 (Or.inr (C.hw w_22)) (ty := .byte) (by decide)).keep K322 nin0)
  refine g_special C (a := b318) w_119 w_120 w_121 rfl (by decide) [(.ref b321), (.int (0 : Int32))] (ct_of hEL hw w_121 w_8 (rm_sbb l Z a0 hw hEL b318 b321 h321 n0 E323 F324 F325)) (allS (List.mem_of_getElem? (i := 0) rfl) all0) (by decide) 1 (by decide) rfl pd___BB_V rfl [(.ref b318)] rfl (Nat.le_of_eq rfl) d_jdk_43_method_47_code_20 (by decide) (by decide) ?_
  intro v326 h326 Q326
  obtain ⟨rfl, KC326, X326, G1326, G2326⟩ := Q326
  refine g_areturn C hEL (t := (.object "java/lang/String")) rfl rfl rfl d_jdk_43_method_47_code_23 (by decide) (by decide) ?_
  have K327 : Keep h0 h321 [] := K319.trans KC321 all0
  have K328 : Keep h0 h326 [] := K327.trans KC326 (allS (Or.inr (Nat.le_of_eq g318.symm)) all0)
  have V329 := (V321.keep KC326 (ninS (Ne.symm (Nat.ne_of_lt (Nat.lt_of_lt_of_le A318.lt le321))) nin0))
  exact ⟨b318, b321, _, rfl, K328, X326, G1326, G2326, V329, Nat.le_of_ble_eq_true rfl, (own_allc h_c1 (own_allc h_c2 (own_allc h_c3 (fun _ q => nomatch q))))⟩
set_option maxRecDepth 65536 in
set_option maxHeartbeats 40000000 in
theorem rm_s24_1_4 (l : Launch) (Z : State) (a0 : Array Value) (hw : ∀ d ∈ tables_1, d.before a0 Z = true) (hEL : EW Z a0 consts_1) {ws : List Jvm.Cond} (s t : Addr) (kb : ClassId) (c0 c1 c2 c3 : Int32) (zc : Int32) (fm : Value) (h0 : Heap) (n0 : Nat) (S0 : Str Z h0 s t kb [c0, c1, c2, c3]) (h_c0 : Ch8 c0) (h_c1 : Ch8 c1) (h_c2 : Ch8 c2) (h_c3 : Ch8 c3) (Szc : Sta Z h0 "java/lang/String" "COMPACT_STRINGS" "Z" (.int zc)) (hzc : ¬ (zc = (0 : Int32))) (Sfm : Sta Z h0 "jdk/internal/util/Preconditions" "SIOOBE_FORMATTER" "Ljava/util/function/BiFunction;" fm) (hfm : fm.isRef = true) :
    Met l Z consts_1 (⟨"java/lang/String", "substring", "(II)Ljava/lang/String;"⟩ : MethodName) jdk_42_method_92_code 5 (some (.object "java/lang/String")) ws ({ frames := 4, cells := 2, slots := 16, locals := 72 } : Room) [] #[(.ref s), (.int (1 : Int32)), (.int (4 : Int32))] h0 n0 (nq (fun v h => ∃ a t' k', v = some (.ref a) ∧ Keep h0 h [] ∧ Str Z h a t' k' [c1, c2, c3])) := by
  refine met_of (plainFor_of_name pn_java_lang_String) hw #[.val (.ref s), .val (.int (1 : Int32)), .val (.int (4 : Int32)), .unset, .unset] (fun m => by first | rfl | (simp [entryFrame, mkF, argsToLocals, Value.category]; done)) ?_
  intro p e sT m below meth c C0
  have C : Cx Z a0 tables_1 p sT m meth c "java/lang/String" "substring" jdk_42_method_92_code 5 (some (.object "java/lang/String")) n0 := C0
  refine g_aloadN C d_jdk_42_method_92_code_0 rfl rfl ?_
  refine g_virtual C S0.1 w_47 w_32 (fun hZ => nf_sel hw w_34 hZ) w_34 w_33 (by decide) [] (ct_len hEL hw S0 Szc hzc) all0 (by decide) 0 (by decide) rfl pd___I rfl [] rfl (Nat.le_of_eq rfl) d_jdk_42_method_92_code_1 (by decide) (by decide) ?_
  intro v330 h330 Q330
  obtain ⟨ev330, e330⟩ := Q330
  replace e330 := e330.symm
  subst e330
  replace ev330 : v330 = some (.int (4 : Int32)) := ev330
  subst ev330
  refine g_istoreN C #[.val (.ref s), .val (.int (1 : Int32)), .val (.int (4 : Int32)), .val (.int (4 : Int32)), .unset] d_jdk_42_method_92_code_4 rfl ?_
  refine g_iloadN C d_jdk_42_method_92_code_5 rfl ?_
  refine g_iloadN C d_jdk_42_method_92_code_6 rfl ?_
  refine g_iloadN C d_jdk_42_method_92_code_7 rfl ?_
  refine g_static C w_53 w_54 w_8 w_55 (by decide) [(.int (1 : Int32)), (.int (4 : Int32)), (.int (4 : Int32))] (ct_of hEL hw w_55 w_8 (rm_cbbe l Z a0 hw hEL (1 : Int32) (4 : Int32) (4 : Int32) fm h0 n0 (by decide) (by decide) (by decide) Sfm hfm)) all0 (by decide) 0 (by decide) rfl pd__III_V rfl [] rfl (Nat.le_of_eq rfl) d_jdk_42_method_92_code_8 (by decide) (by decide) ?_
  intro v331 h331 Q331
  obtain ⟨rfl, e331⟩ := Q331
  replace e331 := e331.symm
  subst e331
  refine g_iloadN C d_jdk_42_method_92_code_11 rfl ?_
  refine g_if_t C 22 d_jdk_42_method_92_code_12 (XT.i0_ne_t (by decide)) (by decide) (by decide) ?_
  refine g_iloadN C d_jdk_42_method_92_code_22 rfl ?_
  refine g_iloadN C d_jdk_42_method_92_code_23 rfl ?_
  refine g_isub C d_jdk_42_method_92_code_24 ?_
  rw [show ((4 : Int32) - (1 : Int32)) = (3 : Int32) from by decide]
  refine g_istore C #[.val (.ref s), .val (.int (1 : Int32)), .val (.int (4 : Int32)), .val (.int (4 : Int32)), .val (.int (3 : Int32))] d_jdk_42_method_92_code_25 rfl ?_
  refine g_aloadN C d_jdk_42_method_92_code_27 rfl rfl ?_
  refine g_virtual C S0.1 w_80 w_81 (fun hZ => nf_sel hw w_83 hZ) w_83 w_82 (by decide) [] (ct_of hEL hw w_84 w_8 (rm_lat l Z a0 hw hEL s zc h0 n0 S0.2.1 Szc hzc)) all0 (by decide) 0 (by decide) rfl pd___Z rfl [] rfl (Nat.le_of_eq rfl) d_jdk_42_method_92_code_28 (by decide) (by decide) ?_
  intro v332 h332 Q332
  obtain ⟨rfl, e332⟩ := Q332
  replace e332 := e332.symm
  subst e332
  refine g_if_f C d_jdk_42_method_92_code_31 (XT.i0_eq_f (by decide)) ?_
  refine g_aloadN C d_jdk_42_method_92_code_34 rfl rfl ?_
  refine g_getfield C w_25 Via.refl S0.2.2.1 d_jdk_42_method_92_code_35 ?_
  refine g_iloadN C d_jdk_42_method_92_code_38 rfl ?_
  refine g_iload C d_jdk_42_method_92_code_39 rfl ?_
  refine g_static C w_96 w_97 w_87 w_98 (by decide) [(.ref t), (.int (1 : Int32)), (.int (3 : Int32))] (ct_of hEL hw w_98 w_87 (rm_ns4_1_4 l Z a0 hw hEL t _ c0 c1 c2 c3 h0 n0 S0.2.2.2.1 h_c0 h_c1 h_c2 h_c3)) all0 (by decide) 0 (by decide) rfl pd___BII_Ljava_lang_String_ rfl [] rfl (Nat.le_of_eq rfl) d_jdk_42_method_92_code_41 (by decide) (by decide) ?_
  intro v333 h333 Q333
  obtain ⟨a333, t333, kb333, rfl, KC333, S333⟩ := Q333
  refine g_goto C 57 d_jdk_42_method_92_code_44 (by decide) (by decide) ?_
  refine g_areturn C hEL (t := (.object "java/lang/String")) rfl rfl rfl d_jdk_42_method_92_code_57 (by decide) (by decide) ?_
  have K334 : Keep h0 h333 [] := (Keep.refl h0 []).trans KC333 all0
  exact ⟨a333, _, _, rfl, K334, S333⟩
set_option maxRecDepth 65536 in
set_option maxHeartbeats 40000000 in
theorem rm_s14_1_4 (l : Launch) (Z : State) (a0 : Array Value) (hw : ∀ d ∈ tables_1, d.before a0 Z = true) (hEL : EW Z a0 consts_1) {ws : List Jvm.Cond} (s t : Addr) (kb : ClassId) (c0 c1 c2 c3 : Int32) (zc : Int32) (fm : Value) (h0 : Heap) (n0 : Nat) (S0 : Str Z h0 s t kb [c0, c1, c2, c3]) (h_c0 : Ch8 c0) (h_c1 : Ch8 c1) (h_c2 : Ch8 c2) (h_c3 : Ch8 c3) (Szc : Sta Z h0 "java/lang/String" "COMPACT_STRINGS" "Z" (.int zc)) (hzc : ¬ (zc = (0 : Int32))) (Sfm : Sta Z h0 "jdk/internal/util/Preconditions" "SIOOBE_FORMATTER" "Ljava/util/function/BiFunction;" fm) (hfm : fm.isRef = true) :
    Met l Z consts_1 (⟨"java/lang/String", "substring", "(I)Ljava/lang/String;"⟩ : MethodName) jdk_42_method_91_code 2 (some (.object "java/lang/String")) ws ({ frames := 5, cells := 2, slots := 16, locals := 90 } : Room) [] #[(.ref s), (.int (1 : Int32))] h0 n0 (nq (fun v h => ∃ a t' k', v = some (.ref a) ∧ Keep h0 h [] ∧ Str Z h a t' k' [c1, c2, c3])) := by
  refine met_of (plainFor_of_name pn_java_lang_String) hw #[.val (.ref s), .val (.int (1 : Int32))] (fun m => by first | rfl | (simp [entryFrame, mkF, argsToLocals, Value.category]; done)) ?_
  intro p e sT m below meth c C0
  have C : Cx Z a0 tables_1 p sT m meth c "java/lang/String" "substring" jdk_42_method_91_code 2 (some (.object "java/lang/String")) n0 := C0
  refine g_aloadN C d_jdk_42_method_91_code_0 rfl rfl ?_
  refine g_iloadN C d_jdk_42_method_91_code_1 rfl ?_
  refine g_aloadN C d_jdk_42_method_91_code_2 rfl rfl ?_
  refine g_virtual C S0.1 w_47 w_32 (fun hZ => nf_sel hw w_34 hZ) w_34 w_33 (by decide) [] (ct_len hEL hw S0 Szc hzc) all0 (by decide) 2 (by decide) rfl pd___I rfl [(.int (1 : Int32)), (.ref s)] rfl (Nat.le_of_eq rfl) d_jdk_42_method_91_code_3 (by decide) (by decide) ?_
  intro v335 h335 Q335
  obtain ⟨ev335, e335⟩ := Q335
  replace e335 := e335.symm
  subst e335
  replace ev335 : v335 = some (.int (4 : Int32)) := ev335
  subst ev335
  refine g_virtual C S0.1 w_48 w_49 (fun hZ => nf_sel hw w_51 hZ) w_51 w_50 (by decide) [(.int (1 : Int32)), (.int (4 : Int32))] (ct_of hEL hw w_52 w_8 (rm_s24_1_4 l Z a0 hw hEL s t _ c0 c1 c2 c3 zc fm h0 n0 S0 h_c0 h_c1 h_c2 h_c3 Szc hzc Sfm hfm)) all0 (by decide) 0 (by decide) rfl pd__II_Ljava_lang_String_ rfl [] rfl (Nat.le_of_eq rfl) d_jdk_42_method_91_code_6 (by decide) (by decide) ?_
  intro v336 h336 Q336
  obtain ⟨a336, t336, kb336, rfl, KC336, S336⟩ := Q336
  refine g_areturn C hEL (t := (.object "java/lang/String")) rfl rfl rfl d_jdk_42_method_91_code_9 (by decide) (by decide) ?_
  have K337 : Keep h0 h336 [] := (Keep.refl h0 []).trans KC336 all0
  exact ⟨a336, _, _, rfl, K337, S336⟩
set_option maxRecDepth 65536 in
set_option maxHeartbeats 40000000 in
theorem rm_cr4_2_4 (l : Launch) (Z : State) (a0 : Array Value) (hw : ∀ d ∈ tables_1, d.before a0 Z = true) (hEL : EW Z a0 consts_1) {ws : List Jvm.Cond} (t : Addr) (kb : ClassId) (c0 c1 c2 c3 : Int32) (h0 : Heap) (n0 : Nat) (Vt : Arv Z h0 t kb .byte (4 : Int32) [(.int (c0.toInt8.toInt32)), (.int (c1.toInt8.toInt32)), (.int (c2.toInt8.toInt32)), (.int (c3.toInt8.toInt32))] (.int (0 : Int32))) :
    Met l Z consts_1 (⟨"java/util/Arrays", "copyOfRangeByte", "([BII)[B"⟩ : MethodName) jdk_65_method_133_code 5 (some (.array .byte)) ws ({ frames := 1, cells := 1, slots := 8, locals := 20 } : Room) [] #[(.ref t), (.int (2 : Int32)), (.int (4 : Int32))] h0 n0 (nq (fun v h => ∃ b k', v = some (.ref b) ∧ Keep h0 h [] ∧ h0.size ≤ b ∧ Arv Z h b k' .byte (2 : Int32) [(.int (c2.toInt8.toInt32)), (.int (c3.toInt8.toInt32))] (.int (0 : Int32)))) := by
  refine met_of (plainFor_of_name pn_java_util_Arrays) hw #[.val (.ref t), .val (.int (2 : Int32)), .val (.int (4 : Int32)), .unset, .unset] (fun m => by first | rfl | (simp [entryFrame, mkF, argsToLocals, Value.category]; done)) ?_
  intro p e s m below meth c C0
  have C : Cx Z a0 tables_1 p s m meth c "java/util/Arrays" "copyOfRangeByte" jdk_65_method_133_code 5 (some (.array .byte)) n0 := C0
  refine g_iloadN C d_jdk_65_method_133_code_0 rfl ?_
  refine g_iloadN C d_jdk_65_method_133_code_1 rfl ?_
  refine g_static C w_108 w_109 w_103 w_110 (by decide) [(.int (2 : Int32)), (.int (4 : Int32))] (ct_of hEL hw w_110 w_103 (rm_cl l Z a0 hw hEL (2 : Int32) (4 : Int32) h0 n0 (by decide))) all0 (by decide) 0 (by decide) rfl pd__II_V rfl [] rfl (Nat.le_of_eq rfl) d_jdk_65_method_133_code_2 (by decide) (by decide) ?_
  intro v338 h338 Q338
  obtain ⟨rfl, e338⟩ := Q338
  replace e338 := e338.symm
  subst e338
  refine g_iloadN C d_jdk_65_method_133_code_5 rfl ?_
  refine g_iloadN C d_jdk_65_method_133_code_6 rfl ?_
  refine g_isub C d_jdk_65_method_133_code_7 ?_
  rw [show ((4 : Int32) - (2 : Int32)) = (2 : Int32) from by decide]
  refine g_istoreN C #[.val (.ref t), .val (.int (2 : Int32)), .val (.int (4 : Int32)), .val (.int (2 : Int32)), .unset] d_jdk_65_method_133_code_8 rfl ?_
  refine g_iloadN C d_jdk_65_method_133_code_9 rfl ?_
  refine g_newarray C (aty := .byte) w_20 d_jdk_65_method_133_code_10 (by decide) 2 (by decide) (by decide) (by decide) (by decide) "[B" rfl ?_
  intro b339 h339 ka339 g339 E339 V339 A339
  replace V339 : Arv Z h339 b339 ka339 .byte (2 : Int32) [(.int (0 : Int32)), (.int (0 : Int32))] (.int (0 : Int32)) := V339.pad (pad_rep [] _ 2)
  refine g_astore C #[.val (.ref t), .val (.int (2 : Int32)), .val (.int (4 : Int32)), .val (.int (2 : Int32)), .val (.ref b339)] d_jdk_65_method_133_code_12 rfl rfl ?_
  refine g_aloadN C d_jdk_65_method_133_code_14 rfl rfl ?_
  refine g_iloadN C d_jdk_65_method_133_code_15 rfl ?_
  refine g_aload C d_jdk_65_method_133_code_16 rfl rfl ?_
  refine g_iconst C 0 d_jdk_65_method_133_code_18 rfl ?_
  refine g_aloadN C d_jdk_65_method_133_code_19 rfl rfl ?_
  have K340 : Keep h0 h339 [] := (Keep.refl h0 []).ext E339
  have V341 := (Vt.keep K340 nin0)
  refine g_arraylength C V341 d_jdk_65_method_133_code_20 ?_
  refine g_iloadN C d_jdk_65_method_133_code_21 rfl ?_
  refine g_isub C d_jdk_65_method_133_code_22 ?_
  rw [show ((4 : Int32) - (2 : Int32)) = (2 : Int32) from by decide]
  refine g_iloadN C d_jdk_65_method_133_code_23 rfl ?_
  refine g_static C w_111 w_112 w_113 w_114 (by decide) [(.int (2 : Int32)), (.int (2 : Int32))] (ct_of hEL hw w_114 w_113 (rm_min l Z a0 hw hEL (2 : Int32) (2 : Int32) h339 n0 )) all0 (by decide) 4 (by decide) rfl pd__II_I rfl [(.int (0 : Int32)), (.ref b339), (.int (2 : Int32)), (.ref t)] rfl (Nat.le_of_eq rfl) d_jdk_65_method_133_code_24 (by decide) (by decide) ?_
  intro v342 h342 Q342
  obtain ⟨ev342, e342⟩ := Q342
  replace e342 := e342.symm
  subst e342
  replace ev342 : v342 = some (.int (2 : Int32)) := ev342.trans (by first | rfl | decide)
  subst ev342
  refine g_arraycopy C w_115 w_118 w_116 w_117 V341 V339 rfl (by decide) (by decide) (by decide) (by decide) (by decide) [(.int (c2.toInt8.toInt32)), (.int (c3.toInt8.toInt32))] rfl (Nat.le_of_ble_eq_true rfl) (List.mem_of_getElem? (i := 0) rfl) rfl d_jdk_65_method_133_code_27 (by decide) 0 (Nat.le_of_eq rfl) (by decide) ?_
  intro h343 KC343 V343
  replace V343 : Arv Z h343 b339 ka339 .byte (2 : Int32) [(.int (c2.toInt8.toInt32)), (.int (c3.toInt8.toInt32))] (.int (0 : Int32)) := V343
  refine g_aload C d_jdk_65_method_133_code_30 rfl rfl ?_
  refine g_areturn C hEL (t := (.array .byte)) rfl rfl rfl d_jdk_65_method_133_code_32 (by decide) (by decide) ?_
  have K344 : Keep h0 h343 [] := K340.trans KC343 (allS (Or.inr (Nat.le_of_eq g339.symm)) all0)
  exact ⟨b339, _, rfl, K344, (Nat.le_of_eq g339.symm), V343⟩
set_option maxRecDepth 65536 in
set_option maxHeartbeats 40000000 in
theorem rm_c04_2_4 (l : Launch) (Z : State) (a0 : Array Value) (hw : ∀ d ∈ tables_1, d.before a0 Z = true) (hEL : EW Z a0 consts_1) {ws : List Jvm.Cond} (t : Addr) (kb : ClassId) (c0 c1 c2 c3 : Int32) (h0 : Heap) (n0 : Nat) (Vt : Arv Z h0 t kb .byte (4 : Int32) [(.int (c0.toInt8.toInt32)), (.int (c1.toInt8.toInt32)), (.int (c2.toInt8.toInt32)), (.int (c3.toInt8.toInt32))] (.int (0 : Int32))) :
    Met l Z consts_1 (⟨"java/util/Arrays", "copyOfRange", "([BII)[B"⟩ : MethodName) jdk_65_method_132_code 3 (some (.array .byte)) ws ({ frames := 2, cells := 1, slots := 8, locals := 36 } : Room) [] #[(.ref t), (.int (2 : Int32)), (.int (4 : Int32))] h0 n0 (nq (fun v h => ∃ b k', v = some (.ref b) ∧ Keep h0 h [] ∧ h0.size ≤ b ∧ Arv Z h b k' .byte (2 : Int32) [(.int (c2.toInt8.toInt32)), (.int (c3.toInt8.toInt32))] (.int (0 : Int32)))) := by
  refine met_of (plainFor_of_name pn_java_util_Arrays) hw #[.val (.ref t), .val (.int (2 : Int32)), .val (.int (4 : Int32))] (fun m => by first | rfl | (simp [entryFrame, mkF, argsToLocals, Value.category]; done)) ?_
  intro p e s m below meth c C0
  have C : Cx Z a0 tables_1 p s m meth c "java/util/Arrays" "copyOfRange" jdk_65_method_132_code 3 (some (.array .byte)) n0 := C0
  refine g_iloadN C d_jdk_65_method_132_code_0 rfl ?_
  refine g_if_t C 10 d_jdk_65_method_132_code_1 (XT.i0_ne_t (by decide)) (by decide) (by decide) ?_
  refine g_aloadN C d_jdk_65_method_132_code_10 rfl rfl ?_
  refine g_iloadN C d_jdk_65_method_132_code_11 rfl ?_
  refine g_iloadN C d_jdk_65_method_132_code_12 rfl ?_
  refine g_static C w_105 w_106 w_103 w_107 (by decide) [(.ref t), (.int (2 : Int32)), (.int (4 : Int32))] (ct_of hEL hw w_107 w_103 (rm_cr4_2_4 l Z a0 hw hEL t _ c0 c1 c2 c3 h0 n0 Vt)) all0 (by decide) 0 (by decide) rfl pd___BII__B rfl [] rfl (Nat.le_of_eq rfl) d_jdk_65_method_132_code_13 (by decide) (by decide) ?_
  intro v345 h345 Q345
  obtain ⟨b345, k345, rfl, KC345, le345, V345⟩ := Q345
  refine g_areturn C hEL (t := (.array .byte)) rfl rfl rfl d_jdk_65_method_132_code_16 (by decide) (by decide) ?_
  have K346 : Keep h0 h345 [] := (Keep.refl h0 []).trans KC345 all0
  exact ⟨b345, _, rfl, K346, le345, V345⟩
set_option maxRecDepth 65536 in
set_option maxHeartbeats 40000000 in
theorem rm_ns4_2_4 (l : Launch) (Z : State) (a0 : Array Value) (hw : ∀ d ∈ tables_1, d.before a0 Z = true) (hEL : EW Z a0 consts_1) {ws : List Jvm.Cond} (t : Addr) (kb : ClassId) (c0 c1 c2 c3 : Int32) (h0 : Heap) (n0 : Nat) (Vt : Arv Z h0 t kb .byte (4 : Int32) [(.int (c0.toInt8.toInt32)), (.int (c1.toInt8.toInt32)), (.int (c2.toInt8.toInt32)), (.int (c3.toInt8.toInt32))] (.int (0 : Int32))) (h_c0 : Ch8 c0) (h_c1 : Ch8 c1) (h_c2 : Ch8 c2) (h_c3 : Ch8 c3) :
    Met l Z consts_1 (⟨"java/lang/StringLatin1", "newString", "([BII)Ljava/lang/String;"⟩ : MethodName) jdk_43_method_47_code 3 (some (.object "java/lang/String")) ws ({ frames := 3, cells := 2, slots := 16, locals := 56 } : Room) [] #[(.ref t), (.int (2 : Int32)), (.int (2 : Int32))] h0 n0 (nq (fun v h => ∃ a t' k', v = some (.ref a) ∧ Keep h0 h [] ∧ Str Z h a t' k' [c2, c3])) := by
  refine met_of (plainFor_of_name pn_java_lang_StringLatin1) hw #[.val (.ref t), .val (.int (2 : Int32)), .val (.int (2 : Int32))] (fun m => by first | rfl | (simp [entryFrame, mkF, argsToLocals, Value.category]; done)) ?_
  intro p e s m below meth c C0
  have C : Cx Z a0 tables_1 p s m meth c "java/lang/StringLatin1" "newString" jdk_43_method_47_code 3 (some (.object "java/lang/String")) n0 := C0
  refine g_iloadN C d_jdk_43_method_47_code_0 rfl ?_
  refine g_if_t C 7 d_jdk_43_method_47_code_1 (XT.i0_ne_t (by decide)) (by decide) (by decide) ?_
  refine g_new C w_100 w_7 w_8 d_jdk_43_method_47_code_7 (by decide) (by decide) ?_
  intro b347 h347 g347 E347 A347 D347
  refine g_dup C d_jdk_43_method_47_code_10 rfl ?_
  refine g_aloadN C d_jdk_43_method_47_code_11 rfl rfl ?_
  refine g_iloadN C d_jdk_43_method_47_code_12 rfl ?_
  refine g_iloadN C d_jdk_43_method_47_code_13 rfl ?_
  refine g_iloadN C d_jdk_43_method_47_code_14 rfl ?_
  refine g_iadd C d_jdk_43_method_47_code_15 ?_
  rw [show ((2 : Int32) + (2 : Int32)) = (4 : Int32) from by decide]
  have K348 : Keep h0 h347 [] := (Keep.refl h0 []).ext E347
  have V349 := (Vt.keep K348 nin0)
  refine g_static C w_101 w_102 w_103 w_104 (by decide) [(.ref t), (.int (2 : Int32)), (.int (4 : Int32))] (ct_of hEL hw w_104 w_103 (rm_c04_2_4 l Z a0 hw hEL t _ c0 c1 c2 c3 h347 n0 V349)) all0 (by decide) 2 (by decide) rfl pd___BII__B rfl [(.ref b347), (.ref b347)] rfl (Nat.le_of_eq rfl) d_jdk_43_method_47_code_16 (by decide) (by decide) ?_
  intro v350 h350 Q350
  obtain ⟨b350, k350, rfl, KC350, le350, V350⟩ := Q350
  refine g_iconst C 0 d_jdk_43_method_47_code_19 rfl ?_
  have K351 : Keep h347 h350 [] := (Keep.refl h347 []).trans KC350 all0
  have E352 := (A347.keep K351)
  have F353 := ((D347 (Or.inr (C.hw w_21)) (ty := (.array .byte)) (by decide)).keep K351 nin0)
  have F354 := ((D347 (Or.inr (C.hw w_22)) (ty := .byte) (by decide)).keep K351 nin0)
  refine g_special C (a := b347) w_119 w_120 w_121 rfl (by decide) [(.ref b350), (.int (0 : Int32))] (ct_of hEL hw w_121 w_8 (rm_sbb l Z a0 hw hEL b347 b350 h350 n0 E352 F353 F354)) (allS (List.mem_of_getElem? (i := 0) rfl) all0) (by decide) 1 (by decide) rfl pd___BB_V rfl [(.ref b347)] rfl (Nat.le_of_eq rfl) d_jdk_43_method_47_code_20 (by decide) (by decide) ?_
  intro v355 h355 Q355
  obtain ⟨rfl, KC355, X355, G1355, G2355⟩ := Q355
  refine g_areturn C hEL (t := (.object "java/lang/String")) rfl rfl rfl d_jdk_43_method_47_code_23 (by decide) (by decide) ?_
  have K356 : Keep h0 h350 [] := K348.trans KC350 all0
  have K357 : Keep h0 h355 [] := K356.trans KC355 (allS (Or.inr (Nat.le_of_eq g347.symm)) all0)
  have V358 := (V350.keep KC355 (ninS (Ne.symm (Nat.ne_of_lt (Nat.lt_of_lt_of_le A347.lt le350))) nin0))
  exact ⟨b347, b350, _, rfl, K357, X355, G1355, G2355, V358, Nat.le_of_ble_eq_true rfl, (own_allc h_c2 (own_allc h_c3 (fun _ q => nomatch q)))⟩
set_option maxRecDepth 65536 in
set_option maxHeartbeats 40000000 in
theorem rm_s24_2_4 (l : Launch) (Z : State) (a0 : Array Value) (hw : ∀ d ∈ tables_1, d.before a0 Z = true) (hEL : EW Z a0 consts_1) {ws : List Jvm.Cond} (s t : Addr) (kb : ClassId) (c0 c1 c2 c3 : Int32) (zc : Int32) (fm : Value) (h0 : Heap) (n0 : Nat) (S0 : Str Z h0 s t kb [c0, c1, c2, c3]) (h_c0 : Ch8 c0) (h_c1 : Ch8 c1) (h_c2 : Ch8 c2) (h_c3 : Ch8 c3) (Szc : Sta Z h0 "java/lang/String" "COMPACT_STRINGS" "Z" (.int zc)) (hzc : ¬ (zc = (0 : Int32))) (Sfm : Sta Z h0 "jdk/internal/util/Preconditions" "SIOOBE_FORMATTER" "Ljava/util/function/BiFunction;" fm) (hfm : fm.isRef = true) :
    Met l Z consts_1 (⟨"java/lang/String", "substring", "(II)Ljava/lang/String;"⟩ : MethodName) jdk_42_method_92_code 5 (some (.object "java/lang/String")) ws ({ frames := 4, cells := 2, slots := 16, locals := 72 } : Room) [] #[(.ref s), (.int (2 : Int32)), (.int (4 : Int32))] h0 n0 (nq (fun v h => ∃ a t' k', v = some (.ref a) ∧ Keep h0 h [] ∧ Str Z h a t' k' [c2, c3])) := by
  refine met_of (plainFor_of_name pn_java_lang_String) hw #[.val (.ref s), .val (.int (2 : Int32)), .val (.int (4 : Int32)), .unset, .unset] (fun m => by first | rfl | (simp [entryFrame, mkF, argsToLocals, Value.category]; done)) ?_
  intro p e sT m below meth c C0
  have C : Cx Z a0 tables_1 p sT m meth c "java/lang/String" "substring" jdk_42_method_92_code 5 (some (.object "java/lang/String")) n0 := C0
  refine g_aloadN C d_jdk_42_method_92_code_0 rfl rfl ?_
  refine g_virtual C S0.1 w_47 w_32 (fun hZ => nf_sel hw w_34 hZ) w_34 w_33 (by decide) [] (ct_len hEL hw S0 Szc hzc) all0 (by decide) 0 (by decide) rfl pd___I rfl [] rfl (Nat.le_of_eq rfl) d_jdk_42_method_92_code_1 (by decide) (by decide) ?_
  intro v359 h359 Q359
  obtain ⟨ev359, e359⟩ := Q359
  replace e359 := e359.symm
  subst e359
  replace ev359 : v359 = some (.int (4 : Int32)) := ev359
  subst ev359
  refine g_istoreN C #[.val (.ref s), .val (.int (2 : Int32)), .val (.int (4 : Int32)), .val (.int (4 : Int32)), .unset] d_jdk_42_method_92_code_4 rfl ?_
  refine g_iloadN C d_jdk_42_method_92_code_5 rfl ?_
  refine g_iloadN C d_jdk_42_method_92_code_6 rfl ?_
  refine g_iloadN C d_jdk_42_method_92_code_7 rfl ?_
  refine g_static C w_53 w_54 w_8 w_55 (by decide) [(.int (2 : Int32)), (.int (4 : Int32)), (.int (4 : Int32))] (ct_of hEL hw w_55 w_8 (rm_cbbe l Z a0 hw hEL (2 : Int32) (4 : Int32) (4 : Int32) fm h0 n0 (by decide) (by decide) (by decide) Sfm hfm)) all0 (by decide) 0 (by decide) rfl pd__III_V rfl [] rfl (Nat.le_of_eq rfl) d_jdk_42_method_92_code_8 (by decide) (by decide) ?_
  intro v360 h360 Q360
  obtain ⟨rfl, e360⟩ := Q360
  replace e360 := e360.symm
  subst e360
  refine g_iloadN C d_jdk_42_method_92_code_11 rfl ?_
  refine g_if_t C 22 d_jdk_42_method_92_code_12 (XT.i0_ne_t (by decide)) (by decide) (by decide) ?_
  refine g_iloadN C d_jdk_42_method_92_code_22 rfl ?_
  refine g_iloadN C d_jdk_42_method_92_code_23 rfl ?_
  refine g_isub C d_jdk_42_method_92_code_24 ?_
  rw [show ((4 : Int32) - (2 : Int32)) = (2 : Int32) from by decide]
  refine g_istore C #[.val (.ref s), .val (.int (2 : Int32)), .val (.int (4 : Int32)), .val (.int (4 : Int32)), .val (.int (2 : Int32))] d_jdk_42_method_92_code_25 rfl ?_
  refine g_aloadN C d_jdk_42_method_92_code_27 rfl rfl ?_
  refine g_virtual C S0.1 w_80 w_81 (fun hZ => nf_sel hw w_83 hZ) w_83 w_82 (by decide) [] (ct_of hEL hw w_84 w_8 (rm_lat l Z a0 hw hEL s zc h0 n0 S0.2.1 Szc hzc)) all0 (by decide) 0 (by decide) rfl pd___Z rfl [] rfl (Nat.le_of_eq rfl) d_jdk_42_method_92_code_28 (by decide) (by decide) ?_
  intro v361 h361 Q361
  obtain ⟨rfl, e361⟩ := Q361
  replace e361 := e361.symm
  subst e361
  refine g_if_f C d_jdk_42_method_92_code_31 (XT.i0_eq_f (by decide)) ?_
  refine g_aloadN C d_jdk_42_method_92_code_34 rfl rfl ?_
  refine g_getfield C w_25 Via.refl S0.2.2.1 d_jdk_42_method_92_code_35 ?_
  refine g_iloadN C d_jdk_42_method_92_code_38 rfl ?_
  refine g_iload C d_jdk_42_method_92_code_39 rfl ?_
  refine g_static C w_96 w_97 w_87 w_98 (by decide) [(.ref t), (.int (2 : Int32)), (.int (2 : Int32))] (ct_of hEL hw w_98 w_87 (rm_ns4_2_4 l Z a0 hw hEL t _ c0 c1 c2 c3 h0 n0 S0.2.2.2.1 h_c0 h_c1 h_c2 h_c3)) all0 (by decide) 0 (by decide) rfl pd___BII_Ljava_lang_String_ rfl [] rfl (Nat.le_of_eq rfl) d_jdk_42_method_92_code_41 (by decide) (by decide) ?_
  intro v362 h362 Q362
  obtain ⟨a362, t362, kb362, rfl, KC362, S362⟩ := Q362
  refine g_goto C 57 d_jdk_42_method_92_code_44 (by decide) (by decide) ?_
  refine g_areturn C hEL (t := (.object "java/lang/String")) rfl rfl rfl d_jdk_42_method_92_code_57 (by decide) (by decide) ?_
  have K363 : Keep h0 h362 [] := (Keep.refl h0 []).trans KC362 all0
  exact ⟨a362, _, _, rfl, K363, S362⟩
set_option maxRecDepth 65536 in
set_option maxHeartbeats 40000000 in
theorem rm_s14_2_4 (l : Launch) (Z : State) (a0 : Array Value) (hw : ∀ d ∈ tables_1, d.before a0 Z = true) (hEL : EW Z a0 consts_1) {ws : List Jvm.Cond} (s t : Addr) (kb : ClassId) (c0 c1 c2 c3 : Int32) (zc : Int32) (fm : Value) (h0 : Heap) (n0 : Nat) (S0 : Str Z h0 s t kb [c0, c1, c2, c3]) (h_c0 : Ch8 c0) (h_c1 : Ch8 c1) (h_c2 : Ch8 c2) (h_c3 : Ch8 c3) (Szc : Sta Z h0 "java/lang/String" "COMPACT_STRINGS" "Z" (.int zc)) (hzc : ¬ (zc = (0 : Int32))) (Sfm : Sta Z h0 "jdk/internal/util/Preconditions" "SIOOBE_FORMATTER" "Ljava/util/function/BiFunction;" fm) (hfm : fm.isRef = true) :
    Met l Z consts_1 (⟨"java/lang/String", "substring", "(I)Ljava/lang/String;"⟩ : MethodName) jdk_42_method_91_code 2 (some (.object "java/lang/String")) ws ({ frames := 5, cells := 2, slots := 16, locals := 90 } : Room) [] #[(.ref s), (.int (2 : Int32))] h0 n0 (nq (fun v h => ∃ a t' k', v = some (.ref a) ∧ Keep h0 h [] ∧ Str Z h a t' k' [c2, c3])) := by
  refine met_of (plainFor_of_name pn_java_lang_String) hw #[.val (.ref s), .val (.int (2 : Int32))] (fun m => by first | rfl | (simp [entryFrame, mkF, argsToLocals, Value.category]; done)) ?_
  intro p e sT m below meth c C0
  have C : Cx Z a0 tables_1 p sT m meth c "java/lang/String" "substring" jdk_42_method_91_code 2 (some (.object "java/lang/String")) n0 := C0
  refine g_aloadN C d_jdk_42_method_91_code_0 rfl rfl ?_
  refine g_iloadN C d_jdk_42_method_91_code_1 rfl ?_
  refine g_aloadN C d_jdk_42_method_91_code_2 rfl rfl ?_
  refine g_virtual C S0.1 w_47 w_32 (fun hZ => nf_sel hw w_34 hZ) w_34 w_33 (by decide) [] (ct_len hEL hw S0 Szc hzc) all0 (by decide) 2 (by decide) rfl pd___I rfl [(.int (2 : Int32)), (.ref s)] rfl (Nat.le_of_eq rfl) d_jdk_42_method_91_code_3 (by decide) (by decide) ?_
  intro v364 h364 Q364
  obtain ⟨ev364, e364⟩ := Q364
  replace e364 := e364.symm
  subst e364
  replace ev364 : v364 = some (.int (4 : Int32)) := ev364
  subst ev364
  refine g_virtual C S0.1 w_48 w_49 (fun hZ => nf_sel hw w_51 hZ) w_51 w_50 (by decide) [(.int (2 : Int32)), (.int (4 : Int32))] (ct_of hEL hw w_52 w_8 (rm_s24_2_4 l Z a0 hw hEL s t _ c0 c1 c2 c3 zc fm h0 n0 S0 h_c0 h_c1 h_c2 h_c3 Szc hzc Sfm hfm)) all0 (by decide) 0 (by decide) rfl pd__II_Ljava_lang_String_ rfl [] rfl (Nat.le_of_eq rfl) d_jdk_42_method_91_code_6 (by decide) (by decide) ?_
  intro v365 h365 Q365
  obtain ⟨a365, t365, kb365, rfl, KC365, S365⟩ := Q365
  refine g_areturn C hEL (t := (.object "java/lang/String")) rfl rfl rfl d_jdk_42_method_91_code_9 (by decide) (by decide) ?_
  have K366 : Keep h0 h365 [] := (Keep.refl h0 []).trans KC365 all0
  exact ⟨a365, _, _, rfl, K366, S365⟩
set_option maxRecDepth 65536 in
set_option maxHeartbeats 40000000 in
theorem rm_cr4_3_4 (l : Launch) (Z : State) (a0 : Array Value) (hw : ∀ d ∈ tables_1, d.before a0 Z = true) (hEL : EW Z a0 consts_1) {ws : List Jvm.Cond} (t : Addr) (kb : ClassId) (c0 c1 c2 c3 : Int32) (h0 : Heap) (n0 : Nat) (Vt : Arv Z h0 t kb .byte (4 : Int32) [(.int (c0.toInt8.toInt32)), (.int (c1.toInt8.toInt32)), (.int (c2.toInt8.toInt32)), (.int (c3.toInt8.toInt32))] (.int (0 : Int32))) :
    Met l Z consts_1 (⟨"java/util/Arrays", "copyOfRangeByte", "([BII)[B"⟩ : MethodName) jdk_65_method_133_code 5 (some (.array .byte)) ws ({ frames := 1, cells := 1, slots := 8, locals := 20 } : Room) [] #[(.ref t), (.int (3 : Int32)), (.int (4 : Int32))] h0 n0 (nq (fun v h => ∃ b k', v = some (.ref b) ∧ Keep h0 h [] ∧ h0.size ≤ b ∧ Arv Z h b k' .byte (1 : Int32) [(.int (c3.toInt8.toInt32))] (.int (0 : Int32)))) := by
  refine met_of (plainFor_of_name pn_java_util_Arrays) hw #[.val (.ref t), .val (.int (3 : Int32)), .val (.int (4 : Int32)), .unset, .unset] (fun m => by first | rfl | (simp [entryFrame, mkF, argsToLocals, Value.category]; done)) ?_
  intro p e s m below meth c C0
  have C : Cx Z a0 tables_1 p s m meth c "java/util/Arrays" "copyOfRangeByte" jdk_65_method_133_code 5 (some (.array .byte)) n0 := C0
  refine g_iloadN C d_jdk_65_method_133_code_0 rfl ?_
  refine g_iloadN C d_jdk_65_method_133_code_1 rfl ?_
  refine g_static C w_108 w_109 w_103 w_110 (by decide) [(.int (3 : Int32)), (.int (4 : Int32))] (ct_of hEL hw w_110 w_103 (rm_cl l Z a0 hw hEL (3 : Int32) (4 : Int32) h0 n0 (by decide))) all0 (by decide) 0 (by decide) rfl pd__II_V rfl [] rfl (Nat.le_of_eq rfl) d_jdk_65_method_133_code_2 (by decide) (by decide) ?_
  intro v367 h367 Q367
  obtain ⟨rfl, e367⟩ := Q367
  replace e367 := e367.symm
  subst e367
  refine g_iloadN C d_jdk_65_method_133_code_5 rfl ?_
  refine g_iloadN C d_jdk_65_method_133_code_6 rfl ?_
  refine g_isub C d_jdk_65_method_133_code_7 ?_
  rw [show ((4 : Int32) - (3 : Int32)) = (1 : Int32) from by decide]
  refine g_istoreN C #[.val (.ref t), .val (.int (3 : Int32)), .val (.int (4 : Int32)), .val (.int (1 : Int32)), .unset] d_jdk_65_method_133_code_8 rfl ?_
  refine g_iloadN C d_jdk_65_method_133_code_9 rfl ?_
  refine g_newarray C (aty := .byte) w_20 d_jdk_65_method_133_code_10 (by decide) 1 (by decide) (by decide) (by decide) (by decide) "[B" rfl ?_
  intro b368 h368 ka368 g368 E368 V368 A368
  replace V368 : Arv Z h368 b368 ka368 .byte (1 : Int32) [(.int (0 : Int32))] (.int (0 : Int32)) := V368.pad (pad_rep [] _ 1)
  refine g_astore C #[.val (.ref t), .val (.int (3 : Int32)), .val (.int (4 : Int32)), .val (.int (1 : Int32)), .val (.ref b368)] d_jdk_65_method_133_code_12 rfl rfl ?_
  refine g_aloadN C d_jdk_65_method_133_code_14 rfl rfl ?_
  refine g_iloadN C d_jdk_65_method_133_code_15 rfl ?_
  refine g_aload C d_jdk_65_method_133_code_16 rfl rfl ?_
  refine g_iconst C 0 d_jdk_65_method_133_code_18 rfl ?_
  refine g_aloadN C d_jdk_65_method_133_code_19 rfl rfl ?_
  have K369 : Keep h0 h368 [] := (Keep.refl h0 []).ext E368
  have V370 := (Vt.keep K369 nin0)
  refine g_arraylength C V370 d_jdk_65_method_133_code_20 ?_
  refine g_iloadN C d_jdk_65_method_133_code_21 rfl ?_
  refine g_isub C d_jdk_65_method_133_code_22 ?_
  rw [show ((4 : Int32) - (3 : Int32)) = (1 : Int32) from by decide]
  refine g_iloadN C d_jdk_65_method_133_code_23 rfl ?_
  refine g_static C w_111 w_112 w_113 w_114 (by decide) [(.int (1 : Int32)), (.int (1 : Int32))] (ct_of hEL hw w_114 w_113 (rm_min l Z a0 hw hEL (1 : Int32) (1 : Int32) h368 n0 )) all0 (by decide) 4 (by decide) rfl pd__II_I rfl [(.int (0 : Int32)), (.ref b368), (.int (3 : Int32)), (.ref t)] rfl (Nat.le_of_eq rfl) d_jdk_65_method_133_code_24 (by decide) (by decide) ?_
  intro v371 h371 Q371
  obtain ⟨ev371, e371⟩ := Q371
  replace e371 := e371.symm
  subst e371
  replace ev371 : v371 = some (.int (1 : Int32)) := ev371.trans (by first | rfl | decide)
  subst ev371
  refine g_arraycopy C w_115 w_118 w_116 w_117 V370 V368 rfl (by decide) (by decide) (by decide) (by decide) (by decide) [(.int (c3.toInt8.toInt32))] rfl (Nat.le_of_ble_eq_true rfl) (List.mem_of_getElem? (i := 0) rfl) rfl d_jdk_65_method_133_code_27 (by decide) 0 (Nat.le_of_eq rfl) (by decide) ?_
  intro h372 KC372 V372
  replace V372 : Arv Z h372 b368 ka368 .byte (1 : Int32) [(.int (c3.toInt8.toInt32))] (.int (0 : Int32)) := V372
  refine g_aload C d_jdk_65_method_133_code_30 rfl rfl ?_
  refine g_areturn C hEL (t := (.array .byte)) rfl rfl rfl d_jdk_65_method_133_code_32 (by decide) (by decide) ?_
  have K373 : Keep h0 h372 [] := K369.trans KC372 (allS (Or.inr (Nat.le_of_eq g368.symm)) all0)
  exact ⟨b368, _, rfl, K373, (Nat.le_of_eq g368.symm), V372⟩
set_option maxRecDepth 65536 in
set_option maxHeartbeats 40000000 in
theorem rm_c04_3_4 (l : Launch) (Z : State) (a0 : Array Value) (hw : ∀ d ∈ tables_1, d.before a0 Z = true) (hEL : EW Z a0 consts_1) {ws : List Jvm.Cond} (t : Addr) (kb : ClassId) (c0 c1 c2 c3 : Int32) (h0 : Heap) (n0 : Nat) (Vt : Arv Z h0 t kb .byte (4 : Int32) [(.int (c0.toInt8.toInt32)), (.int (c1.toInt8.toInt32)), (.int (c2.toInt8.toInt32)), (.int (c3.toInt8.toInt32))] (.int (0 : Int32))) :
    Met l Z consts_1 (⟨"java/util/Arrays", "copyOfRange", "([BII)[B"⟩ : MethodName) jdk_65_method_132_code 3 (some (.array .byte)) ws ({ frames := 2, cells := 1, slots := 8, locals := 36 } : Room) [] #[(.ref t), (.int (3 : Int32)), (.int (4 : Int32))] h0 n0 (nq (fun v h => ∃ b k', v = some (.ref b) ∧ Keep h0 h [] ∧ h0.size ≤ b ∧ Arv Z h b k' .byte (1 : Int32) [(.int (c3.toInt8.toInt32))] (.int (0 : Int32)))) := by
  refine met_of (plainFor_of_name pn_java_util_Arrays) hw #[.val (.ref t), .val (.int (3 : Int32)), .val (.int (4 : Int32))] (fun m => by first | rfl | (simp [entryFrame, mkF, argsToLocals, Value.category]; done)) ?_
  intro p e s m below meth c C0
  have C : Cx Z a0 tables_1 p s m meth c "java/util/Arrays" "copyOfRange" jdk_65_method_132_code 3 (some (.array .byte)) n0 := C0
  refine g_iloadN C d_jdk_65_method_132_code_0 rfl ?_
  refine g_if_t C 10 d_jdk_65_method_132_code_1 (XT.i0_ne_t (by decide)) (by decide) (by decide) ?_
  refine g_aloadN C d_jdk_65_method_132_code_10 rfl rfl ?_
  refine g_iloadN C d_jdk_65_method_132_code_11 rfl ?_
  refine g_iloadN C d_jdk_65_method_132_code_12 rfl ?_
  refine g_static C w_105 w_106 w_103 w_107 (by decide) [(.ref t), (.int (3 : Int32)), (.int (4 : Int32))] (ct_of hEL hw w_107 w_103 (rm_cr4_3_4 l Z a0 hw hEL t _ c0 c1 c2 c3 h0 n0 Vt)) all0 (by decide) 0 (by decide) rfl pd___BII__B rfl [] rfl (Nat.le_of_eq rfl) d_jdk_65_method_132_code_13 (by decide) (by decide) ?_
  intro v374 h374 Q374
  obtain ⟨b374, k374, rfl, KC374, le374, V374⟩ := Q374
  refine g_areturn C hEL (t := (.array .byte)) rfl rfl rfl d_jdk_65_method_132_code_16 (by decide) (by decide) ?_
  have K375 : Keep h0 h374 [] := (Keep.refl h0 []).trans KC374 all0
  exact ⟨b374, _, rfl, K375, le374, V374⟩
set_option maxRecDepth 65536 in
set_option maxHeartbeats 40000000 in
theorem rm_ns4_3_4 (l : Launch) (Z : State) (a0 : Array Value) (hw : ∀ d ∈ tables_1, d.before a0 Z = true) (hEL : EW Z a0 consts_1) {ws : List Jvm.Cond} (t : Addr) (kb : ClassId) (c0 c1 c2 c3 : Int32) (h0 : Heap) (n0 : Nat) (Vt : Arv Z h0 t kb .byte (4 : Int32) [(.int (c0.toInt8.toInt32)), (.int (c1.toInt8.toInt32)), (.int (c2.toInt8.toInt32)), (.int (c3.toInt8.toInt32))] (.int (0 : Int32))) (h_c0 : Ch8 c0) (h_c1 : Ch8 c1) (h_c2 : Ch8 c2) (h_c3 : Ch8 c3) :
    Met l Z consts_1 (⟨"java/lang/StringLatin1", "newString", "([BII)Ljava/lang/String;"⟩ : MethodName) jdk_43_method_47_code 3 (some (.object "java/lang/String")) ws ({ frames := 3, cells := 2, slots := 16, locals := 56 } : Room) [] #[(.ref t), (.int (3 : Int32)), (.int (1 : Int32))] h0 n0 (nq (fun v h => ∃ a t' k', v = some (.ref a) ∧ Keep h0 h [] ∧ Str Z h a t' k' [c3])) := by
  refine met_of (plainFor_of_name pn_java_lang_StringLatin1) hw #[.val (.ref t), .val (.int (3 : Int32)), .val (.int (1 : Int32))] (fun m => by first | rfl | (simp [entryFrame, mkF, argsToLocals, Value.category]; done)) ?_
  intro p e s m below meth c C0
  have C : Cx Z a0 tables_1 p s m meth c "java/lang/StringLatin1" "newString" jdk_43_method_47_code 3 (some (.object "java/lang/String")) n0 := C0
  refine g_iloadN C d_jdk_43_method_47_code_0 rfl ?_
  refine g_if_t C 7 d_jdk_43_method_47_code_1 (XT.i0_ne_t (by decide)) (by decide) (by decide) ?_
  refine g_new C w_100 w_7 w_8 d_jdk_43_method_47_code_7 (by decide) (by decide) ?_
  intro b376 h376 g376 E376 A376 D376
  refine g_dup C d_jdk_43_method_47_code_10 rfl ?_
  refine g_aloadN C d_jdk_43_method_47_code_11 rfl rfl ?_
  refine g_iloadN C d_jdk_43_method_47_code_12 rfl ?_
  refine g_iloadN C d_jdk_43_method_47_code_13 rfl ?_
  refine g_iloadN C d_jdk_43_method_47_code_14 rfl ?_
  refine g_iadd C d_jdk_43_method_47_code_15 ?_
  rw [show ((3 : Int32) + (1 : Int32)) = (4 : Int32) from by decide]
  have K377 : Keep h0 h376 [] := (Keep.refl h0 []).ext E376
  have V378 := (Vt.keep K377 nin0)
  refine g_static C w_101 w_102 w_103 w_104 (by decide) [(.ref t), (.int (3 : Int32)), (.int (4 : Int32))] (ct_of hEL hw w_104 w_103 (rm_c04_3_4 l Z a0 hw hEL t _ c0 c1 c2 c3 h376 n0 V378)) all0 (by decide) 2 (by decide) rfl pd___BII__B rfl [(.ref b376), (.ref b376)] rfl (Nat.le_of_eq rfl) d_jdk_43_method_47_code_16 (by decide) (by decide) ?_
  intro v379 h379 Q379
  obtain ⟨b379, k379, rfl, KC379, le379, V379⟩ := Q379
  refine g_iconst C 0 d_jdk_43_method_47_code_19 rfl ?_
  have K380 : Keep h376 h379 [] := (Keep.refl h376 []).trans KC379 all0
  have E381 := (A376.keep K380)
  have F382 := ((D376 (Or.inr (C.hw w_21)) (ty := (.array .byte)) (by decide)).keep K380 nin0)
  have F383 := ((D376 (Or.inr (C.hw w_22)) (ty := .byte) (by decide)).keep K380 nin0)
  refine g_special C (a := b376) w_119 w_120 w_121 rfl (by decide) [(.ref b379), (.int (0 : Int32))] (ct_of hEL hw w_121 w_8 (rm_sbb l Z a0 hw hEL b376 b379 h379 n0 E381 F382 F383)) (allS (List.mem_of_getElem? (i := 0) rfl) all0) (by decide) 1 (by decide) rfl pd___BB_V rfl [(.ref b376)] rfl (Nat.le_of_eq rfl) d_jdk_43_method_47_code_20 (by decide) (by decide) ?_
  intro v384 h384 Q384
  obtain ⟨rfl, KC384, X384, G1384, G2384⟩ := Q384
  refine g_areturn C hEL (t := (.object "java/lang/String")) rfl rfl rfl d_jdk_43_method_47_code_23 (by decide) (by decide) ?_
  have K385 : Keep h0 h379 [] := K377.trans KC379 all0
  have K386 : Keep h0 h384 [] := K385.trans KC384 (allS (Or.inr (Nat.le_of_eq g376.symm)) all0)
  have V387 := (V379.keep KC384 (ninS (Ne.symm (Nat.ne_of_lt (Nat.lt_of_lt_of_le A376.lt le379))) nin0))
  exact ⟨b376, b379, _, rfl, K386, X384, G1384, G2384, V387, Nat.le_of_ble_eq_true rfl, (own_allc h_c3 (fun _ q => nomatch q))⟩
set_option maxRecDepth 65536 in
set_option maxHeartbeats 40000000 in
theorem rm_s24_3_4 (l : Launch) (Z : State) (a0 : Array Value) (hw : ∀ d ∈ tables_1, d.before a0 Z = true) (hEL : EW Z a0 consts_1) {ws : List Jvm.Cond} (s t : Addr) (kb : ClassId) (c0 c1 c2 c3 : Int32) (zc : Int32) (fm : Value) (h0 : Heap) (n0 : Nat) (S0 : Str Z h0 s t kb [c0, c1, c2, c3]) (h_c0 : Ch8 c0) (h_c1 : Ch8 c1) (h_c2 : Ch8 c2) (h_c3 : Ch8 c3) (Szc : Sta Z h0 "java/lang/String" "COMPACT_STRINGS" "Z" (.int zc)) (hzc : ¬ (zc = (0 : Int32))) (Sfm : Sta Z h0 "jdk/internal/util/Preconditions" "SIOOBE_FORMATTER" "Ljava/util/function/BiFunction;" fm) (hfm : fm.isRef = true) :
    Met l Z consts_1 (⟨"java/lang/String", "substring", "(II)Ljava/lang/String;"⟩ : MethodName) jdk_42_method_92_code 5 (some (.object "java/lang/String")) ws ({ frames := 4, cells := 2, slots := 16, locals := 72 } : Room) [] #[(.ref s), (.int (3 : Int32)), (.int (4 : Int32))] h0 n0 (nq (fun v h => ∃ a t' k', v = some (.ref a) ∧ Keep h0 h [] ∧ Str Z h a t' k' [c3])) := by
  refine met_of (plainFor_of_name pn_java_lang_String) hw #[.val (.ref s), .val (.int (3 : Int32)), .val (.int (4 : Int32)), .unset, .unset] (fun m => by first | rfl | (simp [entryFrame, mkF, argsToLocals, Value.category]; done)) ?_
  intro p e sT m below meth c C0
  have C : Cx Z a0 tables_1 p sT m meth c "java/lang/String" "substring" jdk_42_method_92_code 5 (some (.object "java/lang/String")) n0 := C0
  refine g_aloadN C d_jdk_42_method_92_code_0 rfl rfl ?_
  refine g_virtual C S0.1 w_47 w_32 (fun hZ => nf_sel hw w_34 hZ) w_34 w_33 (by decide) [] (ct_len hEL hw S0 Szc hzc) all0 (by decide) 0 (by decide) rfl pd___I rfl [] rfl (Nat.le_of_eq rfl) d_jdk_42_method_92_code_1 (by decide) (by decide) ?_
  intro v388 h388 Q388
  obtain ⟨ev388, e388⟩ := Q388
  replace e388 := e388.symm
  subst e388
  replace ev388 : v388 = some (.int (4 : Int32)) := ev388
  subst ev388
  refine g_istoreN C #[.val (.ref s), .val (.int (3 : Int32)), .val (.int (4 : Int32)), .val (.int (4 : Int32)), .unset] d_jdk_42_method_92_code_4 rfl ?_
  refine g_iloadN C d_jdk_42_method_92_code_5 rfl ?_
  refine g_iloadN C d_jdk_42_method_92_code_6 rfl ?_
  refine g_iloadN C d_jdk_42_method_92_code_7 rfl ?_
  refine g_static C w_53 w_54 w_8 w_55 (by decide) [(.int (3 : Int32)), (.int (4 : Int32)), (.int (4 : Int32))] (ct_of hEL hw w_55 w_8 (rm_cbbe l Z a0 hw hEL (3 : Int32) (4 : Int32) (4 : Int32) fm h0 n0 (by decide) (by decide) (by decide) Sfm hfm)) all0 (by decide) 0 (by decide) rfl pd__III_V rfl [] rfl (Nat.le_of_eq rfl) d_jdk_42_method_92_code_8 (by decide) (by decide) ?_
  intro v389 h389 Q389
  obtain ⟨rfl, e389⟩ := Q389
  replace e389 := e389.symm
  subst e389
  refine g_iloadN C d_jdk_42_method_92_code_11 rfl ?_
  refine g_if_t C 22 d_jdk_42_method_92_code_12 (XT.i0_ne_t (by decide)) (by decide) (by decide) ?_
  refine g_iloadN C d_jdk_42_method_92_code_22 rfl ?_
  refine g_iloadN C d_jdk_42_method_92_code_23 rfl ?_
  refine g_isub C d_jdk_42_method_92_code_24 ?_
  rw [show ((4 : Int32) - (3 : Int32)) = (1 : Int32) from by decide]
  refine g_istore C #[.val (.ref s), .val (.int (3 : Int32)), .val (.int (4 : Int32)), .val (.int (4 : Int32)), .val (.int (1 : Int32))] d_jdk_42_method_92_code_25 rfl ?_
  refine g_aloadN C d_jdk_42_method_92_code_27 rfl rfl ?_
  refine g_virtual C S0.1 w_80 w_81 (fun hZ => nf_sel hw w_83 hZ) w_83 w_82 (by decide) [] (ct_of hEL hw w_84 w_8 (rm_lat l Z a0 hw hEL s zc h0 n0 S0.2.1 Szc hzc)) all0 (by decide) 0 (by decide) rfl pd___Z rfl [] rfl (Nat.le_of_eq rfl) d_jdk_42_method_92_code_28 (by decide) (by decide) ?_
  intro v390 h390 Q390
  obtain ⟨rfl, e390⟩ := Q390
  replace e390 := e390.symm
  subst e390
  refine g_if_f C d_jdk_42_method_92_code_31 (XT.i0_eq_f (by decide)) ?_
  refine g_aloadN C d_jdk_42_method_92_code_34 rfl rfl ?_
  refine g_getfield C w_25 Via.refl S0.2.2.1 d_jdk_42_method_92_code_35 ?_
  refine g_iloadN C d_jdk_42_method_92_code_38 rfl ?_
  refine g_iload C d_jdk_42_method_92_code_39 rfl ?_
  refine g_static C w_96 w_97 w_87 w_98 (by decide) [(.ref t), (.int (3 : Int32)), (.int (1 : Int32))] (ct_of hEL hw w_98 w_87 (rm_ns4_3_4 l Z a0 hw hEL t _ c0 c1 c2 c3 h0 n0 S0.2.2.2.1 h_c0 h_c1 h_c2 h_c3)) all0 (by decide) 0 (by decide) rfl pd___BII_Ljava_lang_String_ rfl [] rfl (Nat.le_of_eq rfl) d_jdk_42_method_92_code_41 (by decide) (by decide) ?_
  intro v391 h391 Q391
  obtain ⟨a391, t391, kb391, rfl, KC391, S391⟩ := Q391
  refine g_goto C 57 d_jdk_42_method_92_code_44 (by decide) (by decide) ?_
  refine g_areturn C hEL (t := (.object "java/lang/String")) rfl rfl rfl d_jdk_42_method_92_code_57 (by decide) (by decide) ?_
  have K392 : Keep h0 h391 [] := (Keep.refl h0 []).trans KC391 all0
  exact ⟨a391, _, _, rfl, K392, S391⟩
set_option maxRecDepth 65536 in
set_option maxHeartbeats 40000000 in
theorem rm_s14_3_4 (l : Launch) (Z : State) (a0 : Array Value) (hw : ∀ d ∈ tables_1, d.before a0 Z = true) (hEL : EW Z a0 consts_1) {ws : List Jvm.Cond} (s t : Addr) (kb : ClassId) (c0 c1 c2 c3 : Int32) (zc : Int32) (fm : Value) (h0 : Heap) (n0 : Nat) (S0 : Str Z h0 s t kb [c0, c1, c2, c3]) (h_c0 : Ch8 c0) (h_c1 : Ch8 c1) (h_c2 : Ch8 c2) (h_c3 : Ch8 c3) (Szc : Sta Z h0 "java/lang/String" "COMPACT_STRINGS" "Z" (.int zc)) (hzc : ¬ (zc = (0 : Int32))) (Sfm : Sta Z h0 "jdk/internal/util/Preconditions" "SIOOBE_FORMATTER" "Ljava/util/function/BiFunction;" fm) (hfm : fm.isRef = true) :
    Met l Z consts_1 (⟨"java/lang/String", "substring", "(I)Ljava/lang/String;"⟩ : MethodName) jdk_42_method_91_code 2 (some (.object "java/lang/String")) ws ({ frames := 5, cells := 2, slots := 16, locals := 90 } : Room) [] #[(.ref s), (.int (3 : Int32))] h0 n0 (nq (fun v h => ∃ a t' k', v = some (.ref a) ∧ Keep h0 h [] ∧ Str Z h a t' k' [c3])) := by
  refine met_of (plainFor_of_name pn_java_lang_String) hw #[.val (.ref s), .val (.int (3 : Int32))] (fun m => by first | rfl | (simp [entryFrame, mkF, argsToLocals, Value.category]; done)) ?_
  intro p e sT m below meth c C0
  have C : Cx Z a0 tables_1 p sT m meth c "java/lang/String" "substring" jdk_42_method_91_code 2 (some (.object "java/lang/String")) n0 := C0
  refine g_aloadN C d_jdk_42_method_91_code_0 rfl rfl ?_
  refine g_iloadN C d_jdk_42_method_91_code_1 rfl ?_
  refine g_aloadN C d_jdk_42_method_91_code_2 rfl rfl ?_
  refine g_virtual C S0.1 w_47 w_32 (fun hZ => nf_sel hw w_34 hZ) w_34 w_33 (by decide) [] (ct_len hEL hw S0 Szc hzc) all0 (by decide) 2 (by decide) rfl pd___I rfl [(.int (3 : Int32)), (.ref s)] rfl (Nat.le_of_eq rfl) d_jdk_42_method_91_code_3 (by decide) (by decide) ?_
  intro v393 h393 Q393
  obtain ⟨ev393, e393⟩ := Q393
  replace e393 := e393.symm
  subst e393
  replace ev393 : v393 = some (.int (4 : Int32)) := ev393
  subst ev393
  refine g_virtual C S0.1 w_48 w_49 (fun hZ => nf_sel hw w_51 hZ) w_51 w_50 (by decide) [(.int (3 : Int32)), (.int (4 : Int32))] (ct_of hEL hw w_52 w_8 (rm_s24_3_4 l Z a0 hw hEL s t _ c0 c1 c2 c3 zc fm h0 n0 S0 h_c0 h_c1 h_c2 h_c3 Szc hzc Sfm hfm)) all0 (by decide) 0 (by decide) rfl pd__II_Ljava_lang_String_ rfl [] rfl (Nat.le_of_eq rfl) d_jdk_42_method_91_code_6 (by decide) (by decide) ?_
  intro v394 h394 Q394
  obtain ⟨a394, t394, kb394, rfl, KC394, S394⟩ := Q394
  refine g_areturn C hEL (t := (.object "java/lang/String")) rfl rfl rfl d_jdk_42_method_91_code_9 (by decide) (by decide) ?_
  have K395 : Keep h0 h394 [] := (Keep.refl h0 []).trans KC394 all0
  exact ⟨a394, _, _, rfl, K395, S394⟩
set_option maxRecDepth 65536 in
set_option maxHeartbeats 40000000 in
theorem rm_ns4_4_4 (l : Launch) (Z : State) (a0 : Array Value) (hw : ∀ d ∈ tables_1, d.before a0 Z = true) (hEL : EW Z a0 consts_1) {ws : List Jvm.Cond} (t : Addr) (kb : ClassId) (c0 c1 c2 c3 : Int32) (h0 : Heap) (n0 : Nat) (Vt : Arv Z h0 t kb .byte (4 : Int32) [(.int (c0.toInt8.toInt32)), (.int (c1.toInt8.toInt32)), (.int (c2.toInt8.toInt32)), (.int (c3.toInt8.toInt32))] (.int (0 : Int32))) (h_c0 : Ch8 c0) (h_c1 : Ch8 c1) (h_c2 : Ch8 c2) (h_c3 : Ch8 c3) :
    Met l Z consts_1 (⟨"java/lang/StringLatin1", "newString", "([BII)Ljava/lang/String;"⟩ : MethodName) jdk_43_method_47_code 3 (some (.object "java/lang/String")) ws ({ frames := 3, cells := 2, slots := 16, locals := 56 } : Room) [] #[(.ref t), (.int (4 : Int32)), (.int (0 : Int32))] h0 n0 (nq (fun v h => ∃ a t' k', v = some (.ref a) ∧ Keep h0 h [] ∧ Str Z h a t' k' [])) := by
  refine met_of (plainFor_of_name pn_java_lang_StringLatin1) hw #[.val (.ref t), .val (.int (4 : Int32)), .val (.int (0 : Int32))] (fun m => by first | rfl | (simp [entryFrame, mkF, argsToLocals, Value.category]; done)) ?_
  intro p e s m below meth c C0
  have C : Cx Z a0 tables_1 p s m meth c "java/lang/StringLatin1" "newString" jdk_43_method_47_code 3 (some (.object "java/lang/String")) n0 := C0
  refine g_iloadN C d_jdk_43_method_47_code_0 rfl ?_
  refine g_if_f C d_jdk_43_method_47_code_1 (XT.i0_ne_f (by decide)) ?_
  refine g_ldcS C hEL w_99 own_sA (List.mem_of_getElem? (i := 1) rfl) [] ⟨by decide +kernel, by decide +kernel⟩ (by decide) (by decide) d_jdk_43_method_47_code_4 0 (by decide +kernel) (by decide) (by decide) (by decide) ?_
  intro a396 t396 kb396 h396 E396 S396 X396
  refine g_areturn C hEL (t := (.object "java/lang/String")) rfl rfl rfl d_jdk_43_method_47_code_6 (by decide) (by decide) ?_
  have K397 : Keep h0 h396 [] := (Keep.refl h0 []).ext E396
  exact ⟨a396, _, _, rfl, K397, S396⟩
set_option maxRecDepth 65536 in
set_option maxHeartbeats 40000000 in
theorem rm_s24_4_4 (l : Launch) (Z : State) (a0 : Array Value) (hw : ∀ d ∈ tables_1, d.before a0 Z = true) (hEL : EW Z a0 consts_1) {ws : List Jvm.Cond} (s t : Addr) (kb : ClassId) (c0 c1 c2 c3 : Int32) (zc : Int32) (fm : Value) (h0 : Heap) (n0 : Nat) (S0 : Str Z h0 s t kb [c0, c1, c2, c3]) (h_c0 : Ch8 c0) (h_c1 : Ch8 c1) (h_c2 : Ch8 c2) (h_c3 : Ch8 c3) (Szc : Sta Z h0 "java/lang/String" "COMPACT_STRINGS" "Z" (.int zc)) (hzc : ¬ (zc = (0 : Int32))) (Sfm : Sta Z h0 "jdk/internal/util/Preconditions" "SIOOBE_FORMATTER" "Ljava/util/function/BiFunction;" fm) (hfm : fm.isRef = true) :
    Met l Z consts_1 (⟨"java/lang/String", "substring", "(II)Ljava/lang/String;"⟩ : MethodName) jdk_42_method_92_code 5 (some (.object "java/lang/String")) ws ({ frames := 4, cells := 2, slots := 16, locals := 72 } : Room) [] #[(.ref s), (.int (4 : Int32)), (.int (4 : Int32))] h0 n0 (nq (fun v h => ∃ a t' k', v = some (.ref a) ∧ Keep h0 h [] ∧ Str Z h a t' k' [])) := by
  refine met_of (plainFor_of_name pn_java_lang_String) hw #[.val (.ref s), .val (.int (4 : Int32)), .val (.int (4 : Int32)), .unset, .unset] (fun m => by first | rfl | (simp [entryFrame, mkF, argsToLocals, Value.category]; done)) ?_
  intro p e sT m below meth c C0
  have C : Cx Z a0 tables_1 p sT m meth c "java/lang/String" "substring" jdk_42_method_92_code 5 (some (.object "java/lang/String")) n0 := C0
  refine g_aloadN C d_jdk_42_method_92_code_0 rfl rfl ?_
  refine g_virtual C S0.1 w_47 w_32 (fun hZ => nf_sel hw w_34 hZ) w_34 w_33 (by decide) [] (ct_len hEL hw S0 Szc hzc) all0 (by decide) 0 (by decide) rfl pd___I rfl [] rfl (Nat.le_of_eq rfl) d_jdk_42_method_92_code_1 (by decide) (by decide) ?_
  intro v398 h398 Q398
  obtain ⟨ev398, e398⟩ := Q398
  replace e398 := e398.symm
  subst e398
  replace ev398 : v398 = some (.int (4 : Int32)) := ev398
  subst ev398
  refine g_istoreN C #[.val (.ref s), .val (.int (4 : Int32)), .val (.int (4 : Int32)), .val (.int (4 : Int32)), .unset] d_jdk_42_method_92_code_4 rfl ?_
  refine g_iloadN C d_jdk_42_method_92_code_5 rfl ?_
  refine g_iloadN C d_jdk_42_method_92_code_6 rfl ?_
  refine g_iloadN C d_jdk_42_method_92_code_7 rfl ?_
  refine g_static C w_53 w_54 w_8 w_55 (by decide) [(.int (4 : Int32)), (.int (4 : Int32)), (.int (4 : Int32))] (ct_of hEL hw w_55 w_8 (rm_cbbe l Z a0 hw hEL (4 : Int32) (4 : Int32) (4 : Int32) fm h0 n0 (by decide) (by decide) (by decide) Sfm hfm)) all0 (by decide) 0 (by decide) rfl pd__III_V rfl [] rfl (Nat.le_of_eq rfl) d_jdk_42_method_92_code_8 (by decide) (by decide) ?_
  intro v399 h399 Q399
  obtain ⟨rfl, e399⟩ := Q399
  replace e399 := e399.symm
  subst e399
  refine g_iloadN C d_jdk_42_method_92_code_11 rfl ?_
  refine g_if_t C 22 d_jdk_42_method_92_code_12 (XT.i0_ne_t (by decide)) (by decide) (by decide) ?_
  refine g_iloadN C d_jdk_42_method_92_code_22 rfl ?_
  refine g_iloadN C d_jdk_42_method_92_code_23 rfl ?_
  refine g_isub C d_jdk_42_method_92_code_24 ?_
  rw [show ((4 : Int32) - (4 : Int32)) = (0 : Int32) from by decide]
  refine g_istore C #[.val (.ref s), .val (.int (4 : Int32)), .val (.int (4 : Int32)), .val (.int (4 : Int32)), .val (.int (0 : Int32))] d_jdk_42_method_92_code_25 rfl ?_
  refine g_aloadN C d_jdk_42_method_92_code_27 rfl rfl ?_
  refine g_virtual C S0.1 w_80 w_81 (fun hZ => nf_sel hw w_83 hZ) w_83 w_82 (by decide) [] (ct_of hEL hw w_84 w_8 (rm_lat l Z a0 hw hEL s zc h0 n0 S0.2.1 Szc hzc)) all0 (by decide) 0 (by decide) rfl pd___Z rfl [] rfl (Nat.le_of_eq rfl) d_jdk_42_method_92_code_28 (by decide) (by decide) ?_
  intro v400 h400 Q400
  obtain ⟨rfl, e400⟩ := Q400
  replace e400 := e400.symm
  subst e400
  refine g_if_f C d_jdk_42_method_92_code_31 (XT.i0_eq_f (by decide)) ?_
  refine g_aloadN C d_jdk_42_method_92_code_34 rfl rfl ?_
  refine g_getfield C w_25 Via.refl S0.2.2.1 d_jdk_42_method_92_code_35 ?_
  refine g_iloadN C d_jdk_42_method_92_code_38 rfl ?_
  refine g_iload C d_jdk_42_method_92_code_39 rfl ?_
  refine g_static C w_96 w_97 w_87 w_98 (by decide) [(.ref t), (.int (4 : Int32)), (.int (0 : Int32))] (ct_of hEL hw w_98 w_87 (rm_ns4_4_4 l Z a0 hw hEL t _ c0 c1 c2 c3 h0 n0 S0.2.2.2.1 h_c0 h_c1 h_c2 h_c3)) all0 (by decide) 0 (by decide) rfl pd___BII_Ljava_lang_String_ rfl [] rfl (Nat.le_of_eq rfl) d_jdk_42_method_92_code_41 (by decide) (by decide) ?_
  intro v401 h401 Q401
  obtain ⟨a401, t401, kb401, rfl, KC401, S401⟩ := Q401
  refine g_goto C 57 d_jdk_42_method_92_code_44 (by decide) (by decide) ?_
  refine g_areturn C hEL (t := (.object "java/lang/String")) rfl rfl rfl d_jdk_42_method_92_code_57 (by decide) (by decide) ?_
  have K402 : Keep h0 h401 [] := (Keep.refl h0 []).trans KC401 all0
  exact ⟨a401, _, _, rfl, K402, S401⟩
set_option maxRecDepth 65536 in
set_option maxHeartbeats 40000000 in
theorem rm_s14_4_4 (l : Launch) (Z : State) (a0 : Array Value) (hw : ∀ d ∈ tables_1, d.before a0 Z = true) (hEL : EW Z a0 consts_1) {ws : List Jvm.Cond} (s t : Addr) (kb : ClassId) (c0 c1 c2 c3 : Int32) (zc : Int32) (fm : Value) (h0 : Heap) (n0 : Nat) (S0 : Str Z h0 s t kb [c0, c1, c2, c3]) (h_c0 : Ch8 c0) (h_c1 : Ch8 c1) (h_c2 : Ch8 c2) (h_c3 : Ch8 c3) (Szc : Sta Z h0 "java/lang/String" "COMPACT_STRINGS" "Z" (.int zc)) (hzc : ¬ (zc = (0 : Int32))) (Sfm : Sta Z h0 "jdk/internal/util/Preconditions" "SIOOBE_FORMATTER" "Ljava/util/function/BiFunction;" fm) (hfm : fm.isRef = true) :
    Met l Z consts_1 (⟨"java/lang/String", "substring", "(I)Ljava/lang/String;"⟩ : MethodName) jdk_42_method_91_code 2 (some (.object "java/lang/String")) ws ({ frames := 5, cells := 2, slots := 16, locals := 90 } : Room) [] #[(.ref s), (.int (4 : Int32))] h0 n0 (nq (fun v h => ∃ a t' k', v = some (.ref a) ∧ Keep h0 h [] ∧ Str Z h a t' k' [])) := by
  refine met_of (plainFor_of_name pn_java_lang_String) hw #[.val (.ref s), .val (.int (4 : Int32))] (fun m => by first | rfl | (simp [entryFrame, mkF, argsToLocals, Value.category]; done)) ?_
  intro p e sT m below meth c C0
  have C : Cx Z a0 tables_1 p sT m meth c "java/lang/String" "substring" jdk_42_method_91_code 2 (some (.object "java/lang/String")) n0 := C0
  refine g_aloadN C d_jdk_42_method_91_code_0 rfl rfl ?_
  refine g_iloadN C d_jdk_42_method_91_code_1 rfl ?_
  refine g_aloadN C d_jdk_42_method_91_code_2 rfl rfl ?_
  refine g_virtual C S0.1 w_47 w_32 (fun hZ => nf_sel hw w_34 hZ) w_34 w_33 (by decide) [] (ct_len hEL hw S0 Szc hzc) all0 (by decide) 2 (by decide) rfl pd___I rfl [(.int (4 : Int32)), (.ref s)] rfl (Nat.le_of_eq rfl) d_jdk_42_method_91_code_3 (by decide) (by decide) ?_
  intro v403 h403 Q403
  obtain ⟨ev403, e403⟩ := Q403
  replace e403 := e403.symm
  subst e403
  replace ev403 : v403 = some (.int (4 : Int32)) := ev403
  subst ev403
  refine g_virtual C S0.1 w_48 w_49 (fun hZ => nf_sel hw w_51 hZ) w_51 w_50 (by decide) [(.int (4 : Int32)), (.int (4 : Int32))] (ct_of hEL hw w_52 w_8 (rm_s24_4_4 l Z a0 hw hEL s t _ c0 c1 c2 c3 zc fm h0 n0 S0 h_c0 h_c1 h_c2 h_c3 Szc hzc Sfm hfm)) all0 (by decide) 0 (by decide) rfl pd__II_Ljava_lang_String_ rfl [] rfl (Nat.le_of_eq rfl) d_jdk_42_method_91_code_6 (by decide) (by decide) ?_
  intro v404 h404 Q404
  obtain ⟨a404, t404, kb404, rfl, KC404, S404⟩ := Q404
  refine g_areturn C hEL (t := (.object "java/lang/String")) rfl rfl rfl d_jdk_42_method_91_code_9 (by decide) (by decide) ?_
  have K405 : Keep h0 h404 [] := (Keep.refl h0 []).trans KC404 all0
  exact ⟨a404, _, _, rfl, K405, S404⟩
set_option maxRecDepth 65536 in
set_option maxHeartbeats 40000000 in
theorem rm_strip4 (l : Launch) (Z : State) (a0 : Array Value) (hw : ∀ d ∈ tables_1, d.before a0 Z = true) (hEL : EW Z a0 consts_1) {ws : List Jvm.Cond} (s t : Addr) (kb : ClassId) (c0 c1 c2 c3 : Int32) (zc : Int32) (fm : Value) (h0 : Heap) (n0 : Nat) (S0 : Str Z h0 s t kb [c0, c1, c2, c3]) (h_c0 : Ch8 c0) (h_c1 : Ch8 c1) (h_c2 : Ch8 c2) (h_c3 : Ch8 c3) (Szc : Sta Z h0 "java/lang/String" "COMPACT_STRINGS" "Z" (.int zc)) (hzc : ¬ (zc = (0 : Int32))) (Sfm : Sta Z h0 "jdk/internal/util/Preconditions" "SIOOBE_FORMATTER" "Ljava/util/function/BiFunction;" fm) (hfm : fm.isRef = true) :
    Met l Z consts_1 (⟨"com/example/tributary/tributary/Decimals", "stripLeadingZeros", "(Ljava/lang/String;)Ljava/lang/String;"⟩ : MethodName) prog_2_method_7_code 2 (some (.object "java/lang/String")) ws ({ frames := 6, cells := 2, slots := 16, locals := 110 } : Room) [] #[(.ref s)] h0 n0 (nq (fun v h => ∃ a t' k', v = some (.ref a) ∧ Keep h0 h [] ∧ Str Z h a t' k' (dz [c0, c1, c2, c3]))) := by
  refine met_of (plainFor_of_name pn_com_example_tributary_tributary_Decimals) hw #[.val (.ref s), .unset] (fun m => by first | rfl | (simp [entryFrame, mkF, argsToLocals, Value.category]; done)) ?_
  intro p e sT m below meth c C0
  have C : Cx Z a0 tables_1 p sT m meth c "com/example/tributary/tributary/Decimals" "stripLeadingZeros" prog_2_method_7_code 2 (some (.object "java/lang/String")) n0 := C0
  refine g_iconst C 0 d_prog_2_method_7_code_0 rfl ?_
  refine g_istoreN C #[.val (.ref s), .val (.int (0 : Int32))] d_prog_2_method_7_code_1 rfl ?_
  refine g_iloadN C d_prog_2_method_7_code_2 rfl ?_
  refine g_aloadN C d_prog_2_method_7_code_3 rfl rfl ?_
  refine g_virtual C S0.1 w_31 w_32 (fun hZ => nf_sel hw w_34 hZ) w_34 w_33 (by decide) [] (ct_len hEL hw S0 Szc hzc) all0 (by decide) 1 (by decide) rfl pd___I rfl [(.int (0 : Int32))] rfl (Nat.le_of_eq rfl) d_prog_2_method_7_code_4 (by decide) (by decide) ?_
  intro v406 h406 Q406
  obtain ⟨ev406, e406⟩ := Q406
  replace e406 := e406.symm
  subst e406
  replace ev406 : v406 = some (.int (4 : Int32)) := ev406
  subst ev406
  refine g_icmp_f C d_prog_2_method_7_code_7 (XT.ii_ge_f (by decide)) ?_
  refine g_aloadN C d_prog_2_method_7_code_10 rfl rfl ?_
  refine g_iloadN C d_prog_2_method_7_code_11 rfl ?_
  refine g_virtual C S0.1 w_75 w_76 (fun hZ => nf_sel hw w_78 hZ) w_78 w_77 (by decide) [(.int (0 : Int32))] (ct_ch hEL hw S0 Szc hzc Sfm hfm 0 (Nat.le_of_ble_eq_true rfl) (0 : Int32) rfl) all0 (by decide) 0 (by decide) rfl pd__I_C rfl [] rfl (Nat.le_of_eq rfl) d_prog_2_method_7_code_12 (by decide) (by decide) ?_
  intro v407 h407 Q407
  obtain ⟨ev407, e407⟩ := Q407
  replace e407 := e407.symm
  subst e407
  replace ev407 : v407 = some (.int c0) := ev407
  subst ev407
  refine g_bipush C 48 d_prog_2_method_7_code_15 rfl ?_
  by_cases hc408 : c0 = (48 : Int32)
  · refine g_icmp_f C d_prog_2_method_7_code_17 (XT.ii_ne_f hc408) ?_
    refine g_iinc C 1 #[.val (.ref s), .val (.int ((0 : Int32) + (1 : Int32)))] d_prog_2_method_7_code_20 rfl rfl rfl ?_
    rw [show ((0 : Int32) + (1 : Int32)) = (1 : Int32) from by decide]
    refine g_goto C 2 d_prog_2_method_7_code_23 (by decide) (by decide) ?_
    refine g_iloadN C d_prog_2_method_7_code_2 rfl ?_
    refine g_aloadN C d_prog_2_method_7_code_3 rfl rfl ?_
    refine g_virtual C S0.1 w_31 w_32 (fun hZ => nf_sel hw w_34 hZ) w_34 w_33 (by decide) [] (ct_len hEL hw S0 Szc hzc) all0 (by decide) 1 (by decide) rfl pd___I rfl [(.int (1 : Int32))] rfl (Nat.le_of_eq rfl) d_prog_2_method_7_code_4 (by decide) (by decide) ?_
    intro v409 h409 Q409
    obtain ⟨ev409, e409⟩ := Q409
    replace e409 := e409.symm
    subst e409
    replace ev409 : v409 = some (.int (4 : Int32)) := ev409
    subst ev409
    refine g_icmp_f C d_prog_2_method_7_code_7 (XT.ii_ge_f (by decide)) ?_
    refine g_aloadN C d_prog_2_method_7_code_10 rfl rfl ?_
    refine g_iloadN C d_prog_2_method_7_code_11 rfl ?_
    refine g_virtual C S0.1 w_75 w_76 (fun hZ => nf_sel hw w_78 hZ) w_78 w_77 (by decide) [(.int (1 : Int32))] (ct_ch hEL hw S0 Szc hzc Sfm hfm 1 (Nat.le_of_ble_eq_true rfl) (1 : Int32) rfl) all0 (by decide) 0 (by decide) rfl pd__I_C rfl [] rfl (Nat.le_of_eq rfl) d_prog_2_method_7_code_12 (by decide) (by decide) ?_
    intro v410 h410 Q410
    obtain ⟨ev410, e410⟩ := Q410
    replace e410 := e410.symm
    subst e410
    replace ev410 : v410 = some (.int c1) := ev410
    subst ev410
    refine g_bipush C 48 d_prog_2_method_7_code_15 rfl ?_
    by_cases hc411 : c1 = (48 : Int32)
    · refine g_icmp_f C d_prog_2_method_7_code_17 (XT.ii_ne_f hc411) ?_
      refine g_iinc C 1 #[.val (.ref s), .val (.int ((1 : Int32) + (1 : Int32)))] d_prog_2_method_7_code_20 rfl rfl rfl ?_
      rw [show ((1 : Int32) + (1 : Int32)) = (2 : Int32) from by decide]
      refine g_goto C 2 d_prog_2_method_7_code_23 (by decide) (by decide) ?_
      refine g_iloadN C d_prog_2_method_7_code_2 rfl ?_
      refine g_aloadN C d_prog_2_method_7_code_3 rfl rfl ?_
      refine g_virtual C S0.1 w_31 w_32 (fun hZ => nf_sel hw w_34 hZ) w_34 w_33 (by decide) [] (ct_len hEL hw S0 Szc hzc) all0 (by decide) 1 (by decide) rfl pd___I rfl [(.int (2 : Int32))] rfl (Nat.le_of_eq rfl) d_prog_2_method_7_code_4 (by decide) (by decide) ?_
      intro v412 h412 Q412
      obtain ⟨ev412, e412⟩ := Q412
      replace e412 := e412.symm
      subst e412
      replace ev412 : v412 = some (.int (4 : Int32)) := ev412
      subst ev412
      refine g_icmp_f C d_prog_2_method_7_code_7 (XT.ii_ge_f (by decide)) ?_
      refine g_aloadN C d_prog_2_method_7_code_10 rfl rfl ?_
      refine g_iloadN C d_prog_2_method_7_code_11 rfl ?_
      refine g_virtual C S0.1 w_75 w_76 (fun hZ => nf_sel hw w_78 hZ) w_78 w_77 (by decide) [(.int (2 : Int32))] (ct_ch hEL hw S0 Szc hzc Sfm hfm 2 (Nat.le_of_ble_eq_true rfl) (2 : Int32) rfl) all0 (by decide) 0 (by decide) rfl pd__I_C rfl [] rfl (Nat.le_of_eq rfl) d_prog_2_method_7_code_12 (by decide) (by decide) ?_
      intro v413 h413 Q413
      obtain ⟨ev413, e413⟩ := Q413
      replace e413 := e413.symm
      subst e413
      replace ev413 : v413 = some (.int c2) := ev413
      subst ev413
      refine g_bipush C 48 d_prog_2_method_7_code_15 rfl ?_
      by_cases hc414 : c2 = (48 : Int32)
      · refine g_icmp_f C d_prog_2_method_7_code_17 (XT.ii_ne_f hc414) ?_
        refine g_iinc C 1 #[.val (.ref s), .val (.int ((2 : Int32) + (1 : Int32)))] d_prog_2_method_7_code_20 rfl rfl rfl ?_
        rw [show ((2 : Int32) + (1 : Int32)) = (3 : Int32) from by decide]
        refine g_goto C 2 d_prog_2_method_7_code_23 (by decide) (by decide) ?_
        refine g_iloadN C d_prog_2_method_7_code_2 rfl ?_
        refine g_aloadN C d_prog_2_method_7_code_3 rfl rfl ?_
        refine g_virtual C S0.1 w_31 w_32 (fun hZ => nf_sel hw w_34 hZ) w_34 w_33 (by decide) [] (ct_len hEL hw S0 Szc hzc) all0 (by decide) 1 (by decide) rfl pd___I rfl [(.int (3 : Int32))] rfl (Nat.le_of_eq rfl) d_prog_2_method_7_code_4 (by decide) (by decide) ?_
        intro v415 h415 Q415
        obtain ⟨ev415, e415⟩ := Q415
        replace e415 := e415.symm
        subst e415
        replace ev415 : v415 = some (.int (4 : Int32)) := ev415
        subst ev415
        refine g_icmp_f C d_prog_2_method_7_code_7 (XT.ii_ge_f (by decide)) ?_
        refine g_aloadN C d_prog_2_method_7_code_10 rfl rfl ?_
        refine g_iloadN C d_prog_2_method_7_code_11 rfl ?_
        refine g_virtual C S0.1 w_75 w_76 (fun hZ => nf_sel hw w_78 hZ) w_78 w_77 (by decide) [(.int (3 : Int32))] (ct_ch hEL hw S0 Szc hzc Sfm hfm 3 (Nat.le_of_ble_eq_true rfl) (3 : Int32) rfl) all0 (by decide) 0 (by decide) rfl pd__I_C rfl [] rfl (Nat.le_of_eq rfl) d_prog_2_method_7_code_12 (by decide) (by decide) ?_
        intro v416 h416 Q416
        obtain ⟨ev416, e416⟩ := Q416
        replace e416 := e416.symm
        subst e416
        replace ev416 : v416 = some (.int c3) := ev416
        subst ev416
        refine g_bipush C 48 d_prog_2_method_7_code_15 rfl ?_
        by_cases hc417 : c3 = (48 : Int32)
        · refine g_icmp_f C d_prog_2_method_7_code_17 (XT.ii_ne_f hc417) ?_
          refine g_iinc C 1 #[.val (.ref s), .val (.int ((3 : Int32) + (1 : Int32)))] d_prog_2_method_7_code_20 rfl rfl rfl ?_
          rw [show ((3 : Int32) + (1 : Int32)) = (4 : Int32) from by decide]
          refine g_goto C 2 d_prog_2_method_7_code_23 (by decide) (by decide) ?_
          refine g_iloadN C d_prog_2_method_7_code_2 rfl ?_
          refine g_aloadN C d_prog_2_method_7_code_3 rfl rfl ?_
          refine g_virtual C S0.1 w_31 w_32 (fun hZ => nf_sel hw w_34 hZ) w_34 w_33 (by decide) [] (ct_len hEL hw S0 Szc hzc) all0 (by decide) 1 (by decide) rfl pd___I rfl [(.int (4 : Int32))] rfl (Nat.le_of_eq rfl) d_prog_2_method_7_code_4 (by decide) (by decide) ?_
          intro v418 h418 Q418
          obtain ⟨ev418, e418⟩ := Q418
          replace e418 := e418.symm
          subst e418
          replace ev418 : v418 = some (.int (4 : Int32)) := ev418
          subst ev418
          refine g_icmp_t C 26 d_prog_2_method_7_code_7 (XT.ii_ge_t (by decide)) (by decide) (by decide) ?_
          refine g_aloadN C d_prog_2_method_7_code_26 rfl rfl ?_
          refine g_iloadN C d_prog_2_method_7_code_27 rfl ?_
          refine g_virtual C S0.1 w_42 w_43 (fun hZ => nf_sel hw w_45 hZ) w_45 w_44 (by decide) [(.int (4 : Int32))] (ct_of hEL hw w_46 w_8 (rm_s14_4_4 l Z a0 hw hEL s t _ c0 c1 c2 c3 zc fm h0 n0 S0 h_c0 h_c1 h_c2 h_c3 Szc hzc Sfm hfm)) all0 (by decide) 0 (by decide) rfl pd__I_Ljava_lang_String_ rfl [] rfl (Nat.le_of_eq rfl) d_prog_2_method_7_code_28 (by decide) (by decide) ?_
          intro v419 h419 Q419
          obtain ⟨a419, t419, kb419, rfl, KC419, S419⟩ := Q419
          refine g_areturn C hEL (t := (.object "java/lang/String")) rfl rfl rfl d_prog_2_method_7_code_31 (by decide) (by decide) ?_
          have K420 : Keep h0 h419 [] := (Keep.refl h0 []).trans KC419 all0
          exact ⟨a419, t419, kb419, rfl, K420, by simpa [dz, hc408, hc411, hc414, hc417] using S419⟩
        · refine g_icmp_t C 26 d_prog_2_method_7_code_17 (XT.ii_ne_t hc417) (by decide) (by decide) ?_
          refine g_aloadN C d_prog_2_method_7_code_26 rfl rfl ?_
          refine g_iloadN C d_prog_2_method_7_code_27 rfl ?_
          refine g_virtual C S0.1 w_42 w_43 (fun hZ => nf_sel hw w_45 hZ) w_45 w_44 (by decide) [(.int (3 : Int32))] (ct_of hEL hw w_46 w_8 (rm_s14_3_4 l Z a0 hw hEL s t _ c0 c1 c2 c3 zc fm h0 n0 S0 h_c0 h_c1 h_c2 h_c3 Szc hzc Sfm hfm)) all0 (by decide) 0 (by decide) rfl pd__I_Ljava_lang_String_ rfl [] rfl (Nat.le_of_eq rfl) d_prog_2_method_7_code_28 (by decide) (by decide) ?_
          intro v421 h421 Q421
          obtain ⟨a421, t421, kb421, rfl, KC421, S421⟩ := Q421
          refine g_areturn C hEL (t := (.object "java/lang/String")) rfl rfl rfl d_prog_2_method_7_code_31 (by decide) (by decide) ?_
          have K422 : Keep h0 h421 [] := (Keep.refl h0 []).trans KC421 all0
          exact ⟨a421, t421, kb421, rfl, K422, by simpa [dz, hc408, hc411, hc414, hc417] using S421⟩
      · refine g_icmp_t C 26 d_prog_2_method_7_code_17 (XT.ii_ne_t hc414) (by decide) (by decide) ?_
        refine g_aloadN C d_prog_2_method_7_code_26 rfl rfl ?_
        refine g_iloadN C d_prog_2_method_7_code_27 rfl ?_
        refine g_virtual C S0.1 w_42 w_43 (fun hZ => nf_sel hw w_45 hZ) w_45 w_44 (by decide) [(.int (2 : Int32))] (ct_of hEL hw w_46 w_8 (rm_s14_2_4 l Z a0 hw hEL s t _ c0 c1 c2 c3 zc fm h0 n0 S0 h_c0 h_c1 h_c2 h_c3 Szc hzc Sfm hfm)) all0 (by decide) 0 (by decide) rfl pd__I_Ljava_lang_String_ rfl [] rfl (Nat.le_of_eq rfl) d_prog_2_method_7_code_28 (by decide) (by decide) ?_
        intro v423 h423 Q423
        obtain ⟨a423, t423, kb423, rfl, KC423, S423⟩ := Q423
        refine g_areturn C hEL (t := (.object "java/lang/String")) rfl rfl rfl d_prog_2_method_7_code_31 (by decide) (by decide) ?_
        have K424 : Keep h0 h423 [] := (Keep.refl h0 []).trans KC423 all0
        exact ⟨a423, t423, kb423, rfl, K424, by simpa [dz, hc408, hc411, hc414] using S423⟩
    · refine g_icmp_t C 26 d_prog_2_method_7_code_17 (XT.ii_ne_t hc411) (by decide) (by decide) ?_
      refine g_aloadN C d_prog_2_method_7_code_26 rfl rfl ?_
      refine g_iloadN C d_prog_2_method_7_code_27 rfl ?_
      refine g_virtual C S0.1 w_42 w_43 (fun hZ => nf_sel hw w_45 hZ) w_45 w_44 (by decide) [(.int (1 : Int32))] (ct_of hEL hw w_46 w_8 (rm_s14_1_4 l Z a0 hw hEL s t _ c0 c1 c2 c3 zc fm h0 n0 S0 h_c0 h_c1 h_c2 h_c3 Szc hzc Sfm hfm)) all0 (by decide) 0 (by decide) rfl pd__I_Ljava_lang_String_ rfl [] rfl (Nat.le_of_eq rfl) d_prog_2_method_7_code_28 (by decide) (by decide) ?_
      intro v425 h425 Q425
      obtain ⟨a425, t425, kb425, rfl, KC425, S425⟩ := Q425
      refine g_areturn C hEL (t := (.object "java/lang/String")) rfl rfl rfl d_prog_2_method_7_code_31 (by decide) (by decide) ?_
      have K426 : Keep h0 h425 [] := (Keep.refl h0 []).trans KC425 all0
      exact ⟨a425, t425, kb425, rfl, K426, by simpa [dz, hc408, hc411] using S425⟩
  · refine g_icmp_t C 26 d_prog_2_method_7_code_17 (XT.ii_ne_t hc408) (by decide) (by decide) ?_
    refine g_aloadN C d_prog_2_method_7_code_26 rfl rfl ?_
    refine g_iloadN C d_prog_2_method_7_code_27 rfl ?_
    refine g_virtual C S0.1 w_42 w_43 (fun hZ => nf_sel hw w_45 hZ) w_45 w_44 (by decide) [(.int (0 : Int32))] (ct_of hEL hw w_46 w_8 (rm_s14_0_4 l Z a0 hw hEL s t _ c0 c1 c2 c3 zc fm h0 n0 S0 h_c0 h_c1 h_c2 h_c3 Szc hzc Sfm hfm)) all0 (by decide) 0 (by decide) rfl pd__I_Ljava_lang_String_ rfl [] rfl (Nat.le_of_eq rfl) d_prog_2_method_7_code_28 (by decide) (by decide) ?_
    intro v427 h427 Q427
    obtain ⟨a427, t427, kb427, rfl, KC427, S427⟩ := Q427
    refine g_areturn C hEL (t := (.object "java/lang/String")) rfl rfl rfl d_prog_2_method_7_code_31 (by decide) (by decide) ?_
    have K428 : Keep h0 h427 [] := (Keep.refl h0 []).trans KC427 all0
    exact ⟨a427, t427, kb427, rfl, K428, by simpa [dz, hc408] using S427⟩
theorem pd__Ljava_lang_String__Ljava_lang_String_ : parseMethodDescriptor "(Ljava/lang/String;)Ljava/lang/String;" = some ⟨[(.object "java/lang/String")], some (.object "java/lang/String")⟩ := by decide +kernel
theorem pd__Ljava_lang_String__CIII_Z : parseMethodDescriptor "(Ljava/lang/String;[CIII)Z" = some ⟨[(.object "java/lang/String"), (.array .char), .int, .int, .int], some .boolean⟩ := by decide +kernel
theorem pd___C_V : parseMethodDescriptor "([C)V" = some ⟨[(.array .char)], none⟩ := by decide +kernel
set_option maxRecDepth 65536 in
set_option maxHeartbeats 40000000 in
theorem rm_law (l : Launch) (Z : State) (a0 : Array Value) (hw : ∀ d ∈ tables_1, d.before a0 Z = true) (hEL : EW Z a0 consts_1) {ws : List Jvm.Cond} (i1 i2 i3 i4 i5 zc : Int32) (fm : Value) (h0 : Heap) (n0 : Nat) (Szc : Sta Z h0 "java/lang/String" "COMPACT_STRINGS" "Z" (.int zc)) (hzc : ¬ (zc = (0 : Int32))) (Sfm : Sta Z h0 "jdk/internal/util/Preconditions" "SIOOBE_FORMATTER" "Ljava/util/function/BiFunction;" fm) (hfm : fm.isRef = true) :
    Met l Z consts_1 x code maxLocals ret ws room_1 [] #[(.int i1), (.int i2), (.int i3), (.int i4), (.int i5)] h0 n0 (nq (fun v _ => v = some (.int 1))) := by
  refine met_of (plainFor_of_name pn_com_example_tributary_tributary_DecimalsStripLeadingZerosPinLaw) hw #[.val (.int i1), .val (.int i2), .val (.int i3), .val (.int i4), .val (.int i5), .unset, .unset, .unset, .unset, .unset, .unset] (fun m => by first | rfl | (simp [entryFrame, mkF, argsToLocals, Value.category, maxLocals]; done)) ?_
  intro p e s m below meth c C0
  have C : Cx Z a0 tables_1 p s m meth c "com/example/tributary/tributary/DecimalsStripLeadingZerosPinLaw" "law" code maxLocals ret n0 := C0
  refine g_iload C at_0 rfl ?_
  refine g_ldcI C w_0 at_2 ?_
  refine g_iand C at_4 ?_
  refine g_iconst C 5 at_5 rfl ?_
  refine g_irem C at_6 (by decide) ?_
  refine g_istore C #[.val (.int i1), .val (.int i2), .val (.int i3), .val (.int i4), .val (.int i5), .val (.int ((i5 &&& (2147483647 : Int32)) % (5 : Int32))), .unset, .unset, .unset, .unset, .unset] at_7 rfl ?_
  rcases own_five i5 with e_nn | e_nn | e_nn | e_nn | e_nn
  · rw [e_nn]
    refine g_iconst C 4 at_9 rfl ?_
    refine g_newarray C (aty := .char) w_1 at_10 (by decide) 4 (by decide) (by decide) (by decide) (by decide) "[C" rfl ?_
    intro b429 h429 ka429 g429 E429 V429 A429
    replace V429 : Arv Z h429 b429 ka429 .char (4 : Int32) [(.int (0 : Int32)), (.int (0 : Int32)), (.int (0 : Int32)), (.int (0 : Int32))] (.int (0 : Int32)) := V429.pad (pad_rep [] _ 4)
    refine g_astore C #[.val (.int i1), .val (.int i2), .val (.int i3), .val (.int i4), .val (.int i5), .val (.int (0 : Int32)), .val (.ref b429), .unset, .unset, .unset, .unset] at_12 rfl rfl ?_
    refine g_aload C at_14 rfl rfl ?_
    refine g_iconst C 0 at_16 rfl ?_
    refine g_iloadN C at_17 rfl ?_
    refine g_static C w_2 w_3 w_4 w_5 (by decide) [(.int i1)] (ct_of hEL hw w_5 w_4 (rm_ch l Z a0 hw hEL i1 h429 n0 )) all0 (by decide) 2 (by decide) rfl pd__I_C rfl [(.int (0 : Int32)), (.ref b429)] rfl (Nat.le_of_eq rfl) at_18 (by decide) (by decide) ?_
    intro v430 h430 Q430
    obtain ⟨z430, rfl, hz430, e430⟩ := Q430
    replace e430 := e430.symm
    subst e430
    rw [nar_ch8 hz430]
    refine g_castore C V429 (List.mem_of_getElem? (i := 0) rfl) at_21 ⟨by decide, by decide⟩ 0 rfl (Nat.le_of_ble_eq_true rfl) ?_
    intro h431 W431 V431
    rw [nar_ch8 hz430] at V431
    replace V431 : Arv Z h431 b429 ka429 .char (4 : Int32) [(.int z430), (.int (0 : Int32)), (.int (0 : Int32)), (.int (0 : Int32))] (.int (0 : Int32)) := V431
    refine g_aload C at_22 rfl rfl ?_
    refine g_iconst C 1 at_24 rfl ?_
    refine g_iloadN C at_25 rfl ?_
    refine g_static C w_2 w_3 w_4 w_5 (by decide) [(.int i2)] (ct_of hEL hw w_5 w_4 (rm_ch l Z a0 hw hEL i2 h431 n0 )) all0 (by decide) 2 (by decide) rfl pd__I_C rfl [(.int (1 : Int32)), (.ref b429)] rfl (Nat.le_of_eq rfl) at_26 (by decide) (by decide) ?_
    intro v432 h432 Q432
    obtain ⟨z432, rfl, hz432, e432⟩ := Q432
    replace e432 := e432.symm
    subst e432
    rw [nar_ch8 hz432]
    refine g_castore C V431 (List.mem_of_getElem? (i := 0) rfl) at_29 ⟨by decide, by decide⟩ 1 rfl (Nat.le_of_ble_eq_true rfl) ?_
    intro h433 W433 V433
    rw [nar_ch8 hz432] at V433
    replace V433 : Arv Z h433 b429 ka429 .char (4 : Int32) [(.int z430), (.int z432), (.int (0 : Int32)), (.int (0 : Int32))] (.int (0 : Int32)) := V433
    refine g_aload C at_30 rfl rfl ?_
    refine g_iconst C 2 at_32 rfl ?_
    refine g_iloadN C at_33 rfl ?_
    refine g_static C w_2 w_3 w_4 w_5 (by decide) [(.int i3)] (ct_of hEL hw w_5 w_4 (rm_ch l Z a0 hw hEL i3 h433 n0 )) all0 (by decide) 2 (by decide) rfl pd__I_C rfl [(.int (2 : Int32)), (.ref b429)] rfl (Nat.le_of_eq rfl) at_34 (by decide) (by decide) ?_
    intro v434 h434 Q434
    obtain ⟨z434, rfl, hz434, e434⟩ := Q434
    replace e434 := e434.symm
    subst e434
    rw [nar_ch8 hz434]
    refine g_castore C V433 (List.mem_of_getElem? (i := 0) rfl) at_37 ⟨by decide, by decide⟩ 2 rfl (Nat.le_of_ble_eq_true rfl) ?_
    intro h435 W435 V435
    rw [nar_ch8 hz434] at V435
    replace V435 : Arv Z h435 b429 ka429 .char (4 : Int32) [(.int z430), (.int z432), (.int z434), (.int (0 : Int32))] (.int (0 : Int32)) := V435
    refine g_aload C at_38 rfl rfl ?_
    refine g_iconst C 3 at_40 rfl ?_
    refine g_iloadN C at_41 rfl ?_
    refine g_static C w_2 w_3 w_4 w_5 (by decide) [(.int i4)] (ct_of hEL hw w_5 w_4 (rm_ch l Z a0 hw hEL i4 h435 n0 )) all0 (by decide) 2 (by decide) rfl pd__I_C rfl [(.int (3 : Int32)), (.ref b429)] rfl (Nat.le_of_eq rfl) at_42 (by decide) (by decide) ?_
    intro v436 h436 Q436
    obtain ⟨z436, rfl, hz436, e436⟩ := Q436
    replace e436 := e436.symm
    subst e436
    rw [nar_ch8 hz436]
    refine g_castore C V435 (List.mem_of_getElem? (i := 0) rfl) at_45 ⟨by decide, by decide⟩ 3 rfl (Nat.le_of_ble_eq_true rfl) ?_
    intro h437 W437 V437
    rw [nar_ch8 hz436] at V437
    replace V437 : Arv Z h437 b429 ka429 .char (4 : Int32) [(.int z430), (.int z432), (.int z434), (.int z436)] (.int (0 : Int32)) := V437
    refine g_iload C at_46 rfl ?_
    refine g_if_f C at_48 (XT.i0_ne_f (by decide)) ?_
    refine g_new C w_6 w_7 w_8 at_51 (by decide) (by decide) ?_
    intro b438 h438 g438 E438 A438 D438
    refine g_dup C at_54 rfl ?_
    refine g_iconst C 0 at_55 rfl ?_
    refine g_newarray C (aty := .char) w_1 at_56 (by decide) 0 (by decide) (by decide) (by decide) (by decide) "[C" rfl ?_
    intro b439 h439 ka439 g439 E439 V439 A439
    replace V439 : Arv Z h439 b439 ka439 .char (0 : Int32) [] (.int (0 : Int32)) := V439.pad (pad_rep [] _ 0)
    have K440 : Keep h438 h439 [] := (Keep.refl h438 []).ext E439
    have E441 := (A438.keep K440)
    have F442 := ((D438 (Or.inr (C.hw w_21)) (ty := (.array .byte)) (by decide)).keep K440 nin0)
    have F443 := ((D438 (Or.inr (C.hw w_22)) (ty := .byte) (by decide)).keep K440 nin0)
    refine g_special C (a := b438) w_9 w_10 w_11 rfl (by decide) [(.ref b439)] (ct_of hEL hw w_11 w_8 (rm_S1e l Z a0 hw hEL b438 b439 ka439 h439 n0 E441 F442 F443 V439)) (allS (List.mem_of_getElem? (i := 1) rfl) all0) (by decide) 1 (by decide) rfl pd___C_V rfl [(.ref b438)] rfl (Nat.le_of_eq rfl) at_58 (by decide) (by decide) ?_
    intro v444 h444 Q444
    obtain ⟨rfl, KC444, t444, kb444, tx444, S444⟩ := Q444
    refine g_astore C #[.val (.int i1), .val (.int i2), .val (.int i3), .val (.int i4), .val (.int i5), .val (.int (0 : Int32)), .val (.ref b429), .val (.ref b438), .unset, .unset, .unset] at_61 rfl rfl ?_
    refine g_goto C 211 at_63 (by decide) (by decide) ?_
    refine g_aload C at_211 rfl rfl ?_
    have K445 : Keep h0 h429 [] := (Keep.refl h0 []).ext E429
    have K446 : Keep h0 h431 [] := K445.wr W431 (Or.inr (Nat.le_of_eq g429.symm))
    have K447 : Keep h0 h433 [] := K446.wr W433 (Or.inr (Nat.le_of_eq g429.symm))
    have K448 : Keep h0 h435 [] := K447.wr W435 (Or.inr (Nat.le_of_eq g429.symm))
    have K449 : Keep h0 h437 [] := K448.wr W437 (Or.inr (Nat.le_of_eq g429.symm))
    have K450 : Keep h0 h438 [] := K449.ext E438
    have K451 : Keep h0 h439 [] := K450.ext E439
    have K452 : Keep h0 h444 [] := K451.trans KC444 (allS (Or.inr (Nat.le_trans K449.1 (Nat.le_of_eq g438.symm))) all0)
    refine g_static C w_27 w_28 w_29 w_30 (by decide) [(.ref b438)] (ct_of hEL hw w_30 w_29 (rm_strip0 l Z a0 hw hEL b438 t444 _  zc fm h444 n0 S444  (Sta_keep Szc K452) hzc (Sta_keep Sfm K452) hfm)) all0 (by decide) 0 (by decide) rfl pd__Ljava_lang_String__Ljava_lang_String_ rfl [] rfl (Nat.le_of_eq rfl) at_213 (by decide) (by decide) ?_
    intro v453 h453 Q453
    obtain ⟨a453, t453, kb453, rfl, KC453, S453⟩ := Q453
    refine g_astore C #[.val (.int i1), .val (.int i2), .val (.int i3), .val (.int i4), .val (.int i5), .val (.int (0 : Int32)), .val (.ref b429), .val (.ref b438), .val (.ref a453), .unset, .unset] at_216 rfl rfl ?_
    refine g_iconst C 0 at_218 rfl ?_
    refine g_istore C #[.val (.int i1), .val (.int i2), .val (.int i3), .val (.int i4), .val (.int i5), .val (.int (0 : Int32)), .val (.ref b429), .val (.ref b438), .val (.ref a453), .val (.int (0 : Int32)), .unset] at_219 rfl ?_
    refine g_iload C at_221 rfl ?_
    refine g_if_t C 292 at_223 (XT.i0_le_t (by decide)) (by decide) (by decide) ?_
    refine g_iload C at_292 rfl ?_
    refine g_iload C at_294 rfl ?_
    refine g_isub C at_296 ?_
    rw [show ((0 : Int32) - (0 : Int32)) = (0 : Int32) from by decide]
    refine g_istore C #[.val (.int i1), .val (.int i2), .val (.int i3), .val (.int i4), .val (.int i5), .val (.int (0 : Int32)), .val (.ref b429), .val (.ref b438), .val (.ref a453), .val (.int (0 : Int32)), .val (.int (0 : Int32))] at_297 rfl ?_
    have S454 : Str Z h453 a453 t453 kb453 [] := by simpa [dz] using S453
    refine g_aload C at_299 rfl rfl ?_
    refine g_ifnull_f C at_301 ?_
    refine g_aload C at_304 rfl rfl ?_
    have K455 : Keep h0 h453 [] := K452.trans KC453 all0
    refine g_virtual C S453.1 w_61 w_32 (fun hZ => nf_sel hw w_34 hZ) w_34 w_33 (by decide) [] (ct_len hEL hw S454 (Sta_keep Szc K455) hzc) all0 (by decide) 0 (by decide) rfl pd___I rfl [] rfl (Nat.le_of_eq rfl) at_306 (by decide) (by decide) ?_
    intro v456 h456 Q456
    obtain ⟨ev456, e456⟩ := Q456
    replace e456 := e456.symm
    subst e456
    replace ev456 : v456 = some (.int (0 : Int32)) := ev456
    subst ev456
    refine g_iload C at_309 rfl ?_
    refine g_icmp_t C 316 at_311 (XT.ii_eq_t (by decide)) (by decide) (by decide) ?_
    refine g_aload C at_316 rfl rfl ?_
    refine g_aload C at_318 rfl rfl ?_
    refine g_iload C at_320 rfl ?_
    refine g_iconst C 0 at_322 rfl ?_
    refine g_iload C at_323 rfl ?_
    refine g_static C w_62 w_63 w_4 w_64 (by decide) [(.ref a453), (.ref b429), (.int (0 : Int32)), (.int (0 : Int32)), (.int (0 : Int32))] (ct_of hEL hw w_64 w_4 (rm_atT l Z a0 hw hEL a453 b429 (0 : Int32) (0 : Int32) (0 : Int32) h453 n0 (by decide))) all0 (by decide) 0 (by decide) rfl pd__Ljava_lang_String__CIII_Z rfl [] rfl (Nat.le_of_eq rfl) at_325 (by decide) (by decide) ?_
    intro v457 h457 Q457
    obtain ⟨rfl, e457⟩ := Q457
    replace e457 := e457.symm
    subst e457
    refine g_if_f C at_328 (XT.i0_eq_f (by decide)) ?_
    refine g_aload C at_331 rfl rfl ?_
    refine g_aload C at_333 rfl rfl ?_
    refine g_iload C at_335 rfl ?_
    refine g_iconst C 1 at_337 rfl ?_
    refine g_iload C at_338 rfl ?_
    refine g_static C w_62 w_63 w_4 w_64 (by decide) [(.ref a453), (.ref b429), (.int (0 : Int32)), (.int (1 : Int32)), (.int (0 : Int32))] (ct_of hEL hw w_64 w_4 (rm_atT l Z a0 hw hEL a453 b429 (0 : Int32) (1 : Int32) (0 : Int32) h453 n0 (by decide))) all0 (by decide) 0 (by decide) rfl pd__Ljava_lang_String__CIII_Z rfl [] rfl (Nat.le_of_eq rfl) at_340 (by decide) (by decide) ?_
    intro v458 h458 Q458
    obtain ⟨rfl, e458⟩ := Q458
    replace e458 := e458.symm
    subst e458
    refine g_if_f C at_343 (XT.i0_eq_f (by decide)) ?_
    refine g_aload C at_346 rfl rfl ?_
    refine g_aload C at_348 rfl rfl ?_
    refine g_iload C at_350 rfl ?_
    refine g_iconst C 2 at_352 rfl ?_
    refine g_iload C at_353 rfl ?_
    refine g_static C w_62 w_63 w_4 w_64 (by decide) [(.ref a453), (.ref b429), (.int (0 : Int32)), (.int (2 : Int32)), (.int (0 : Int32))] (ct_of hEL hw w_64 w_4 (rm_atT l Z a0 hw hEL a453 b429 (0 : Int32) (2 : Int32) (0 : Int32) h453 n0 (by decide))) all0 (by decide) 0 (by decide) rfl pd__Ljava_lang_String__CIII_Z rfl [] rfl (Nat.le_of_eq rfl) at_355 (by decide) (by decide) ?_
    intro v459 h459 Q459
    obtain ⟨rfl, e459⟩ := Q459
    replace e459 := e459.symm
    subst e459
    refine g_if_f C at_358 (XT.i0_eq_f (by decide)) ?_
    refine g_aload C at_361 rfl rfl ?_
    refine g_aload C at_363 rfl rfl ?_
    refine g_iload C at_365 rfl ?_
    refine g_iconst C 3 at_367 rfl ?_
    refine g_iload C at_368 rfl ?_
    refine g_static C w_62 w_63 w_4 w_64 (by decide) [(.ref a453), (.ref b429), (.int (0 : Int32)), (.int (3 : Int32)), (.int (0 : Int32))] (ct_of hEL hw w_64 w_4 (rm_atT l Z a0 hw hEL a453 b429 (0 : Int32) (3 : Int32) (0 : Int32) h453 n0 (by decide))) all0 (by decide) 0 (by decide) rfl pd__Ljava_lang_String__CIII_Z rfl [] rfl (Nat.le_of_eq rfl) at_370 (by decide) (by decide) ?_
    intro v460 h460 Q460
    obtain ⟨rfl, e460⟩ := Q460
    replace e460 := e460.symm
    subst e460
    refine g_if_f C at_373 (XT.i0_eq_f (by decide)) ?_
    refine g_iconst C 1 at_376 rfl ?_
    refine g_goto C 381 at_377 (by decide) (by decide) ?_
    refine g_ireturnN C hEL (t := .boolean) rfl (by simp) at_381 (by decide) (by decide) ?_
    exact rfl
  · rw [e_nn]
    refine g_iconst C 4 at_9 rfl ?_
    refine g_newarray C (aty := .char) w_1 at_10 (by decide) 4 (by decide) (by decide) (by decide) (by decide) "[C" rfl ?_
    intro b461 h461 ka461 g461 E461 V461 A461
    replace V461 : Arv Z h461 b461 ka461 .char (4 : Int32) [(.int (0 : Int32)), (.int (0 : Int32)), (.int (0 : Int32)), (.int (0 : Int32))] (.int (0 : Int32)) := V461.pad (pad_rep [] _ 4)
    refine g_astore C #[.val (.int i1), .val (.int i2), .val (.int i3), .val (.int i4), .val (.int i5), .val (.int (1 : Int32)), .val (.ref b461), .unset, .unset, .unset, .unset] at_12 rfl rfl ?_
    refine g_aload C at_14 rfl rfl ?_
    refine g_iconst C 0 at_16 rfl ?_
    refine g_iloadN C at_17 rfl ?_
    refine g_static C w_2 w_3 w_4 w_5 (by decide) [(.int i1)] (ct_of hEL hw w_5 w_4 (rm_ch l Z a0 hw hEL i1 h461 n0 )) all0 (by decide) 2 (by decide) rfl pd__I_C rfl [(.int (0 : Int32)), (.ref b461)] rfl (Nat.le_of_eq rfl) at_18 (by decide) (by decide) ?_
    intro v462 h462 Q462
    obtain ⟨z462, rfl, hz462, e462⟩ := Q462
    replace e462 := e462.symm
    subst e462
    rw [nar_ch8 hz462]
    refine g_castore C V461 (List.mem_of_getElem? (i := 0) rfl) at_21 ⟨by decide, by decide⟩ 0 rfl (Nat.le_of_ble_eq_true rfl) ?_
    intro h463 W463 V463
    rw [nar_ch8 hz462] at V463
    replace V463 : Arv Z h463 b461 ka461 .char (4 : Int32) [(.int z462), (.int (0 : Int32)), (.int (0 : Int32)), (.int (0 : Int32))] (.int (0 : Int32)) := V463
    refine g_aload C at_22 rfl rfl ?_
    refine g_iconst C 1 at_24 rfl ?_
    refine g_iloadN C at_25 rfl ?_
    refine g_static C w_2 w_3 w_4 w_5 (by decide) [(.int i2)] (ct_of hEL hw w_5 w_4 (rm_ch l Z a0 hw hEL i2 h463 n0 )) all0 (by decide) 2 (by decide) rfl pd__I_C rfl [(.int (1 : Int32)), (.ref b461)] rfl (Nat.le_of_eq rfl) at_26 (by decide) (by decide) ?_
    intro v464 h464 Q464
    obtain ⟨z464, rfl, hz464, e464⟩ := Q464
    replace e464 := e464.symm
    subst e464
    rw [nar_ch8 hz464]
    refine g_castore C V463 (List.mem_of_getElem? (i := 0) rfl) at_29 ⟨by decide, by decide⟩ 1 rfl (Nat.le_of_ble_eq_true rfl) ?_
    intro h465 W465 V465
    rw [nar_ch8 hz464] at V465
    replace V465 : Arv Z h465 b461 ka461 .char (4 : Int32) [(.int z462), (.int z464), (.int (0 : Int32)), (.int (0 : Int32))] (.int (0 : Int32)) := V465
    refine g_aload C at_30 rfl rfl ?_
    refine g_iconst C 2 at_32 rfl ?_
    refine g_iloadN C at_33 rfl ?_
    refine g_static C w_2 w_3 w_4 w_5 (by decide) [(.int i3)] (ct_of hEL hw w_5 w_4 (rm_ch l Z a0 hw hEL i3 h465 n0 )) all0 (by decide) 2 (by decide) rfl pd__I_C rfl [(.int (2 : Int32)), (.ref b461)] rfl (Nat.le_of_eq rfl) at_34 (by decide) (by decide) ?_
    intro v466 h466 Q466
    obtain ⟨z466, rfl, hz466, e466⟩ := Q466
    replace e466 := e466.symm
    subst e466
    rw [nar_ch8 hz466]
    refine g_castore C V465 (List.mem_of_getElem? (i := 0) rfl) at_37 ⟨by decide, by decide⟩ 2 rfl (Nat.le_of_ble_eq_true rfl) ?_
    intro h467 W467 V467
    rw [nar_ch8 hz466] at V467
    replace V467 : Arv Z h467 b461 ka461 .char (4 : Int32) [(.int z462), (.int z464), (.int z466), (.int (0 : Int32))] (.int (0 : Int32)) := V467
    refine g_aload C at_38 rfl rfl ?_
    refine g_iconst C 3 at_40 rfl ?_
    refine g_iloadN C at_41 rfl ?_
    refine g_static C w_2 w_3 w_4 w_5 (by decide) [(.int i4)] (ct_of hEL hw w_5 w_4 (rm_ch l Z a0 hw hEL i4 h467 n0 )) all0 (by decide) 2 (by decide) rfl pd__I_C rfl [(.int (3 : Int32)), (.ref b461)] rfl (Nat.le_of_eq rfl) at_42 (by decide) (by decide) ?_
    intro v468 h468 Q468
    obtain ⟨z468, rfl, hz468, e468⟩ := Q468
    replace e468 := e468.symm
    subst e468
    rw [nar_ch8 hz468]
    refine g_castore C V467 (List.mem_of_getElem? (i := 0) rfl) at_45 ⟨by decide, by decide⟩ 3 rfl (Nat.le_of_ble_eq_true rfl) ?_
    intro h469 W469 V469
    rw [nar_ch8 hz468] at V469
    replace V469 : Arv Z h469 b461 ka461 .char (4 : Int32) [(.int z462), (.int z464), (.int z466), (.int z468)] (.int (0 : Int32)) := V469
    refine g_iload C at_46 rfl ?_
    refine g_if_t C 66 at_48 (XT.i0_ne_t (by decide)) (by decide) (by decide) ?_
    refine g_iload C at_66 rfl ?_
    refine g_iconst C 1 at_68 rfl ?_
    refine g_icmp_f C at_69 (XT.ii_ne_f (by decide)) ?_
    refine g_new C w_6 w_7 w_8 at_72 (by decide) (by decide) ?_
    intro b470 h470 g470 E470 A470 D470
    refine g_dup C at_75 rfl ?_
    refine g_iconst C 1 at_76 rfl ?_
    refine g_newarray C (aty := .char) w_1 at_77 (by decide) 1 (by decide) (by decide) (by decide) (by decide) "[C" rfl ?_
    intro b471 h471 ka471 g471 E471 V471 A471
    replace V471 : Arv Z h471 b471 ka471 .char (1 : Int32) [(.int (0 : Int32))] (.int (0 : Int32)) := V471.pad (pad_rep [] _ 1)
    refine g_dup C at_79 rfl ?_
    refine g_iconst C 0 at_80 rfl ?_
    refine g_aload C at_81 rfl rfl ?_
    refine g_iconst C 0 at_83 rfl ?_
    have K472 : Keep h469 h470 [] := (Keep.refl h469 []).ext E470
    have K473 : Keep h469 h471 [] := K472.ext E471
    have V474 := (V469.keep K473 nin0)
    refine g_caload C V474 at_84 ⟨by decide, by decide⟩ (v := (.int z462)) rfl ?_
    refine g_castore C V471 (List.mem_of_getElem? (i := 0) rfl) at_85 ⟨by decide, by decide⟩ 0 rfl (Nat.le_of_ble_eq_true rfl) ?_
    intro h475 W475 V475
    rw [nar_ch8 hz462] at V475
    replace V475 : Arv Z h475 b471 ka471 .char (1 : Int32) [(.int z462)] (.int (0 : Int32)) := V475
    have K476 : Keep h470 h471 [] := (Keep.refl h470 []).ext E471
    have K477 : Keep h470 h475 [] := K476.wr W475 (Or.inr (Nat.le_of_eq g471.symm))
    have E478 := (A470.keep K477)
    have F479 := ((D470 (Or.inr (C.hw w_21)) (ty := (.array .byte)) (by decide)).keep K477 nin0)
    have F480 := ((D470 (Or.inr (C.hw w_22)) (ty := .byte) (by decide)).keep K477 nin0)
    have K481 : Keep h0 h461 [] := (Keep.refl h0 []).ext E461
    have K482 : Keep h0 h463 [] := K481.wr W463 (Or.inr (Nat.le_of_eq g461.symm))
    have K483 : Keep h0 h465 [] := K482.wr W465 (Or.inr (Nat.le_of_eq g461.symm))
    have K484 : Keep h0 h467 [] := K483.wr W467 (Or.inr (Nat.le_of_eq g461.symm))
    have K485 : Keep h0 h469 [] := K484.wr W469 (Or.inr (Nat.le_of_eq g461.symm))
    have K486 : Keep h0 h470 [] := K485.ext E470
    have K487 : Keep h0 h471 [] := K486.ext E471
    have K488 : Keep h0 h475 [] := K487.wr W475 (Or.inr (Nat.le_trans K486.1 (Nat.le_of_eq g471.symm)))
    refine g_special C (a := b470) w_9 w_10 w_11 rfl (by decide) [(.ref b471)] (ct_newS hEL hw (cs := [z462]) (n := 1) E478 F479 F480 V475 (Sta_keep Szc K488) hzc rfl (by decide) (by decide) (own_allc hz462 (fun _ q => nomatch q))) (allS (List.mem_of_getElem? (i := 1) rfl) all0) (by decide) 1 (by decide) rfl pd___C_V rfl [(.ref b470)] rfl (Nat.le_of_eq rfl) at_86 (by decide) (by decide) ?_
    intro v489 h489 Q489
    obtain ⟨rfl, KC489, t489, kb489, ht489, htx489, S489⟩ := Q489
    refine g_astore C #[.val (.int i1), .val (.int i2), .val (.int i3), .val (.int i4), .val (.int i5), .val (.int (1 : Int32)), .val (.ref b461), .val (.ref b470), .unset, .unset, .unset] at_89 rfl rfl ?_
    refine g_goto C 211 at_91 (by decide) (by decide) ?_
    refine g_aload C at_211 rfl rfl ?_
    have K490 : Keep h0 h489 [] := K488.trans KC489 (allS (Or.inr (Nat.le_trans K485.1 (Nat.le_of_eq g470.symm))) all0)
    refine g_static C w_27 w_28 w_29 w_30 (by decide) [(.ref b470)] (ct_of hEL hw w_30 w_29 (rm_strip1 l Z a0 hw hEL b470 t489 _ z462 zc fm h489 n0 S489 hz462 (Sta_keep Szc K490) hzc (Sta_keep Sfm K490) hfm)) all0 (by decide) 0 (by decide) rfl pd__Ljava_lang_String__Ljava_lang_String_ rfl [] rfl (Nat.le_of_eq rfl) at_213 (by decide) (by decide) ?_
    intro v491 h491 Q491
    obtain ⟨a491, t491, kb491, rfl, KC491, S491⟩ := Q491
    refine g_astore C #[.val (.int i1), .val (.int i2), .val (.int i3), .val (.int i4), .val (.int i5), .val (.int (1 : Int32)), .val (.ref b461), .val (.ref b470), .val (.ref a491), .unset, .unset] at_216 rfl rfl ?_
    refine g_iconst C 0 at_218 rfl ?_
    refine g_istore C #[.val (.int i1), .val (.int i2), .val (.int i3), .val (.int i4), .val (.int i5), .val (.int (1 : Int32)), .val (.ref b461), .val (.ref b470), .val (.ref a491), .val (.int (0 : Int32)), .unset] at_219 rfl ?_
    refine g_iload C at_221 rfl ?_
    refine g_if_f C at_223 (XT.i0_le_f (by decide)) ?_
    refine g_aload C at_226 rfl rfl ?_
    refine g_iconst C 0 at_228 rfl ?_
    have V492 := (V469.keep K472 nin0)
    have V493 := (((V474.other W475 (Nat.ne_of_lt (Nat.lt_of_lt_of_le V492.lt (Nat.le_of_eq g471.symm)))).keep KC489 (ninS (Nat.ne_of_lt (Nat.lt_of_lt_of_le V469.lt (Nat.le_of_eq g470.symm))) nin0)).keep KC491 nin0)
    refine g_caload C V493 at_229 ⟨by decide, by decide⟩ (v := (.int z462)) rfl ?_
    refine g_bipush C 48 at_230 rfl ?_
    by_cases hc494 : z462 = (48 : Int32)
    · refine g_icmp_f C at_232 (XT.ii_ne_f hc494) ?_
      refine g_iconst C 1 at_235 rfl ?_
      refine g_istore C #[.val (.int i1), .val (.int i2), .val (.int i3), .val (.int i4), .val (.int i5), .val (.int (1 : Int32)), .val (.ref b461), .val (.ref b470), .val (.ref a491), .val (.int (1 : Int32)), .unset] at_236 rfl ?_
      refine g_iload C at_238 rfl ?_
      refine g_iconst C 1 at_240 rfl ?_
      refine g_icmp_t C 292 at_241 (XT.ii_le_t (by decide)) (by decide) (by decide) ?_
      refine g_iload C at_292 rfl ?_
      refine g_iload C at_294 rfl ?_
      refine g_isub C at_296 ?_
      rw [show ((1 : Int32) - (1 : Int32)) = (0 : Int32) from by decide]
      refine g_istore C #[.val (.int i1), .val (.int i2), .val (.int i3), .val (.int i4), .val (.int i5), .val (.int (1 : Int32)), .val (.ref b461), .val (.ref b470), .val (.ref a491), .val (.int (1 : Int32)), .val (.int (0 : Int32))] at_297 rfl ?_
      have S495 : Str Z h491 a491 t491 kb491 [] := by simpa [dz, hc494] using S491
      refine g_aload C at_299 rfl rfl ?_
      refine g_ifnull_f C at_301 ?_
      refine g_aload C at_304 rfl rfl ?_
      have K496 : Keep h0 h491 [] := K490.trans KC491 all0
      refine g_virtual C S491.1 w_61 w_32 (fun hZ => nf_sel hw w_34 hZ) w_34 w_33 (by decide) [] (ct_len hEL hw S495 (Sta_keep Szc K496) hzc) all0 (by decide) 0 (by decide) rfl pd___I rfl [] rfl (Nat.le_of_eq rfl) at_306 (by decide) (by decide) ?_
      intro v497 h497 Q497
      obtain ⟨ev497, e497⟩ := Q497
      replace e497 := e497.symm
      subst e497
      replace ev497 : v497 = some (.int (0 : Int32)) := ev497
      subst ev497
      refine g_iload C at_309 rfl ?_
      refine g_icmp_t C 316 at_311 (XT.ii_eq_t (by decide)) (by decide) (by decide) ?_
      refine g_aload C at_316 rfl rfl ?_
      refine g_aload C at_318 rfl rfl ?_
      refine g_iload C at_320 rfl ?_
      refine g_iconst C 0 at_322 rfl ?_
      refine g_iload C at_323 rfl ?_
      refine g_static C w_62 w_63 w_4 w_64 (by decide) [(.ref a491), (.ref b461), (.int (1 : Int32)), (.int (0 : Int32)), (.int (0 : Int32))] (ct_of hEL hw w_64 w_4 (rm_atT l Z a0 hw hEL a491 b461 (1 : Int32) (0 : Int32) (0 : Int32) h491 n0 (by decide))) all0 (by decide) 0 (by decide) rfl pd__Ljava_lang_String__CIII_Z rfl [] rfl (Nat.le_of_eq rfl) at_325 (by decide) (by decide) ?_
      intro v498 h498 Q498
      obtain ⟨rfl, e498⟩ := Q498
      replace e498 := e498.symm
      subst e498
      refine g_if_f C at_328 (XT.i0_eq_f (by decide)) ?_
      refine g_aload C at_331 rfl rfl ?_
      refine g_aload C at_333 rfl rfl ?_
      refine g_iload C at_335 rfl ?_
      refine g_iconst C 1 at_337 rfl ?_
      refine g_iload C at_338 rfl ?_
      refine g_static C w_62 w_63 w_4 w_64 (by decide) [(.ref a491), (.ref b461), (.int (1 : Int32)), (.int (1 : Int32)), (.int (0 : Int32))] (ct_of hEL hw w_64 w_4 (rm_atT l Z a0 hw hEL a491 b461 (1 : Int32) (1 : Int32) (0 : Int32) h491 n0 (by decide))) all0 (by decide) 0 (by decide) rfl pd__Ljava_lang_String__CIII_Z rfl [] rfl (Nat.le_of_eq rfl) at_340 (by decide) (by decide) ?_
      intro v499 h499 Q499
      obtain ⟨rfl, e499⟩ := Q499
      replace e499 := e499.symm
      subst e499
      refine g_if_f C at_343 (XT.i0_eq_f (by decide)) ?_
      refine g_aload C at_346 rfl rfl ?_
      refine g_aload C at_348 rfl rfl ?_
      refine g_iload C at_350 rfl ?_
      refine g_iconst C 2 at_352 rfl ?_
      refine g_iload C at_353 rfl ?_
      refine g_static C w_62 w_63 w_4 w_64 (by decide) [(.ref a491), (.ref b461), (.int (1 : Int32)), (.int (2 : Int32)), (.int (0 : Int32))] (ct_of hEL hw w_64 w_4 (rm_atT l Z a0 hw hEL a491 b461 (1 : Int32) (2 : Int32) (0 : Int32) h491 n0 (by decide))) all0 (by decide) 0 (by decide) rfl pd__Ljava_lang_String__CIII_Z rfl [] rfl (Nat.le_of_eq rfl) at_355 (by decide) (by decide) ?_
      intro v500 h500 Q500
      obtain ⟨rfl, e500⟩ := Q500
      replace e500 := e500.symm
      subst e500
      refine g_if_f C at_358 (XT.i0_eq_f (by decide)) ?_
      refine g_aload C at_361 rfl rfl ?_
      refine g_aload C at_363 rfl rfl ?_
      refine g_iload C at_365 rfl ?_
      refine g_iconst C 3 at_367 rfl ?_
      refine g_iload C at_368 rfl ?_
      refine g_static C w_62 w_63 w_4 w_64 (by decide) [(.ref a491), (.ref b461), (.int (1 : Int32)), (.int (3 : Int32)), (.int (0 : Int32))] (ct_of hEL hw w_64 w_4 (rm_atT l Z a0 hw hEL a491 b461 (1 : Int32) (3 : Int32) (0 : Int32) h491 n0 (by decide))) all0 (by decide) 0 (by decide) rfl pd__Ljava_lang_String__CIII_Z rfl [] rfl (Nat.le_of_eq rfl) at_370 (by decide) (by decide) ?_
      intro v501 h501 Q501
      obtain ⟨rfl, e501⟩ := Q501
      replace e501 := e501.symm
      subst e501
      refine g_if_f C at_373 (XT.i0_eq_f (by decide)) ?_
      refine g_iconst C 1 at_376 rfl ?_
      refine g_goto C 381 at_377 (by decide) (by decide) ?_
      refine g_ireturnN C hEL (t := .boolean) rfl (by simp) at_381 (by decide) (by decide) ?_
      exact rfl
    · refine g_icmp_t C 292 at_232 (XT.ii_ne_t hc494) (by decide) (by decide) ?_
      refine g_iload C at_292 rfl ?_
      refine g_iload C at_294 rfl ?_
      refine g_isub C at_296 ?_
      rw [show ((1 : Int32) - (0 : Int32)) = (1 : Int32) from by decide]
      refine g_istore C #[.val (.int i1), .val (.int i2), .val (.int i3), .val (.int i4), .val (.int i5), .val (.int (1 : Int32)), .val (.ref b461), .val (.ref b470), .val (.ref a491), .val (.int (0 : Int32)), .val (.int (1 : Int32))] at_297 rfl ?_
      have S502 : Str Z h491 a491 t491 kb491 [z462] := by simpa [dz, hc494] using S491
      refine g_aload C at_299 rfl rfl ?_
      refine g_ifnull_f C at_301 ?_
      refine g_aload C at_304 rfl rfl ?_
      have K503 : Keep h0 h491 [] := K490.trans KC491 all0
      refine g_virtual C S491.1 w_61 w_32 (fun hZ => nf_sel hw w_34 hZ) w_34 w_33 (by decide) [] (ct_len hEL hw S502 (Sta_keep Szc K503) hzc) all0 (by decide) 0 (by decide) rfl pd___I rfl [] rfl (Nat.le_of_eq rfl) at_306 (by decide) (by decide) ?_
      intro v504 h504 Q504
      obtain ⟨ev504, e504⟩ := Q504
      replace e504 := e504.symm
      subst e504
      replace ev504 : v504 = some (.int (1 : Int32)) := ev504
      subst ev504
      refine g_iload C at_309 rfl ?_
      refine g_icmp_t C 316 at_311 (XT.ii_eq_t (by decide)) (by decide) (by decide) ?_
      refine g_aload C at_316 rfl rfl ?_
      refine g_aload C at_318 rfl rfl ?_
      refine g_iload C at_320 rfl ?_
      refine g_iconst C 0 at_322 rfl ?_
      refine g_iload C at_323 rfl ?_
      refine g_static C w_62 w_63 w_4 w_64 (by decide) [(.ref a491), (.ref b461), (.int (0 : Int32)), (.int (0 : Int32)), (.int (1 : Int32))] (ct_of hEL hw w_64 w_4 (rm_atC l Z a0 hw hEL a491 t491 b461 _ _ [z462] (0 : Int32) 0 (1 : Int32) (4 : Int32) [(.int z462), (.int z464), (.int z466), (.int z468)] (.int (0 : Int32)) zc fm h491 n0 (by decide) S502 (Nat.le_of_ble_eq_true rfl) V493 ⟨by decide, by decide⟩ rfl (Sta_keep Szc K503) hzc (Sta_keep Sfm K503) hfm)) all0 (by decide) 0 (by decide) rfl pd__Ljava_lang_String__CIII_Z rfl [] rfl (Nat.le_of_eq rfl) at_325 (by decide) (by decide) ?_
      intro v505 h505 Q505
      obtain ⟨rfl, e505⟩ := Q505
      replace e505 := e505.symm
      subst e505
      refine g_if_f C at_328 (XT.i0_eq_f (by decide)) ?_
      refine g_aload C at_331 rfl rfl ?_
      refine g_aload C at_333 rfl rfl ?_
      refine g_iload C at_335 rfl ?_
      refine g_iconst C 1 at_337 rfl ?_
      refine g_iload C at_338 rfl ?_
      refine g_static C w_62 w_63 w_4 w_64 (by decide) [(.ref a491), (.ref b461), (.int (0 : Int32)), (.int (1 : Int32)), (.int (1 : Int32))] (ct_of hEL hw w_64 w_4 (rm_atT l Z a0 hw hEL a491 b461 (0 : Int32) (1 : Int32) (1 : Int32) h491 n0 (by decide))) all0 (by decide) 0 (by decide) rfl pd__Ljava_lang_String__CIII_Z rfl [] rfl (Nat.le_of_eq rfl) at_340 (by decide) (by decide) ?_
      intro v506 h506 Q506
      obtain ⟨rfl, e506⟩ := Q506
      replace e506 := e506.symm
      subst e506
      refine g_if_f C at_343 (XT.i0_eq_f (by decide)) ?_
      refine g_aload C at_346 rfl rfl ?_
      refine g_aload C at_348 rfl rfl ?_
      refine g_iload C at_350 rfl ?_
      refine g_iconst C 2 at_352 rfl ?_
      refine g_iload C at_353 rfl ?_
      refine g_static C w_62 w_63 w_4 w_64 (by decide) [(.ref a491), (.ref b461), (.int (0 : Int32)), (.int (2 : Int32)), (.int (1 : Int32))] (ct_of hEL hw w_64 w_4 (rm_atT l Z a0 hw hEL a491 b461 (0 : Int32) (2 : Int32) (1 : Int32) h491 n0 (by decide))) all0 (by decide) 0 (by decide) rfl pd__Ljava_lang_String__CIII_Z rfl [] rfl (Nat.le_of_eq rfl) at_355 (by decide) (by decide) ?_
      intro v507 h507 Q507
      obtain ⟨rfl, e507⟩ := Q507
      replace e507 := e507.symm
      subst e507
      refine g_if_f C at_358 (XT.i0_eq_f (by decide)) ?_
      refine g_aload C at_361 rfl rfl ?_
      refine g_aload C at_363 rfl rfl ?_
      refine g_iload C at_365 rfl ?_
      refine g_iconst C 3 at_367 rfl ?_
      refine g_iload C at_368 rfl ?_
      refine g_static C w_62 w_63 w_4 w_64 (by decide) [(.ref a491), (.ref b461), (.int (0 : Int32)), (.int (3 : Int32)), (.int (1 : Int32))] (ct_of hEL hw w_64 w_4 (rm_atT l Z a0 hw hEL a491 b461 (0 : Int32) (3 : Int32) (1 : Int32) h491 n0 (by decide))) all0 (by decide) 0 (by decide) rfl pd__Ljava_lang_String__CIII_Z rfl [] rfl (Nat.le_of_eq rfl) at_370 (by decide) (by decide) ?_
      intro v508 h508 Q508
      obtain ⟨rfl, e508⟩ := Q508
      replace e508 := e508.symm
      subst e508
      refine g_if_f C at_373 (XT.i0_eq_f (by decide)) ?_
      refine g_iconst C 1 at_376 rfl ?_
      refine g_goto C 381 at_377 (by decide) (by decide) ?_
      refine g_ireturnN C hEL (t := .boolean) rfl (by simp) at_381 (by decide) (by decide) ?_
      exact rfl
  · rw [e_nn]
    refine g_iconst C 4 at_9 rfl ?_
    refine g_newarray C (aty := .char) w_1 at_10 (by decide) 4 (by decide) (by decide) (by decide) (by decide) "[C" rfl ?_
    intro b509 h509 ka509 g509 E509 V509 A509
    replace V509 : Arv Z h509 b509 ka509 .char (4 : Int32) [(.int (0 : Int32)), (.int (0 : Int32)), (.int (0 : Int32)), (.int (0 : Int32))] (.int (0 : Int32)) := V509.pad (pad_rep [] _ 4)
    refine g_astore C #[.val (.int i1), .val (.int i2), .val (.int i3), .val (.int i4), .val (.int i5), .val (.int (2 : Int32)), .val (.ref b509), .unset, .unset, .unset, .unset] at_12 rfl rfl ?_
    refine g_aload C at_14 rfl rfl ?_
    refine g_iconst C 0 at_16 rfl ?_
    refine g_iloadN C at_17 rfl ?_
    refine g_static C w_2 w_3 w_4 w_5 (by decide) [(.int i1)] (ct_of hEL hw w_5 w_4 (rm_ch l Z a0 hw hEL i1 h509 n0 )) all0 (by decide) 2 (by decide) rfl pd__I_C rfl [(.int (0 : Int32)), (.ref b509)] rfl (Nat.le_of_eq rfl) at_18 (by decide) (by decide) ?_
    intro v510 h510 Q510
    obtain ⟨z510, rfl, hz510, e510⟩ := Q510
    replace e510 := e510.symm
    subst e510
    rw [nar_ch8 hz510]
    refine g_castore C V509 (List.mem_of_getElem? (i := 0) rfl) at_21 ⟨by decide, by decide⟩ 0 rfl (Nat.le_of_ble_eq_true rfl) ?_
    intro h511 W511 V511
    rw [nar_ch8 hz510] at V511
    replace V511 : Arv Z h511 b509 ka509 .char (4 : Int32) [(.int z510), (.int (0 : Int32)), (.int (0 : Int32)), (.int (0 : Int32))] (.int (0 : Int32)) := V511
    refine g_aload C at_22 rfl rfl ?_
    refine g_iconst C 1 at_24 rfl ?_
    refine g_iloadN C at_25 rfl ?_
    refine g_static C w_2 w_3 w_4 w_5 (by decide) [(.int i2)] (ct_of hEL hw w_5 w_4 (rm_ch l Z a0 hw hEL i2 h511 n0 )) all0 (by decide) 2 (by decide) rfl pd__I_C rfl [(.int (1 : Int32)), (.ref b509)] rfl (Nat.le_of_eq rfl) at_26 (by decide) (by decide) ?_
    intro v512 h512 Q512
    obtain ⟨z512, rfl, hz512, e512⟩ := Q512
    replace e512 := e512.symm
    subst e512
    rw [nar_ch8 hz512]
    refine g_castore C V511 (List.mem_of_getElem? (i := 0) rfl) at_29 ⟨by decide, by decide⟩ 1 rfl (Nat.le_of_ble_eq_true rfl) ?_
    intro h513 W513 V513
    rw [nar_ch8 hz512] at V513
    replace V513 : Arv Z h513 b509 ka509 .char (4 : Int32) [(.int z510), (.int z512), (.int (0 : Int32)), (.int (0 : Int32))] (.int (0 : Int32)) := V513
    refine g_aload C at_30 rfl rfl ?_
    refine g_iconst C 2 at_32 rfl ?_
    refine g_iloadN C at_33 rfl ?_
    refine g_static C w_2 w_3 w_4 w_5 (by decide) [(.int i3)] (ct_of hEL hw w_5 w_4 (rm_ch l Z a0 hw hEL i3 h513 n0 )) all0 (by decide) 2 (by decide) rfl pd__I_C rfl [(.int (2 : Int32)), (.ref b509)] rfl (Nat.le_of_eq rfl) at_34 (by decide) (by decide) ?_
    intro v514 h514 Q514
    obtain ⟨z514, rfl, hz514, e514⟩ := Q514
    replace e514 := e514.symm
    subst e514
    rw [nar_ch8 hz514]
    refine g_castore C V513 (List.mem_of_getElem? (i := 0) rfl) at_37 ⟨by decide, by decide⟩ 2 rfl (Nat.le_of_ble_eq_true rfl) ?_
    intro h515 W515 V515
    rw [nar_ch8 hz514] at V515
    replace V515 : Arv Z h515 b509 ka509 .char (4 : Int32) [(.int z510), (.int z512), (.int z514), (.int (0 : Int32))] (.int (0 : Int32)) := V515
    refine g_aload C at_38 rfl rfl ?_
    refine g_iconst C 3 at_40 rfl ?_
    refine g_iloadN C at_41 rfl ?_
    refine g_static C w_2 w_3 w_4 w_5 (by decide) [(.int i4)] (ct_of hEL hw w_5 w_4 (rm_ch l Z a0 hw hEL i4 h515 n0 )) all0 (by decide) 2 (by decide) rfl pd__I_C rfl [(.int (3 : Int32)), (.ref b509)] rfl (Nat.le_of_eq rfl) at_42 (by decide) (by decide) ?_
    intro v516 h516 Q516
    obtain ⟨z516, rfl, hz516, e516⟩ := Q516
    replace e516 := e516.symm
    subst e516
    rw [nar_ch8 hz516]
    refine g_castore C V515 (List.mem_of_getElem? (i := 0) rfl) at_45 ⟨by decide, by decide⟩ 3 rfl (Nat.le_of_ble_eq_true rfl) ?_
    intro h517 W517 V517
    rw [nar_ch8 hz516] at V517
    replace V517 : Arv Z h517 b509 ka509 .char (4 : Int32) [(.int z510), (.int z512), (.int z514), (.int z516)] (.int (0 : Int32)) := V517
    refine g_iload C at_46 rfl ?_
    refine g_if_t C 66 at_48 (XT.i0_ne_t (by decide)) (by decide) (by decide) ?_
    refine g_iload C at_66 rfl ?_
    refine g_iconst C 1 at_68 rfl ?_
    refine g_icmp_t C 94 at_69 (XT.ii_ne_t (by decide)) (by decide) (by decide) ?_
    refine g_iload C at_94 rfl ?_
    refine g_iconst C 2 at_96 rfl ?_
    refine g_icmp_f C at_97 (XT.ii_ne_f (by decide)) ?_
    refine g_new C w_6 w_7 w_8 at_100 (by decide) (by decide) ?_
    intro b518 h518 g518 E518 A518 D518
    refine g_dup C at_103 rfl ?_
    refine g_iconst C 2 at_104 rfl ?_
    refine g_newarray C (aty := .char) w_1 at_105 (by decide) 2 (by decide) (by decide) (by decide) (by decide) "[C" rfl ?_
    intro b519 h519 ka519 g519 E519 V519 A519
    replace V519 : Arv Z h519 b519 ka519 .char (2 : Int32) [(.int (0 : Int32)), (.int (0 : Int32))] (.int (0 : Int32)) := V519.pad (pad_rep [] _ 2)
    refine g_dup C at_107 rfl ?_
    refine g_iconst C 0 at_108 rfl ?_
    refine g_aload C at_109 rfl rfl ?_
    refine g_iconst C 0 at_111 rfl ?_
    have K520 : Keep h517 h518 [] := (Keep.refl h517 []).ext E518
    have K521 : Keep h517 h519 [] := K520.ext E519
    have V522 := (V517.keep K521 nin0)
    refine g_caload C V522 at_112 ⟨by decide, by decide⟩ (v := (.int z510)) rfl ?_
    refine g_castore C V519 (List.mem_of_getElem? (i := 0) rfl) at_113 ⟨by decide, by decide⟩ 0 rfl (Nat.le_of_ble_eq_true rfl) ?_
    intro h523 W523 V523
    rw [nar_ch8 hz510] at V523
    replace V523 : Arv Z h523 b519 ka519 .char (2 : Int32) [(.int z510), (.int (0 : Int32))] (.int (0 : Int32)) := V523
    refine g_dup C at_114 rfl ?_
    refine g_iconst C 1 at_115 rfl ?_
    refine g_aload C at_116 rfl rfl ?_
    refine g_iconst C 1 at_118 rfl ?_
    have V524 := (V517.keep K520 nin0)
    have V525 := (V522.other W523 (Nat.ne_of_lt (Nat.lt_of_lt_of_le V524.lt (Nat.le_of_eq g519.symm))))
    refine g_caload C V525 at_119 ⟨by decide, by decide⟩ (v := (.int z512)) rfl ?_
    refine g_castore C V523 (List.mem_of_getElem? (i := 0) rfl) at_120 ⟨by decide, by decide⟩ 1 rfl (Nat.le_of_ble_eq_true rfl) ?_
    intro h526 W526 V526
    rw [nar_ch8 hz512] at V526
    replace V526 : Arv Z h526 b519 ka519 .char (2 : Int32) [(.int z510), (.int z512)] (.int (0 : Int32)) := V526
    have K527 : Keep h518 h519 [] := (Keep.refl h518 []).ext E519
    have K528 : Keep h518 h523 [] := K527.wr W523 (Or.inr (Nat.le_of_eq g519.symm))
    have K529 : Keep h518 h526 [] := K528.wr W526 (Or.inr (Nat.le_of_eq g519.symm))
    have E530 := (A518.keep K529)
    have F531 := ((D518 (Or.inr (C.hw w_21)) (ty := (.array .byte)) (by decide)).keep K529 nin0)
    have F532 := ((D518 (Or.inr (C.hw w_22)) (ty := .byte) (by decide)).keep K529 nin0)
    have K533 : Keep h0 h509 [] := (Keep.refl h0 []).ext E509
    have K534 : Keep h0 h511 [] := K533.wr W511 (Or.inr (Nat.le_of_eq g509.symm))
    have K535 : Keep h0 h513 [] := K534.wr W513 (Or.inr (Nat.le_of_eq g509.symm))
    have K536 : Keep h0 h515 [] := K535.wr W515 (Or.inr (Nat.le_of_eq g509.symm))
    have K537 : Keep h0 h517 [] := K536.wr W517 (Or.inr (Nat.le_of_eq g509.symm))
    have K538 : Keep h0 h518 [] := K537.ext E518
    have K539 : Keep h0 h519 [] := K538.ext E519
    have K540 : Keep h0 h523 [] := K539.wr W523 (Or.inr (Nat.le_trans K538.1 (Nat.le_of_eq g519.symm)))
    have K541 : Keep h0 h526 [] := K540.wr W526 (Or.inr (Nat.le_trans K538.1 (Nat.le_of_eq g519.symm)))
    refine g_special C (a := b518) w_9 w_10 w_11 rfl (by decide) [(.ref b519)] (ct_newS hEL hw (cs := [z510, z512]) (n := 2) E530 F531 F532 V526 (Sta_keep Szc K541) hzc rfl (by decide) (by decide) (own_allc hz510 (own_allc hz512 (fun _ q => nomatch q)))) (allS (List.mem_of_getElem? (i := 1) rfl) all0) (by decide) 1 (by decide) rfl pd___C_V rfl [(.ref b518)] rfl (Nat.le_of_eq rfl) at_121 (by decide) (by decide) ?_
    intro v542 h542 Q542
    obtain ⟨rfl, KC542, t542, kb542, ht542, htx542, S542⟩ := Q542
    refine g_astore C #[.val (.int i1), .val (.int i2), .val (.int i3), .val (.int i4), .val (.int i5), .val (.int (2 : Int32)), .val (.ref b509), .val (.ref b518), .unset, .unset, .unset] at_124 rfl rfl ?_
    refine g_goto C 211 at_126 (by decide) (by decide) ?_
    refine g_aload C at_211 rfl rfl ?_
    have K543 : Keep h0 h542 [] := K541.trans KC542 (allS (Or.inr (Nat.le_trans K537.1 (Nat.le_of_eq g518.symm))) all0)
    refine g_static C w_27 w_28 w_29 w_30 (by decide) [(.ref b518)] (ct_of hEL hw w_30 w_29 (rm_strip2 l Z a0 hw hEL b518 t542 _ z510 z512 zc fm h542 n0 S542 hz510 hz512 (Sta_keep Szc K543) hzc (Sta_keep Sfm K543) hfm)) all0 (by decide) 0 (by decide) rfl pd__Ljava_lang_String__Ljava_lang_String_ rfl [] rfl (Nat.le_of_eq rfl) at_213 (by decide) (by decide) ?_
    intro v544 h544 Q544
    obtain ⟨a544, t544, kb544, rfl, KC544, S544⟩ := Q544
    refine g_astore C #[.val (.int i1), .val (.int i2), .val (.int i3), .val (.int i4), .val (.int i5), .val (.int (2 : Int32)), .val (.ref b509), .val (.ref b518), .val (.ref a544), .unset, .unset] at_216 rfl rfl ?_
    refine g_iconst C 0 at_218 rfl ?_
    refine g_istore C #[.val (.int i1), .val (.int i2), .val (.int i3), .val (.int i4), .val (.int i5), .val (.int (2 : Int32)), .val (.ref b509), .val (.ref b518), .val (.ref a544), .val (.int (0 : Int32)), .unset] at_219 rfl ?_
    refine g_iload C at_221 rfl ?_
    refine g_if_f C at_223 (XT.i0_le_f (by decide)) ?_
    refine g_aload C at_226 rfl rfl ?_
    refine g_iconst C 0 at_228 rfl ?_
    have V545 := (((V525.other W526 (Nat.ne_of_lt (Nat.lt_of_lt_of_le V524.lt (Nat.le_of_eq g519.symm)))).keep KC542 (ninS (Nat.ne_of_lt (Nat.lt_of_lt_of_le V517.lt (Nat.le_of_eq g518.symm))) nin0)).keep KC544 nin0)
    refine g_caload C V545 at_229 ⟨by decide, by decide⟩ (v := (.int z510)) rfl ?_
    refine g_bipush C 48 at_230 rfl ?_
    by_cases hc546 : z510 = (48 : Int32)
    · refine g_icmp_f C at_232 (XT.ii_ne_f hc546) ?_
      refine g_iconst C 1 at_235 rfl ?_
      refine g_istore C #[.val (.int i1), .val (.int i2), .val (.int i3), .val (.int i4), .val (.int i5), .val (.int (2 : Int32)), .val (.ref b509), .val (.ref b518), .val (.ref a544), .val (.int (1 : Int32)), .unset] at_236 rfl ?_
      refine g_iload C at_238 rfl ?_
      refine g_iconst C 1 at_240 rfl ?_
      refine g_icmp_f C at_241 (XT.ii_le_f (by decide)) ?_
      refine g_aload C at_244 rfl rfl ?_
      refine g_iconst C 1 at_246 rfl ?_
      refine g_caload C V545 at_247 ⟨by decide, by decide⟩ (v := (.int z512)) rfl ?_
      refine g_bipush C 48 at_248 rfl ?_
      by_cases hc547 : z512 = (48 : Int32)
      · refine g_icmp_f C at_250 (XT.ii_ne_f hc547) ?_
        refine g_iconst C 2 at_253 rfl ?_
        refine g_istore C #[.val (.int i1), .val (.int i2), .val (.int i3), .val (.int i4), .val (.int i5), .val (.int (2 : Int32)), .val (.ref b509), .val (.ref b518), .val (.ref a544), .val (.int (2 : Int32)), .unset] at_254 rfl ?_
        refine g_iload C at_256 rfl ?_
        refine g_iconst C 2 at_258 rfl ?_
        refine g_icmp_t C 292 at_259 (XT.ii_le_t (by decide)) (by decide) (by decide) ?_
        refine g_iload C at_292 rfl ?_
        refine g_iload C at_294 rfl ?_
        refine g_isub C at_296 ?_
        rw [show ((2 : Int32) - (2 : Int32)) = (0 : Int32) from by decide]
        refine g_istore C #[.val (.int i1), .val (.int i2), .val (.int i3), .val (.int i4), .val (.int i5), .val (.int (2 : Int32)), .val (.ref b509), .val (.ref b518), .val (.ref a544), .val (.int (2 : Int32)), .val (.int (0 : Int32))] at_297 rfl ?_
        have S548 : Str Z h544 a544 t544 kb544 [] := by simpa [dz, hc546, hc547] using S544
        refine g_aload C at_299 rfl rfl ?_
        refine g_ifnull_f C at_301 ?_
        refine g_aload C at_304 rfl rfl ?_
        have K549 : Keep h0 h544 [] := K543.trans KC544 all0
        refine g_virtual C S544.1 w_61 w_32 (fun hZ => nf_sel hw w_34 hZ) w_34 w_33 (by decide) [] (ct_len hEL hw S548 (Sta_keep Szc K549) hzc) all0 (by decide) 0 (by decide) rfl pd___I rfl [] rfl (Nat.le_of_eq rfl) at_306 (by decide) (by decide) ?_
        intro v550 h550 Q550
        obtain ⟨ev550, e550⟩ := Q550
        replace e550 := e550.symm
        subst e550
        replace ev550 : v550 = some (.int (0 : Int32)) := ev550
        subst ev550
        refine g_iload C at_309 rfl ?_
        refine g_icmp_t C 316 at_311 (XT.ii_eq_t (by decide)) (by decide) (by decide) ?_
        refine g_aload C at_316 rfl rfl ?_
        refine g_aload C at_318 rfl rfl ?_
        refine g_iload C at_320 rfl ?_
        refine g_iconst C 0 at_322 rfl ?_
        refine g_iload C at_323 rfl ?_
        refine g_static C w_62 w_63 w_4 w_64 (by decide) [(.ref a544), (.ref b509), (.int (2 : Int32)), (.int (0 : Int32)), (.int (0 : Int32))] (ct_of hEL hw w_64 w_4 (rm_atT l Z a0 hw hEL a544 b509 (2 : Int32) (0 : Int32) (0 : Int32) h544 n0 (by decide))) all0 (by decide) 0 (by decide) rfl pd__Ljava_lang_String__CIII_Z rfl [] rfl (Nat.le_of_eq rfl) at_325 (by decide) (by decide) ?_
        intro v551 h551 Q551
        obtain ⟨rfl, e551⟩ := Q551
        replace e551 := e551.symm
        subst e551
        refine g_if_f C at_328 (XT.i0_eq_f (by decide)) ?_
        refine g_aload C at_331 rfl rfl ?_
        refine g_aload C at_333 rfl rfl ?_
        refine g_iload C at_335 rfl ?_
        refine g_iconst C 1 at_337 rfl ?_
        refine g_iload C at_338 rfl ?_
        refine g_static C w_62 w_63 w_4 w_64 (by decide) [(.ref a544), (.ref b509), (.int (2 : Int32)), (.int (1 : Int32)), (.int (0 : Int32))] (ct_of hEL hw w_64 w_4 (rm_atT l Z a0 hw hEL a544 b509 (2 : Int32) (1 : Int32) (0 : Int32) h544 n0 (by decide))) all0 (by decide) 0 (by decide) rfl pd__Ljava_lang_String__CIII_Z rfl [] rfl (Nat.le_of_eq rfl) at_340 (by decide) (by decide) ?_
        intro v552 h552 Q552
        obtain ⟨rfl, e552⟩ := Q552
        replace e552 := e552.symm
        subst e552
        refine g_if_f C at_343 (XT.i0_eq_f (by decide)) ?_
        refine g_aload C at_346 rfl rfl ?_
        refine g_aload C at_348 rfl rfl ?_
        refine g_iload C at_350 rfl ?_
        refine g_iconst C 2 at_352 rfl ?_
        refine g_iload C at_353 rfl ?_
        refine g_static C w_62 w_63 w_4 w_64 (by decide) [(.ref a544), (.ref b509), (.int (2 : Int32)), (.int (2 : Int32)), (.int (0 : Int32))] (ct_of hEL hw w_64 w_4 (rm_atT l Z a0 hw hEL a544 b509 (2 : Int32) (2 : Int32) (0 : Int32) h544 n0 (by decide))) all0 (by decide) 0 (by decide) rfl pd__Ljava_lang_String__CIII_Z rfl [] rfl (Nat.le_of_eq rfl) at_355 (by decide) (by decide) ?_
        intro v553 h553 Q553
        obtain ⟨rfl, e553⟩ := Q553
        replace e553 := e553.symm
        subst e553
        refine g_if_f C at_358 (XT.i0_eq_f (by decide)) ?_
        refine g_aload C at_361 rfl rfl ?_
        refine g_aload C at_363 rfl rfl ?_
        refine g_iload C at_365 rfl ?_
        refine g_iconst C 3 at_367 rfl ?_
        refine g_iload C at_368 rfl ?_
        refine g_static C w_62 w_63 w_4 w_64 (by decide) [(.ref a544), (.ref b509), (.int (2 : Int32)), (.int (3 : Int32)), (.int (0 : Int32))] (ct_of hEL hw w_64 w_4 (rm_atT l Z a0 hw hEL a544 b509 (2 : Int32) (3 : Int32) (0 : Int32) h544 n0 (by decide))) all0 (by decide) 0 (by decide) rfl pd__Ljava_lang_String__CIII_Z rfl [] rfl (Nat.le_of_eq rfl) at_370 (by decide) (by decide) ?_
        intro v554 h554 Q554
        obtain ⟨rfl, e554⟩ := Q554
        replace e554 := e554.symm
        subst e554
        refine g_if_f C at_373 (XT.i0_eq_f (by decide)) ?_
        refine g_iconst C 1 at_376 rfl ?_
        refine g_goto C 381 at_377 (by decide) (by decide) ?_
        refine g_ireturnN C hEL (t := .boolean) rfl (by simp) at_381 (by decide) (by decide) ?_
        exact rfl
      · refine g_icmp_t C 292 at_250 (XT.ii_ne_t hc547) (by decide) (by decide) ?_
        refine g_iload C at_292 rfl ?_
        refine g_iload C at_294 rfl ?_
        refine g_isub C at_296 ?_
        rw [show ((2 : Int32) - (1 : Int32)) = (1 : Int32) from by decide]
        refine g_istore C #[.val (.int i1), .val (.int i2), .val (.int i3), .val (.int i4), .val (.int i5), .val (.int (2 : Int32)), .val (.ref b509), .val (.ref b518), .val (.ref a544), .val (.int (1 : Int32)), .val (.int (1 : Int32))] at_297 rfl ?_
        have S555 : Str Z h544 a544 t544 kb544 [z512] := by simpa [dz, hc546, hc547] using S544
        refine g_aload C at_299 rfl rfl ?_
        refine g_ifnull_f C at_301 ?_
        refine g_aload C at_304 rfl rfl ?_
        have K556 : Keep h0 h544 [] := K543.trans KC544 all0
        refine g_virtual C S544.1 w_61 w_32 (fun hZ => nf_sel hw w_34 hZ) w_34 w_33 (by decide) [] (ct_len hEL hw S555 (Sta_keep Szc K556) hzc) all0 (by decide) 0 (by decide) rfl pd___I rfl [] rfl (Nat.le_of_eq rfl) at_306 (by decide) (by decide) ?_
        intro v557 h557 Q557
        obtain ⟨ev557, e557⟩ := Q557
        replace e557 := e557.symm
        subst e557
        replace ev557 : v557 = some (.int (1 : Int32)) := ev557
        subst ev557
        refine g_iload C at_309 rfl ?_
        refine g_icmp_t C 316 at_311 (XT.ii_eq_t (by decide)) (by decide) (by decide) ?_
        refine g_aload C at_316 rfl rfl ?_
        refine g_aload C at_318 rfl rfl ?_
        refine g_iload C at_320 rfl ?_
        refine g_iconst C 0 at_322 rfl ?_
        refine g_iload C at_323 rfl ?_
        refine g_static C w_62 w_63 w_4 w_64 (by decide) [(.ref a544), (.ref b509), (.int (1 : Int32)), (.int (0 : Int32)), (.int (1 : Int32))] (ct_of hEL hw w_64 w_4 (rm_atC l Z a0 hw hEL a544 t544 b509 _ _ [z512] (1 : Int32) 0 (1 : Int32) (4 : Int32) [(.int z510), (.int z512), (.int z514), (.int z516)] (.int (0 : Int32)) zc fm h544 n0 (by decide) S555 (Nat.le_of_ble_eq_true rfl) V545 ⟨by decide, by decide⟩ rfl (Sta_keep Szc K556) hzc (Sta_keep Sfm K556) hfm)) all0 (by decide) 0 (by decide) rfl pd__Ljava_lang_String__CIII_Z rfl [] rfl (Nat.le_of_eq rfl) at_325 (by decide) (by decide) ?_
        intro v558 h558 Q558
        obtain ⟨rfl, e558⟩ := Q558
        replace e558 := e558.symm
        subst e558
        refine g_if_f C at_328 (XT.i0_eq_f (by decide)) ?_
        refine g_aload C at_331 rfl rfl ?_
        refine g_aload C at_333 rfl rfl ?_
        refine g_iload C at_335 rfl ?_
        refine g_iconst C 1 at_337 rfl ?_
        refine g_iload C at_338 rfl ?_
        refine g_static C w_62 w_63 w_4 w_64 (by decide) [(.ref a544), (.ref b509), (.int (1 : Int32)), (.int (1 : Int32)), (.int (1 : Int32))] (ct_of hEL hw w_64 w_4 (rm_atT l Z a0 hw hEL a544 b509 (1 : Int32) (1 : Int32) (1 : Int32) h544 n0 (by decide))) all0 (by decide) 0 (by decide) rfl pd__Ljava_lang_String__CIII_Z rfl [] rfl (Nat.le_of_eq rfl) at_340 (by decide) (by decide) ?_
        intro v559 h559 Q559
        obtain ⟨rfl, e559⟩ := Q559
        replace e559 := e559.symm
        subst e559
        refine g_if_f C at_343 (XT.i0_eq_f (by decide)) ?_
        refine g_aload C at_346 rfl rfl ?_
        refine g_aload C at_348 rfl rfl ?_
        refine g_iload C at_350 rfl ?_
        refine g_iconst C 2 at_352 rfl ?_
        refine g_iload C at_353 rfl ?_
        refine g_static C w_62 w_63 w_4 w_64 (by decide) [(.ref a544), (.ref b509), (.int (1 : Int32)), (.int (2 : Int32)), (.int (1 : Int32))] (ct_of hEL hw w_64 w_4 (rm_atT l Z a0 hw hEL a544 b509 (1 : Int32) (2 : Int32) (1 : Int32) h544 n0 (by decide))) all0 (by decide) 0 (by decide) rfl pd__Ljava_lang_String__CIII_Z rfl [] rfl (Nat.le_of_eq rfl) at_355 (by decide) (by decide) ?_
        intro v560 h560 Q560
        obtain ⟨rfl, e560⟩ := Q560
        replace e560 := e560.symm
        subst e560
        refine g_if_f C at_358 (XT.i0_eq_f (by decide)) ?_
        refine g_aload C at_361 rfl rfl ?_
        refine g_aload C at_363 rfl rfl ?_
        refine g_iload C at_365 rfl ?_
        refine g_iconst C 3 at_367 rfl ?_
        refine g_iload C at_368 rfl ?_
        refine g_static C w_62 w_63 w_4 w_64 (by decide) [(.ref a544), (.ref b509), (.int (1 : Int32)), (.int (3 : Int32)), (.int (1 : Int32))] (ct_of hEL hw w_64 w_4 (rm_atT l Z a0 hw hEL a544 b509 (1 : Int32) (3 : Int32) (1 : Int32) h544 n0 (by decide))) all0 (by decide) 0 (by decide) rfl pd__Ljava_lang_String__CIII_Z rfl [] rfl (Nat.le_of_eq rfl) at_370 (by decide) (by decide) ?_
        intro v561 h561 Q561
        obtain ⟨rfl, e561⟩ := Q561
        replace e561 := e561.symm
        subst e561
        refine g_if_f C at_373 (XT.i0_eq_f (by decide)) ?_
        refine g_iconst C 1 at_376 rfl ?_
        refine g_goto C 381 at_377 (by decide) (by decide) ?_
        refine g_ireturnN C hEL (t := .boolean) rfl (by simp) at_381 (by decide) (by decide) ?_
        exact rfl
    · refine g_icmp_t C 292 at_232 (XT.ii_ne_t hc546) (by decide) (by decide) ?_
      refine g_iload C at_292 rfl ?_
      refine g_iload C at_294 rfl ?_
      refine g_isub C at_296 ?_
      rw [show ((2 : Int32) - (0 : Int32)) = (2 : Int32) from by decide]
      refine g_istore C #[.val (.int i1), .val (.int i2), .val (.int i3), .val (.int i4), .val (.int i5), .val (.int (2 : Int32)), .val (.ref b509), .val (.ref b518), .val (.ref a544), .val (.int (0 : Int32)), .val (.int (2 : Int32))] at_297 rfl ?_
      have S562 : Str Z h544 a544 t544 kb544 [z510, z512] := by simpa [dz, hc546] using S544
      refine g_aload C at_299 rfl rfl ?_
      refine g_ifnull_f C at_301 ?_
      refine g_aload C at_304 rfl rfl ?_
      have K563 : Keep h0 h544 [] := K543.trans KC544 all0
      refine g_virtual C S544.1 w_61 w_32 (fun hZ => nf_sel hw w_34 hZ) w_34 w_33 (by decide) [] (ct_len hEL hw S562 (Sta_keep Szc K563) hzc) all0 (by decide) 0 (by decide) rfl pd___I rfl [] rfl (Nat.le_of_eq rfl) at_306 (by decide) (by decide) ?_
      intro v564 h564 Q564
      obtain ⟨ev564, e564⟩ := Q564
      replace e564 := e564.symm
      subst e564
      replace ev564 : v564 = some (.int (2 : Int32)) := ev564
      subst ev564
      refine g_iload C at_309 rfl ?_
      refine g_icmp_t C 316 at_311 (XT.ii_eq_t (by decide)) (by decide) (by decide) ?_
      refine g_aload C at_316 rfl rfl ?_
      refine g_aload C at_318 rfl rfl ?_
      refine g_iload C at_320 rfl ?_
      refine g_iconst C 0 at_322 rfl ?_
      refine g_iload C at_323 rfl ?_
      refine g_static C w_62 w_63 w_4 w_64 (by decide) [(.ref a544), (.ref b509), (.int (0 : Int32)), (.int (0 : Int32)), (.int (2 : Int32))] (ct_of hEL hw w_64 w_4 (rm_atC l Z a0 hw hEL a544 t544 b509 _ _ [z510, z512] (0 : Int32) 0 (2 : Int32) (4 : Int32) [(.int z510), (.int z512), (.int z514), (.int z516)] (.int (0 : Int32)) zc fm h544 n0 (by decide) S562 (Nat.le_of_ble_eq_true rfl) V545 ⟨by decide, by decide⟩ rfl (Sta_keep Szc K563) hzc (Sta_keep Sfm K563) hfm)) all0 (by decide) 0 (by decide) rfl pd__Ljava_lang_String__CIII_Z rfl [] rfl (Nat.le_of_eq rfl) at_325 (by decide) (by decide) ?_
      intro v565 h565 Q565
      obtain ⟨rfl, e565⟩ := Q565
      replace e565 := e565.symm
      subst e565
      refine g_if_f C at_328 (XT.i0_eq_f (by decide)) ?_
      refine g_aload C at_331 rfl rfl ?_
      refine g_aload C at_333 rfl rfl ?_
      refine g_iload C at_335 rfl ?_
      refine g_iconst C 1 at_337 rfl ?_
      refine g_iload C at_338 rfl ?_
      refine g_static C w_62 w_63 w_4 w_64 (by decide) [(.ref a544), (.ref b509), (.int (0 : Int32)), (.int (1 : Int32)), (.int (2 : Int32))] (ct_of hEL hw w_64 w_4 (rm_atC l Z a0 hw hEL a544 t544 b509 _ _ [z510, z512] (0 : Int32) 1 (2 : Int32) (4 : Int32) [(.int z510), (.int z512), (.int z514), (.int z516)] (.int (0 : Int32)) zc fm h544 n0 (by decide) S562 (Nat.le_of_ble_eq_true rfl) V545 ⟨by decide, by decide⟩ rfl (Sta_keep Szc K563) hzc (Sta_keep Sfm K563) hfm)) all0 (by decide) 0 (by decide) rfl pd__Ljava_lang_String__CIII_Z rfl [] rfl (Nat.le_of_eq rfl) at_340 (by decide) (by decide) ?_
      intro v566 h566 Q566
      obtain ⟨rfl, e566⟩ := Q566
      replace e566 := e566.symm
      subst e566
      refine g_if_f C at_343 (XT.i0_eq_f (by decide)) ?_
      refine g_aload C at_346 rfl rfl ?_
      refine g_aload C at_348 rfl rfl ?_
      refine g_iload C at_350 rfl ?_
      refine g_iconst C 2 at_352 rfl ?_
      refine g_iload C at_353 rfl ?_
      refine g_static C w_62 w_63 w_4 w_64 (by decide) [(.ref a544), (.ref b509), (.int (0 : Int32)), (.int (2 : Int32)), (.int (2 : Int32))] (ct_of hEL hw w_64 w_4 (rm_atT l Z a0 hw hEL a544 b509 (0 : Int32) (2 : Int32) (2 : Int32) h544 n0 (by decide))) all0 (by decide) 0 (by decide) rfl pd__Ljava_lang_String__CIII_Z rfl [] rfl (Nat.le_of_eq rfl) at_355 (by decide) (by decide) ?_
      intro v567 h567 Q567
      obtain ⟨rfl, e567⟩ := Q567
      replace e567 := e567.symm
      subst e567
      refine g_if_f C at_358 (XT.i0_eq_f (by decide)) ?_
      refine g_aload C at_361 rfl rfl ?_
      refine g_aload C at_363 rfl rfl ?_
      refine g_iload C at_365 rfl ?_
      refine g_iconst C 3 at_367 rfl ?_
      refine g_iload C at_368 rfl ?_
      refine g_static C w_62 w_63 w_4 w_64 (by decide) [(.ref a544), (.ref b509), (.int (0 : Int32)), (.int (3 : Int32)), (.int (2 : Int32))] (ct_of hEL hw w_64 w_4 (rm_atT l Z a0 hw hEL a544 b509 (0 : Int32) (3 : Int32) (2 : Int32) h544 n0 (by decide))) all0 (by decide) 0 (by decide) rfl pd__Ljava_lang_String__CIII_Z rfl [] rfl (Nat.le_of_eq rfl) at_370 (by decide) (by decide) ?_
      intro v568 h568 Q568
      obtain ⟨rfl, e568⟩ := Q568
      replace e568 := e568.symm
      subst e568
      refine g_if_f C at_373 (XT.i0_eq_f (by decide)) ?_
      refine g_iconst C 1 at_376 rfl ?_
      refine g_goto C 381 at_377 (by decide) (by decide) ?_
      refine g_ireturnN C hEL (t := .boolean) rfl (by simp) at_381 (by decide) (by decide) ?_
      exact rfl
  · rw [e_nn]
    refine g_iconst C 4 at_9 rfl ?_
    refine g_newarray C (aty := .char) w_1 at_10 (by decide) 4 (by decide) (by decide) (by decide) (by decide) "[C" rfl ?_
    intro b569 h569 ka569 g569 E569 V569 A569
    replace V569 : Arv Z h569 b569 ka569 .char (4 : Int32) [(.int (0 : Int32)), (.int (0 : Int32)), (.int (0 : Int32)), (.int (0 : Int32))] (.int (0 : Int32)) := V569.pad (pad_rep [] _ 4)
    refine g_astore C #[.val (.int i1), .val (.int i2), .val (.int i3), .val (.int i4), .val (.int i5), .val (.int (3 : Int32)), .val (.ref b569), .unset, .unset, .unset, .unset] at_12 rfl rfl ?_
    refine g_aload C at_14 rfl rfl ?_
    refine g_iconst C 0 at_16 rfl ?_
    refine g_iloadN C at_17 rfl ?_
    refine g_static C w_2 w_3 w_4 w_5 (by decide) [(.int i1)] (ct_of hEL hw w_5 w_4 (rm_ch l Z a0 hw hEL i1 h569 n0 )) all0 (by decide) 2 (by decide) rfl pd__I_C rfl [(.int (0 : Int32)), (.ref b569)] rfl (Nat.le_of_eq rfl) at_18 (by decide) (by decide) ?_
    intro v570 h570 Q570
    obtain ⟨z570, rfl, hz570, e570⟩ := Q570
    replace e570 := e570.symm
    subst e570
    rw [nar_ch8 hz570]
    refine g_castore C V569 (List.mem_of_getElem? (i := 0) rfl) at_21 ⟨by decide, by decide⟩ 0 rfl (Nat.le_of_ble_eq_true rfl) ?_
    intro h571 W571 V571
    rw [nar_ch8 hz570] at V571
    replace V571 : Arv Z h571 b569 ka569 .char (4 : Int32) [(.int z570), (.int (0 : Int32)), (.int (0 : Int32)), (.int (0 : Int32))] (.int (0 : Int32)) := V571
    refine g_aload C at_22 rfl rfl ?_
    refine g_iconst C 1 at_24 rfl ?_
    refine g_iloadN C at_25 rfl ?_
    refine g_static C w_2 w_3 w_4 w_5 (by decide) [(.int i2)] (ct_of hEL hw w_5 w_4 (rm_ch l Z a0 hw hEL i2 h571 n0 )) all0 (by decide) 2 (by decide) rfl pd__I_C rfl [(.int (1 : Int32)), (.ref b569)] rfl (Nat.le_of_eq rfl) at_26 (by decide) (by decide) ?_
    intro v572 h572 Q572
    obtain ⟨z572, rfl, hz572, e572⟩ := Q572
    replace e572 := e572.symm
    subst e572
    rw [nar_ch8 hz572]
    refine g_castore C V571 (List.mem_of_getElem? (i := 0) rfl) at_29 ⟨by decide, by decide⟩ 1 rfl (Nat.le_of_ble_eq_true rfl) ?_
    intro h573 W573 V573
    rw [nar_ch8 hz572] at V573
    replace V573 : Arv Z h573 b569 ka569 .char (4 : Int32) [(.int z570), (.int z572), (.int (0 : Int32)), (.int (0 : Int32))] (.int (0 : Int32)) := V573
    refine g_aload C at_30 rfl rfl ?_
    refine g_iconst C 2 at_32 rfl ?_
    refine g_iloadN C at_33 rfl ?_
    refine g_static C w_2 w_3 w_4 w_5 (by decide) [(.int i3)] (ct_of hEL hw w_5 w_4 (rm_ch l Z a0 hw hEL i3 h573 n0 )) all0 (by decide) 2 (by decide) rfl pd__I_C rfl [(.int (2 : Int32)), (.ref b569)] rfl (Nat.le_of_eq rfl) at_34 (by decide) (by decide) ?_
    intro v574 h574 Q574
    obtain ⟨z574, rfl, hz574, e574⟩ := Q574
    replace e574 := e574.symm
    subst e574
    rw [nar_ch8 hz574]
    refine g_castore C V573 (List.mem_of_getElem? (i := 0) rfl) at_37 ⟨by decide, by decide⟩ 2 rfl (Nat.le_of_ble_eq_true rfl) ?_
    intro h575 W575 V575
    rw [nar_ch8 hz574] at V575
    replace V575 : Arv Z h575 b569 ka569 .char (4 : Int32) [(.int z570), (.int z572), (.int z574), (.int (0 : Int32))] (.int (0 : Int32)) := V575
    refine g_aload C at_38 rfl rfl ?_
    refine g_iconst C 3 at_40 rfl ?_
    refine g_iloadN C at_41 rfl ?_
    refine g_static C w_2 w_3 w_4 w_5 (by decide) [(.int i4)] (ct_of hEL hw w_5 w_4 (rm_ch l Z a0 hw hEL i4 h575 n0 )) all0 (by decide) 2 (by decide) rfl pd__I_C rfl [(.int (3 : Int32)), (.ref b569)] rfl (Nat.le_of_eq rfl) at_42 (by decide) (by decide) ?_
    intro v576 h576 Q576
    obtain ⟨z576, rfl, hz576, e576⟩ := Q576
    replace e576 := e576.symm
    subst e576
    rw [nar_ch8 hz576]
    refine g_castore C V575 (List.mem_of_getElem? (i := 0) rfl) at_45 ⟨by decide, by decide⟩ 3 rfl (Nat.le_of_ble_eq_true rfl) ?_
    intro h577 W577 V577
    rw [nar_ch8 hz576] at V577
    replace V577 : Arv Z h577 b569 ka569 .char (4 : Int32) [(.int z570), (.int z572), (.int z574), (.int z576)] (.int (0 : Int32)) := V577
    refine g_iload C at_46 rfl ?_
    refine g_if_t C 66 at_48 (XT.i0_ne_t (by decide)) (by decide) (by decide) ?_
    refine g_iload C at_66 rfl ?_
    refine g_iconst C 1 at_68 rfl ?_
    refine g_icmp_t C 94 at_69 (XT.ii_ne_t (by decide)) (by decide) (by decide) ?_
    refine g_iload C at_94 rfl ?_
    refine g_iconst C 2 at_96 rfl ?_
    refine g_icmp_t C 129 at_97 (XT.ii_ne_t (by decide)) (by decide) (by decide) ?_
    refine g_iload C at_129 rfl ?_
    refine g_iconst C 3 at_131 rfl ?_
    refine g_icmp_f C at_132 (XT.ii_ne_f (by decide)) ?_
    refine g_new C w_6 w_7 w_8 at_135 (by decide) (by decide) ?_
    intro b578 h578 g578 E578 A578 D578
    refine g_dup C at_138 rfl ?_
    refine g_iconst C 3 at_139 rfl ?_
    refine g_newarray C (aty := .char) w_1 at_140 (by decide) 3 (by decide) (by decide) (by decide) (by decide) "[C" rfl ?_
    intro b579 h579 ka579 g579 E579 V579 A579
    replace V579 : Arv Z h579 b579 ka579 .char (3 : Int32) [(.int (0 : Int32)), (.int (0 : Int32)), (.int (0 : Int32))] (.int (0 : Int32)) := V579.pad (pad_rep [] _ 3)
    refine g_dup C at_142 rfl ?_
    refine g_iconst C 0 at_143 rfl ?_
    refine g_aload C at_144 rfl rfl ?_
    refine g_iconst C 0 at_146 rfl ?_
    have K580 : Keep h577 h578 [] := (Keep.refl h577 []).ext E578
    have K581 : Keep h577 h579 [] := K580.ext E579
    have V582 := (V577.keep K581 nin0)
    refine g_caload C V582 at_147 ⟨by decide, by decide⟩ (v := (.int z570)) rfl ?_
    refine g_castore C V579 (List.mem_of_getElem? (i := 0) rfl) at_148 ⟨by decide, by decide⟩ 0 rfl (Nat.le_of_ble_eq_true rfl) ?_
    intro h583 W583 V583
    rw [nar_ch8 hz570] at V583
    replace V583 : Arv Z h583 b579 ka579 .char (3 : Int32) [(.int z570), (.int (0 : Int32)), (.int (0 : Int32))] (.int (0 : Int32)) := V583
    refine g_dup C at_149 rfl ?_
    refine g_iconst C 1 at_150 rfl ?_
    refine g_aload C at_151 rfl rfl ?_
    refine g_iconst C 1 at_153 rfl ?_
    have V584 := (V577.keep K580 nin0)
    have V585 := (V582.other W583 (Nat.ne_of_lt (Nat.lt_of_lt_of_le V584.lt (Nat.le_of_eq g579.symm))))
    refine g_caload C V585 at_154 ⟨by decide, by decide⟩ (v := (.int z572)) rfl ?_
    refine g_castore C V583 (List.mem_of_getElem? (i := 0) rfl) at_155 ⟨by decide, by decide⟩ 1 rfl (Nat.le_of_ble_eq_true rfl) ?_
    intro h586 W586 V586
    rw [nar_ch8 hz572] at V586
    replace V586 : Arv Z h586 b579 ka579 .char (3 : Int32) [(.int z570), (.int z572), (.int (0 : Int32))] (.int (0 : Int32)) := V586
    refine g_dup C at_156 rfl ?_
    refine g_iconst C 2 at_157 rfl ?_
    refine g_aload C at_158 rfl rfl ?_
    refine g_iconst C 2 at_160 rfl ?_
    have V587 := (V585.other W586 (Nat.ne_of_lt (Nat.lt_of_lt_of_le V584.lt (Nat.le_of_eq g579.symm))))
    refine g_caload C V587 at_161 ⟨by decide, by decide⟩ (v := (.int z574)) rfl ?_
    refine g_castore C V586 (List.mem_of_getElem? (i := 0) rfl) at_162 ⟨by decide, by decide⟩ 2 rfl (Nat.le_of_ble_eq_true rfl) ?_
    intro h588 W588 V588
    rw [nar_ch8 hz574] at V588
    replace V588 : Arv Z h588 b579 ka579 .char (3 : Int32) [(.int z570), (.int z572), (.int z574)] (.int (0 : Int32)) := V588
    have K589 : Keep h578 h579 [] := (Keep.refl h578 []).ext E579
    have K590 : Keep h578 h583 [] := K589.wr W583 (Or.inr (Nat.le_of_eq g579.symm))
    have K591 : Keep h578 h586 [] := K590.wr W586 (Or.inr (Nat.le_of_eq g579.symm))
    have K592 : Keep h578 h588 [] := K591.wr W588 (Or.inr (Nat.le_of_eq g579.symm))
    have E593 := (A578.keep K592)
    have F594 := ((D578 (Or.inr (C.hw w_21)) (ty := (.array .byte)) (by decide)).keep K592 nin0)
    have F595 := ((D578 (Or.inr (C.hw w_22)) (ty := .byte) (by decide)).keep K592 nin0)
    have K596 : Keep h0 h569 [] := (Keep.refl h0 []).ext E569
    have K597 : Keep h0 h571 [] := K596.wr W571 (Or.inr (Nat.le_of_eq g569.symm))
    have K598 : Keep h0 h573 [] := K597.wr W573 (Or.inr (Nat.le_of_eq g569.symm))
    have K599 : Keep h0 h575 [] := K598.wr W575 (Or.inr (Nat.le_of_eq g569.symm))
    have K600 : Keep h0 h577 [] := K599.wr W577 (Or.inr (Nat.le_of_eq g569.symm))
    have K601 : Keep h0 h578 [] := K600.ext E578
    have K602 : Keep h0 h579 [] := K601.ext E579
    have K603 : Keep h0 h583 [] := K602.wr W583 (Or.inr (Nat.le_trans K601.1 (Nat.le_of_eq g579.symm)))
    have K604 : Keep h0 h586 [] := K603.wr W586 (Or.inr (Nat.le_trans K601.1 (Nat.le_of_eq g579.symm)))
    have K605 : Keep h0 h588 [] := K604.wr W588 (Or.inr (Nat.le_trans K601.1 (Nat.le_of_eq g579.symm)))
    refine g_special C (a := b578) w_9 w_10 w_11 rfl (by decide) [(.ref b579)] (ct_newS hEL hw (cs := [z570, z572, z574]) (n := 3) E593 F594 F595 V588 (Sta_keep Szc K605) hzc rfl (by decide) (by decide) (own_allc hz570 (own_allc hz572 (own_allc hz574 (fun _ q => nomatch q))))) (allS (List.mem_of_getElem? (i := 1) rfl) all0) (by decide) 1 (by decide) rfl pd___C_V rfl [(.ref b578)] rfl (Nat.le_of_eq rfl) at_163 (by decide) (by decide) ?_
    intro v606 h606 Q606
    obtain ⟨rfl, KC606, t606, kb606, ht606, htx606, S606⟩ := Q606
    refine g_astore C #[.val (.int i1), .val (.int i2), .val (.int i3), .val (.int i4), .val (.int i5), .val (.int (3 : Int32)), .val (.ref b569), .val (.ref b578), .unset, .unset, .unset] at_166 rfl rfl ?_
    refine g_goto C 211 at_168 (by decide) (by decide) ?_
    refine g_aload C at_211 rfl rfl ?_
    have K607 : Keep h0 h606 [] := K605.trans KC606 (allS (Or.inr (Nat.le_trans K600.1 (Nat.le_of_eq g578.symm))) all0)
    refine g_static C w_27 w_28 w_29 w_30 (by decide) [(.ref b578)] (ct_of hEL hw w_30 w_29 (rm_strip3 l Z a0 hw hEL b578 t606 _ z570 z572 z574 zc fm h606 n0 S606 hz570 hz572 hz574 (Sta_keep Szc K607) hzc (Sta_keep Sfm K607) hfm)) all0 (by decide) 0 (by decide) rfl pd__Ljava_lang_String__Ljava_lang_String_ rfl [] rfl (Nat.le_of_eq rfl) at_213 (by decide) (by decide) ?_
    intro v608 h608 Q608
    obtain ⟨a608, t608, kb608, rfl, KC608, S608⟩ := Q608
    refine g_astore C #[.val (.int i1), .val (.int i2), .val (.int i3), .val (.int i4), .val (.int i5), .val (.int (3 : Int32)), .val (.ref b569), .val (.ref b578), .val (.ref a608), .unset, .unset] at_216 rfl rfl ?_
    refine g_iconst C 0 at_218 rfl ?_
    refine g_istore C #[.val (.int i1), .val (.int i2), .val (.int i3), .val (.int i4), .val (.int i5), .val (.int (3 : Int32)), .val (.ref b569), .val (.ref b578), .val (.ref a608), .val (.int (0 : Int32)), .unset] at_219 rfl ?_
    refine g_iload C at_221 rfl ?_
    refine g_if_f C at_223 (XT.i0_le_f (by decide)) ?_
    refine g_aload C at_226 rfl rfl ?_
    refine g_iconst C 0 at_228 rfl ?_
    have V609 := (((V587.other W588 (Nat.ne_of_lt (Nat.lt_of_lt_of_le V584.lt (Nat.le_of_eq g579.symm)))).keep KC606 (ninS (Nat.ne_of_lt (Nat.lt_of_lt_of_le V577.lt (Nat.le_of_eq g578.symm))) nin0)).keep KC608 nin0)
    refine g_caload C V609 at_229 ⟨by decide, by decide⟩ (v := (.int z570)) rfl ?_
    refine g_bipush C 48 at_230 rfl ?_
    by_cases hc610 : z570 = (48 : Int32)
    · refine g_icmp_f C at_232 (XT.ii_ne_f hc610) ?_
      refine g_iconst C 1 at_235 rfl ?_
      refine g_istore C #[.val (.int i1), .val (.int i2), .val (.int i3), .val (.int i4), .val (.int i5), .val (.int (3 : Int32)), .val (.ref b569), .val (.ref b578), .val (.ref a608), .val (.int (1 : Int32)), .unset] at_236 rfl ?_
      refine g_iload C at_238 rfl ?_
      refine g_iconst C 1 at_240 rfl ?_
      refine g_icmp_f C at_241 (XT.ii_le_f (by decide)) ?_
      refine g_aload C at_244 rfl rfl ?_
      refine g_iconst C 1 at_246 rfl ?_
      refine g_caload C V609 at_247 ⟨by decide, by decide⟩ (v := (.int z572)) rfl ?_
      refine g_bipush C 48 at_248 rfl ?_
      by_cases hc611 : z572 = (48 : Int32)
      · refine g_icmp_f C at_250 (XT.ii_ne_f hc611) ?_
        refine g_iconst C 2 at_253 rfl ?_
        refine g_istore C #[.val (.int i1), .val (.int i2), .val (.int i3), .val (.int i4), .val (.int i5), .val (.int (3 : Int32)), .val (.ref b569), .val (.ref b578), .val (.ref a608), .val (.int (2 : Int32)), .unset] at_254 rfl ?_
        refine g_iload C at_256 rfl ?_
        refine g_iconst C 2 at_258 rfl ?_
        refine g_icmp_f C at_259 (XT.ii_le_f (by decide)) ?_
        refine g_aload C at_262 rfl rfl ?_
        refine g_iconst C 2 at_264 rfl ?_
        refine g_caload C V609 at_265 ⟨by decide, by decide⟩ (v := (.int z574)) rfl ?_
        refine g_bipush C 48 at_266 rfl ?_
        by_cases hc612 : z574 = (48 : Int32)
        · refine g_icmp_f C at_268 (XT.ii_ne_f hc612) ?_
          refine g_iconst C 3 at_271 rfl ?_
          refine g_istore C #[.val (.int i1), .val (.int i2), .val (.int i3), .val (.int i4), .val (.int i5), .val (.int (3 : Int32)), .val (.ref b569), .val (.ref b578), .val (.ref a608), .val (.int (3 : Int32)), .unset] at_272 rfl ?_
          refine g_iload C at_274 rfl ?_
          refine g_iconst C 3 at_276 rfl ?_
          refine g_icmp_t C 292 at_277 (XT.ii_le_t (by decide)) (by decide) (by decide) ?_
          refine g_iload C at_292 rfl ?_
          refine g_iload C at_294 rfl ?_
          refine g_isub C at_296 ?_
          rw [show ((3 : Int32) - (3 : Int32)) = (0 : Int32) from by decide]
          refine g_istore C #[.val (.int i1), .val (.int i2), .val (.int i3), .val (.int i4), .val (.int i5), .val (.int (3 : Int32)), .val (.ref b569), .val (.ref b578), .val (.ref a608), .val (.int (3 : Int32)), .val (.int (0 : Int32))] at_297 rfl ?_
          have S613 : Str Z h608 a608 t608 kb608 [] := by simpa [dz, hc610, hc611, hc612] using S608
          refine g_aload C at_299 rfl rfl ?_
          refine g_ifnull_f C at_301 ?_
          refine g_aload C at_304 rfl rfl ?_
          have K614 : Keep h0 h608 [] := K607.trans KC608 all0
          refine g_virtual C S608.1 w_61 w_32 (fun hZ => nf_sel hw w_34 hZ) w_34 w_33 (by decide) [] (ct_len hEL hw S613 (Sta_keep Szc K614) hzc) all0 (by decide) 0 (by decide) rfl pd___I rfl [] rfl (Nat.le_of_eq rfl) at_306 (by decide) (by decide) ?_
          intro v615 h615 Q615
          obtain ⟨ev615, e615⟩ := Q615
          replace e615 := e615.symm
          subst e615
          replace ev615 : v615 = some (.int (0 : Int32)) := ev615
          subst ev615
          refine g_iload C at_309 rfl ?_
          refine g_icmp_t C 316 at_311 (XT.ii_eq_t (by decide)) (by decide) (by decide) ?_
          refine g_aload C at_316 rfl rfl ?_
          refine g_aload C at_318 rfl rfl ?_
          refine g_iload C at_320 rfl ?_
          refine g_iconst C 0 at_322 rfl ?_
          refine g_iload C at_323 rfl ?_
          refine g_static C w_62 w_63 w_4 w_64 (by decide) [(.ref a608), (.ref b569), (.int (3 : Int32)), (.int (0 : Int32)), (.int (0 : Int32))] (ct_of hEL hw w_64 w_4 (rm_atT l Z a0 hw hEL a608 b569 (3 : Int32) (0 : Int32) (0 : Int32) h608 n0 (by decide))) all0 (by decide) 0 (by decide) rfl pd__Ljava_lang_String__CIII_Z rfl [] rfl (Nat.le_of_eq rfl) at_325 (by decide) (by decide) ?_
          intro v616 h616 Q616
          obtain ⟨rfl, e616⟩ := Q616
          replace e616 := e616.symm
          subst e616
          refine g_if_f C at_328 (XT.i0_eq_f (by decide)) ?_
          refine g_aload C at_331 rfl rfl ?_
          refine g_aload C at_333 rfl rfl ?_
          refine g_iload C at_335 rfl ?_
          refine g_iconst C 1 at_337 rfl ?_
          refine g_iload C at_338 rfl ?_
          refine g_static C w_62 w_63 w_4 w_64 (by decide) [(.ref a608), (.ref b569), (.int (3 : Int32)), (.int (1 : Int32)), (.int (0 : Int32))] (ct_of hEL hw w_64 w_4 (rm_atT l Z a0 hw hEL a608 b569 (3 : Int32) (1 : Int32) (0 : Int32) h608 n0 (by decide))) all0 (by decide) 0 (by decide) rfl pd__Ljava_lang_String__CIII_Z rfl [] rfl (Nat.le_of_eq rfl) at_340 (by decide) (by decide) ?_
          intro v617 h617 Q617
          obtain ⟨rfl, e617⟩ := Q617
          replace e617 := e617.symm
          subst e617
          refine g_if_f C at_343 (XT.i0_eq_f (by decide)) ?_
          refine g_aload C at_346 rfl rfl ?_
          refine g_aload C at_348 rfl rfl ?_
          refine g_iload C at_350 rfl ?_
          refine g_iconst C 2 at_352 rfl ?_
          refine g_iload C at_353 rfl ?_
          refine g_static C w_62 w_63 w_4 w_64 (by decide) [(.ref a608), (.ref b569), (.int (3 : Int32)), (.int (2 : Int32)), (.int (0 : Int32))] (ct_of hEL hw w_64 w_4 (rm_atT l Z a0 hw hEL a608 b569 (3 : Int32) (2 : Int32) (0 : Int32) h608 n0 (by decide))) all0 (by decide) 0 (by decide) rfl pd__Ljava_lang_String__CIII_Z rfl [] rfl (Nat.le_of_eq rfl) at_355 (by decide) (by decide) ?_
          intro v618 h618 Q618
          obtain ⟨rfl, e618⟩ := Q618
          replace e618 := e618.symm
          subst e618
          refine g_if_f C at_358 (XT.i0_eq_f (by decide)) ?_
          refine g_aload C at_361 rfl rfl ?_
          refine g_aload C at_363 rfl rfl ?_
          refine g_iload C at_365 rfl ?_
          refine g_iconst C 3 at_367 rfl ?_
          refine g_iload C at_368 rfl ?_
          refine g_static C w_62 w_63 w_4 w_64 (by decide) [(.ref a608), (.ref b569), (.int (3 : Int32)), (.int (3 : Int32)), (.int (0 : Int32))] (ct_of hEL hw w_64 w_4 (rm_atT l Z a0 hw hEL a608 b569 (3 : Int32) (3 : Int32) (0 : Int32) h608 n0 (by decide))) all0 (by decide) 0 (by decide) rfl pd__Ljava_lang_String__CIII_Z rfl [] rfl (Nat.le_of_eq rfl) at_370 (by decide) (by decide) ?_
          intro v619 h619 Q619
          obtain ⟨rfl, e619⟩ := Q619
          replace e619 := e619.symm
          subst e619
          refine g_if_f C at_373 (XT.i0_eq_f (by decide)) ?_
          refine g_iconst C 1 at_376 rfl ?_
          refine g_goto C 381 at_377 (by decide) (by decide) ?_
          refine g_ireturnN C hEL (t := .boolean) rfl (by simp) at_381 (by decide) (by decide) ?_
          exact rfl
        · refine g_icmp_t C 292 at_268 (XT.ii_ne_t hc612) (by decide) (by decide) ?_
          refine g_iload C at_292 rfl ?_
          refine g_iload C at_294 rfl ?_
          refine g_isub C at_296 ?_
          rw [show ((3 : Int32) - (2 : Int32)) = (1 : Int32) from by decide]
          refine g_istore C #[.val (.int i1), .val (.int i2), .val (.int i3), .val (.int i4), .val (.int i5), .val (.int (3 : Int32)), .val (.ref b569), .val (.ref b578), .val (.ref a608), .val (.int (2 : Int32)), .val (.int (1 : Int32))] at_297 rfl ?_
          have S620 : Str Z h608 a608 t608 kb608 [z574] := by simpa [dz, hc610, hc611, hc612] using S608
          refine g_aload C at_299 rfl rfl ?_
          refine g_ifnull_f C at_301 ?_
          refine g_aload C at_304 rfl rfl ?_
          have K621 : Keep h0 h608 [] := K607.trans KC608 all0
          refine g_virtual C S608.1 w_61 w_32 (fun hZ => nf_sel hw w_34 hZ) w_34 w_33 (by decide) [] (ct_len hEL hw S620 (Sta_keep Szc K621) hzc) all0 (by decide) 0 (by decide) rfl pd___I rfl [] rfl (Nat.le_of_eq rfl) at_306 (by decide) (by decide) ?_
          intro v622 h622 Q622
          obtain ⟨ev622, e622⟩ := Q622
          replace e622 := e622.symm
          subst e622
          replace ev622 : v622 = some (.int (1 : Int32)) := ev622
          subst ev622
          refine g_iload C at_309 rfl ?_
          refine g_icmp_t C 316 at_311 (XT.ii_eq_t (by decide)) (by decide) (by decide) ?_
          refine g_aload C at_316 rfl rfl ?_
          refine g_aload C at_318 rfl rfl ?_
          refine g_iload C at_320 rfl ?_
          refine g_iconst C 0 at_322 rfl ?_
          refine g_iload C at_323 rfl ?_
          refine g_static C w_62 w_63 w_4 w_64 (by decide) [(.ref a608), (.ref b569), (.int (2 : Int32)), (.int (0 : Int32)), (.int (1 : Int32))] (ct_of hEL hw w_64 w_4 (rm_atC l Z a0 hw hEL a608 t608 b569 _ _ [z574] (2 : Int32) 0 (1 : Int32) (4 : Int32) [(.int z570), (.int z572), (.int z574), (.int z576)] (.int (0 : Int32)) zc fm h608 n0 (by decide) S620 (Nat.le_of_ble_eq_true rfl) V609 ⟨by decide, by decide⟩ rfl (Sta_keep Szc K621) hzc (Sta_keep Sfm K621) hfm)) all0 (by decide) 0 (by decide) rfl pd__Ljava_lang_String__CIII_Z rfl [] rfl (Nat.le_of_eq rfl) at_325 (by decide) (by decide) ?_
          intro v623 h623 Q623
          obtain ⟨rfl, e623⟩ := Q623
          replace e623 := e623.symm
          subst e623
          refine g_if_f C at_328 (XT.i0_eq_f (by decide)) ?_
          refine g_aload C at_331 rfl rfl ?_
          refine g_aload C at_333 rfl rfl ?_
          refine g_iload C at_335 rfl ?_
          refine g_iconst C 1 at_337 rfl ?_
          refine g_iload C at_338 rfl ?_
          refine g_static C w_62 w_63 w_4 w_64 (by decide) [(.ref a608), (.ref b569), (.int (2 : Int32)), (.int (1 : Int32)), (.int (1 : Int32))] (ct_of hEL hw w_64 w_4 (rm_atT l Z a0 hw hEL a608 b569 (2 : Int32) (1 : Int32) (1 : Int32) h608 n0 (by decide))) all0 (by decide) 0 (by decide) rfl pd__Ljava_lang_String__CIII_Z rfl [] rfl (Nat.le_of_eq rfl) at_340 (by decide) (by decide) ?_
          intro v624 h624 Q624
          obtain ⟨rfl, e624⟩ := Q624
          replace e624 := e624.symm
          subst e624
          refine g_if_f C at_343 (XT.i0_eq_f (by decide)) ?_
          refine g_aload C at_346 rfl rfl ?_
          refine g_aload C at_348 rfl rfl ?_
          refine g_iload C at_350 rfl ?_
          refine g_iconst C 2 at_352 rfl ?_
          refine g_iload C at_353 rfl ?_
          refine g_static C w_62 w_63 w_4 w_64 (by decide) [(.ref a608), (.ref b569), (.int (2 : Int32)), (.int (2 : Int32)), (.int (1 : Int32))] (ct_of hEL hw w_64 w_4 (rm_atT l Z a0 hw hEL a608 b569 (2 : Int32) (2 : Int32) (1 : Int32) h608 n0 (by decide))) all0 (by decide) 0 (by decide) rfl pd__Ljava_lang_String__CIII_Z rfl [] rfl (Nat.le_of_eq rfl) at_355 (by decide) (by decide) ?_
          intro v625 h625 Q625
          obtain ⟨rfl, e625⟩ := Q625
          replace e625 := e625.symm
          subst e625
          refine g_if_f C at_358 (XT.i0_eq_f (by decide)) ?_
          refine g_aload C at_361 rfl rfl ?_
          refine g_aload C at_363 rfl rfl ?_
          refine g_iload C at_365 rfl ?_
          refine g_iconst C 3 at_367 rfl ?_
          refine g_iload C at_368 rfl ?_
          refine g_static C w_62 w_63 w_4 w_64 (by decide) [(.ref a608), (.ref b569), (.int (2 : Int32)), (.int (3 : Int32)), (.int (1 : Int32))] (ct_of hEL hw w_64 w_4 (rm_atT l Z a0 hw hEL a608 b569 (2 : Int32) (3 : Int32) (1 : Int32) h608 n0 (by decide))) all0 (by decide) 0 (by decide) rfl pd__Ljava_lang_String__CIII_Z rfl [] rfl (Nat.le_of_eq rfl) at_370 (by decide) (by decide) ?_
          intro v626 h626 Q626
          obtain ⟨rfl, e626⟩ := Q626
          replace e626 := e626.symm
          subst e626
          refine g_if_f C at_373 (XT.i0_eq_f (by decide)) ?_
          refine g_iconst C 1 at_376 rfl ?_
          refine g_goto C 381 at_377 (by decide) (by decide) ?_
          refine g_ireturnN C hEL (t := .boolean) rfl (by simp) at_381 (by decide) (by decide) ?_
          exact rfl
      · refine g_icmp_t C 292 at_250 (XT.ii_ne_t hc611) (by decide) (by decide) ?_
        refine g_iload C at_292 rfl ?_
        refine g_iload C at_294 rfl ?_
        refine g_isub C at_296 ?_
        rw [show ((3 : Int32) - (1 : Int32)) = (2 : Int32) from by decide]
        refine g_istore C #[.val (.int i1), .val (.int i2), .val (.int i3), .val (.int i4), .val (.int i5), .val (.int (3 : Int32)), .val (.ref b569), .val (.ref b578), .val (.ref a608), .val (.int (1 : Int32)), .val (.int (2 : Int32))] at_297 rfl ?_
        have S627 : Str Z h608 a608 t608 kb608 [z572, z574] := by simpa [dz, hc610, hc611] using S608
        refine g_aload C at_299 rfl rfl ?_
        refine g_ifnull_f C at_301 ?_
        refine g_aload C at_304 rfl rfl ?_
        have K628 : Keep h0 h608 [] := K607.trans KC608 all0
        refine g_virtual C S608.1 w_61 w_32 (fun hZ => nf_sel hw w_34 hZ) w_34 w_33 (by decide) [] (ct_len hEL hw S627 (Sta_keep Szc K628) hzc) all0 (by decide) 0 (by decide) rfl pd___I rfl [] rfl (Nat.le_of_eq rfl) at_306 (by decide) (by decide) ?_
        intro v629 h629 Q629
        obtain ⟨ev629, e629⟩ := Q629
        replace e629 := e629.symm
        subst e629
        replace ev629 : v629 = some (.int (2 : Int32)) := ev629
        subst ev629
        refine g_iload C at_309 rfl ?_
        refine g_icmp_t C 316 at_311 (XT.ii_eq_t (by decide)) (by decide) (by decide) ?_
        refine g_aload C at_316 rfl rfl ?_
        refine g_aload C at_318 rfl rfl ?_
        refine g_iload C at_320 rfl ?_
        refine g_iconst C 0 at_322 rfl ?_
        refine g_iload C at_323 rfl ?_
        refine g_static C w_62 w_63 w_4 w_64 (by decide) [(.ref a608), (.ref b569), (.int (1 : Int32)), (.int (0 : Int32)), (.int (2 : Int32))] (ct_of hEL hw w_64 w_4 (rm_atC l Z a0 hw hEL a608 t608 b569 _ _ [z572, z574] (1 : Int32) 0 (2 : Int32) (4 : Int32) [(.int z570), (.int z572), (.int z574), (.int z576)] (.int (0 : Int32)) zc fm h608 n0 (by decide) S627 (Nat.le_of_ble_eq_true rfl) V609 ⟨by decide, by decide⟩ rfl (Sta_keep Szc K628) hzc (Sta_keep Sfm K628) hfm)) all0 (by decide) 0 (by decide) rfl pd__Ljava_lang_String__CIII_Z rfl [] rfl (Nat.le_of_eq rfl) at_325 (by decide) (by decide) ?_
        intro v630 h630 Q630
        obtain ⟨rfl, e630⟩ := Q630
        replace e630 := e630.symm
        subst e630
        refine g_if_f C at_328 (XT.i0_eq_f (by decide)) ?_
        refine g_aload C at_331 rfl rfl ?_
        refine g_aload C at_333 rfl rfl ?_
        refine g_iload C at_335 rfl ?_
        refine g_iconst C 1 at_337 rfl ?_
        refine g_iload C at_338 rfl ?_
        refine g_static C w_62 w_63 w_4 w_64 (by decide) [(.ref a608), (.ref b569), (.int (1 : Int32)), (.int (1 : Int32)), (.int (2 : Int32))] (ct_of hEL hw w_64 w_4 (rm_atC l Z a0 hw hEL a608 t608 b569 _ _ [z572, z574] (1 : Int32) 1 (2 : Int32) (4 : Int32) [(.int z570), (.int z572), (.int z574), (.int z576)] (.int (0 : Int32)) zc fm h608 n0 (by decide) S627 (Nat.le_of_ble_eq_true rfl) V609 ⟨by decide, by decide⟩ rfl (Sta_keep Szc K628) hzc (Sta_keep Sfm K628) hfm)) all0 (by decide) 0 (by decide) rfl pd__Ljava_lang_String__CIII_Z rfl [] rfl (Nat.le_of_eq rfl) at_340 (by decide) (by decide) ?_
        intro v631 h631 Q631
        obtain ⟨rfl, e631⟩ := Q631
        replace e631 := e631.symm
        subst e631
        refine g_if_f C at_343 (XT.i0_eq_f (by decide)) ?_
        refine g_aload C at_346 rfl rfl ?_
        refine g_aload C at_348 rfl rfl ?_
        refine g_iload C at_350 rfl ?_
        refine g_iconst C 2 at_352 rfl ?_
        refine g_iload C at_353 rfl ?_
        refine g_static C w_62 w_63 w_4 w_64 (by decide) [(.ref a608), (.ref b569), (.int (1 : Int32)), (.int (2 : Int32)), (.int (2 : Int32))] (ct_of hEL hw w_64 w_4 (rm_atT l Z a0 hw hEL a608 b569 (1 : Int32) (2 : Int32) (2 : Int32) h608 n0 (by decide))) all0 (by decide) 0 (by decide) rfl pd__Ljava_lang_String__CIII_Z rfl [] rfl (Nat.le_of_eq rfl) at_355 (by decide) (by decide) ?_
        intro v632 h632 Q632
        obtain ⟨rfl, e632⟩ := Q632
        replace e632 := e632.symm
        subst e632
        refine g_if_f C at_358 (XT.i0_eq_f (by decide)) ?_
        refine g_aload C at_361 rfl rfl ?_
        refine g_aload C at_363 rfl rfl ?_
        refine g_iload C at_365 rfl ?_
        refine g_iconst C 3 at_367 rfl ?_
        refine g_iload C at_368 rfl ?_
        refine g_static C w_62 w_63 w_4 w_64 (by decide) [(.ref a608), (.ref b569), (.int (1 : Int32)), (.int (3 : Int32)), (.int (2 : Int32))] (ct_of hEL hw w_64 w_4 (rm_atT l Z a0 hw hEL a608 b569 (1 : Int32) (3 : Int32) (2 : Int32) h608 n0 (by decide))) all0 (by decide) 0 (by decide) rfl pd__Ljava_lang_String__CIII_Z rfl [] rfl (Nat.le_of_eq rfl) at_370 (by decide) (by decide) ?_
        intro v633 h633 Q633
        obtain ⟨rfl, e633⟩ := Q633
        replace e633 := e633.symm
        subst e633
        refine g_if_f C at_373 (XT.i0_eq_f (by decide)) ?_
        refine g_iconst C 1 at_376 rfl ?_
        refine g_goto C 381 at_377 (by decide) (by decide) ?_
        refine g_ireturnN C hEL (t := .boolean) rfl (by simp) at_381 (by decide) (by decide) ?_
        exact rfl
    · refine g_icmp_t C 292 at_232 (XT.ii_ne_t hc610) (by decide) (by decide) ?_
      refine g_iload C at_292 rfl ?_
      refine g_iload C at_294 rfl ?_
      refine g_isub C at_296 ?_
      rw [show ((3 : Int32) - (0 : Int32)) = (3 : Int32) from by decide]
      refine g_istore C #[.val (.int i1), .val (.int i2), .val (.int i3), .val (.int i4), .val (.int i5), .val (.int (3 : Int32)), .val (.ref b569), .val (.ref b578), .val (.ref a608), .val (.int (0 : Int32)), .val (.int (3 : Int32))] at_297 rfl ?_
      have S634 : Str Z h608 a608 t608 kb608 [z570, z572, z574] := by simpa [dz, hc610] using S608
      refine g_aload C at_299 rfl rfl ?_
      refine g_ifnull_f C at_301 ?_
      refine g_aload C at_304 rfl rfl ?_
      have K635 : Keep h0 h608 [] := K607.trans KC608 all0
      refine g_virtual C S608.1 w_61 w_32 (fun hZ => nf_sel hw w_34 hZ) w_34 w_33 (by decide) [] (ct_len hEL hw S634 (Sta_keep Szc K635) hzc) all0 (by decide) 0 (by decide) rfl pd___I rfl [] rfl (Nat.le_of_eq rfl) at_306 (by decide) (by decide) ?_
      intro v636 h636 Q636
      obtain ⟨ev636, e636⟩ := Q636
      replace e636 := e636.symm
      subst e636
      replace ev636 : v636 = some (.int (3 : Int32)) := ev636
      subst ev636
      refine g_iload C at_309 rfl ?_
      refine g_icmp_t C 316 at_311 (XT.ii_eq_t (by decide)) (by decide) (by decide) ?_
      refine g_aload C at_316 rfl rfl ?_
      refine g_aload C at_318 rfl rfl ?_
      refine g_iload C at_320 rfl ?_
      refine g_iconst C 0 at_322 rfl ?_
      refine g_iload C at_323 rfl ?_
      refine g_static C w_62 w_63 w_4 w_64 (by decide) [(.ref a608), (.ref b569), (.int (0 : Int32)), (.int (0 : Int32)), (.int (3 : Int32))] (ct_of hEL hw w_64 w_4 (rm_atC l Z a0 hw hEL a608 t608 b569 _ _ [z570, z572, z574] (0 : Int32) 0 (3 : Int32) (4 : Int32) [(.int z570), (.int z572), (.int z574), (.int z576)] (.int (0 : Int32)) zc fm h608 n0 (by decide) S634 (Nat.le_of_ble_eq_true rfl) V609 ⟨by decide, by decide⟩ rfl (Sta_keep Szc K635) hzc (Sta_keep Sfm K635) hfm)) all0 (by decide) 0 (by decide) rfl pd__Ljava_lang_String__CIII_Z rfl [] rfl (Nat.le_of_eq rfl) at_325 (by decide) (by decide) ?_
      intro v637 h637 Q637
      obtain ⟨rfl, e637⟩ := Q637
      replace e637 := e637.symm
      subst e637
      refine g_if_f C at_328 (XT.i0_eq_f (by decide)) ?_
      refine g_aload C at_331 rfl rfl ?_
      refine g_aload C at_333 rfl rfl ?_
      refine g_iload C at_335 rfl ?_
      refine g_iconst C 1 at_337 rfl ?_
      refine g_iload C at_338 rfl ?_
      refine g_static C w_62 w_63 w_4 w_64 (by decide) [(.ref a608), (.ref b569), (.int (0 : Int32)), (.int (1 : Int32)), (.int (3 : Int32))] (ct_of hEL hw w_64 w_4 (rm_atC l Z a0 hw hEL a608 t608 b569 _ _ [z570, z572, z574] (0 : Int32) 1 (3 : Int32) (4 : Int32) [(.int z570), (.int z572), (.int z574), (.int z576)] (.int (0 : Int32)) zc fm h608 n0 (by decide) S634 (Nat.le_of_ble_eq_true rfl) V609 ⟨by decide, by decide⟩ rfl (Sta_keep Szc K635) hzc (Sta_keep Sfm K635) hfm)) all0 (by decide) 0 (by decide) rfl pd__Ljava_lang_String__CIII_Z rfl [] rfl (Nat.le_of_eq rfl) at_340 (by decide) (by decide) ?_
      intro v638 h638 Q638
      obtain ⟨rfl, e638⟩ := Q638
      replace e638 := e638.symm
      subst e638
      refine g_if_f C at_343 (XT.i0_eq_f (by decide)) ?_
      refine g_aload C at_346 rfl rfl ?_
      refine g_aload C at_348 rfl rfl ?_
      refine g_iload C at_350 rfl ?_
      refine g_iconst C 2 at_352 rfl ?_
      refine g_iload C at_353 rfl ?_
      refine g_static C w_62 w_63 w_4 w_64 (by decide) [(.ref a608), (.ref b569), (.int (0 : Int32)), (.int (2 : Int32)), (.int (3 : Int32))] (ct_of hEL hw w_64 w_4 (rm_atC l Z a0 hw hEL a608 t608 b569 _ _ [z570, z572, z574] (0 : Int32) 2 (3 : Int32) (4 : Int32) [(.int z570), (.int z572), (.int z574), (.int z576)] (.int (0 : Int32)) zc fm h608 n0 (by decide) S634 (Nat.le_of_ble_eq_true rfl) V609 ⟨by decide, by decide⟩ rfl (Sta_keep Szc K635) hzc (Sta_keep Sfm K635) hfm)) all0 (by decide) 0 (by decide) rfl pd__Ljava_lang_String__CIII_Z rfl [] rfl (Nat.le_of_eq rfl) at_355 (by decide) (by decide) ?_
      intro v639 h639 Q639
      obtain ⟨rfl, e639⟩ := Q639
      replace e639 := e639.symm
      subst e639
      refine g_if_f C at_358 (XT.i0_eq_f (by decide)) ?_
      refine g_aload C at_361 rfl rfl ?_
      refine g_aload C at_363 rfl rfl ?_
      refine g_iload C at_365 rfl ?_
      refine g_iconst C 3 at_367 rfl ?_
      refine g_iload C at_368 rfl ?_
      refine g_static C w_62 w_63 w_4 w_64 (by decide) [(.ref a608), (.ref b569), (.int (0 : Int32)), (.int (3 : Int32)), (.int (3 : Int32))] (ct_of hEL hw w_64 w_4 (rm_atT l Z a0 hw hEL a608 b569 (0 : Int32) (3 : Int32) (3 : Int32) h608 n0 (by decide))) all0 (by decide) 0 (by decide) rfl pd__Ljava_lang_String__CIII_Z rfl [] rfl (Nat.le_of_eq rfl) at_370 (by decide) (by decide) ?_
      intro v640 h640 Q640
      obtain ⟨rfl, e640⟩ := Q640
      replace e640 := e640.symm
      subst e640
      refine g_if_f C at_373 (XT.i0_eq_f (by decide)) ?_
      refine g_iconst C 1 at_376 rfl ?_
      refine g_goto C 381 at_377 (by decide) (by decide) ?_
      refine g_ireturnN C hEL (t := .boolean) rfl (by simp) at_381 (by decide) (by decide) ?_
      exact rfl
  · rw [e_nn]
    refine g_iconst C 4 at_9 rfl ?_
    refine g_newarray C (aty := .char) w_1 at_10 (by decide) 4 (by decide) (by decide) (by decide) (by decide) "[C" rfl ?_
    intro b641 h641 ka641 g641 E641 V641 A641
    replace V641 : Arv Z h641 b641 ka641 .char (4 : Int32) [(.int (0 : Int32)), (.int (0 : Int32)), (.int (0 : Int32)), (.int (0 : Int32))] (.int (0 : Int32)) := V641.pad (pad_rep [] _ 4)
    refine g_astore C #[.val (.int i1), .val (.int i2), .val (.int i3), .val (.int i4), .val (.int i5), .val (.int (4 : Int32)), .val (.ref b641), .unset, .unset, .unset, .unset] at_12 rfl rfl ?_
    refine g_aload C at_14 rfl rfl ?_
    refine g_iconst C 0 at_16 rfl ?_
    refine g_iloadN C at_17 rfl ?_
    refine g_static C w_2 w_3 w_4 w_5 (by decide) [(.int i1)] (ct_of hEL hw w_5 w_4 (rm_ch l Z a0 hw hEL i1 h641 n0 )) all0 (by decide) 2 (by decide) rfl pd__I_C rfl [(.int (0 : Int32)), (.ref b641)] rfl (Nat.le_of_eq rfl) at_18 (by decide) (by decide) ?_
    intro v642 h642 Q642
    obtain ⟨z642, rfl, hz642, e642⟩ := Q642
    replace e642 := e642.symm
    subst e642
    rw [nar_ch8 hz642]
    refine g_castore C V641 (List.mem_of_getElem? (i := 0) rfl) at_21 ⟨by decide, by decide⟩ 0 rfl (Nat.le_of_ble_eq_true rfl) ?_
    intro h643 W643 V643
    rw [nar_ch8 hz642] at V643
    replace V643 : Arv Z h643 b641 ka641 .char (4 : Int32) [(.int z642), (.int (0 : Int32)), (.int (0 : Int32)), (.int (0 : Int32))] (.int (0 : Int32)) := V643
    refine g_aload C at_22 rfl rfl ?_
    refine g_iconst C 1 at_24 rfl ?_
    refine g_iloadN C at_25 rfl ?_
    refine g_static C w_2 w_3 w_4 w_5 (by decide) [(.int i2)] (ct_of hEL hw w_5 w_4 (rm_ch l Z a0 hw hEL i2 h643 n0 )) all0 (by decide) 2 (by decide) rfl pd__I_C rfl [(.int (1 : Int32)), (.ref b641)] rfl (Nat.le_of_eq rfl) at_26 (by decide) (by decide) ?_
    intro v644 h644 Q644
    obtain ⟨z644, rfl, hz644, e644⟩ := Q644
    replace e644 := e644.symm
    subst e644
    rw [nar_ch8 hz644]
    refine g_castore C V643 (List.mem_of_getElem? (i := 0) rfl) at_29 ⟨by decide, by decide⟩ 1 rfl (Nat.le_of_ble_eq_true rfl) ?_
    intro h645 W645 V645
    rw [nar_ch8 hz644] at V645
    replace V645 : Arv Z h645 b641 ka641 .char (4 : Int32) [(.int z642), (.int z644), (.int (0 : Int32)), (.int (0 : Int32))] (.int (0 : Int32)) := V645
    refine g_aload C at_30 rfl rfl ?_
    refine g_iconst C 2 at_32 rfl ?_
    refine g_iloadN C at_33 rfl ?_
    refine g_static C w_2 w_3 w_4 w_5 (by decide) [(.int i3)] (ct_of hEL hw w_5 w_4 (rm_ch l Z a0 hw hEL i3 h645 n0 )) all0 (by decide) 2 (by decide) rfl pd__I_C rfl [(.int (2 : Int32)), (.ref b641)] rfl (Nat.le_of_eq rfl) at_34 (by decide) (by decide) ?_
    intro v646 h646 Q646
    obtain ⟨z646, rfl, hz646, e646⟩ := Q646
    replace e646 := e646.symm
    subst e646
    rw [nar_ch8 hz646]
    refine g_castore C V645 (List.mem_of_getElem? (i := 0) rfl) at_37 ⟨by decide, by decide⟩ 2 rfl (Nat.le_of_ble_eq_true rfl) ?_
    intro h647 W647 V647
    rw [nar_ch8 hz646] at V647
    replace V647 : Arv Z h647 b641 ka641 .char (4 : Int32) [(.int z642), (.int z644), (.int z646), (.int (0 : Int32))] (.int (0 : Int32)) := V647
    refine g_aload C at_38 rfl rfl ?_
    refine g_iconst C 3 at_40 rfl ?_
    refine g_iloadN C at_41 rfl ?_
    refine g_static C w_2 w_3 w_4 w_5 (by decide) [(.int i4)] (ct_of hEL hw w_5 w_4 (rm_ch l Z a0 hw hEL i4 h647 n0 )) all0 (by decide) 2 (by decide) rfl pd__I_C rfl [(.int (3 : Int32)), (.ref b641)] rfl (Nat.le_of_eq rfl) at_42 (by decide) (by decide) ?_
    intro v648 h648 Q648
    obtain ⟨z648, rfl, hz648, e648⟩ := Q648
    replace e648 := e648.symm
    subst e648
    rw [nar_ch8 hz648]
    refine g_castore C V647 (List.mem_of_getElem? (i := 0) rfl) at_45 ⟨by decide, by decide⟩ 3 rfl (Nat.le_of_ble_eq_true rfl) ?_
    intro h649 W649 V649
    rw [nar_ch8 hz648] at V649
    replace V649 : Arv Z h649 b641 ka641 .char (4 : Int32) [(.int z642), (.int z644), (.int z646), (.int z648)] (.int (0 : Int32)) := V649
    refine g_iload C at_46 rfl ?_
    refine g_if_t C 66 at_48 (XT.i0_ne_t (by decide)) (by decide) (by decide) ?_
    refine g_iload C at_66 rfl ?_
    refine g_iconst C 1 at_68 rfl ?_
    refine g_icmp_t C 94 at_69 (XT.ii_ne_t (by decide)) (by decide) (by decide) ?_
    refine g_iload C at_94 rfl ?_
    refine g_iconst C 2 at_96 rfl ?_
    refine g_icmp_t C 129 at_97 (XT.ii_ne_t (by decide)) (by decide) (by decide) ?_
    refine g_iload C at_129 rfl ?_
    refine g_iconst C 3 at_131 rfl ?_
    refine g_icmp_t C 171 at_132 (XT.ii_ne_t (by decide)) (by decide) (by decide) ?_
    refine g_new C w_6 w_7 w_8 at_171 (by decide) (by decide) ?_
    intro b650 h650 g650 E650 A650 D650
    refine g_dup C at_174 rfl ?_
    refine g_iconst C 4 at_175 rfl ?_
    refine g_newarray C (aty := .char) w_1 at_176 (by decide) 4 (by decide) (by decide) (by decide) (by decide) "[C" rfl ?_
    intro b651 h651 ka651 g651 E651 V651 A651
    replace V651 : Arv Z h651 b651 ka651 .char (4 : Int32) [(.int (0 : Int32)), (.int (0 : Int32)), (.int (0 : Int32)), (.int (0 : Int32))] (.int (0 : Int32)) := V651.pad (pad_rep [] _ 4)
    refine g_dup C at_178 rfl ?_
    refine g_iconst C 0 at_179 rfl ?_
    refine g_aload C at_180 rfl rfl ?_
    refine g_iconst C 0 at_182 rfl ?_
    have K652 : Keep h649 h650 [] := (Keep.refl h649 []).ext E650
    have K653 : Keep h649 h651 [] := K652.ext E651
    have V654 := (V649.keep K653 nin0)
    refine g_caload C V654 at_183 ⟨by decide, by decide⟩ (v := (.int z642)) rfl ?_
    refine g_castore C V651 (List.mem_of_getElem? (i := 0) rfl) at_184 ⟨by decide, by decide⟩ 0 rfl (Nat.le_of_ble_eq_true rfl) ?_
    intro h655 W655 V655
    rw [nar_ch8 hz642] at V655
    replace V655 : Arv Z h655 b651 ka651 .char (4 : Int32) [(.int z642), (.int (0 : Int32)), (.int (0 : Int32)), (.int (0 : Int32))] (.int (0 : Int32)) := V655
    refine g_dup C at_185 rfl ?_
    refine g_iconst C 1 at_186 rfl ?_
    refine g_aload C at_187 rfl rfl ?_
    refine g_iconst C 1 at_189 rfl ?_
    have V656 := (V649.keep K652 nin0)
    have V657 := (V654.other W655 (Nat.ne_of_lt (Nat.lt_of_lt_of_le V656.lt (Nat.le_of_eq g651.symm))))
    refine g_caload C V657 at_190 ⟨by decide, by decide⟩ (v := (.int z644)) rfl ?_
    refine g_castore C V655 (List.mem_of_getElem? (i := 0) rfl) at_191 ⟨by decide, by decide⟩ 1 rfl (Nat.le_of_ble_eq_true rfl) ?_
    intro h658 W658 V658
    rw [nar_ch8 hz644] at V658
    replace V658 : Arv Z h658 b651 ka651 .char (4 : Int32) [(.int z642), (.int z644), (.int (0 : Int32)), (.int (0 : Int32))] (.int (0 : Int32)) := V658
    refine g_dup C at_192 rfl ?_
    refine g_iconst C 2 at_193 rfl ?_
    refine g_aload C at_194 rfl rfl ?_
    refine g_iconst C 2 at_196 rfl ?_
    have V659 := (V657.other W658 (Nat.ne_of_lt (Nat.lt_of_lt_of_le V656.lt (Nat.le_of_eq g651.symm))))
    refine g_caload C V659 at_197 ⟨by decide, by decide⟩ (v := (.int z646)) rfl ?_
    refine g_castore C V658 (List.mem_of_getElem? (i := 0) rfl) at_198 ⟨by decide, by decide⟩ 2 rfl (Nat.le_of_ble_eq_true rfl) ?_
    intro h660 W660 V660
    rw [nar_ch8 hz646] at V660
    replace V660 : Arv Z h660 b651 ka651 .char (4 : Int32) [(.int z642), (.int z644), (.int z646), (.int (0 : Int32))] (.int (0 : Int32)) := V660
    refine g_dup C at_199 rfl ?_
    refine g_iconst C 3 at_200 rfl ?_
    refine g_aload C at_201 rfl rfl ?_
    refine g_iconst C 3 at_203 rfl ?_
    have V661 := (V659.other W660 (Nat.ne_of_lt (Nat.lt_of_lt_of_le V656.lt (Nat.le_of_eq g651.symm))))
    refine g_caload C V661 at_204 ⟨by decide, by decide⟩ (v := (.int z648)) rfl ?_
    refine g_castore C V660 (List.mem_of_getElem? (i := 0) rfl) at_205 ⟨by decide, by decide⟩ 3 rfl (Nat.le_of_ble_eq_true rfl) ?_
    intro h662 W662 V662
    rw [nar_ch8 hz648] at V662
    replace V662 : Arv Z h662 b651 ka651 .char (4 : Int32) [(.int z642), (.int z644), (.int z646), (.int z648)] (.int (0 : Int32)) := V662
    have K663 : Keep h650 h651 [] := (Keep.refl h650 []).ext E651
    have K664 : Keep h650 h655 [] := K663.wr W655 (Or.inr (Nat.le_of_eq g651.symm))
    have K665 : Keep h650 h658 [] := K664.wr W658 (Or.inr (Nat.le_of_eq g651.symm))
    have K666 : Keep h650 h660 [] := K665.wr W660 (Or.inr (Nat.le_of_eq g651.symm))
    have K667 : Keep h650 h662 [] := K666.wr W662 (Or.inr (Nat.le_of_eq g651.symm))
    have E668 := (A650.keep K667)
    have F669 := ((D650 (Or.inr (C.hw w_21)) (ty := (.array .byte)) (by decide)).keep K667 nin0)
    have F670 := ((D650 (Or.inr (C.hw w_22)) (ty := .byte) (by decide)).keep K667 nin0)
    have K671 : Keep h0 h641 [] := (Keep.refl h0 []).ext E641
    have K672 : Keep h0 h643 [] := K671.wr W643 (Or.inr (Nat.le_of_eq g641.symm))
    have K673 : Keep h0 h645 [] := K672.wr W645 (Or.inr (Nat.le_of_eq g641.symm))
    have K674 : Keep h0 h647 [] := K673.wr W647 (Or.inr (Nat.le_of_eq g641.symm))
    have K675 : Keep h0 h649 [] := K674.wr W649 (Or.inr (Nat.le_of_eq g641.symm))
    have K676 : Keep h0 h650 [] := K675.ext E650
    have K677 : Keep h0 h651 [] := K676.ext E651
    have K678 : Keep h0 h655 [] := K677.wr W655 (Or.inr (Nat.le_trans K676.1 (Nat.le_of_eq g651.symm)))
    have K679 : Keep h0 h658 [] := K678.wr W658 (Or.inr (Nat.le_trans K676.1 (Nat.le_of_eq g651.symm)))
    have K680 : Keep h0 h660 [] := K679.wr W660 (Or.inr (Nat.le_trans K676.1 (Nat.le_of_eq g651.symm)))
    have K681 : Keep h0 h662 [] := K680.wr W662 (Or.inr (Nat.le_trans K676.1 (Nat.le_of_eq g651.symm)))
    refine g_special C (a := b650) w_9 w_10 w_11 rfl (by decide) [(.ref b651)] (ct_newS hEL hw (cs := [z642, z644, z646, z648]) (n := 4) E668 F669 F670 V662 (Sta_keep Szc K681) hzc rfl (by decide) (by decide) (own_allc hz642 (own_allc hz644 (own_allc hz646 (own_allc hz648 (fun _ q => nomatch q)))))) (allS (List.mem_of_getElem? (i := 1) rfl) all0) (by decide) 1 (by decide) rfl pd___C_V rfl [(.ref b650)] rfl (Nat.le_of_eq rfl) at_206 (by decide) (by decide) ?_
    intro v682 h682 Q682
    obtain ⟨rfl, KC682, t682, kb682, ht682, htx682, S682⟩ := Q682
    refine g_astore C #[.val (.int i1), .val (.int i2), .val (.int i3), .val (.int i4), .val (.int i5), .val (.int (4 : Int32)), .val (.ref b641), .val (.ref b650), .unset, .unset, .unset] at_209 rfl rfl ?_
    refine g_aload C at_211 rfl rfl ?_
    have K683 : Keep h0 h682 [] := K681.trans KC682 (allS (Or.inr (Nat.le_trans K675.1 (Nat.le_of_eq g650.symm))) all0)
    refine g_static C w_27 w_28 w_29 w_30 (by decide) [(.ref b650)] (ct_of hEL hw w_30 w_29 (rm_strip4 l Z a0 hw hEL b650 t682 _ z642 z644 z646 z648 zc fm h682 n0 S682 hz642 hz644 hz646 hz648 (Sta_keep Szc K683) hzc (Sta_keep Sfm K683) hfm)) all0 (by decide) 0 (by decide) rfl pd__Ljava_lang_String__Ljava_lang_String_ rfl [] rfl (Nat.le_of_eq rfl) at_213 (by decide) (by decide) ?_
    intro v684 h684 Q684
    obtain ⟨a684, t684, kb684, rfl, KC684, S684⟩ := Q684
    refine g_astore C #[.val (.int i1), .val (.int i2), .val (.int i3), .val (.int i4), .val (.int i5), .val (.int (4 : Int32)), .val (.ref b641), .val (.ref b650), .val (.ref a684), .unset, .unset] at_216 rfl rfl ?_
    refine g_iconst C 0 at_218 rfl ?_
    refine g_istore C #[.val (.int i1), .val (.int i2), .val (.int i3), .val (.int i4), .val (.int i5), .val (.int (4 : Int32)), .val (.ref b641), .val (.ref b650), .val (.ref a684), .val (.int (0 : Int32)), .unset] at_219 rfl ?_
    refine g_iload C at_221 rfl ?_
    refine g_if_f C at_223 (XT.i0_le_f (by decide)) ?_
    refine g_aload C at_226 rfl rfl ?_
    refine g_iconst C 0 at_228 rfl ?_
    have V685 := (((V661.other W662 (Nat.ne_of_lt (Nat.lt_of_lt_of_le V656.lt (Nat.le_of_eq g651.symm)))).keep KC682 (ninS (Nat.ne_of_lt (Nat.lt_of_lt_of_le V649.lt (Nat.le_of_eq g650.symm))) nin0)).keep KC684 nin0)
    refine g_caload C V685 at_229 ⟨by decide, by decide⟩ (v := (.int z642)) rfl ?_
    refine g_bipush C 48 at_230 rfl ?_
    by_cases hc686 : z642 = (48 : Int32)
    · refine g_icmp_f C at_232 (XT.ii_ne_f hc686) ?_
      refine g_iconst C 1 at_235 rfl ?_
      refine g_istore C #[.val (.int i1), .val (.int i2), .val (.int i3), .val (.int i4), .val (.int i5), .val (.int (4 : Int32)), .val (.ref b641), .val (.ref b650), .val (.ref a684), .val (.int (1 : Int32)), .unset] at_236 rfl ?_
      refine g_iload C at_238 rfl ?_
      refine g_iconst C 1 at_240 rfl ?_
      refine g_icmp_f C at_241 (XT.ii_le_f (by decide)) ?_
      refine g_aload C at_244 rfl rfl ?_
      refine g_iconst C 1 at_246 rfl ?_
      refine g_caload C V685 at_247 ⟨by decide, by decide⟩ (v := (.int z644)) rfl ?_
      refine g_bipush C 48 at_248 rfl ?_
      by_cases hc687 : z644 = (48 : Int32)
      · refine g_icmp_f C at_250 (XT.ii_ne_f hc687) ?_
        refine g_iconst C 2 at_253 rfl ?_
        refine g_istore C #[.val (.int i1), .val (.int i2), .val (.int i3), .val (.int i4), .val (.int i5), .val (.int (4 : Int32)), .val (.ref b641), .val (.ref b650), .val (.ref a684), .val (.int (2 : Int32)), .unset] at_254 rfl ?_
        refine g_iload C at_256 rfl ?_
        refine g_iconst C 2 at_258 rfl ?_
        refine g_icmp_f C at_259 (XT.ii_le_f (by decide)) ?_
        refine g_aload C at_262 rfl rfl ?_
        refine g_iconst C 2 at_264 rfl ?_
        refine g_caload C V685 at_265 ⟨by decide, by decide⟩ (v := (.int z646)) rfl ?_
        refine g_bipush C 48 at_266 rfl ?_
        by_cases hc688 : z646 = (48 : Int32)
        · refine g_icmp_f C at_268 (XT.ii_ne_f hc688) ?_
          refine g_iconst C 3 at_271 rfl ?_
          refine g_istore C #[.val (.int i1), .val (.int i2), .val (.int i3), .val (.int i4), .val (.int i5), .val (.int (4 : Int32)), .val (.ref b641), .val (.ref b650), .val (.ref a684), .val (.int (3 : Int32)), .unset] at_272 rfl ?_
          refine g_iload C at_274 rfl ?_
          refine g_iconst C 3 at_276 rfl ?_
          refine g_icmp_f C at_277 (XT.ii_le_f (by decide)) ?_
          refine g_aload C at_280 rfl rfl ?_
          refine g_iconst C 3 at_282 rfl ?_
          refine g_caload C V685 at_283 ⟨by decide, by decide⟩ (v := (.int z648)) rfl ?_
          refine g_bipush C 48 at_284 rfl ?_
          by_cases hc689 : z648 = (48 : Int32)
          · refine g_icmp_f C at_286 (XT.ii_ne_f hc689) ?_
            refine g_iconst C 4 at_289 rfl ?_
            refine g_istore C #[.val (.int i1), .val (.int i2), .val (.int i3), .val (.int i4), .val (.int i5), .val (.int (4 : Int32)), .val (.ref b641), .val (.ref b650), .val (.ref a684), .val (.int (4 : Int32)), .unset] at_290 rfl ?_
            refine g_iload C at_292 rfl ?_
            refine g_iload C at_294 rfl ?_
            refine g_isub C at_296 ?_
            rw [show ((4 : Int32) - (4 : Int32)) = (0 : Int32) from by decide]
            refine g_istore C #[.val (.int i1), .val (.int i2), .val (.int i3), .val (.int i4), .val (.int i5), .val (.int (4 : Int32)), .val (.ref b641), .val (.ref b650), .val (.ref a684), .val (.int (4 : Int32)), .val (.int (0 : Int32))] at_297 rfl ?_
            have S690 : Str Z h684 a684 t684 kb684 [] := by simpa [dz, hc686, hc687, hc688, hc689] using S684
            refine g_aload C at_299 rfl rfl ?_
            refine g_ifnull_f C at_301 ?_
            refine g_aload C at_304 rfl rfl ?_
            have K691 : Keep h0 h684 [] := K683.trans KC684 all0
            refine g_virtual C S684.1 w_61 w_32 (fun hZ => nf_sel hw w_34 hZ) w_34 w_33 (by decide) [] (ct_len hEL hw S690 (Sta_keep Szc K691) hzc) all0 (by decide) 0 (by decide) rfl pd___I rfl [] rfl (Nat.le_of_eq rfl) at_306 (by decide) (by decide) ?_
            intro v692 h692 Q692
            obtain ⟨ev692, e692⟩ := Q692
            replace e692 := e692.symm
            subst e692
            replace ev692 : v692 = some (.int (0 : Int32)) := ev692
            subst ev692
            refine g_iload C at_309 rfl ?_
            refine g_icmp_t C 316 at_311 (XT.ii_eq_t (by decide)) (by decide) (by decide) ?_
            refine g_aload C at_316 rfl rfl ?_
            refine g_aload C at_318 rfl rfl ?_
            refine g_iload C at_320 rfl ?_
            refine g_iconst C 0 at_322 rfl ?_
            refine g_iload C at_323 rfl ?_
            refine g_static C w_62 w_63 w_4 w_64 (by decide) [(.ref a684), (.ref b641), (.int (4 : Int32)), (.int (0 : Int32)), (.int (0 : Int32))] (ct_of hEL hw w_64 w_4 (rm_atT l Z a0 hw hEL a684 b641 (4 : Int32) (0 : Int32) (0 : Int32) h684 n0 (by decide))) all0 (by decide) 0 (by decide) rfl pd__Ljava_lang_String__CIII_Z rfl [] rfl (Nat.le_of_eq rfl) at_325 (by decide) (by decide) ?_
            intro v693 h693 Q693
            obtain ⟨rfl, e693⟩ := Q693
            replace e693 := e693.symm
            subst e693
            refine g_if_f C at_328 (XT.i0_eq_f (by decide)) ?_
            refine g_aload C at_331 rfl rfl ?_
            refine g_aload C at_333 rfl rfl ?_
            refine g_iload C at_335 rfl ?_
            refine g_iconst C 1 at_337 rfl ?_
            refine g_iload C at_338 rfl ?_
            refine g_static C w_62 w_63 w_4 w_64 (by decide) [(.ref a684), (.ref b641), (.int (4 : Int32)), (.int (1 : Int32)), (.int (0 : Int32))] (ct_of hEL hw w_64 w_4 (rm_atT l Z a0 hw hEL a684 b641 (4 : Int32) (1 : Int32) (0 : Int32) h684 n0 (by decide))) all0 (by decide) 0 (by decide) rfl pd__Ljava_lang_String__CIII_Z rfl [] rfl (Nat.le_of_eq rfl) at_340 (by decide) (by decide) ?_
            intro v694 h694 Q694
            obtain ⟨rfl, e694⟩ := Q694
            replace e694 := e694.symm
            subst e694
            refine g_if_f C at_343 (XT.i0_eq_f (by decide)) ?_
            refine g_aload C at_346 rfl rfl ?_
            refine g_aload C at_348 rfl rfl ?_
            refine g_iload C at_350 rfl ?_
            refine g_iconst C 2 at_352 rfl ?_
            refine g_iload C at_353 rfl ?_
            refine g_static C w_62 w_63 w_4 w_64 (by decide) [(.ref a684), (.ref b641), (.int (4 : Int32)), (.int (2 : Int32)), (.int (0 : Int32))] (ct_of hEL hw w_64 w_4 (rm_atT l Z a0 hw hEL a684 b641 (4 : Int32) (2 : Int32) (0 : Int32) h684 n0 (by decide))) all0 (by decide) 0 (by decide) rfl pd__Ljava_lang_String__CIII_Z rfl [] rfl (Nat.le_of_eq rfl) at_355 (by decide) (by decide) ?_
            intro v695 h695 Q695
            obtain ⟨rfl, e695⟩ := Q695
            replace e695 := e695.symm
            subst e695
            refine g_if_f C at_358 (XT.i0_eq_f (by decide)) ?_
            refine g_aload C at_361 rfl rfl ?_
            refine g_aload C at_363 rfl rfl ?_
            refine g_iload C at_365 rfl ?_
            refine g_iconst C 3 at_367 rfl ?_
            refine g_iload C at_368 rfl ?_
            refine g_static C w_62 w_63 w_4 w_64 (by decide) [(.ref a684), (.ref b641), (.int (4 : Int32)), (.int (3 : Int32)), (.int (0 : Int32))] (ct_of hEL hw w_64 w_4 (rm_atT l Z a0 hw hEL a684 b641 (4 : Int32) (3 : Int32) (0 : Int32) h684 n0 (by decide))) all0 (by decide) 0 (by decide) rfl pd__Ljava_lang_String__CIII_Z rfl [] rfl (Nat.le_of_eq rfl) at_370 (by decide) (by decide) ?_
            intro v696 h696 Q696
            obtain ⟨rfl, e696⟩ := Q696
            replace e696 := e696.symm
            subst e696
            refine g_if_f C at_373 (XT.i0_eq_f (by decide)) ?_
            refine g_iconst C 1 at_376 rfl ?_
            refine g_goto C 381 at_377 (by decide) (by decide) ?_
            refine g_ireturnN C hEL (t := .boolean) rfl (by simp) at_381 (by decide) (by decide) ?_
            exact rfl
          · refine g_icmp_t C 292 at_286 (XT.ii_ne_t hc689) (by decide) (by decide) ?_
            refine g_iload C at_292 rfl ?_
            refine g_iload C at_294 rfl ?_
            refine g_isub C at_296 ?_
            rw [show ((4 : Int32) - (3 : Int32)) = (1 : Int32) from by decide]
            refine g_istore C #[.val (.int i1), .val (.int i2), .val (.int i3), .val (.int i4), .val (.int i5), .val (.int (4 : Int32)), .val (.ref b641), .val (.ref b650), .val (.ref a684), .val (.int (3 : Int32)), .val (.int (1 : Int32))] at_297 rfl ?_
            have S697 : Str Z h684 a684 t684 kb684 [z648] := by simpa [dz, hc686, hc687, hc688, hc689] using S684
            refine g_aload C at_299 rfl rfl ?_
            refine g_ifnull_f C at_301 ?_
            refine g_aload C at_304 rfl rfl ?_
            have K698 : Keep h0 h684 [] := K683.trans KC684 all0
            refine g_virtual C S684.1 w_61 w_32 (fun hZ => nf_sel hw w_34 hZ) w_34 w_33 (by decide) [] (ct_len hEL hw S697 (Sta_keep Szc K698) hzc) all0 (by decide) 0 (by decide) rfl pd___I rfl [] rfl (Nat.le_of_eq rfl) at_306 (by decide) (by decide) ?_
            intro v699 h699 Q699
            obtain ⟨ev699, e699⟩ := Q699
            replace e699 := e699.symm
            subst e699
            replace ev699 : v699 = some (.int (1 : Int32)) := ev699
            subst ev699
            refine g_iload C at_309 rfl ?_
            refine g_icmp_t C 316 at_311 (XT.ii_eq_t (by decide)) (by decide) (by decide) ?_
            refine g_aload C at_316 rfl rfl ?_
            refine g_aload C at_318 rfl rfl ?_
            refine g_iload C at_320 rfl ?_
            refine g_iconst C 0 at_322 rfl ?_
            refine g_iload C at_323 rfl ?_
            refine g_static C w_62 w_63 w_4 w_64 (by decide) [(.ref a684), (.ref b641), (.int (3 : Int32)), (.int (0 : Int32)), (.int (1 : Int32))] (ct_of hEL hw w_64 w_4 (rm_atC l Z a0 hw hEL a684 t684 b641 _ _ [z648] (3 : Int32) 0 (1 : Int32) (4 : Int32) [(.int z642), (.int z644), (.int z646), (.int z648)] (.int (0 : Int32)) zc fm h684 n0 (by decide) S697 (Nat.le_of_ble_eq_true rfl) V685 ⟨by decide, by decide⟩ rfl (Sta_keep Szc K698) hzc (Sta_keep Sfm K698) hfm)) all0 (by decide) 0 (by decide) rfl pd__Ljava_lang_String__CIII_Z rfl [] rfl (Nat.le_of_eq rfl) at_325 (by decide) (by decide) ?_
            intro v700 h700 Q700
            obtain ⟨rfl, e700⟩ := Q700
            replace e700 := e700.symm
            subst e700
            refine g_if_f C at_328 (XT.i0_eq_f (by decide)) ?_
            refine g_aload C at_331 rfl rfl ?_
            refine g_aload C at_333 rfl rfl ?_
            refine g_iload C at_335 rfl ?_
            refine g_iconst C 1 at_337 rfl ?_
            refine g_iload C at_338 rfl ?_
            refine g_static C w_62 w_63 w_4 w_64 (by decide) [(.ref a684), (.ref b641), (.int (3 : Int32)), (.int (1 : Int32)), (.int (1 : Int32))] (ct_of hEL hw w_64 w_4 (rm_atT l Z a0 hw hEL a684 b641 (3 : Int32) (1 : Int32) (1 : Int32) h684 n0 (by decide))) all0 (by decide) 0 (by decide) rfl pd__Ljava_lang_String__CIII_Z rfl [] rfl (Nat.le_of_eq rfl) at_340 (by decide) (by decide) ?_
            intro v701 h701 Q701
            obtain ⟨rfl, e701⟩ := Q701
            replace e701 := e701.symm
            subst e701
            refine g_if_f C at_343 (XT.i0_eq_f (by decide)) ?_
            refine g_aload C at_346 rfl rfl ?_
            refine g_aload C at_348 rfl rfl ?_
            refine g_iload C at_350 rfl ?_
            refine g_iconst C 2 at_352 rfl ?_
            refine g_iload C at_353 rfl ?_
            refine g_static C w_62 w_63 w_4 w_64 (by decide) [(.ref a684), (.ref b641), (.int (3 : Int32)), (.int (2 : Int32)), (.int (1 : Int32))] (ct_of hEL hw w_64 w_4 (rm_atT l Z a0 hw hEL a684 b641 (3 : Int32) (2 : Int32) (1 : Int32) h684 n0 (by decide))) all0 (by decide) 0 (by decide) rfl pd__Ljava_lang_String__CIII_Z rfl [] rfl (Nat.le_of_eq rfl) at_355 (by decide) (by decide) ?_
            intro v702 h702 Q702
            obtain ⟨rfl, e702⟩ := Q702
            replace e702 := e702.symm
            subst e702
            refine g_if_f C at_358 (XT.i0_eq_f (by decide)) ?_
            refine g_aload C at_361 rfl rfl ?_
            refine g_aload C at_363 rfl rfl ?_
            refine g_iload C at_365 rfl ?_
            refine g_iconst C 3 at_367 rfl ?_
            refine g_iload C at_368 rfl ?_
            refine g_static C w_62 w_63 w_4 w_64 (by decide) [(.ref a684), (.ref b641), (.int (3 : Int32)), (.int (3 : Int32)), (.int (1 : Int32))] (ct_of hEL hw w_64 w_4 (rm_atT l Z a0 hw hEL a684 b641 (3 : Int32) (3 : Int32) (1 : Int32) h684 n0 (by decide))) all0 (by decide) 0 (by decide) rfl pd__Ljava_lang_String__CIII_Z rfl [] rfl (Nat.le_of_eq rfl) at_370 (by decide) (by decide) ?_
            intro v703 h703 Q703
            obtain ⟨rfl, e703⟩ := Q703
            replace e703 := e703.symm
            subst e703
            refine g_if_f C at_373 (XT.i0_eq_f (by decide)) ?_
            refine g_iconst C 1 at_376 rfl ?_
            refine g_goto C 381 at_377 (by decide) (by decide) ?_
            refine g_ireturnN C hEL (t := .boolean) rfl (by simp) at_381 (by decide) (by decide) ?_
            exact rfl
        · refine g_icmp_t C 292 at_268 (XT.ii_ne_t hc688) (by decide) (by decide) ?_
          refine g_iload C at_292 rfl ?_
          refine g_iload C at_294 rfl ?_
          refine g_isub C at_296 ?_
          rw [show ((4 : Int32) - (2 : Int32)) = (2 : Int32) from by decide]
          refine g_istore C #[.val (.int i1), .val (.int i2), .val (.int i3), .val (.int i4), .val (.int i5), .val (.int (4 : Int32)), .val (.ref b641), .val (.ref b650), .val (.ref a684), .val (.int (2 : Int32)), .val (.int (2 : Int32))] at_297 rfl ?_
          have S704 : Str Z h684 a684 t684 kb684 [z646, z648] := by simpa [dz, hc686, hc687, hc688] using S684
          refine g_aload C at_299 rfl rfl ?_
          refine g_ifnull_f C at_301 ?_
          refine g_aload C at_304 rfl rfl ?_
          have K705 : Keep h0 h684 [] := K683.trans KC684 all0
          refine g_virtual C S684.1 w_61 w_32 (fun hZ => nf_sel hw w_34 hZ) w_34 w_33 (by decide) [] (ct_len hEL hw S704 (Sta_keep Szc K705) hzc) all0 (by decide) 0 (by decide) rfl pd___I rfl [] rfl (Nat.le_of_eq rfl) at_306 (by decide) (by decide) ?_
          intro v706 h706 Q706
          obtain ⟨ev706, e706⟩ := Q706
          replace e706 := e706.symm
          subst e706
          replace ev706 : v706 = some (.int (2 : Int32)) := ev706
          subst ev706
          refine g_iload C at_309 rfl ?_
          refine g_icmp_t C 316 at_311 (XT.ii_eq_t (by decide)) (by decide) (by decide) ?_
          refine g_aload C at_316 rfl rfl ?_
          refine g_aload C at_318 rfl rfl ?_
          refine g_iload C at_320 rfl ?_
          refine g_iconst C 0 at_322 rfl ?_
          refine g_iload C at_323 rfl ?_
          refine g_static C w_62 w_63 w_4 w_64 (by decide) [(.ref a684), (.ref b641), (.int (2 : Int32)), (.int (0 : Int32)), (.int (2 : Int32))] (ct_of hEL hw w_64 w_4 (rm_atC l Z a0 hw hEL a684 t684 b641 _ _ [z646, z648] (2 : Int32) 0 (2 : Int32) (4 : Int32) [(.int z642), (.int z644), (.int z646), (.int z648)] (.int (0 : Int32)) zc fm h684 n0 (by decide) S704 (Nat.le_of_ble_eq_true rfl) V685 ⟨by decide, by decide⟩ rfl (Sta_keep Szc K705) hzc (Sta_keep Sfm K705) hfm)) all0 (by decide) 0 (by decide) rfl pd__Ljava_lang_String__CIII_Z rfl [] rfl (Nat.le_of_eq rfl) at_325 (by decide) (by decide) ?_
          intro v707 h707 Q707
          obtain ⟨rfl, e707⟩ := Q707
          replace e707 := e707.symm
          subst e707
          refine g_if_f C at_328 (XT.i0_eq_f (by decide)) ?_
          refine g_aload C at_331 rfl rfl ?_
          refine g_aload C at_333 rfl rfl ?_
          refine g_iload C at_335 rfl ?_
          refine g_iconst C 1 at_337 rfl ?_
          refine g_iload C at_338 rfl ?_
          refine g_static C w_62 w_63 w_4 w_64 (by decide) [(.ref a684), (.ref b641), (.int (2 : Int32)), (.int (1 : Int32)), (.int (2 : Int32))] (ct_of hEL hw w_64 w_4 (rm_atC l Z a0 hw hEL a684 t684 b641 _ _ [z646, z648] (2 : Int32) 1 (2 : Int32) (4 : Int32) [(.int z642), (.int z644), (.int z646), (.int z648)] (.int (0 : Int32)) zc fm h684 n0 (by decide) S704 (Nat.le_of_ble_eq_true rfl) V685 ⟨by decide, by decide⟩ rfl (Sta_keep Szc K705) hzc (Sta_keep Sfm K705) hfm)) all0 (by decide) 0 (by decide) rfl pd__Ljava_lang_String__CIII_Z rfl [] rfl (Nat.le_of_eq rfl) at_340 (by decide) (by decide) ?_
          intro v708 h708 Q708
          obtain ⟨rfl, e708⟩ := Q708
          replace e708 := e708.symm
          subst e708
          refine g_if_f C at_343 (XT.i0_eq_f (by decide)) ?_
          refine g_aload C at_346 rfl rfl ?_
          refine g_aload C at_348 rfl rfl ?_
          refine g_iload C at_350 rfl ?_
          refine g_iconst C 2 at_352 rfl ?_
          refine g_iload C at_353 rfl ?_
          refine g_static C w_62 w_63 w_4 w_64 (by decide) [(.ref a684), (.ref b641), (.int (2 : Int32)), (.int (2 : Int32)), (.int (2 : Int32))] (ct_of hEL hw w_64 w_4 (rm_atT l Z a0 hw hEL a684 b641 (2 : Int32) (2 : Int32) (2 : Int32) h684 n0 (by decide))) all0 (by decide) 0 (by decide) rfl pd__Ljava_lang_String__CIII_Z rfl [] rfl (Nat.le_of_eq rfl) at_355 (by decide) (by decide) ?_
          intro v709 h709 Q709
          obtain ⟨rfl, e709⟩ := Q709
          replace e709 := e709.symm
          subst e709
          refine g_if_f C at_358 (XT.i0_eq_f (by decide)) ?_
          refine g_aload C at_361 rfl rfl ?_
          refine g_aload C at_363 rfl rfl ?_
          refine g_iload C at_365 rfl ?_
          refine g_iconst C 3 at_367 rfl ?_
          refine g_iload C at_368 rfl ?_
          refine g_static C w_62 w_63 w_4 w_64 (by decide) [(.ref a684), (.ref b641), (.int (2 : Int32)), (.int (3 : Int32)), (.int (2 : Int32))] (ct_of hEL hw w_64 w_4 (rm_atT l Z a0 hw hEL a684 b641 (2 : Int32) (3 : Int32) (2 : Int32) h684 n0 (by decide))) all0 (by decide) 0 (by decide) rfl pd__Ljava_lang_String__CIII_Z rfl [] rfl (Nat.le_of_eq rfl) at_370 (by decide) (by decide) ?_
          intro v710 h710 Q710
          obtain ⟨rfl, e710⟩ := Q710
          replace e710 := e710.symm
          subst e710
          refine g_if_f C at_373 (XT.i0_eq_f (by decide)) ?_
          refine g_iconst C 1 at_376 rfl ?_
          refine g_goto C 381 at_377 (by decide) (by decide) ?_
          refine g_ireturnN C hEL (t := .boolean) rfl (by simp) at_381 (by decide) (by decide) ?_
          exact rfl
      · refine g_icmp_t C 292 at_250 (XT.ii_ne_t hc687) (by decide) (by decide) ?_
        refine g_iload C at_292 rfl ?_
        refine g_iload C at_294 rfl ?_
        refine g_isub C at_296 ?_
        rw [show ((4 : Int32) - (1 : Int32)) = (3 : Int32) from by decide]
        refine g_istore C #[.val (.int i1), .val (.int i2), .val (.int i3), .val (.int i4), .val (.int i5), .val (.int (4 : Int32)), .val (.ref b641), .val (.ref b650), .val (.ref a684), .val (.int (1 : Int32)), .val (.int (3 : Int32))] at_297 rfl ?_
        have S711 : Str Z h684 a684 t684 kb684 [z644, z646, z648] := by simpa [dz, hc686, hc687] using S684
        refine g_aload C at_299 rfl rfl ?_
        refine g_ifnull_f C at_301 ?_
        refine g_aload C at_304 rfl rfl ?_
        have K712 : Keep h0 h684 [] := K683.trans KC684 all0
        refine g_virtual C S684.1 w_61 w_32 (fun hZ => nf_sel hw w_34 hZ) w_34 w_33 (by decide) [] (ct_len hEL hw S711 (Sta_keep Szc K712) hzc) all0 (by decide) 0 (by decide) rfl pd___I rfl [] rfl (Nat.le_of_eq rfl) at_306 (by decide) (by decide) ?_
        intro v713 h713 Q713
        obtain ⟨ev713, e713⟩ := Q713
        replace e713 := e713.symm
        subst e713
        replace ev713 : v713 = some (.int (3 : Int32)) := ev713
        subst ev713
        refine g_iload C at_309 rfl ?_
        refine g_icmp_t C 316 at_311 (XT.ii_eq_t (by decide)) (by decide) (by decide) ?_
        refine g_aload C at_316 rfl rfl ?_
        refine g_aload C at_318 rfl rfl ?_
        refine g_iload C at_320 rfl ?_
        refine g_iconst C 0 at_322 rfl ?_
        refine g_iload C at_323 rfl ?_
        refine g_static C w_62 w_63 w_4 w_64 (by decide) [(.ref a684), (.ref b641), (.int (1 : Int32)), (.int (0 : Int32)), (.int (3 : Int32))] (ct_of hEL hw w_64 w_4 (rm_atC l Z a0 hw hEL a684 t684 b641 _ _ [z644, z646, z648] (1 : Int32) 0 (3 : Int32) (4 : Int32) [(.int z642), (.int z644), (.int z646), (.int z648)] (.int (0 : Int32)) zc fm h684 n0 (by decide) S711 (Nat.le_of_ble_eq_true rfl) V685 ⟨by decide, by decide⟩ rfl (Sta_keep Szc K712) hzc (Sta_keep Sfm K712) hfm)) all0 (by decide) 0 (by decide) rfl pd__Ljava_lang_String__CIII_Z rfl [] rfl (Nat.le_of_eq rfl) at_325 (by decide) (by decide) ?_
        intro v714 h714 Q714
        obtain ⟨rfl, e714⟩ := Q714
        replace e714 := e714.symm
        subst e714
        refine g_if_f C at_328 (XT.i0_eq_f (by decide)) ?_
        refine g_aload C at_331 rfl rfl ?_
        refine g_aload C at_333 rfl rfl ?_
        refine g_iload C at_335 rfl ?_
        refine g_iconst C 1 at_337 rfl ?_
        refine g_iload C at_338 rfl ?_
        refine g_static C w_62 w_63 w_4 w_64 (by decide) [(.ref a684), (.ref b641), (.int (1 : Int32)), (.int (1 : Int32)), (.int (3 : Int32))] (ct_of hEL hw w_64 w_4 (rm_atC l Z a0 hw hEL a684 t684 b641 _ _ [z644, z646, z648] (1 : Int32) 1 (3 : Int32) (4 : Int32) [(.int z642), (.int z644), (.int z646), (.int z648)] (.int (0 : Int32)) zc fm h684 n0 (by decide) S711 (Nat.le_of_ble_eq_true rfl) V685 ⟨by decide, by decide⟩ rfl (Sta_keep Szc K712) hzc (Sta_keep Sfm K712) hfm)) all0 (by decide) 0 (by decide) rfl pd__Ljava_lang_String__CIII_Z rfl [] rfl (Nat.le_of_eq rfl) at_340 (by decide) (by decide) ?_
        intro v715 h715 Q715
        obtain ⟨rfl, e715⟩ := Q715
        replace e715 := e715.symm
        subst e715
        refine g_if_f C at_343 (XT.i0_eq_f (by decide)) ?_
        refine g_aload C at_346 rfl rfl ?_
        refine g_aload C at_348 rfl rfl ?_
        refine g_iload C at_350 rfl ?_
        refine g_iconst C 2 at_352 rfl ?_
        refine g_iload C at_353 rfl ?_
        refine g_static C w_62 w_63 w_4 w_64 (by decide) [(.ref a684), (.ref b641), (.int (1 : Int32)), (.int (2 : Int32)), (.int (3 : Int32))] (ct_of hEL hw w_64 w_4 (rm_atC l Z a0 hw hEL a684 t684 b641 _ _ [z644, z646, z648] (1 : Int32) 2 (3 : Int32) (4 : Int32) [(.int z642), (.int z644), (.int z646), (.int z648)] (.int (0 : Int32)) zc fm h684 n0 (by decide) S711 (Nat.le_of_ble_eq_true rfl) V685 ⟨by decide, by decide⟩ rfl (Sta_keep Szc K712) hzc (Sta_keep Sfm K712) hfm)) all0 (by decide) 0 (by decide) rfl pd__Ljava_lang_String__CIII_Z rfl [] rfl (Nat.le_of_eq rfl) at_355 (by decide) (by decide) ?_
        intro v716 h716 Q716
        obtain ⟨rfl, e716⟩ := Q716
        replace e716 := e716.symm
        subst e716
        refine g_if_f C at_358 (XT.i0_eq_f (by decide)) ?_
        refine g_aload C at_361 rfl rfl ?_
        refine g_aload C at_363 rfl rfl ?_
        refine g_iload C at_365 rfl ?_
        refine g_iconst C 3 at_367 rfl ?_
        refine g_iload C at_368 rfl ?_
        refine g_static C w_62 w_63 w_4 w_64 (by decide) [(.ref a684), (.ref b641), (.int (1 : Int32)), (.int (3 : Int32)), (.int (3 : Int32))] (ct_of hEL hw w_64 w_4 (rm_atT l Z a0 hw hEL a684 b641 (1 : Int32) (3 : Int32) (3 : Int32) h684 n0 (by decide))) all0 (by decide) 0 (by decide) rfl pd__Ljava_lang_String__CIII_Z rfl [] rfl (Nat.le_of_eq rfl) at_370 (by decide) (by decide) ?_
        intro v717 h717 Q717
        obtain ⟨rfl, e717⟩ := Q717
        replace e717 := e717.symm
        subst e717
        refine g_if_f C at_373 (XT.i0_eq_f (by decide)) ?_
        refine g_iconst C 1 at_376 rfl ?_
        refine g_goto C 381 at_377 (by decide) (by decide) ?_
        refine g_ireturnN C hEL (t := .boolean) rfl (by simp) at_381 (by decide) (by decide) ?_
        exact rfl
    · refine g_icmp_t C 292 at_232 (XT.ii_ne_t hc686) (by decide) (by decide) ?_
      refine g_iload C at_292 rfl ?_
      refine g_iload C at_294 rfl ?_
      refine g_isub C at_296 ?_
      rw [show ((4 : Int32) - (0 : Int32)) = (4 : Int32) from by decide]
      refine g_istore C #[.val (.int i1), .val (.int i2), .val (.int i3), .val (.int i4), .val (.int i5), .val (.int (4 : Int32)), .val (.ref b641), .val (.ref b650), .val (.ref a684), .val (.int (0 : Int32)), .val (.int (4 : Int32))] at_297 rfl ?_
      have S718 : Str Z h684 a684 t684 kb684 [z642, z644, z646, z648] := by simpa [dz, hc686] using S684
      refine g_aload C at_299 rfl rfl ?_
      refine g_ifnull_f C at_301 ?_
      refine g_aload C at_304 rfl rfl ?_
      have K719 : Keep h0 h684 [] := K683.trans KC684 all0
      refine g_virtual C S684.1 w_61 w_32 (fun hZ => nf_sel hw w_34 hZ) w_34 w_33 (by decide) [] (ct_len hEL hw S718 (Sta_keep Szc K719) hzc) all0 (by decide) 0 (by decide) rfl pd___I rfl [] rfl (Nat.le_of_eq rfl) at_306 (by decide) (by decide) ?_
      intro v720 h720 Q720
      obtain ⟨ev720, e720⟩ := Q720
      replace e720 := e720.symm
      subst e720
      replace ev720 : v720 = some (.int (4 : Int32)) := ev720
      subst ev720
      refine g_iload C at_309 rfl ?_
      refine g_icmp_t C 316 at_311 (XT.ii_eq_t (by decide)) (by decide) (by decide) ?_
      refine g_aload C at_316 rfl rfl ?_
      refine g_aload C at_318 rfl rfl ?_
      refine g_iload C at_320 rfl ?_
      refine g_iconst C 0 at_322 rfl ?_
      refine g_iload C at_323 rfl ?_
      refine g_static C w_62 w_63 w_4 w_64 (by decide) [(.ref a684), (.ref b641), (.int (0 : Int32)), (.int (0 : Int32)), (.int (4 : Int32))] (ct_of hEL hw w_64 w_4 (rm_atC l Z a0 hw hEL a684 t684 b641 _ _ [z642, z644, z646, z648] (0 : Int32) 0 (4 : Int32) (4 : Int32) [(.int z642), (.int z644), (.int z646), (.int z648)] (.int (0 : Int32)) zc fm h684 n0 (by decide) S718 (Nat.le_of_ble_eq_true rfl) V685 ⟨by decide, by decide⟩ rfl (Sta_keep Szc K719) hzc (Sta_keep Sfm K719) hfm)) all0 (by decide) 0 (by decide) rfl pd__Ljava_lang_String__CIII_Z rfl [] rfl (Nat.le_of_eq rfl) at_325 (by decide) (by decide) ?_
      intro v721 h721 Q721
      obtain ⟨rfl, e721⟩ := Q721
      replace e721 := e721.symm
      subst e721
      refine g_if_f C at_328 (XT.i0_eq_f (by decide)) ?_
      refine g_aload C at_331 rfl rfl ?_
      refine g_aload C at_333 rfl rfl ?_
      refine g_iload C at_335 rfl ?_
      refine g_iconst C 1 at_337 rfl ?_
      refine g_iload C at_338 rfl ?_
      refine g_static C w_62 w_63 w_4 w_64 (by decide) [(.ref a684), (.ref b641), (.int (0 : Int32)), (.int (1 : Int32)), (.int (4 : Int32))] (ct_of hEL hw w_64 w_4 (rm_atC l Z a0 hw hEL a684 t684 b641 _ _ [z642, z644, z646, z648] (0 : Int32) 1 (4 : Int32) (4 : Int32) [(.int z642), (.int z644), (.int z646), (.int z648)] (.int (0 : Int32)) zc fm h684 n0 (by decide) S718 (Nat.le_of_ble_eq_true rfl) V685 ⟨by decide, by decide⟩ rfl (Sta_keep Szc K719) hzc (Sta_keep Sfm K719) hfm)) all0 (by decide) 0 (by decide) rfl pd__Ljava_lang_String__CIII_Z rfl [] rfl (Nat.le_of_eq rfl) at_340 (by decide) (by decide) ?_
      intro v722 h722 Q722
      obtain ⟨rfl, e722⟩ := Q722
      replace e722 := e722.symm
      subst e722
      refine g_if_f C at_343 (XT.i0_eq_f (by decide)) ?_
      refine g_aload C at_346 rfl rfl ?_
      refine g_aload C at_348 rfl rfl ?_
      refine g_iload C at_350 rfl ?_
      refine g_iconst C 2 at_352 rfl ?_
      refine g_iload C at_353 rfl ?_
      refine g_static C w_62 w_63 w_4 w_64 (by decide) [(.ref a684), (.ref b641), (.int (0 : Int32)), (.int (2 : Int32)), (.int (4 : Int32))] (ct_of hEL hw w_64 w_4 (rm_atC l Z a0 hw hEL a684 t684 b641 _ _ [z642, z644, z646, z648] (0 : Int32) 2 (4 : Int32) (4 : Int32) [(.int z642), (.int z644), (.int z646), (.int z648)] (.int (0 : Int32)) zc fm h684 n0 (by decide) S718 (Nat.le_of_ble_eq_true rfl) V685 ⟨by decide, by decide⟩ rfl (Sta_keep Szc K719) hzc (Sta_keep Sfm K719) hfm)) all0 (by decide) 0 (by decide) rfl pd__Ljava_lang_String__CIII_Z rfl [] rfl (Nat.le_of_eq rfl) at_355 (by decide) (by decide) ?_
      intro v723 h723 Q723
      obtain ⟨rfl, e723⟩ := Q723
      replace e723 := e723.symm
      subst e723
      refine g_if_f C at_358 (XT.i0_eq_f (by decide)) ?_
      refine g_aload C at_361 rfl rfl ?_
      refine g_aload C at_363 rfl rfl ?_
      refine g_iload C at_365 rfl ?_
      refine g_iconst C 3 at_367 rfl ?_
      refine g_iload C at_368 rfl ?_
      refine g_static C w_62 w_63 w_4 w_64 (by decide) [(.ref a684), (.ref b641), (.int (0 : Int32)), (.int (3 : Int32)), (.int (4 : Int32))] (ct_of hEL hw w_64 w_4 (rm_atC l Z a0 hw hEL a684 t684 b641 _ _ [z642, z644, z646, z648] (0 : Int32) 3 (4 : Int32) (4 : Int32) [(.int z642), (.int z644), (.int z646), (.int z648)] (.int (0 : Int32)) zc fm h684 n0 (by decide) S718 (Nat.le_of_ble_eq_true rfl) V685 ⟨by decide, by decide⟩ rfl (Sta_keep Szc K719) hzc (Sta_keep Sfm K719) hfm)) all0 (by decide) 0 (by decide) rfl pd__Ljava_lang_String__CIII_Z rfl [] rfl (Nat.le_of_eq rfl) at_370 (by decide) (by decide) ?_
      intro v724 h724 Q724
      obtain ⟨rfl, e724⟩ := Q724
      replace e724 := e724.symm
      subst e724
      refine g_if_f C at_373 (XT.i0_eq_f (by decide)) ?_
      refine g_iconst C 1 at_376 rfl ?_
      refine g_goto C 381 at_377 (by decide) (by decide) ?_
      refine g_ireturnN C hEL (t := .boolean) rfl (by simp) at_381 (by decide) (by decide) ?_
      exact rfl
set_option maxRecDepth 65536 in
set_option maxHeartbeats 40000000 in
theorem comes_1 {Post : Tables → Env → Array Value → State → Outcome → State → Prop} (hpost : ∀ tb e args s v u, (limb_1_1.after args s (.returned v) u = true ∧ limb_1_2.after args s (.returned v) u = true ∧ True) → ReturnedEndW s (.returned v) u (Jvm.fieldLocs frame_1_writes args s ++ Jvm.arrayLocs frame_1_arrays args s ++ Jvm.staticLocs frame_1_statics s) 24 2176 → Post tb e args s (.returned v) u) :
    ArmFor flags0 classFile x code maxLocals ret World_1 tables_1 room_1 Calls_1 rest_1 Pre_1 Post := by
  intro l hfl _ _ p e ha hc hk s m args below hf hA hF happ hP
  obtain ⟨hcalls, hrest, hpre⟩ := hP
  obtain ⟨-, -, -, hnamed, -, -, -, hat⟩ := (Spec.applies_iff hf).mp happ
  obtain ⟨hg, hn⟩ := and_e (Cond.before_iff.mp (show (Jvm.Cond.and given_1 narrow_1).before args s = true from hpre))
  obtain ⟨hcount, ga0⟩ := and_e hg
  obtain ⟨gv0, ga1⟩ := and_e ga0
  obtain ⟨gv1, ga2⟩ := and_e ga1
  obtain ⟨gv2, ga3⟩ := and_e ga2
  obtain ⟨gv3, ga4⟩ := and_e ga3
  obtain ⟨w0, w1, w2, w3, w4, rfl⟩ : ∃ w0 w1 w2 w3 w4 : Value, args = #[w0, w1, w2, w3, w4] := by
    have hs : args.size = 5 := by simpa [Cond.value, given_1] using hcount
    obtain ⟨L⟩ := args
    match L, hs with
    | [w0, w1, w2, w3, w4], _ => exact ⟨w0, w1, w2, w3, w4, rfl⟩
  have hw := fun d (hd : d ∈ tables_1) => atoms_spec (ws := Jvm.Cond.code x code maxLocals ret :: tables_1) hat d (List.mem_cons_of_mem _ hd)
  have hfit : Fit s := fun {y c} hc i hi => by
    obtain ⟨ha, rfl⟩ := Array.getElem?_eq_some_iff.mp hc
    have q := List.all_eq_true.mp ((Array.all_eq_true_iff_forall_mem.mp hF) _ (Array.getElem_mem ha)) i (List.mem_range.mpr hi)
    simpa [Array.getElem?_eq_getElem hi] using q
  obtain ⟨hsets, hown0⟩ := atoms_of _ (rest_1_c_eq ▸ (show rest_1_c.before _ s = true from hrest))
  obtain ⟨i0, ei0⟩ := is_v gv0
  obtain rfl : w0 = (.int i0) := Option.some.inj ei0
  obtain ⟨i1, ei1⟩ := is_v gv1
  obtain rfl : w1 = (.int i1) := Option.some.inj ei1
  obtain ⟨i2, ei2⟩ := is_v gv2
  obtain rfl : w2 = (.int i2) := Option.some.inj ei2
  obtain ⟨i3, ei3⟩ := is_v gv3
  obtain rfl : w3 = (.int i3) := Option.some.inj ei3
  obtain ⟨i4, ei4⟩ := is_v ga4
  obtain rfl : w4 = (.int i4) := Option.some.inj ei4
  have hEL : EW s _ consts_1 := (EW.cons (hw _ w_19) (by decide +kernel) (EW.cons (hw _ w_99) (by decide +kernel) EW.nil))
  have hCH : CHv s consts_1 s.vm s.heap := CHv.start hEL (fun p hp => hcalls.1 p hp) (hsets _ (List.mem_of_getElem? (i := 2) rfl)) (hw _ w_20) (hw _ w_7)
  have n5 := not_v (Cond.before_iff.mp (hsets _ (List.mem_of_getElem? (i := 2) rfl)))
  obtain ⟨zc, ezc⟩ := is_v (Cond.before_iff.mp (hsets _ (List.mem_of_getElem? (i := 1) rfl)))
  have Szc : Sta s s.heap "java/lang/String" "COMPACT_STRINGS" "Z" (.int zc) := Sta.start ezc (Or.inl (hsets _ (List.mem_of_getElem? (i := 0) rfl)))
  have hzc : ¬ (zc = (0 : Int32)) := gotF (Cond.eq_ints ezc (Term.int_eval (0))) n5
  obtain ⟨fm, efm, hfm⟩ := isR_v (Cond.before_iff.mp (hsets _ (List.mem_of_getElem? (i := 8) rfl)))
  have Sfm := Sta.start efm (Or.inl (hsets _ (List.mem_of_getElem? (i := 7) rfl)))
  obtain ⟨n, o, h1, h2, h3, _, L, ns, rfl, ⟨⟨rfl, rfl⟩, N⟩, -, -, hq⟩ := rm_law l s _ hw hEL (ws := tables_1) i0 i1 i2 i3 i4 zc fm s.heap s.heap.size Szc hzc Sfm hfm (Nat.le_refl _) all0 p e ha hc hk s m _ below hf ((Spec.applies_iff_loose hf).mp happ).1 ⟨rfl, State.Warmed39.refl s, rfl, hCH, all0⟩ trivial
  refine ⟨n, _, h1, h2, h3, hpost _ _ _ _ _ _ ⟨Cond.after_iff.mpr rfl, Cond.after_iff.mpr (eq_i res_at (Term.int_eval (1)) rfl), trivial⟩ ⟨hq.1, hq.2.1, hq.2.2.1, (hq.2.2.2.sift fun y hy => Or.inr (N y hy)).mono (by decide) (by decide)⟩⟩
theorem main_1_1 : Claimed_1_1 := comes_1 fun _ _ _ _ _ _ h hF => ⟨h.1, hF⟩
theorem main_1_2 : Claimed_1_2 := comes_1 fun _ _ _ _ _ _ h hF => ⟨h.2.1, hF⟩

end Jvm.Pilot.@@N@@
namespace Jvm.Pilot.@@N@@
open Jvm Jvm.ClassFile Sem Op Lib Jvm.Free Jvm.Stand Jvm.Pilot.@@N@@.Jvm.D
/-! MADE BY PROGRAM (witnessworld.py) out of the Statement's table words and the real class files: 23 classes; the members and pool entries that the words name. The judged class is class 1, her method 3. -/
namespace start1
open Jvm.ClassFile
def u (s : String) : CpInfo := .utf8 (stringToUtf16 s)
/-- a pool by its gaps: so many unusable entries, then the entry; so many at the end -/
def gap : Nat → List CpInfo → List CpInfo
  | 0, r => r
  | n + 1, r => .unusable :: gap n r
def poolList (es : List (Nat × CpInfo)) (last : Nat) : List CpInfo := es.foldr (fun e r => gap e.1 (e.2 :: r)) (gap last [])
def pool (es : List (Nat × CpInfo)) (last : Nat) : Array CpInfo := ⟨poolList es last⟩
def fileOf (pool : Array CpInfo) (this : Nat) (attrs : Array Attribute := #[]) (ms : Array MethodInfo := #[]) (fl : Nat := 33) (sup : Nat := 0) (ifs : Array Nat := #[]) (fds : Array FieldInfo := #[]) : ClassFile where
  minorVersion := 0
  majorVersion := 65
  constantPool := pool
  accessFlags := fl
  thisClass := this
  superClass := sup
  interfaces := ifs
  fields := fds
  methods := ms
  attributes := attrs
def plain (name : String) (sup : Option ClassId) : Class where
  name := name
  kind := .ordinary
  loader := none
  accessFlags := 33
  super := sup
  interfaces := #[]
  cf := none
  fields := #[]
  methods := #[]
  instanceTypes := #[]
  staticTypes := #[]
  resolved := #[]
  callSites := []
  init := .initialized
  statics := none
  mirror := none

def pool0 : Array CpInfo := pool [(5, u "<init>"), (0, u "()V"), (1, .class_ 10), (1, u "java/lang/Object")] 113

def k0c0 : Code := { maxStack := 0, maxLocals := 1, code := object_method_1_code, exceptionTable := #[], attributes := #[] }
def k0m0 : Method := { name := "<init>", desc := "()V", sig := { parameters := [], returnType := none }, accessFlags := 1, code := some k0c0 }
/-- java/lang/Object -/
def k0 : Class := { plain "java/lang/Object" none with
  accessFlags := 33
  interfaces := #[]
  cf := some (fileOf pool0 8 #[] #[{ accessFlags := 1, nameIndex := 5, descriptorIndex := 6, attributes := #[] }] 33 0 #[] #[])
  fields := #[]
  methods := #[k0m0]
  instanceTypes := #[]
  staticTypes := #[]
  resolved := Array.replicate 124 none
  statics := none }

def pool1 : Array CpInfo := pool [(2, .class_ 4), (1, u "java/lang/Object"), (0, u "<init>"), (0, u "()V"), (0, .methodref 8 9), (0, .class_ 10), (0, .nameAndType 11 12), (0, u "java/lang/String"), (0, u "charAt"), (0, u "(I)C"), (0, .integer 2147483647), (0, .methodref 15 16), (0, .class_ 17), (0, .nameAndType 18 12), (0, u "com/example/tributary/tributary/DecimalsStripLeadingZerosPinLaw"), (0, u "ch"), (0, .methodref 8 20), (0, .nameAndType 5 21), (0, u "([C)V"), (0, .methodref 23 24), (0, .class_ 25), (0, .nameAndType 26 27), (0, u "com/example/tributary/tributary/Decimals"), (0, u "stripLeadingZeros"), (0, u "(Ljava/lang/String;)Ljava/lang/String;"), (0, .methodref 8 29), (0, .nameAndType 30 31), (0, u "length"), (0, u "()I"), (0, .methodref 15 33), (0, .nameAndType 34 35), (0, u "at"), (0, u "(Ljava/lang/String;[CIII)Z"), (3, u "law"), (0, u "(IIIII)Z")] 4

def k1m0 : Method := { name := "<init>", desc := "()V", sig := { parameters := [], returnType := none }, accessFlags := 1, code := none }
def k1c1 : Code := { maxStack := 2, maxLocals := 1, code := method_2_code, exceptionTable := #[], attributes := #[] }
def k1m1 : Method := { name := "ch", desc := "(I)C", sig := { parameters := [.int], returnType := some .char }, accessFlags := 10, code := some k1c1 }
def k1c2 : Code := { maxStack := 4, maxLocals := 5, code := method_3_code, exceptionTable := #[], attributes := #[] }
def k1m2 : Method := { name := "at", desc := "(Ljava/lang/String;[CIII)Z", sig := { parameters := [(.object "java/lang/String"), (.array .char), .int, .int, .int], returnType := some .boolean }, accessFlags := 10, code := some k1c2 }
def k1c3 : Code := { maxStack := 7, maxLocals := 11, code := code, exceptionTable := #[], attributes := #[] }
def k1m3 : Method := { name := "law", desc := "(IIIII)Z", sig := { parameters := [.int, .int, .int, .int, .int], returnType := some .boolean }, accessFlags := 9, code := some k1c3 }
/-- com/example/tributary/tributary/DecimalsStripLeadingZerosPinLaw -/
def k1 : Class := { plain "com/example/tributary/tributary/DecimalsStripLeadingZerosPinLaw" (some 0) with
  accessFlags := 49
  interfaces := #[]
  cf := some (fileOf pool1 15 #[] #[{ accessFlags := 1, nameIndex := 5, descriptorIndex := 6, attributes := #[] }, { accessFlags := 10, nameIndex := 18, descriptorIndex := 12, attributes := #[] }, { accessFlags := 10, nameIndex := 34, descriptorIndex := 35, attributes := #[] }, { accessFlags := 9, nameIndex := 39, descriptorIndex := 40, attributes := #[] }] 49 2 #[] #[])
  fields := #[]
  methods := #[k1m0, k1m1, k1m2, k1m3]
  instanceTypes := #[]
  staticTypes := #[]
  resolved := Array.replicate 45 none
  statics := none }

def pool2 : Array CpInfo := pool [(1, .class_ 2), (0, u "java/io/Serializable"), (0, .class_ 4), (0, u "java/lang/Object")] 2

/-- java/io/Serializable -/
def k2 : Class := { plain "java/io/Serializable" (some 0) with
  accessFlags := 1537
  interfaces := #[]
  cf := some (fileOf pool2 1 #[] #[] 1537 3 #[] #[])
  fields := #[]
  methods := #[]
  instanceTypes := #[]
  staticTypes := #[]
  resolved := Array.replicate 7 none
  statics := none }

def pool3 : Array CpInfo := pool [(1, .class_ 2), (0, u "java/lang/Comparable"), (0, .class_ 4), (0, u "java/lang/Object")] 7

/-- java/lang/Comparable -/
def k3 : Class := { plain "java/lang/Comparable" (some 0) with
  accessFlags := 1537
  interfaces := #[]
  cf := some (fileOf pool3 1 #[] #[] 1537 3 #[] #[])
  fields := #[]
  methods := #[]
  instanceTypes := #[]
  staticTypes := #[]
  resolved := Array.replicate 12 none
  statics := none }

def pool4 : Array CpInfo := pool [(2, .class_ 4), (1, u "java/lang/CharSequence"), (42, .class_ 48), (0, u "java/lang/CharSequence$1CodePointIterator"), (10, .class_ 60), (0, u "java/lang/CharSequence$1CharIterator"), (5, .class_ 67), (0, u "java/lang/Object")] 63

/-- java/lang/CharSequence -/
def k4 : Class := { plain "java/lang/CharSequence" (some 0) with
  accessFlags := 1537
  interfaces := #[]
  cf := some (fileOf pool4 2 #[.nestMembers #[47, 59]] #[] 1537 66 #[] #[])
  fields := #[]
  methods := #[]
  instanceTypes := #[]
  staticTypes := #[]
  resolved := Array.replicate 131 none
  statics := none }

def pool5 : Array CpInfo := pool [(1, .class_ 2), (0, u "java/lang/constant/Constable"), (0, .class_ 4), (0, u "java/lang/Object")] 6

/-- java/lang/constant/Constable -/
def k5 : Class := { plain "java/lang/constant/Constable" (some 0) with
  accessFlags := 1537
  interfaces := #[]
  cf := some (fileOf pool5 1 #[] #[] 1537 3 #[] #[])
  fields := #[]
  methods := #[]
  instanceTypes := #[]
  staticTypes := #[]
  resolved := Array.replicate 11 none
  statics := none }

def pool6 : Array CpInfo := pool [(1, .class_ 2), (0, u "java/lang/constant/ConstantDesc"), (0, .class_ 4), (0, u "java/lang/Object")] 32

/-- java/lang/constant/ConstantDesc -/
def k6 : Class := { plain "java/lang/constant/ConstantDesc" (some 0) with
  accessFlags := 1537
  interfaces := #[]
  cf := some (fileOf pool6 1 #[] #[] 1537 3 #[] #[])
  fields := #[]
  methods := #[]
  instanceTypes := #[]
  staticTypes := #[]
  resolved := Array.replicate 37 none
  statics := none }

def pool7 : Array CpInfo := pool [(1, .methodref 2 3), (0, .class_ 4), (0, .nameAndType 5 6), (0, u "java/lang/Object"), (0, u "<init>"), (0, u "()V"), (0, .string 8), (0, u ""), (0, .fieldref 10 11), (0, .class_ 12), (0, .nameAndType 13 14), (0, u "java/lang/String"), (0, u "value"), (0, u "[B"), (0, .fieldref 10 16), (0, .nameAndType 17 18), (0, u "coder"), (0, u "B"), (2, u "hash"), (0, u "I"), (2, u "hashIsZero"), (0, u "Z"), (0, .methodref 10 28), (0, .nameAndType 5 29), (0, u "([CIILjava/lang/Void;)V"), (8, .fieldref 10 39), (0, .nameAndType 40 26), (0, u "COMPACT_STRINGS"), (1, .class_ 44), (1, u "java/lang/StringUTF16"), (0, u "compress"), (1, .methodref 42 48), (0, .nameAndType 49 50), (0, u "coderFromArrayLen"), (0, u "([BI)B"), (56, .class_ 109), (1, u "java/lang/StringLatin1"), (32, u "()Z"), (34, .methodref 42 178), (0, .nameAndType 45 179), (0, u "([CII)[B"), (31, u "([BB)V"), (122, u "()I"), (0, .methodref 10 336), (0, .nameAndType 17 337), (0, u "()B"), (25, u "([BI)C"), (27, u "(II)V"), (35, u "(I)C"), (64, .methodref 10 493), (0, .nameAndType 494 142), (0, u "isLatin1"), (0, .methodref 107 496), (0, .nameAndType 497 363), (0, u "charAt"), (3, u "checkIndex"), (3, .methodref 10 506), (0, .nameAndType 507 334), (0, u "length"), (5, u "checkFromToIndex"), (7, .methodref 10 522), (0, .nameAndType 523 524), (0, u "checkBoundsBeginEnd"), (0, u "(III)V"), (50, .class_ 576), (0, u "java/lang/CharSequence"), (22, u "CASE_INSENSITIVE_ORDER"), (0, u "Ljava/util/Comparator;"), (80, .methodref 10 682), (0, .nameAndType 683 684), (0, u "substring"), (0, u "(II)Ljava/lang/String;"), (0, .methodref 107 686), (0, .nameAndType 687 688), (0, u "newString"), (0, u "([BII)Ljava/lang/String;"), (203, u "(I)Ljava/lang/String;"), (117, u "([C)V"), (42, .fieldref 1054 1055), (0, .class_ 1056), (0, .nameAndType 1057 1058), (0, u "jdk/internal/util/Preconditions"), (0, u "SIOOBE_FORMATTER"), (0, u "Ljava/util/function/BiFunction;"), (0, .methodref 1054 1060), (0, .nameAndType 501 1061), (0, u "(IILjava/util/function/BiFunction;)I"), (0, .methodref 1054 1063), (0, .nameAndType 513 1064), (0, u "(IIILjava/util/function/BiFunction;)I"), (36, u "serialPersistentFields"), (0, u "[Ljava/io/ObjectStreamField;"), (0, .class_ 1104), (0, u "java/lang/String$CaseInsensitiveComparator"), (1, .class_ 1107), (0, u "java/io/Serializable"), (0, .class_ 1109), (0, u "java/lang/Comparable"), (0, .class_ 1111), (0, u "java/lang/constant/Constable"), (0, .class_ 1113), (0, u "java/lang/constant/ConstantDesc"), (2, u "serialVersionUID"), (0, u "J"), (3, u "REPL"), (0, u "C"), (2, u "LATIN1"), (1, u "UTF16")] 323

def k7m0 : Method := { name := "<init>", desc := "()V", sig := { parameters := [], returnType := none }, accessFlags := 1, code := none }
def k7c1 : Code := { maxStack := 5, maxLocals := 2, code := jdk_42_method_3_code, exceptionTable := #[], attributes := #[] }
def k7m1 : Method := { name := "<init>", desc := "([C)V", sig := { parameters := [(.array .char)], returnType := none }, accessFlags := 1, code := some k7c1 }
def k7c2 : Code := { maxStack := 2, maxLocals := 1, code := jdk_42_method_54_code, exceptionTable := #[], attributes := #[] }
def k7m2 : Method := { name := "length", desc := "()I", sig := { parameters := [], returnType := some .int }, accessFlags := 1, code := some k7c2 }
def k7c3 : Code := { maxStack := 2, maxLocals := 2, code := jdk_42_method_56_code, exceptionTable := #[], attributes := #[] }
def k7m3 : Method := { name := "charAt", desc := "(I)C", sig := { parameters := [.int], returnType := some .char }, accessFlags := 1, code := some k7c3 }
def k7c4 : Code := { maxStack := 3, maxLocals := 2, code := jdk_42_method_91_code, exceptionTable := #[], attributes := #[] }
def k7m4 : Method := { name := "substring", desc := "(I)Ljava/lang/String;", sig := { parameters := [.int], returnType := some (.object "java/lang/String") }, accessFlags := 1, code := some k7c4 }
def k7c5 : Code := { maxStack := 3, maxLocals := 5, code := jdk_42_method_92_code, exceptionTable := #[], attributes := #[] }
def k7m5 : Method := { name := "substring", desc := "(II)Ljava/lang/String;", sig := { parameters := [.int, .int], returnType := some (.object "java/lang/String") }, accessFlags := 1, code := some k7c5 }
def k7c6 : Code := { maxStack := 4, maxLocals := 6, code := jdk_42_method_149_code, exceptionTable := #[], attributes := #[] }
def k7m6 : Method := { name := "<init>", desc := "([CIILjava/lang/Void;)V", sig := { parameters := [(.array .char), .int, .int, (.object "java/lang/Void")], returnType := none }, accessFlags := 2, code := some k7c6 }
def k7c7 : Code := { maxStack := 2, maxLocals := 3, code := jdk_42_method_151_code, exceptionTable := #[], attributes := #[] }
def k7m7 : Method := { name := "<init>", desc := "([BB)V", sig := { parameters := [(.array .byte), .byte], returnType := none }, accessFlags := 0, code := some k7c7 }
def k7c8 : Code := { maxStack := 1, maxLocals := 1, code := jdk_42_method_152_code, exceptionTable := #[], attributes := #[] }
def k7m8 : Method := { name := "coder", desc := "()B", sig := { parameters := [], returnType := some .byte }, accessFlags := 0, code := some k7c8 }
def k7c9 : Code := { maxStack := 1, maxLocals := 1, code := jdk_42_method_154_code, exceptionTable := #[], attributes := #[] }
def k7m9 : Method := { name := "isLatin1", desc := "()Z", sig := { parameters := [], returnType := some .boolean }, accessFlags := 0, code := some k7c9 }
def k7c10 : Code := { maxStack := 3, maxLocals := 2, code := jdk_42_method_155_code, exceptionTable := #[], attributes := #[] }
def k7m10 : Method := { name := "checkIndex", desc := "(II)V", sig := { parameters := [.int, .int], returnType := none }, accessFlags := 8, code := some k7c10 }
def k7c11 : Code := { maxStack := 4, maxLocals := 3, code := jdk_42_method_158_code, exceptionTable := #[], attributes := #[] }
def k7m11 : Method := { name := "checkBoundsBeginEnd", desc := "(III)V", sig := { parameters := [.int, .int, .int], returnType := none }, accessFlags := 8, code := some k7c11 }
/-- java/lang/String -/
def k7 : Class := { plain "java/lang/String" (some 0) with
  accessFlags := 49
  interfaces := #[2, 3, 4, 5, 6]
  cf := some (fileOf pool7 10 #[.nestMembers #[1103]] #[{ accessFlags := 1, nameIndex := 5, descriptorIndex := 6, attributes := #[] }, { accessFlags := 1, nameIndex := 5, descriptorIndex := 1010, attributes := #[] }, { accessFlags := 1, nameIndex := 507, descriptorIndex := 334, attributes := #[] }, { accessFlags := 1, nameIndex := 497, descriptorIndex := 427, attributes := #[] }, { accessFlags := 1, nameIndex := 683, descriptorIndex := 892, attributes := #[] }, { accessFlags := 1, nameIndex := 683, descriptorIndex := 684, attributes := #[] }, { accessFlags := 2, nameIndex := 5, descriptorIndex := 29, attributes := #[] }, { accessFlags := 0, nameIndex := 5, descriptorIndex := 211, attributes := #[] }, { accessFlags := 0, nameIndex := 17, descriptorIndex := 337, attributes := #[] }, { accessFlags := 0, nameIndex := 494, descriptorIndex := 142, attributes := #[] }, { accessFlags := 8, nameIndex := 501, descriptorIndex := 391, attributes := #[] }, { accessFlags := 8, nameIndex := 523, descriptorIndex := 524, attributes := #[] }] 49 2 #[1106, 1108, 575, 1110, 1112] #[{ accessFlags := 18, nameIndex := 13, descriptorIndex := 14, attributes := #[] }, { accessFlags := 18, nameIndex := 17, descriptorIndex := 18, attributes := #[] }, { accessFlags := 2, nameIndex := 21, descriptorIndex := 22, attributes := #[] }, { accessFlags := 2, nameIndex := 25, descriptorIndex := 26, attributes := #[] }, { accessFlags := 26, nameIndex := 1116, descriptorIndex := 1117, attributes := #[] }, { accessFlags := 24, nameIndex := 40, descriptorIndex := 26, attributes := #[] }, { accessFlags := 26, nameIndex := 1101, descriptorIndex := 1102, attributes := #[] }, { accessFlags := 26, nameIndex := 1121, descriptorIndex := 1122, attributes := #[] }, { accessFlags := 25, nameIndex := 599, descriptorIndex := 600, attributes := #[] }, { accessFlags := 24, nameIndex := 1125, descriptorIndex := 18, attributes := #[] }, { accessFlags := 24, nameIndex := 1127, descriptorIndex := 18, attributes := #[] }])
  fields := #[{ name := "value", type := (.array .byte), accessFlags := 18, slot := 0, constantValue := 0 }, { name := "coder", type := .byte, accessFlags := 18, slot := 1, constantValue := 0 }, { name := "hash", type := .int, accessFlags := 2, slot := 2, constantValue := 0 }, { name := "hashIsZero", type := .boolean, accessFlags := 2, slot := 3, constantValue := 0 }, { name := "serialVersionUID", type := .long, accessFlags := 26, slot := 0, constantValue := 0 }, { name := "COMPACT_STRINGS", type := .boolean, accessFlags := 24, slot := 1, constantValue := 0 }, { name := "serialPersistentFields", type := (.array (.object "java/io/ObjectStreamField")), accessFlags := 26, slot := 2, constantValue := 0 }, { name := "REPL", type := .char, accessFlags := 26, slot := 3, constantValue := 0 }, { name := "CASE_INSENSITIVE_ORDER", type := (.object "java/util/Comparator"), accessFlags := 25, slot := 4, constantValue := 0 }, { name := "LATIN1", type := .byte, accessFlags := 24, slot := 5, constantValue := 0 }, { name := "UTF16", type := .byte, accessFlags := 24, slot := 6, constantValue := 0 }]
  methods := #[k7m0, k7m1, k7m2, k7m3, k7m4, k7m5, k7m6, k7m7, k7m8, k7m9, k7m10, k7m11]
  instanceTypes := #[(.array .byte), .byte, .int, .boolean]
  staticTypes := #[.long, .boolean, (.array (.object "java/io/ObjectStreamField")), .char, (.object "java/util/Comparator"), .byte, .byte]
  resolved := Array.replicate 1451 none
  statics := some 0 }

def pool8 : Array CpInfo := pool [(2, .class_ 4), (1, u "java/lang/Object"), (0, u "<init>"), (0, u "()V"), (1, .class_ 10), (1, u "com/example/tributary/tributary/Decimals"), (0, u "stripLeadingZeros"), (0, u "(Ljava/lang/String;)Ljava/lang/String;"), (0, .methodref 14 15), (0, .class_ 16), (0, .nameAndType 17 18), (0, u "java/lang/String"), (0, u "length"), (0, u "()I"), (27, .methodref 14 47), (0, .nameAndType 48 49), (0, u "charAt"), (0, u "(I)C"), (12, u "substring"), (43, u "(I)Ljava/lang/String;"), (3, .methodref 14 111), (0, .nameAndType 62 106), (0, u "MAX_EXPONENT"), (0, u "J")] 37

def k8m0 : Method := { name := "<init>", desc := "()V", sig := { parameters := [], returnType := none }, accessFlags := 2, code := none }
def k8c1 : Code := { maxStack := 2, maxLocals := 2, code := prog_2_method_7_code, exceptionTable := #[], attributes := #[] }
def k8m1 : Method := { name := "stripLeadingZeros", desc := "(Ljava/lang/String;)Ljava/lang/String;", sig := { parameters := [(.object "java/lang/String")], returnType := some (.object "java/lang/String") }, accessFlags := 9, code := some k8c1 }
/-- com/example/tributary/tributary/Decimals -/
def k8 : Class := { plain "com/example/tributary/tributary/Decimals" (some 0) with
  accessFlags := 49
  interfaces := #[]
  cf := some (fileOf pool8 8 #[] #[{ accessFlags := 2, nameIndex := 5, descriptorIndex := 6, attributes := #[] }, { accessFlags := 9, nameIndex := 11, descriptorIndex := 12, attributes := #[] }] 49 2 #[] #[{ accessFlags := 25, nameIndex := 112, descriptorIndex := 113, attributes := #[] }])
  fields := #[{ name := "MAX_EXPONENT", type := .long, accessFlags := 25, slot := 0, constantValue := 0 }]
  methods := #[k8m0, k8m1]
  instanceTypes := #[]
  staticTypes := #[.long]
  resolved := Array.replicate 151 none
  statics := none }

def pool9 : Array CpInfo := pool [(2, .class_ 4), (1, u "java/lang/Object"), (0, u "<init>"), (0, u "()V"), (17, .class_ 26), (1, u "jdk/internal/util/Preconditions"), (6, u "checkIndex"), (13, u "checkFromToIndex"), (7, .class_ 56), (0, u "jdk/internal/util/Preconditions$4"), (57, .class_ 115), (0, u "jdk/internal/util/Preconditions$1"), (7, u "SIOOBE_FORMATTER"), (0, u "Ljava/util/function/BiFunction;"), (0, .class_ 126), (0, u "jdk/internal/util/Preconditions$2"), (3, u "AIOOBE_FORMATTER"), (0, .class_ 132), (0, u "jdk/internal/util/Preconditions$3"), (3, u "IOOBE_FORMATTER"), (41, u "(IILjava/util/function/BiFunction;)I"), (4, u "(IIILjava/util/function/BiFunction;)I")] 10

def k9m0 : Method := { name := "<init>", desc := "()V", sig := { parameters := [], returnType := none }, accessFlags := 1, code := none }
def k9c1 : Code := { maxStack := 3, maxLocals := 3, code := jdk_41_method_11_code, exceptionTable := #[], attributes := #[] }
def k9m1 : Method := { name := "checkIndex", desc := "(IILjava/util/function/BiFunction;)I", sig := { parameters := [.int, .int, (.object "java/util/function/BiFunction")], returnType := some .int }, accessFlags := 9, code := some k9c1 }
def k9c2 : Code := { maxStack := 4, maxLocals := 4, code := jdk_41_method_12_code, exceptionTable := #[], attributes := #[] }
def k9m2 : Method := { name := "checkFromToIndex", desc := "(IIILjava/util/function/BiFunction;)I", sig := { parameters := [.int, .int, .int, (.object "java/util/function/BiFunction")], returnType := some .int }, accessFlags := 9, code := some k9c2 }
/-- jdk/internal/util/Preconditions -/
def k9 : Class := { plain "jdk/internal/util/Preconditions" (some 0) with
  accessFlags := 33
  interfaces := #[]
  cf := some (fileOf pool9 24 #[.nestMembers #[55, 131, 125, 114]] #[{ accessFlags := 1, nameIndex := 5, descriptorIndex := 6, attributes := #[] }, { accessFlags := 9, nameIndex := 33, descriptorIndex := 178, attributes := #[] }, { accessFlags := 9, nameIndex := 47, descriptorIndex := 183, attributes := #[] }] 33 2 #[] #[{ accessFlags := 25, nameIndex := 123, descriptorIndex := 124, attributes := #[] }, { accessFlags := 25, nameIndex := 130, descriptorIndex := 124, attributes := #[] }, { accessFlags := 25, nameIndex := 136, descriptorIndex := 124, attributes := #[] }])
  fields := #[{ name := "SIOOBE_FORMATTER", type := (.object "java/util/function/BiFunction"), accessFlags := 25, slot := 0, constantValue := 0 }, { name := "AIOOBE_FORMATTER", type := (.object "java/util/function/BiFunction"), accessFlags := 25, slot := 1, constantValue := 0 }, { name := "IOOBE_FORMATTER", type := (.object "java/util/function/BiFunction"), accessFlags := 25, slot := 2, constantValue := 0 }]
  methods := #[k9m0, k9m1, k9m2]
  instanceTypes := #[]
  staticTypes := #[(.object "java/util/function/BiFunction"), (.object "java/util/function/BiFunction"), (.object "java/util/function/BiFunction")]
  resolved := Array.replicate 194 none
  statics := some 1 }

def pool10 : Array CpInfo := pool [(6, .class_ 8), (1, u "java/lang/Object"), (0, u "<init>"), (0, u "()V"), (1, .class_ 14), (1, u "java/lang/StringUTF16"), (31, u "$assertionsDisabled"), (0, u "Z"), (13, u "HI_BYTE_SHIFT"), (0, u "I"), (2, u "LO_BYTE_SHIFT"), (49, .methodref 12 116), (0, .nameAndType 117 118), (0, u "compress"), (0, u "([CI[BII)I"), (3, u "([CII)[B"), (138, u "coderFromArrayLen"), (0, u "([BI)B"), (106, .class_ 371), (1, u "java/lang/StringUTF16$LinesSpliterator"), (58, u "MAX_LENGTH"), (196, .class_ 628), (0, u "java/lang/StringUTF16$CodePointsSpliterator"), (0, .class_ 630), (0, u "java/lang/StringUTF16$CharsSpliterator")] 4

def k10m0 : Method := { name := "<init>", desc := "()V", sig := { parameters := [], returnType := none }, accessFlags := 0, code := none }
def k10c1 : Code := { maxStack := 2, maxLocals := 2, code := jdk_52_method_15_code, exceptionTable := #[], attributes := #[] }
def k10m1 : Method := { name := "coderFromArrayLen", desc := "([BI)B", sig := { parameters := [(.array .byte), .int], returnType := some .byte }, accessFlags := 8, code := some k10c1 }
def k10c2 : Code := { maxStack := 5, maxLocals := 6, code := jdk_52_method_16_code, exceptionTable := #[], attributes := #[] }
def k10m2 : Method := { name := "compress", desc := "([CII)[B", sig := { parameters := [(.array .char), .int, .int], returnType := some (.array .byte) }, accessFlags := 9, code := some k10c2 }
def k10c3 : Code := { maxStack := 3, maxLocals := 7, code := jdk_52_method_21_code, exceptionTable := #[], attributes := #[] }
def k10m3 : Method := { name := "compress", desc := "([CI[BII)I", sig := { parameters := [(.array .char), .int, (.array .byte), .int, .int], returnType := some .int }, accessFlags := 9, code := some k10c3 }
/-- java/lang/StringUTF16 -/
def k10 : Class := { plain "java/lang/StringUTF16" (some 0) with
  accessFlags := 48
  interfaces := #[]
  cf := some (fileOf pool10 12 #[.nestMembers #[627, 629, 369]] #[{ accessFlags := 0, nameIndex := 9, descriptorIndex := 10, attributes := #[] }, { accessFlags := 8, nameIndex := 261, descriptorIndex := 262, attributes := #[] }, { accessFlags := 9, nameIndex := 117, descriptorIndex := 122, attributes := #[] }, { accessFlags := 9, nameIndex := 117, descriptorIndex := 118, attributes := #[] }] 48 6 #[] #[{ accessFlags := 26, nameIndex := 61, descriptorIndex := 62, attributes := #[] }, { accessFlags := 26, nameIndex := 65, descriptorIndex := 62, attributes := #[] }, { accessFlags := 24, nameIndex := 430, descriptorIndex := 62, attributes := #[] }, { accessFlags := 4120, nameIndex := 46, descriptorIndex := 47, attributes := #[] }])
  fields := #[{ name := "HI_BYTE_SHIFT", type := .int, accessFlags := 26, slot := 0, constantValue := 0 }, { name := "LO_BYTE_SHIFT", type := .int, accessFlags := 26, slot := 1, constantValue := 0 }, { name := "MAX_LENGTH", type := .int, accessFlags := 24, slot := 2, constantValue := 0 }, { name := "$assertionsDisabled", type := .boolean, accessFlags := 4120, slot := 3, constantValue := 0 }]
  methods := #[k10m0, k10m1, k10m2, k10m3]
  instanceTypes := #[]
  staticTypes := #[.int, .int, .int, .boolean]
  resolved := Array.replicate 635 none
  statics := none }

def pool11 : Array CpInfo := pool [(1, .class_ 2), (0, u "java/lang/String"), (1, .class_ 6), (1, u "java/lang/Object"), (0, u "<init>"), (0, u "()V"), (0, .methodref 1 10), (0, .nameAndType 11 12), (0, u "checkIndex"), (0, u "(II)V"), (1, .class_ 16), (1, u "java/lang/StringLatin1"), (36, u "([BI)C"), (58, .methodref 1 113), (0, .nameAndType 7 114), (0, u "([BB)V"), (6, u "$assertionsDisabled"), (0, u "Z"), (8, .class_ 133), (1, u "java/util/Arrays"), (17, .string 152), (0, u ""), (43, u "newString"), (0, u "([BII)Ljava/lang/String;"), (23, .class_ 223), (1, u "java/lang/StringLatin1$LinesSpliterator"), (8, .methodref 131 233), (0, .nameAndType 234 235), (0, u "copyOfRange"), (0, u "([BII)[B"), (16, u "charAt"), (137, .class_ 391), (0, u "java/lang/StringLatin1$CharsSpliterator")] 3

def k11m0 : Method := { name := "<init>", desc := "()V", sig := { parameters := [], returnType := none }, accessFlags := 0, code := none }
def k11c1 : Code := { maxStack := 2, maxLocals := 2, code := jdk_43_method_2_code, exceptionTable := #[], attributes := #[] }
def k11m1 : Method := { name := "charAt", desc := "([BI)C", sig := { parameters := [(.array .byte), .int], returnType := some .char }, accessFlags := 9, code := some k11c1 }
def k11c2 : Code := { maxStack := 6, maxLocals := 3, code := jdk_43_method_47_code, exceptionTable := #[], attributes := #[] }
def k11m2 : Method := { name := "newString", desc := "([BII)Ljava/lang/String;", sig := { parameters := [(.array .byte), .int, .int], returnType := some (.object "java/lang/String") }, accessFlags := 9, code := some k11c2 }
/-- java/lang/StringLatin1 -/
def k11 : Class := { plain "java/lang/StringLatin1" (some 0) with
  accessFlags := 48
  interfaces := #[]
  cf := some (fileOf pool11 14 #[.nestMembers #[390, 221]] #[{ accessFlags := 0, nameIndex := 7, descriptorIndex := 8, attributes := #[] }, { accessFlags := 9, nameIndex := 252, descriptorIndex := 53, attributes := #[] }, { accessFlags := 9, nameIndex := 196, descriptorIndex := 197, attributes := #[] }] 48 4 #[] #[{ accessFlags := 4120, nameIndex := 121, descriptorIndex := 122, attributes := #[] }])
  fields := #[{ name := "$assertionsDisabled", type := .boolean, accessFlags := 4120, slot := 0, constantValue := 0 }]
  methods := #[k11m0, k11m1, k11m2]
  instanceTypes := #[]
  staticTypes := #[.boolean]
  resolved := Array.replicate 395 none
  statics := none }

def pool12 : Array CpInfo := pool [(2, .class_ 4), (1, u "java/lang/Object"), (0, u "<init>"), (0, u "()V"), (7, .class_ 16), (1, u "java/util/Arrays"), (57, .class_ 76), (1, u "java/util/Arrays$NaturalOrder"), (36, .class_ 115), (1, u "java/util/Arrays$LegacyMergeSort"), (1, u "Z"), (21, u "copyOfRange"), (10, .methodref 151 152), (0, .class_ 153), (0, .nameAndType 154 155), (0, u "java/lang/System"), (0, u "arraycopy"), (0, u "(Ljava/lang/Object;ILjava/lang/Object;II)V"), (148, .methodref 305 306), (0, .class_ 307), (0, .nameAndType 308 309), (0, u "java/lang/Math"), (0, u "min"), (0, u "(II)I"), (29, .methodref 14 340), (0, .nameAndType 341 342), (0, u "copyOfRangeByte"), (0, u "([BII)[B"), (0, .methodref 14 344), (0, .nameAndType 345 346), (0, u "checkLength"), (0, u "(II)V"), (28, .class_ 376), (0, u "java/util/Arrays$ArrayList"), (68, u "$assertionsDisabled"), (269, u "MIN_ARRAY_SORT_GRAN"), (0, u "I"), (2, u "INSERTIONSORT_THRESHOLD"), (255, .class_ 976), (0, u "java/util/Arrays$ArrayItr")] 52

def k12m0 : Method := { name := "<init>", desc := "()V", sig := { parameters := [], returnType := none }, accessFlags := 2, code := none }
def k12c1 : Code := { maxStack := 4, maxLocals := 2, code := jdk_65_method_131_code, exceptionTable := #[], attributes := #[] }
def k12m1 : Method := { name := "checkLength", desc := "(II)V", sig := { parameters := [.int, .int], returnType := none }, accessFlags := 10, code := some k12c1 }
def k12c2 : Code := { maxStack := 3, maxLocals := 3, code := jdk_65_method_132_code, exceptionTable := #[], attributes := #[] }
def k12m2 : Method := { name := "copyOfRange", desc := "([BII)[B", sig := { parameters := [(.array .byte), .int, .int], returnType := some (.array .byte) }, accessFlags := 9, code := some k12c2 }
def k12c3 : Code := { maxStack := 6, maxLocals := 5, code := jdk_65_method_133_code, exceptionTable := #[], attributes := #[] }
def k12m3 : Method := { name := "copyOfRangeByte", desc := "([BII)[B", sig := { parameters := [(.array .byte), .int, .int], returnType := some (.array .byte) }, accessFlags := 10, code := some k12c3 }
/-- java/util/Arrays -/
def k12 : Class := { plain "java/util/Arrays" (some 0) with
  accessFlags := 49
  interfaces := #[]
  cf := some (fileOf pool12 14 #[.nestMembers #[975, 375, 113, 74]] #[{ accessFlags := 2, nameIndex := 5, descriptorIndex := 6, attributes := #[] }, { accessFlags := 10, nameIndex := 345, descriptorIndex := 346, attributes := #[] }, { accessFlags := 9, nameIndex := 139, descriptorIndex := 342, attributes := #[] }, { accessFlags := 10, nameIndex := 341, descriptorIndex := 342, attributes := #[] }] 49 2 #[] #[{ accessFlags := 26, nameIndex := 715, descriptorIndex := 716, attributes := #[] }, { accessFlags := 26, nameIndex := 719, descriptorIndex := 716, attributes := #[] }, { accessFlags := 4120, nameIndex := 445, descriptorIndex := 117, attributes := #[] }])
  fields := #[{ name := "MIN_ARRAY_SORT_GRAN", type := .int, accessFlags := 26, slot := 0, constantValue := 0 }, { name := "INSERTIONSORT_THRESHOLD", type := .int, accessFlags := 26, slot := 1, constantValue := 0 }, { name := "$assertionsDisabled", type := .boolean, accessFlags := 4120, slot := 2, constantValue := 0 }]
  methods := #[k12m0, k12m1, k12m2, k12m3]
  instanceTypes := #[]
  staticTypes := #[.int, .int, .boolean]
  resolved := Array.replicate 1029 none
  statics := none }

def pool13 : Array CpInfo := pool [(1, .class_ 2), (0, u "java/lang/Math"), (1, .class_ 6), (1, u "java/lang/Object"), (0, u "<init>"), (0, u "()V"), (89, .class_ 100), (1, u "java/lang/Math$RandomNumberGeneratorHolder"), (71, u "negativeZeroFloatBits"), (0, u "J"), (2, u "negativeZeroDoubleBits"), (24, u "min"), (43, u "$assertionsDisabled"), (0, u "Z"), (88, u "(II)I"), (2, u "twoToTheDoubleScaleDown"), (0, u "D"), (4, u "twoToTheDoubleScaleUp"), (9, u "E"), (3, u "PI"), (2, u "TAU"), (2, u "DEGREES_TO_RADIANS"), (0, u "RADIANS_TO_DEGREES")] 94

def k13m0 : Method := { name := "<init>", desc := "()V", sig := { parameters := [], returnType := none }, accessFlags := 2, code := none }
def k13c1 : Code := { maxStack := 2, maxLocals := 2, code := jdk_29_method_69_code, exceptionTable := #[], attributes := #[] }
def k13m1 : Method := { name := "min", desc := "(II)I", sig := { parameters := [.int, .int], returnType := some .int }, accessFlags := 9, code := some k13c1 }
/-- java/lang/Math -/
def k13 : Class := { plain "java/lang/Math" (some 0) with
  accessFlags := 49
  interfaces := #[]
  cf := some (fileOf pool13 1 #[.nestMembers #[98]] #[{ accessFlags := 2, nameIndex := 7, descriptorIndex := 8, attributes := #[] }, { accessFlags := 9, nameIndex := 201, descriptorIndex := 335, attributes := #[] }] 49 4 #[] #[{ accessFlags := 25, nameIndex := 354, descriptorIndex := 339, attributes := #[] }, { accessFlags := 25, nameIndex := 358, descriptorIndex := 339, attributes := #[] }, { accessFlags := 25, nameIndex := 361, descriptorIndex := 339, attributes := #[] }, { accessFlags := 26, nameIndex := 364, descriptorIndex := 339, attributes := #[] }, { accessFlags := 26, nameIndex := 365, descriptorIndex := 339, attributes := #[] }, { accessFlags := 26, nameIndex := 172, descriptorIndex := 173, attributes := #[] }, { accessFlags := 26, nameIndex := 176, descriptorIndex := 173, attributes := #[] }, { accessFlags := 8, nameIndex := 344, descriptorIndex := 339, attributes := #[] }, { accessFlags := 8, nameIndex := 338, descriptorIndex := 339, attributes := #[] }, { accessFlags := 4120, nameIndex := 245, descriptorIndex := 246, attributes := #[] }])
  fields := #[{ name := "E", type := .double, accessFlags := 25, slot := 0, constantValue := 0 }, { name := "PI", type := .double, accessFlags := 25, slot := 1, constantValue := 0 }, { name := "TAU", type := .double, accessFlags := 25, slot := 2, constantValue := 0 }, { name := "DEGREES_TO_RADIANS", type := .double, accessFlags := 26, slot := 3, constantValue := 0 }, { name := "RADIANS_TO_DEGREES", type := .double, accessFlags := 26, slot := 4, constantValue := 0 }, { name := "negativeZeroFloatBits", type := .long, accessFlags := 26, slot := 5, constantValue := 0 }, { name := "negativeZeroDoubleBits", type := .long, accessFlags := 26, slot := 6, constantValue := 0 }, { name := "twoToTheDoubleScaleUp", type := .double, accessFlags := 8, slot := 7, constantValue := 0 }, { name := "twoToTheDoubleScaleDown", type := .double, accessFlags := 8, slot := 8, constantValue := 0 }, { name := "$assertionsDisabled", type := .boolean, accessFlags := 4120, slot := 9, constantValue := 0 }]
  methods := #[k13m0, k13m1]
  instanceTypes := #[]
  staticTypes := #[.double, .double, .double, .double, .double, .long, .long, .double, .double, .boolean]
  resolved := Array.replicate 460 none
  statics := none }

def pool14 : Array CpInfo := pool [(2, .class_ 4), (1, u "java/lang/Object"), (0, u "<init>"), (0, u "()V"), (1, .class_ 10), (1, u "java/lang/System"), (0, u "allowSecurityManager"), (0, u "I"), (16, u "cons"), (0, u "Ljava/io/Console;"), (77, .class_ 110), (1, u "java/lang/System$CallersHolder"), (43, u "initialErrStream"), (0, u "Ljava/io/PrintStream;"), (19, u "security"), (0, u "Ljava/lang/SecurityManager;"), (31, .class_ 209), (0, u "java/lang/System$1"), (7, u "props"), (0, u "Ljava/util/Properties;"), (2, u "lineSeparator"), (0, u "Ljava/lang/String;"), (96, .class_ 321), (1, u "java/lang/System$LoggerFinder"), (5, .class_ 328), (0, u "java/lang/System$Logger"), (67, u "err"), (2, u "out"), (91, u "notSupportedJnuEncoding"), (15, u "in"), (17, u "initialIn"), (0, u "Ljava/io/InputStream;"), (35, u "bootLayer"), (0, u "Ljava/lang/ModuleLayer;"), (99, .class_ 664), (0, u "java/lang/System$2"), (9, u "NEVER"), (2, u "MAYBE"), (49, u "arraycopy"), (0, u "(Ljava/lang/Object;ILjava/lang/Object;II)V"), (72, .class_ 802), (0, u "java/lang/System$Logger$Level")] 31

def k14m0 : Method := { name := "<init>", desc := "()V", sig := { parameters := [], returnType := none }, accessFlags := 2, code := none }
def k14m1 : Method := { name := "arraycopy", desc := "(Ljava/lang/Object;ILjava/lang/Object;II)V", sig := { parameters := [(.object "java/lang/Object"), .int, (.object "java/lang/Object"), .int, .int], returnType := none }, accessFlags := 265, code := none }
/-- java/lang/System -/
def k14 : Class := { plain "java/lang/System" (some 0) with
  accessFlags := 49
  interfaces := #[]
  cf := some (fileOf pool14 8 #[.nestMembers #[319, 327, 801, 108, 663, 208]] #[{ accessFlags := 2, nameIndex := 5, descriptorIndex := 6, attributes := #[] }, { accessFlags := 265, nameIndex := 727, descriptorIndex := 728, attributes := #[] }] 49 2 #[] #[{ accessFlags := 25, nameIndex := 507, descriptorIndex := 526, attributes := #[] }, { accessFlags := 25, nameIndex := 399, descriptorIndex := 155, attributes := #[] }, { accessFlags := 25, nameIndex := 396, descriptorIndex := 155, attributes := #[] }, { accessFlags := 10, nameIndex := 525, descriptorIndex := 526, attributes := #[] }, { accessFlags := 26, nameIndex := 674, descriptorIndex := 12, attributes := #[] }, { accessFlags := 26, nameIndex := 677, descriptorIndex := 12, attributes := #[] }, { accessFlags := 10, nameIndex := 11, descriptorIndex := 12, attributes := #[] }, { accessFlags := 74, nameIndex := 175, descriptorIndex := 176, attributes := #[] }, { accessFlags := 10, nameIndex := 491, descriptorIndex := 222, attributes := #[] }, { accessFlags := 74, nameIndex := 29, descriptorIndex := 30, attributes := #[] }, { accessFlags := 74, nameIndex := 154, descriptorIndex := 155, attributes := #[] }, { accessFlags := 10, nameIndex := 217, descriptorIndex := 218, attributes := #[] }, { accessFlags := 10, nameIndex := 221, descriptorIndex := 222, attributes := #[] }, { accessFlags := 8, nameIndex := 562, descriptorIndex := 563, attributes := #[] }])
  fields := #[{ name := "in", type := (.object "java/io/InputStream"), accessFlags := 25, slot := 0, constantValue := 0 }, { name := "out", type := (.object "java/io/PrintStream"), accessFlags := 25, slot := 1, constantValue := 0 }, { name := "err", type := (.object "java/io/PrintStream"), accessFlags := 25, slot := 2, constantValue := 0 }, { name := "initialIn", type := (.object "java/io/InputStream"), accessFlags := 10, slot := 3, constantValue := 0 }, { name := "NEVER", type := .int, accessFlags := 26, slot := 4, constantValue := 0 }, { name := "MAYBE", type := .int, accessFlags := 26, slot := 5, constantValue := 0 }, { name := "allowSecurityManager", type := .int, accessFlags := 10, slot := 6, constantValue := 0 }, { name := "security", type := (.object "java/lang/SecurityManager"), accessFlags := 74, slot := 7, constantValue := 0 }, { name := "notSupportedJnuEncoding", type := (.object "java/lang/String"), accessFlags := 10, slot := 8, constantValue := 0 }, { name := "cons", type := (.object "java/io/Console"), accessFlags := 74, slot := 9, constantValue := 0 }, { name := "initialErrStream", type := (.object "java/io/PrintStream"), accessFlags := 74, slot := 10, constantValue := 0 }, { name := "props", type := (.object "java/util/Properties"), accessFlags := 10, slot := 11, constantValue := 0 }, { name := "lineSeparator", type := (.object "java/lang/String"), accessFlags := 10, slot := 12, constantValue := 0 }, { name := "bootLayer", type := (.object "java/lang/ModuleLayer"), accessFlags := 8, slot := 13, constantValue := 0 }]
  methods := #[k14m0, k14m1]
  instanceTypes := #[]
  staticTypes := #[(.object "java/io/InputStream"), (.object "java/io/PrintStream"), (.object "java/io/PrintStream"), (.object "java/io/InputStream"), .int, .int, .int, (.object "java/lang/SecurityManager"), (.object "java/lang/String"), (.object "java/io/Console"), (.object "java/io/PrintStream"), (.object "java/util/Properties"), (.object "java/lang/String"), (.object "java/lang/ModuleLayer")]
  resolved := Array.replicate 834 none
  statics := none }

def pool15 : Array CpInfo := pool [(9, u "<init>"), (6, .class_ 18), (1, u "java/lang/Object"), (0, u "()V"), (1, .class_ 23), (1, u "jdk/internal/util/ArraysSupport"), (0, u "LOG2_ARRAY_LONG_INDEX_SCALE"), (0, u "I"), (2, u "U"), (0, u "Ljdk/internal/misc/Unsafe;"), (8, u "BIG_ENDIAN"), (0, u "Z"), (8, u "LOG2_BYTE_BIT_SIZE"), (4, u "LOG2_ARRAY_INT_INDEX_SCALE"), (54, u "JLA"), (0, u "Ljdk/internal/access/JavaLangAccess;"), (11, u "LOG2_ARRAY_BOOLEAN_INDEX_SCALE"), (9, u "LOG2_ARRAY_BYTE_INDEX_SCALE"), (5, u "LOG2_ARRAY_CHAR_INDEX_SCALE"), (5, u "LOG2_ARRAY_SHORT_INDEX_SCALE"), (18, u "LOG2_ARRAY_FLOAT_INDEX_SCALE"), (24, u "LOG2_ARRAY_DOUBLE_INDEX_SCALE"), (89, u "T_BOOLEAN"), (2, u "T_CHAR"), (1, u "T_FLOAT"), (1, u "T_DOUBLE"), (1, u "T_BYTE"), (1, u "T_SHORT"), (1, u "T_INT"), (1, u "T_LONG"), (1, u "SOFT_MAX_ARRAY_LENGTH")] 83

def k15m0 : Method := { name := "<init>", desc := "()V", sig := { parameters := [], returnType := none }, accessFlags := 2, code := none }
/-- jdk/internal/util/ArraysSupport -/
def k15 : Class := { plain "jdk/internal/util/ArraysSupport" (some 0) with
  accessFlags := 33
  interfaces := #[]
  cf := some (fileOf pool15 21 #[] #[{ accessFlags := 2, nameIndex := 9, descriptorIndex := 19, attributes := #[] }] 33 16 #[] #[{ accessFlags := 24, nameIndex := 28, descriptorIndex := 29, attributes := #[] }, { accessFlags := 26, nameIndex := 38, descriptorIndex := 39, attributes := #[] }, { accessFlags := 25, nameIndex := 121, descriptorIndex := 25, attributes := #[] }, { accessFlags := 25, nameIndex := 131, descriptorIndex := 25, attributes := #[] }, { accessFlags := 25, nameIndex := 137, descriptorIndex := 25, attributes := #[] }, { accessFlags := 25, nameIndex := 143, descriptorIndex := 25, attributes := #[] }, { accessFlags := 25, nameIndex := 53, descriptorIndex := 25, attributes := #[] }, { accessFlags := 25, nameIndex := 24, descriptorIndex := 25, attributes := #[] }, { accessFlags := 25, nameIndex := 162, descriptorIndex := 25, attributes := #[] }, { accessFlags := 25, nameIndex := 187, descriptorIndex := 25, attributes := #[] }, { accessFlags := 26, nameIndex := 48, descriptorIndex := 25, attributes := #[] }, { accessFlags := 25, nameIndex := 277, descriptorIndex := 25, attributes := #[] }, { accessFlags := 25, nameIndex := 280, descriptorIndex := 25, attributes := #[] }, { accessFlags := 25, nameIndex := 282, descriptorIndex := 25, attributes := #[] }, { accessFlags := 25, nameIndex := 284, descriptorIndex := 25, attributes := #[] }, { accessFlags := 25, nameIndex := 286, descriptorIndex := 25, attributes := #[] }, { accessFlags := 25, nameIndex := 288, descriptorIndex := 25, attributes := #[] }, { accessFlags := 25, nameIndex := 290, descriptorIndex := 25, attributes := #[] }, { accessFlags := 25, nameIndex := 292, descriptorIndex := 25, attributes := #[] }, { accessFlags := 26, nameIndex := 108, descriptorIndex := 109, attributes := #[] }, { accessFlags := 25, nameIndex := 294, descriptorIndex := 25, attributes := #[] }])
  fields := #[{ name := "U", type := (.object "jdk/internal/misc/Unsafe"), accessFlags := 24, slot := 0, constantValue := 0 }, { name := "BIG_ENDIAN", type := .boolean, accessFlags := 26, slot := 1, constantValue := 0 }, { name := "LOG2_ARRAY_BOOLEAN_INDEX_SCALE", type := .int, accessFlags := 25, slot := 2, constantValue := 0 }, { name := "LOG2_ARRAY_BYTE_INDEX_SCALE", type := .int, accessFlags := 25, slot := 3, constantValue := 0 }, { name := "LOG2_ARRAY_CHAR_INDEX_SCALE", type := .int, accessFlags := 25, slot := 4, constantValue := 0 }, { name := "LOG2_ARRAY_SHORT_INDEX_SCALE", type := .int, accessFlags := 25, slot := 5, constantValue := 0 }, { name := "LOG2_ARRAY_INT_INDEX_SCALE", type := .int, accessFlags := 25, slot := 6, constantValue := 0 }, { name := "LOG2_ARRAY_LONG_INDEX_SCALE", type := .int, accessFlags := 25, slot := 7, constantValue := 0 }, { name := "LOG2_ARRAY_FLOAT_INDEX_SCALE", type := .int, accessFlags := 25, slot := 8, constantValue := 0 }, { name := "LOG2_ARRAY_DOUBLE_INDEX_SCALE", type := .int, accessFlags := 25, slot := 9, constantValue := 0 }, { name := "LOG2_BYTE_BIT_SIZE", type := .int, accessFlags := 26, slot := 10, constantValue := 0 }, { name := "T_BOOLEAN", type := .int, accessFlags := 25, slot := 11, constantValue := 0 }, { name := "T_CHAR", type := .int, accessFlags := 25, slot := 12, constantValue := 0 }, { name := "T_FLOAT", type := .int, accessFlags := 25, slot := 13, constantValue := 0 }, { name := "T_DOUBLE", type := .int, accessFlags := 25, slot := 14, constantValue := 0 }, { name := "T_BYTE", type := .int, accessFlags := 25, slot := 15, constantValue := 0 }, { name := "T_SHORT", type := .int, accessFlags := 25, slot := 16, constantValue := 0 }, { name := "T_INT", type := .int, accessFlags := 25, slot := 17, constantValue := 0 }, { name := "T_LONG", type := .int, accessFlags := 25, slot := 18, constantValue := 0 }, { name := "JLA", type := (.object "jdk/internal/access/JavaLangAccess"), accessFlags := 26, slot := 19, constantValue := 0 }, { name := "SOFT_MAX_ARRAY_LENGTH", type := .int, accessFlags := 25, slot := 20, constantValue := 0 }]
  methods := #[k15m0]
  instanceTypes := #[]
  staticTypes := #[(.object "jdk/internal/misc/Unsafe"), .boolean, .int, .int, .int, .int, .int, .int, .int, .int, .int, .int, .int, .int, .int, .int, .int, .int, .int, (.object "jdk/internal/access/JavaLangAccess"), .int]
  resolved := Array.replicate 378 none
  statics := none }

def pool16 : Array CpInfo := pool [(1, u "java/lang/Cloneable"), (0, .class_ 1), (0, u "java/lang/Object"), (0, .class_ 3)] 3

/-- java/lang/Cloneable -/
def k16 : Class := { plain "java/lang/Cloneable" (some 0) with
  accessFlags := 1537
  interfaces := #[]
  cf := some (fileOf pool16 2 #[] #[] 1537 4 #[] #[])
  fields := #[]
  methods := #[]
  instanceTypes := #[]
  staticTypes := #[]
  resolved := Array.replicate 8 none
  statics := none }

/-- the primitive byte -/
def k17 : Class := { plain "byte" none with kind := .primitive 'B', accessFlags := 0x411 }
/-- [B -/
def k18 : Class := { plain "[B" (some 0) with kind := .array 17 .byte, interfaces := #[16, 2], accessFlags := 1041 }

/-- the primitive char -/
def k19 : Class := { plain "char" none with kind := .primitive 'C', accessFlags := 0x411 }
/-- [C -/
def k20 : Class := { plain "[C" (some 0) with kind := .array 19 .char, interfaces := #[16, 2], accessFlags := 1041 }

/-- the primitive int -/
def k21 : Class := { plain "int" none with kind := .primitive 'I', accessFlags := 0x411 }
/-- [I -/
def k22 : Class := { plain "[I" (some 0) with kind := .array 21 .int, interfaces := #[16, 2], accessFlags := 1041 }

def heap : Heap := #[{ cls := 7, slots := #[.long 0, .int 1, .null, .int 0, .null, .int 0, .int 0], vm := .statics 7 },
  { cls := 9, slots := #[.null, .null, .null], vm := .statics 9 }]
def classes : Array Class := #[k0, k1, k2, k3, k4, k5, k6, k7, k8, k9, k10, k11, k12, k13, k14, k15, k16, k17, k18, k19, k20, k21, k22]
def interned : List (Array UInt16 × Addr) := []
def slotsUsed : Nat := 10
def theMethod : MethodId := ⟨1, 3⟩
def args0 : Array Value := #[.int 0, .int 0, .int 0, .int 0, .int 0]
def aboutOver (below : List Frame) : State where
  vm := { classes := classes, interned := interned.toArray }
  heap := heap
  slotsUsed := slotsUsed
  threads := #[{ frames := .invoking theMethod args0 :: below }]
def below0 : List Frame := [.native { method := ⟨0, 0⟩, args := #[] }]
def about1 : State := aboutOver below0
def p0 : Program := .bare "" "" ""
def e0 : Env := launch0.env 0 0 0
theorem w_frames : about1.frames = Frame.invoking theMethod args0 :: below0 := rfl
set_option maxRecDepth 65536 in
theorem w_args : argsFit about1.vm theMethod args0 = true := by decide +kernel
set_option maxRecDepth 65536 in
theorem w_heap : heapFits about1 = true := by decide +kernel
set_option maxRecDepth 65536 in
theorem w_runnable : about1.curStatus? = some .runnable := by decide +kernel
set_option maxRecDepth 65536 in
theorem w_alone : about1.alone = true := by decide +kernel
set_option maxRecDepth 65536 in
theorem w_named : about1.methodNamed? x = some theMethod := by decide +kernel
set_option maxRecDepth 65536 in
theorem w_hears : about1.hears theMethod below0 = true := by decide +kernel
set_option maxRecDepth 65536 in
theorem w_ripe : about1.ripe theMethod args0 below0 = true := by decide +kernel
theorem w_running : about1.status = .running := rfl
set_option maxRecDepth 65536 in
theorem w_room : about1.hasRoom e0.platform room_1 = true :=
  launch0.hasRoom_least _ room_1 (by decide +kernel) (by decide +kernel) (by decide +kernel) (by decide +kernel) (by decide +kernel) (by decide +kernel)
theorem allAtoms_all (ts : List Jvm.Cond) (a : Array Jvm.Value) (st : Jvm.State) : (allAtoms ts).before a st = ts.all (fun c => c.before a st) := by
  induction ts with
  | nil => rfl
  | cons c t ih =>
    show (Jvm.Cond.and c (allAtoms t)).before a st = _
    rw [Jvm.Cond.before_and, ih, List.all_cons]
def words1 : List Jvm.Cond := Jvm.Cond.code x code maxLocals ret :: tables_1
/-- a 'code' word, met by the world's own term for the bytes: nothing is compared byte by byte -/
theorem code_word {y : MethodName} {bytes : ByteArray} {mx : Nat} {rt : Option FieldType} {a : Array Value} {s : State} {m : MethodId} {meth : Method} {c : Code} (h1 : s.methodNamed? y = some m) (h2 : s.vm.method? m = some meth) (h3 : meth.code = some c) (h4 : c.code = bytes)
    (h5 : (c.maxLocals == mx && c.exceptionTable.isEmpty && decide (c.maxStack ≤ mostOperands) && decide (meth.sig.returnType = rt) && !meth.locks && decide (parseMethodDescriptor y.desc = some meth.sig)) = true) : (Jvm.Cond.code y bytes mx rt).before a s = true := by
  simp only [Bool.and_eq_true, beq_iff_eq, Bool.not_eq_true', decide_eq_true_eq] at h5
  obtain ⟨⟨⟨⟨⟨g1, g2⟩, g3⟩, g4⟩, g5⟩, g6⟩ := h5
  simp [Cond.before, Cond.holds, Cond.value, h1, h2, h3, h4, g1, g2, g3, g4, g5, g6]
def isCode : Jvm.Cond → Bool
  | .code _ _ _ _ => true
  | _ => false
theorem all_split {L : List Jvm.Cond} {P : Jvm.Cond → Bool} (h1 : L.all (fun c => isCode c || P c) = true) (h2 : ∀ c ∈ L.filter isCode, P c = true) : L.all P = true := by
  refine List.all_eq_true.mpr fun c hc => ?_
  have h := List.all_eq_true.mp h1 c hc
  rcases Bool.eq_false_or_eq_true (isCode c) with hi | hi
  · exact h2 c (List.mem_filter.mpr ⟨hc, hi⟩)
  · simpa [hi] using h
set_option maxRecDepth 65536 in
theorem w_c0 : (Jvm.Cond.code x code maxLocals ret).before args0 about1 = true := code_word (m := ⟨1, 3⟩) (meth := k1m3) (c := k1c3) (by decide +kernel) rfl rfl rfl (by decide +kernel)
set_option maxRecDepth 65536 in
theorem w_c1 : (Jvm.Cond.code ({ cls := "com/example/tributary/tributary/DecimalsStripLeadingZerosPinLaw", name := "ch", desc := "(I)C" } : Jvm.MethodName) method_2_code (1 : Nat) (Option.some Jvm.ClassFile.FieldType.char)).before args0 about1 = true := code_word (m := ⟨1, 1⟩) (meth := k1m1) (c := k1c1) (by decide +kernel) rfl rfl rfl (by decide +kernel)
set_option maxRecDepth 65536 in
theorem w_c2 : (Jvm.Cond.code ({ cls := "java/lang/String", name := "<init>", desc := "([C)V" } : Jvm.MethodName) jdk_42_method_3_code (2 : Nat) (Option.none : Option Jvm.ClassFile.FieldType)).before args0 about1 = true := code_word (m := ⟨7, 1⟩) (meth := k7m1) (c := k7c1) (by decide +kernel) rfl rfl rfl (by decide +kernel)
set_option maxRecDepth 65536 in
theorem w_c3 : (Jvm.Cond.code ({ cls := "java/lang/String", name := "<init>", desc := "([CIILjava/lang/Void;)V" } : Jvm.MethodName) jdk_42_method_149_code (6 : Nat) (Option.none : Option Jvm.ClassFile.FieldType)).before args0 about1 = true := code_word (m := ⟨7, 6⟩) (meth := k7m6) (c := k7c6) (by decide +kernel) rfl rfl rfl (by decide +kernel)
set_option maxRecDepth 65536 in
theorem w_c4 : (Jvm.Cond.code ({ cls := "java/lang/Object", name := "<init>", desc := "()V" } : Jvm.MethodName) object_method_1_code (1 : Nat) (Option.none : Option Jvm.ClassFile.FieldType)).before args0 about1 = true := code_word (m := ⟨0, 0⟩) (meth := k0m0) (c := k0c0) (by decide +kernel) rfl rfl rfl (by decide +kernel)
set_option maxRecDepth 65536 in
theorem w_c5 : (Jvm.Cond.code ({ cls := "com/example/tributary/tributary/Decimals", name := "stripLeadingZeros", desc := "(Ljava/lang/String;)Ljava/lang/String;" } : Jvm.MethodName) prog_2_method_7_code (2 : Nat) (Option.some (Jvm.ClassFile.FieldType.object "java/lang/String"))).before args0 about1 = true := code_word (m := ⟨8, 1⟩) (meth := k8m1) (c := k8c1) (by decide +kernel) rfl rfl rfl (by decide +kernel)
set_option maxRecDepth 65536 in
theorem w_c6 : (Jvm.Cond.code ({ cls := "java/lang/String", name := "length", desc := "()I" } : Jvm.MethodName) jdk_42_method_54_code (1 : Nat) (Option.some Jvm.ClassFile.FieldType.int)).before args0 about1 = true := code_word (m := ⟨7, 2⟩) (meth := k7m2) (c := k7c2) (by decide +kernel) rfl rfl rfl (by decide +kernel)
set_option maxRecDepth 65536 in
theorem w_c7 : (Jvm.Cond.code ({ cls := "java/lang/String", name := "coder", desc := "()B" } : Jvm.MethodName) jdk_42_method_152_code (1 : Nat) (Option.some Jvm.ClassFile.FieldType.byte)).before args0 about1 = true := code_word (m := ⟨7, 8⟩) (meth := k7m8) (c := k7c8) (by decide +kernel) rfl rfl rfl (by decide +kernel)
set_option maxRecDepth 65536 in
theorem w_c8 : (Jvm.Cond.code ({ cls := "java/lang/String", name := "substring", desc := "(I)Ljava/lang/String;" } : Jvm.MethodName) jdk_42_method_91_code (2 : Nat) (Option.some (Jvm.ClassFile.FieldType.object "java/lang/String"))).before args0 about1 = true := code_word (m := ⟨7, 4⟩) (meth := k7m4) (c := k7c4) (by decide +kernel) rfl rfl rfl (by decide +kernel)
set_option maxRecDepth 65536 in
theorem w_c9 : (Jvm.Cond.code ({ cls := "java/lang/String", name := "substring", desc := "(II)Ljava/lang/String;" } : Jvm.MethodName) jdk_42_method_92_code (5 : Nat) (Option.some (Jvm.ClassFile.FieldType.object "java/lang/String"))).before args0 about1 = true := code_word (m := ⟨7, 5⟩) (meth := k7m5) (c := k7c5) (by decide +kernel) rfl rfl rfl (by decide +kernel)
set_option maxRecDepth 65536 in
theorem w_c10 : (Jvm.Cond.code ({ cls := "java/lang/String", name := "checkBoundsBeginEnd", desc := "(III)V" } : Jvm.MethodName) jdk_42_method_158_code (3 : Nat) (Option.none : Option Jvm.ClassFile.FieldType)).before args0 about1 = true := code_word (m := ⟨7, 11⟩) (meth := k7m11) (c := k7c11) (by decide +kernel) rfl rfl rfl (by decide +kernel)
set_option maxRecDepth 65536 in
theorem w_c11 : (Jvm.Cond.code ({ cls := "jdk/internal/util/Preconditions", name := "checkFromToIndex", desc := "(IIILjava/util/function/BiFunction;)I" } : Jvm.MethodName) jdk_41_method_12_code (4 : Nat) (Option.some Jvm.ClassFile.FieldType.int)).before args0 about1 = true := code_word (m := ⟨9, 2⟩) (meth := k9m2) (c := k9c2) (by decide +kernel) rfl rfl rfl (by decide +kernel)
set_option maxRecDepth 65536 in
theorem w_c12 : (Jvm.Cond.code ({ cls := "com/example/tributary/tributary/DecimalsStripLeadingZerosPinLaw", name := "at", desc := "(Ljava/lang/String;[CIII)Z" } : Jvm.MethodName) method_3_code (5 : Nat) (Option.some Jvm.ClassFile.FieldType.boolean)).before args0 about1 = true := code_word (m := ⟨1, 2⟩) (meth := k1m2) (c := k1c2) (by decide +kernel) rfl rfl rfl (by decide +kernel)
set_option maxRecDepth 65536 in
theorem w_c13 : (Jvm.Cond.code ({ cls := "java/lang/StringUTF16", name := "compress", desc := "([CII)[B" } : Jvm.MethodName) jdk_52_method_16_code (6 : Nat) (Option.some (Jvm.ClassFile.FieldType.array Jvm.ClassFile.FieldType.byte))).before args0 about1 = true := code_word (m := ⟨10, 2⟩) (meth := k10m2) (c := k10c2) (by decide +kernel) rfl rfl rfl (by decide +kernel)
set_option maxRecDepth 65536 in
theorem w_c14 : (Jvm.Cond.code ({ cls := "java/lang/StringUTF16", name := "compress", desc := "([CI[BII)I" } : Jvm.MethodName) jdk_52_method_21_code (7 : Nat) (Option.some Jvm.ClassFile.FieldType.int)).before args0 about1 = true := code_word (m := ⟨10, 3⟩) (meth := k10m3) (c := k10c3) (by decide +kernel) rfl rfl rfl (by decide +kernel)
set_option maxRecDepth 65536 in
theorem w_c15 : (Jvm.Cond.code ({ cls := "java/lang/StringUTF16", name := "coderFromArrayLen", desc := "([BI)B" } : Jvm.MethodName) jdk_52_method_15_code (2 : Nat) (Option.some Jvm.ClassFile.FieldType.byte)).before args0 about1 = true := code_word (m := ⟨10, 1⟩) (meth := k10m1) (c := k10c1) (by decide +kernel) rfl rfl rfl (by decide +kernel)
set_option maxRecDepth 65536 in
theorem w_c16 : (Jvm.Cond.code ({ cls := "java/lang/String", name := "charAt", desc := "(I)C" } : Jvm.MethodName) jdk_42_method_56_code (2 : Nat) (Option.some Jvm.ClassFile.FieldType.char)).before args0 about1 = true := code_word (m := ⟨7, 3⟩) (meth := k7m3) (c := k7c3) (by decide +kernel) rfl rfl rfl (by decide +kernel)
set_option maxRecDepth 65536 in
theorem w_c17 : (Jvm.Cond.code ({ cls := "java/lang/String", name := "isLatin1", desc := "()Z" } : Jvm.MethodName) jdk_42_method_154_code (1 : Nat) (Option.some Jvm.ClassFile.FieldType.boolean)).before args0 about1 = true := code_word (m := ⟨7, 9⟩) (meth := k7m9) (c := k7c9) (by decide +kernel) rfl rfl rfl (by decide +kernel)
set_option maxRecDepth 65536 in
theorem w_c18 : (Jvm.Cond.code ({ cls := "java/lang/StringLatin1", name := "charAt", desc := "([BI)C" } : Jvm.MethodName) jdk_43_method_2_code (2 : Nat) (Option.some Jvm.ClassFile.FieldType.char)).before args0 about1 = true := code_word (m := ⟨11, 1⟩) (meth := k11m1) (c := k11c1) (by decide +kernel) rfl rfl rfl (by decide +kernel)
set_option maxRecDepth 65536 in
theorem w_c19 : (Jvm.Cond.code ({ cls := "java/lang/String", name := "checkIndex", desc := "(II)V" } : Jvm.MethodName) jdk_42_method_155_code (2 : Nat) (Option.none : Option Jvm.ClassFile.FieldType)).before args0 about1 = true := code_word (m := ⟨7, 10⟩) (meth := k7m10) (c := k7c10) (by decide +kernel) rfl rfl rfl (by decide +kernel)
set_option maxRecDepth 65536 in
theorem w_c20 : (Jvm.Cond.code ({ cls := "jdk/internal/util/Preconditions", name := "checkIndex", desc := "(IILjava/util/function/BiFunction;)I" } : Jvm.MethodName) jdk_41_method_11_code (3 : Nat) (Option.some Jvm.ClassFile.FieldType.int)).before args0 about1 = true := code_word (m := ⟨9, 1⟩) (meth := k9m1) (c := k9c1) (by decide +kernel) rfl rfl rfl (by decide +kernel)
set_option maxRecDepth 65536 in
theorem w_c21 : (Jvm.Cond.code ({ cls := "java/lang/StringLatin1", name := "newString", desc := "([BII)Ljava/lang/String;" } : Jvm.MethodName) jdk_43_method_47_code (3 : Nat) (Option.some (Jvm.ClassFile.FieldType.object "java/lang/String"))).before args0 about1 = true := code_word (m := ⟨11, 2⟩) (meth := k11m2) (c := k11c2) (by decide +kernel) rfl rfl rfl (by decide +kernel)
set_option maxRecDepth 65536 in
theorem w_c22 : (Jvm.Cond.code ({ cls := "java/util/Arrays", name := "copyOfRange", desc := "([BII)[B" } : Jvm.MethodName) jdk_65_method_132_code (3 : Nat) (Option.some (Jvm.ClassFile.FieldType.array Jvm.ClassFile.FieldType.byte))).before args0 about1 = true := code_word (m := ⟨12, 2⟩) (meth := k12m2) (c := k12c2) (by decide +kernel) rfl rfl rfl (by decide +kernel)
set_option maxRecDepth 65536 in
theorem w_c23 : (Jvm.Cond.code ({ cls := "java/util/Arrays", name := "copyOfRangeByte", desc := "([BII)[B" } : Jvm.MethodName) jdk_65_method_133_code (5 : Nat) (Option.some (Jvm.ClassFile.FieldType.array Jvm.ClassFile.FieldType.byte))).before args0 about1 = true := code_word (m := ⟨12, 3⟩) (meth := k12m3) (c := k12c3) (by decide +kernel) rfl rfl rfl (by decide +kernel)
set_option maxRecDepth 65536 in
theorem w_c24 : (Jvm.Cond.code ({ cls := "java/util/Arrays", name := "checkLength", desc := "(II)V" } : Jvm.MethodName) jdk_65_method_131_code (2 : Nat) (Option.none : Option Jvm.ClassFile.FieldType)).before args0 about1 = true := code_word (m := ⟨12, 1⟩) (meth := k12m1) (c := k12c1) (by decide +kernel) rfl rfl rfl (by decide +kernel)
set_option maxRecDepth 65536 in
theorem w_c25 : (Jvm.Cond.code ({ cls := "java/lang/Math", name := "min", desc := "(II)I" } : Jvm.MethodName) jdk_29_method_69_code (2 : Nat) (Option.some Jvm.ClassFile.FieldType.int)).before args0 about1 = true := code_word (m := ⟨13, 1⟩) (meth := k13m1) (c := k13c1) (by decide +kernel) rfl rfl rfl (by decide +kernel)
set_option maxRecDepth 65536 in
theorem w_c26 : (Jvm.Cond.code ({ cls := "java/lang/String", name := "<init>", desc := "([BB)V" } : Jvm.MethodName) jdk_42_method_151_code (3 : Nat) (Option.none : Option Jvm.ClassFile.FieldType)).before args0 about1 = true := code_word (m := ⟨7, 7⟩) (meth := k7m7) (c := k7c7) (by decide +kernel) rfl rfl rfl (by decide +kernel)
def codes1 : List Jvm.Cond := [Jvm.Cond.code x code maxLocals ret, Jvm.Cond.code ({ cls := "com/example/tributary/tributary/DecimalsStripLeadingZerosPinLaw", name := "ch", desc := "(I)C" } : Jvm.MethodName) method_2_code (1 : Nat) (Option.some Jvm.ClassFile.FieldType.char), Jvm.Cond.code ({ cls := "java/lang/String", name := "<init>", desc := "([C)V" } : Jvm.MethodName) jdk_42_method_3_code (2 : Nat) (Option.none : Option Jvm.ClassFile.FieldType), Jvm.Cond.code ({ cls := "java/lang/String", name := "<init>", desc := "([CIILjava/lang/Void;)V" } : Jvm.MethodName) jdk_42_method_149_code (6 : Nat) (Option.none : Option Jvm.ClassFile.FieldType), Jvm.Cond.code ({ cls := "java/lang/Object", name := "<init>", desc := "()V" } : Jvm.MethodName) object_method_1_code (1 : Nat) (Option.none : Option Jvm.ClassFile.FieldType), Jvm.Cond.code ({ cls := "com/example/tributary/tributary/Decimals", name := "stripLeadingZeros", desc := "(Ljava/lang/String;)Ljava/lang/String;" } : Jvm.MethodName) prog_2_method_7_code (2 : Nat) (Option.some (Jvm.ClassFile.FieldType.object "java/lang/String")), Jvm.Cond.code ({ cls := "java/lang/String", name := "length", desc := "()I" } : Jvm.MethodName) jdk_42_method_54_code (1 : Nat) (Option.some Jvm.ClassFile.FieldType.int), Jvm.Cond.code ({ cls := "java/lang/String", name := "coder", desc := "()B" } : Jvm.MethodName) jdk_42_method_152_code (1 : Nat) (Option.some Jvm.ClassFile.FieldType.byte), Jvm.Cond.code ({ cls := "java/lang/String", name := "substring", desc := "(I)Ljava/lang/String;" } : Jvm.MethodName) jdk_42_method_91_code (2 : Nat) (Option.some (Jvm.ClassFile.FieldType.object "java/lang/String")), Jvm.Cond.code ({ cls := "java/lang/String", name := "substring", desc := "(II)Ljava/lang/String;" } : Jvm.MethodName) jdk_42_method_92_code (5 : Nat) (Option.some (Jvm.ClassFile.FieldType.object "java/lang/String")), Jvm.Cond.code ({ cls := "java/lang/String", name := "checkBoundsBeginEnd", desc := "(III)V" } : Jvm.MethodName) jdk_42_method_158_code (3 : Nat) (Option.none : Option Jvm.ClassFile.FieldType), Jvm.Cond.code ({ cls := "jdk/internal/util/Preconditions", name := "checkFromToIndex", desc := "(IIILjava/util/function/BiFunction;)I" } : Jvm.MethodName) jdk_41_method_12_code (4 : Nat) (Option.some Jvm.ClassFile.FieldType.int), Jvm.Cond.code ({ cls := "com/example/tributary/tributary/DecimalsStripLeadingZerosPinLaw", name := "at", desc := "(Ljava/lang/String;[CIII)Z" } : Jvm.MethodName) method_3_code (5 : Nat) (Option.some Jvm.ClassFile.FieldType.boolean), Jvm.Cond.code ({ cls := "java/lang/StringUTF16", name := "compress", desc := "([CII)[B" } : Jvm.MethodName) jdk_52_method_16_code (6 : Nat) (Option.some (Jvm.ClassFile.FieldType.array Jvm.ClassFile.FieldType.byte)), Jvm.Cond.code ({ cls := "java/lang/StringUTF16", name := "compress", desc := "([CI[BII)I" } : Jvm.MethodName) jdk_52_method_21_code (7 : Nat) (Option.some Jvm.ClassFile.FieldType.int), Jvm.Cond.code ({ cls := "java/lang/StringUTF16", name := "coderFromArrayLen", desc := "([BI)B" } : Jvm.MethodName) jdk_52_method_15_code (2 : Nat) (Option.some Jvm.ClassFile.FieldType.byte), Jvm.Cond.code ({ cls := "java/lang/String", name := "charAt", desc := "(I)C" } : Jvm.MethodName) jdk_42_method_56_code (2 : Nat) (Option.some Jvm.ClassFile.FieldType.char), Jvm.Cond.code ({ cls := "java/lang/String", name := "isLatin1", desc := "()Z" } : Jvm.MethodName) jdk_42_method_154_code (1 : Nat) (Option.some Jvm.ClassFile.FieldType.boolean), Jvm.Cond.code ({ cls := "java/lang/StringLatin1", name := "charAt", desc := "([BI)C" } : Jvm.MethodName) jdk_43_method_2_code (2 : Nat) (Option.some Jvm.ClassFile.FieldType.char), Jvm.Cond.code ({ cls := "java/lang/String", name := "checkIndex", desc := "(II)V" } : Jvm.MethodName) jdk_42_method_155_code (2 : Nat) (Option.none : Option Jvm.ClassFile.FieldType), Jvm.Cond.code ({ cls := "jdk/internal/util/Preconditions", name := "checkIndex", desc := "(IILjava/util/function/BiFunction;)I" } : Jvm.MethodName) jdk_41_method_11_code (3 : Nat) (Option.some Jvm.ClassFile.FieldType.int), Jvm.Cond.code ({ cls := "java/lang/StringLatin1", name := "newString", desc := "([BII)Ljava/lang/String;" } : Jvm.MethodName) jdk_43_method_47_code (3 : Nat) (Option.some (Jvm.ClassFile.FieldType.object "java/lang/String")), Jvm.Cond.code ({ cls := "java/util/Arrays", name := "copyOfRange", desc := "([BII)[B" } : Jvm.MethodName) jdk_65_method_132_code (3 : Nat) (Option.some (Jvm.ClassFile.FieldType.array Jvm.ClassFile.FieldType.byte)), Jvm.Cond.code ({ cls := "java/util/Arrays", name := "copyOfRangeByte", desc := "([BII)[B" } : Jvm.MethodName) jdk_65_method_133_code (5 : Nat) (Option.some (Jvm.ClassFile.FieldType.array Jvm.ClassFile.FieldType.byte)), Jvm.Cond.code ({ cls := "java/util/Arrays", name := "checkLength", desc := "(II)V" } : Jvm.MethodName) jdk_65_method_131_code (2 : Nat) (Option.none : Option Jvm.ClassFile.FieldType), Jvm.Cond.code ({ cls := "java/lang/Math", name := "min", desc := "(II)I" } : Jvm.MethodName) jdk_29_method_69_code (2 : Nat) (Option.some Jvm.ClassFile.FieldType.int), Jvm.Cond.code ({ cls := "java/lang/String", name := "<init>", desc := "([BB)V" } : Jvm.MethodName) jdk_42_method_151_code (3 : Nat) (Option.none : Option Jvm.ClassFile.FieldType)]
set_option maxRecDepth 65536 in
theorem codes_eq : words1.filter isCode = codes1 := rfl
theorem w_codes : ∀ c ∈ words1.filter isCode, c.before args0 about1 = true := by
  rw [codes_eq]
  intro c hc
  simp only [codes1, List.mem_cons, List.not_mem_nil, or_false] at hc
  rcases hc with rfl | rfl | rfl | rfl | rfl | rfl | rfl | rfl | rfl | rfl | rfl | rfl | rfl | rfl | rfl | rfl | rfl | rfl | rfl | rfl | rfl | rfl | rfl | rfl | rfl | rfl | rfl
  · exact w_c0
  · exact w_c1
  · exact w_c2
  · exact w_c3
  · exact w_c4
  · exact w_c5
  · exact w_c6
  · exact w_c7
  · exact w_c8
  · exact w_c9
  · exact w_c10
  · exact w_c11
  · exact w_c12
  · exact w_c13
  · exact w_c14
  · exact w_c15
  · exact w_c16
  · exact w_c17
  · exact w_c18
  · exact w_c19
  · exact w_c20
  · exact w_c21
  · exact w_c22
  · exact w_c23
  · exact w_c24
  · exact w_c25
  · exact w_c26
set_option maxRecDepth 65536 in
theorem w_t1 : (words1.take 24).all (fun c => isCode c || c.before args0 about1) = true := by decide +kernel
set_option maxRecDepth 65536 in
theorem w_t2 : ((words1.drop 24).take 24).all (fun c => isCode c || c.before args0 about1) = true := by decide +kernel
set_option maxRecDepth 65536 in
theorem w_t3 : (((words1.drop 24).drop 24).take 24).all (fun c => isCode c || c.before args0 about1) = true := by decide +kernel
set_option maxRecDepth 65536 in
theorem w_t4 : ((((words1.drop 24).drop 24).drop 24).take 24).all (fun c => isCode c || c.before args0 about1) = true := by decide +kernel
set_option maxRecDepth 65536 in
theorem w_t5 : (((((words1.drop 24).drop 24).drop 24).drop 24).take 24).all (fun c => isCode c || c.before args0 about1) = true := by decide +kernel
set_option maxRecDepth 65536 in
theorem w_t6 : (((((words1.drop 24).drop 24).drop 24).drop 24).drop 24).all (fun c => isCode c || c.before args0 about1) = true := by decide +kernel
theorem w_tables : (allAtoms (Jvm.Cond.code x code maxLocals ret :: tables_1)).before args0 about1 = true := by
  rw [allAtoms_all]
  show words1.all (fun c => c.before args0 about1) = true
  refine all_split ?_ w_codes
  rw [← List.take_append_drop 24 words1, List.all_append, w_t1, ← List.take_append_drop 24 (words1.drop 24), List.all_append, w_t2, ← List.take_append_drop 24 ((words1.drop 24).drop 24), List.all_append, w_t3, ← List.take_append_drop 24 (((words1.drop 24).drop 24).drop 24), List.all_append, w_t4, ← List.take_append_drop 24 ((((words1.drop 24).drop 24).drop 24).drop 24), List.all_append, w_t5, w_t6]
  rfl
set_option maxRecDepth 65536 in
theorem w_rest : rest_1_c.before args0 about1 = true := by decide +kernel
set_option maxRecDepth 65536 in
theorem w_case : (Jvm.Cond.and given_1 narrow_1).before args0 about1 = true := by decide +kernel
set_option maxRecDepth 65536 in
theorem w_consts : constsHeld consts_1 about1 := Jvm.Lit.constsHeldB_iff.mp (by decide +kernel)
theorem w_applies : (headSpec (Jvm.Cond.code x code maxLocals ret :: tables_1) room_1).applies x e0.platform about1 = true :=
  (Spec.applies_iff w_frames).mpr ⟨w_running, w_runnable, w_alone, w_named, w_hears, w_ripe, w_room, w_tables⟩
theorem atStart : AtStart classFile x code maxLocals ret World_1 tables_1 room_1 Calls_1 rest_1 Pre_1 launch0 p0 e0 about1 theMethod args0 below0 :=
  ⟨lists_1, trivial, launch0.admits_env _ _ _, launch0.least_env, fairChoices_fair.cas, fairChoices_fair.clock, w_frames, w_args, w_heap, w_applies, ⟨w_consts, trivial⟩, w_rest, w_case⟩
end start1
theorem witness_1 : WitnessClaimed_1 := ⟨start1.p0, start1.e0, start1.about1, start1.theMethod, start1.args0, start1.below0, start1.atStart⟩
end Jvm.Pilot.@@N@@
