import JvmDerived
import JvmDerived.Pilot.@@N@@Statement
import JvmDerived.Pilot.@@N@@Code
set_option linter.unusedVariables false
set_option linter.unusedSimpArgs false
namespace Jvm.OwnGo
open Sem ClassFile Op Lib Jvm.Stand Jvm.Free Jvm.LawKit Jvm.RoadKit Bundle
section OwnFacts
variable {Z : State} {h h' : Heap} {a b t : Addr} {C n d : String} {v w : Value} {ws : List Addr} {bo : Bool} {ka kb : ClassId} {ty : FieldType} {z : Int32} {vs : List Value} {dv : Value} {cs : List Int32} {sl : Nat}
theorem Sta_keep (F : Sta Z h C n d v) (K : Keep h h' []) : Sta Z h' C n d v := by
  obtain ⟨cf, i, k, f, st, cell, h1, h2, h3, h4, h5, h6, h7⟩ := F
  exact ⟨cf, i, k, f, st, cell, h1, h2, h3, h4, K.2.1 _ _ h5 nin0, h6, h7⟩
theorem Ins_keep (F : Ins Z h a C bo) (K : Keep h h' ws) : Ins Z h' a C bo := by
  obtain ⟨cell, cT, h1, h2, h3⟩ := F
  obtain ⟨c', q, r1, r2, r3⟩ := K.2.2 a cell h1
  exact ⟨c', cT, q, h2, by rw [r1, r2]; exact h3⟩
theorem own_sto {y : Addr} (F : Arv Z h a ka ty z vs dv) (O : Ovr Z ka C) (I : Ins Z h y C true) : Sto Z h a (.ref y) := by
  obtain ⟨cl, A, q, -⟩ := F
  exact Sto.ofV A q O I
theorem Sta_keepE (F : Sta Z h C n d v) (K : Keep h h' ws) (q : ∀ x ∈ ws, ∃ Cx, Exa Z h x Cx) : Sta Z h' C n d v := by
  obtain ⟨cf, i, k, f, st, cell, h1, h2, h3, h4, h5, h6, h7⟩ := F
  refine ⟨cf, i, k, f, st, cell, h1, h2, h3, h4, K.2.1 _ _ h5 (fun hm => ?_), h6, h7⟩
  obtain ⟨Cx, c1, k1, e1, -, -, e4, -⟩ := q _ hm
  cases e1.symm.trans h5
  rw [e4] at h6; cases h6
theorem own_ne_arv {a0 : Array Value} {nk : Nat} (F : Exa Z h a C) (wi : (Cond.instantiable C nk).before a0 Z = true) (G : Arv Z h b ka ty z vs dv) : a ≠ b := by
  obtain ⟨cl, A, -⟩ := G
  exact ne_arr F wi A
/-- the String at a: one byte a char, its array at t -/
def Str (Z : State) (h : Heap) (a t : Addr) (kb : ClassId) (cs : List Int32) : Prop :=
  Exa Z h a "java/lang/String" ∧ Fld Z h a "java/lang/String" "coder" "B" (.int 0) ∧ Fld Z h a "java/lang/String" "value" "[B" (.ref t) ∧ Arv Z h t kb .byte (Int32.ofNat cs.length) ((cs.map fun c => c.toInt8.toInt32).map Value.int) (.int 0) ∧ cs.length ≤ 4000 ∧ ∀ c ∈ cs, ¬ c < 0 ∧ ¬ (255 : Int32) < c
theorem Str.keep (S : Str Z h a t kb cs) (K : Keep h h' ws) (q : a ∉ ws) (r : t ∉ ws) : Str Z h' a t kb cs := ⟨S.1.keep K, S.2.1.keep K q, S.2.2.1.keep K q, S.2.2.2.1.keep K r, S.2.2.2.2⟩
theorem Str.ext (S : Str Z h a t kb cs) (E : Ext h h') : Str Z h' a t kb cs := ⟨S.1.ext E, S.2.1.ext E, S.2.2.1.ext E, S.2.2.2.1.ext E, S.2.2.2.2⟩
theorem Str.other (S : Str Z h a t kb cs) (W : Wr h h' b sl v) (q : a ≠ b) (r : t ≠ b) : Str Z h' a t kb cs := ⟨S.1.wr W, S.2.1.other W (Or.inl q), S.2.2.1.other W (Or.inl q), S.2.2.2.1.other W r, S.2.2.2.2⟩
theorem Str.tlt (S : Str Z h a t kb cs) : t < h.size := S.2.2.2.1.lt
/-- C's chain of superclasses does not meet K, a class that can be made -/
theorem own_root {a0 : Array Value} {O K : String} {nk : Nat} (w : (Cond.noSuperclass O).before a0 Z = true) (wk : (Cond.instantiable K nk).before a0 Z = true) (hn : O ≠ K) : NS Z O K := by
  obtain ⟨c, k, h1, h2, h3, -, -⟩ := Cond.noSuperclass_spec w
  obtain ⟨t, kt, g1, -⟩ := Cond.instantiable_spec wk
  have ne := ids_ne h1 g1 hn
  refine ⟨c, t, h1, g1, fun fuel => ?_⟩
  cases fuel with
  | zero => rfl
  | succ f => simp [Vm.isSubclassAux, ne, h2, h3]
theorem own_no {a0 : Array Value} {C S K : String} {nk : Nat} (w : (Cond.superclass C S).before a0 Z = true) (wk : (Cond.instantiable K nk).before a0 Z = true) (n : NS Z C K) (hn : C ≠ K) : ∃ c t, Z.vm.findClass C = some c ∧ Z.vm.findClass K = some t ∧ Z.vm.assignable c t = false := by
  obtain ⟨c, t, h0, g0, n3⟩ := n
  obtain ⟨p, k, kp, h1, h2, h3, h4, h5, -, h7⟩ := Cond.superclass_spec h0 w
  obtain ⟨t', k', g1, g2, g3, g4, -⟩ := Cond.instantiable_spec wk
  cases g0.symm.trans g1
  have g5 : k'.isInterface = false := by
    cases hi : k'.isInterface <;> simp [hi] at g4 ⊢
  have ne := ids_ne h0 g0 hn
  refine ⟨c, t, h0, g0, ?_⟩
  show Z.vm.assignableAux (255 + 1) c t = false
  simp [Vm.assignableAux, ne, h2, g2, h5, g3, g5, Vm.isSubclass, n3]
/-- the boxes that stood before -/
def Box (Z : State) (h : Heap) (a : Addr) (K d : String) (z : Int32) (val : Int32 → Value) : Prop :=
  ∃ c : Cell, Arr Z h a c (.object K) ∧ c.slots.size = z.toNatClampNeg ∧ ¬ z < 0 ∧ ∀ j : Int32, ¬ (j < 0 ∨ c.slots.size ≤ j.toNatClampNeg) → ∃ b : Addr, c.slots[j.toNatClampNeg]? = some (.ref b) ∧ Exa Z h b K ∧ Fld Z h b K "value" d (val j)
theorem Box.start {K : String} {val : Int32 → Value} {c : Cell} (F : Bxs Z a c K d z val) : Box Z Z.heap a K d z val := ⟨c, F.1, F.2.1, F.2.2.1, F.2.2.2⟩
theorem Box.keep {K : String} {val : Int32 → Value} (F : Box Z h a K d z val) (Kp : Keep h h' []) : Box Z h' a K d z val := by
  obtain ⟨c, f1, f2, f3, f4⟩ := F
  refine ⟨c, ⟨Kp.2.1 _ _ f1.1 nin0, f1.2⟩, f2, f3, fun j hj => ?_⟩
  obtain ⟨b, q1, q2, q3⟩ := f4 j hj
  exact ⟨b, q1, q2.keep Kp, q3.keep Kp nin0⟩
end OwnFacts
end Jvm.OwnGo
namespace Jvm.OwnGo
open Sem ClassFile Op Lib Jvm.Stand Jvm.Free Jvm.LawKit Jvm.RoadKit Bundle
section OwnGo
variable {Z : State} {a0 : Array Value} {tb : List Jvm.Cond} {p : Program} {l : Launch} {e : Env} {R : Room} {s : State} {m : MethodId} {args : Array Value} {below : List Frame} {meth : Method} {c : Code} {own mname : String} {bytes : ByteArray} {maxL : Nat} {ret : Option FieldType} {n0 : Nat} {Q : Option Value → Heap → List Addr → Prop} {Q2 : Option Value → Heap → Prop} {fs : List Addr} {h : Heap} {k n : Nat} {pc : Nat} {Ls : Array Slot} {St : List Value}
/-- what is fixed in the walk of one body -/
def Cx (Z : State) (a0 : Array Value) (tb : List Jvm.Cond) (p : Program) (s : State) (m : MethodId) (meth : Method) (c : Code) (own mname : String) (bytes : ByteArray) (maxL : Nat) (ret : Option FieldType) (n0 : Nat) : Prop :=
  p.tables.exec = Jvm.exec ∧ Z.Warmed39 s.vm ∧ s.vm.findClass own = some m.cls ∧ c.code = bytes ∧ c.maxLocals = maxL ∧ meth.sig.returnType = ret ∧ meth.locks = false ∧ (∀ d ∈ tb, d.before a0 Z = true) ∧ meth.name = mname ∧ n0 ≤ s.heap.size
theorem Cx.hx (C : Cx Z a0 tb p s m meth c own mname bytes maxL ret n0) : p.tables.exec = Jvm.exec := C.1
theorem Cx.hZ (C : Cx Z a0 tb p s m meth c own mname bytes maxL ret n0) : Z.Warmed39 s.vm := C.2.1
theorem Cx.hown (C : Cx Z a0 tb p s m meth c own mname bytes maxL ret n0) : s.vm.findClass own = some m.cls := C.2.2.1
theorem Cx.hby (C : Cx Z a0 tb p s m meth c own mname bytes maxL ret n0) : c.code = bytes := C.2.2.2.1
theorem Cx.hml (C : Cx Z a0 tb p s m meth c own mname bytes maxL ret n0) : c.maxLocals = maxL := C.2.2.2.2.1
theorem Cx.hret (C : Cx Z a0 tb p s m meth c own mname bytes maxL ret n0) : meth.sig.returnType = ret := C.2.2.2.2.2.1
theorem Cx.hlk (C : Cx Z a0 tb p s m meth c own mname bytes maxL ret n0) : meth.locks = false := C.2.2.2.2.2.2.1
theorem Cx.hw (C : Cx Z a0 tb p s m meth c own mname bytes maxL ret n0) {d : Jvm.Cond} (hd : d ∈ tb) : d.before a0 Z = true := C.2.2.2.2.2.2.2.1 d hd
theorem Cx.hnm (C : Cx Z a0 tb p s m meth c own mname bytes maxL ret n0) : meth.name = mname := C.2.2.2.2.2.2.2.2.1
theorem Cx.hn0 (C : Cx Z a0 tb p s m meth c own mname bytes maxL ret n0) : n0 ≤ s.heap.size := C.2.2.2.2.2.2.2.2.2
/-- which new cells may be written -/
def Inv (n0 : Nat) (fs : List Addr) (h : Heap) : Prop := n0 ≤ h.size ∧ ∀ x ∈ fs, n0 ≤ x
theorem Inv.ext {h' : Heap} (I : Inv n0 fs h) (E : Ext h h') : Inv n0 fs h' := ⟨Nat.le_trans I.1 E.1, I.2⟩
theorem Inv.new {h' : Heap} (I : Inv n0 fs h) (E : Ext h h') (q : h.size < h'.size) : Inv n0 (h.size :: fs) h' := by
  refine ⟨Nat.le_trans I.1 E.1, fun x hx => ?_⟩
  rcases List.mem_cons.mp hx with rfl | hx
  · exact I.1
  · exact I.2 x hx
theorem Inv.wr {h' : Heap} {a : Addr} {sl : Nat} {v : Value} (I : Inv n0 fs h) (W : Wr h h' a sl v) (ha : a ∈ fs) : Inv n0 fs h' := ⟨by rw [W.size]; exact I.1, I.2⟩
theorem Inv.kept {h' : Heap} {a : Addr} (I : Inv n0 fs h) (K : Keep h h' [a]) (ha : a ∈ fs) : Inv n0 fs h' := ⟨Nat.le_trans I.1 K.1, I.2⟩
theorem Inv.ge {a : Addr} (I : Inv n0 fs h) (ha : a ∈ fs) : n0 ≤ a := I.2 a ha
theorem Inv.less {fs' : List Addr} (I : Inv n0 fs h) (q : ∀ x ∈ fs', x ∈ fs) : Inv n0 fs' h := ⟨I.1, fun x hx => I.2 x (q x hx)⟩
/-- a body that tells of no new cell that its caller may write -/
def nq (Q : Option Value → Heap → Prop) : Option Value → Heap → List Addr → Prop := fun v h ns => ns = [] ∧ Q v h
/-- from every state that stands at frame f over the heap h, the body ends well -/
def Go (p : Program) (l : Launch) (e : Env) (R : Room) (s : State) (m : MethodId) (args : Array Value) (below : List Frame) (meth : Method) (c : Code) (n0 : Nat) (Q : Option Value → Heap → List Addr → Prop) (fs : List Addr) (h : Heap) (k n : Nat) (f : JFrame) : Prop :=
  ∀ T locs, Stand p l e R s m args below meth c T locs k n → T.heap = h → Fr n0 locs → Inv n0 fs h →
    ∃ s₂ o, Steps p.tables e below (T.setTop f) s₂ ∧ s₂.status = .running ∧ Ended s₂ below o ∧ ∃ v L ns, o = .returned v ∧ (Q v s₂.heap ns ∧ Fr n0 L) ∧ (∀ x ∈ ns, n0 ≤ x) ∧ FrameEnd s o s₂ L R.cells R.slots
theorem Go.step {f f' : JFrame} (H : ∀ T : State, At T m c below → ∀ t, Steps p.tables e below (T.setTop f') t → Steps p.tables e below (T.setTop f) t) (K : Go p l e R s m args below meth c n0 Q fs h k n f') : Go p l e R s m args below meth c n0 Q fs h k n f := by
  intro T locs X eT N I
  obtain ⟨s2, o, st, r⟩ := K T locs X eT N I
  exact ⟨s2, o, H T X.here s2 st, r⟩
theorem Go.less {f : JFrame} {fs' : List Addr} (K : Go p l e R s m args below meth c n0 Q fs' h k n f) (q : ∀ x ∈ fs', x ∈ fs) : Go p l e R s m args below meth c n0 Q fs h k n f := by
  intro T locs X eT N I
  exact K T locs X eT N (I.less q)
theorem Go.size {f : JFrame} (K : n0 ≤ h.size → Go p l e R s m args below meth c n0 Q fs h k n f) : Go p l e R s m args below meth c n0 Q fs h k n f := by
  intro T locs X eT N I
  exact K I.1 T locs X eT N I
theorem Go.ge {f : JFrame} {a : Addr} (ha : a ∈ fs) (K : n0 ≤ a → Go p l e R s m args below meth c n0 Q fs h k n f) : Go p l e R s m args below meth c n0 Q fs h k n f := by
  intro T locs X eT N I
  exact K (I.ge ha) T locs X eT N I
theorem g_iload (C : Cx Z a0 tb p s m meth c own mname bytes maxL ret n0) {j : Nat} {z : Int32} (hd : decode bytes pc = .ok (.iload j, 2)) (hl : Ls[j]? = some (.val (.int z))) (K : Go p l e R s m args below meth c n0 Q fs h k n (mkF m (pc + 2) Ls (.int z :: St))) : Go p l e R s m args below meth c n0 Q fs h k n (mkF m pc Ls (St)) :=
  Go.step (fun T A t st => XS.iload A C.hx rfl (hb C.hby hd) hl st) K
theorem g_iloadN (C : Cx Z a0 tb p s m meth c own mname bytes maxL ret n0) {j : Fin 4} {z : Int32} (hd : decode bytes pc = .ok (.iload_n j, 1)) (hl : Ls[j.val]? = some (.val (.int z))) (K : Go p l e R s m args below meth c n0 Q fs h k n (mkF m (pc + 1) Ls (.int z :: St))) : Go p l e R s m args below meth c n0 Q fs h k n (mkF m pc Ls (St)) :=
  Go.step (fun T A t st => XS.iloadN A C.hx rfl (hb C.hby hd) hl st) K
theorem g_aload (C : Cx Z a0 tb p s m meth c own mname bytes maxL ret n0) {j : Nat} {v : Value} (hd : decode bytes pc = .ok (.aload j, 2)) (hl : Ls[j]? = some (.val v)) (hv : v.isRef = true) (K : Go p l e R s m args below meth c n0 Q fs h k n (mkF m (pc + 2) Ls (v :: St))) : Go p l e R s m args below meth c n0 Q fs h k n (mkF m pc Ls (St)) :=
  Go.step (fun T A t st => XS.aload A C.hx rfl (hb C.hby hd) hl hv st) K
theorem g_aloadN (C : Cx Z a0 tb p s m meth c own mname bytes maxL ret n0) {j : Fin 4} {v : Value} (hd : decode bytes pc = .ok (.aload_n j, 1)) (hl : Ls[j.val]? = some (.val v)) (hv : v.isRef = true) (K : Go p l e R s m args below meth c n0 Q fs h k n (mkF m (pc + 1) Ls (v :: St))) : Go p l e R s m args below meth c n0 Q fs h k n (mkF m pc Ls (St)) :=
  Go.step (fun T A t st => XS.aloadN A C.hx rfl (hb C.hby hd) hl hv st) K
theorem g_istore (C : Cx Z a0 tb p s m meth c own mname bytes maxL ret n0) {j : Nat} {z : Int32} (l' : Array Slot) (hd : decode bytes pc = .ok (.istore j, 2)) (hl : storeLocals Ls j (.int z) = some l') (K : Go p l e R s m args below meth c n0 Q fs h k n (mkF m (pc + 2) l' St)) : Go p l e R s m args below meth c n0 Q fs h k n (mkF m pc Ls (.int z :: St)) :=
  Go.step (fun T A t st => XS.istore A C.hx rfl (hb C.hby hd) rfl hl st) K
theorem g_istoreN (C : Cx Z a0 tb p s m meth c own mname bytes maxL ret n0) {j : Fin 4} {z : Int32} (l' : Array Slot) (hd : decode bytes pc = .ok (.istore_n j, 1)) (hl : storeLocals Ls j.val (.int z) = some l') (K : Go p l e R s m args below meth c n0 Q fs h k n (mkF m (pc + 1) l' St)) : Go p l e R s m args below meth c n0 Q fs h k n (mkF m pc Ls (.int z :: St)) :=
  Go.step (fun T A t st => XS.istoreN A C.hx rfl (hb C.hby hd) rfl hl st) K
theorem g_astore (C : Cx Z a0 tb p s m meth c own mname bytes maxL ret n0) {j : Nat} {v : Value} (l' : Array Slot) (hd : decode bytes pc = .ok (.astore j, 2)) (hv : v.isRef = true) (hl : storeLocals Ls j v = some l') (K : Go p l e R s m args below meth c n0 Q fs h k n (mkF m (pc + 2) l' St)) : Go p l e R s m args below meth c n0 Q fs h k n (mkF m pc Ls (v :: St)) :=
  Go.step (fun T A t st => XS.astore A C.hx rfl (hb C.hby hd) rfl hv hl st) K
theorem g_iconst (C : Cx Z a0 tb p s m meth c own mname bytes maxL ret n0) {i : Int} (z : Int32) (hd : decode bytes pc = .ok (.iconst i, 1)) (hz : Int32.ofInt i = z) (K : Go p l e R s m args below meth c n0 Q fs h k n (mkF m (pc + 1) Ls (.int z :: St))) : Go p l e R s m args below meth c n0 Q fs h k n (mkF m pc Ls (St)) :=
  Go.step (fun T A t st => XS.iconst A C.hx rfl (hb C.hby hd) (hz ▸ st)) K
theorem g_bipush (C : Cx Z a0 tb p s m meth c own mname bytes maxL ret n0) {i : Int} (z : Int32) (hd : decode bytes pc = .ok (.bipush i, 2)) (hz : (Int8.ofInt i).toInt32 = z) (K : Go p l e R s m args below meth c n0 Q fs h k n (mkF m (pc + 2) Ls (.int z :: St))) : Go p l e R s m args below meth c n0 Q fs h k n (mkF m pc Ls (St)) :=
  Go.step (fun T A t st => XS.bipush A C.hx rfl (hb C.hby hd) (hz ▸ st)) K
theorem g_iadd (C : Cx Z a0 tb p s m meth c own mname bytes maxL ret n0) {x y : Int32} (hd : decode bytes pc = .ok (.iadd, 1))  (K : Go p l e R s m args below meth c n0 Q fs h k n (mkF m (pc + 1) Ls (.int (x + y) :: St))) : Go p l e R s m args below meth c n0 Q fs h k n (mkF m pc Ls (.int y :: .int x :: St)) :=
  Go.step (fun T A t st => XS.iadd A C.hx rfl (hb C.hby hd) rfl st) K
theorem g_isub (C : Cx Z a0 tb p s m meth c own mname bytes maxL ret n0) {x y : Int32} (hd : decode bytes pc = .ok (.isub, 1))  (K : Go p l e R s m args below meth c n0 Q fs h k n (mkF m (pc + 1) Ls (.int (x - y) :: St))) : Go p l e R s m args below meth c n0 Q fs h k n (mkF m pc Ls (.int y :: .int x :: St)) :=
  Go.step (fun T A t st => XS.isub A C.hx rfl (hb C.hby hd) rfl st) K
theorem g_imul (C : Cx Z a0 tb p s m meth c own mname bytes maxL ret n0) {x y : Int32} (hd : decode bytes pc = .ok (.imul, 1))  (K : Go p l e R s m args below meth c n0 Q fs h k n (mkF m (pc + 1) Ls (.int (x * y) :: St))) : Go p l e R s m args below meth c n0 Q fs h k n (mkF m pc Ls (.int y :: .int x :: St)) :=
  Go.step (fun T A t st => XS.imul A C.hx rfl (hb C.hby hd) rfl st) K
theorem g_iand (C : Cx Z a0 tb p s m meth c own mname bytes maxL ret n0) {x y : Int32} (hd : decode bytes pc = .ok (.iand, 1))  (K : Go p l e R s m args below meth c n0 Q fs h k n (mkF m (pc + 1) Ls (.int (x &&& y) :: St))) : Go p l e R s m args below meth c n0 Q fs h k n (mkF m pc Ls (.int y :: .int x :: St)) :=
  Go.step (fun T A t st => XS.iand A C.hx rfl (hb C.hby hd) rfl st) K
theorem g_ixor (C : Cx Z a0 tb p s m meth c own mname bytes maxL ret n0) {x y : Int32} (hd : decode bytes pc = .ok (.ixor, 1))  (K : Go p l e R s m args below meth c n0 Q fs h k n (mkF m (pc + 1) Ls (.int (x ^^^ y) :: St))) : Go p l e R s m args below meth c n0 Q fs h k n (mkF m pc Ls (.int y :: .int x :: St)) :=
  Go.step (fun T A t st => XS.ixor A C.hx rfl (hb C.hby hd) rfl st) K
theorem g_ishr (C : Cx Z a0 tb p s m meth c own mname bytes maxL ret n0) {x y : Int32} (hd : decode bytes pc = .ok (.ishr, 1))  (K : Go p l e R s m args below meth c n0 Q fs h k n (mkF m (pc + 1) Ls (.int (x >>> (y &&& 31)) :: St))) : Go p l e R s m args below meth c n0 Q fs h k n (mkF m pc Ls (.int y :: .int x :: St)) :=
  Go.step (fun T A t st => XS.ishr A C.hx rfl (hb C.hby hd) rfl st) K
theorem g_idiv (C : Cx Z a0 tb p s m meth c own mname bytes maxL ret n0) {x y : Int32} (hd : decode bytes pc = .ok (.idiv, 1)) (hy : y ≠ 0) (K : Go p l e R s m args below meth c n0 Q fs h k n (mkF m (pc + 1) Ls (.int (x / y) :: St))) : Go p l e R s m args below meth c n0 Q fs h k n (mkF m pc Ls (.int y :: .int x :: St)) :=
  Go.step (fun T A t st => XS.idiv A C.hx rfl (hb C.hby hd) rfl hy st) K
theorem g_irem (C : Cx Z a0 tb p s m meth c own mname bytes maxL ret n0) {x y : Int32} (hd : decode bytes pc = .ok (.irem, 1)) (hy : y ≠ 0) (K : Go p l e R s m args below meth c n0 Q fs h k n (mkF m (pc + 1) Ls (.int (x % y) :: St))) : Go p l e R s m args below meth c n0 Q fs h k n (mkF m pc Ls (.int y :: .int x :: St)) :=
  Go.step (fun T A t st => XS.irem A C.hx rfl (hb C.hby hd) rfl hy (by rw [irem_eq_mod]; exact st)) K
theorem g_dup (C : Cx Z a0 tb p s m meth c own mname bytes maxL ret n0) {v : Value} (hd : decode bytes pc = .ok (.dup, 1)) (hc : v.category = 1) (K : Go p l e R s m args below meth c n0 Q fs h k n (mkF m (pc + 1) Ls (v :: v :: St))) : Go p l e R s m args below meth c n0 Q fs h k n (mkF m pc Ls (v :: St)) :=
  Go.step (fun T A t st => XS.dup A C.hx rfl (hb C.hby hd) rfl hc st) K
theorem g_dload (C : Cx Z a0 tb p s m meth c own mname bytes maxL ret n0) {j : Nat} {z : UInt64} (hd : decode bytes pc = .ok (.dload j, 2)) (hl : Ls[j]? = some (.val (.double z))) (K : Go p l e R s m args below meth c n0 Q fs h k n (mkF m (pc + 2) Ls (.double z :: St))) : Go p l e R s m args below meth c n0 Q fs h k n (mkF m pc Ls (St)) :=
  Go.step (fun T A t st => XS.dload A C.hx rfl (hb C.hby hd) hl st) K
theorem g_dloadN (C : Cx Z a0 tb p s m meth c own mname bytes maxL ret n0) {j : Fin 4} {z : UInt64} (hd : decode bytes pc = .ok (.dload_n j, 1)) (hl : Ls[j.val]? = some (.val (.double z))) (K : Go p l e R s m args below meth c n0 Q fs h k n (mkF m (pc + 1) Ls (.double z :: St))) : Go p l e R s m args below meth c n0 Q fs h k n (mkF m pc Ls (St)) :=
  Go.step (fun T A t st => XS.dloadN A C.hx rfl (hb C.hby hd) hl st) K
theorem g_dstore (C : Cx Z a0 tb p s m meth c own mname bytes maxL ret n0) {j : Nat} {z : UInt64} (l' : Array Slot) (hd : decode bytes pc = .ok (.dstore j, 2)) (hl : storeLocals Ls j (.double z) = some l') (K : Go p l e R s m args below meth c n0 Q fs h k n (mkF m (pc + 2) l' St)) : Go p l e R s m args below meth c n0 Q fs h k n (mkF m pc Ls (.double z :: St)) :=
  Go.step (fun T A t st => XS.dstore A C.hx rfl (hb C.hby hd) rfl hl st) K
theorem g_i2d (C : Cx Z a0 tb p s m meth c own mname bytes maxL ret n0) {x : Int32} (hd : decode bytes pc = .ok (.i2d, 1))  (K : Go p l e R s m args below meth c n0 Q fs h k n (mkF m (pc + 1) Ls (.double (FP.i2d x) :: St))) : Go p l e R s m args below meth c n0 Q fs h k n (mkF m pc Ls (.int x :: St)) :=
  Go.step (fun T A t st => XS.i2dS A C.hx rfl (hb C.hby hd) rfl rfl st) K
theorem g_dcmp (C : Cx Z a0 tb p s m meth c own mname bytes maxL ret n0) {o : CmpOp} {x y : UInt64} (hd : decode bytes pc = .ok (.dcmp o, 1))  (K : Go p l e R s m args below meth c n0 Q fs h k n (mkF m (pc + 1) Ls (.int (cmpValue (FP.dcmp x y) o) :: St))) : Go p l e R s m args below meth c n0 Q fs h k n (mkF m pc Ls (.double y :: .double x :: St)) :=
  Go.step (fun T A t st => XS.dcmpS A C.hx rfl (hb C.hby hd) rfl rfl st) K
theorem g_goto (C : Cx Z a0 tb p s m meth c own mname bytes maxL ret n0)  {o : Int} (pc' : Nat) (hd : decode bytes pc = .ok (.goto o, 3))  (ho : 0 ≤ (pc : Int) + o) (hp : ((pc : Int) + o).toNat = pc') (K : Go p l e R s m args below meth c n0 Q fs h k n (mkF m pc' Ls St)) : Go p l e R s m args below meth c n0 Q fs h k n (mkF m pc Ls (St)) :=
  Go.step (fun T A t st => XS.goto A C.hx rfl rfl (hb C.hby hd) ho hp st) K
theorem g_if_t (C : Cx Z a0 tb p s m meth c own mname bytes maxL ret n0) {cd : ClassFile.Cond} {x : Int32} {o : Int} (pc' : Nat) (hd : decode bytes pc = .ok (.ifCond cd o, 3)) (hc : ifCond.holds cd x = true) (ho : 0 ≤ (pc : Int) + o) (hp : ((pc : Int) + o).toNat = pc') (K : Go p l e R s m args below meth c n0 Q fs h k n (mkF m pc' Ls St)) : Go p l e R s m args below meth c n0 Q fs h k n (mkF m pc Ls (.int x :: St)) :=
  Go.step (fun T A t st => XS.ifYes A C.hx rfl rfl (hb C.hby hd) rfl hc ho hp st) K
theorem g_icmp_t (C : Cx Z a0 tb p s m meth c own mname bytes maxL ret n0) {cd : ClassFile.Cond} {x y : Int32} {o : Int} (pc' : Nat) (hd : decode bytes pc = .ok (.if_icmp cd o, 3)) (hc : if_icmp.holds cd x y = true) (ho : 0 ≤ (pc : Int) + o) (hp : ((pc : Int) + o).toNat = pc') (K : Go p l e R s m args below meth c n0 Q fs h k n (mkF m pc' Ls St)) : Go p l e R s m args below meth c n0 Q fs h k n (mkF m pc Ls (.int y :: .int x :: St)) :=
  Go.step (fun T A t st => XS.icmpYes A C.hx rfl rfl (hb C.hby hd) rfl hc ho hp st) K
theorem g_if_f (C : Cx Z a0 tb p s m meth c own mname bytes maxL ret n0) {cd : ClassFile.Cond} {x : Int32} {o : Int} (hd : decode bytes pc = .ok (.ifCond cd o, 3)) (hc : ifCond.holds cd x = false) (K : Go p l e R s m args below meth c n0 Q fs h k n (mkF m (pc + 3) Ls St)) : Go p l e R s m args below meth c n0 Q fs h k n (mkF m pc Ls (.int x :: St)) :=
  Go.step (fun T A t st => XS.ifNo A C.hx rfl (hb C.hby hd) rfl hc st) K
theorem g_icmp_f (C : Cx Z a0 tb p s m meth c own mname bytes maxL ret n0) {cd : ClassFile.Cond} {x y : Int32} {o : Int} (hd : decode bytes pc = .ok (.if_icmp cd o, 3)) (hc : if_icmp.holds cd x y = false) (K : Go p l e R s m args below meth c n0 Q fs h k n (mkF m (pc + 3) Ls St)) : Go p l e R s m args below meth c n0 Q fs h k n (mkF m pc Ls (.int y :: .int x :: St)) :=
  Go.step (fun T A t st => XS.icmpNo A C.hx rfl (hb C.hby hd) rfl hc st) K
theorem g_ldcI (C : Cx Z a0 tb p s m meth c own mname bytes maxL ret n0) {index : Nat} {z : Int32} (w : Jvm.Cond.constant own index z ∈ tb) (hd : decode bytes pc = .ok (.ldc index, 2)) (K : Go p l e R s m args below meth c n0 Q fs h k n (mkF m (pc + 2) Ls (.int z :: St))) : Go p l e R s m args below meth c n0 Q fs h k n (mkF m pc Ls St) := by
  intro T locs X eT N I
  have hZ := C.hZ
  have hown := C.hown
  obtain ⟨s2, o, st, r⟩ := K T locs X eT N I
  exact ⟨s2, o, X.ldcInt C.hx hown (mvT hZ (C.hw w)) (g := mkF m pc Ls St) rfl (hb C.hby hd) s2 st, r⟩
theorem g_new (C : Cx Z a0 tb p s m meth c own mname bytes maxL ret n0) {index ns : Nat} {Cn : String} (w : Jvm.Cond.classLink own index Cn ∈ tb) (wi : Jvm.Cond.instantiable Cn ns ∈ tb) (wz : Jvm.Cond.initialized Cn ∈ tb) (hd : decode bytes pc = .ok (.new index, 3)) (hc : k + 1 ≤ R.cells) (hl : n + ns ≤ R.slots)
    (K : ∀ a h', a = h.size → Ext h h' → Exa Z h' a Cn → (∀ {O nm d : String} {ty : FieldType}, Laid Z a0 Cn O nm d → parseFieldDescriptor d = some ty → Fld Z h' a O nm d (defaultValue ty)) → Go p l e R s m args below meth c n0 Q (a :: fs) h' (k + 1) (n + ns) (mkF m (pc + 3) Ls (.ref a :: St))) : Go p l e R s m args below meth c n0 Q fs h k n (mkF m pc Ls St) := by
  intro T locs X eT N I
  have hZ := C.hZ
  have hown := C.hown
  obtain ⟨T', h', X', e', E', A', D', -, st⟩ := newO X C.hx hZ hown (C.hw w) (C.hw wi) (C.hw wz) eT (g := mkF m pc Ls St) rfl (hb C.hby hd) hc hl
  obtain ⟨s2, o, st2, r⟩ := K h.size h' rfl E' A' D' T' locs X' e' N (I.new E' A'.lt)
  exact ⟨s2, o, st _ st2, r⟩
theorem g_newarray (C : Cx Z a0 tb p s m meth c own mname bytes maxL ret n0) {aty : ArrayType} {z : Int32} (w : Jvm.Cond.arrayClass (newarray.typeOf aty) ∈ tb) (hd : decode bytes pc = .ok (.newarray aty, 2)) (hz : ¬ z < 0) (cap : Nat) (hcap : z.toNatClampNeg ≤ cap) (hbig : cap * 8 ≤ 536870912) (hc : k + 1 ≤ R.cells) (hl : n + cap ≤ R.slots) (ad : String) (had : "[" ++ (newarray.typeOf aty).toString = ad)
    (K : ∀ a h' ka, a = h.size → Ext h h' → Arv Z h' a ka (newarray.typeOf aty) z [] (defaultValue (newarray.typeOf aty)) → Exa Z h' a ad → Go p l e R s m args below meth c n0 Q (a :: fs) h' (k + 1) (n + cap) (mkF m (pc + 2) Ls (.ref a :: St))) : Go p l e R s m args below meth c n0 Q fs h k n (mkF m pc Ls (.int z :: St)) := by
  intro T locs X eT N I
  have hZ := C.hZ
  have hown := C.hown
  obtain ⟨T', h', ka, X', e', E', A', Ex', st⟩ := newPE X C.hx hZ (C.hw w) eT (g := mkF m pc Ls (.int z :: St)) rfl (hb C.hby hd) rfl hz hcap hbig hc hl had
  obtain ⟨s2, o, st2, r⟩ := K h.size h' ka rfl E' (Arv.new A' hz) Ex' T' locs X' e' N (I.new E' A'.lt)
  exact ⟨s2, o, st _ st2, r⟩
theorem g_iastore (C : Cx Z a0 tb p s m meth c own mname bytes maxL ret n0) {a : Addr} {ka : ClassId} {z j : Int32} {x : Int32} {vs : List Value} {dv : Value} (F : Arv Z h a ka .int z vs dv) (ha : a ∈ fs) (hd : decode bytes pc = .ok (.iastore, 1)) (hj : ¬ j < 0 ∧ j < z) (i : Nat) (hi : j.toNatClampNeg = i) (hl : i < vs.length)
    (K : ∀ h', Wr h h' a j.toNatClampNeg (.int x) → Arv Z h' a ka .int z (vs.set i (.int x)) dv → Go p l e R s m args below meth c n0 Q fs h' k n (mkF m (pc + 1) Ls St)) : Go p l e R s m args below meth c n0 Q fs h k n (mkF m pc Ls (.int x :: .int j :: .ref a :: St)) := by
  intro T locs X eT N I
  have hZ := C.hZ
  have hown := C.hown
  obtain ⟨cl, A, q, S, Nn, H, G⟩ := F
  obtain ⟨T', h', X', e', W', st⟩ := stI X C.hx hZ eT A (j := j) (inb_of S hj) (g := mkF m pc Ls (.int x :: .int j :: .ref a :: St)) rfl rfl (hb C.hby hd)
  obtain ⟨s2, o, st2, r⟩ := K h' W' (Arv.set A q S Nn H G rfl W' i hi hl) T' _ X' e' (Fr.snoc X' N (I.ge ha)) (I.wr W' ha)
  exact ⟨s2, o, st _ st2, r⟩
theorem g_dastore (C : Cx Z a0 tb p s m meth c own mname bytes maxL ret n0) {a : Addr} {ka : ClassId} {z j : Int32} {x : UInt64} {vs : List Value} {dv : Value} (F : Arv Z h a ka .double z vs dv) (ha : a ∈ fs) (hd : decode bytes pc = .ok (.dastore, 1)) (hj : ¬ j < 0 ∧ j < z) (i : Nat) (hi : j.toNatClampNeg = i) (hl : i < vs.length)
    (K : ∀ h', Wr h h' a j.toNatClampNeg (.double x) → Arv Z h' a ka .double z (vs.set i (.double x)) dv → Go p l e R s m args below meth c n0 Q fs h' k n (mkF m (pc + 1) Ls St)) : Go p l e R s m args below meth c n0 Q fs h k n (mkF m pc Ls (.double x :: .int j :: .ref a :: St)) := by
  intro T locs X eT N I
  have hZ := C.hZ
  have hown := C.hown
  obtain ⟨cl, A, q, S, Nn, H, G⟩ := F
  obtain ⟨T', h', X', e', W', st⟩ := stD X C.hx hZ eT A (j := j) (inb_of S hj) (g := mkF m pc Ls (.double x :: .int j :: .ref a :: St)) rfl rfl (hb C.hby hd)
  obtain ⟨s2, o, st2, r⟩ := K h' W' (Arv.set A q S Nn H G rfl W' i hi hl) T' _ X' e' (Fr.snoc X' N (I.ge ha)) (I.wr W' ha)
  exact ⟨s2, o, st _ st2, r⟩
theorem g_iaload (C : Cx Z a0 tb p s m meth c own mname bytes maxL ret n0) {a : Addr} {ka : ClassId} {z j : Int32} {vs : List Value} {dv v : Value} (F : Arv Z h a ka .int z vs dv) (hd : decode bytes pc = .ok (.iaload, 1)) (hj : ¬ j < 0 ∧ j < z) (hv : vs.getD j.toNatClampNeg dv = v)
    (K : Go p l e R s m args below meth c n0 Q fs h k n (mkF m (pc + 1) Ls (v :: St))) : Go p l e R s m args below meth c n0 Q fs h k n (mkF m pc Ls (.int j :: .ref a :: St)) := by
  intro T locs X eT N I
  have hZ := C.hZ
  have hown := C.hown
  obtain ⟨cl, A, q, S, Nn, H, G⟩ := F
  obtain ⟨s2, o, st2, r⟩ := K T locs X eT N I
  exact ⟨s2, o, X.iaload C.hx (j := j) (v := v) (by rw [eT]; exact A.1) (State.isArrayOf_alike hZ.alike A.2.1) A.2.2 (inb_of S hj) (H.at (inb_of S hj) hv) (g := mkF m pc Ls (.int j :: .ref a :: St)) rfl rfl (hb C.hby hd) _ st2, r⟩
theorem g_daload (C : Cx Z a0 tb p s m meth c own mname bytes maxL ret n0) {a : Addr} {ka : ClassId} {z j : Int32} {vs : List Value} {dv v : Value} (F : Arv Z h a ka .double z vs dv) (hd : decode bytes pc = .ok (.daload, 1)) (hj : ¬ j < 0 ∧ j < z) (hv : vs.getD j.toNatClampNeg dv = v)
    (K : Go p l e R s m args below meth c n0 Q fs h k n (mkF m (pc + 1) Ls (v :: St))) : Go p l e R s m args below meth c n0 Q fs h k n (mkF m pc Ls (.int j :: .ref a :: St)) := by
  intro T locs X eT N I
  have hZ := C.hZ
  have hown := C.hown
  obtain ⟨cl, A, q, S, Nn, H, G⟩ := F
  obtain ⟨s2, o, st2, r⟩ := K T locs X eT N I
  exact ⟨s2, o, X.daload C.hx (j := j) (v := v) (by rw [eT]; exact A.1) (State.isArrayOf_alike hZ.alike A.2.1) A.2.2 (inb_of S hj) (H.at (inb_of S hj) hv) (g := mkF m pc Ls (.int j :: .ref a :: St)) rfl rfl (hb C.hby hd) _ st2, r⟩
theorem g_arraylength (C : Cx Z a0 tb p s m meth c own mname bytes maxL ret n0) {a : Addr} {ka : ClassId} {ty : FieldType} {z : Int32} {vs : List Value} {dv : Value} (F : Arv Z h a ka ty z vs dv) (hd : decode bytes pc = .ok (.arraylength, 1))
    (K : Go p l e R s m args below meth c n0 Q fs h k n (mkF m (pc + 1) Ls (.int z :: St))) : Go p l e R s m args below meth c n0 Q fs h k n (mkF m pc Ls (.ref a :: St)) := by
  intro T locs X eT N I
  have hZ := C.hZ
  have hown := C.hown
  obtain ⟨cl, A, q, S, Nn, H, G⟩ := F
  obtain ⟨s2, o, st2, r⟩ := K T locs X eT N I
  refine ⟨s2, o, X.arraylength C.hx (by rw [eT]; exact A.1) (State.isArrayOf_alike hZ.alike A.2.1) (g := mkF m pc Ls (.ref a :: St)) rfl rfl (hb C.hby hd) _ ?_, r⟩
  rw [len_of S Nn]; exact st2
theorem g_getfield (C : Cx Z a0 tb p s m meth c own mname bytes maxL ret n0) {index : Nat} {R0 O nm d : String} {a : Addr} {v : Value} (w : Jvm.Cond.fieldLink own index R0 nm d ∈ tb) (via : Via Z R0 O nm d) (F : Fld Z h a O nm d v) (hd : decode bytes pc = .ok (.getfield index, 3))
    (K : Go p l e R s m args below meth c n0 Q fs h k n (mkF m (pc + 3) Ls (v :: St))) : Go p l e R s m args below meth c n0 Q fs h k n (mkF m pc Ls (.ref a :: St)) := by
  intro T locs X eT N I
  have hZ := C.hZ
  have hown := C.hown
  obtain ⟨T', X', e', st⟩ := getF X C.hx hZ hown (host := "") (Or.inl (C.hw w)) via eT F (g := mkF m pc Ls (.ref a :: St)) rfl rfl (hb C.hby hd)
  obtain ⟨s2, o, st2, r⟩ := K T' locs X' e' N I
  exact ⟨s2, o, st _ st2, r⟩
theorem g_putfield (C : Cx Z a0 tb p s m meth c own mname bytes maxL ret n0) {index kk : Nat} {R0 O nm d Cn : String} {a : Addr} {v old : Value} (ty : FieldType) (w : Jvm.Cond.fieldLink own index R0 nm d ∈ tb) (via : Via Z R0 O nm d) (F : Fld Z h a O nm d old) (E : Exa Z h a Cn) (hl : Jvm.Cond.lays Cn O nm d ∈ tb ∨ (Jvm.Cond.laysFinal Cn O nm d ∈ tb ∧ own = O ∧ mname = "<init>")) (wi : Jvm.Cond.instantiable Cn kk ∈ tb)
    (hty : parseFieldDescriptor d = some ty) (hn : narrow ty v = v) (hf : fits ty v = true) (ha : a ∈ fs) (hd : decode bytes pc = .ok (.putfield index, 3))
    (K : ∀ h', Wr h h' a (Jvm.RoadKit.slotOf Z O nm d) v → Fld Z h' a O nm d v → Go p l e R s m args below meth c n0 Q fs h' k n (mkF m (pc + 3) Ls St)) : Go p l e R s m args below meth c n0 Q fs h k n (mkF m pc Ls (v :: .ref a :: St)) := by
  intro T locs X eT N I
  have hZ := C.hZ
  have hown := C.hown
  obtain ⟨T', h', X', e', W', st⟩ := putF X C.hx hZ hown (host := "") (Or.inl (C.hw w)) via eT F E (hl.imp (fun q => C.hw q) (fun q => ⟨C.hw q.1, q.2.1, C.hnm.trans q.2.2⟩)) (C.hw wi) (ty := ty) hty hn hf (g := mkF m pc Ls (v :: .ref a :: St)) rfl rfl (hb C.hby hd)
  obtain ⟨s2, o, st2, r⟩ := K h' W' (F.same W') T' _ X' e' (Fr.snoc X' N (I.ge ha)) (I.wr W' ha)
  exact ⟨s2, o, st _ st2, r⟩
theorem g_initO (C : Cx Z a0 tb p s m meth c own mname bytes maxL ret n0) {index : Nat} {a : Addr} (w1 : Jvm.Cond.methodLink own index Lib.objectInit ∈ tb) (w2 : Jvm.Cond.instanceMethod Lib.objectInit ∈ tb) (w3 : Jvm.Cond.code Lib.objectInit ⟨#[0xb1]⟩ 1 none ∈ tb) (hsz : Ls.size = maxL) (hd : decode bytes pc = .ok (.invokespecial index, 3)) (hf : 1 ≤ R.frames) (W : Nat) (hW : (St.map fun v => v.category).sum ≤ W) (hl : W + 12 ≤ R.locals)
    (K : Go p l e R s m args below meth c n0 Q fs h k n (mkF m (pc + 3) Ls St)) : Go p l e R s m args below meth c n0 Q fs h k n (mkF m pc Ls (.ref a :: St)) := by
  intro T locs X eT N I
  have hZ := C.hZ
  have hown := C.hown
  obtain ⟨T', X', e', st⟩ := initO X C.hx hZ hown (C.hw w1) (C.hw w2) (C.hw w3) eT (g := mkF m pc Ls (.ref a :: St)) rfl (hsz.trans C.hml.symm) rfl (hb C.hby hd) hf (W := W) (by show 2 * 0 + _ ≤ _; omega) hl
  obtain ⟨s2, o, st2, r⟩ := K T' locs X' e' N I
  exact ⟨s2, o, st _ st2, r⟩
theorem own_narref {t : FieldType} {v : Value} (ht : t.isReference = true) (hv : v.isRef = true) : narrow t v = v := by
  rcases ref_cases hv with rfl | ⟨b, rfl⟩ <;> cases t <;> first | rfl | (cases ht)
theorem g_returnX (C : Cx Z a0 tb p s m meth c own mname bytes maxL ret n0)  (ns : List Addr) (hns : ∀ x ∈ ns, x ∈ fs) (hret : ret = none) (hd : decode bytes pc = .ok (.return_, 1)) (hk : k ≤ R.cells) (hn : n ≤ R.slots) (hQ : Q (none) h ns) : Go p l e R s m args below meth c n0 Q fs h k n (mkF m pc Ls ([])) := by
  intro T locs X eT N I
  have hZ := C.hZ
  have hown := C.hown
  obtain ⟨ff, hr, hrun, hended, hW, hsame⟩ := X.leave (v := none) (fun _ => rfl) C.hlk
  exact ⟨_, _, X.returnOut C.hx (C.hret.trans hret) (hb C.hby hd) hr, hrun, hended, _, _, ns, rfl, ⟨by rw [show (T.setFrames ff).heap = T.heap from rfl, eT]; exact hQ, N⟩, fun y hy => I.ge (hns y hy), ⟨_, rfl⟩, hW, hsame.mono hk hn⟩
theorem g_return (C : Cx Z a0 tb p s m meth c own mname bytes maxL ret n0)  (hret : ret = none) (hd : decode bytes pc = .ok (.return_, 1)) (hk : k ≤ R.cells) (hn : n ≤ R.slots) (hQ : Q2 (none) h) : Go p l e R s m args below meth c n0 (nq Q2) fs h k n (mkF m pc Ls ([])) :=
  g_returnX C [] all0 hret hd hk hn ⟨rfl, hQ⟩
theorem g_ireturnNX (C : Cx Z a0 tb p s m meth c own mname bytes maxL ret n0) {z : Int32} {t : FieldType} (ns : List Addr) (hns : ∀ x ∈ ns, x ∈ fs) (hret : ret = some t) (ht : t = .boolean ∨ t = .byte ∨ t = .char ∨ t = .short) (hd : decode bytes pc = .ok (.ireturn, 1)) (hk : k ≤ R.cells) (hn : n ≤ R.slots) (hQ : Q (some (.int (nar t z))) h ns) : Go p l e R s m args below meth c n0 Q fs h k n (mkF m pc Ls (.int z :: St)) := by
  intro T locs X eT N I
  have hZ := C.hZ
  have hown := C.hown
  obtain ⟨ff, hr, hrun, hended, hW, hsame⟩ := X.leave (v := some (.int (nar t z))) (fun q => by rw [C.hret, hret] at q; cases q) C.hlk
  exact ⟨_, _, retN X C.hx (C.hret.trans hret) ht (hb C.hby hd) hr, hrun, hended, _, _, ns, rfl, ⟨by rw [show (T.setFrames ff).heap = T.heap from rfl, eT]; exact hQ, N⟩, fun y hy => I.ge (hns y hy), ⟨_, rfl⟩, hW, hsame.mono hk hn⟩
theorem g_ireturnN (C : Cx Z a0 tb p s m meth c own mname bytes maxL ret n0) {z : Int32} {t : FieldType} (hret : ret = some t) (ht : t = .boolean ∨ t = .byte ∨ t = .char ∨ t = .short) (hd : decode bytes pc = .ok (.ireturn, 1)) (hk : k ≤ R.cells) (hn : n ≤ R.slots) (hQ : Q2 (some (.int (nar t z))) h) : Go p l e R s m args below meth c n0 (nq Q2) fs h k n (mkF m pc Ls (.int z :: St)) :=
  g_ireturnNX C [] all0 hret ht hd hk hn ⟨rfl, hQ⟩
/-- a body's contract: called so, over this heap, it returns with Q -/
def Met (l : Launch) (Z : State) (y : MethodName) (bytes : ByteArray) (maxL : Nat) (ret : Option FieldType) (ws : List Jvm.Cond) (rm : Room) (fs : List Addr) (as' : Array Value) (h : Heap) (n0 : Nat) (Q : Option Value → Heap → List Addr → Prop) : Prop :=
  Inv n0 fs h → MetFree l y (head1 (Jvm.Cond.code y bytes maxL ret :: ws) rm) (fun a U => a = as' ∧ Z.Warmed39 U.vm ∧ U.heap = h) (fun _ _ _ _ _ => True) (fun _ U o U' => ∃ v L ns, o = .returned v ∧ (Q v U'.heap ns ∧ Fr n0 L) ∧ (∀ x ∈ ns, n0 ≤ x) ∧ FrameEnd U o U' L rm.cells rm.slots)
theorem met_of {y : MethodName} {ws : List Jvm.Cond} {as' : Array Value} (hpl : plainFor y = true) (hw : ∀ d ∈ tb, d.before a0 Z = true) (Ls : Array Slot) (hef : ∀ m : MethodId, entryFrame m as' maxL = mkF m 0 Ls [])
    (H : ∀ p e s m below meth c, Cx Z a0 tb p s m meth c y.cls y.name bytes maxL ret n0 → Go p l e R s m as' below meth c n0 Q fs h 0 0 (mkF m 0 Ls [])) : Met l Z y bytes maxL ret ws R fs as' h n0 Q := by
  intro I
  refine MetFree.of_bodySF hpl hisR ?_
  intro p e s m args below meth c s₁ Bd hml0 hP hK
  obtain ⟨rfl, hZ, hh⟩ := hP
  have X0 : Stand p l e R s m args below meth c s₁ [] 0 0 := Stand.of_body Bd
  have e0 : s₁.heap = h := by rw [← hh, Bd.state]; rfl
  have C : Cx Z a0 tb p s m meth c y.cls y.name bytes maxL ret n0 := ⟨Bd.exec, hZ, findClass_of_methodNamed Bd.named, Bd.bytes, hml0, Bd.returns, Bd.notSynchronized, hw, (name_of_methodNamed Bd.named Bd.method).1, by rw [hh]; exact I.1⟩
  obtain ⟨s2, o, st, r⟩ := H p e s m below meth c C s₁ [] X0 e0 (Fr.nil n0) I
  exact ⟨s2, o, castTop (hef m) st, r⟩
/-- the same as the caller needs it -/
def Ct (l : Launch) (Z : State) (y : MethodName) (maxL : Nat) (rm : Room) (fs : List Addr) (as' : Array Value) (h : Heap) (n0 : Nat) (Q : Option Value → Heap → List Addr → Prop) : Prop :=
  ∀ ⦃R : Room⦄ ⦃p : Program⦄ ⦃e : Env⦄ ⦃below : List Frame⦄ ⦃s : State⦄ ⦃args : Array Value⦄ ⦃len W : Nat⦄, Z.Warmed39 s.vm → Inv n0 fs h → rm.frames + 1 ≤ R.frames → W + (maxL + 11) + rm.locals ≤ R.locals →
    Back l R p e below s args y len W (fun A a => a = as' ∧ A.U.heap = h ∧ A.cells + rm.cells ≤ R.cells ∧ A.slots + rm.slots ≤ R.slots) (fun A _ v B => ∃ L, (∃ ns, Q v B.U.heap ns ∧ Fr n0 L ∧ ∀ x ∈ ns, n0 ≤ x) ∧ B.locs = A.locs ++ L ∧ B.cells = A.cells + rm.cells ∧ B.slots = A.slots + rm.slots)
theorem ct_of {y : MethodName} {rm : Room} {as' : Array Value} (hw : ∀ d ∈ tb, d.before a0 Z = true) (wc : Jvm.Cond.code y bytes maxL ret ∈ tb) (wz : Jvm.Cond.initialized y.cls ∈ tb) (M : Met l Z y bytes maxL ret [] rm fs as' h n0 Q) : Ct l Z y maxL rm fs as' h n0 Q :=
  fun _ _ _ _ _ _ _ _ hZ I hf hl => backOf (Q := fun v h' L => ∃ ns, Q v h' ns ∧ Fr n0 L ∧ ∀ x ∈ ns, n0 ≤ x) (fun p e ha hc hk s m args below hf' happ hP hK => by
    obtain ⟨nn, o, h1, h2, h3, v, L, ns, h4, ⟨h5, h6⟩, h7, h8⟩ := M I p e ha hc hk s m args below hf' happ hP hK
    exact ⟨nn, o, h1, h2, h3, v, L, h4, ⟨ns, h5, h6, h7⟩, h8⟩) hZ (hw _ wc) (hw _ wz) hf hl
/-- a callee by a Back -/
theorem ct_back {y : MethodName} {rm : Room} {as' : Array Value}
    (B0 : ∀ {R : Room} {p : Program} {e : Env} {below : List Frame} {s : State} {args : Array Value} {len W : Nat}, Z.Warmed39 s.vm → n0 ≤ h.size → (∀ x ∈ fs, n0 ≤ x) → rm.frames + 1 ≤ R.frames → W + (maxL + 11) + rm.locals ≤ R.locals →
      Back l R p e below s args y len W (fun A a => a = as' ∧ A.U.heap = h ∧ A.cells + rm.cells ≤ R.cells ∧ A.slots + rm.slots ≤ R.slots) (fun A _ v B => ∃ L, (Q2 v B.U.heap ∧ Fr n0 L) ∧ B.locs = A.locs ++ L ∧ B.cells = A.cells + rm.cells ∧ B.slots = A.slots + rm.slots)) : Ct l Z y maxL rm fs as' h n0 (nq Q2) := by
  intro R p e below s args len W hZ I hf hl
  refine Back.mono (B0 hZ I.1 I.2 hf hl) (fun P a q => q) (fun P a v B hp hq => ?_)
  obtain ⟨L, ⟨q1, q2⟩, q3⟩ := hq
  exact ⟨L, ⟨[], ⟨rfl, q1⟩, q2, all0⟩, q3⟩
theorem g_staticX (C : Cx Z a0 tb p s m meth c own mname bytes maxL ret n0) {index : Nat} {y : MethodName} {yb : ByteArray} {yr : Option FieldType} {yl' : Nat} (w1 : Jvm.Cond.methodLink own index y ∈ tb) (w2 : Jvm.Cond.static y ∈ tb) (w3 : Jvm.Cond.initialized y.cls ∈ tb) (w4 : Jvm.Cond.code y yb yl' yr ∈ tb) (hy : y.cls ≠ "java/lang/invoke/MethodHandle" ∧ y.cls ≠ "java/lang/invoke/VarHandle") {rm : Room} {fs0 : List Addr} (argsL : List Value) {Qy : Option Value → Heap → List Addr → Prop} {yl : Nat} (K0 : Ct l Z y yl rm fs0 argsL.toArray h n0 Qy) (hfs : ∀ x ∈ fs0, x ∈ fs) (hf : rm.frames + 1 ≤ R.frames) (W : Nat) (hlo : W + (yl + 11) + rm.locals ≤ R.locals) (hsz : Ls.size = maxL) {sig : MethodDescriptor} (hdesc : parseMethodDescriptor y.desc = some sig) (hlen : argsL.length = sig.parameters.length) (rest : List Value) (hs : St = argsL.reverse ++ rest) (hW : (rest.map fun v => v.category).sum ≤ W) (hd : decode bytes pc = .ok (.invokestatic index, 3)) (hc : k + rm.cells ≤ R.cells) (hn : n + rm.slots ≤ R.slots)
    (K : ∀ v h' ns, Qy v h' ns → Go p l e R s m args below meth c n0 Q (ns ++ fs) h' (k + rm.cells) (n + rm.slots) (mkF m (pc + 3) Ls (v.toList ++ rest))) : Go p l e R s m args below meth c n0 Q fs h k n (mkF m pc Ls St) := by
  intro T locs X eT N I
  have hZ := C.hZ
  have hown := C.hown
  obtain ⟨v, _, ⟨T', L', k', n'⟩, -, X', ⟨Lc, ⟨ns, hQ, hN, hns⟩, hl', hk', hn'⟩, st⟩ := Jvm.LawKit.callS X C.hx hown (mvT hZ (C.hw w1)) (mvT hZ (C.hw w2)) (mvT hZ (C.hw w3)) (mvT hZ (C.hw w4)) hy (K0 (W := W) hZ (I.less hfs) hf hlo) (g := mkF m pc Ls St) rfl (hsz.trans C.hml.symm) (argsL := argsL) (rest := rest) (fun sg q => by cases hdesc.symm.trans q; exact hlen) hs (by show 2 * 0 + _ ≤ _; omega) (hb C.hby hd) (fun _ _ => ⟨rfl, eT, hc, hn⟩)
  dsimp only [Pt.U, Pt.locs, Pt.cells, Pt.slots] at X' hl' hk' hn' st hQ
  subst hl' hk' hn'
  have hsize : n0 ≤ T'.heap.size := Nat.le_trans C.hn0 X'.same.2.1
  obtain ⟨s2, o, st2, r⟩ := K v T'.heap ns hQ T' _ X' rfl (N.app hN) ⟨hsize, fun x hx => (List.mem_append.mp hx).elim (hns x) (I.2 x)⟩
  exact ⟨s2, o, st _ st2, r⟩
theorem g_static (C : Cx Z a0 tb p s m meth c own mname bytes maxL ret n0) {index : Nat} {y : MethodName} {yb : ByteArray} {yr : Option FieldType} {yl' : Nat} (w1 : Jvm.Cond.methodLink own index y ∈ tb) (w2 : Jvm.Cond.static y ∈ tb) (w3 : Jvm.Cond.initialized y.cls ∈ tb) (w4 : Jvm.Cond.code y yb yl' yr ∈ tb) (hy : y.cls ≠ "java/lang/invoke/MethodHandle" ∧ y.cls ≠ "java/lang/invoke/VarHandle") {rm : Room} {fs0 : List Addr} (argsL : List Value) {Qy : Option Value → Heap → Prop} {yl : Nat} (K0 : Ct l Z y yl rm fs0 argsL.toArray h n0 (nq Qy)) (hfs : ∀ x ∈ fs0, x ∈ fs) (hf : rm.frames + 1 ≤ R.frames) (W : Nat) (hlo : W + (yl + 11) + rm.locals ≤ R.locals) (hsz : Ls.size = maxL) {sig : MethodDescriptor} (hdesc : parseMethodDescriptor y.desc = some sig) (hlen : argsL.length = sig.parameters.length) (rest : List Value) (hs : St = argsL.reverse ++ rest) (hW : (rest.map fun v => v.category).sum ≤ W) (hd : decode bytes pc = .ok (.invokestatic index, 3)) (hc : k + rm.cells ≤ R.cells) (hn : n + rm.slots ≤ R.slots)
    (K : ∀ v h', Qy v h' → Go p l e R s m args below meth c n0 Q fs h' (k + rm.cells) (n + rm.slots) (mkF m (pc + 3) Ls (v.toList ++ rest))) : Go p l e R s m args below meth c n0 Q fs h k n (mkF m pc Ls St) :=
  g_staticX C w1 w2 w3 w4 hy argsL K0 hfs hf W hlo hsz hdesc hlen rest hs hW hd hc hn (fun v h' ns q => by obtain ⟨rfl, q⟩ := q; exact K v h' q)
theorem g_specialX (C : Cx Z a0 tb p s m meth c own mname bytes maxL ret n0) {index : Nat} {y : MethodName} {a : Addr} {yb : ByteArray} {yl' : Nat} (w1 : Jvm.Cond.methodLink own index y ∈ tb) (w2 : Jvm.Cond.instanceMethod y ∈ tb) (w4 : Jvm.Cond.code y yb yl' none ∈ tb) (hy1 : y.name = "<init>") (hy : y.cls ≠ "java/lang/invoke/MethodHandle" ∧ y.cls ≠ "java/lang/invoke/VarHandle") {rm : Room} {fs0 : List Addr} (argsL : List Value) {Qy : Option Value → Heap → List Addr → Prop} {yl : Nat} (K0 : Ct l Z y yl rm fs0 (.ref a :: argsL).toArray h n0 Qy) (hfs : ∀ x ∈ fs0, x ∈ fs) (hf : rm.frames + 1 ≤ R.frames) (W : Nat) (hlo : W + (yl + 11) + rm.locals ≤ R.locals) (hsz : Ls.size = maxL) {sig : MethodDescriptor} (hdesc : parseMethodDescriptor y.desc = some sig) (hlen : argsL.length = sig.parameters.length) (rest : List Value) (hs : St = argsL.reverse ++ .ref a :: rest) (hW : (rest.map fun v => v.category).sum ≤ W) (hd : decode bytes pc = .ok (.invokespecial index, 3)) (hc : k + rm.cells ≤ R.cells) (hn : n + rm.slots ≤ R.slots)
    (K : ∀ v h' ns, Qy v h' ns → Go p l e R s m args below meth c n0 Q (ns ++ fs) h' (k + rm.cells) (n + rm.slots) (mkF m (pc + 3) Ls (v.toList ++ rest))) : Go p l e R s m args below meth c n0 Q fs h k n (mkF m pc Ls St) := by
  intro T locs X eT N I
  have hZ := C.hZ
  have hown := C.hown
  obtain ⟨v, _, ⟨T', L', k', n'⟩, -, X', ⟨Lc, ⟨ns, hQ, hN, hns⟩, hl', hk', hn'⟩, st⟩ := X.specialBack C.hx hy1 hown (mvT hZ (C.hw w1)) (mvT hZ (C.hw w2)) (mvT hZ (C.hw w4)) hy (K0 (W := W) hZ (I.less hfs) hf hlo) (g := mkF m pc Ls St) rfl (hsz.trans C.hml.symm) (Steps.refl _) (a := a) (argsL := argsL) (rest := rest) (fun sg q => by cases hdesc.symm.trans q; exact hlen) hs (by show 2 * 0 + _ ≤ _; omega) (hb C.hby hd) (fun _ _ => ⟨rfl, eT, hc, hn⟩)
  dsimp only [Pt.U, Pt.locs, Pt.cells, Pt.slots] at X' hl' hk' hn' st hQ
  subst hl' hk' hn'
  have hsize : n0 ≤ T'.heap.size := Nat.le_trans C.hn0 X'.same.2.1
  obtain ⟨s2, o, st2, r⟩ := K v T'.heap ns hQ T' _ X' rfl (N.app hN) ⟨hsize, fun x hx => (List.mem_append.mp hx).elim (hns x) (I.2 x)⟩
  exact ⟨s2, o, st.trans st2, r⟩
theorem g_virtualX (C : Cx Z a0 tb p s m meth c own mname bytes maxL ret n0) {index : Nat} {y z : MethodName} {Cn : String} {a : Addr} (E : Exa Z h a Cn) (w1 : Jvm.Cond.methodLink own index y ∈ tb) (w2 : Jvm.Cond.declares y ∈ tb) (hnf : ∀ {s' : State}, Z.Warmed39 s'.vm → NotFace s' y) (w3 : Jvm.Cond.selects Cn y z ∈ tb) (w4 : Jvm.Cond.instanceMethod z ∈ tb) (hy : y.cls ≠ "java/lang/invoke/MethodHandle" ∧ y.cls ≠ "java/lang/invoke/VarHandle") {rm : Room} {fs0 : List Addr} (argsL : List Value) {Qy : Option Value → Heap → List Addr → Prop} {yl : Nat} (K0 : Ct l Z z yl rm fs0 (.ref a :: argsL).toArray h n0 Qy) (hfs : ∀ x ∈ fs0, x ∈ fs) (hf : rm.frames + 1 ≤ R.frames) (W : Nat) (hlo : W + (yl + 11) + rm.locals ≤ R.locals) (hsz : Ls.size = maxL) {sig : MethodDescriptor} (hdesc : parseMethodDescriptor y.desc = some sig) (hlen : argsL.length = sig.parameters.length) (rest : List Value) (hs : St = argsL.reverse ++ .ref a :: rest) (hW : (rest.map fun v => v.category).sum ≤ W) (hd : decode bytes pc = .ok (.invokevirtual index, 3)) (hc : k + rm.cells ≤ R.cells) (hn : n + rm.slots ≤ R.slots)
    (K : ∀ v h' ns, Qy v h' ns → Go p l e R s m args below meth c n0 Q (ns ++ fs) h' (k + rm.cells) (n + rm.slots) (mkF m (pc + 3) Ls (v.toList ++ rest))) : Go p l e R s m args below meth c n0 Q fs h k n (mkF m pc Ls St) := by
  intro T locs X eT N I
  have hZ := C.hZ
  have hown := C.hown
  obtain ⟨cq, kq, qa, qb, qc⟩ := isOf hZ eT E
  obtain ⟨v, _, ⟨T', L', k', n'⟩, -, X', ⟨Lc, ⟨ns, hQ, hN, hns⟩, hl', hk', hn'⟩, st⟩ := X.virtualBack C.hx hown (mvT hZ (C.hw w1)) (mvT hZ (C.hw w2)) (hnf hZ) (mvT hZ (C.hw w3)) (mvT hZ (C.hw w4)) hy (K0 (W := W) hZ (I.less hfs) hf hlo) qa qc (g := mkF m pc Ls St) rfl (hsz.trans C.hml.symm) (Steps.refl _) (argsL := argsL) (rest := rest) (fun sg q => by cases hdesc.symm.trans q; exact hlen) hs (by show 2 * 0 + _ ≤ _; omega) (hb C.hby hd) (fun _ _ => ⟨rfl, eT, hc, hn⟩)
  dsimp only [Pt.U, Pt.locs, Pt.cells, Pt.slots] at X' hl' hk' hn' st hQ
  subst hl' hk' hn'
  have hsize : n0 ≤ T'.heap.size := Nat.le_trans C.hn0 X'.same.2.1
  obtain ⟨s2, o, st2, r⟩ := K v T'.heap ns hQ T' _ X' rfl (N.app hN) ⟨hsize, fun x hx => (List.mem_append.mp hx).elim (hns x) (I.2 x)⟩
  exact ⟨s2, o, st.trans st2, r⟩
theorem g_virtual (C : Cx Z a0 tb p s m meth c own mname bytes maxL ret n0) {index : Nat} {y z : MethodName} {Cn : String} {a : Addr} (E : Exa Z h a Cn) (w1 : Jvm.Cond.methodLink own index y ∈ tb) (w2 : Jvm.Cond.declares y ∈ tb) (hnf : ∀ {s' : State}, Z.Warmed39 s'.vm → NotFace s' y) (w3 : Jvm.Cond.selects Cn y z ∈ tb) (w4 : Jvm.Cond.instanceMethod z ∈ tb) (hy : y.cls ≠ "java/lang/invoke/MethodHandle" ∧ y.cls ≠ "java/lang/invoke/VarHandle") {rm : Room} {fs0 : List Addr} (argsL : List Value) {Qy : Option Value → Heap → Prop} {yl : Nat} (K0 : Ct l Z z yl rm fs0 (.ref a :: argsL).toArray h n0 (nq Qy)) (hfs : ∀ x ∈ fs0, x ∈ fs) (hf : rm.frames + 1 ≤ R.frames) (W : Nat) (hlo : W + (yl + 11) + rm.locals ≤ R.locals) (hsz : Ls.size = maxL) {sig : MethodDescriptor} (hdesc : parseMethodDescriptor y.desc = some sig) (hlen : argsL.length = sig.parameters.length) (rest : List Value) (hs : St = argsL.reverse ++ .ref a :: rest) (hW : (rest.map fun v => v.category).sum ≤ W) (hd : decode bytes pc = .ok (.invokevirtual index, 3)) (hc : k + rm.cells ≤ R.cells) (hn : n + rm.slots ≤ R.slots)
    (K : ∀ v h', Qy v h' → Go p l e R s m args below meth c n0 Q fs h' (k + rm.cells) (n + rm.slots) (mkF m (pc + 3) Ls (v.toList ++ rest))) : Go p l e R s m args below meth c n0 Q fs h k n (mkF m pc Ls St) :=
  g_virtualX C E w1 w2 hnf w3 w4 hy argsL K0 hfs hf W hlo hsz hdesc hlen rest hs hW hd hc hn (fun v h' ns q => by obtain ⟨rfl, q⟩ := q; exact K v h' q)
theorem g_privateX (C : Cx Z a0 tb p s m meth c own mname bytes maxL ret n0) {index : Nat} {y : MethodName} {a : Addr} {Cn : String} {yb : ByteArray} {yr : Option FieldType} {yl' : Nat} (E : Exa Z h a Cn) (w1 : Jvm.Cond.methodLink own index y ∈ tb) (w2 : Jvm.Cond.instanceMethod y ∈ tb) (hni : ∀ {s' : State}, Z.Warmed39 s'.vm → ∃ c k, s'.vm.findClass y.cls = some c ∧ s'.vm.classes[c]? = some k ∧ k.isInterface = false) (w5 : Jvm.Cond.privateMethod y ∈ tb) (w4 : Jvm.Cond.code y yb yl' yr ∈ tb) (hy : y.cls ≠ "java/lang/invoke/MethodHandle" ∧ y.cls ≠ "java/lang/invoke/VarHandle") {rm : Room} {fs0 : List Addr} (argsL : List Value) {Qy : Option Value → Heap → List Addr → Prop} {yl : Nat} (K0 : Ct l Z y yl rm fs0 (.ref a :: argsL).toArray h n0 Qy) (hfs : ∀ x ∈ fs0, x ∈ fs) (hf : rm.frames + 1 ≤ R.frames) (W : Nat) (hlo : W + (yl + 11) + rm.locals ≤ R.locals) (hsz : Ls.size = maxL) {sig : MethodDescriptor} (hdesc : parseMethodDescriptor y.desc = some sig) (hlen : argsL.length = sig.parameters.length) (rest : List Value) (hs : St = argsL.reverse ++ .ref a :: rest) (hW : (rest.map fun v => v.category).sum ≤ W) (hd : decode bytes pc = .ok (.invokevirtual index, 3)) (hc : k + rm.cells ≤ R.cells) (hn : n + rm.slots ≤ R.slots)
    (K : ∀ v h' ns, Qy v h' ns → Go p l e R s m args below meth c n0 Q (ns ++ fs) h' (k + rm.cells) (n + rm.slots) (mkF m (pc + 3) Ls (v.toList ++ rest))) : Go p l e R s m args below meth c n0 Q fs h k n (mkF m pc Ls St) := by
  intro T locs X eT N I
  have hZ := C.hZ
  have hown := C.hown
  obtain ⟨cq, q1, q2⟩ := E.cell
  obtain ⟨cx, kx, cx1, cx2, cx3⟩ := hni hZ
  obtain ⟨v, _, ⟨T', L', k', n'⟩, -, X', ⟨Lc, ⟨ns, hQ, hN, hns⟩, hl', hk', hn'⟩, st⟩ := X.privateBack C.hx hown (mvT hZ (C.hw w1)) (mvT hZ (C.hw w2)) (selects_self_of_private cx1 cx2 cx3 (Cond.privateMethod_at (mvP hZ (C.hw w5) (args := #[]))) (mvT hZ (C.hw w2)) hy) (Cond.privateMethod_at (mvP hZ (C.hw w5) (args := #[]))) (mvT hZ (C.hw w4)) hy (K0 (W := W) hZ (I.less hfs) hf hlo) (g := mkF m pc Ls St) rfl (hsz.trans C.hml.symm) (Steps.refl _) (a := a) (by rw [eT]; exact q1) q2 (argsL := argsL) (rest := rest) (fun sg q => by cases hdesc.symm.trans q; exact hlen) hs (by show 2 * 0 + _ ≤ _; omega) (hb C.hby hd) (fun _ _ => ⟨rfl, eT, hc, hn⟩)
  dsimp only [Pt.U, Pt.locs, Pt.cells, Pt.slots] at X' hl' hk' hn' st hQ
  subst hl' hk' hn'
  have hsize : n0 ≤ T'.heap.size := Nat.le_trans C.hn0 X'.same.2.1
  obtain ⟨s2, o, st2, r⟩ := K v T'.heap ns hQ T' _ X' rfl (N.app hN) ⟨hsize, fun x hx => (List.mem_append.mp hx).elim (hns x) (I.2 x)⟩
  exact ⟨s2, o, st.trans st2, r⟩
theorem g_private (C : Cx Z a0 tb p s m meth c own mname bytes maxL ret n0) {index : Nat} {y : MethodName} {a : Addr} {Cn : String} {yb : ByteArray} {yr : Option FieldType} {yl' : Nat} (E : Exa Z h a Cn) (w1 : Jvm.Cond.methodLink own index y ∈ tb) (w2 : Jvm.Cond.instanceMethod y ∈ tb) (hni : ∀ {s' : State}, Z.Warmed39 s'.vm → ∃ c k, s'.vm.findClass y.cls = some c ∧ s'.vm.classes[c]? = some k ∧ k.isInterface = false) (w5 : Jvm.Cond.privateMethod y ∈ tb) (w4 : Jvm.Cond.code y yb yl' yr ∈ tb) (hy : y.cls ≠ "java/lang/invoke/MethodHandle" ∧ y.cls ≠ "java/lang/invoke/VarHandle") {rm : Room} {fs0 : List Addr} (argsL : List Value) {Qy : Option Value → Heap → Prop} {yl : Nat} (K0 : Ct l Z y yl rm fs0 (.ref a :: argsL).toArray h n0 (nq Qy)) (hfs : ∀ x ∈ fs0, x ∈ fs) (hf : rm.frames + 1 ≤ R.frames) (W : Nat) (hlo : W + (yl + 11) + rm.locals ≤ R.locals) (hsz : Ls.size = maxL) {sig : MethodDescriptor} (hdesc : parseMethodDescriptor y.desc = some sig) (hlen : argsL.length = sig.parameters.length) (rest : List Value) (hs : St = argsL.reverse ++ .ref a :: rest) (hW : (rest.map fun v => v.category).sum ≤ W) (hd : decode bytes pc = .ok (.invokevirtual index, 3)) (hc : k + rm.cells ≤ R.cells) (hn : n + rm.slots ≤ R.slots)
    (K : ∀ v h', Qy v h' → Go p l e R s m args below meth c n0 Q fs h' (k + rm.cells) (n + rm.slots) (mkF m (pc + 3) Ls (v.toList ++ rest))) : Go p l e R s m args below meth c n0 Q fs h k n (mkF m pc Ls St) :=
  g_privateX C E w1 w2 hni w5 w4 hy argsL K0 hfs hf W hlo hsz hdesc hlen rest hs hW hd hc hn (fun v h' ns q => by obtain ⟨rfl, q⟩ := q; exact K v h' q)
theorem ni_inst {C : String} {nk : Nat} (hw : ∀ d ∈ tb, d.before a0 Z = true) (w : Jvm.Cond.instantiable C nk ∈ tb) {s' : State} (hZ : Z.Warmed39 s'.vm) : ∃ c k, s'.vm.findClass C = some c ∧ s'.vm.classes[c]? = some k ∧ k.isInterface = false := by
  obtain ⟨c, k, h1, h2, h3, h4, -⟩ := Cond.instantiable_spec (mvT hZ (hw _ w) : (Cond.instantiable C nk).before #[] s' = true)
  refine ⟨c, k, h1, h2, ?_⟩
  cases hi : k.isInterface <;> simp [hi] at h4 ⊢
theorem nf_sel {y : MethodName} {Cn : String} (hw : ∀ d ∈ tb, d.before a0 Z = true) (w : Jvm.Cond.selects Cn y y ∈ tb) {s' : State} (hZ : Z.Warmed39 s'.vm) : NotFace s' y := notFace_of_selects (args := #[]) (mvT hZ (hw _ w))
end OwnGo
end Jvm.OwnGo
namespace Jvm.OwnGo
open Sem ClassFile Op Lib Jvm.Stand Jvm.Free Jvm.LawKit Jvm.RoadKit Bundle
section OwnBox
variable {Z : State} {a0 : Array Value} {tb : List Jvm.Cond} {p : Program} {l : Launch} {e : Env} {R : Room} {s : State} {m : MethodId} {args : Array Value} {below : List Frame} {meth : Method} {c : Code} {own mname : String} {bytes : ByteArray} {maxL : Nat} {ret : Option FieldType} {n0 : Nat} {Q : Option Value → Heap → List Addr → Prop} {Q2 : Option Value → Heap → Prop} {fs : List Addr} {h : Heap} {k n : Nat} {pc : Nat} {Ls : Array Slot} {St : List Value}
end OwnBox
end Jvm.OwnGo
namespace Jvm.Pilot.@@N@@
open Jvm Jvm.ClassFile Sem Op Lib Jvm.Free Jvm.Stand Jvm.LawKit Jvm.RoadKit Bundle Jvm.OwnGo Jvm.Pilot.@@N@@.Jvm.D
theorem w_0 : (Jvm.Cond.classLink "com/example/fama/fama/search/HitQueueIsFullPinLaw" (8 : Nat) "com/example/fama/fama/search/HitQueue") ∈ tables_1 := List.mem_of_getElem? (i := 0) rfl
theorem w_1 : (Jvm.Cond.instantiable "com/example/fama/fama/search/HitQueue" (3 : Nat)) ∈ tables_1 := List.mem_of_getElem? (i := 1) rfl
theorem w_2 : (Jvm.Cond.initialized "com/example/fama/fama/search/HitQueue") ∈ tables_1 := List.mem_of_getElem? (i := 2) rfl
theorem w_3 : (Jvm.Cond.methodLink "com/example/fama/fama/search/HitQueueIsFullPinLaw" (10 : Nat) ({ cls := "com/example/fama/fama/search/HitQueue", name := "<init>", desc := "(I)V" } : Jvm.MethodName)) ∈ tables_1 := List.mem_of_getElem? (i := 3) rfl
theorem w_4 : (Jvm.Cond.instanceMethod ({ cls := "com/example/fama/fama/search/HitQueue", name := "<init>", desc := "(I)V" } : Jvm.MethodName)) ∈ tables_1 := List.mem_of_getElem? (i := 4) rfl
theorem w_5 : (Jvm.Cond.code ({ cls := "com/example/fama/fama/search/HitQueue", name := "<init>", desc := "(I)V" } : Jvm.MethodName) prog_71_method_1_code (2 : Nat) (Option.none : Option Jvm.ClassFile.FieldType)) ∈ tables_1 := List.mem_of_getElem? (i := 5) rfl
theorem w_6 : (Jvm.Cond.methodLink "com/example/fama/fama/search/HitQueue" (1 : Nat) ({ cls := "java/lang/Object", name := "<init>", desc := "()V" } : Jvm.MethodName)) ∈ tables_1 := List.mem_of_getElem? (i := 6) rfl
theorem w_7 : (Jvm.Cond.instanceMethod ({ cls := "java/lang/Object", name := "<init>", desc := "()V" } : Jvm.MethodName)) ∈ tables_1 := List.mem_of_getElem? (i := 7) rfl
theorem w_8 : (Jvm.Cond.code ({ cls := "java/lang/Object", name := "<init>", desc := "()V" } : Jvm.MethodName) object_method_1_code (1 : Nat) (Option.none : Option Jvm.ClassFile.FieldType)) ∈ tables_1 := List.mem_of_getElem? (i := 8) rfl
theorem w_9 : (Jvm.Cond.arrayClass Jvm.ClassFile.FieldType.int) ∈ tables_1 := List.mem_of_getElem? (i := 9) rfl
theorem w_10 : (Jvm.Cond.fieldLink "com/example/fama/fama/search/HitQueue" (7 : Nat) "com/example/fama/fama/search/HitQueue" "documents" "[I") ∈ tables_1 := List.mem_of_getElem? (i := 10) rfl
theorem w_11 : (Jvm.Cond.laysFinal "com/example/fama/fama/search/HitQueue" "com/example/fama/fama/search/HitQueue" "documents" "[I") ∈ tables_1 := List.mem_of_getElem? (i := 11) rfl
theorem w_12 : (Jvm.Cond.arrayClass Jvm.ClassFile.FieldType.double) ∈ tables_1 := List.mem_of_getElem? (i := 12) rfl
theorem w_13 : (Jvm.Cond.fieldLink "com/example/fama/fama/search/HitQueue" (13 : Nat) "com/example/fama/fama/search/HitQueue" "scores" "[D") ∈ tables_1 := List.mem_of_getElem? (i := 13) rfl
theorem w_14 : (Jvm.Cond.laysFinal "com/example/fama/fama/search/HitQueue" "com/example/fama/fama/search/HitQueue" "scores" "[D") ∈ tables_1 := List.mem_of_getElem? (i := 14) rfl
theorem w_15 : (Jvm.Cond.methodLink "com/example/fama/fama/search/HitQueueIsFullPinLaw" (13 : Nat) ({ cls := "com/example/fama/fama/search/HitQueue", name := "isFull", desc := "()Z" } : Jvm.MethodName)) ∈ tables_1 := List.mem_of_getElem? (i := 15) rfl
theorem w_16 : (Jvm.Cond.declares ({ cls := "com/example/fama/fama/search/HitQueue", name := "isFull", desc := "()Z" } : Jvm.MethodName)) ∈ tables_1 := List.mem_of_getElem? (i := 16) rfl
theorem w_17 : (Jvm.Cond.instanceMethod ({ cls := "com/example/fama/fama/search/HitQueue", name := "isFull", desc := "()Z" } : Jvm.MethodName)) ∈ tables_1 := List.mem_of_getElem? (i := 17) rfl
theorem w_18 : (Jvm.Cond.selects "com/example/fama/fama/search/HitQueue" ({ cls := "com/example/fama/fama/search/HitQueue", name := "isFull", desc := "()Z" } : Jvm.MethodName) ({ cls := "com/example/fama/fama/search/HitQueue", name := "isFull", desc := "()Z" } : Jvm.MethodName)) ∈ tables_1 := List.mem_of_getElem? (i := 18) rfl
theorem w_19 : (Jvm.Cond.code ({ cls := "com/example/fama/fama/search/HitQueue", name := "isFull", desc := "()Z" } : Jvm.MethodName) prog_71_method_3_code (1 : Nat) (Option.some Jvm.ClassFile.FieldType.boolean)) ∈ tables_1 := List.mem_of_getElem? (i := 19) rfl
theorem w_20 : (Jvm.Cond.fieldLink "com/example/fama/fama/search/HitQueue" (17 : Nat) "com/example/fama/fama/search/HitQueue" "size" "I") ∈ tables_1 := List.mem_of_getElem? (i := 20) rfl
theorem w_21 : (Jvm.Cond.lays "com/example/fama/fama/search/HitQueue" "com/example/fama/fama/search/HitQueue" "size" "I") ∈ tables_1 := List.mem_of_getElem? (i := 21) rfl
theorem w_22 : (Jvm.Cond.constant "com/example/fama/fama/search/HitQueueIsFullPinLaw" (7 : Nat) (2147483647 : Int32)) ∈ tables_1 := List.mem_of_getElem? (i := 22) rfl
theorem w_23 : (Jvm.Cond.methodLink "com/example/fama/fama/search/HitQueueIsFullPinLaw" (17 : Nat) ({ cls := "com/example/fama/fama/search/HitQueue", name := "offer", desc := "(ID)V" } : Jvm.MethodName)) ∈ tables_1 := List.mem_of_getElem? (i := 23) rfl
theorem w_24 : (Jvm.Cond.declares ({ cls := "com/example/fama/fama/search/HitQueue", name := "offer", desc := "(ID)V" } : Jvm.MethodName)) ∈ tables_1 := List.mem_of_getElem? (i := 24) rfl
theorem w_25 : (Jvm.Cond.instanceMethod ({ cls := "com/example/fama/fama/search/HitQueue", name := "offer", desc := "(ID)V" } : Jvm.MethodName)) ∈ tables_1 := List.mem_of_getElem? (i := 25) rfl
theorem w_26 : (Jvm.Cond.selects "com/example/fama/fama/search/HitQueue" ({ cls := "com/example/fama/fama/search/HitQueue", name := "offer", desc := "(ID)V" } : Jvm.MethodName) ({ cls := "com/example/fama/fama/search/HitQueue", name := "offer", desc := "(ID)V" } : Jvm.MethodName)) ∈ tables_1 := List.mem_of_getElem? (i := 26) rfl
theorem w_27 : (Jvm.Cond.code ({ cls := "com/example/fama/fama/search/HitQueue", name := "offer", desc := "(ID)V" } : Jvm.MethodName) prog_71_method_2_code (4 : Nat) (Option.none : Option Jvm.ClassFile.FieldType)) ∈ tables_1 := List.mem_of_getElem? (i := 27) rfl
theorem w_28 : (Jvm.Cond.methodLink "com/example/fama/fama/search/HitQueue" (21 : Nat) ({ cls := "com/example/fama/fama/search/HitQueue", name := "siftUp", desc := "(I)V" } : Jvm.MethodName)) ∈ tables_1 := List.mem_of_getElem? (i := 28) rfl
theorem w_29 : (Jvm.Cond.instanceMethod ({ cls := "com/example/fama/fama/search/HitQueue", name := "siftUp", desc := "(I)V" } : Jvm.MethodName)) ∈ tables_1 := List.mem_of_getElem? (i := 29) rfl
theorem w_30 : (Jvm.Cond.privateMethod ({ cls := "com/example/fama/fama/search/HitQueue", name := "siftUp", desc := "(I)V" } : Jvm.MethodName)) ∈ tables_1 := List.mem_of_getElem? (i := 30) rfl
theorem w_31 : (Jvm.Cond.code ({ cls := "com/example/fama/fama/search/HitQueue", name := "siftUp", desc := "(I)V" } : Jvm.MethodName) prog_71_method_8_code (3 : Nat) (Option.none : Option Jvm.ClassFile.FieldType)) ∈ tables_1 := List.mem_of_getElem? (i := 31) rfl
theorem w_32 : (Jvm.Cond.methodLink "com/example/fama/fama/search/HitQueue" (25 : Nat) ({ cls := "com/example/fama/fama/search/HitQueue", name := "isWorse", desc := "(IDID)Z" } : Jvm.MethodName)) ∈ tables_1 := List.mem_of_getElem? (i := 32) rfl
theorem w_33 : (Jvm.Cond.static ({ cls := "com/example/fama/fama/search/HitQueue", name := "isWorse", desc := "(IDID)Z" } : Jvm.MethodName)) ∈ tables_1 := List.mem_of_getElem? (i := 33) rfl
theorem w_34 : (Jvm.Cond.code ({ cls := "com/example/fama/fama/search/HitQueue", name := "isWorse", desc := "(IDID)Z" } : Jvm.MethodName) prog_71_method_6_code (6 : Nat) (Option.some Jvm.ClassFile.FieldType.boolean)) ∈ tables_1 := List.mem_of_getElem? (i := 34) rfl
theorem w_35 : (Jvm.Cond.methodLink "com/example/fama/fama/search/HitQueue" (47 : Nat) ({ cls := "com/example/fama/fama/search/HitQueue", name := "isWorse", desc := "(II)Z" } : Jvm.MethodName)) ∈ tables_1 := List.mem_of_getElem? (i := 35) rfl
theorem w_36 : (Jvm.Cond.instanceMethod ({ cls := "com/example/fama/fama/search/HitQueue", name := "isWorse", desc := "(II)Z" } : Jvm.MethodName)) ∈ tables_1 := List.mem_of_getElem? (i := 36) rfl
theorem w_37 : (Jvm.Cond.privateMethod ({ cls := "com/example/fama/fama/search/HitQueue", name := "isWorse", desc := "(II)Z" } : Jvm.MethodName)) ∈ tables_1 := List.mem_of_getElem? (i := 37) rfl
theorem w_38 : (Jvm.Cond.code ({ cls := "com/example/fama/fama/search/HitQueue", name := "isWorse", desc := "(II)Z" } : Jvm.MethodName) prog_71_method_7_code (3 : Nat) (Option.some Jvm.ClassFile.FieldType.boolean)) ∈ tables_1 := List.mem_of_getElem? (i := 38) rfl
theorem w_39 : (Jvm.Cond.methodLink "com/example/fama/fama/search/HitQueue" (29 : Nat) ({ cls := "com/example/fama/fama/search/HitQueue", name := "siftDown", desc := "(I)V" } : Jvm.MethodName)) ∈ tables_1 := List.mem_of_getElem? (i := 39) rfl
theorem w_40 : (Jvm.Cond.instanceMethod ({ cls := "com/example/fama/fama/search/HitQueue", name := "siftDown", desc := "(I)V" } : Jvm.MethodName)) ∈ tables_1 := List.mem_of_getElem? (i := 40) rfl
theorem w_41 : (Jvm.Cond.privateMethod ({ cls := "com/example/fama/fama/search/HitQueue", name := "siftDown", desc := "(I)V" } : Jvm.MethodName)) ∈ tables_1 := List.mem_of_getElem? (i := 41) rfl
theorem w_42 : (Jvm.Cond.code ({ cls := "com/example/fama/fama/search/HitQueue", name := "siftDown", desc := "(I)V" } : Jvm.MethodName) prog_71_method_9_code (6 : Nat) (Option.none : Option Jvm.ClassFile.FieldType)) ∈ tables_1 := List.mem_of_getElem? (i := 42) rfl
theorem w_43 : (Jvm.Cond.methodLink "com/example/fama/fama/search/HitQueue" (50 : Nat) ({ cls := "com/example/fama/fama/search/HitQueue", name := "swap", desc := "(II)V" } : Jvm.MethodName)) ∈ tables_1 := List.mem_of_getElem? (i := 43) rfl
theorem w_44 : (Jvm.Cond.instanceMethod ({ cls := "com/example/fama/fama/search/HitQueue", name := "swap", desc := "(II)V" } : Jvm.MethodName)) ∈ tables_1 := List.mem_of_getElem? (i := 44) rfl
theorem w_45 : (Jvm.Cond.privateMethod ({ cls := "com/example/fama/fama/search/HitQueue", name := "swap", desc := "(II)V" } : Jvm.MethodName)) ∈ tables_1 := List.mem_of_getElem? (i := 45) rfl
theorem w_46 : (Jvm.Cond.code ({ cls := "com/example/fama/fama/search/HitQueue", name := "swap", desc := "(II)V" } : Jvm.MethodName) prog_71_method_11_code (6 : Nat) (Option.none : Option Jvm.ClassFile.FieldType)) ∈ tables_1 := List.mem_of_getElem? (i := 46) rfl
theorem w_47 : (Jvm.Cond.methodLink "com/example/fama/fama/search/HitQueue" (37 : Nat) ({ cls := "com/example/fama/fama/search/HitQueue", name := "move", desc := "(II)V" } : Jvm.MethodName)) ∈ tables_1 := List.mem_of_getElem? (i := 47) rfl
theorem w_48 : (Jvm.Cond.instanceMethod ({ cls := "com/example/fama/fama/search/HitQueue", name := "move", desc := "(II)V" } : Jvm.MethodName)) ∈ tables_1 := List.mem_of_getElem? (i := 48) rfl
theorem w_49 : (Jvm.Cond.privateMethod ({ cls := "com/example/fama/fama/search/HitQueue", name := "move", desc := "(II)V" } : Jvm.MethodName)) ∈ tables_1 := List.mem_of_getElem? (i := 49) rfl
theorem w_50 : (Jvm.Cond.code ({ cls := "com/example/fama/fama/search/HitQueue", name := "move", desc := "(II)V" } : Jvm.MethodName) prog_71_method_10_code (3 : Nat) (Option.none : Option Jvm.ClassFile.FieldType)) ∈ tables_1 := List.mem_of_getElem? (i := 50) rfl
/-- the queue at q: its arrays at d and sc, of cap places -/
def Hq (Z : State) (h : Heap) (q d sc : Addr) (kd ks : ClassId) (cap sz : Int32) (xs : List Int32) (ys : List UInt64) : Prop :=
  Exa Z h q "com/example/fama/fama/search/HitQueue" ∧ Fld Z h q "com/example/fama/fama/search/HitQueue" "size" "I" (.int sz) ∧ Fld Z h q "com/example/fama/fama/search/HitQueue" "documents" "[I" (.ref d) ∧ Fld Z h q "com/example/fama/fama/search/HitQueue" "scores" "[D" (.ref sc) ∧ Arv Z h d kd .int cap (xs.map Value.int) (.int 0) ∧ Arv Z h sc ks .double cap (ys.map Value.double) (.double 0) ∧ xs.length = cap.toNatClampNeg ∧ ys.length = cap.toNatClampNeg ∧ q ≠ d ∧ q ≠ sc ∧ d ≠ sc
theorem own_getI (xs : List Int32) (j : Nat) : (xs.map Value.int).getD j (.int 0) = .int (xs.getD j 0) := by
  simp only [List.getD_eq_getElem?_getD, List.getElem?_map]; cases xs[j]? <;> rfl
theorem own_getD (xs : List UInt64) (j : Nat) : (xs.map Value.double).getD j (.double 0) = .double (xs.getD j 0) := by
  simp only [List.getD_eq_getElem?_getD, List.getElem?_map]; cases xs[j]? <;> rfl
theorem own_lt {j cap : Int32} (h : ¬ j < 0 ∧ j < cap) : j.toNatClampNeg < cap.toNatClampNeg := by
  obtain ⟨h1, h2⟩ := h
  rw [Int32.lt_iff_toInt_lt] at h1 h2
  have e0 : (0 : Int32).toInt = 0 := rfl
  simp only [Int32.toNatClampNeg]; omega

theorem d_prog_71_method_6_code_0 : decode prog_71_method_6_code 0 = .ok (.dload_n 1, 1) := by decide +kernel
theorem d_prog_71_method_6_code_1 : decode prog_71_method_6_code 1 = .ok (.dload 4, 2) := by decide +kernel
theorem d_prog_71_method_6_code_3 : decode prog_71_method_6_code 3 = .ok (.dcmp .g, 1) := by decide +kernel
theorem d_prog_71_method_6_code_4 : decode prog_71_method_6_code 4 = .ok (.ifCond .lt 15, 3) := by decide +kernel
theorem d_prog_71_method_6_code_7 : decode prog_71_method_6_code 7 = .ok (.dload_n 1, 1) := by decide +kernel
theorem d_prog_71_method_6_code_8 : decode prog_71_method_6_code 8 = .ok (.dload 4, 2) := by decide +kernel
theorem d_prog_71_method_6_code_10 : decode prog_71_method_6_code 10 = .ok (.dcmp .l, 1) := by decide +kernel
theorem d_prog_71_method_6_code_11 : decode prog_71_method_6_code 11 = .ok (.ifCond .ne 12, 3) := by decide +kernel
theorem d_prog_71_method_6_code_14 : decode prog_71_method_6_code 14 = .ok (.iload_n 0, 1) := by decide +kernel
theorem d_prog_71_method_6_code_15 : decode prog_71_method_6_code 15 = .ok (.iload_n 3, 1) := by decide +kernel
theorem d_prog_71_method_6_code_16 : decode prog_71_method_6_code 16 = .ok (.if_icmp .le 7, 3) := by decide +kernel
theorem d_prog_71_method_6_code_19 : decode prog_71_method_6_code 19 = .ok (.iconst 1, 1) := by decide +kernel
theorem d_prog_71_method_6_code_20 : decode prog_71_method_6_code 20 = .ok (.goto 4, 3) := by decide +kernel
theorem d_prog_71_method_6_code_23 : decode prog_71_method_6_code 23 = .ok (.iconst 0, 1) := by decide +kernel
theorem d_prog_71_method_6_code_24 : decode prog_71_method_6_code 24 = .ok (.ireturn, 1) := by decide +kernel
theorem pn_com_example_fama_fama_search_HitQueue : plainName "com/example/fama/fama/search/HitQueue" = true := by first | (simp [plainName, overriddenIn]; done) | decide +kernel
set_option maxRecDepth 65536 in
set_option maxHeartbeats 40000000 in
theorem rm_w4 (l : Launch) (Z : State) (a0 : Array Value) (hw : ∀ d ∈ tables_1, d.before a0 Z = true) {ws : List Jvm.Cond} (p1 p2 : Int32) (s1 s2 : UInt64) (h0 : Heap) (n0 : Nat) :
    Met l Z (⟨"com/example/fama/fama/search/HitQueue", "isWorse", "(IDID)Z"⟩ : MethodName) prog_71_method_6_code 6 (some .boolean) ws ({ frames := 0, cells := 0, slots := 0, locals := 0 } : Room) [] #[(.int p1), (.double s1), (.int p2), (.double s2)] h0 n0 (nq (fun v h => ∃ r : Int32, v = some (.int r) ∧ (r = 0 ∨ r = 1) ∧ h = h0)) := by
  refine met_of (plainFor_of_name pn_com_example_fama_fama_search_HitQueue) hw #[.val (.int p1), .val (.double s1), .second, .val (.int p2), .val (.double s2), .second] (fun m => by first | rfl | (simp [entryFrame, mkF, argsToLocals, Value.category]; done)) ?_
  intro p e s m below meth c C0
  have C : Cx Z a0 tables_1 p s m meth c "com/example/fama/fama/search/HitQueue" "isWorse" prog_71_method_6_code 6 (some .boolean) n0 := C0
  refine g_dloadN C d_prog_71_method_6_code_0 rfl ?_
  refine g_dload C d_prog_71_method_6_code_1 rfl ?_
  refine g_dcmp C d_prog_71_method_6_code_3 ?_
  by_cases hc101 : (cmpValue (FP.dcmp s1 s2) .g) < 0
  · refine g_if_t C 19 d_prog_71_method_6_code_4 (XT.i0_lt_t hc101) (by decide) (by decide) ?_
    refine g_iconst C 1 d_prog_71_method_6_code_19 rfl ?_
    refine g_goto C 24 d_prog_71_method_6_code_20 (by decide) (by decide) ?_
    refine g_ireturnN C (t := .boolean) rfl (by simp) d_prog_71_method_6_code_24 (by decide) (by decide) ?_
    exact ⟨_, rfl, Or.inr rfl, rfl⟩
  · refine g_if_f C d_prog_71_method_6_code_4 (XT.i0_lt_f hc101) ?_
    refine g_dloadN C d_prog_71_method_6_code_7 rfl ?_
    refine g_dload C d_prog_71_method_6_code_8 rfl ?_
    refine g_dcmp C d_prog_71_method_6_code_10 ?_
    by_cases hc102 : (cmpValue (FP.dcmp s1 s2) .l) = 0
    · refine g_if_f C d_prog_71_method_6_code_11 (XT.i0_ne_f hc102) ?_
      refine g_iloadN C d_prog_71_method_6_code_14 rfl ?_
      refine g_iloadN C d_prog_71_method_6_code_15 rfl ?_
      by_cases hc103 : p2 < p1
      · refine g_icmp_f C d_prog_71_method_6_code_16 (XT.ii_le_f hc103) ?_
        refine g_iconst C 1 d_prog_71_method_6_code_19 rfl ?_
        refine g_goto C 24 d_prog_71_method_6_code_20 (by decide) (by decide) ?_
        refine g_ireturnN C (t := .boolean) rfl (by simp) d_prog_71_method_6_code_24 (by decide) (by decide) ?_
        exact ⟨_, rfl, Or.inr rfl, rfl⟩
      · refine g_icmp_t C 23 d_prog_71_method_6_code_16 (XT.ii_le_t hc103) (by decide) (by decide) ?_
        refine g_iconst C 0 d_prog_71_method_6_code_23 rfl ?_
        refine g_ireturnN C (t := .boolean) rfl (by simp) d_prog_71_method_6_code_24 (by decide) (by decide) ?_
        exact ⟨_, rfl, Or.inl rfl, rfl⟩
    · refine g_if_t C 23 d_prog_71_method_6_code_11 (XT.i0_ne_t hc102) (by decide) (by decide) ?_
      refine g_iconst C 0 d_prog_71_method_6_code_23 rfl ?_
      refine g_ireturnN C (t := .boolean) rfl (by simp) d_prog_71_method_6_code_24 (by decide) (by decide) ?_
      exact ⟨_, rfl, Or.inl rfl, rfl⟩
theorem d_prog_71_method_7_code_0 : decode prog_71_method_7_code 0 = .ok (.aload_n 0, 1) := by decide +kernel
theorem d_prog_71_method_7_code_1 : decode prog_71_method_7_code 1 = .ok (.getfield 7, 3) := by decide +kernel
theorem d_prog_71_method_7_code_4 : decode prog_71_method_7_code 4 = .ok (.iload_n 1, 1) := by decide +kernel
theorem d_prog_71_method_7_code_5 : decode prog_71_method_7_code 5 = .ok (.iaload, 1) := by decide +kernel
theorem d_prog_71_method_7_code_6 : decode prog_71_method_7_code 6 = .ok (.aload_n 0, 1) := by decide +kernel
theorem d_prog_71_method_7_code_7 : decode prog_71_method_7_code 7 = .ok (.getfield 13, 3) := by decide +kernel
theorem d_prog_71_method_7_code_10 : decode prog_71_method_7_code 10 = .ok (.iload_n 1, 1) := by decide +kernel
theorem d_prog_71_method_7_code_11 : decode prog_71_method_7_code 11 = .ok (.daload, 1) := by decide +kernel
theorem d_prog_71_method_7_code_12 : decode prog_71_method_7_code 12 = .ok (.aload_n 0, 1) := by decide +kernel
theorem d_prog_71_method_7_code_13 : decode prog_71_method_7_code 13 = .ok (.getfield 7, 3) := by decide +kernel
theorem d_prog_71_method_7_code_16 : decode prog_71_method_7_code 16 = .ok (.iload_n 2, 1) := by decide +kernel
theorem d_prog_71_method_7_code_17 : decode prog_71_method_7_code 17 = .ok (.iaload, 1) := by decide +kernel
theorem d_prog_71_method_7_code_18 : decode prog_71_method_7_code 18 = .ok (.aload_n 0, 1) := by decide +kernel
theorem d_prog_71_method_7_code_19 : decode prog_71_method_7_code 19 = .ok (.getfield 13, 3) := by decide +kernel
theorem d_prog_71_method_7_code_22 : decode prog_71_method_7_code 22 = .ok (.iload_n 2, 1) := by decide +kernel
theorem d_prog_71_method_7_code_23 : decode prog_71_method_7_code 23 = .ok (.daload, 1) := by decide +kernel
theorem d_prog_71_method_7_code_24 : decode prog_71_method_7_code 24 = .ok (.invokestatic 25, 3) := by decide +kernel
theorem d_prog_71_method_7_code_27 : decode prog_71_method_7_code 27 = .ok (.ireturn, 1) := by decide +kernel
theorem pd__IDID_Z : parseMethodDescriptor "(IDID)Z" = some ⟨[.int, .double, .int, .double], some .boolean⟩ := by decide +kernel
set_option maxRecDepth 65536 in
set_option maxHeartbeats 40000000 in
theorem rm_w2 (l : Launch) (Z : State) (a0 : Array Value) (hw : ∀ d ∈ tables_1, d.before a0 Z = true) {ws : List Jvm.Cond} (q d sc : Addr) (kd ks : ClassId) (cap sz : Int32) (xs : List Int32) (ys : List UInt64) (i1 i2 : Int32) (h0 : Heap) (n0 : Nat) (H0 : Hq Z h0 q d sc kd ks cap sz xs ys) (b1 : ¬ i1 < 0 ∧ i1 < cap) (b2 : ¬ i2 < 0 ∧ i2 < cap) :
    Met l Z (⟨"com/example/fama/fama/search/HitQueue", "isWorse", "(II)Z"⟩ : MethodName) prog_71_method_7_code 3 (some .boolean) ws ({ frames := 1, cells := 0, slots := 0, locals := 17 } : Room) [] #[(.ref q), (.int i1), (.int i2)] h0 n0 (nq (fun v h => ∃ r : Int32, v = some (.int r) ∧ (r = 0 ∨ r = 1) ∧ h = h0)) := by
  refine met_of (plainFor_of_name pn_com_example_fama_fama_search_HitQueue) hw #[.val (.ref q), .val (.int i1), .val (.int i2)] (fun m => by first | rfl | (simp [entryFrame, mkF, argsToLocals, Value.category]; done)) ?_
  intro p e s m below meth c C0
  have C : Cx Z a0 tables_1 p s m meth c "com/example/fama/fama/search/HitQueue" "isWorse" prog_71_method_7_code 3 (some .boolean) n0 := C0
  obtain ⟨E104, Fs104, Fd104, Fc104, Vd104, Vc104, lx104, ly104, qd104, qs104, ds104⟩ := id H0
  refine g_aloadN C d_prog_71_method_7_code_0 rfl rfl ?_
  refine g_getfield C w_10 Via.refl Fd104 d_prog_71_method_7_code_1 ?_
  refine g_iloadN C d_prog_71_method_7_code_4 rfl ?_
  refine g_iaload C Vd104 d_prog_71_method_7_code_5 b1 (own_getI _ _) ?_
  refine g_aloadN C d_prog_71_method_7_code_6 rfl rfl ?_
  refine g_getfield C w_13 Via.refl Fc104 d_prog_71_method_7_code_7 ?_
  refine g_iloadN C d_prog_71_method_7_code_10 rfl ?_
  refine g_daload C Vc104 d_prog_71_method_7_code_11 b1 (own_getD _ _) ?_
  refine g_aloadN C d_prog_71_method_7_code_12 rfl rfl ?_
  refine g_getfield C w_10 Via.refl Fd104 d_prog_71_method_7_code_13 ?_
  refine g_iloadN C d_prog_71_method_7_code_16 rfl ?_
  refine g_iaload C Vd104 d_prog_71_method_7_code_17 b2 (own_getI _ _) ?_
  refine g_aloadN C d_prog_71_method_7_code_18 rfl rfl ?_
  refine g_getfield C w_13 Via.refl Fc104 d_prog_71_method_7_code_19 ?_
  refine g_iloadN C d_prog_71_method_7_code_22 rfl ?_
  refine g_daload C Vc104 d_prog_71_method_7_code_23 b2 (own_getD _ _) ?_
  refine g_static C w_32 w_33 w_2 w_34 (by decide) [(.int (xs.getD (i1).toNatClampNeg 0)), (.double (ys.getD (i1).toNatClampNeg 0)), (.int (xs.getD (i2).toNatClampNeg 0)), (.double (ys.getD (i2).toNatClampNeg 0))] (ct_of hw w_34 w_2 (rm_w4 l Z a0 hw (xs.getD (i1).toNatClampNeg 0) (xs.getD (i2).toNatClampNeg 0) (ys.getD (i1).toNatClampNeg 0) (ys.getD (i2).toNatClampNeg 0) h0 n0 )) all0 (by decide) 0 (by decide) rfl pd__IDID_Z rfl [] rfl (Nat.le_of_eq rfl) d_prog_71_method_7_code_24 (by decide) (by decide) ?_
  intro v105 h105 Q105
  obtain ⟨r105, rfl, hr105, e105⟩ := Q105
  replace e105 := e105.symm
  subst e105
  refine g_ireturnN C (t := .boolean) rfl (by simp) d_prog_71_method_7_code_27 (by decide) (by decide) ?_
  exact ⟨_, rfl, by rcases hr105 with rfl | rfl <;> simp [nar], rfl⟩
theorem d_prog_71_method_10_code_0 : decode prog_71_method_10_code 0 = .ok (.aload_n 0, 1) := by decide +kernel
theorem d_prog_71_method_10_code_1 : decode prog_71_method_10_code 1 = .ok (.getfield 7, 3) := by decide +kernel
theorem d_prog_71_method_10_code_4 : decode prog_71_method_10_code 4 = .ok (.iload_n 2, 1) := by decide +kernel
theorem d_prog_71_method_10_code_5 : decode prog_71_method_10_code 5 = .ok (.aload_n 0, 1) := by decide +kernel
theorem d_prog_71_method_10_code_6 : decode prog_71_method_10_code 6 = .ok (.getfield 7, 3) := by decide +kernel
theorem d_prog_71_method_10_code_9 : decode prog_71_method_10_code 9 = .ok (.iload_n 1, 1) := by decide +kernel
theorem d_prog_71_method_10_code_10 : decode prog_71_method_10_code 10 = .ok (.iaload, 1) := by decide +kernel
theorem d_prog_71_method_10_code_11 : decode prog_71_method_10_code 11 = .ok (.iastore, 1) := by decide +kernel
theorem d_prog_71_method_10_code_12 : decode prog_71_method_10_code 12 = .ok (.aload_n 0, 1) := by decide +kernel
theorem d_prog_71_method_10_code_13 : decode prog_71_method_10_code 13 = .ok (.getfield 13, 3) := by decide +kernel
theorem d_prog_71_method_10_code_16 : decode prog_71_method_10_code 16 = .ok (.iload_n 2, 1) := by decide +kernel
theorem d_prog_71_method_10_code_17 : decode prog_71_method_10_code 17 = .ok (.aload_n 0, 1) := by decide +kernel
theorem d_prog_71_method_10_code_18 : decode prog_71_method_10_code 18 = .ok (.getfield 13, 3) := by decide +kernel
theorem d_prog_71_method_10_code_21 : decode prog_71_method_10_code 21 = .ok (.iload_n 1, 1) := by decide +kernel
theorem d_prog_71_method_10_code_22 : decode prog_71_method_10_code 22 = .ok (.daload, 1) := by decide +kernel
theorem d_prog_71_method_10_code_23 : decode prog_71_method_10_code 23 = .ok (.dastore, 1) := by decide +kernel
theorem d_prog_71_method_10_code_24 : decode prog_71_method_10_code 24 = .ok (.return_, 1) := by decide +kernel
set_option maxRecDepth 65536 in
set_option maxHeartbeats 40000000 in
theorem rm_mv (l : Launch) (Z : State) (a0 : Array Value) (hw : ∀ d ∈ tables_1, d.before a0 Z = true) {ws : List Jvm.Cond} (q d sc : Addr) (kd ks : ClassId) (cap sz : Int32) (xs : List Int32) (ys : List UInt64) (i1 i2 : Int32) (h0 : Heap) (n0 : Nat) (H0 : Hq Z h0 q d sc kd ks cap sz xs ys) (b1 : ¬ i1 < 0 ∧ i1 < cap) (b2 : ¬ i2 < 0 ∧ i2 < cap) :
    Met l Z (⟨"com/example/fama/fama/search/HitQueue", "move", "(II)V"⟩ : MethodName) prog_71_method_10_code 3 none ws ({ frames := 0, cells := 0, slots := 0, locals := 0 } : Room) [d, sc] #[(.ref q), (.int i1), (.int i2)] h0 n0 (nq (fun v h => v = none ∧ Keep h0 h [d, sc] ∧ ∃ xs' ys', Hq Z h q d sc kd ks cap sz xs' ys')) := by
  refine met_of (plainFor_of_name pn_com_example_fama_fama_search_HitQueue) hw #[.val (.ref q), .val (.int i1), .val (.int i2)] (fun m => by first | rfl | (simp [entryFrame, mkF, argsToLocals, Value.category]; done)) ?_
  intro p e s m below meth c C0
  have C : Cx Z a0 tables_1 p s m meth c "com/example/fama/fama/search/HitQueue" "move" prog_71_method_10_code 3 none n0 := C0
  obtain ⟨E106, Fs106, Fd106, Fc106, Vd106, Vc106, lx106, ly106, qd106, qs106, ds106⟩ := id H0
  refine g_aloadN C d_prog_71_method_10_code_0 rfl rfl ?_
  refine g_getfield C w_10 Via.refl Fd106 d_prog_71_method_10_code_1 ?_
  refine g_iloadN C d_prog_71_method_10_code_4 rfl ?_
  refine g_aloadN C d_prog_71_method_10_code_5 rfl rfl ?_
  refine g_getfield C w_10 Via.refl Fd106 d_prog_71_method_10_code_6 ?_
  refine g_iloadN C d_prog_71_method_10_code_9 rfl ?_
  refine g_iaload C Vd106 d_prog_71_method_10_code_10 b1 (own_getI _ _) ?_
  refine g_iastore C Vd106 (List.mem_of_getElem? (i := 0) rfl) d_prog_71_method_10_code_11 b2 _ rfl (by rw [List.length_map, lx106]; exact own_lt b2) ?_
  intro h107 W107 V107
  rw [← List.map_set] at V107
  have l107 : (xs.set (i2).toNatClampNeg (xs.getD (i1).toNatClampNeg 0)).length = cap.toNatClampNeg := by rw [List.length_set]; exact lx106
  refine g_aloadN C d_prog_71_method_10_code_12 rfl rfl ?_
  have F108 := (Fc106.other W107 (Or.inl qd106))
  refine g_getfield C w_13 Via.refl F108 d_prog_71_method_10_code_13 ?_
  refine g_iloadN C d_prog_71_method_10_code_16 rfl ?_
  refine g_aloadN C d_prog_71_method_10_code_17 rfl rfl ?_
  refine g_getfield C w_13 Via.refl F108 d_prog_71_method_10_code_18 ?_
  refine g_iloadN C d_prog_71_method_10_code_21 rfl ?_
  have V109 := (Vc106.other W107 (Ne.symm ds106))
  refine g_daload C V109 d_prog_71_method_10_code_22 b1 (own_getD _ _) ?_
  refine g_dastore C V109 (List.mem_of_getElem? (i := 1) rfl) d_prog_71_method_10_code_23 b2 _ rfl (by rw [List.length_map, ly106]; exact own_lt b2) ?_
  intro h110 W110 V110
  rw [← List.map_set] at V110
  have l110 : (ys.set (i2).toNatClampNeg (ys.getD (i1).toNatClampNeg 0)).length = cap.toNatClampNeg := by rw [List.length_set]; exact ly106
  refine g_return C rfl d_prog_71_method_10_code_24 (by decide) (by decide) ?_
  have E111 := ((E106.wr W107).wr W110)
  have F112 := ((Fs106.other W107 (Or.inl qd106)).other W110 (Or.inl qs106))
  have F113 := ((Fd106.other W107 (Or.inl qd106)).other W110 (Or.inl qs106))
  have F114 := (F108.other W110 (Or.inl qs106))
  have V115 := (V107.other W110 ds106)
  exact ⟨rfl, (((Keep.refl h0 [d, sc]).wr W107 (Or.inl (List.mem_of_getElem? (i := 0) rfl))).wr W110 (Or.inl (List.mem_of_getElem? (i := 1) rfl))), (xs.set (i2).toNatClampNeg (xs.getD (i1).toNatClampNeg 0)), (ys.set (i2).toNatClampNeg (ys.getD (i1).toNatClampNeg 0)), ⟨E111, F112, F113, F114, V115, V110, l107, l110, qd106, qs106, ds106⟩⟩
theorem d_prog_71_method_11_code_0 : decode prog_71_method_11_code 0 = .ok (.aload_n 0, 1) := by decide +kernel
theorem d_prog_71_method_11_code_1 : decode prog_71_method_11_code 1 = .ok (.getfield 7, 3) := by decide +kernel
theorem d_prog_71_method_11_code_4 : decode prog_71_method_11_code 4 = .ok (.iload_n 1, 1) := by decide +kernel
theorem d_prog_71_method_11_code_5 : decode prog_71_method_11_code 5 = .ok (.iaload, 1) := by decide +kernel
theorem d_prog_71_method_11_code_6 : decode prog_71_method_11_code 6 = .ok (.istore_n 3, 1) := by decide +kernel
theorem d_prog_71_method_11_code_7 : decode prog_71_method_11_code 7 = .ok (.aload_n 0, 1) := by decide +kernel
theorem d_prog_71_method_11_code_8 : decode prog_71_method_11_code 8 = .ok (.getfield 13, 3) := by decide +kernel
theorem d_prog_71_method_11_code_11 : decode prog_71_method_11_code 11 = .ok (.iload_n 1, 1) := by decide +kernel
theorem d_prog_71_method_11_code_12 : decode prog_71_method_11_code 12 = .ok (.daload, 1) := by decide +kernel
theorem d_prog_71_method_11_code_13 : decode prog_71_method_11_code 13 = .ok (.dstore 4, 2) := by decide +kernel
theorem d_prog_71_method_11_code_15 : decode prog_71_method_11_code 15 = .ok (.aload_n 0, 1) := by decide +kernel
theorem d_prog_71_method_11_code_16 : decode prog_71_method_11_code 16 = .ok (.iload_n 2, 1) := by decide +kernel
theorem d_prog_71_method_11_code_17 : decode prog_71_method_11_code 17 = .ok (.iload_n 1, 1) := by decide +kernel
theorem d_prog_71_method_11_code_18 : decode prog_71_method_11_code 18 = .ok (.invokevirtual 37, 3) := by decide +kernel
theorem d_prog_71_method_11_code_21 : decode prog_71_method_11_code 21 = .ok (.aload_n 0, 1) := by decide +kernel
theorem d_prog_71_method_11_code_22 : decode prog_71_method_11_code 22 = .ok (.getfield 7, 3) := by decide +kernel
theorem d_prog_71_method_11_code_25 : decode prog_71_method_11_code 25 = .ok (.iload_n 2, 1) := by decide +kernel
theorem d_prog_71_method_11_code_26 : decode prog_71_method_11_code 26 = .ok (.iload_n 3, 1) := by decide +kernel
theorem d_prog_71_method_11_code_27 : decode prog_71_method_11_code 27 = .ok (.iastore, 1) := by decide +kernel
theorem d_prog_71_method_11_code_28 : decode prog_71_method_11_code 28 = .ok (.aload_n 0, 1) := by decide +kernel
theorem d_prog_71_method_11_code_29 : decode prog_71_method_11_code 29 = .ok (.getfield 13, 3) := by decide +kernel
theorem d_prog_71_method_11_code_32 : decode prog_71_method_11_code 32 = .ok (.iload_n 2, 1) := by decide +kernel
theorem d_prog_71_method_11_code_33 : decode prog_71_method_11_code 33 = .ok (.dload 4, 2) := by decide +kernel
theorem d_prog_71_method_11_code_35 : decode prog_71_method_11_code 35 = .ok (.dastore, 1) := by decide +kernel
theorem d_prog_71_method_11_code_36 : decode prog_71_method_11_code 36 = .ok (.return_, 1) := by decide +kernel
theorem pd__II_V : parseMethodDescriptor "(II)V" = some ⟨[.int, .int], none⟩ := by decide +kernel
set_option maxRecDepth 65536 in
set_option maxHeartbeats 40000000 in
theorem rm_sw (l : Launch) (Z : State) (a0 : Array Value) (hw : ∀ d ∈ tables_1, d.before a0 Z = true) {ws : List Jvm.Cond} (q d sc : Addr) (kd ks : ClassId) (cap sz : Int32) (xs : List Int32) (ys : List UInt64) (i1 i2 : Int32) (h0 : Heap) (n0 : Nat) (H0 : Hq Z h0 q d sc kd ks cap sz xs ys) (b1 : ¬ i1 < 0 ∧ i1 < cap) (b2 : ¬ i2 < 0 ∧ i2 < cap) :
    Met l Z (⟨"com/example/fama/fama/search/HitQueue", "swap", "(II)V"⟩ : MethodName) prog_71_method_11_code 6 none ws ({ frames := 1, cells := 0, slots := 0, locals := 14 } : Room) [d, sc] #[(.ref q), (.int i1), (.int i2)] h0 n0 (nq (fun v h => v = none ∧ Keep h0 h [d, sc] ∧ ∃ xs' ys', Hq Z h q d sc kd ks cap sz xs' ys')) := by
  refine met_of (plainFor_of_name pn_com_example_fama_fama_search_HitQueue) hw #[.val (.ref q), .val (.int i1), .val (.int i2), .unset, .unset, .unset] (fun m => by first | rfl | (simp [entryFrame, mkF, argsToLocals, Value.category]; done)) ?_
  intro p e s m below meth c C0
  have C : Cx Z a0 tables_1 p s m meth c "com/example/fama/fama/search/HitQueue" "swap" prog_71_method_11_code 6 none n0 := C0
  obtain ⟨E116, Fs116, Fd116, Fc116, Vd116, Vc116, lx116, ly116, qd116, qs116, ds116⟩ := id H0
  refine g_aloadN C d_prog_71_method_11_code_0 rfl rfl ?_
  refine g_getfield C w_10 Via.refl Fd116 d_prog_71_method_11_code_1 ?_
  refine g_iloadN C d_prog_71_method_11_code_4 rfl ?_
  refine g_iaload C Vd116 d_prog_71_method_11_code_5 b1 (own_getI _ _) ?_
  refine g_istoreN C #[.val (.ref q), .val (.int i1), .val (.int i2), .val (.int (xs.getD (i1).toNatClampNeg 0)), .unset, .unset] d_prog_71_method_11_code_6 rfl ?_
  refine g_aloadN C d_prog_71_method_11_code_7 rfl rfl ?_
  refine g_getfield C w_13 Via.refl Fc116 d_prog_71_method_11_code_8 ?_
  refine g_iloadN C d_prog_71_method_11_code_11 rfl ?_
  refine g_daload C Vc116 d_prog_71_method_11_code_12 b1 (own_getD _ _) ?_
  refine g_dstore C #[.val (.ref q), .val (.int i1), .val (.int i2), .val (.int (xs.getD (i1).toNatClampNeg 0)), .val (.double (ys.getD (i1).toNatClampNeg 0)), .second] d_prog_71_method_11_code_13 rfl ?_
  refine g_aloadN C d_prog_71_method_11_code_15 rfl rfl ?_
  refine g_iloadN C d_prog_71_method_11_code_16 rfl ?_
  refine g_iloadN C d_prog_71_method_11_code_17 rfl ?_
  refine g_private C E116 w_47 w_48 (fun hZ => ni_inst hw w_1 hZ) w_49 w_50 (by decide) [(.int i2), (.int i1)] (ct_of hw w_50 w_2 (rm_mv l Z a0 hw q d sc kd ks cap sz xs ys i2 i1 h0 n0 ⟨E116, Fs116, Fd116, Fc116, Vd116, Vc116, lx116, ly116, qd116, qs116, ds116⟩ b2 b1)) (allS (List.mem_of_getElem? (i := 0) rfl) (allS (List.mem_of_getElem? (i := 1) rfl) all0)) (by decide) 0 (by decide) rfl pd__II_V rfl [] rfl (Nat.le_of_eq rfl) d_prog_71_method_11_code_18 (by decide) (by decide) ?_
  intro v117 h117 Q117
  obtain ⟨rfl, KC117, xs117, ys117, Hq117⟩ := Q117
  obtain ⟨E117, Fs117, Fd117, Fc117, Vd117, Vc117, lx117, ly117, qd117, qs117, ds117⟩ := id Hq117
  refine g_aloadN C d_prog_71_method_11_code_21 rfl rfl ?_
  refine g_getfield C w_10 Via.refl Fd117 d_prog_71_method_11_code_22 ?_
  refine g_iloadN C d_prog_71_method_11_code_25 rfl ?_
  refine g_iloadN C d_prog_71_method_11_code_26 rfl ?_
  refine g_iastore C Vd117 (List.mem_of_getElem? (i := 0) rfl) d_prog_71_method_11_code_27 b2 _ rfl (by rw [List.length_map, lx117]; exact own_lt b2) ?_
  intro h118 W118 V118
  rw [← List.map_set] at V118
  have l118 : (xs117.set (i2).toNatClampNeg (xs.getD (i1).toNatClampNeg 0)).length = cap.toNatClampNeg := by rw [List.length_set]; exact lx117
  refine g_aloadN C d_prog_71_method_11_code_28 rfl rfl ?_
  have F119 := (Fc117.other W118 (Or.inl qd117))
  refine g_getfield C w_13 Via.refl F119 d_prog_71_method_11_code_29 ?_
  refine g_iloadN C d_prog_71_method_11_code_32 rfl ?_
  refine g_dload C d_prog_71_method_11_code_33 rfl ?_
  have V120 := (Vc117.other W118 (Ne.symm ds117))
  refine g_dastore C V120 (List.mem_of_getElem? (i := 1) rfl) d_prog_71_method_11_code_35 b2 _ rfl (by rw [List.length_map, ly117]; exact own_lt b2) ?_
  intro h121 W121 V121
  rw [← List.map_set] at V121
  have l121 : (ys117.set (i2).toNatClampNeg (ys.getD (i1).toNatClampNeg 0)).length = cap.toNatClampNeg := by rw [List.length_set]; exact ly117
  refine g_return C rfl d_prog_71_method_11_code_36 (by decide) (by decide) ?_
  have E122 := ((E117.wr W118).wr W121)
  have F123 := ((Fs117.other W118 (Or.inl qd117)).other W121 (Or.inl qs117))
  have F124 := ((Fd117.other W118 (Or.inl qd117)).other W121 (Or.inl qs117))
  have F125 := (F119.other W121 (Or.inl qs117))
  have V126 := (V118.other W121 ds117)
  exact ⟨rfl, ((((Keep.refl h0 [d, sc]).trans KC117 (allS (Or.inl (List.mem_of_getElem? (i := 0) rfl)) (allS (Or.inl (List.mem_of_getElem? (i := 1) rfl)) all0))).wr W118 (Or.inl (List.mem_of_getElem? (i := 0) rfl))).wr W121 (Or.inl (List.mem_of_getElem? (i := 1) rfl))), (xs117.set (i2).toNatClampNeg (xs.getD (i1).toNatClampNeg 0)), (ys117.set (i2).toNatClampNeg (ys.getD (i1).toNatClampNeg 0)), ⟨E122, F123, F124, F125, V126, V121, l118, l121, qd117, qs117, ds117⟩⟩
theorem own_half {x cap : Int32} (h : ¬ x < 0 ∧ x < cap) (hp : 0 < x) : (¬ (x - (1 : Int32)) / (2 : Int32) < 0 ∧ (x - (1 : Int32)) / (2 : Int32) < cap) ∧ ((x - (1 : Int32)) / (2 : Int32)).toNatClampNeg < x.toNatClampNeg := by
  obtain ⟨h1, h2⟩ := h
  rw [Int32.lt_iff_toInt_lt] at h1 h2 hp
  have e0 : (0 : Int32).toInt = 0 := rfl
  have e1 : (1 : Int32).toInt = 1 := rfl
  have e2 : (2 : Int32).toInt = 2 := rfl
  have hx := x.toInt_lt
  have s1 : (x - (1 : Int32)).toInt = x.toInt - 1 := by rw [XT.sub32 (by rw [e1]; unfold XT.fits32; omega), e1]
  have s2 : ((x - (1 : Int32)) / (2 : Int32)).toInt = (x.toInt - 1) / 2 := by
    rw [Int32.toInt_div_of_ne_right _ _ (by decide), s1, e2, Int.tdiv_eq_ediv_of_nonneg (by omega)]
  simp only [Int32.lt_iff_toInt_lt, Int32.toNatClampNeg, s2, e0]
  omega

theorem d_prog_71_method_8_code_0 : decode prog_71_method_8_code 0 = .ok (.iload_n 1, 1) := by decide +kernel
theorem d_prog_71_method_8_code_1 : decode prog_71_method_8_code 1 = .ok (.istore_n 2, 1) := by decide +kernel
theorem d_prog_71_method_8_code_2 : decode prog_71_method_8_code 2 = .ok (.iload_n 2, 1) := by decide +kernel
theorem d_prog_71_method_8_code_3 : decode prog_71_method_8_code 3 = .ok (.ifCond .le 35, 3) := by decide +kernel
theorem d_prog_71_method_8_code_6 : decode prog_71_method_8_code 6 = .ok (.aload_n 0, 1) := by decide +kernel
theorem d_prog_71_method_8_code_7 : decode prog_71_method_8_code 7 = .ok (.iload_n 2, 1) := by decide +kernel
theorem d_prog_71_method_8_code_8 : decode prog_71_method_8_code 8 = .ok (.iload_n 2, 1) := by decide +kernel
theorem d_prog_71_method_8_code_9 : decode prog_71_method_8_code 9 = .ok (.iconst 1, 1) := by decide +kernel
theorem d_prog_71_method_8_code_10 : decode prog_71_method_8_code 10 = .ok (.isub, 1) := by decide +kernel
theorem d_prog_71_method_8_code_11 : decode prog_71_method_8_code 11 = .ok (.iconst 2, 1) := by decide +kernel
theorem d_prog_71_method_8_code_12 : decode prog_71_method_8_code 12 = .ok (.idiv, 1) := by decide +kernel
theorem d_prog_71_method_8_code_13 : decode prog_71_method_8_code 13 = .ok (.invokevirtual 47, 3) := by decide +kernel
theorem d_prog_71_method_8_code_16 : decode prog_71_method_8_code 16 = .ok (.ifCond .eq 22, 3) := by decide +kernel
theorem d_prog_71_method_8_code_19 : decode prog_71_method_8_code 19 = .ok (.aload_n 0, 1) := by decide +kernel
theorem d_prog_71_method_8_code_20 : decode prog_71_method_8_code 20 = .ok (.iload_n 2, 1) := by decide +kernel
theorem d_prog_71_method_8_code_21 : decode prog_71_method_8_code 21 = .ok (.iload_n 2, 1) := by decide +kernel
theorem d_prog_71_method_8_code_22 : decode prog_71_method_8_code 22 = .ok (.iconst 1, 1) := by decide +kernel
theorem d_prog_71_method_8_code_23 : decode prog_71_method_8_code 23 = .ok (.isub, 1) := by decide +kernel
theorem d_prog_71_method_8_code_24 : decode prog_71_method_8_code 24 = .ok (.iconst 2, 1) := by decide +kernel
theorem d_prog_71_method_8_code_25 : decode prog_71_method_8_code 25 = .ok (.idiv, 1) := by decide +kernel
theorem d_prog_71_method_8_code_26 : decode prog_71_method_8_code 26 = .ok (.invokevirtual 50, 3) := by decide +kernel
theorem d_prog_71_method_8_code_29 : decode prog_71_method_8_code 29 = .ok (.iload_n 2, 1) := by decide +kernel
theorem d_prog_71_method_8_code_30 : decode prog_71_method_8_code 30 = .ok (.iconst 1, 1) := by decide +kernel
theorem d_prog_71_method_8_code_31 : decode prog_71_method_8_code 31 = .ok (.isub, 1) := by decide +kernel
theorem d_prog_71_method_8_code_32 : decode prog_71_method_8_code 32 = .ok (.iconst 2, 1) := by decide +kernel
theorem d_prog_71_method_8_code_33 : decode prog_71_method_8_code 33 = .ok (.idiv, 1) := by decide +kernel
theorem d_prog_71_method_8_code_34 : decode prog_71_method_8_code 34 = .ok (.istore_n 2, 1) := by decide +kernel
theorem d_prog_71_method_8_code_35 : decode prog_71_method_8_code 35 = .ok (.goto (-33), 3) := by decide +kernel
theorem d_prog_71_method_8_code_38 : decode prog_71_method_8_code 38 = .ok (.return_, 1) := by decide +kernel
theorem pd__II_Z : parseMethodDescriptor "(II)Z" = some ⟨[.int, .int], some .boolean⟩ := by decide +kernel
set_option maxRecDepth 65536 in
set_option maxHeartbeats 40000000 in
theorem rm_su (l : Launch) (Z : State) (a0 : Array Value) (hw : ∀ d ∈ tables_1, d.before a0 Z = true) {ws : List Jvm.Cond} (q d sc : Addr) (kd ks : ClassId) (cap sz : Int32) (xs : List Int32) (ys : List UInt64) (i1 : Int32) (h0 : Heap) (n0 : Nat) (H0 : Hq Z h0 q d sc kd ks cap sz xs ys) (b1 : ¬ i1 < 0 ∧ i1 < cap) :
    Met l Z (⟨"com/example/fama/fama/search/HitQueue", "siftUp", "(I)V"⟩ : MethodName) prog_71_method_8_code 3 none ws ({ frames := 2, cells := 0, slots := 0, locals := 40 } : Room) [d, sc] #[(.ref q), (.int i1)] h0 n0 (nq (fun v h => v = none ∧ Keep h0 h [d, sc] ∧ ∃ xs' ys', Hq Z h q d sc kd ks cap sz xs' ys')) := by
  refine met_of (plainFor_of_name pn_com_example_fama_fama_search_HitQueue) hw #[.val (.ref q), .val (.int i1), .unset] (fun m => by first | rfl | (simp [entryFrame, mkF, argsToLocals, Value.category]; done)) ?_
  intro p e s m below meth c C0
  have C : Cx Z a0 tables_1 p s m meth c "com/example/fama/fama/search/HitQueue" "siftUp" prog_71_method_8_code 3 none n0 := C0
  have loop : ∀ (t : Nat) (cur : Int32) (h1 : Heap) (xs1 : List Int32) (ys1 : List UInt64), cur.toNatClampNeg = t → (¬ cur < 0 ∧ cur < cap) → Hq Z h1 q d sc kd ks cap sz xs1 ys1 → Keep h0 h1 [d, sc] → Go p l e ({ frames := 2, cells := 0, slots := 0, locals := 40 } : Room) s m #[.ref q, .int i1] below meth c n0 (nq (fun v h => v = none ∧ Keep h0 h [d, sc] ∧ ∃ xs' ys', Hq Z h q d sc kd ks cap sz xs' ys')) [d, sc] h1 0 0 (mkF m 2 #[.val (.ref q), .val (.int i1), .val (.int cur)] []) := by
    intro t
    induction t using Nat.strongRecOn with
    | ind t ih =>
      intro cur h1 xs1 ys1 hb4 hb1 H1 hK
      obtain ⟨E0, Fs0, Fd0, Fc0, Vd0, Vc0, lx0, ly0, qd0, qs0, ds0⟩ := id H1
      refine g_iloadN C d_prog_71_method_8_code_2 rfl ?_
      by_cases hc127 : 0 < cur
      · refine g_if_f C d_prog_71_method_8_code_3 (XT.i0_le_f hc127) ?_
        refine g_aloadN C d_prog_71_method_8_code_6 rfl rfl ?_
        refine g_iloadN C d_prog_71_method_8_code_7 rfl ?_
        refine g_iloadN C d_prog_71_method_8_code_8 rfl ?_
        refine g_iconst C 1 d_prog_71_method_8_code_9 rfl ?_
        refine g_isub C d_prog_71_method_8_code_10 ?_
        refine g_iconst C 2 d_prog_71_method_8_code_11 rfl ?_
        refine g_idiv C d_prog_71_method_8_code_12 (by decide) ?_
        refine g_private C E0 w_35 w_36 (fun hZ => ni_inst hw w_1 hZ) w_37 w_38 (by decide) [(.int cur), (.int ((cur - (1 : Int32)) / (2 : Int32)))] (ct_of hw w_38 w_2 (rm_w2 l Z a0 hw q d sc kd ks cap sz xs1 ys1 cur ((cur - (1 : Int32)) / (2 : Int32)) h1 n0 ⟨E0, Fs0, Fd0, Fc0, Vd0, Vc0, lx0, ly0, qd0, qs0, ds0⟩ hb1 (own_half hb1 hc127).1)) all0 (by decide) 0 (by decide) rfl pd__II_Z rfl [] rfl (Nat.le_of_eq rfl) d_prog_71_method_8_code_13 (by decide) (by decide) ?_
        intro v128 h128 Q128
        obtain ⟨r128, rfl, hr128, e128⟩ := Q128
        replace e128 := e128.symm
        subst e128
        by_cases hc129 : r128 = 0
        · refine g_if_t C 38 d_prog_71_method_8_code_16 (XT.i0_eq_t hc129) (by decide) (by decide) ?_
          refine g_return C rfl d_prog_71_method_8_code_38 (by decide) (by decide) ?_
          exact ⟨rfl, hK, xs1, ys1, ⟨E0, Fs0, Fd0, Fc0, Vd0, Vc0, lx0, ly0, qd0, qs0, ds0⟩⟩
        · refine g_if_f C d_prog_71_method_8_code_16 (XT.i0_eq_f hc129) ?_
          refine g_aloadN C d_prog_71_method_8_code_19 rfl rfl ?_
          refine g_iloadN C d_prog_71_method_8_code_20 rfl ?_
          refine g_iloadN C d_prog_71_method_8_code_21 rfl ?_
          refine g_iconst C 1 d_prog_71_method_8_code_22 rfl ?_
          refine g_isub C d_prog_71_method_8_code_23 ?_
          refine g_iconst C 2 d_prog_71_method_8_code_24 rfl ?_
          refine g_idiv C d_prog_71_method_8_code_25 (by decide) ?_
          refine g_private C E0 w_43 w_44 (fun hZ => ni_inst hw w_1 hZ) w_45 w_46 (by decide) [(.int cur), (.int ((cur - (1 : Int32)) / (2 : Int32)))] (ct_of hw w_46 w_2 (rm_sw l Z a0 hw q d sc kd ks cap sz xs1 ys1 cur ((cur - (1 : Int32)) / (2 : Int32)) h1 n0 ⟨E0, Fs0, Fd0, Fc0, Vd0, Vc0, lx0, ly0, qd0, qs0, ds0⟩ hb1 (own_half hb1 hc127).1)) (allS (List.mem_of_getElem? (i := 0) rfl) (allS (List.mem_of_getElem? (i := 1) rfl) all0)) (by decide) 0 (by decide) rfl pd__II_V rfl [] rfl (Nat.le_of_eq rfl) d_prog_71_method_8_code_26 (by decide) (by decide) ?_
          intro v130 h130 Q130
          obtain ⟨rfl, KC130, xs130, ys130, Hq130⟩ := Q130
          obtain ⟨E130, Fs130, Fd130, Fc130, Vd130, Vc130, lx130, ly130, qd130, qs130, ds130⟩ := id Hq130
          refine g_iloadN C d_prog_71_method_8_code_29 rfl ?_
          refine g_iconst C 1 d_prog_71_method_8_code_30 rfl ?_
          refine g_isub C d_prog_71_method_8_code_31 ?_
          refine g_iconst C 2 d_prog_71_method_8_code_32 rfl ?_
          refine g_idiv C d_prog_71_method_8_code_33 (by decide) ?_
          refine g_istoreN C #[.val (.ref q), .val (.int i1), .val (.int ((cur - (1 : Int32)) / (2 : Int32)))] d_prog_71_method_8_code_34 rfl ?_
          refine g_goto C 2 d_prog_71_method_8_code_35 (by decide) (by decide) ?_
          exact ih _ (hb4 ▸ (own_half hb1 hc127).2) ((cur - (1 : Int32)) / (2 : Int32)) _ _ _ rfl (own_half hb1 hc127).1 Hq130 (hK.trans KC130 (allS (Or.inl (List.mem_of_getElem? (i := 0) rfl)) (allS (Or.inl (List.mem_of_getElem? (i := 1) rfl)) all0)))
      · refine g_if_t C 38 d_prog_71_method_8_code_3 (XT.i0_le_t hc127) (by decide) (by decide) ?_
        refine g_return C rfl d_prog_71_method_8_code_38 (by decide) (by decide) ?_
        exact ⟨rfl, hK, xs1, ys1, ⟨E0, Fs0, Fd0, Fc0, Vd0, Vc0, lx0, ly0, qd0, qs0, ds0⟩⟩
  refine g_iloadN C d_prog_71_method_8_code_0 rfl ?_
  refine g_istoreN C #[.val (.ref q), .val (.int i1), .val (.int i1)] d_prog_71_method_8_code_1 rfl ?_
  exact loop _ i1 h0 xs ys rfl b1 H0 (Keep.refl _ _)
theorem own_b {j sz cap : Int32} (h1 : ¬ j < 0) (h2 : j < sz) (h3 : ¬ cap < sz) : ¬ j < 0 ∧ j < cap := by
  refine ⟨h1, ?_⟩
  rw [Int32.lt_iff_toInt_lt] at *; omega
theorem own_big {j sz cap : Int32} (h1 : ¬ j < 3) (h2 : cap < 4) (h3 : ¬ cap < sz) : ¬ j < sz := by
  have e3 : (3 : Int32).toInt = 3 := rfl
  have e4 : (4 : Int32).toInt = 4 := rfl
  rw [Int32.lt_iff_toInt_lt] at *; omega

theorem d_prog_71_method_9_code_0 : decode prog_71_method_9_code 0 = .ok (.iload_n 1, 1) := by decide +kernel
theorem d_prog_71_method_9_code_1 : decode prog_71_method_9_code 1 = .ok (.istore_n 2, 1) := by decide +kernel
theorem d_prog_71_method_9_code_2 : decode prog_71_method_9_code 2 = .ok (.iload_n 2, 1) := by decide +kernel
theorem d_prog_71_method_9_code_3 : decode prog_71_method_9_code 3 = .ok (.istore_n 3, 1) := by decide +kernel
theorem d_prog_71_method_9_code_4 : decode prog_71_method_9_code 4 = .ok (.iload_n 3, 1) := by decide +kernel
theorem d_prog_71_method_9_code_5 : decode prog_71_method_9_code 5 = .ok (.istore_n 2, 1) := by decide +kernel
theorem d_prog_71_method_9_code_6 : decode prog_71_method_9_code 6 = .ok (.iconst 2, 1) := by decide +kernel
theorem d_prog_71_method_9_code_7 : decode prog_71_method_9_code 7 = .ok (.iload_n 2, 1) := by decide +kernel
theorem d_prog_71_method_9_code_8 : decode prog_71_method_9_code 8 = .ok (.imul, 1) := by decide +kernel
theorem d_prog_71_method_9_code_9 : decode prog_71_method_9_code 9 = .ok (.iconst 1, 1) := by decide +kernel
theorem d_prog_71_method_9_code_10 : decode prog_71_method_9_code 10 = .ok (.iadd, 1) := by decide +kernel
theorem d_prog_71_method_9_code_11 : decode prog_71_method_9_code 11 = .ok (.istore 4, 2) := by decide +kernel
theorem d_prog_71_method_9_code_13 : decode prog_71_method_9_code 13 = .ok (.iload 4, 2) := by decide +kernel
theorem d_prog_71_method_9_code_15 : decode prog_71_method_9_code 15 = .ok (.iconst 1, 1) := by decide +kernel
theorem d_prog_71_method_9_code_16 : decode prog_71_method_9_code 16 = .ok (.iadd, 1) := by decide +kernel
theorem d_prog_71_method_9_code_17 : decode prog_71_method_9_code 17 = .ok (.istore 5, 2) := by decide +kernel
theorem d_prog_71_method_9_code_19 : decode prog_71_method_9_code 19 = .ok (.iload 4, 2) := by decide +kernel
theorem d_prog_71_method_9_code_21 : decode prog_71_method_9_code 21 = .ok (.aload_n 0, 1) := by decide +kernel
theorem d_prog_71_method_9_code_22 : decode prog_71_method_9_code 22 = .ok (.getfield 17, 3) := by decide +kernel
theorem d_prog_71_method_9_code_25 : decode prog_71_method_9_code 25 = .ok (.if_icmp .ge 16, 3) := by decide +kernel
theorem d_prog_71_method_9_code_28 : decode prog_71_method_9_code 28 = .ok (.aload_n 0, 1) := by decide +kernel
theorem d_prog_71_method_9_code_29 : decode prog_71_method_9_code 29 = .ok (.iload 4, 2) := by decide +kernel
theorem d_prog_71_method_9_code_31 : decode prog_71_method_9_code 31 = .ok (.iload_n 3, 1) := by decide +kernel
theorem d_prog_71_method_9_code_32 : decode prog_71_method_9_code 32 = .ok (.invokevirtual 47, 3) := by decide +kernel
theorem d_prog_71_method_9_code_35 : decode prog_71_method_9_code 35 = .ok (.ifCond .eq 6, 3) := by decide +kernel
theorem d_prog_71_method_9_code_38 : decode prog_71_method_9_code 38 = .ok (.iload 4, 2) := by decide +kernel
theorem d_prog_71_method_9_code_40 : decode prog_71_method_9_code 40 = .ok (.istore_n 3, 1) := by decide +kernel
theorem d_prog_71_method_9_code_41 : decode prog_71_method_9_code 41 = .ok (.iload 5, 2) := by decide +kernel
theorem d_prog_71_method_9_code_43 : decode prog_71_method_9_code 43 = .ok (.aload_n 0, 1) := by decide +kernel
theorem d_prog_71_method_9_code_44 : decode prog_71_method_9_code 44 = .ok (.getfield 17, 3) := by decide +kernel
theorem d_prog_71_method_9_code_47 : decode prog_71_method_9_code 47 = .ok (.if_icmp .ge 16, 3) := by decide +kernel
theorem d_prog_71_method_9_code_50 : decode prog_71_method_9_code 50 = .ok (.aload_n 0, 1) := by decide +kernel
theorem d_prog_71_method_9_code_51 : decode prog_71_method_9_code 51 = .ok (.iload 5, 2) := by decide +kernel
theorem d_prog_71_method_9_code_53 : decode prog_71_method_9_code 53 = .ok (.iload_n 3, 1) := by decide +kernel
theorem d_prog_71_method_9_code_54 : decode prog_71_method_9_code 54 = .ok (.invokevirtual 47, 3) := by decide +kernel
theorem d_prog_71_method_9_code_57 : decode prog_71_method_9_code 57 = .ok (.ifCond .eq 6, 3) := by decide +kernel
theorem d_prog_71_method_9_code_60 : decode prog_71_method_9_code 60 = .ok (.iload 5, 2) := by decide +kernel
theorem d_prog_71_method_9_code_62 : decode prog_71_method_9_code 62 = .ok (.istore_n 3, 1) := by decide +kernel
theorem d_prog_71_method_9_code_63 : decode prog_71_method_9_code 63 = .ok (.aload_n 0, 1) := by decide +kernel
theorem d_prog_71_method_9_code_64 : decode prog_71_method_9_code 64 = .ok (.iload_n 2, 1) := by decide +kernel
theorem d_prog_71_method_9_code_65 : decode prog_71_method_9_code 65 = .ok (.iload_n 3, 1) := by decide +kernel
theorem d_prog_71_method_9_code_66 : decode prog_71_method_9_code 66 = .ok (.invokevirtual 50, 3) := by decide +kernel
theorem d_prog_71_method_9_code_69 : decode prog_71_method_9_code 69 = .ok (.iload_n 3, 1) := by decide +kernel
theorem d_prog_71_method_9_code_70 : decode prog_71_method_9_code 70 = .ok (.iload_n 2, 1) := by decide +kernel
theorem d_prog_71_method_9_code_71 : decode prog_71_method_9_code 71 = .ok (.if_icmp .ne (-67), 3) := by decide +kernel
theorem d_prog_71_method_9_code_74 : decode prog_71_method_9_code 74 = .ok (.return_, 1) := by decide +kernel
set_option maxRecDepth 65536 in
set_option maxHeartbeats 40000000 in
theorem rm_sd (l : Launch) (Z : State) (a0 : Array Value) (hw : ∀ d ∈ tables_1, d.before a0 Z = true) {ws : List Jvm.Cond} (q d sc : Addr) (kd ks : ClassId) (cap sz : Int32) (xs : List Int32) (ys : List UInt64) (h0 : Heap) (n0 : Nat) (H0 : Hq Z h0 q d sc kd ks cap sz xs ys) (hc0 : 0 < cap) (hc4 : cap < 4) (hsz : ¬ cap < sz) :
    Met l Z (⟨"com/example/fama/fama/search/HitQueue", "siftDown", "(I)V"⟩ : MethodName) prog_71_method_9_code 6 none ws ({ frames := 2, cells := 0, slots := 0, locals := 40 } : Room) [d, sc] #[(.ref q), (.int (0 : Int32))] h0 n0 (nq (fun v h => v = none ∧ Keep h0 h [d, sc] ∧ ∃ xs' ys', Hq Z h q d sc kd ks cap sz xs' ys')) := by
  refine met_of (plainFor_of_name pn_com_example_fama_fama_search_HitQueue) hw #[.val (.ref q), .val (.int (0 : Int32)), .unset, .unset, .unset, .unset] (fun m => by first | rfl | (simp [entryFrame, mkF, argsToLocals, Value.category]; done)) ?_
  intro p e s m below meth c C0
  have C : Cx Z a0 tables_1 p s m meth c "com/example/fama/fama/search/HitQueue" "siftDown" prog_71_method_9_code 6 none n0 := C0
  obtain ⟨E131, Fs131, Fd131, Fc131, Vd131, Vc131, lx131, ly131, qd131, qs131, ds131⟩ := id H0
  refine g_iloadN C d_prog_71_method_9_code_0 rfl ?_
  refine g_istoreN C #[.val (.ref q), .val (.int (0 : Int32)), .val (.int (0 : Int32)), .unset, .unset, .unset] d_prog_71_method_9_code_1 rfl ?_
  refine g_iloadN C d_prog_71_method_9_code_2 rfl ?_
  refine g_istoreN C #[.val (.ref q), .val (.int (0 : Int32)), .val (.int (0 : Int32)), .val (.int (0 : Int32)), .unset, .unset] d_prog_71_method_9_code_3 rfl ?_
  refine g_iloadN C d_prog_71_method_9_code_4 rfl ?_
  refine g_istoreN C #[.val (.ref q), .val (.int (0 : Int32)), .val (.int (0 : Int32)), .val (.int (0 : Int32)), .unset, .unset] d_prog_71_method_9_code_5 rfl ?_
  refine g_iconst C 2 d_prog_71_method_9_code_6 rfl ?_
  refine g_iloadN C d_prog_71_method_9_code_7 rfl ?_
  refine g_imul C d_prog_71_method_9_code_8 ?_
  rw [show ((2 : Int32) * (0 : Int32)) = (0 : Int32) from by decide]
  refine g_iconst C 1 d_prog_71_method_9_code_9 rfl ?_
  refine g_iadd C d_prog_71_method_9_code_10 ?_
  rw [show ((0 : Int32) + (1 : Int32)) = (1 : Int32) from by decide]
  rw [show (1 : Int32) = (1 : Int32) from by decide]
  refine g_istore C #[.val (.ref q), .val (.int (0 : Int32)), .val (.int (0 : Int32)), .val (.int (0 : Int32)), .val (.int (1 : Int32)), .unset] d_prog_71_method_9_code_11 rfl ?_
  refine g_iload C d_prog_71_method_9_code_13 rfl ?_
  refine g_iconst C 1 d_prog_71_method_9_code_15 rfl ?_
  refine g_iadd C d_prog_71_method_9_code_16 ?_
  rw [show ((1 : Int32) + (1 : Int32)) = (2 : Int32) from by decide]
  rw [show (2 : Int32) = (2 : Int32) from by decide]
  refine g_istore C #[.val (.ref q), .val (.int (0 : Int32)), .val (.int (0 : Int32)), .val (.int (0 : Int32)), .val (.int (1 : Int32)), .val (.int (2 : Int32))] d_prog_71_method_9_code_17 rfl ?_
  refine g_iload C d_prog_71_method_9_code_19 rfl ?_
  refine g_aloadN C d_prog_71_method_9_code_21 rfl rfl ?_
  refine g_getfield C w_20 Via.refl Fs131 d_prog_71_method_9_code_22 ?_
  by_cases hc132 : (1 : Int32) < sz
  · refine g_icmp_f C d_prog_71_method_9_code_25 (XT.ii_ge_f hc132) ?_
    refine g_aloadN C d_prog_71_method_9_code_28 rfl rfl ?_
    refine g_iload C d_prog_71_method_9_code_29 rfl ?_
    refine g_iloadN C d_prog_71_method_9_code_31 rfl ?_
    refine g_private C E131 w_35 w_36 (fun hZ => ni_inst hw w_1 hZ) w_37 w_38 (by decide) [(.int (1 : Int32)), (.int (0 : Int32))] (ct_of hw w_38 w_2 (rm_w2 l Z a0 hw q d sc kd ks cap sz xs ys (1 : Int32) (0 : Int32) h0 n0 ⟨E131, Fs131, Fd131, Fc131, Vd131, Vc131, lx131, ly131, qd131, qs131, ds131⟩ (own_b (by decide) hc132 hsz) ⟨by decide, hc0⟩)) all0 (by decide) 0 (by decide) rfl pd__II_Z rfl [] rfl (Nat.le_of_eq rfl) d_prog_71_method_9_code_32 (by decide) (by decide) ?_
    intro v133 h133 Q133
    obtain ⟨r133, rfl, hr133, e133⟩ := Q133
    replace e133 := e133.symm
    subst e133
    by_cases hc134 : r133 = 0
    · refine g_if_t C 41 d_prog_71_method_9_code_35 (XT.i0_eq_t hc134) (by decide) (by decide) ?_
      refine g_iload C d_prog_71_method_9_code_41 rfl ?_
      refine g_aloadN C d_prog_71_method_9_code_43 rfl rfl ?_
      refine g_getfield C w_20 Via.refl Fs131 d_prog_71_method_9_code_44 ?_
      by_cases hc135 : (2 : Int32) < sz
      · refine g_icmp_f C d_prog_71_method_9_code_47 (XT.ii_ge_f hc135) ?_
        refine g_aloadN C d_prog_71_method_9_code_50 rfl rfl ?_
        refine g_iload C d_prog_71_method_9_code_51 rfl ?_
        refine g_iloadN C d_prog_71_method_9_code_53 rfl ?_
        refine g_private C E131 w_35 w_36 (fun hZ => ni_inst hw w_1 hZ) w_37 w_38 (by decide) [(.int (2 : Int32)), (.int (0 : Int32))] (ct_of hw w_38 w_2 (rm_w2 l Z a0 hw q d sc kd ks cap sz xs ys (2 : Int32) (0 : Int32) h0 n0 ⟨E131, Fs131, Fd131, Fc131, Vd131, Vc131, lx131, ly131, qd131, qs131, ds131⟩ (own_b (by decide) hc135 hsz) ⟨by decide, hc0⟩)) all0 (by decide) 0 (by decide) rfl pd__II_Z rfl [] rfl (Nat.le_of_eq rfl) d_prog_71_method_9_code_54 (by decide) (by decide) ?_
        intro v136 h136 Q136
        obtain ⟨r136, rfl, hr136, e136⟩ := Q136
        replace e136 := e136.symm
        subst e136
        by_cases hc137 : r136 = 0
        · refine g_if_t C 63 d_prog_71_method_9_code_57 (XT.i0_eq_t hc137) (by decide) (by decide) ?_
          refine g_aloadN C d_prog_71_method_9_code_63 rfl rfl ?_
          refine g_iloadN C d_prog_71_method_9_code_64 rfl ?_
          refine g_iloadN C d_prog_71_method_9_code_65 rfl ?_
          refine g_private C E131 w_43 w_44 (fun hZ => ni_inst hw w_1 hZ) w_45 w_46 (by decide) [(.int (0 : Int32)), (.int (0 : Int32))] (ct_of hw w_46 w_2 (rm_sw l Z a0 hw q d sc kd ks cap sz xs ys (0 : Int32) (0 : Int32) h0 n0 ⟨E131, Fs131, Fd131, Fc131, Vd131, Vc131, lx131, ly131, qd131, qs131, ds131⟩ ⟨by decide, hc0⟩ ⟨by decide, hc0⟩)) (allS (List.mem_of_getElem? (i := 0) rfl) (allS (List.mem_of_getElem? (i := 1) rfl) all0)) (by decide) 0 (by decide) rfl pd__II_V rfl [] rfl (Nat.le_of_eq rfl) d_prog_71_method_9_code_66 (by decide) (by decide) ?_
          intro v138 h138 Q138
          obtain ⟨rfl, KC138, xs138, ys138, Hq138⟩ := Q138
          obtain ⟨E138, Fs138, Fd138, Fc138, Vd138, Vc138, lx138, ly138, qd138, qs138, ds138⟩ := id Hq138
          refine g_iloadN C d_prog_71_method_9_code_69 rfl ?_
          refine g_iloadN C d_prog_71_method_9_code_70 rfl ?_
          refine g_icmp_f C d_prog_71_method_9_code_71 (XT.ii_ne_f (by decide)) ?_
          refine g_return C rfl d_prog_71_method_9_code_74 (by decide) (by decide) ?_
          exact ⟨rfl, ((Keep.refl h0 [d, sc]).trans KC138 (allS (Or.inl (List.mem_of_getElem? (i := 0) rfl)) (allS (Or.inl (List.mem_of_getElem? (i := 1) rfl)) all0))), xs138, ys138, ⟨E138, Fs138, Fd138, Fc138, Vd138, Vc138, lx138, ly138, qd138, qs138, ds138⟩⟩
        · refine g_if_f C d_prog_71_method_9_code_57 (XT.i0_eq_f hc137) ?_
          refine g_iload C d_prog_71_method_9_code_60 rfl ?_
          refine g_istoreN C #[.val (.ref q), .val (.int (0 : Int32)), .val (.int (0 : Int32)), .val (.int (2 : Int32)), .val (.int (1 : Int32)), .val (.int (2 : Int32))] d_prog_71_method_9_code_62 rfl ?_
          refine g_aloadN C d_prog_71_method_9_code_63 rfl rfl ?_
          refine g_iloadN C d_prog_71_method_9_code_64 rfl ?_
          refine g_iloadN C d_prog_71_method_9_code_65 rfl ?_
          refine g_private C E131 w_43 w_44 (fun hZ => ni_inst hw w_1 hZ) w_45 w_46 (by decide) [(.int (0 : Int32)), (.int (2 : Int32))] (ct_of hw w_46 w_2 (rm_sw l Z a0 hw q d sc kd ks cap sz xs ys (0 : Int32) (2 : Int32) h0 n0 ⟨E131, Fs131, Fd131, Fc131, Vd131, Vc131, lx131, ly131, qd131, qs131, ds131⟩ ⟨by decide, hc0⟩ (own_b (by decide) hc135 hsz))) (allS (List.mem_of_getElem? (i := 0) rfl) (allS (List.mem_of_getElem? (i := 1) rfl) all0)) (by decide) 0 (by decide) rfl pd__II_V rfl [] rfl (Nat.le_of_eq rfl) d_prog_71_method_9_code_66 (by decide) (by decide) ?_
          intro v139 h139 Q139
          obtain ⟨rfl, KC139, xs139, ys139, Hq139⟩ := Q139
          obtain ⟨E139, Fs139, Fd139, Fc139, Vd139, Vc139, lx139, ly139, qd139, qs139, ds139⟩ := id Hq139
          refine g_iloadN C d_prog_71_method_9_code_69 rfl ?_
          refine g_iloadN C d_prog_71_method_9_code_70 rfl ?_
          refine g_icmp_t C 4 d_prog_71_method_9_code_71 (XT.ii_ne_t (by decide)) (by decide) (by decide) ?_
          refine g_iloadN C d_prog_71_method_9_code_4 rfl ?_
          refine g_istoreN C #[.val (.ref q), .val (.int (0 : Int32)), .val (.int (2 : Int32)), .val (.int (2 : Int32)), .val (.int (1 : Int32)), .val (.int (2 : Int32))] d_prog_71_method_9_code_5 rfl ?_
          refine g_iconst C 2 d_prog_71_method_9_code_6 rfl ?_
          refine g_iloadN C d_prog_71_method_9_code_7 rfl ?_
          refine g_imul C d_prog_71_method_9_code_8 ?_
          rw [show ((2 : Int32) * (2 : Int32)) = (4 : Int32) from by decide]
          refine g_iconst C 1 d_prog_71_method_9_code_9 rfl ?_
          refine g_iadd C d_prog_71_method_9_code_10 ?_
          rw [show ((4 : Int32) + (1 : Int32)) = (5 : Int32) from by decide]
          rw [show (5 : Int32) = (5 : Int32) from by decide]
          refine g_istore C #[.val (.ref q), .val (.int (0 : Int32)), .val (.int (2 : Int32)), .val (.int (2 : Int32)), .val (.int (5 : Int32)), .val (.int (2 : Int32))] d_prog_71_method_9_code_11 rfl ?_
          refine g_iload C d_prog_71_method_9_code_13 rfl ?_
          refine g_iconst C 1 d_prog_71_method_9_code_15 rfl ?_
          refine g_iadd C d_prog_71_method_9_code_16 ?_
          rw [show ((5 : Int32) + (1 : Int32)) = (6 : Int32) from by decide]
          rw [show (6 : Int32) = (6 : Int32) from by decide]
          refine g_istore C #[.val (.ref q), .val (.int (0 : Int32)), .val (.int (2 : Int32)), .val (.int (2 : Int32)), .val (.int (5 : Int32)), .val (.int (6 : Int32))] d_prog_71_method_9_code_17 rfl ?_
          refine g_iload C d_prog_71_method_9_code_19 rfl ?_
          refine g_aloadN C d_prog_71_method_9_code_21 rfl rfl ?_
          refine g_getfield C w_20 Via.refl Fs139 d_prog_71_method_9_code_22 ?_
          refine g_icmp_t C 41 d_prog_71_method_9_code_25 (XT.ii_ge_t (own_big (by decide) hc4 hsz)) (by decide) (by decide) ?_
          refine g_iload C d_prog_71_method_9_code_41 rfl ?_
          refine g_aloadN C d_prog_71_method_9_code_43 rfl rfl ?_
          refine g_getfield C w_20 Via.refl Fs139 d_prog_71_method_9_code_44 ?_
          refine g_icmp_t C 63 d_prog_71_method_9_code_47 (XT.ii_ge_t (own_big (by decide) hc4 hsz)) (by decide) (by decide) ?_
          refine g_aloadN C d_prog_71_method_9_code_63 rfl rfl ?_
          refine g_iloadN C d_prog_71_method_9_code_64 rfl ?_
          refine g_iloadN C d_prog_71_method_9_code_65 rfl ?_
          refine g_private C E139 w_43 w_44 (fun hZ => ni_inst hw w_1 hZ) w_45 w_46 (by decide) [(.int (2 : Int32)), (.int (2 : Int32))] (ct_of hw w_46 w_2 (rm_sw l Z a0 hw q d sc kd ks cap sz xs139 ys139 (2 : Int32) (2 : Int32) h139 n0 ⟨E139, Fs139, Fd139, Fc139, Vd139, Vc139, lx139, ly139, qd139, qs139, ds139⟩ (own_b (by decide) hc135 hsz) (own_b (by decide) hc135 hsz))) (allS (List.mem_of_getElem? (i := 0) rfl) (allS (List.mem_of_getElem? (i := 1) rfl) all0)) (by decide) 0 (by decide) rfl pd__II_V rfl [] rfl (Nat.le_of_eq rfl) d_prog_71_method_9_code_66 (by decide) (by decide) ?_
          intro v140 h140 Q140
          obtain ⟨rfl, KC140, xs140, ys140, Hq140⟩ := Q140
          obtain ⟨E140, Fs140, Fd140, Fc140, Vd140, Vc140, lx140, ly140, qd140, qs140, ds140⟩ := id Hq140
          refine g_iloadN C d_prog_71_method_9_code_69 rfl ?_
          refine g_iloadN C d_prog_71_method_9_code_70 rfl ?_
          refine g_icmp_f C d_prog_71_method_9_code_71 (XT.ii_ne_f (by decide)) ?_
          refine g_return C rfl d_prog_71_method_9_code_74 (by decide) (by decide) ?_
          exact ⟨rfl, (((Keep.refl h0 [d, sc]).trans KC139 (allS (Or.inl (List.mem_of_getElem? (i := 0) rfl)) (allS (Or.inl (List.mem_of_getElem? (i := 1) rfl)) all0))).trans KC140 (allS (Or.inl (List.mem_of_getElem? (i := 0) rfl)) (allS (Or.inl (List.mem_of_getElem? (i := 1) rfl)) all0))), xs140, ys140, ⟨E140, Fs140, Fd140, Fc140, Vd140, Vc140, lx140, ly140, qd140, qs140, ds140⟩⟩
      · refine g_icmp_t C 63 d_prog_71_method_9_code_47 (XT.ii_ge_t hc135) (by decide) (by decide) ?_
        refine g_aloadN C d_prog_71_method_9_code_63 rfl rfl ?_
        refine g_iloadN C d_prog_71_method_9_code_64 rfl ?_
        refine g_iloadN C d_prog_71_method_9_code_65 rfl ?_
        refine g_private C E131 w_43 w_44 (fun hZ => ni_inst hw w_1 hZ) w_45 w_46 (by decide) [(.int (0 : Int32)), (.int (0 : Int32))] (ct_of hw w_46 w_2 (rm_sw l Z a0 hw q d sc kd ks cap sz xs ys (0 : Int32) (0 : Int32) h0 n0 ⟨E131, Fs131, Fd131, Fc131, Vd131, Vc131, lx131, ly131, qd131, qs131, ds131⟩ ⟨by decide, hc0⟩ ⟨by decide, hc0⟩)) (allS (List.mem_of_getElem? (i := 0) rfl) (allS (List.mem_of_getElem? (i := 1) rfl) all0)) (by decide) 0 (by decide) rfl pd__II_V rfl [] rfl (Nat.le_of_eq rfl) d_prog_71_method_9_code_66 (by decide) (by decide) ?_
        intro v141 h141 Q141
        obtain ⟨rfl, KC141, xs141, ys141, Hq141⟩ := Q141
        obtain ⟨E141, Fs141, Fd141, Fc141, Vd141, Vc141, lx141, ly141, qd141, qs141, ds141⟩ := id Hq141
        refine g_iloadN C d_prog_71_method_9_code_69 rfl ?_
        refine g_iloadN C d_prog_71_method_9_code_70 rfl ?_
        refine g_icmp_f C d_prog_71_method_9_code_71 (XT.ii_ne_f (by decide)) ?_
        refine g_return C rfl d_prog_71_method_9_code_74 (by decide) (by decide) ?_
        exact ⟨rfl, ((Keep.refl h0 [d, sc]).trans KC141 (allS (Or.inl (List.mem_of_getElem? (i := 0) rfl)) (allS (Or.inl (List.mem_of_getElem? (i := 1) rfl)) all0))), xs141, ys141, ⟨E141, Fs141, Fd141, Fc141, Vd141, Vc141, lx141, ly141, qd141, qs141, ds141⟩⟩
    · refine g_if_f C d_prog_71_method_9_code_35 (XT.i0_eq_f hc134) ?_
      refine g_iload C d_prog_71_method_9_code_38 rfl ?_
      refine g_istoreN C #[.val (.ref q), .val (.int (0 : Int32)), .val (.int (0 : Int32)), .val (.int (1 : Int32)), .val (.int (1 : Int32)), .val (.int (2 : Int32))] d_prog_71_method_9_code_40 rfl ?_
      refine g_iload C d_prog_71_method_9_code_41 rfl ?_
      refine g_aloadN C d_prog_71_method_9_code_43 rfl rfl ?_
      refine g_getfield C w_20 Via.refl Fs131 d_prog_71_method_9_code_44 ?_
      by_cases hc142 : (2 : Int32) < sz
      · refine g_icmp_f C d_prog_71_method_9_code_47 (XT.ii_ge_f hc142) ?_
        refine g_aloadN C d_prog_71_method_9_code_50 rfl rfl ?_
        refine g_iload C d_prog_71_method_9_code_51 rfl ?_
        refine g_iloadN C d_prog_71_method_9_code_53 rfl ?_
        refine g_private C E131 w_35 w_36 (fun hZ => ni_inst hw w_1 hZ) w_37 w_38 (by decide) [(.int (2 : Int32)), (.int (1 : Int32))] (ct_of hw w_38 w_2 (rm_w2 l Z a0 hw q d sc kd ks cap sz xs ys (2 : Int32) (1 : Int32) h0 n0 ⟨E131, Fs131, Fd131, Fc131, Vd131, Vc131, lx131, ly131, qd131, qs131, ds131⟩ (own_b (by decide) hc142 hsz) (own_b (by decide) hc132 hsz))) all0 (by decide) 0 (by decide) rfl pd__II_Z rfl [] rfl (Nat.le_of_eq rfl) d_prog_71_method_9_code_54 (by decide) (by decide) ?_
        intro v143 h143 Q143
        obtain ⟨r143, rfl, hr143, e143⟩ := Q143
        replace e143 := e143.symm
        subst e143
        by_cases hc144 : r143 = 0
        · refine g_if_t C 63 d_prog_71_method_9_code_57 (XT.i0_eq_t hc144) (by decide) (by decide) ?_
          refine g_aloadN C d_prog_71_method_9_code_63 rfl rfl ?_
          refine g_iloadN C d_prog_71_method_9_code_64 rfl ?_
          refine g_iloadN C d_prog_71_method_9_code_65 rfl ?_
          refine g_private C E131 w_43 w_44 (fun hZ => ni_inst hw w_1 hZ) w_45 w_46 (by decide) [(.int (0 : Int32)), (.int (1 : Int32))] (ct_of hw w_46 w_2 (rm_sw l Z a0 hw q d sc kd ks cap sz xs ys (0 : Int32) (1 : Int32) h0 n0 ⟨E131, Fs131, Fd131, Fc131, Vd131, Vc131, lx131, ly131, qd131, qs131, ds131⟩ ⟨by decide, hc0⟩ (own_b (by decide) hc132 hsz))) (allS (List.mem_of_getElem? (i := 0) rfl) (allS (List.mem_of_getElem? (i := 1) rfl) all0)) (by decide) 0 (by decide) rfl pd__II_V rfl [] rfl (Nat.le_of_eq rfl) d_prog_71_method_9_code_66 (by decide) (by decide) ?_
          intro v145 h145 Q145
          obtain ⟨rfl, KC145, xs145, ys145, Hq145⟩ := Q145
          obtain ⟨E145, Fs145, Fd145, Fc145, Vd145, Vc145, lx145, ly145, qd145, qs145, ds145⟩ := id Hq145
          refine g_iloadN C d_prog_71_method_9_code_69 rfl ?_
          refine g_iloadN C d_prog_71_method_9_code_70 rfl ?_
          refine g_icmp_t C 4 d_prog_71_method_9_code_71 (XT.ii_ne_t (by decide)) (by decide) (by decide) ?_
          refine g_iloadN C d_prog_71_method_9_code_4 rfl ?_
          refine g_istoreN C #[.val (.ref q), .val (.int (0 : Int32)), .val (.int (1 : Int32)), .val (.int (1 : Int32)), .val (.int (1 : Int32)), .val (.int (2 : Int32))] d_prog_71_method_9_code_5 rfl ?_
          refine g_iconst C 2 d_prog_71_method_9_code_6 rfl ?_
          refine g_iloadN C d_prog_71_method_9_code_7 rfl ?_
          refine g_imul C d_prog_71_method_9_code_8 ?_
          rw [show ((2 : Int32) * (1 : Int32)) = (2 : Int32) from by decide]
          refine g_iconst C 1 d_prog_71_method_9_code_9 rfl ?_
          refine g_iadd C d_prog_71_method_9_code_10 ?_
          rw [show ((2 : Int32) + (1 : Int32)) = (3 : Int32) from by decide]
          rw [show (3 : Int32) = (3 : Int32) from by decide]
          refine g_istore C #[.val (.ref q), .val (.int (0 : Int32)), .val (.int (1 : Int32)), .val (.int (1 : Int32)), .val (.int (3 : Int32)), .val (.int (2 : Int32))] d_prog_71_method_9_code_11 rfl ?_
          refine g_iload C d_prog_71_method_9_code_13 rfl ?_
          refine g_iconst C 1 d_prog_71_method_9_code_15 rfl ?_
          refine g_iadd C d_prog_71_method_9_code_16 ?_
          rw [show ((3 : Int32) + (1 : Int32)) = (4 : Int32) from by decide]
          rw [show (4 : Int32) = (4 : Int32) from by decide]
          refine g_istore C #[.val (.ref q), .val (.int (0 : Int32)), .val (.int (1 : Int32)), .val (.int (1 : Int32)), .val (.int (3 : Int32)), .val (.int (4 : Int32))] d_prog_71_method_9_code_17 rfl ?_
          refine g_iload C d_prog_71_method_9_code_19 rfl ?_
          refine g_aloadN C d_prog_71_method_9_code_21 rfl rfl ?_
          refine g_getfield C w_20 Via.refl Fs145 d_prog_71_method_9_code_22 ?_
          refine g_icmp_t C 41 d_prog_71_method_9_code_25 (XT.ii_ge_t (own_big (by decide) hc4 hsz)) (by decide) (by decide) ?_
          refine g_iload C d_prog_71_method_9_code_41 rfl ?_
          refine g_aloadN C d_prog_71_method_9_code_43 rfl rfl ?_
          refine g_getfield C w_20 Via.refl Fs145 d_prog_71_method_9_code_44 ?_
          refine g_icmp_t C 63 d_prog_71_method_9_code_47 (XT.ii_ge_t (own_big (by decide) hc4 hsz)) (by decide) (by decide) ?_
          refine g_aloadN C d_prog_71_method_9_code_63 rfl rfl ?_
          refine g_iloadN C d_prog_71_method_9_code_64 rfl ?_
          refine g_iloadN C d_prog_71_method_9_code_65 rfl ?_
          refine g_private C E145 w_43 w_44 (fun hZ => ni_inst hw w_1 hZ) w_45 w_46 (by decide) [(.int (1 : Int32)), (.int (1 : Int32))] (ct_of hw w_46 w_2 (rm_sw l Z a0 hw q d sc kd ks cap sz xs145 ys145 (1 : Int32) (1 : Int32) h145 n0 ⟨E145, Fs145, Fd145, Fc145, Vd145, Vc145, lx145, ly145, qd145, qs145, ds145⟩ (own_b (by decide) hc132 hsz) (own_b (by decide) hc132 hsz))) (allS (List.mem_of_getElem? (i := 0) rfl) (allS (List.mem_of_getElem? (i := 1) rfl) all0)) (by decide) 0 (by decide) rfl pd__II_V rfl [] rfl (Nat.le_of_eq rfl) d_prog_71_method_9_code_66 (by decide) (by decide) ?_
          intro v146 h146 Q146
          obtain ⟨rfl, KC146, xs146, ys146, Hq146⟩ := Q146
          obtain ⟨E146, Fs146, Fd146, Fc146, Vd146, Vc146, lx146, ly146, qd146, qs146, ds146⟩ := id Hq146
          refine g_iloadN C d_prog_71_method_9_code_69 rfl ?_
          refine g_iloadN C d_prog_71_method_9_code_70 rfl ?_
          refine g_icmp_f C d_prog_71_method_9_code_71 (XT.ii_ne_f (by decide)) ?_
          refine g_return C rfl d_prog_71_method_9_code_74 (by decide) (by decide) ?_
          exact ⟨rfl, (((Keep.refl h0 [d, sc]).trans KC145 (allS (Or.inl (List.mem_of_getElem? (i := 0) rfl)) (allS (Or.inl (List.mem_of_getElem? (i := 1) rfl)) all0))).trans KC146 (allS (Or.inl (List.mem_of_getElem? (i := 0) rfl)) (allS (Or.inl (List.mem_of_getElem? (i := 1) rfl)) all0))), xs146, ys146, ⟨E146, Fs146, Fd146, Fc146, Vd146, Vc146, lx146, ly146, qd146, qs146, ds146⟩⟩
        · refine g_if_f C d_prog_71_method_9_code_57 (XT.i0_eq_f hc144) ?_
          refine g_iload C d_prog_71_method_9_code_60 rfl ?_
          refine g_istoreN C #[.val (.ref q), .val (.int (0 : Int32)), .val (.int (0 : Int32)), .val (.int (2 : Int32)), .val (.int (1 : Int32)), .val (.int (2 : Int32))] d_prog_71_method_9_code_62 rfl ?_
          refine g_aloadN C d_prog_71_method_9_code_63 rfl rfl ?_
          refine g_iloadN C d_prog_71_method_9_code_64 rfl ?_
          refine g_iloadN C d_prog_71_method_9_code_65 rfl ?_
          refine g_private C E131 w_43 w_44 (fun hZ => ni_inst hw w_1 hZ) w_45 w_46 (by decide) [(.int (0 : Int32)), (.int (2 : Int32))] (ct_of hw w_46 w_2 (rm_sw l Z a0 hw q d sc kd ks cap sz xs ys (0 : Int32) (2 : Int32) h0 n0 ⟨E131, Fs131, Fd131, Fc131, Vd131, Vc131, lx131, ly131, qd131, qs131, ds131⟩ ⟨by decide, hc0⟩ (own_b (by decide) hc142 hsz))) (allS (List.mem_of_getElem? (i := 0) rfl) (allS (List.mem_of_getElem? (i := 1) rfl) all0)) (by decide) 0 (by decide) rfl pd__II_V rfl [] rfl (Nat.le_of_eq rfl) d_prog_71_method_9_code_66 (by decide) (by decide) ?_
          intro v147 h147 Q147
          obtain ⟨rfl, KC147, xs147, ys147, Hq147⟩ := Q147
          obtain ⟨E147, Fs147, Fd147, Fc147, Vd147, Vc147, lx147, ly147, qd147, qs147, ds147⟩ := id Hq147
          refine g_iloadN C d_prog_71_method_9_code_69 rfl ?_
          refine g_iloadN C d_prog_71_method_9_code_70 rfl ?_
          refine g_icmp_t C 4 d_prog_71_method_9_code_71 (XT.ii_ne_t (by decide)) (by decide) (by decide) ?_
          refine g_iloadN C d_prog_71_method_9_code_4 rfl ?_
          refine g_istoreN C #[.val (.ref q), .val (.int (0 : Int32)), .val (.int (2 : Int32)), .val (.int (2 : Int32)), .val (.int (1 : Int32)), .val (.int (2 : Int32))] d_prog_71_method_9_code_5 rfl ?_
          refine g_iconst C 2 d_prog_71_method_9_code_6 rfl ?_
          refine g_iloadN C d_prog_71_method_9_code_7 rfl ?_
          refine g_imul C d_prog_71_method_9_code_8 ?_
          rw [show ((2 : Int32) * (2 : Int32)) = (4 : Int32) from by decide]
          refine g_iconst C 1 d_prog_71_method_9_code_9 rfl ?_
          refine g_iadd C d_prog_71_method_9_code_10 ?_
          rw [show ((4 : Int32) + (1 : Int32)) = (5 : Int32) from by decide]
          rw [show (5 : Int32) = (5 : Int32) from by decide]
          refine g_istore C #[.val (.ref q), .val (.int (0 : Int32)), .val (.int (2 : Int32)), .val (.int (2 : Int32)), .val (.int (5 : Int32)), .val (.int (2 : Int32))] d_prog_71_method_9_code_11 rfl ?_
          refine g_iload C d_prog_71_method_9_code_13 rfl ?_
          refine g_iconst C 1 d_prog_71_method_9_code_15 rfl ?_
          refine g_iadd C d_prog_71_method_9_code_16 ?_
          rw [show ((5 : Int32) + (1 : Int32)) = (6 : Int32) from by decide]
          rw [show (6 : Int32) = (6 : Int32) from by decide]
          refine g_istore C #[.val (.ref q), .val (.int (0 : Int32)), .val (.int (2 : Int32)), .val (.int (2 : Int32)), .val (.int (5 : Int32)), .val (.int (6 : Int32))] d_prog_71_method_9_code_17 rfl ?_
          refine g_iload C d_prog_71_method_9_code_19 rfl ?_
          refine g_aloadN C d_prog_71_method_9_code_21 rfl rfl ?_
          refine g_getfield C w_20 Via.refl Fs147 d_prog_71_method_9_code_22 ?_
          refine g_icmp_t C 41 d_prog_71_method_9_code_25 (XT.ii_ge_t (own_big (by decide) hc4 hsz)) (by decide) (by decide) ?_
          refine g_iload C d_prog_71_method_9_code_41 rfl ?_
          refine g_aloadN C d_prog_71_method_9_code_43 rfl rfl ?_
          refine g_getfield C w_20 Via.refl Fs147 d_prog_71_method_9_code_44 ?_
          refine g_icmp_t C 63 d_prog_71_method_9_code_47 (XT.ii_ge_t (own_big (by decide) hc4 hsz)) (by decide) (by decide) ?_
          refine g_aloadN C d_prog_71_method_9_code_63 rfl rfl ?_
          refine g_iloadN C d_prog_71_method_9_code_64 rfl ?_
          refine g_iloadN C d_prog_71_method_9_code_65 rfl ?_
          refine g_private C E147 w_43 w_44 (fun hZ => ni_inst hw w_1 hZ) w_45 w_46 (by decide) [(.int (2 : Int32)), (.int (2 : Int32))] (ct_of hw w_46 w_2 (rm_sw l Z a0 hw q d sc kd ks cap sz xs147 ys147 (2 : Int32) (2 : Int32) h147 n0 ⟨E147, Fs147, Fd147, Fc147, Vd147, Vc147, lx147, ly147, qd147, qs147, ds147⟩ (own_b (by decide) hc142 hsz) (own_b (by decide) hc142 hsz))) (allS (List.mem_of_getElem? (i := 0) rfl) (allS (List.mem_of_getElem? (i := 1) rfl) all0)) (by decide) 0 (by decide) rfl pd__II_V rfl [] rfl (Nat.le_of_eq rfl) d_prog_71_method_9_code_66 (by decide) (by decide) ?_
          intro v148 h148 Q148
          obtain ⟨rfl, KC148, xs148, ys148, Hq148⟩ := Q148
          obtain ⟨E148, Fs148, Fd148, Fc148, Vd148, Vc148, lx148, ly148, qd148, qs148, ds148⟩ := id Hq148
          refine g_iloadN C d_prog_71_method_9_code_69 rfl ?_
          refine g_iloadN C d_prog_71_method_9_code_70 rfl ?_
          refine g_icmp_f C d_prog_71_method_9_code_71 (XT.ii_ne_f (by decide)) ?_
          refine g_return C rfl d_prog_71_method_9_code_74 (by decide) (by decide) ?_
          exact ⟨rfl, (((Keep.refl h0 [d, sc]).trans KC147 (allS (Or.inl (List.mem_of_getElem? (i := 0) rfl)) (allS (Or.inl (List.mem_of_getElem? (i := 1) rfl)) all0))).trans KC148 (allS (Or.inl (List.mem_of_getElem? (i := 0) rfl)) (allS (Or.inl (List.mem_of_getElem? (i := 1) rfl)) all0))), xs148, ys148, ⟨E148, Fs148, Fd148, Fc148, Vd148, Vc148, lx148, ly148, qd148, qs148, ds148⟩⟩
      · refine g_icmp_t C 63 d_prog_71_method_9_code_47 (XT.ii_ge_t hc142) (by decide) (by decide) ?_
        refine g_aloadN C d_prog_71_method_9_code_63 rfl rfl ?_
        refine g_iloadN C d_prog_71_method_9_code_64 rfl ?_
        refine g_iloadN C d_prog_71_method_9_code_65 rfl ?_
        refine g_private C E131 w_43 w_44 (fun hZ => ni_inst hw w_1 hZ) w_45 w_46 (by decide) [(.int (0 : Int32)), (.int (1 : Int32))] (ct_of hw w_46 w_2 (rm_sw l Z a0 hw q d sc kd ks cap sz xs ys (0 : Int32) (1 : Int32) h0 n0 ⟨E131, Fs131, Fd131, Fc131, Vd131, Vc131, lx131, ly131, qd131, qs131, ds131⟩ ⟨by decide, hc0⟩ (own_b (by decide) hc132 hsz))) (allS (List.mem_of_getElem? (i := 0) rfl) (allS (List.mem_of_getElem? (i := 1) rfl) all0)) (by decide) 0 (by decide) rfl pd__II_V rfl [] rfl (Nat.le_of_eq rfl) d_prog_71_method_9_code_66 (by decide) (by decide) ?_
        intro v149 h149 Q149
        obtain ⟨rfl, KC149, xs149, ys149, Hq149⟩ := Q149
        obtain ⟨E149, Fs149, Fd149, Fc149, Vd149, Vc149, lx149, ly149, qd149, qs149, ds149⟩ := id Hq149
        refine g_iloadN C d_prog_71_method_9_code_69 rfl ?_
        refine g_iloadN C d_prog_71_method_9_code_70 rfl ?_
        refine g_icmp_t C 4 d_prog_71_method_9_code_71 (XT.ii_ne_t (by decide)) (by decide) (by decide) ?_
        refine g_iloadN C d_prog_71_method_9_code_4 rfl ?_
        refine g_istoreN C #[.val (.ref q), .val (.int (0 : Int32)), .val (.int (1 : Int32)), .val (.int (1 : Int32)), .val (.int (1 : Int32)), .val (.int (2 : Int32))] d_prog_71_method_9_code_5 rfl ?_
        refine g_iconst C 2 d_prog_71_method_9_code_6 rfl ?_
        refine g_iloadN C d_prog_71_method_9_code_7 rfl ?_
        refine g_imul C d_prog_71_method_9_code_8 ?_
        rw [show ((2 : Int32) * (1 : Int32)) = (2 : Int32) from by decide]
        refine g_iconst C 1 d_prog_71_method_9_code_9 rfl ?_
        refine g_iadd C d_prog_71_method_9_code_10 ?_
        rw [show ((2 : Int32) + (1 : Int32)) = (3 : Int32) from by decide]
        rw [show (3 : Int32) = (3 : Int32) from by decide]
        refine g_istore C #[.val (.ref q), .val (.int (0 : Int32)), .val (.int (1 : Int32)), .val (.int (1 : Int32)), .val (.int (3 : Int32)), .val (.int (2 : Int32))] d_prog_71_method_9_code_11 rfl ?_
        refine g_iload C d_prog_71_method_9_code_13 rfl ?_
        refine g_iconst C 1 d_prog_71_method_9_code_15 rfl ?_
        refine g_iadd C d_prog_71_method_9_code_16 ?_
        rw [show ((3 : Int32) + (1 : Int32)) = (4 : Int32) from by decide]
        rw [show (4 : Int32) = (4 : Int32) from by decide]
        refine g_istore C #[.val (.ref q), .val (.int (0 : Int32)), .val (.int (1 : Int32)), .val (.int (1 : Int32)), .val (.int (3 : Int32)), .val (.int (4 : Int32))] d_prog_71_method_9_code_17 rfl ?_
        refine g_iload C d_prog_71_method_9_code_19 rfl ?_
        refine g_aloadN C d_prog_71_method_9_code_21 rfl rfl ?_
        refine g_getfield C w_20 Via.refl Fs149 d_prog_71_method_9_code_22 ?_
        refine g_icmp_t C 41 d_prog_71_method_9_code_25 (XT.ii_ge_t (own_big (by decide) hc4 hsz)) (by decide) (by decide) ?_
        refine g_iload C d_prog_71_method_9_code_41 rfl ?_
        refine g_aloadN C d_prog_71_method_9_code_43 rfl rfl ?_
        refine g_getfield C w_20 Via.refl Fs149 d_prog_71_method_9_code_44 ?_
        refine g_icmp_t C 63 d_prog_71_method_9_code_47 (XT.ii_ge_t (own_big (by decide) hc4 hsz)) (by decide) (by decide) ?_
        refine g_aloadN C d_prog_71_method_9_code_63 rfl rfl ?_
        refine g_iloadN C d_prog_71_method_9_code_64 rfl ?_
        refine g_iloadN C d_prog_71_method_9_code_65 rfl ?_
        refine g_private C E149 w_43 w_44 (fun hZ => ni_inst hw w_1 hZ) w_45 w_46 (by decide) [(.int (1 : Int32)), (.int (1 : Int32))] (ct_of hw w_46 w_2 (rm_sw l Z a0 hw q d sc kd ks cap sz xs149 ys149 (1 : Int32) (1 : Int32) h149 n0 ⟨E149, Fs149, Fd149, Fc149, Vd149, Vc149, lx149, ly149, qd149, qs149, ds149⟩ (own_b (by decide) hc132 hsz) (own_b (by decide) hc132 hsz))) (allS (List.mem_of_getElem? (i := 0) rfl) (allS (List.mem_of_getElem? (i := 1) rfl) all0)) (by decide) 0 (by decide) rfl pd__II_V rfl [] rfl (Nat.le_of_eq rfl) d_prog_71_method_9_code_66 (by decide) (by decide) ?_
        intro v150 h150 Q150
        obtain ⟨rfl, KC150, xs150, ys150, Hq150⟩ := Q150
        obtain ⟨E150, Fs150, Fd150, Fc150, Vd150, Vc150, lx150, ly150, qd150, qs150, ds150⟩ := id Hq150
        refine g_iloadN C d_prog_71_method_9_code_69 rfl ?_
        refine g_iloadN C d_prog_71_method_9_code_70 rfl ?_
        refine g_icmp_f C d_prog_71_method_9_code_71 (XT.ii_ne_f (by decide)) ?_
        refine g_return C rfl d_prog_71_method_9_code_74 (by decide) (by decide) ?_
        exact ⟨rfl, (((Keep.refl h0 [d, sc]).trans KC149 (allS (Or.inl (List.mem_of_getElem? (i := 0) rfl)) (allS (Or.inl (List.mem_of_getElem? (i := 1) rfl)) all0))).trans KC150 (allS (Or.inl (List.mem_of_getElem? (i := 0) rfl)) (allS (Or.inl (List.mem_of_getElem? (i := 1) rfl)) all0))), xs150, ys150, ⟨E150, Fs150, Fd150, Fc150, Vd150, Vc150, lx150, ly150, qd150, qs150, ds150⟩⟩
  · refine g_icmp_t C 41 d_prog_71_method_9_code_25 (XT.ii_ge_t hc132) (by decide) (by decide) ?_
    refine g_iload C d_prog_71_method_9_code_41 rfl ?_
    refine g_aloadN C d_prog_71_method_9_code_43 rfl rfl ?_
    refine g_getfield C w_20 Via.refl Fs131 d_prog_71_method_9_code_44 ?_
    by_cases hc151 : (2 : Int32) < sz
    · refine g_icmp_f C d_prog_71_method_9_code_47 (XT.ii_ge_f hc151) ?_
      refine g_aloadN C d_prog_71_method_9_code_50 rfl rfl ?_
      refine g_iload C d_prog_71_method_9_code_51 rfl ?_
      refine g_iloadN C d_prog_71_method_9_code_53 rfl ?_
      refine g_private C E131 w_35 w_36 (fun hZ => ni_inst hw w_1 hZ) w_37 w_38 (by decide) [(.int (2 : Int32)), (.int (0 : Int32))] (ct_of hw w_38 w_2 (rm_w2 l Z a0 hw q d sc kd ks cap sz xs ys (2 : Int32) (0 : Int32) h0 n0 ⟨E131, Fs131, Fd131, Fc131, Vd131, Vc131, lx131, ly131, qd131, qs131, ds131⟩ (own_b (by decide) hc151 hsz) ⟨by decide, hc0⟩)) all0 (by decide) 0 (by decide) rfl pd__II_Z rfl [] rfl (Nat.le_of_eq rfl) d_prog_71_method_9_code_54 (by decide) (by decide) ?_
      intro v152 h152 Q152
      obtain ⟨r152, rfl, hr152, e152⟩ := Q152
      replace e152 := e152.symm
      subst e152
      by_cases hc153 : r152 = 0
      · refine g_if_t C 63 d_prog_71_method_9_code_57 (XT.i0_eq_t hc153) (by decide) (by decide) ?_
        refine g_aloadN C d_prog_71_method_9_code_63 rfl rfl ?_
        refine g_iloadN C d_prog_71_method_9_code_64 rfl ?_
        refine g_iloadN C d_prog_71_method_9_code_65 rfl ?_
        refine g_private C E131 w_43 w_44 (fun hZ => ni_inst hw w_1 hZ) w_45 w_46 (by decide) [(.int (0 : Int32)), (.int (0 : Int32))] (ct_of hw w_46 w_2 (rm_sw l Z a0 hw q d sc kd ks cap sz xs ys (0 : Int32) (0 : Int32) h0 n0 ⟨E131, Fs131, Fd131, Fc131, Vd131, Vc131, lx131, ly131, qd131, qs131, ds131⟩ ⟨by decide, hc0⟩ ⟨by decide, hc0⟩)) (allS (List.mem_of_getElem? (i := 0) rfl) (allS (List.mem_of_getElem? (i := 1) rfl) all0)) (by decide) 0 (by decide) rfl pd__II_V rfl [] rfl (Nat.le_of_eq rfl) d_prog_71_method_9_code_66 (by decide) (by decide) ?_
        intro v154 h154 Q154
        obtain ⟨rfl, KC154, xs154, ys154, Hq154⟩ := Q154
        obtain ⟨E154, Fs154, Fd154, Fc154, Vd154, Vc154, lx154, ly154, qd154, qs154, ds154⟩ := id Hq154
        refine g_iloadN C d_prog_71_method_9_code_69 rfl ?_
        refine g_iloadN C d_prog_71_method_9_code_70 rfl ?_
        refine g_icmp_f C d_prog_71_method_9_code_71 (XT.ii_ne_f (by decide)) ?_
        refine g_return C rfl d_prog_71_method_9_code_74 (by decide) (by decide) ?_
        exact ⟨rfl, ((Keep.refl h0 [d, sc]).trans KC154 (allS (Or.inl (List.mem_of_getElem? (i := 0) rfl)) (allS (Or.inl (List.mem_of_getElem? (i := 1) rfl)) all0))), xs154, ys154, ⟨E154, Fs154, Fd154, Fc154, Vd154, Vc154, lx154, ly154, qd154, qs154, ds154⟩⟩
      · refine g_if_f C d_prog_71_method_9_code_57 (XT.i0_eq_f hc153) ?_
        refine g_iload C d_prog_71_method_9_code_60 rfl ?_
        refine g_istoreN C #[.val (.ref q), .val (.int (0 : Int32)), .val (.int (0 : Int32)), .val (.int (2 : Int32)), .val (.int (1 : Int32)), .val (.int (2 : Int32))] d_prog_71_method_9_code_62 rfl ?_
        refine g_aloadN C d_prog_71_method_9_code_63 rfl rfl ?_
        refine g_iloadN C d_prog_71_method_9_code_64 rfl ?_
        refine g_iloadN C d_prog_71_method_9_code_65 rfl ?_
        refine g_private C E131 w_43 w_44 (fun hZ => ni_inst hw w_1 hZ) w_45 w_46 (by decide) [(.int (0 : Int32)), (.int (2 : Int32))] (ct_of hw w_46 w_2 (rm_sw l Z a0 hw q d sc kd ks cap sz xs ys (0 : Int32) (2 : Int32) h0 n0 ⟨E131, Fs131, Fd131, Fc131, Vd131, Vc131, lx131, ly131, qd131, qs131, ds131⟩ ⟨by decide, hc0⟩ (own_b (by decide) hc151 hsz))) (allS (List.mem_of_getElem? (i := 0) rfl) (allS (List.mem_of_getElem? (i := 1) rfl) all0)) (by decide) 0 (by decide) rfl pd__II_V rfl [] rfl (Nat.le_of_eq rfl) d_prog_71_method_9_code_66 (by decide) (by decide) ?_
        intro v155 h155 Q155
        obtain ⟨rfl, KC155, xs155, ys155, Hq155⟩ := Q155
        obtain ⟨E155, Fs155, Fd155, Fc155, Vd155, Vc155, lx155, ly155, qd155, qs155, ds155⟩ := id Hq155
        refine g_iloadN C d_prog_71_method_9_code_69 rfl ?_
        refine g_iloadN C d_prog_71_method_9_code_70 rfl ?_
        refine g_icmp_t C 4 d_prog_71_method_9_code_71 (XT.ii_ne_t (by decide)) (by decide) (by decide) ?_
        refine g_iloadN C d_prog_71_method_9_code_4 rfl ?_
        refine g_istoreN C #[.val (.ref q), .val (.int (0 : Int32)), .val (.int (2 : Int32)), .val (.int (2 : Int32)), .val (.int (1 : Int32)), .val (.int (2 : Int32))] d_prog_71_method_9_code_5 rfl ?_
        refine g_iconst C 2 d_prog_71_method_9_code_6 rfl ?_
        refine g_iloadN C d_prog_71_method_9_code_7 rfl ?_
        refine g_imul C d_prog_71_method_9_code_8 ?_
        rw [show ((2 : Int32) * (2 : Int32)) = (4 : Int32) from by decide]
        refine g_iconst C 1 d_prog_71_method_9_code_9 rfl ?_
        refine g_iadd C d_prog_71_method_9_code_10 ?_
        rw [show ((4 : Int32) + (1 : Int32)) = (5 : Int32) from by decide]
        rw [show (5 : Int32) = (5 : Int32) from by decide]
        refine g_istore C #[.val (.ref q), .val (.int (0 : Int32)), .val (.int (2 : Int32)), .val (.int (2 : Int32)), .val (.int (5 : Int32)), .val (.int (2 : Int32))] d_prog_71_method_9_code_11 rfl ?_
        refine g_iload C d_prog_71_method_9_code_13 rfl ?_
        refine g_iconst C 1 d_prog_71_method_9_code_15 rfl ?_
        refine g_iadd C d_prog_71_method_9_code_16 ?_
        rw [show ((5 : Int32) + (1 : Int32)) = (6 : Int32) from by decide]
        rw [show (6 : Int32) = (6 : Int32) from by decide]
        refine g_istore C #[.val (.ref q), .val (.int (0 : Int32)), .val (.int (2 : Int32)), .val (.int (2 : Int32)), .val (.int (5 : Int32)), .val (.int (6 : Int32))] d_prog_71_method_9_code_17 rfl ?_
        refine g_iload C d_prog_71_method_9_code_19 rfl ?_
        refine g_aloadN C d_prog_71_method_9_code_21 rfl rfl ?_
        refine g_getfield C w_20 Via.refl Fs155 d_prog_71_method_9_code_22 ?_
        refine g_icmp_t C 41 d_prog_71_method_9_code_25 (XT.ii_ge_t (own_big (by decide) hc4 hsz)) (by decide) (by decide) ?_
        refine g_iload C d_prog_71_method_9_code_41 rfl ?_
        refine g_aloadN C d_prog_71_method_9_code_43 rfl rfl ?_
        refine g_getfield C w_20 Via.refl Fs155 d_prog_71_method_9_code_44 ?_
        refine g_icmp_t C 63 d_prog_71_method_9_code_47 (XT.ii_ge_t (own_big (by decide) hc4 hsz)) (by decide) (by decide) ?_
        refine g_aloadN C d_prog_71_method_9_code_63 rfl rfl ?_
        refine g_iloadN C d_prog_71_method_9_code_64 rfl ?_
        refine g_iloadN C d_prog_71_method_9_code_65 rfl ?_
        refine g_private C E155 w_43 w_44 (fun hZ => ni_inst hw w_1 hZ) w_45 w_46 (by decide) [(.int (2 : Int32)), (.int (2 : Int32))] (ct_of hw w_46 w_2 (rm_sw l Z a0 hw q d sc kd ks cap sz xs155 ys155 (2 : Int32) (2 : Int32) h155 n0 ⟨E155, Fs155, Fd155, Fc155, Vd155, Vc155, lx155, ly155, qd155, qs155, ds155⟩ (own_b (by decide) hc151 hsz) (own_b (by decide) hc151 hsz))) (allS (List.mem_of_getElem? (i := 0) rfl) (allS (List.mem_of_getElem? (i := 1) rfl) all0)) (by decide) 0 (by decide) rfl pd__II_V rfl [] rfl (Nat.le_of_eq rfl) d_prog_71_method_9_code_66 (by decide) (by decide) ?_
        intro v156 h156 Q156
        obtain ⟨rfl, KC156, xs156, ys156, Hq156⟩ := Q156
        obtain ⟨E156, Fs156, Fd156, Fc156, Vd156, Vc156, lx156, ly156, qd156, qs156, ds156⟩ := id Hq156
        refine g_iloadN C d_prog_71_method_9_code_69 rfl ?_
        refine g_iloadN C d_prog_71_method_9_code_70 rfl ?_
        refine g_icmp_f C d_prog_71_method_9_code_71 (XT.ii_ne_f (by decide)) ?_
        refine g_return C rfl d_prog_71_method_9_code_74 (by decide) (by decide) ?_
        exact ⟨rfl, (((Keep.refl h0 [d, sc]).trans KC155 (allS (Or.inl (List.mem_of_getElem? (i := 0) rfl)) (allS (Or.inl (List.mem_of_getElem? (i := 1) rfl)) all0))).trans KC156 (allS (Or.inl (List.mem_of_getElem? (i := 0) rfl)) (allS (Or.inl (List.mem_of_getElem? (i := 1) rfl)) all0))), xs156, ys156, ⟨E156, Fs156, Fd156, Fc156, Vd156, Vc156, lx156, ly156, qd156, qs156, ds156⟩⟩
    · refine g_icmp_t C 63 d_prog_71_method_9_code_47 (XT.ii_ge_t hc151) (by decide) (by decide) ?_
      refine g_aloadN C d_prog_71_method_9_code_63 rfl rfl ?_
      refine g_iloadN C d_prog_71_method_9_code_64 rfl ?_
      refine g_iloadN C d_prog_71_method_9_code_65 rfl ?_
      refine g_private C E131 w_43 w_44 (fun hZ => ni_inst hw w_1 hZ) w_45 w_46 (by decide) [(.int (0 : Int32)), (.int (0 : Int32))] (ct_of hw w_46 w_2 (rm_sw l Z a0 hw q d sc kd ks cap sz xs ys (0 : Int32) (0 : Int32) h0 n0 ⟨E131, Fs131, Fd131, Fc131, Vd131, Vc131, lx131, ly131, qd131, qs131, ds131⟩ ⟨by decide, hc0⟩ ⟨by decide, hc0⟩)) (allS (List.mem_of_getElem? (i := 0) rfl) (allS (List.mem_of_getElem? (i := 1) rfl) all0)) (by decide) 0 (by decide) rfl pd__II_V rfl [] rfl (Nat.le_of_eq rfl) d_prog_71_method_9_code_66 (by decide) (by decide) ?_
      intro v157 h157 Q157
      obtain ⟨rfl, KC157, xs157, ys157, Hq157⟩ := Q157
      obtain ⟨E157, Fs157, Fd157, Fc157, Vd157, Vc157, lx157, ly157, qd157, qs157, ds157⟩ := id Hq157
      refine g_iloadN C d_prog_71_method_9_code_69 rfl ?_
      refine g_iloadN C d_prog_71_method_9_code_70 rfl ?_
      refine g_icmp_f C d_prog_71_method_9_code_71 (XT.ii_ne_f (by decide)) ?_
      refine g_return C rfl d_prog_71_method_9_code_74 (by decide) (by decide) ?_
      exact ⟨rfl, ((Keep.refl h0 [d, sc]).trans KC157 (allS (Or.inl (List.mem_of_getElem? (i := 0) rfl)) (allS (Or.inl (List.mem_of_getElem? (i := 1) rfl)) all0))), xs157, ys157, ⟨E157, Fs157, Fd157, Fc157, Vd157, Vc157, lx157, ly157, qd157, qs157, ds157⟩⟩
theorem d_prog_71_method_3_code_0 : decode prog_71_method_3_code 0 = .ok (.aload_n 0, 1) := by decide +kernel
theorem d_prog_71_method_3_code_1 : decode prog_71_method_3_code 1 = .ok (.getfield 17, 3) := by decide +kernel
theorem d_prog_71_method_3_code_4 : decode prog_71_method_3_code 4 = .ok (.aload_n 0, 1) := by decide +kernel
theorem d_prog_71_method_3_code_5 : decode prog_71_method_3_code 5 = .ok (.getfield 7, 3) := by decide +kernel
theorem d_prog_71_method_3_code_8 : decode prog_71_method_3_code 8 = .ok (.arraylength, 1) := by decide +kernel
theorem d_prog_71_method_3_code_9 : decode prog_71_method_3_code 9 = .ok (.if_icmp .ne 7, 3) := by decide +kernel
theorem d_prog_71_method_3_code_12 : decode prog_71_method_3_code 12 = .ok (.iconst 1, 1) := by decide +kernel
theorem d_prog_71_method_3_code_13 : decode prog_71_method_3_code 13 = .ok (.goto 4, 3) := by decide +kernel
theorem d_prog_71_method_3_code_16 : decode prog_71_method_3_code 16 = .ok (.iconst 0, 1) := by decide +kernel
theorem d_prog_71_method_3_code_17 : decode prog_71_method_3_code 17 = .ok (.ireturn, 1) := by decide +kernel
set_option maxRecDepth 65536 in
set_option maxHeartbeats 40000000 in
theorem rm_if (l : Launch) (Z : State) (a0 : Array Value) (hw : ∀ d ∈ tables_1, d.before a0 Z = true) {ws : List Jvm.Cond} (q d sc : Addr) (kd ks : ClassId) (cap sz : Int32) (xs : List Int32) (ys : List UInt64) (h0 : Heap) (n0 : Nat) (H0 : Hq Z h0 q d sc kd ks cap sz xs ys) :
    Met l Z (⟨"com/example/fama/fama/search/HitQueue", "isFull", "()Z"⟩ : MethodName) prog_71_method_3_code 1 (some .boolean) ws ({ frames := 0, cells := 0, slots := 0, locals := 0 } : Room) [] #[(.ref q)] h0 n0 (nq (fun v h => v = some (.int (if sz = cap then 1 else 0)) ∧ h = h0)) := by
  refine met_of (plainFor_of_name pn_com_example_fama_fama_search_HitQueue) hw #[.val (.ref q)] (fun m => by first | rfl | (simp [entryFrame, mkF, argsToLocals, Value.category]; done)) ?_
  intro p e s m below meth c C0
  have C : Cx Z a0 tables_1 p s m meth c "com/example/fama/fama/search/HitQueue" "isFull" prog_71_method_3_code 1 (some .boolean) n0 := C0
  obtain ⟨E158, Fs158, Fd158, Fc158, Vd158, Vc158, lx158, ly158, qd158, qs158, ds158⟩ := id H0
  refine g_aloadN C d_prog_71_method_3_code_0 rfl rfl ?_
  refine g_getfield C w_20 Via.refl Fs158 d_prog_71_method_3_code_1 ?_
  refine g_aloadN C d_prog_71_method_3_code_4 rfl rfl ?_
  refine g_getfield C w_10 Via.refl Fd158 d_prog_71_method_3_code_5 ?_
  refine g_arraylength C Vd158 d_prog_71_method_3_code_8 ?_
  by_cases hc159 : sz = cap
  · refine g_icmp_f C d_prog_71_method_3_code_9 (XT.ii_ne_f hc159) ?_
    refine g_iconst C 1 d_prog_71_method_3_code_12 rfl ?_
    refine g_goto C 17 d_prog_71_method_3_code_13 (by decide) (by decide) ?_
    refine g_ireturnN C (t := .boolean) rfl (by simp) d_prog_71_method_3_code_17 (by decide) (by decide) ?_
    exact ⟨by simp [nar, hc159] <;> decide, rfl⟩
  · refine g_icmp_t C 16 d_prog_71_method_3_code_9 (XT.ii_ne_t hc159) (by decide) (by decide) ?_
    refine g_iconst C 0 d_prog_71_method_3_code_16 rfl ?_
    refine g_ireturnN C (t := .boolean) rfl (by simp) d_prog_71_method_3_code_17 (by decide) (by decide) ?_
    exact ⟨by simp [nar, hc159] <;> decide, rfl⟩
theorem own_addsub (x : Int32) : x + (1 : Int32) - (1 : Int32) = x := Int32.add_sub_cancel ..

theorem d_prog_71_method_2_code_0 : decode prog_71_method_2_code 0 = .ok (.aload_n 0, 1) := by decide +kernel
theorem d_prog_71_method_2_code_1 : decode prog_71_method_2_code 1 = .ok (.getfield 17, 3) := by decide +kernel
theorem d_prog_71_method_2_code_4 : decode prog_71_method_2_code 4 = .ok (.aload_n 0, 1) := by decide +kernel
theorem d_prog_71_method_2_code_5 : decode prog_71_method_2_code 5 = .ok (.getfield 7, 3) := by decide +kernel
theorem d_prog_71_method_2_code_8 : decode prog_71_method_2_code 8 = .ok (.arraylength, 1) := by decide +kernel
theorem d_prog_71_method_2_code_9 : decode prog_71_method_2_code 9 = .ok (.if_icmp .ge 46, 3) := by decide +kernel
theorem d_prog_71_method_2_code_12 : decode prog_71_method_2_code 12 = .ok (.aload_n 0, 1) := by decide +kernel
theorem d_prog_71_method_2_code_13 : decode prog_71_method_2_code 13 = .ok (.getfield 7, 3) := by decide +kernel
theorem d_prog_71_method_2_code_16 : decode prog_71_method_2_code 16 = .ok (.aload_n 0, 1) := by decide +kernel
theorem d_prog_71_method_2_code_17 : decode prog_71_method_2_code 17 = .ok (.getfield 17, 3) := by decide +kernel
theorem d_prog_71_method_2_code_20 : decode prog_71_method_2_code 20 = .ok (.iload_n 1, 1) := by decide +kernel
theorem d_prog_71_method_2_code_21 : decode prog_71_method_2_code 21 = .ok (.iastore, 1) := by decide +kernel
theorem d_prog_71_method_2_code_22 : decode prog_71_method_2_code 22 = .ok (.aload_n 0, 1) := by decide +kernel
theorem d_prog_71_method_2_code_23 : decode prog_71_method_2_code 23 = .ok (.getfield 13, 3) := by decide +kernel
theorem d_prog_71_method_2_code_26 : decode prog_71_method_2_code 26 = .ok (.aload_n 0, 1) := by decide +kernel
theorem d_prog_71_method_2_code_27 : decode prog_71_method_2_code 27 = .ok (.getfield 17, 3) := by decide +kernel
theorem d_prog_71_method_2_code_30 : decode prog_71_method_2_code 30 = .ok (.dload_n 2, 1) := by decide +kernel
theorem d_prog_71_method_2_code_31 : decode prog_71_method_2_code 31 = .ok (.dastore, 1) := by decide +kernel
theorem d_prog_71_method_2_code_32 : decode prog_71_method_2_code 32 = .ok (.aload_n 0, 1) := by decide +kernel
theorem d_prog_71_method_2_code_33 : decode prog_71_method_2_code 33 = .ok (.dup, 1) := by decide +kernel
theorem d_prog_71_method_2_code_34 : decode prog_71_method_2_code 34 = .ok (.getfield 17, 3) := by decide +kernel
theorem d_prog_71_method_2_code_37 : decode prog_71_method_2_code 37 = .ok (.iconst 1, 1) := by decide +kernel
theorem d_prog_71_method_2_code_38 : decode prog_71_method_2_code 38 = .ok (.iadd, 1) := by decide +kernel
theorem d_prog_71_method_2_code_39 : decode prog_71_method_2_code 39 = .ok (.putfield 17, 3) := by decide +kernel
theorem d_prog_71_method_2_code_42 : decode prog_71_method_2_code 42 = .ok (.aload_n 0, 1) := by decide +kernel
theorem d_prog_71_method_2_code_43 : decode prog_71_method_2_code 43 = .ok (.aload_n 0, 1) := by decide +kernel
theorem d_prog_71_method_2_code_44 : decode prog_71_method_2_code 44 = .ok (.getfield 17, 3) := by decide +kernel
theorem d_prog_71_method_2_code_47 : decode prog_71_method_2_code 47 = .ok (.iconst 1, 1) := by decide +kernel
theorem d_prog_71_method_2_code_48 : decode prog_71_method_2_code 48 = .ok (.isub, 1) := by decide +kernel
theorem d_prog_71_method_2_code_49 : decode prog_71_method_2_code 49 = .ok (.invokevirtual 21, 3) := by decide +kernel
theorem d_prog_71_method_2_code_52 : decode prog_71_method_2_code 52 = .ok (.goto 42, 3) := by decide +kernel
theorem d_prog_71_method_2_code_55 : decode prog_71_method_2_code 55 = .ok (.aload_n 0, 1) := by decide +kernel
theorem d_prog_71_method_2_code_56 : decode prog_71_method_2_code 56 = .ok (.getfield 7, 3) := by decide +kernel
theorem d_prog_71_method_2_code_59 : decode prog_71_method_2_code 59 = .ok (.iconst 0, 1) := by decide +kernel
theorem d_prog_71_method_2_code_60 : decode prog_71_method_2_code 60 = .ok (.iaload, 1) := by decide +kernel
theorem d_prog_71_method_2_code_61 : decode prog_71_method_2_code 61 = .ok (.aload_n 0, 1) := by decide +kernel
theorem d_prog_71_method_2_code_62 : decode prog_71_method_2_code 62 = .ok (.getfield 13, 3) := by decide +kernel
theorem d_prog_71_method_2_code_65 : decode prog_71_method_2_code 65 = .ok (.iconst 0, 1) := by decide +kernel
theorem d_prog_71_method_2_code_66 : decode prog_71_method_2_code 66 = .ok (.daload, 1) := by decide +kernel
theorem d_prog_71_method_2_code_67 : decode prog_71_method_2_code 67 = .ok (.iload_n 1, 1) := by decide +kernel
theorem d_prog_71_method_2_code_68 : decode prog_71_method_2_code 68 = .ok (.dload_n 2, 1) := by decide +kernel
theorem d_prog_71_method_2_code_69 : decode prog_71_method_2_code 69 = .ok (.invokestatic 25, 3) := by decide +kernel
theorem d_prog_71_method_2_code_72 : decode prog_71_method_2_code 72 = .ok (.ifCond .eq 22, 3) := by decide +kernel
theorem d_prog_71_method_2_code_75 : decode prog_71_method_2_code 75 = .ok (.aload_n 0, 1) := by decide +kernel
theorem d_prog_71_method_2_code_76 : decode prog_71_method_2_code 76 = .ok (.getfield 7, 3) := by decide +kernel
theorem d_prog_71_method_2_code_79 : decode prog_71_method_2_code 79 = .ok (.iconst 0, 1) := by decide +kernel
theorem d_prog_71_method_2_code_80 : decode prog_71_method_2_code 80 = .ok (.iload_n 1, 1) := by decide +kernel
theorem d_prog_71_method_2_code_81 : decode prog_71_method_2_code 81 = .ok (.iastore, 1) := by decide +kernel
theorem d_prog_71_method_2_code_82 : decode prog_71_method_2_code 82 = .ok (.aload_n 0, 1) := by decide +kernel
theorem d_prog_71_method_2_code_83 : decode prog_71_method_2_code 83 = .ok (.getfield 13, 3) := by decide +kernel
theorem d_prog_71_method_2_code_86 : decode prog_71_method_2_code 86 = .ok (.iconst 0, 1) := by decide +kernel
theorem d_prog_71_method_2_code_87 : decode prog_71_method_2_code 87 = .ok (.dload_n 2, 1) := by decide +kernel
theorem d_prog_71_method_2_code_88 : decode prog_71_method_2_code 88 = .ok (.dastore, 1) := by decide +kernel
theorem d_prog_71_method_2_code_89 : decode prog_71_method_2_code 89 = .ok (.aload_n 0, 1) := by decide +kernel
theorem d_prog_71_method_2_code_90 : decode prog_71_method_2_code 90 = .ok (.iconst 0, 1) := by decide +kernel
theorem d_prog_71_method_2_code_91 : decode prog_71_method_2_code 91 = .ok (.invokevirtual 29, 3) := by decide +kernel
theorem d_prog_71_method_2_code_94 : decode prog_71_method_2_code 94 = .ok (.return_, 1) := by decide +kernel
theorem pd__I_V : parseMethodDescriptor "(I)V" = some ⟨[.int], none⟩ := by decide +kernel
set_option maxRecDepth 65536 in
set_option maxHeartbeats 40000000 in
theorem rm_of (l : Launch) (Z : State) (a0 : Array Value) (hw : ∀ d ∈ tables_1, d.before a0 Z = true) {ws : List Jvm.Cond} (q d sc : Addr) (kd ks : ClassId) (cap sz : Int32) (xs : List Int32) (ys : List UInt64) (p1 : Int32) (s1 : UInt64) (h0 : Heap) (n0 : Nat) (H0 : Hq Z h0 q d sc kd ks cap sz xs ys) (hc0 : 0 < cap) (hc4 : cap < 4) (hsz : ¬ cap < sz) (hs0 : ¬ sz < 0) :
    Met l Z (⟨"com/example/fama/fama/search/HitQueue", "offer", "(ID)V"⟩ : MethodName) prog_71_method_2_code 4 none ws ({ frames := 3, cells := 0, slots := 0, locals := 60 } : Room) [q, d, sc] #[(.ref q), (.int p1), (.double s1)] h0 n0 (nq (fun v h => v = none ∧ Keep h0 h [q, d, sc] ∧ ∃ xs' ys', Hq Z h q d sc kd ks cap (if sz < cap then sz + 1 else sz) xs' ys')) := by
  refine met_of (plainFor_of_name pn_com_example_fama_fama_search_HitQueue) hw #[.val (.ref q), .val (.int p1), .val (.double s1), .second] (fun m => by first | rfl | (simp [entryFrame, mkF, argsToLocals, Value.category]; done)) ?_
  intro p e s m below meth c C0
  have C : Cx Z a0 tables_1 p s m meth c "com/example/fama/fama/search/HitQueue" "offer" prog_71_method_2_code 4 none n0 := C0
  obtain ⟨E160, Fs160, Fd160, Fc160, Vd160, Vc160, lx160, ly160, qd160, qs160, ds160⟩ := id H0
  refine g_aloadN C d_prog_71_method_2_code_0 rfl rfl ?_
  refine g_getfield C w_20 Via.refl Fs160 d_prog_71_method_2_code_1 ?_
  refine g_aloadN C d_prog_71_method_2_code_4 rfl rfl ?_
  refine g_getfield C w_10 Via.refl Fd160 d_prog_71_method_2_code_5 ?_
  refine g_arraylength C Vd160 d_prog_71_method_2_code_8 ?_
  by_cases hc161 : sz < cap
  · refine g_icmp_f C d_prog_71_method_2_code_9 (XT.ii_ge_f hc161) ?_
    refine g_aloadN C d_prog_71_method_2_code_12 rfl rfl ?_
    refine g_getfield C w_10 Via.refl Fd160 d_prog_71_method_2_code_13 ?_
    refine g_aloadN C d_prog_71_method_2_code_16 rfl rfl ?_
    refine g_getfield C w_20 Via.refl Fs160 d_prog_71_method_2_code_17 ?_
    refine g_iloadN C d_prog_71_method_2_code_20 rfl ?_
    refine g_iastore C Vd160 (List.mem_of_getElem? (i := 1) rfl) d_prog_71_method_2_code_21 ⟨hs0, hc161⟩ _ rfl (by rw [List.length_map, lx160]; exact own_lt ⟨hs0, hc161⟩) ?_
    intro h162 W162 V162
    rw [← List.map_set] at V162
    have l162 : (xs.set (sz).toNatClampNeg p1).length = cap.toNatClampNeg := by rw [List.length_set]; exact lx160
    refine g_aloadN C d_prog_71_method_2_code_22 rfl rfl ?_
    have F163 := (Fc160.other W162 (Or.inl qd160))
    refine g_getfield C w_13 Via.refl F163 d_prog_71_method_2_code_23 ?_
    refine g_aloadN C d_prog_71_method_2_code_26 rfl rfl ?_
    have F164 := (Fs160.other W162 (Or.inl qd160))
    refine g_getfield C w_20 Via.refl F164 d_prog_71_method_2_code_27 ?_
    refine g_dloadN C d_prog_71_method_2_code_30 rfl ?_
    have V165 := (Vc160.other W162 (Ne.symm ds160))
    refine g_dastore C V165 (List.mem_of_getElem? (i := 2) rfl) d_prog_71_method_2_code_31 ⟨hs0, hc161⟩ _ rfl (by rw [List.length_map, ly160]; exact own_lt ⟨hs0, hc161⟩) ?_
    intro h166 W166 V166
    rw [← List.map_set] at V166
    have l166 : (ys.set (sz).toNatClampNeg s1).length = cap.toNatClampNeg := by rw [List.length_set]; exact ly160
    refine g_aloadN C d_prog_71_method_2_code_32 rfl rfl ?_
    refine g_dup C d_prog_71_method_2_code_33 rfl ?_
    have F167 := (F164.other W166 (Or.inl qs160))
    refine g_getfield C w_20 Via.refl F167 d_prog_71_method_2_code_34 ?_
    refine g_iconst C 1 d_prog_71_method_2_code_37 rfl ?_
    refine g_iadd C d_prog_71_method_2_code_38 ?_
    have E168 := ((E160.wr W162).wr W166)
    refine g_putfield C .int w_20 Via.refl F167 E168 (Or.inl w_21) w_1 (by decide) rfl rfl (List.mem_of_getElem? (i := 0) rfl) d_prog_71_method_2_code_39 ?_
    intro h169 W169 F169
    refine g_aloadN C d_prog_71_method_2_code_42 rfl rfl ?_
    refine g_aloadN C d_prog_71_method_2_code_43 rfl rfl ?_
    refine g_getfield C w_20 Via.refl F169 d_prog_71_method_2_code_44 ?_
    refine g_iconst C 1 d_prog_71_method_2_code_47 rfl ?_
    refine g_isub C d_prog_71_method_2_code_48 ?_
    have E170 := (E168.wr W169)
    have F171 := (((Fd160.other W162 (Or.inl qd160)).other W166 (Or.inl qs160)).other W169 (Or.inr (slot_ne (Or.inr (C.hw w_11)) (Or.inl (C.hw w_21)) (by decide) (t := (.array .int)) (t' := .int) (by decide) (by decide))))
    have F172 := ((F163.other W166 (Or.inl qs160)).other W169 (Or.inr (slot_ne (Or.inr (C.hw w_14)) (Or.inl (C.hw w_21)) (by decide) (t := (.array .double)) (t' := .int) (by decide) (by decide))))
    have V173 := ((V162.other W166 ds160).other W169 (Ne.symm qd160))
    have V174 := (V166.other W169 (Ne.symm qs160))
    refine g_private C E170 w_28 w_29 (fun hZ => ni_inst hw w_1 hZ) w_30 w_31 (by decide) [(.int ((sz + (1 : Int32)) - (1 : Int32)))] (ct_of hw w_31 w_2 (rm_su l Z a0 hw q d sc kd ks cap (sz + (1 : Int32)) (xs.set (sz).toNatClampNeg p1) (ys.set (sz).toNatClampNeg s1) ((sz + (1 : Int32)) - (1 : Int32)) h169 n0 ⟨E170, F169, F171, F172, V173, V174, l162, l166, qd160, qs160, ds160⟩ ((own_addsub sz).symm ▸ ⟨hs0, hc161⟩))) (allS (List.mem_of_getElem? (i := 1) rfl) (allS (List.mem_of_getElem? (i := 2) rfl) all0)) (by decide) 0 (by decide) rfl pd__I_V rfl [] rfl (Nat.le_of_eq rfl) d_prog_71_method_2_code_49 (by decide) (by decide) ?_
    intro v175 h175 Q175
    obtain ⟨rfl, KC175, xs175, ys175, Hq175⟩ := Q175
    obtain ⟨E175, Fs175, Fd175, Fc175, Vd175, Vc175, lx175, ly175, qd175, qs175, ds175⟩ := id Hq175
    refine g_goto C 94 d_prog_71_method_2_code_52 (by decide) (by decide) ?_
    refine g_return C rfl d_prog_71_method_2_code_94 (by decide) (by decide) ?_
    exact ⟨rfl, (((((Keep.refl h0 [q, d, sc]).wr W162 (Or.inl (List.mem_of_getElem? (i := 1) rfl))).wr W166 (Or.inl (List.mem_of_getElem? (i := 2) rfl))).wr W169 (Or.inl (List.mem_of_getElem? (i := 0) rfl))).trans KC175 (allS (Or.inl (List.mem_of_getElem? (i := 1) rfl)) (allS (Or.inl (List.mem_of_getElem? (i := 2) rfl)) all0))), xs175, ys175, by rw [if_pos hc161]; exact ⟨E175, Fs175, Fd175, Fc175, Vd175, Vc175, lx175, ly175, qd175, qs175, ds175⟩⟩
  · refine g_icmp_t C 55 d_prog_71_method_2_code_9 (XT.ii_ge_t hc161) (by decide) (by decide) ?_
    refine g_aloadN C d_prog_71_method_2_code_55 rfl rfl ?_
    refine g_getfield C w_10 Via.refl Fd160 d_prog_71_method_2_code_56 ?_
    refine g_iconst C 0 d_prog_71_method_2_code_59 rfl ?_
    refine g_iaload C Vd160 d_prog_71_method_2_code_60 ⟨by decide, hc0⟩ (own_getI _ _) ?_
    refine g_aloadN C d_prog_71_method_2_code_61 rfl rfl ?_
    refine g_getfield C w_13 Via.refl Fc160 d_prog_71_method_2_code_62 ?_
    refine g_iconst C 0 d_prog_71_method_2_code_65 rfl ?_
    refine g_daload C Vc160 d_prog_71_method_2_code_66 ⟨by decide, hc0⟩ (own_getD _ _) ?_
    refine g_iloadN C d_prog_71_method_2_code_67 rfl ?_
    refine g_dloadN C d_prog_71_method_2_code_68 rfl ?_
    refine g_static C w_32 w_33 w_2 w_34 (by decide) [(.int (xs.getD ((0 : Int32)).toNatClampNeg 0)), (.double (ys.getD ((0 : Int32)).toNatClampNeg 0)), (.int p1), (.double s1)] (ct_of hw w_34 w_2 (rm_w4 l Z a0 hw (xs.getD ((0 : Int32)).toNatClampNeg 0) p1 (ys.getD ((0 : Int32)).toNatClampNeg 0) s1 h0 n0 )) all0 (by decide) 0 (by decide) rfl pd__IDID_Z rfl [] rfl (Nat.le_of_eq rfl) d_prog_71_method_2_code_69 (by decide) (by decide) ?_
    intro v176 h176 Q176
    obtain ⟨r176, rfl, hr176, e176⟩ := Q176
    replace e176 := e176.symm
    subst e176
    by_cases hc177 : r176 = 0
    · refine g_if_t C 94 d_prog_71_method_2_code_72 (XT.i0_eq_t hc177) (by decide) (by decide) ?_
      refine g_return C rfl d_prog_71_method_2_code_94 (by decide) (by decide) ?_
      exact ⟨rfl, (Keep.refl h0 [q, d, sc]), xs, ys, by rw [if_neg hc161]; exact ⟨E160, Fs160, Fd160, Fc160, Vd160, Vc160, lx160, ly160, qd160, qs160, ds160⟩⟩
    · refine g_if_f C d_prog_71_method_2_code_72 (XT.i0_eq_f hc177) ?_
      refine g_aloadN C d_prog_71_method_2_code_75 rfl rfl ?_
      refine g_getfield C w_10 Via.refl Fd160 d_prog_71_method_2_code_76 ?_
      refine g_iconst C 0 d_prog_71_method_2_code_79 rfl ?_
      refine g_iloadN C d_prog_71_method_2_code_80 rfl ?_
      refine g_iastore C Vd160 (List.mem_of_getElem? (i := 1) rfl) d_prog_71_method_2_code_81 ⟨by decide, hc0⟩ _ rfl (by rw [List.length_map, lx160]; exact own_lt ⟨by decide, hc0⟩) ?_
      intro h178 W178 V178
      rw [← List.map_set] at V178
      have l178 : (xs.set ((0 : Int32)).toNatClampNeg p1).length = cap.toNatClampNeg := by rw [List.length_set]; exact lx160
      refine g_aloadN C d_prog_71_method_2_code_82 rfl rfl ?_
      have F179 := (Fc160.other W178 (Or.inl qd160))
      refine g_getfield C w_13 Via.refl F179 d_prog_71_method_2_code_83 ?_
      refine g_iconst C 0 d_prog_71_method_2_code_86 rfl ?_
      refine g_dloadN C d_prog_71_method_2_code_87 rfl ?_
      have V180 := (Vc160.other W178 (Ne.symm ds160))
      refine g_dastore C V180 (List.mem_of_getElem? (i := 2) rfl) d_prog_71_method_2_code_88 ⟨by decide, hc0⟩ _ rfl (by rw [List.length_map, ly160]; exact own_lt ⟨by decide, hc0⟩) ?_
      intro h181 W181 V181
      rw [← List.map_set] at V181
      have l181 : (ys.set ((0 : Int32)).toNatClampNeg s1).length = cap.toNatClampNeg := by rw [List.length_set]; exact ly160
      refine g_aloadN C d_prog_71_method_2_code_89 rfl rfl ?_
      refine g_iconst C 0 d_prog_71_method_2_code_90 rfl ?_
      have E182 := ((E160.wr W178).wr W181)
      have F183 := ((Fs160.other W178 (Or.inl qd160)).other W181 (Or.inl qs160))
      have F184 := ((Fd160.other W178 (Or.inl qd160)).other W181 (Or.inl qs160))
      have F185 := (F179.other W181 (Or.inl qs160))
      have V186 := (V178.other W181 ds160)
      refine g_private C E182 w_39 w_40 (fun hZ => ni_inst hw w_1 hZ) w_41 w_42 (by decide) [(.int (0 : Int32))] (ct_of hw w_42 w_2 (rm_sd l Z a0 hw q d sc kd ks cap sz (xs.set ((0 : Int32)).toNatClampNeg p1) (ys.set ((0 : Int32)).toNatClampNeg s1) h181 n0 ⟨E182, F183, F184, F185, V186, V181, l178, l181, qd160, qs160, ds160⟩ hc0 hc4 hsz)) (allS (List.mem_of_getElem? (i := 1) rfl) (allS (List.mem_of_getElem? (i := 2) rfl) all0)) (by decide) 0 (by decide) rfl pd__I_V rfl [] rfl (Nat.le_of_eq rfl) d_prog_71_method_2_code_91 (by decide) (by decide) ?_
      intro v187 h187 Q187
      obtain ⟨rfl, KC187, xs187, ys187, Hq187⟩ := Q187
      obtain ⟨E187, Fs187, Fd187, Fc187, Vd187, Vc187, lx187, ly187, qd187, qs187, ds187⟩ := id Hq187
      refine g_return C rfl d_prog_71_method_2_code_94 (by decide) (by decide) ?_
      exact ⟨rfl, ((((Keep.refl h0 [q, d, sc]).wr W178 (Or.inl (List.mem_of_getElem? (i := 1) rfl))).wr W181 (Or.inl (List.mem_of_getElem? (i := 2) rfl))).trans KC187 (allS (Or.inl (List.mem_of_getElem? (i := 1) rfl)) (allS (Or.inl (List.mem_of_getElem? (i := 2) rfl)) all0))), xs187, ys187, by rw [if_neg hc161]; exact ⟨E187, Fs187, Fd187, Fc187, Vd187, Vc187, lx187, ly187, qd187, qs187, ds187⟩⟩
theorem d_prog_71_method_1_code_0 : decode prog_71_method_1_code 0 = .ok (.aload_n 0, 1) := by decide +kernel
theorem d_prog_71_method_1_code_1 : decode prog_71_method_1_code 1 = .ok (.invokespecial 1, 3) := by decide +kernel
theorem d_prog_71_method_1_code_4 : decode prog_71_method_1_code 4 = .ok (.aload_n 0, 1) := by decide +kernel
theorem d_prog_71_method_1_code_5 : decode prog_71_method_1_code 5 = .ok (.iload_n 1, 1) := by decide +kernel
theorem d_prog_71_method_1_code_6 : decode prog_71_method_1_code 6 = .ok (.newarray .int, 2) := by decide +kernel
theorem d_prog_71_method_1_code_8 : decode prog_71_method_1_code 8 = .ok (.putfield 7, 3) := by decide +kernel
theorem d_prog_71_method_1_code_11 : decode prog_71_method_1_code 11 = .ok (.aload_n 0, 1) := by decide +kernel
theorem d_prog_71_method_1_code_12 : decode prog_71_method_1_code 12 = .ok (.iload_n 1, 1) := by decide +kernel
theorem d_prog_71_method_1_code_13 : decode prog_71_method_1_code 13 = .ok (.newarray .double, 2) := by decide +kernel
theorem d_prog_71_method_1_code_15 : decode prog_71_method_1_code 15 = .ok (.putfield 13, 3) := by decide +kernel
theorem d_prog_71_method_1_code_18 : decode prog_71_method_1_code 18 = .ok (.return_, 1) := by decide +kernel
set_option maxRecDepth 65536 in
set_option maxHeartbeats 40000000 in
theorem rm_in (l : Launch) (Z : State) (a0 : Array Value) (hw : ∀ d ∈ tables_1, d.before a0 Z = true) {ws : List Jvm.Cond} (q : Addr) (cap : Int32) (h0 : Heap) (n0 : Nat) (E1 : Exa Z h0 q "com/example/fama/fama/search/HitQueue") (F1 : Fld Z h0 q "com/example/fama/fama/search/HitQueue" "size" "I" (.int 0)) (F2 : Fld Z h0 q "com/example/fama/fama/search/HitQueue" "documents" "[I" .null) (F3 : Fld Z h0 q "com/example/fama/fama/search/HitQueue" "scores" "[D" .null) (hc0 : ¬ cap < 0) (hc3 : cap.toNatClampNeg ≤ 3) :
    Met l Z (⟨"com/example/fama/fama/search/HitQueue", "<init>", "(I)V"⟩ : MethodName) prog_71_method_1_code 2 none ws ({ frames := 1, cells := 2, slots := 6, locals := 12 } : Room) [q] #[(.ref q), (.int cap)] h0 n0 (fun v h ns => ∃ d sc kd ks, ns = [d, sc] ∧ v = none ∧ Keep h0 h [q] ∧ h0.size ≤ d ∧ h0.size ≤ sc ∧ Hq Z h q d sc kd ks cap 0 (List.replicate cap.toNatClampNeg 0) (List.replicate cap.toNatClampNeg 0)) := by
  refine met_of (plainFor_of_name pn_com_example_fama_fama_search_HitQueue) hw #[.val (.ref q), .val (.int cap)] (fun m => by first | rfl | (simp [entryFrame, mkF, argsToLocals, Value.category]; done)) ?_
  intro p e s m below meth c C0
  have C : Cx Z a0 tables_1 p s m meth c "com/example/fama/fama/search/HitQueue" "<init>" prog_71_method_1_code 2 none n0 := C0
  refine g_aloadN C d_prog_71_method_1_code_0 rfl rfl ?_
  refine g_initO C w_6 w_7 w_8 rfl d_prog_71_method_1_code_1 (by decide) 0 (Nat.le_of_eq rfl) (by decide) ?_
  refine g_aloadN C d_prog_71_method_1_code_4 rfl rfl ?_
  refine g_iloadN C d_prog_71_method_1_code_5 rfl ?_
  refine g_newarray C (aty := .int) w_9 d_prog_71_method_1_code_6 hc0 3 hc3 (by decide) (by decide) (by decide) "[I" rfl ?_
  intro b188 h188 ka188 g188 E188 V188 A188
  replace V188 : Arv Z h188 b188 ka188 .int cap ((List.replicate cap.toNatClampNeg 0).map Value.int) (.int 0) := by rw [List.map_replicate]; exact V188.pad (pad_rep [] _ _)
  have K189 : Keep h0 h188 [] := (Keep.refl h0 []).ext E188
  have F190 := (F2.keep K189 nin0)
  have E191 := (E1.keep K189)
  refine g_putfield C (.array .int) w_10 Via.refl F190 E191 (Or.inr ⟨w_11, rfl, rfl⟩) w_1 (by decide) rfl rfl (List.mem_of_getElem? (i := 1) rfl) d_prog_71_method_1_code_8 ?_
  intro h192 W192 F192
  refine g_aloadN C d_prog_71_method_1_code_11 rfl rfl ?_
  refine g_iloadN C d_prog_71_method_1_code_12 rfl ?_
  refine g_newarray C (aty := .double) w_12 d_prog_71_method_1_code_13 hc0 3 hc3 (by decide) (by decide) (by decide) "[D" rfl ?_
  intro b193 h193 ka193 g193 E193 V193 A193
  replace V193 : Arv Z h193 b193 ka193 .double cap ((List.replicate cap.toNatClampNeg 0).map Value.double) (.double 0) := by rw [List.map_replicate]; exact V193.pad (pad_rep [] _ _)
  have F194 := (((F3.ext E188).other W192 (Or.inr (slot_ne (Or.inr (C.hw w_14)) (Or.inr (C.hw w_11)) (by decide) (t := (.array .double)) (t' := (.array .int)) (by decide) (by decide)))).ext E193)
  have E195 := ((E191.wr W192).ext E193)
  refine g_putfield C (.array .double) w_13 Via.refl F194 E195 (Or.inr ⟨w_14, rfl, rfl⟩) w_1 (by decide) rfl rfl (List.mem_of_getElem? (i := 2) rfl) d_prog_71_method_1_code_15 ?_
  intro h196 W196 F196
  refine g_returnX C [b188, b193] (allS (List.mem_of_getElem? (i := 1) rfl) (allS (List.mem_of_getElem? (i := 0) rfl) all0)) rfl d_prog_71_method_1_code_18 (by decide) (by decide) ?_
  have E197 := (E195.wr W196)
  have F198 := ((((F1.ext E188).other W192 (Or.inr (slot_ne (Or.inl (C.hw w_21)) (Or.inr (C.hw w_11)) (by decide) (t := .int) (t' := (.array .int)) (by decide) (by decide)))).ext E193).other W196 (Or.inr (slot_ne (Or.inl (C.hw w_21)) (Or.inr (C.hw w_14)) (by decide) (t := .int) (t' := (.array .double)) (by decide) (by decide))))
  have K199 : Keep h192 h193 [] := (Keep.refl h192 []).ext E193
  have F200 := ((F192.ext E193).other W196 (Or.inr (slot_ne (Or.inr (C.hw w_11)) (Or.inr (C.hw w_14)) (by decide) (t := (.array .int)) (t' := (.array .double)) (by decide) (by decide))))
  have V201 := (((V188.other W192 (Ne.symm (Nat.ne_of_lt (Nat.lt_of_lt_of_le E1.lt (Nat.le_of_eq g188.symm))))).ext E193).other W196 (Ne.symm (Nat.ne_of_lt (Nat.lt_of_lt_of_le E1.lt (Nat.le_of_eq g188.symm)))))
  have E202 := (E191.wr W192)
  have V203 := (V193.other W196 (Ne.symm (Nat.ne_of_lt (Nat.lt_of_lt_of_le E202.lt (Nat.le_of_eq g193.symm)))))
  have V204 := (V188.other W192 (Ne.symm (Nat.ne_of_lt (Nat.lt_of_lt_of_le E1.lt (Nat.le_of_eq g188.symm)))))
  exact ⟨b188, b193, _, _, rfl, rfl, (((((Keep.refl _ _).ext E188).wr W192 (Or.inl (List.mem_cons_self ..))).ext E193).wr W196 (Or.inl (List.mem_cons_self ..))), (Nat.le_trans (Nat.le_refl _) (Nat.le_of_eq g188.symm)), (Nat.le_trans (Nat.le_trans (Nat.le_trans (Nat.le_refl _) E188.1) (Nat.le_of_eq W192.size.symm)) (Nat.le_of_eq g193.symm)), E197, F198, F200, F196, V201, V203, (List.length_replicate ..), (List.length_replicate ..), (Nat.ne_of_lt (Nat.lt_of_lt_of_le E1.lt (Nat.le_of_eq g188.symm))), (Nat.ne_of_lt (Nat.lt_of_lt_of_le E202.lt (Nat.le_of_eq g193.symm))), (Nat.ne_of_lt (Nat.lt_of_lt_of_le V204.lt (Nat.le_of_eq g193.symm)))⟩
theorem own_and3 (x : Int32) : x &&& 3 = 0 ∨ x &&& 3 = 1 ∨ x &&& 3 = 2 ∨ x &&& 3 = 3 := by
  have h : (x &&& 3).toBitVec.toNat < 4 := by
    simp only [Int32.toBitVec_and, BitVec.toNat_and]
    exact Nat.lt_succ_of_le Nat.and_le_right
  have e : (x &&& 3) = Int32.ofNat (x &&& 3).toBitVec.toNat := by
    apply Int32.toBitVec_inj.mp
    show _ = BitVec.ofNat 32 _
    rw [BitVec.ofNat_toNat]; simp
  rw [e]
  exact (by decide +kernel : ∀ k : Fin 4, Int32.ofNat k.val = 0 ∨ Int32.ofNat k.val = 1 ∨ Int32.ofNat k.val = 2 ∨ Int32.ofNat k.val = 3) ⟨_, h⟩
theorem own_mono {a b k : Int32} (h : ¬ a < k) (hab : a < b) : ¬ b < k := by
  rw [Int32.lt_iff_toInt_lt] at *; omega

theorem pn_com_example_fama_fama_search_HitQueueIsFullPinLaw : plainName "com/example/fama/fama/search/HitQueueIsFullPinLaw" = true := by first | (simp [plainName, overriddenIn]; done) | decide +kernel
theorem pd___Z : parseMethodDescriptor "()Z" = some ⟨[], some .boolean⟩ := by decide +kernel
theorem pd__ID_V : parseMethodDescriptor "(ID)V" = some ⟨[.int, .double], none⟩ := by decide +kernel
set_option maxRecDepth 65536 in
set_option maxHeartbeats 40000000 in
theorem rm_law (l : Launch) (Z : State) (a0 : Array Value) (hw : ∀ d ∈ tables_1, d.before a0 Z = true) {ws : List Jvm.Cond} (i1 i2 i3 i4 i5 i6 : Int32) (h0 : Heap) (n0 : Nat) :
    Met l Z x code maxLocals ret ws room_1 [] #[(.int i1), (.int i2), (.int i3), (.int i4), (.int i5), (.int i6)] h0 n0 (nq (fun v _ => v = some (.int 1))) := by
  refine met_of (plainFor_of_name pn_com_example_fama_fama_search_HitQueueIsFullPinLaw) hw #[.val (.int i1), .val (.int i2), .val (.int i3), .val (.int i4), .val (.int i5), .val (.int i6), .unset, .unset, .unset, .unset] (fun m => by first | rfl | (simp [entryFrame, mkF, argsToLocals, Value.category, maxLocals]; done)) ?_
  intro p e s m below meth c C0
  have C : Cx Z a0 tables_1 p s m meth c "com/example/fama/fama/search/HitQueueIsFullPinLaw" "law" code maxLocals ret n0 := C0
  refine g_iloadN C at_0 rfl ?_
  refine g_iconst C 3 at_1 rfl ?_
  refine g_iand C at_2 ?_
  refine g_istore C #[.val (.int i1), .val (.int i2), .val (.int i3), .val (.int i4), .val (.int i5), .val (.int i6), .val (.int (i1 &&& (3 : Int32))), .unset, .unset, .unset] at_3 rfl ?_
  obtain ⟨cp, e_cp, h_cp⟩ : ∃ z : Int32, (i1 &&& (3 : Int32)) = z ∧ (z = 0 ∨ z = 1 ∨ z = 2 ∨ z = 3) := ⟨_, rfl, own_and3 _⟩
  rw [e_cp]
  rcases h_cp with rfl | rfl | rfl | rfl
  · refine g_iload C at_5 rfl ?_
    refine g_if_f C at_7 (XT.i0_ne_f (by decide)) ?_
    refine g_iconst C 0 at_10 rfl ?_
    refine g_goto C 20 at_11 (by decide) (by decide) ?_
    refine g_istore C #[.val (.int i1), .val (.int i2), .val (.int i3), .val (.int i4), .val (.int i5), .val (.int i6), .val (.int (0 : Int32)), .val (.int (0 : Int32)), .unset, .unset] at_20 rfl ?_
    refine g_new C w_0 w_1 w_2 at_22 (by decide) (by decide) ?_
    intro b205 h205 g205 E205 A205 D205
    refine g_dup C at_25 rfl ?_
    refine g_iload C at_26 rfl ?_
    refine g_specialX C (a := b205) w_3 w_4 w_5 rfl (by decide) [(.int (0 : Int32))] (ct_of hw w_5 w_2 (rm_in l Z a0 hw b205 (0 : Int32) h205 n0 A205 (D205 (Or.inl (C.hw w_21)) (ty := .int) (by decide)) (D205 (Or.inr (C.hw w_11)) (ty := (.array .int)) (by decide)) (D205 (Or.inr (C.hw w_14)) (ty := (.array .double)) (by decide)) (by decide) (by decide))) (allS (List.mem_of_getElem? (i := 0) rfl) all0) (by decide) 1 (by decide) rfl pd__I_V rfl [(.ref b205)] rfl (Nat.le_of_eq rfl) at_28 (by decide) (by decide) ?_
    intro v206 h206 ns206 Q206
    obtain ⟨d206, sc206, kd206, ks206, rfl, rfl, KC206, led206, les206, Hq206⟩ := Q206
    refine g_astore C #[.val (.int i1), .val (.int i2), .val (.int i3), .val (.int i4), .val (.int i5), .val (.int i6), .val (.int (0 : Int32)), .val (.int (0 : Int32)), .val (.ref b205), .unset] at_31 rfl rfl ?_
    refine g_aload C at_33 rfl rfl ?_
    refine g_virtual C Hq206.1 w_15 w_16 (fun hZ => nf_sel hw w_18 hZ) w_18 w_17 (by decide) [] (ct_of hw w_19 w_2 (rm_if l Z a0 hw b205 d206 sc206 kd206 ks206 (0 : Int32) (0 : Int32) _ _ h206 n0 Hq206)) all0 (by decide) 0 (by decide) rfl pd___Z rfl [] rfl (Nat.le_of_eq rfl) at_35 (by decide) (by decide) ?_
    intro v207 h207 Q207
    obtain ⟨ev207, e207⟩ := Q207
    replace e207 := e207.symm
    subst e207
    have ew207 : v207 = some (.int (1 : Int32)) := ev207.trans (by decide)
    subst ew207
    refine g_iload C at_38 rfl ?_
    refine g_if_f C at_40 (XT.i0_ne_f (by decide)) ?_
    refine g_iconst C 1 at_43 rfl ?_
    refine g_goto C 48 at_44 (by decide) (by decide) ?_
    refine g_icmp_f C at_48 (XT.ii_ne_f (by decide)) ?_
    refine g_iconst C 1 at_51 rfl ?_
    refine g_goto C 56 at_52 (by decide) (by decide) ?_
    refine g_istore C #[.val (.int i1), .val (.int i2), .val (.int i3), .val (.int i4), .val (.int i5), .val (.int i6), .val (.int (0 : Int32)), .val (.int (0 : Int32)), .val (.ref b205), .val (.int (1 : Int32))] at_56 rfl ?_
    refine g_iload C at_58 rfl ?_
    refine g_if_t C 106 at_60 (XT.i0_le_t (by decide)) (by decide) (by decide) ?_
    refine g_iload C at_106 rfl ?_
    refine g_iconst C 1 at_108 rfl ?_
    refine g_icmp_t C 157 at_109 (XT.ii_le_t (by decide)) (by decide) (by decide) ?_
    refine g_iload C at_157 rfl ?_
    refine g_iconst C 2 at_159 rfl ?_
    refine g_icmp_t C 210 at_160 (XT.ii_le_t (by decide)) (by decide) (by decide) ?_
    refine g_iload C at_210 rfl ?_
    refine g_iconst C 3 at_212 rfl ?_
    refine g_icmp_t C 264 at_213 (XT.ii_le_t (by decide)) (by decide) (by decide) ?_
    refine g_iload C at_264 rfl ?_
    refine g_ireturnN C (t := .boolean) rfl (by simp) at_266 (by decide) (by decide) ?_
    exact rfl
  · refine g_iload C at_5 rfl ?_
    refine g_if_t C 14 at_7 (XT.i0_ne_t (by decide)) (by decide) (by decide) ?_
    refine g_iloadN C at_14 rfl ?_
    refine g_ldcI C w_22 at_15 ?_
    refine g_iand C at_17 ?_
    refine g_iconst C 5 at_18 rfl ?_
    refine g_irem C at_19 (by decide) ?_
    refine g_istore C #[.val (.int i1), .val (.int i2), .val (.int i3), .val (.int i4), .val (.int i5), .val (.int i6), .val (.int (1 : Int32)), .val (.int ((i2 &&& (2147483647 : Int32)) % (5 : Int32))), .unset, .unset] at_20 rfl ?_
    obtain ⟨kk, e_kk⟩ : ∃ z : Int32, ((i2 &&& (2147483647 : Int32)) % (5 : Int32)) = z := ⟨_, rfl⟩
    rw [e_kk]
    refine g_new C w_0 w_1 w_2 at_22 (by decide) (by decide) ?_
    intro b208 h208 g208 E208 A208 D208
    refine g_dup C at_25 rfl ?_
    refine g_iload C at_26 rfl ?_
    refine g_specialX C (a := b208) w_3 w_4 w_5 rfl (by decide) [(.int (1 : Int32))] (ct_of hw w_5 w_2 (rm_in l Z a0 hw b208 (1 : Int32) h208 n0 A208 (D208 (Or.inl (C.hw w_21)) (ty := .int) (by decide)) (D208 (Or.inr (C.hw w_11)) (ty := (.array .int)) (by decide)) (D208 (Or.inr (C.hw w_14)) (ty := (.array .double)) (by decide)) (by decide) (by decide))) (allS (List.mem_of_getElem? (i := 0) rfl) all0) (by decide) 1 (by decide) rfl pd__I_V rfl [(.ref b208)] rfl (Nat.le_of_eq rfl) at_28 (by decide) (by decide) ?_
    intro v209 h209 ns209 Q209
    obtain ⟨d209, sc209, kd209, ks209, rfl, rfl, KC209, led209, les209, Hq209⟩ := Q209
    refine g_astore C #[.val (.int i1), .val (.int i2), .val (.int i3), .val (.int i4), .val (.int i5), .val (.int i6), .val (.int (1 : Int32)), .val (.int kk), .val (.ref b208), .unset] at_31 rfl rfl ?_
    refine g_aload C at_33 rfl rfl ?_
    refine g_virtual C Hq209.1 w_15 w_16 (fun hZ => nf_sel hw w_18 hZ) w_18 w_17 (by decide) [] (ct_of hw w_19 w_2 (rm_if l Z a0 hw b208 d209 sc209 kd209 ks209 (1 : Int32) (0 : Int32) _ _ h209 n0 Hq209)) all0 (by decide) 0 (by decide) rfl pd___Z rfl [] rfl (Nat.le_of_eq rfl) at_35 (by decide) (by decide) ?_
    intro v210 h210 Q210
    obtain ⟨ev210, e210⟩ := Q210
    replace e210 := e210.symm
    subst e210
    have ew210 : v210 = some (.int (0 : Int32)) := ev210.trans (by decide)
    subst ew210
    refine g_iload C at_38 rfl ?_
    refine g_if_t C 47 at_40 (XT.i0_ne_t (by decide)) (by decide) (by decide) ?_
    refine g_iconst C 0 at_47 rfl ?_
    refine g_icmp_f C at_48 (XT.ii_ne_f (by decide)) ?_
    refine g_iconst C 1 at_51 rfl ?_
    refine g_goto C 56 at_52 (by decide) (by decide) ?_
    refine g_istore C #[.val (.int i1), .val (.int i2), .val (.int i3), .val (.int i4), .val (.int i5), .val (.int i6), .val (.int (1 : Int32)), .val (.int kk), .val (.ref b208), .val (.int (1 : Int32))] at_56 rfl ?_
    refine g_iload C at_58 rfl ?_
    by_cases hc211 : 0 < kk
    · refine g_if_f C at_60 (XT.i0_le_f hc211) ?_
      refine g_aload C at_63 rfl rfl ?_
      refine g_iloadN C at_65 rfl ?_
      refine g_iload C at_66 rfl ?_
      refine g_bipush C 15 at_68 rfl ?_
      refine g_iand C at_70 ?_
      refine g_i2d C at_71 ?_
      refine g_virtual C Hq209.1 w_23 w_24 (fun hZ => nf_sel hw w_26 hZ) w_26 w_25 (by decide) [(.int i3), (.double (FP.i2d (i6 &&& (15 : Int32))))] (ct_of hw w_27 w_2 (rm_of l Z a0 hw b208 d209 sc209 kd209 ks209 (1 : Int32) (0 : Int32) _ _ i3 (FP.i2d (i6 &&& (15 : Int32))) h209 n0 Hq209 (by decide) (by decide) (by decide) (by decide))) (allS (List.mem_of_getElem? (i := 2) rfl) (allS (List.mem_of_getElem? (i := 0) rfl) (allS (List.mem_of_getElem? (i := 1) rfl) all0))) (by decide) 0 (by decide) rfl pd__ID_V rfl [] rfl (Nat.le_of_eq rfl) at_72 (by decide) (by decide) ?_
      intro v212 h212 Q212
      obtain ⟨rfl, KC212, xs212, ys212, Hq212⟩ := Q212
      rw [show (if (0 : Int32) < (1 : Int32) then (0 : Int32) + 1 else (0 : Int32)) = (1 : Int32) from by decide] at Hq212
      refine g_iload C at_75 rfl ?_
      refine g_if_f C at_77 (XT.i0_eq_f (by decide)) ?_
      refine g_aload C at_80 rfl rfl ?_
      refine g_virtual C Hq212.1 w_15 w_16 (fun hZ => nf_sel hw w_18 hZ) w_18 w_17 (by decide) [] (ct_of hw w_19 w_2 (rm_if l Z a0 hw b208 d209 sc209 kd209 ks209 (1 : Int32) (1 : Int32) _ _ h212 n0 Hq212)) all0 (by decide) 0 (by decide) rfl pd___Z rfl [] rfl (Nat.le_of_eq rfl) at_82 (by decide) (by decide) ?_
      intro v213 h213 Q213
      obtain ⟨ev213, e213⟩ := Q213
      replace e213 := e213.symm
      subst e213
      have ew213 : v213 = some (.int (1 : Int32)) := ev213.trans (by decide)
      subst ew213
      refine g_iconst C 1 at_85 rfl ?_
      refine g_iload C at_86 rfl ?_
      refine g_icmp_f C at_88 (XT.ii_lt_f (by decide)) ?_
      refine g_iconst C 1 at_91 rfl ?_
      refine g_goto C 96 at_92 (by decide) (by decide) ?_
      refine g_icmp_f C at_96 (XT.ii_ne_f (by decide)) ?_
      refine g_iconst C 1 at_99 rfl ?_
      refine g_goto C 104 at_100 (by decide) (by decide) ?_
      refine g_istore C #[.val (.int i1), .val (.int i2), .val (.int i3), .val (.int i4), .val (.int i5), .val (.int i6), .val (.int (1 : Int32)), .val (.int kk), .val (.ref b208), .val (.int (1 : Int32))] at_104 rfl ?_
      refine g_iload C at_106 rfl ?_
      refine g_iconst C 1 at_108 rfl ?_
      by_cases hc214 : (1 : Int32) < kk
      · refine g_icmp_f C at_109 (XT.ii_le_f hc214) ?_
        refine g_aload C at_112 rfl rfl ?_
        refine g_iloadN C at_114 rfl ?_
        refine g_iload C at_115 rfl ?_
        refine g_iconst C 4 at_117 rfl ?_
        refine g_ishr C at_118 ?_
        refine g_bipush C 15 at_119 rfl ?_
        refine g_iand C at_121 ?_
        refine g_i2d C at_122 ?_
        refine g_virtual C Hq212.1 w_23 w_24 (fun hZ => nf_sel hw w_26 hZ) w_26 w_25 (by decide) [(.int i4), (.double (FP.i2d ((i6 >>> ((4 : Int32) &&& 31)) &&& (15 : Int32))))] (ct_of hw w_27 w_2 (rm_of l Z a0 hw b208 d209 sc209 kd209 ks209 (1 : Int32) (1 : Int32) _ _ i4 (FP.i2d ((i6 >>> ((4 : Int32) &&& 31)) &&& (15 : Int32))) h212 n0 Hq212 (by decide) (by decide) (by decide) (by decide))) (allS (List.mem_of_getElem? (i := 2) rfl) (allS (List.mem_of_getElem? (i := 0) rfl) (allS (List.mem_of_getElem? (i := 1) rfl) all0))) (by decide) 0 (by decide) rfl pd__ID_V rfl [] rfl (Nat.le_of_eq rfl) at_123 (by decide) (by decide) ?_
        intro v215 h215 Q215
        obtain ⟨rfl, KC215, xs215, ys215, Hq215⟩ := Q215
        rw [show (if (1 : Int32) < (1 : Int32) then (1 : Int32) + 1 else (1 : Int32)) = (1 : Int32) from by decide] at Hq215
        refine g_iload C at_126 rfl ?_
        refine g_if_f C at_128 (XT.i0_eq_f (by decide)) ?_
        refine g_aload C at_131 rfl rfl ?_
        refine g_virtual C Hq215.1 w_15 w_16 (fun hZ => nf_sel hw w_18 hZ) w_18 w_17 (by decide) [] (ct_of hw w_19 w_2 (rm_if l Z a0 hw b208 d209 sc209 kd209 ks209 (1 : Int32) (1 : Int32) _ _ h215 n0 Hq215)) all0 (by decide) 0 (by decide) rfl pd___Z rfl [] rfl (Nat.le_of_eq rfl) at_133 (by decide) (by decide) ?_
        intro v216 h216 Q216
        obtain ⟨ev216, e216⟩ := Q216
        replace e216 := e216.symm
        subst e216
        have ew216 : v216 = some (.int (1 : Int32)) := ev216.trans (by decide)
        subst ew216
        refine g_iconst C 2 at_136 rfl ?_
        refine g_iload C at_137 rfl ?_
        refine g_icmp_f C at_139 (XT.ii_lt_f (by decide)) ?_
        refine g_iconst C 1 at_142 rfl ?_
        refine g_goto C 147 at_143 (by decide) (by decide) ?_
        refine g_icmp_f C at_147 (XT.ii_ne_f (by decide)) ?_
        refine g_iconst C 1 at_150 rfl ?_
        refine g_goto C 155 at_151 (by decide) (by decide) ?_
        refine g_istore C #[.val (.int i1), .val (.int i2), .val (.int i3), .val (.int i4), .val (.int i5), .val (.int i6), .val (.int (1 : Int32)), .val (.int kk), .val (.ref b208), .val (.int (1 : Int32))] at_155 rfl ?_
        refine g_iload C at_157 rfl ?_
        refine g_iconst C 2 at_159 rfl ?_
        by_cases hc217 : (2 : Int32) < kk
        · refine g_icmp_f C at_160 (XT.ii_le_f hc217) ?_
          refine g_aload C at_163 rfl rfl ?_
          refine g_iload C at_165 rfl ?_
          refine g_iload C at_167 rfl ?_
          refine g_bipush C 8 at_169 rfl ?_
          refine g_ishr C at_171 ?_
          refine g_bipush C 15 at_172 rfl ?_
          refine g_iand C at_174 ?_
          refine g_i2d C at_175 ?_
          refine g_virtual C Hq215.1 w_23 w_24 (fun hZ => nf_sel hw w_26 hZ) w_26 w_25 (by decide) [(.int i5), (.double (FP.i2d ((i6 >>> ((8 : Int32) &&& 31)) &&& (15 : Int32))))] (ct_of hw w_27 w_2 (rm_of l Z a0 hw b208 d209 sc209 kd209 ks209 (1 : Int32) (1 : Int32) _ _ i5 (FP.i2d ((i6 >>> ((8 : Int32) &&& 31)) &&& (15 : Int32))) h215 n0 Hq215 (by decide) (by decide) (by decide) (by decide))) (allS (List.mem_of_getElem? (i := 2) rfl) (allS (List.mem_of_getElem? (i := 0) rfl) (allS (List.mem_of_getElem? (i := 1) rfl) all0))) (by decide) 0 (by decide) rfl pd__ID_V rfl [] rfl (Nat.le_of_eq rfl) at_176 (by decide) (by decide) ?_
          intro v218 h218 Q218
          obtain ⟨rfl, KC218, xs218, ys218, Hq218⟩ := Q218
          rw [show (if (1 : Int32) < (1 : Int32) then (1 : Int32) + 1 else (1 : Int32)) = (1 : Int32) from by decide] at Hq218
          refine g_iload C at_179 rfl ?_
          refine g_if_f C at_181 (XT.i0_eq_f (by decide)) ?_
          refine g_aload C at_184 rfl rfl ?_
          refine g_virtual C Hq218.1 w_15 w_16 (fun hZ => nf_sel hw w_18 hZ) w_18 w_17 (by decide) [] (ct_of hw w_19 w_2 (rm_if l Z a0 hw b208 d209 sc209 kd209 ks209 (1 : Int32) (1 : Int32) _ _ h218 n0 Hq218)) all0 (by decide) 0 (by decide) rfl pd___Z rfl [] rfl (Nat.le_of_eq rfl) at_186 (by decide) (by decide) ?_
          intro v219 h219 Q219
          obtain ⟨ev219, e219⟩ := Q219
          replace e219 := e219.symm
          subst e219
          have ew219 : v219 = some (.int (1 : Int32)) := ev219.trans (by decide)
          subst ew219
          refine g_iconst C 3 at_189 rfl ?_
          refine g_iload C at_190 rfl ?_
          refine g_icmp_f C at_192 (XT.ii_lt_f (by decide)) ?_
          refine g_iconst C 1 at_195 rfl ?_
          refine g_goto C 200 at_196 (by decide) (by decide) ?_
          refine g_icmp_f C at_200 (XT.ii_ne_f (by decide)) ?_
          refine g_iconst C 1 at_203 rfl ?_
          refine g_goto C 208 at_204 (by decide) (by decide) ?_
          refine g_istore C #[.val (.int i1), .val (.int i2), .val (.int i3), .val (.int i4), .val (.int i5), .val (.int i6), .val (.int (1 : Int32)), .val (.int kk), .val (.ref b208), .val (.int (1 : Int32))] at_208 rfl ?_
          refine g_iload C at_210 rfl ?_
          refine g_iconst C 3 at_212 rfl ?_
          by_cases hc220 : (3 : Int32) < kk
          · refine g_icmp_f C at_213 (XT.ii_le_f hc220) ?_
            refine g_aload C at_216 rfl rfl ?_
            refine g_iloadN C at_218 rfl ?_
            refine g_iloadN C at_219 rfl ?_
            refine g_ixor C at_220 ?_
            refine g_iload C at_221 rfl ?_
            refine g_bipush C 12 at_223 rfl ?_
            refine g_ishr C at_225 ?_
            refine g_bipush C 15 at_226 rfl ?_
            refine g_iand C at_228 ?_
            refine g_i2d C at_229 ?_
            refine g_virtual C Hq218.1 w_23 w_24 (fun hZ => nf_sel hw w_26 hZ) w_26 w_25 (by decide) [(.int (i3 ^^^ i4)), (.double (FP.i2d ((i6 >>> ((12 : Int32) &&& 31)) &&& (15 : Int32))))] (ct_of hw w_27 w_2 (rm_of l Z a0 hw b208 d209 sc209 kd209 ks209 (1 : Int32) (1 : Int32) _ _ (i3 ^^^ i4) (FP.i2d ((i6 >>> ((12 : Int32) &&& 31)) &&& (15 : Int32))) h218 n0 Hq218 (by decide) (by decide) (by decide) (by decide))) (allS (List.mem_of_getElem? (i := 2) rfl) (allS (List.mem_of_getElem? (i := 0) rfl) (allS (List.mem_of_getElem? (i := 1) rfl) all0))) (by decide) 0 (by decide) rfl pd__ID_V rfl [] rfl (Nat.le_of_eq rfl) at_230 (by decide) (by decide) ?_
            intro v221 h221 Q221
            obtain ⟨rfl, KC221, xs221, ys221, Hq221⟩ := Q221
            rw [show (if (1 : Int32) < (1 : Int32) then (1 : Int32) + 1 else (1 : Int32)) = (1 : Int32) from by decide] at Hq221
            refine g_iload C at_233 rfl ?_
            refine g_if_f C at_235 (XT.i0_eq_f (by decide)) ?_
            refine g_aload C at_238 rfl rfl ?_
            refine g_virtual C Hq221.1 w_15 w_16 (fun hZ => nf_sel hw w_18 hZ) w_18 w_17 (by decide) [] (ct_of hw w_19 w_2 (rm_if l Z a0 hw b208 d209 sc209 kd209 ks209 (1 : Int32) (1 : Int32) _ _ h221 n0 Hq221)) all0 (by decide) 0 (by decide) rfl pd___Z rfl [] rfl (Nat.le_of_eq rfl) at_240 (by decide) (by decide) ?_
            intro v222 h222 Q222
            obtain ⟨ev222, e222⟩ := Q222
            replace e222 := e222.symm
            subst e222
            have ew222 : v222 = some (.int (1 : Int32)) := ev222.trans (by decide)
            subst ew222
            refine g_iconst C 4 at_243 rfl ?_
            refine g_iload C at_244 rfl ?_
            refine g_icmp_f C at_246 (XT.ii_lt_f (by decide)) ?_
            refine g_iconst C 1 at_249 rfl ?_
            refine g_goto C 254 at_250 (by decide) (by decide) ?_
            refine g_icmp_f C at_254 (XT.ii_ne_f (by decide)) ?_
            refine g_iconst C 1 at_257 rfl ?_
            refine g_goto C 262 at_258 (by decide) (by decide) ?_
            refine g_istore C #[.val (.int i1), .val (.int i2), .val (.int i3), .val (.int i4), .val (.int i5), .val (.int i6), .val (.int (1 : Int32)), .val (.int kk), .val (.ref b208), .val (.int (1 : Int32))] at_262 rfl ?_
            refine g_iload C at_264 rfl ?_
            refine g_ireturnN C (t := .boolean) rfl (by simp) at_266 (by decide) (by decide) ?_
            exact rfl
          · refine g_icmp_t C 264 at_213 (XT.ii_le_t hc220) (by decide) (by decide) ?_
            refine g_iload C at_264 rfl ?_
            refine g_ireturnN C (t := .boolean) rfl (by simp) at_266 (by decide) (by decide) ?_
            exact rfl
        · refine g_icmp_t C 210 at_160 (XT.ii_le_t hc217) (by decide) (by decide) ?_
          refine g_iload C at_210 rfl ?_
          refine g_iconst C 3 at_212 rfl ?_
          refine g_icmp_t C 264 at_213 (XT.ii_le_t (own_mono hc217 (by decide))) (by decide) (by decide) ?_
          refine g_iload C at_264 rfl ?_
          refine g_ireturnN C (t := .boolean) rfl (by simp) at_266 (by decide) (by decide) ?_
          exact rfl
      · refine g_icmp_t C 157 at_109 (XT.ii_le_t hc214) (by decide) (by decide) ?_
        refine g_iload C at_157 rfl ?_
        refine g_iconst C 2 at_159 rfl ?_
        refine g_icmp_t C 210 at_160 (XT.ii_le_t (own_mono hc214 (by decide))) (by decide) (by decide) ?_
        refine g_iload C at_210 rfl ?_
        refine g_iconst C 3 at_212 rfl ?_
        refine g_icmp_t C 264 at_213 (XT.ii_le_t (own_mono hc214 (by decide))) (by decide) (by decide) ?_
        refine g_iload C at_264 rfl ?_
        refine g_ireturnN C (t := .boolean) rfl (by simp) at_266 (by decide) (by decide) ?_
        exact rfl
    · refine g_if_t C 106 at_60 (XT.i0_le_t hc211) (by decide) (by decide) ?_
      refine g_iload C at_106 rfl ?_
      refine g_iconst C 1 at_108 rfl ?_
      refine g_icmp_t C 157 at_109 (XT.ii_le_t (own_mono hc211 (by decide))) (by decide) (by decide) ?_
      refine g_iload C at_157 rfl ?_
      refine g_iconst C 2 at_159 rfl ?_
      refine g_icmp_t C 210 at_160 (XT.ii_le_t (own_mono hc211 (by decide))) (by decide) (by decide) ?_
      refine g_iload C at_210 rfl ?_
      refine g_iconst C 3 at_212 rfl ?_
      refine g_icmp_t C 264 at_213 (XT.ii_le_t (own_mono hc211 (by decide))) (by decide) (by decide) ?_
      refine g_iload C at_264 rfl ?_
      refine g_ireturnN C (t := .boolean) rfl (by simp) at_266 (by decide) (by decide) ?_
      exact rfl
  · refine g_iload C at_5 rfl ?_
    refine g_if_t C 14 at_7 (XT.i0_ne_t (by decide)) (by decide) (by decide) ?_
    refine g_iloadN C at_14 rfl ?_
    refine g_ldcI C w_22 at_15 ?_
    refine g_iand C at_17 ?_
    refine g_iconst C 5 at_18 rfl ?_
    refine g_irem C at_19 (by decide) ?_
    refine g_istore C #[.val (.int i1), .val (.int i2), .val (.int i3), .val (.int i4), .val (.int i5), .val (.int i6), .val (.int (2 : Int32)), .val (.int ((i2 &&& (2147483647 : Int32)) % (5 : Int32))), .unset, .unset] at_20 rfl ?_
    obtain ⟨kk, e_kk⟩ : ∃ z : Int32, ((i2 &&& (2147483647 : Int32)) % (5 : Int32)) = z := ⟨_, rfl⟩
    rw [e_kk]
    refine g_new C w_0 w_1 w_2 at_22 (by decide) (by decide) ?_
    intro b223 h223 g223 E223 A223 D223
    refine g_dup C at_25 rfl ?_
    refine g_iload C at_26 rfl ?_
    refine g_specialX C (a := b223) w_3 w_4 w_5 rfl (by decide) [(.int (2 : Int32))] (ct_of hw w_5 w_2 (rm_in l Z a0 hw b223 (2 : Int32) h223 n0 A223 (D223 (Or.inl (C.hw w_21)) (ty := .int) (by decide)) (D223 (Or.inr (C.hw w_11)) (ty := (.array .int)) (by decide)) (D223 (Or.inr (C.hw w_14)) (ty := (.array .double)) (by decide)) (by decide) (by decide))) (allS (List.mem_of_getElem? (i := 0) rfl) all0) (by decide) 1 (by decide) rfl pd__I_V rfl [(.ref b223)] rfl (Nat.le_of_eq rfl) at_28 (by decide) (by decide) ?_
    intro v224 h224 ns224 Q224
    obtain ⟨d224, sc224, kd224, ks224, rfl, rfl, KC224, led224, les224, Hq224⟩ := Q224
    refine g_astore C #[.val (.int i1), .val (.int i2), .val (.int i3), .val (.int i4), .val (.int i5), .val (.int i6), .val (.int (2 : Int32)), .val (.int kk), .val (.ref b223), .unset] at_31 rfl rfl ?_
    refine g_aload C at_33 rfl rfl ?_
    refine g_virtual C Hq224.1 w_15 w_16 (fun hZ => nf_sel hw w_18 hZ) w_18 w_17 (by decide) [] (ct_of hw w_19 w_2 (rm_if l Z a0 hw b223 d224 sc224 kd224 ks224 (2 : Int32) (0 : Int32) _ _ h224 n0 Hq224)) all0 (by decide) 0 (by decide) rfl pd___Z rfl [] rfl (Nat.le_of_eq rfl) at_35 (by decide) (by decide) ?_
    intro v225 h225 Q225
    obtain ⟨ev225, e225⟩ := Q225
    replace e225 := e225.symm
    subst e225
    have ew225 : v225 = some (.int (0 : Int32)) := ev225.trans (by decide)
    subst ew225
    refine g_iload C at_38 rfl ?_
    refine g_if_t C 47 at_40 (XT.i0_ne_t (by decide)) (by decide) (by decide) ?_
    refine g_iconst C 0 at_47 rfl ?_
    refine g_icmp_f C at_48 (XT.ii_ne_f (by decide)) ?_
    refine g_iconst C 1 at_51 rfl ?_
    refine g_goto C 56 at_52 (by decide) (by decide) ?_
    refine g_istore C #[.val (.int i1), .val (.int i2), .val (.int i3), .val (.int i4), .val (.int i5), .val (.int i6), .val (.int (2 : Int32)), .val (.int kk), .val (.ref b223), .val (.int (1 : Int32))] at_56 rfl ?_
    refine g_iload C at_58 rfl ?_
    by_cases hc226 : 0 < kk
    · refine g_if_f C at_60 (XT.i0_le_f hc226) ?_
      refine g_aload C at_63 rfl rfl ?_
      refine g_iloadN C at_65 rfl ?_
      refine g_iload C at_66 rfl ?_
      refine g_bipush C 15 at_68 rfl ?_
      refine g_iand C at_70 ?_
      refine g_i2d C at_71 ?_
      refine g_virtual C Hq224.1 w_23 w_24 (fun hZ => nf_sel hw w_26 hZ) w_26 w_25 (by decide) [(.int i3), (.double (FP.i2d (i6 &&& (15 : Int32))))] (ct_of hw w_27 w_2 (rm_of l Z a0 hw b223 d224 sc224 kd224 ks224 (2 : Int32) (0 : Int32) _ _ i3 (FP.i2d (i6 &&& (15 : Int32))) h224 n0 Hq224 (by decide) (by decide) (by decide) (by decide))) (allS (List.mem_of_getElem? (i := 2) rfl) (allS (List.mem_of_getElem? (i := 0) rfl) (allS (List.mem_of_getElem? (i := 1) rfl) all0))) (by decide) 0 (by decide) rfl pd__ID_V rfl [] rfl (Nat.le_of_eq rfl) at_72 (by decide) (by decide) ?_
      intro v227 h227 Q227
      obtain ⟨rfl, KC227, xs227, ys227, Hq227⟩ := Q227
      rw [show (if (0 : Int32) < (2 : Int32) then (0 : Int32) + 1 else (0 : Int32)) = (1 : Int32) from by decide] at Hq227
      refine g_iload C at_75 rfl ?_
      refine g_if_f C at_77 (XT.i0_eq_f (by decide)) ?_
      refine g_aload C at_80 rfl rfl ?_
      refine g_virtual C Hq227.1 w_15 w_16 (fun hZ => nf_sel hw w_18 hZ) w_18 w_17 (by decide) [] (ct_of hw w_19 w_2 (rm_if l Z a0 hw b223 d224 sc224 kd224 ks224 (2 : Int32) (1 : Int32) _ _ h227 n0 Hq227)) all0 (by decide) 0 (by decide) rfl pd___Z rfl [] rfl (Nat.le_of_eq rfl) at_82 (by decide) (by decide) ?_
      intro v228 h228 Q228
      obtain ⟨ev228, e228⟩ := Q228
      replace e228 := e228.symm
      subst e228
      have ew228 : v228 = some (.int (0 : Int32)) := ev228.trans (by decide)
      subst ew228
      refine g_iconst C 1 at_85 rfl ?_
      refine g_iload C at_86 rfl ?_
      refine g_icmp_t C 95 at_88 (XT.ii_lt_t (by decide)) (by decide) (by decide) ?_
      refine g_iconst C 0 at_95 rfl ?_
      refine g_icmp_f C at_96 (XT.ii_ne_f (by decide)) ?_
      refine g_iconst C 1 at_99 rfl ?_
      refine g_goto C 104 at_100 (by decide) (by decide) ?_
      refine g_istore C #[.val (.int i1), .val (.int i2), .val (.int i3), .val (.int i4), .val (.int i5), .val (.int i6), .val (.int (2 : Int32)), .val (.int kk), .val (.ref b223), .val (.int (1 : Int32))] at_104 rfl ?_
      refine g_iload C at_106 rfl ?_
      refine g_iconst C 1 at_108 rfl ?_
      by_cases hc229 : (1 : Int32) < kk
      · refine g_icmp_f C at_109 (XT.ii_le_f hc229) ?_
        refine g_aload C at_112 rfl rfl ?_
        refine g_iloadN C at_114 rfl ?_
        refine g_iload C at_115 rfl ?_
        refine g_iconst C 4 at_117 rfl ?_
        refine g_ishr C at_118 ?_
        refine g_bipush C 15 at_119 rfl ?_
        refine g_iand C at_121 ?_
        refine g_i2d C at_122 ?_
        refine g_virtual C Hq227.1 w_23 w_24 (fun hZ => nf_sel hw w_26 hZ) w_26 w_25 (by decide) [(.int i4), (.double (FP.i2d ((i6 >>> ((4 : Int32) &&& 31)) &&& (15 : Int32))))] (ct_of hw w_27 w_2 (rm_of l Z a0 hw b223 d224 sc224 kd224 ks224 (2 : Int32) (1 : Int32) _ _ i4 (FP.i2d ((i6 >>> ((4 : Int32) &&& 31)) &&& (15 : Int32))) h227 n0 Hq227 (by decide) (by decide) (by decide) (by decide))) (allS (List.mem_of_getElem? (i := 2) rfl) (allS (List.mem_of_getElem? (i := 0) rfl) (allS (List.mem_of_getElem? (i := 1) rfl) all0))) (by decide) 0 (by decide) rfl pd__ID_V rfl [] rfl (Nat.le_of_eq rfl) at_123 (by decide) (by decide) ?_
        intro v230 h230 Q230
        obtain ⟨rfl, KC230, xs230, ys230, Hq230⟩ := Q230
        rw [show (if (1 : Int32) < (2 : Int32) then (1 : Int32) + 1 else (1 : Int32)) = (2 : Int32) from by decide] at Hq230
        refine g_iload C at_126 rfl ?_
        refine g_if_f C at_128 (XT.i0_eq_f (by decide)) ?_
        refine g_aload C at_131 rfl rfl ?_
        refine g_virtual C Hq230.1 w_15 w_16 (fun hZ => nf_sel hw w_18 hZ) w_18 w_17 (by decide) [] (ct_of hw w_19 w_2 (rm_if l Z a0 hw b223 d224 sc224 kd224 ks224 (2 : Int32) (2 : Int32) _ _ h230 n0 Hq230)) all0 (by decide) 0 (by decide) rfl pd___Z rfl [] rfl (Nat.le_of_eq rfl) at_133 (by decide) (by decide) ?_
        intro v231 h231 Q231
        obtain ⟨ev231, e231⟩ := Q231
        replace e231 := e231.symm
        subst e231
        have ew231 : v231 = some (.int (1 : Int32)) := ev231.trans (by decide)
        subst ew231
        refine g_iconst C 2 at_136 rfl ?_
        refine g_iload C at_137 rfl ?_
        refine g_icmp_f C at_139 (XT.ii_lt_f (by decide)) ?_
        refine g_iconst C 1 at_142 rfl ?_
        refine g_goto C 147 at_143 (by decide) (by decide) ?_
        refine g_icmp_f C at_147 (XT.ii_ne_f (by decide)) ?_
        refine g_iconst C 1 at_150 rfl ?_
        refine g_goto C 155 at_151 (by decide) (by decide) ?_
        refine g_istore C #[.val (.int i1), .val (.int i2), .val (.int i3), .val (.int i4), .val (.int i5), .val (.int i6), .val (.int (2 : Int32)), .val (.int kk), .val (.ref b223), .val (.int (1 : Int32))] at_155 rfl ?_
        refine g_iload C at_157 rfl ?_
        refine g_iconst C 2 at_159 rfl ?_
        by_cases hc232 : (2 : Int32) < kk
        · refine g_icmp_f C at_160 (XT.ii_le_f hc232) ?_
          refine g_aload C at_163 rfl rfl ?_
          refine g_iload C at_165 rfl ?_
          refine g_iload C at_167 rfl ?_
          refine g_bipush C 8 at_169 rfl ?_
          refine g_ishr C at_171 ?_
          refine g_bipush C 15 at_172 rfl ?_
          refine g_iand C at_174 ?_
          refine g_i2d C at_175 ?_
          refine g_virtual C Hq230.1 w_23 w_24 (fun hZ => nf_sel hw w_26 hZ) w_26 w_25 (by decide) [(.int i5), (.double (FP.i2d ((i6 >>> ((8 : Int32) &&& 31)) &&& (15 : Int32))))] (ct_of hw w_27 w_2 (rm_of l Z a0 hw b223 d224 sc224 kd224 ks224 (2 : Int32) (2 : Int32) _ _ i5 (FP.i2d ((i6 >>> ((8 : Int32) &&& 31)) &&& (15 : Int32))) h230 n0 Hq230 (by decide) (by decide) (by decide) (by decide))) (allS (List.mem_of_getElem? (i := 2) rfl) (allS (List.mem_of_getElem? (i := 0) rfl) (allS (List.mem_of_getElem? (i := 1) rfl) all0))) (by decide) 0 (by decide) rfl pd__ID_V rfl [] rfl (Nat.le_of_eq rfl) at_176 (by decide) (by decide) ?_
          intro v233 h233 Q233
          obtain ⟨rfl, KC233, xs233, ys233, Hq233⟩ := Q233
          rw [show (if (2 : Int32) < (2 : Int32) then (2 : Int32) + 1 else (2 : Int32)) = (2 : Int32) from by decide] at Hq233
          refine g_iload C at_179 rfl ?_
          refine g_if_f C at_181 (XT.i0_eq_f (by decide)) ?_
          refine g_aload C at_184 rfl rfl ?_
          refine g_virtual C Hq233.1 w_15 w_16 (fun hZ => nf_sel hw w_18 hZ) w_18 w_17 (by decide) [] (ct_of hw w_19 w_2 (rm_if l Z a0 hw b223 d224 sc224 kd224 ks224 (2 : Int32) (2 : Int32) _ _ h233 n0 Hq233)) all0 (by decide) 0 (by decide) rfl pd___Z rfl [] rfl (Nat.le_of_eq rfl) at_186 (by decide) (by decide) ?_
          intro v234 h234 Q234
          obtain ⟨ev234, e234⟩ := Q234
          replace e234 := e234.symm
          subst e234
          have ew234 : v234 = some (.int (1 : Int32)) := ev234.trans (by decide)
          subst ew234
          refine g_iconst C 3 at_189 rfl ?_
          refine g_iload C at_190 rfl ?_
          refine g_icmp_f C at_192 (XT.ii_lt_f (by decide)) ?_
          refine g_iconst C 1 at_195 rfl ?_
          refine g_goto C 200 at_196 (by decide) (by decide) ?_
          refine g_icmp_f C at_200 (XT.ii_ne_f (by decide)) ?_
          refine g_iconst C 1 at_203 rfl ?_
          refine g_goto C 208 at_204 (by decide) (by decide) ?_
          refine g_istore C #[.val (.int i1), .val (.int i2), .val (.int i3), .val (.int i4), .val (.int i5), .val (.int i6), .val (.int (2 : Int32)), .val (.int kk), .val (.ref b223), .val (.int (1 : Int32))] at_208 rfl ?_
          refine g_iload C at_210 rfl ?_
          refine g_iconst C 3 at_212 rfl ?_
          by_cases hc235 : (3 : Int32) < kk
          · refine g_icmp_f C at_213 (XT.ii_le_f hc235) ?_
            refine g_aload C at_216 rfl rfl ?_
            refine g_iloadN C at_218 rfl ?_
            refine g_iloadN C at_219 rfl ?_
            refine g_ixor C at_220 ?_
            refine g_iload C at_221 rfl ?_
            refine g_bipush C 12 at_223 rfl ?_
            refine g_ishr C at_225 ?_
            refine g_bipush C 15 at_226 rfl ?_
            refine g_iand C at_228 ?_
            refine g_i2d C at_229 ?_
            refine g_virtual C Hq233.1 w_23 w_24 (fun hZ => nf_sel hw w_26 hZ) w_26 w_25 (by decide) [(.int (i3 ^^^ i4)), (.double (FP.i2d ((i6 >>> ((12 : Int32) &&& 31)) &&& (15 : Int32))))] (ct_of hw w_27 w_2 (rm_of l Z a0 hw b223 d224 sc224 kd224 ks224 (2 : Int32) (2 : Int32) _ _ (i3 ^^^ i4) (FP.i2d ((i6 >>> ((12 : Int32) &&& 31)) &&& (15 : Int32))) h233 n0 Hq233 (by decide) (by decide) (by decide) (by decide))) (allS (List.mem_of_getElem? (i := 2) rfl) (allS (List.mem_of_getElem? (i := 0) rfl) (allS (List.mem_of_getElem? (i := 1) rfl) all0))) (by decide) 0 (by decide) rfl pd__ID_V rfl [] rfl (Nat.le_of_eq rfl) at_230 (by decide) (by decide) ?_
            intro v236 h236 Q236
            obtain ⟨rfl, KC236, xs236, ys236, Hq236⟩ := Q236
            rw [show (if (2 : Int32) < (2 : Int32) then (2 : Int32) + 1 else (2 : Int32)) = (2 : Int32) from by decide] at Hq236
            refine g_iload C at_233 rfl ?_
            refine g_if_f C at_235 (XT.i0_eq_f (by decide)) ?_
            refine g_aload C at_238 rfl rfl ?_
            refine g_virtual C Hq236.1 w_15 w_16 (fun hZ => nf_sel hw w_18 hZ) w_18 w_17 (by decide) [] (ct_of hw w_19 w_2 (rm_if l Z a0 hw b223 d224 sc224 kd224 ks224 (2 : Int32) (2 : Int32) _ _ h236 n0 Hq236)) all0 (by decide) 0 (by decide) rfl pd___Z rfl [] rfl (Nat.le_of_eq rfl) at_240 (by decide) (by decide) ?_
            intro v237 h237 Q237
            obtain ⟨ev237, e237⟩ := Q237
            replace e237 := e237.symm
            subst e237
            have ew237 : v237 = some (.int (1 : Int32)) := ev237.trans (by decide)
            subst ew237
            refine g_iconst C 4 at_243 rfl ?_
            refine g_iload C at_244 rfl ?_
            refine g_icmp_f C at_246 (XT.ii_lt_f (by decide)) ?_
            refine g_iconst C 1 at_249 rfl ?_
            refine g_goto C 254 at_250 (by decide) (by decide) ?_
            refine g_icmp_f C at_254 (XT.ii_ne_f (by decide)) ?_
            refine g_iconst C 1 at_257 rfl ?_
            refine g_goto C 262 at_258 (by decide) (by decide) ?_
            refine g_istore C #[.val (.int i1), .val (.int i2), .val (.int i3), .val (.int i4), .val (.int i5), .val (.int i6), .val (.int (2 : Int32)), .val (.int kk), .val (.ref b223), .val (.int (1 : Int32))] at_262 rfl ?_
            refine g_iload C at_264 rfl ?_
            refine g_ireturnN C (t := .boolean) rfl (by simp) at_266 (by decide) (by decide) ?_
            exact rfl
          · refine g_icmp_t C 264 at_213 (XT.ii_le_t hc235) (by decide) (by decide) ?_
            refine g_iload C at_264 rfl ?_
            refine g_ireturnN C (t := .boolean) rfl (by simp) at_266 (by decide) (by decide) ?_
            exact rfl
        · refine g_icmp_t C 210 at_160 (XT.ii_le_t hc232) (by decide) (by decide) ?_
          refine g_iload C at_210 rfl ?_
          refine g_iconst C 3 at_212 rfl ?_
          refine g_icmp_t C 264 at_213 (XT.ii_le_t (own_mono hc232 (by decide))) (by decide) (by decide) ?_
          refine g_iload C at_264 rfl ?_
          refine g_ireturnN C (t := .boolean) rfl (by simp) at_266 (by decide) (by decide) ?_
          exact rfl
      · refine g_icmp_t C 157 at_109 (XT.ii_le_t hc229) (by decide) (by decide) ?_
        refine g_iload C at_157 rfl ?_
        refine g_iconst C 2 at_159 rfl ?_
        refine g_icmp_t C 210 at_160 (XT.ii_le_t (own_mono hc229 (by decide))) (by decide) (by decide) ?_
        refine g_iload C at_210 rfl ?_
        refine g_iconst C 3 at_212 rfl ?_
        refine g_icmp_t C 264 at_213 (XT.ii_le_t (own_mono hc229 (by decide))) (by decide) (by decide) ?_
        refine g_iload C at_264 rfl ?_
        refine g_ireturnN C (t := .boolean) rfl (by simp) at_266 (by decide) (by decide) ?_
        exact rfl
    · refine g_if_t C 106 at_60 (XT.i0_le_t hc226) (by decide) (by decide) ?_
      refine g_iload C at_106 rfl ?_
      refine g_iconst C 1 at_108 rfl ?_
      refine g_icmp_t C 157 at_109 (XT.ii_le_t (own_mono hc226 (by decide))) (by decide) (by decide) ?_
      refine g_iload C at_157 rfl ?_
      refine g_iconst C 2 at_159 rfl ?_
      refine g_icmp_t C 210 at_160 (XT.ii_le_t (own_mono hc226 (by decide))) (by decide) (by decide) ?_
      refine g_iload C at_210 rfl ?_
      refine g_iconst C 3 at_212 rfl ?_
      refine g_icmp_t C 264 at_213 (XT.ii_le_t (own_mono hc226 (by decide))) (by decide) (by decide) ?_
      refine g_iload C at_264 rfl ?_
      refine g_ireturnN C (t := .boolean) rfl (by simp) at_266 (by decide) (by decide) ?_
      exact rfl
  · refine g_iload C at_5 rfl ?_
    refine g_if_t C 14 at_7 (XT.i0_ne_t (by decide)) (by decide) (by decide) ?_
    refine g_iloadN C at_14 rfl ?_
    refine g_ldcI C w_22 at_15 ?_
    refine g_iand C at_17 ?_
    refine g_iconst C 5 at_18 rfl ?_
    refine g_irem C at_19 (by decide) ?_
    refine g_istore C #[.val (.int i1), .val (.int i2), .val (.int i3), .val (.int i4), .val (.int i5), .val (.int i6), .val (.int (3 : Int32)), .val (.int ((i2 &&& (2147483647 : Int32)) % (5 : Int32))), .unset, .unset] at_20 rfl ?_
    obtain ⟨kk, e_kk⟩ : ∃ z : Int32, ((i2 &&& (2147483647 : Int32)) % (5 : Int32)) = z := ⟨_, rfl⟩
    rw [e_kk]
    refine g_new C w_0 w_1 w_2 at_22 (by decide) (by decide) ?_
    intro b238 h238 g238 E238 A238 D238
    refine g_dup C at_25 rfl ?_
    refine g_iload C at_26 rfl ?_
    refine g_specialX C (a := b238) w_3 w_4 w_5 rfl (by decide) [(.int (3 : Int32))] (ct_of hw w_5 w_2 (rm_in l Z a0 hw b238 (3 : Int32) h238 n0 A238 (D238 (Or.inl (C.hw w_21)) (ty := .int) (by decide)) (D238 (Or.inr (C.hw w_11)) (ty := (.array .int)) (by decide)) (D238 (Or.inr (C.hw w_14)) (ty := (.array .double)) (by decide)) (by decide) (by decide))) (allS (List.mem_of_getElem? (i := 0) rfl) all0) (by decide) 1 (by decide) rfl pd__I_V rfl [(.ref b238)] rfl (Nat.le_of_eq rfl) at_28 (by decide) (by decide) ?_
    intro v239 h239 ns239 Q239
    obtain ⟨d239, sc239, kd239, ks239, rfl, rfl, KC239, led239, les239, Hq239⟩ := Q239
    refine g_astore C #[.val (.int i1), .val (.int i2), .val (.int i3), .val (.int i4), .val (.int i5), .val (.int i6), .val (.int (3 : Int32)), .val (.int kk), .val (.ref b238), .unset] at_31 rfl rfl ?_
    refine g_aload C at_33 rfl rfl ?_
    refine g_virtual C Hq239.1 w_15 w_16 (fun hZ => nf_sel hw w_18 hZ) w_18 w_17 (by decide) [] (ct_of hw w_19 w_2 (rm_if l Z a0 hw b238 d239 sc239 kd239 ks239 (3 : Int32) (0 : Int32) _ _ h239 n0 Hq239)) all0 (by decide) 0 (by decide) rfl pd___Z rfl [] rfl (Nat.le_of_eq rfl) at_35 (by decide) (by decide) ?_
    intro v240 h240 Q240
    obtain ⟨ev240, e240⟩ := Q240
    replace e240 := e240.symm
    subst e240
    have ew240 : v240 = some (.int (0 : Int32)) := ev240.trans (by decide)
    subst ew240
    refine g_iload C at_38 rfl ?_
    refine g_if_t C 47 at_40 (XT.i0_ne_t (by decide)) (by decide) (by decide) ?_
    refine g_iconst C 0 at_47 rfl ?_
    refine g_icmp_f C at_48 (XT.ii_ne_f (by decide)) ?_
    refine g_iconst C 1 at_51 rfl ?_
    refine g_goto C 56 at_52 (by decide) (by decide) ?_
    refine g_istore C #[.val (.int i1), .val (.int i2), .val (.int i3), .val (.int i4), .val (.int i5), .val (.int i6), .val (.int (3 : Int32)), .val (.int kk), .val (.ref b238), .val (.int (1 : Int32))] at_56 rfl ?_
    refine g_iload C at_58 rfl ?_
    by_cases hc241 : 0 < kk
    · refine g_if_f C at_60 (XT.i0_le_f hc241) ?_
      refine g_aload C at_63 rfl rfl ?_
      refine g_iloadN C at_65 rfl ?_
      refine g_iload C at_66 rfl ?_
      refine g_bipush C 15 at_68 rfl ?_
      refine g_iand C at_70 ?_
      refine g_i2d C at_71 ?_
      refine g_virtual C Hq239.1 w_23 w_24 (fun hZ => nf_sel hw w_26 hZ) w_26 w_25 (by decide) [(.int i3), (.double (FP.i2d (i6 &&& (15 : Int32))))] (ct_of hw w_27 w_2 (rm_of l Z a0 hw b238 d239 sc239 kd239 ks239 (3 : Int32) (0 : Int32) _ _ i3 (FP.i2d (i6 &&& (15 : Int32))) h239 n0 Hq239 (by decide) (by decide) (by decide) (by decide))) (allS (List.mem_of_getElem? (i := 2) rfl) (allS (List.mem_of_getElem? (i := 0) rfl) (allS (List.mem_of_getElem? (i := 1) rfl) all0))) (by decide) 0 (by decide) rfl pd__ID_V rfl [] rfl (Nat.le_of_eq rfl) at_72 (by decide) (by decide) ?_
      intro v242 h242 Q242
      obtain ⟨rfl, KC242, xs242, ys242, Hq242⟩ := Q242
      rw [show (if (0 : Int32) < (3 : Int32) then (0 : Int32) + 1 else (0 : Int32)) = (1 : Int32) from by decide] at Hq242
      refine g_iload C at_75 rfl ?_
      refine g_if_f C at_77 (XT.i0_eq_f (by decide)) ?_
      refine g_aload C at_80 rfl rfl ?_
      refine g_virtual C Hq242.1 w_15 w_16 (fun hZ => nf_sel hw w_18 hZ) w_18 w_17 (by decide) [] (ct_of hw w_19 w_2 (rm_if l Z a0 hw b238 d239 sc239 kd239 ks239 (3 : Int32) (1 : Int32) _ _ h242 n0 Hq242)) all0 (by decide) 0 (by decide) rfl pd___Z rfl [] rfl (Nat.le_of_eq rfl) at_82 (by decide) (by decide) ?_
      intro v243 h243 Q243
      obtain ⟨ev243, e243⟩ := Q243
      replace e243 := e243.symm
      subst e243
      have ew243 : v243 = some (.int (0 : Int32)) := ev243.trans (by decide)
      subst ew243
      refine g_iconst C 1 at_85 rfl ?_
      refine g_iload C at_86 rfl ?_
      refine g_icmp_t C 95 at_88 (XT.ii_lt_t (by decide)) (by decide) (by decide) ?_
      refine g_iconst C 0 at_95 rfl ?_
      refine g_icmp_f C at_96 (XT.ii_ne_f (by decide)) ?_
      refine g_iconst C 1 at_99 rfl ?_
      refine g_goto C 104 at_100 (by decide) (by decide) ?_
      refine g_istore C #[.val (.int i1), .val (.int i2), .val (.int i3), .val (.int i4), .val (.int i5), .val (.int i6), .val (.int (3 : Int32)), .val (.int kk), .val (.ref b238), .val (.int (1 : Int32))] at_104 rfl ?_
      refine g_iload C at_106 rfl ?_
      refine g_iconst C 1 at_108 rfl ?_
      by_cases hc244 : (1 : Int32) < kk
      · refine g_icmp_f C at_109 (XT.ii_le_f hc244) ?_
        refine g_aload C at_112 rfl rfl ?_
        refine g_iloadN C at_114 rfl ?_
        refine g_iload C at_115 rfl ?_
        refine g_iconst C 4 at_117 rfl ?_
        refine g_ishr C at_118 ?_
        refine g_bipush C 15 at_119 rfl ?_
        refine g_iand C at_121 ?_
        refine g_i2d C at_122 ?_
        refine g_virtual C Hq242.1 w_23 w_24 (fun hZ => nf_sel hw w_26 hZ) w_26 w_25 (by decide) [(.int i4), (.double (FP.i2d ((i6 >>> ((4 : Int32) &&& 31)) &&& (15 : Int32))))] (ct_of hw w_27 w_2 (rm_of l Z a0 hw b238 d239 sc239 kd239 ks239 (3 : Int32) (1 : Int32) _ _ i4 (FP.i2d ((i6 >>> ((4 : Int32) &&& 31)) &&& (15 : Int32))) h242 n0 Hq242 (by decide) (by decide) (by decide) (by decide))) (allS (List.mem_of_getElem? (i := 2) rfl) (allS (List.mem_of_getElem? (i := 0) rfl) (allS (List.mem_of_getElem? (i := 1) rfl) all0))) (by decide) 0 (by decide) rfl pd__ID_V rfl [] rfl (Nat.le_of_eq rfl) at_123 (by decide) (by decide) ?_
        intro v245 h245 Q245
        obtain ⟨rfl, KC245, xs245, ys245, Hq245⟩ := Q245
        rw [show (if (1 : Int32) < (3 : Int32) then (1 : Int32) + 1 else (1 : Int32)) = (2 : Int32) from by decide] at Hq245
        refine g_iload C at_126 rfl ?_
        refine g_if_f C at_128 (XT.i0_eq_f (by decide)) ?_
        refine g_aload C at_131 rfl rfl ?_
        refine g_virtual C Hq245.1 w_15 w_16 (fun hZ => nf_sel hw w_18 hZ) w_18 w_17 (by decide) [] (ct_of hw w_19 w_2 (rm_if l Z a0 hw b238 d239 sc239 kd239 ks239 (3 : Int32) (2 : Int32) _ _ h245 n0 Hq245)) all0 (by decide) 0 (by decide) rfl pd___Z rfl [] rfl (Nat.le_of_eq rfl) at_133 (by decide) (by decide) ?_
        intro v246 h246 Q246
        obtain ⟨ev246, e246⟩ := Q246
        replace e246 := e246.symm
        subst e246
        have ew246 : v246 = some (.int (0 : Int32)) := ev246.trans (by decide)
        subst ew246
        refine g_iconst C 2 at_136 rfl ?_
        refine g_iload C at_137 rfl ?_
        refine g_icmp_t C 146 at_139 (XT.ii_lt_t (by decide)) (by decide) (by decide) ?_
        refine g_iconst C 0 at_146 rfl ?_
        refine g_icmp_f C at_147 (XT.ii_ne_f (by decide)) ?_
        refine g_iconst C 1 at_150 rfl ?_
        refine g_goto C 155 at_151 (by decide) (by decide) ?_
        refine g_istore C #[.val (.int i1), .val (.int i2), .val (.int i3), .val (.int i4), .val (.int i5), .val (.int i6), .val (.int (3 : Int32)), .val (.int kk), .val (.ref b238), .val (.int (1 : Int32))] at_155 rfl ?_
        refine g_iload C at_157 rfl ?_
        refine g_iconst C 2 at_159 rfl ?_
        by_cases hc247 : (2 : Int32) < kk
        · refine g_icmp_f C at_160 (XT.ii_le_f hc247) ?_
          refine g_aload C at_163 rfl rfl ?_
          refine g_iload C at_165 rfl ?_
          refine g_iload C at_167 rfl ?_
          refine g_bipush C 8 at_169 rfl ?_
          refine g_ishr C at_171 ?_
          refine g_bipush C 15 at_172 rfl ?_
          refine g_iand C at_174 ?_
          refine g_i2d C at_175 ?_
          refine g_virtual C Hq245.1 w_23 w_24 (fun hZ => nf_sel hw w_26 hZ) w_26 w_25 (by decide) [(.int i5), (.double (FP.i2d ((i6 >>> ((8 : Int32) &&& 31)) &&& (15 : Int32))))] (ct_of hw w_27 w_2 (rm_of l Z a0 hw b238 d239 sc239 kd239 ks239 (3 : Int32) (2 : Int32) _ _ i5 (FP.i2d ((i6 >>> ((8 : Int32) &&& 31)) &&& (15 : Int32))) h245 n0 Hq245 (by decide) (by decide) (by decide) (by decide))) (allS (List.mem_of_getElem? (i := 2) rfl) (allS (List.mem_of_getElem? (i := 0) rfl) (allS (List.mem_of_getElem? (i := 1) rfl) all0))) (by decide) 0 (by decide) rfl pd__ID_V rfl [] rfl (Nat.le_of_eq rfl) at_176 (by decide) (by decide) ?_
          intro v248 h248 Q248
          obtain ⟨rfl, KC248, xs248, ys248, Hq248⟩ := Q248
          rw [show (if (2 : Int32) < (3 : Int32) then (2 : Int32) + 1 else (2 : Int32)) = (3 : Int32) from by decide] at Hq248
          refine g_iload C at_179 rfl ?_
          refine g_if_f C at_181 (XT.i0_eq_f (by decide)) ?_
          refine g_aload C at_184 rfl rfl ?_
          refine g_virtual C Hq248.1 w_15 w_16 (fun hZ => nf_sel hw w_18 hZ) w_18 w_17 (by decide) [] (ct_of hw w_19 w_2 (rm_if l Z a0 hw b238 d239 sc239 kd239 ks239 (3 : Int32) (3 : Int32) _ _ h248 n0 Hq248)) all0 (by decide) 0 (by decide) rfl pd___Z rfl [] rfl (Nat.le_of_eq rfl) at_186 (by decide) (by decide) ?_
          intro v249 h249 Q249
          obtain ⟨ev249, e249⟩ := Q249
          replace e249 := e249.symm
          subst e249
          have ew249 : v249 = some (.int (1 : Int32)) := ev249.trans (by decide)
          subst ew249
          refine g_iconst C 3 at_189 rfl ?_
          refine g_iload C at_190 rfl ?_
          refine g_icmp_f C at_192 (XT.ii_lt_f (by decide)) ?_
          refine g_iconst C 1 at_195 rfl ?_
          refine g_goto C 200 at_196 (by decide) (by decide) ?_
          refine g_icmp_f C at_200 (XT.ii_ne_f (by decide)) ?_
          refine g_iconst C 1 at_203 rfl ?_
          refine g_goto C 208 at_204 (by decide) (by decide) ?_
          refine g_istore C #[.val (.int i1), .val (.int i2), .val (.int i3), .val (.int i4), .val (.int i5), .val (.int i6), .val (.int (3 : Int32)), .val (.int kk), .val (.ref b238), .val (.int (1 : Int32))] at_208 rfl ?_
          refine g_iload C at_210 rfl ?_
          refine g_iconst C 3 at_212 rfl ?_
          by_cases hc250 : (3 : Int32) < kk
          · refine g_icmp_f C at_213 (XT.ii_le_f hc250) ?_
            refine g_aload C at_216 rfl rfl ?_
            refine g_iloadN C at_218 rfl ?_
            refine g_iloadN C at_219 rfl ?_
            refine g_ixor C at_220 ?_
            refine g_iload C at_221 rfl ?_
            refine g_bipush C 12 at_223 rfl ?_
            refine g_ishr C at_225 ?_
            refine g_bipush C 15 at_226 rfl ?_
            refine g_iand C at_228 ?_
            refine g_i2d C at_229 ?_
            refine g_virtual C Hq248.1 w_23 w_24 (fun hZ => nf_sel hw w_26 hZ) w_26 w_25 (by decide) [(.int (i3 ^^^ i4)), (.double (FP.i2d ((i6 >>> ((12 : Int32) &&& 31)) &&& (15 : Int32))))] (ct_of hw w_27 w_2 (rm_of l Z a0 hw b238 d239 sc239 kd239 ks239 (3 : Int32) (3 : Int32) _ _ (i3 ^^^ i4) (FP.i2d ((i6 >>> ((12 : Int32) &&& 31)) &&& (15 : Int32))) h248 n0 Hq248 (by decide) (by decide) (by decide) (by decide))) (allS (List.mem_of_getElem? (i := 2) rfl) (allS (List.mem_of_getElem? (i := 0) rfl) (allS (List.mem_of_getElem? (i := 1) rfl) all0))) (by decide) 0 (by decide) rfl pd__ID_V rfl [] rfl (Nat.le_of_eq rfl) at_230 (by decide) (by decide) ?_
            intro v251 h251 Q251
            obtain ⟨rfl, KC251, xs251, ys251, Hq251⟩ := Q251
            rw [show (if (3 : Int32) < (3 : Int32) then (3 : Int32) + 1 else (3 : Int32)) = (3 : Int32) from by decide] at Hq251
            refine g_iload C at_233 rfl ?_
            refine g_if_f C at_235 (XT.i0_eq_f (by decide)) ?_
            refine g_aload C at_238 rfl rfl ?_
            refine g_virtual C Hq251.1 w_15 w_16 (fun hZ => nf_sel hw w_18 hZ) w_18 w_17 (by decide) [] (ct_of hw w_19 w_2 (rm_if l Z a0 hw b238 d239 sc239 kd239 ks239 (3 : Int32) (3 : Int32) _ _ h251 n0 Hq251)) all0 (by decide) 0 (by decide) rfl pd___Z rfl [] rfl (Nat.le_of_eq rfl) at_240 (by decide) (by decide) ?_
            intro v252 h252 Q252
            obtain ⟨ev252, e252⟩ := Q252
            replace e252 := e252.symm
            subst e252
            have ew252 : v252 = some (.int (1 : Int32)) := ev252.trans (by decide)
            subst ew252
            refine g_iconst C 4 at_243 rfl ?_
            refine g_iload C at_244 rfl ?_
            refine g_icmp_f C at_246 (XT.ii_lt_f (by decide)) ?_
            refine g_iconst C 1 at_249 rfl ?_
            refine g_goto C 254 at_250 (by decide) (by decide) ?_
            refine g_icmp_f C at_254 (XT.ii_ne_f (by decide)) ?_
            refine g_iconst C 1 at_257 rfl ?_
            refine g_goto C 262 at_258 (by decide) (by decide) ?_
            refine g_istore C #[.val (.int i1), .val (.int i2), .val (.int i3), .val (.int i4), .val (.int i5), .val (.int i6), .val (.int (3 : Int32)), .val (.int kk), .val (.ref b238), .val (.int (1 : Int32))] at_262 rfl ?_
            refine g_iload C at_264 rfl ?_
            refine g_ireturnN C (t := .boolean) rfl (by simp) at_266 (by decide) (by decide) ?_
            exact rfl
          · refine g_icmp_t C 264 at_213 (XT.ii_le_t hc250) (by decide) (by decide) ?_
            refine g_iload C at_264 rfl ?_
            refine g_ireturnN C (t := .boolean) rfl (by simp) at_266 (by decide) (by decide) ?_
            exact rfl
        · refine g_icmp_t C 210 at_160 (XT.ii_le_t hc247) (by decide) (by decide) ?_
          refine g_iload C at_210 rfl ?_
          refine g_iconst C 3 at_212 rfl ?_
          refine g_icmp_t C 264 at_213 (XT.ii_le_t (own_mono hc247 (by decide))) (by decide) (by decide) ?_
          refine g_iload C at_264 rfl ?_
          refine g_ireturnN C (t := .boolean) rfl (by simp) at_266 (by decide) (by decide) ?_
          exact rfl
      · refine g_icmp_t C 157 at_109 (XT.ii_le_t hc244) (by decide) (by decide) ?_
        refine g_iload C at_157 rfl ?_
        refine g_iconst C 2 at_159 rfl ?_
        refine g_icmp_t C 210 at_160 (XT.ii_le_t (own_mono hc244 (by decide))) (by decide) (by decide) ?_
        refine g_iload C at_210 rfl ?_
        refine g_iconst C 3 at_212 rfl ?_
        refine g_icmp_t C 264 at_213 (XT.ii_le_t (own_mono hc244 (by decide))) (by decide) (by decide) ?_
        refine g_iload C at_264 rfl ?_
        refine g_ireturnN C (t := .boolean) rfl (by simp) at_266 (by decide) (by decide) ?_
        exact rfl
    · refine g_if_t C 106 at_60 (XT.i0_le_t hc241) (by decide) (by decide) ?_
      refine g_iload C at_106 rfl ?_
      refine g_iconst C 1 at_108 rfl ?_
      refine g_icmp_t C 157 at_109 (XT.ii_le_t (own_mono hc241 (by decide))) (by decide) (by decide) ?_
      refine g_iload C at_157 rfl ?_
      refine g_iconst C 2 at_159 rfl ?_
      refine g_icmp_t C 210 at_160 (XT.ii_le_t (own_mono hc241 (by decide))) (by decide) (by decide) ?_
      refine g_iload C at_210 rfl ?_
      refine g_iconst C 3 at_212 rfl ?_
      refine g_icmp_t C 264 at_213 (XT.ii_le_t (own_mono hc241 (by decide))) (by decide) (by decide) ?_
      refine g_iload C at_264 rfl ?_
      refine g_ireturnN C (t := .boolean) rfl (by simp) at_266 (by decide) (by decide) ?_
      exact rfl
set_option maxRecDepth 65536 in
set_option maxHeartbeats 40000000 in
theorem comes_1 {Post : Tables → Env → Array Value → State → Outcome → State → Prop} (hpost : ∀ tb e args s v u, (limb_1_1.after args s (.returned v) u = true ∧ limb_1_2.after args s (.returned v) u = true ∧ True) → FrameEnd s (.returned v) u (Jvm.fieldLocs frame_1_writes args s ++ Jvm.arrayLocs frame_1_arrays args s ++ Jvm.staticLocs frame_1_statics s) 16 128 → Post tb e args s (.returned v) u) :
    ArmFor flags0 classFile x code maxLocals ret World_1 tables_1 room_1 Calls_1 rest_1 Pre_1 Post := by
  intro l hfl _ _ p e ha hc hk s m args below hf hA hF happ hP
  obtain ⟨hcalls, hrest, hpre⟩ := hP
  obtain ⟨-, -, -, hnamed, -, -, -, hat⟩ := (Spec.applies_iff hf).mp happ
  obtain ⟨hg, hn⟩ := and_e (Cond.before_iff.mp (show (Jvm.Cond.and given_1 narrow_1).before args s = true from hpre))
  obtain ⟨hcount, ga0⟩ := and_e hg
  obtain ⟨gv0, ga1⟩ := and_e ga0
  obtain ⟨gv1, ga2⟩ := and_e ga1
  obtain ⟨gv2, ga3⟩ := and_e ga2
  obtain ⟨gv3, ga4⟩ := and_e ga3
  obtain ⟨gv4, ga5⟩ := and_e ga4
  obtain ⟨w0, w1, w2, w3, w4, w5, rfl⟩ : ∃ w0 w1 w2 w3 w4 w5 : Value, args = #[w0, w1, w2, w3, w4, w5] := by
    have hs : args.size = 6 := by simpa [Cond.value, given_1] using hcount
    obtain ⟨L⟩ := args
    match L, hs with
    | [w0, w1, w2, w3, w4, w5], _ => exact ⟨w0, w1, w2, w3, w4, w5, rfl⟩
  have hw := fun d (hd : d ∈ tables_1) => atoms_spec (ws := Jvm.Cond.code x code maxLocals ret :: tables_1) hat d (List.mem_cons_of_mem _ hd)
  have hfit : Fit s := fun {y c} hc i hi => by
    obtain ⟨ha, rfl⟩ := Array.getElem?_eq_some_iff.mp hc
    have q := List.all_eq_true.mp ((Array.all_eq_true_iff_forall_mem.mp hF) _ (Array.getElem_mem ha)) i (List.mem_range.mpr hi)
    simpa [Array.getElem?_eq_getElem hi] using q
  obtain ⟨i0, ei0⟩ := is_v gv0
  obtain rfl : w0 = (.int i0) := Option.some.inj ei0
  obtain ⟨i1, ei1⟩ := is_v gv1
  obtain rfl : w1 = (.int i1) := Option.some.inj ei1
  obtain ⟨i2, ei2⟩ := is_v gv2
  obtain rfl : w2 = (.int i2) := Option.some.inj ei2
  obtain ⟨i3, ei3⟩ := is_v gv3
  obtain rfl : w3 = (.int i3) := Option.some.inj ei3
  obtain ⟨i4, ei4⟩ := is_v gv4
  obtain rfl : w4 = (.int i4) := Option.some.inj ei4
  obtain ⟨i5, ei5⟩ := is_v ga5
  obtain rfl : w5 = (.int i5) := Option.some.inj ei5
  obtain ⟨n, o, h1, h2, h3, _, L, ns, rfl, ⟨⟨rfl, rfl⟩, N⟩, -, hq⟩ := rm_law l s _ hw (ws := tables_1) i0 i1 i2 i3 i4 i5  s.heap s.heap.size  ⟨Nat.le_refl _, all0⟩ p e ha hc hk s m _ below hf ((Spec.applies_iff_loose hf).mp happ).1 ⟨rfl, State.Warmed39.refl s, rfl⟩ trivial
  refine ⟨n, _, h1, h2, h3, hpost _ _ _ _ _ _ ⟨Cond.after_iff.mpr rfl, Cond.after_iff.mpr (eq_i res_at (Term.int_eval (1)) rfl), trivial⟩ ⟨hq.1, hq.2.1, (hq.2.2.sift fun y hy => Or.inr (N y hy)).mono (by decide) (by decide)⟩⟩
theorem main_1_1 : Claimed_1_1 := comes_1 fun _ _ _ _ _ _ h hF => ⟨h.1, hF⟩
theorem main_1_2 : Claimed_1_2 := comes_1 fun _ _ _ _ _ _ h hF => ⟨h.2.1, hF⟩

end Jvm.Pilot.@@N@@
namespace Jvm.Pilot.@@N@@
open Jvm Jvm.ClassFile Sem Op Lib Jvm.Free Jvm.Stand Jvm.Pilot.@@N@@.Jvm.D
/-! MADE BY PROGRAM (witnessworld.py) out of the Statement's table words and the real class files: 11 classes; the members and pool entries that the words name. The judged class is class 1, her method 1. -/
namespace start1
open Jvm.ClassFile
def u (s : String) : CpInfo := .utf8 (stringToUtf16 s)
/-- a pool by its gaps: so many unusable entries, then the entry; so many at the end -/
def gap : Nat → List CpInfo → List CpInfo
  | 0, r => r
  | n + 1, r => .unusable :: gap n r
def poolList (es : List (Nat × CpInfo)) (last : Nat) : List CpInfo := es.foldr (fun e r => gap e.1 (e.2 :: r)) (gap last [])
def pool (es : List (Nat × CpInfo)) (last : Nat) : Array CpInfo := ⟨poolList es last⟩
def fileOf (pool : Array CpInfo) (this : Nat) (attrs : Array Attribute := #[]) (ms : Array MethodInfo := #[]) (fl : Nat := 33) (sup : Nat := 0) (ifs : Array Nat := #[]) (fds : Array FieldInfo := #[]) : ClassFile where
  minorVersion := 0
  majorVersion := 65
  constantPool := pool
  accessFlags := fl
  thisClass := this
  superClass := sup
  interfaces := ifs
  fields := fds
  methods := ms
  attributes := attrs
def plain (name : String) (sup : Option ClassId) : Class where
  name := name
  kind := .ordinary
  loader := none
  accessFlags := 33
  super := sup
  interfaces := #[]
  cf := none
  fields := #[]
  methods := #[]
  instanceTypes := #[]
  staticTypes := #[]
  resolved := #[]
  callSites := []
  init := .initialized
  statics := none
  mirror := none

def pool0 : Array CpInfo := pool [(5, u "<init>"), (0, u "()V"), (1, .class_ 10), (1, u "java/lang/Object")] 113

def k0c0 : Code := { maxStack := 0, maxLocals := 1, code := object_method_1_code, exceptionTable := #[], attributes := #[] }
def k0m0 : Method := { name := "<init>", desc := "()V", sig := { parameters := [], returnType := none }, accessFlags := 1, code := some k0c0 }
/-- java/lang/Object -/
def k0 : Class := { plain "java/lang/Object" none with
  accessFlags := 33
  interfaces := #[]
  cf := some (fileOf pool0 8 #[] #[{ accessFlags := 1, nameIndex := 5, descriptorIndex := 6, attributes := #[] }] 33 0 #[] #[])
  fields := #[]
  methods := #[k0m0]
  instanceTypes := #[]
  staticTypes := #[]
  resolved := Array.replicate 124 none
  statics := none }

def pool1 : Array CpInfo := pool [(2, .class_ 4), (1, u "java/lang/Object"), (0, u "<init>"), (0, u "()V"), (0, .integer 2147483647), (0, .class_ 9), (0, u "com/example/fama/fama/search/HitQueue"), (0, .methodref 8 11), (0, .nameAndType 5 12), (0, u "(I)V"), (0, .methodref 8 14), (0, .nameAndType 15 16), (0, u "isFull"), (0, u "()Z"), (0, .methodref 8 18), (0, .nameAndType 19 20), (0, u "offer"), (0, u "(ID)V"), (0, .class_ 22), (0, u "com/example/fama/fama/search/HitQueueIsFullPinLaw"), (2, u "law"), (0, u "(IIIIII)Z")] 3

def k1m0 : Method := { name := "<init>", desc := "()V", sig := { parameters := [], returnType := none }, accessFlags := 1, code := none }
def k1c1 : Code := { maxStack := 4, maxLocals := 10, code := code, exceptionTable := #[], attributes := #[] }
def k1m1 : Method := { name := "law", desc := "(IIIIII)Z", sig := { parameters := [.int, .int, .int, .int, .int, .int], returnType := some .boolean }, accessFlags := 9, code := some k1c1 }
/-- com/example/fama/fama/search/HitQueueIsFullPinLaw -/
def k1 : Class := { plain "com/example/fama/fama/search/HitQueueIsFullPinLaw" (some 0) with
  accessFlags := 49
  interfaces := #[]
  cf := some (fileOf pool1 21 #[] #[{ accessFlags := 1, nameIndex := 5, descriptorIndex := 6, attributes := #[] }, { accessFlags := 9, nameIndex := 25, descriptorIndex := 26, attributes := #[] }] 49 2 #[] #[])
  fields := #[]
  methods := #[k1m0, k1m1]
  instanceTypes := #[]
  staticTypes := #[]
  resolved := Array.replicate 30 none
  statics := none }

def pool2 : Array CpInfo := pool [(1, .methodref 2 3), (0, .class_ 4), (0, .nameAndType 5 6), (0, u "java/lang/Object"), (0, u "<init>"), (0, u "()V"), (0, .fieldref 8 9), (0, .class_ 10), (0, .nameAndType 11 12), (0, u "com/example/fama/fama/search/HitQueue"), (0, u "documents"), (0, u "[I"), (0, .fieldref 8 14), (0, .nameAndType 15 16), (0, u "scores"), (0, u "[D"), (0, .fieldref 8 18), (0, .nameAndType 19 20), (0, u "size"), (0, u "I"), (0, .methodref 8 22), (0, .nameAndType 23 24), (0, u "siftUp"), (0, u "(I)V"), (0, .methodref 8 26), (0, .nameAndType 27 28), (0, u "isWorse"), (0, u "(IDID)Z"), (0, .methodref 8 30), (0, .nameAndType 31 24), (0, u "siftDown"), (4, u "(ID)V"), (0, .methodref 8 38), (0, .nameAndType 39 40), (0, u "move"), (0, u "(II)V"), (6, .methodref 8 48), (0, .nameAndType 27 49), (0, u "(II)Z"), (0, .methodref 8 51), (0, .nameAndType 52 40), (0, u "swap"), (2, u "offer"), (1, u "isFull"), (0, u "()Z")] 10

def k2c0 : Code := { maxStack := 2, maxLocals := 2, code := prog_71_method_1_code, exceptionTable := #[], attributes := #[] }
def k2m0 : Method := { name := "<init>", desc := "(I)V", sig := { parameters := [.int], returnType := none }, accessFlags := 0, code := some k2c0 }
def k2c1 : Code := { maxStack := 6, maxLocals := 4, code := prog_71_method_2_code, exceptionTable := #[], attributes := #[] }
def k2m1 : Method := { name := "offer", desc := "(ID)V", sig := { parameters := [.int, .double], returnType := none }, accessFlags := 0, code := some k2c1 }
def k2c2 : Code := { maxStack := 2, maxLocals := 1, code := prog_71_method_3_code, exceptionTable := #[], attributes := #[] }
def k2m2 : Method := { name := "isFull", desc := "()Z", sig := { parameters := [], returnType := some .boolean }, accessFlags := 0, code := some k2c2 }
def k2c3 : Code := { maxStack := 4, maxLocals := 6, code := prog_71_method_6_code, exceptionTable := #[], attributes := #[] }
def k2m3 : Method := { name := "isWorse", desc := "(IDID)Z", sig := { parameters := [.int, .double, .int, .double], returnType := some .boolean }, accessFlags := 10, code := some k2c3 }
def k2c4 : Code := { maxStack := 6, maxLocals := 3, code := prog_71_method_7_code, exceptionTable := #[], attributes := #[] }
def k2m4 : Method := { name := "isWorse", desc := "(II)Z", sig := { parameters := [.int, .int], returnType := some .boolean }, accessFlags := 2, code := some k2c4 }
def k2c5 : Code := { maxStack := 4, maxLocals := 3, code := prog_71_method_8_code, exceptionTable := #[], attributes := #[] }
def k2m5 : Method := { name := "siftUp", desc := "(I)V", sig := { parameters := [.int], returnType := none }, accessFlags := 2, code := some k2c5 }
def k2c6 : Code := { maxStack := 3, maxLocals := 6, code := prog_71_method_9_code, exceptionTable := #[], attributes := #[] }
def k2m6 : Method := { name := "siftDown", desc := "(I)V", sig := { parameters := [.int], returnType := none }, accessFlags := 2, code := some k2c6 }
def k2c7 : Code := { maxStack := 4, maxLocals := 3, code := prog_71_method_10_code, exceptionTable := #[], attributes := #[] }
def k2m7 : Method := { name := "move", desc := "(II)V", sig := { parameters := [.int, .int], returnType := none }, accessFlags := 2, code := some k2c7 }
def k2c8 : Code := { maxStack := 4, maxLocals := 6, code := prog_71_method_11_code, exceptionTable := #[], attributes := #[] }
def k2m8 : Method := { name := "swap", desc := "(II)V", sig := { parameters := [.int, .int], returnType := none }, accessFlags := 2, code := some k2c8 }
/-- com/example/fama/fama/search/HitQueue -/
def k2 : Class := { plain "com/example/fama/fama/search/HitQueue" (some 0) with
  accessFlags := 32
  interfaces := #[]
  cf := some (fileOf pool2 8 #[] #[{ accessFlags := 0, nameIndex := 5, descriptorIndex := 24, attributes := #[] }, { accessFlags := 0, nameIndex := 55, descriptorIndex := 36, attributes := #[] }, { accessFlags := 0, nameIndex := 57, descriptorIndex := 58, attributes := #[] }, { accessFlags := 10, nameIndex := 27, descriptorIndex := 28, attributes := #[] }, { accessFlags := 2, nameIndex := 27, descriptorIndex := 49, attributes := #[] }, { accessFlags := 2, nameIndex := 23, descriptorIndex := 24, attributes := #[] }, { accessFlags := 2, nameIndex := 31, descriptorIndex := 24, attributes := #[] }, { accessFlags := 2, nameIndex := 39, descriptorIndex := 40, attributes := #[] }, { accessFlags := 2, nameIndex := 52, descriptorIndex := 40, attributes := #[] }] 32 2 #[] #[{ accessFlags := 18, nameIndex := 11, descriptorIndex := 12, attributes := #[] }, { accessFlags := 18, nameIndex := 15, descriptorIndex := 16, attributes := #[] }, { accessFlags := 2, nameIndex := 19, descriptorIndex := 20, attributes := #[] }])
  fields := #[{ name := "documents", type := (.array .int), accessFlags := 18, slot := 0, constantValue := 0 }, { name := "scores", type := (.array .double), accessFlags := 18, slot := 1, constantValue := 0 }, { name := "size", type := .int, accessFlags := 2, slot := 2, constantValue := 0 }]
  methods := #[k2m0, k2m1, k2m2, k2m3, k2m4, k2m5, k2m6, k2m7, k2m8]
  instanceTypes := #[(.array .int), (.array .double), .int]
  staticTypes := #[]
  resolved := Array.replicate 69 none
  statics := none }

def pool3 : Array CpInfo := pool [(1, u "java/lang/Cloneable"), (0, .class_ 1), (0, u "java/lang/Object"), (0, .class_ 3)] 3

/-- java/lang/Cloneable -/
def k3 : Class := { plain "java/lang/Cloneable" (some 0) with
  accessFlags := 1537
  interfaces := #[]
  cf := some (fileOf pool3 2 #[] #[] 1537 4 #[] #[])
  fields := #[]
  methods := #[]
  instanceTypes := #[]
  staticTypes := #[]
  resolved := Array.replicate 8 none
  statics := none }

def pool4 : Array CpInfo := pool [(1, u "java/io/Serializable"), (0, .class_ 1), (0, u "java/lang/Object"), (0, .class_ 3)] 3

/-- java/io/Serializable -/
def k4 : Class := { plain "java/io/Serializable" (some 0) with
  accessFlags := 1537
  interfaces := #[]
  cf := some (fileOf pool4 2 #[] #[] 1537 4 #[] #[])
  fields := #[]
  methods := #[]
  instanceTypes := #[]
  staticTypes := #[]
  resolved := Array.replicate 8 none
  statics := none }

/-- the primitive byte -/
def k5 : Class := { plain "byte" none with kind := .primitive 'B', accessFlags := 0x411 }
/-- [B -/
def k6 : Class := { plain "[B" (some 0) with kind := .array 5 .byte, interfaces := #[3, 4], accessFlags := 1041 }

/-- the primitive double -/
def k7 : Class := { plain "double" none with kind := .primitive 'D', accessFlags := 0x411 }
/-- [D -/
def k8 : Class := { plain "[D" (some 0) with kind := .array 7 .double, interfaces := #[3, 4], accessFlags := 1041 }

/-- the primitive int -/
def k9 : Class := { plain "int" none with kind := .primitive 'I', accessFlags := 0x411 }
/-- [I -/
def k10 : Class := { plain "[I" (some 0) with kind := .array 9 .int, interfaces := #[3, 4], accessFlags := 1041 }

def heap : Heap := #[]
def classes : Array Class := #[k0, k1, k2, k3, k4, k5, k6, k7, k8, k9, k10]
def interned : List (Array UInt16 × Addr) := []
def slotsUsed : Nat := 0
def theMethod : MethodId := ⟨1, 1⟩
def args0 : Array Value := #[.int 3, .int 4, .int 2, .int 11, .int 7, .int 9]
def aboutOver (below : List Frame) : State where
  vm := { classes := classes, interned := interned.toArray }
  heap := heap
  slotsUsed := slotsUsed
  threads := #[{ frames := .invoking theMethod args0 :: below }]
def below0 : List Frame := [.native { method := ⟨0, 0⟩, args := #[] }]
def about1 : State := aboutOver below0
def p0 : Program := .bare "" "" ""
def e0 : Env := launch0.env 0 0 0
theorem w_frames : about1.frames = Frame.invoking theMethod args0 :: below0 := rfl
set_option maxRecDepth 65536 in
theorem w_args : argsFit about1.vm theMethod args0 = true := by decide +kernel
set_option maxRecDepth 65536 in
theorem w_heap : heapFits about1 = true := by decide +kernel
set_option maxRecDepth 65536 in
theorem w_runnable : about1.curStatus? = some .runnable := by decide +kernel
set_option maxRecDepth 65536 in
theorem w_alone : about1.alone = true := by decide +kernel
set_option maxRecDepth 65536 in
theorem w_named : about1.methodNamed? x = some theMethod := by decide +kernel
set_option maxRecDepth 65536 in
theorem w_hears : about1.hears theMethod below0 = true := by decide +kernel
set_option maxRecDepth 65536 in
theorem w_ripe : about1.ripe theMethod args0 below0 = true := by decide +kernel
theorem w_running : about1.status = .running := rfl
set_option maxRecDepth 65536 in
theorem w_room : about1.hasRoom e0.platform room_1 = true :=
  launch0.hasRoom_least _ room_1 (by decide +kernel) (by decide +kernel) (by decide +kernel) (by decide +kernel) (by decide +kernel) (by decide +kernel)
theorem allAtoms_all (ts : List Jvm.Cond) (a : Array Jvm.Value) (st : Jvm.State) : (allAtoms ts).before a st = ts.all (fun c => c.before a st) := by
  induction ts with
  | nil => rfl
  | cons c t ih =>
    show (Jvm.Cond.and c (allAtoms t)).before a st = _
    rw [Jvm.Cond.before_and, ih, List.all_cons]
def words1 : List Jvm.Cond := Jvm.Cond.code x code maxLocals ret :: tables_1
/-- a 'code' word, met by the world's own term for the bytes: nothing is compared byte by byte -/
theorem code_word {y : MethodName} {bytes : ByteArray} {mx : Nat} {rt : Option FieldType} {a : Array Value} {s : State} {m : MethodId} {meth : Method} {c : Code} (h1 : s.methodNamed? y = some m) (h2 : s.vm.method? m = some meth) (h3 : meth.code = some c) (h4 : c.code = bytes)
    (h5 : (c.maxLocals == mx && c.exceptionTable.isEmpty && decide (c.maxStack ≤ mostOperands) && decide (meth.sig.returnType = rt) && !meth.locks && decide (parseMethodDescriptor y.desc = some meth.sig)) = true) : (Jvm.Cond.code y bytes mx rt).before a s = true := by
  simp only [Bool.and_eq_true, beq_iff_eq, Bool.not_eq_true', decide_eq_true_eq] at h5
  obtain ⟨⟨⟨⟨⟨g1, g2⟩, g3⟩, g4⟩, g5⟩, g6⟩ := h5
  simp [Cond.before, Cond.holds, Cond.value, h1, h2, h3, h4, g1, g2, g3, g4, g5, g6]
def isCode : Jvm.Cond → Bool
  | .code _ _ _ _ => true
  | _ => false
theorem all_split {L : List Jvm.Cond} {P : Jvm.Cond → Bool} (h1 : L.all (fun c => isCode c || P c) = true) (h2 : ∀ c ∈ L.filter isCode, P c = true) : L.all P = true := by
  refine List.all_eq_true.mpr fun c hc => ?_
  have h := List.all_eq_true.mp h1 c hc
  rcases Bool.eq_false_or_eq_true (isCode c) with hi | hi
  · exact h2 c (List.mem_filter.mpr ⟨hc, hi⟩)
  · simpa [hi] using h
set_option maxRecDepth 65536 in
theorem w_c0 : (Jvm.Cond.code x code maxLocals ret).before args0 about1 = true := code_word (m := ⟨1, 1⟩) (meth := k1m1) (c := k1c1) (by decide +kernel) rfl rfl rfl (by decide +kernel)
set_option maxRecDepth 65536 in
theorem w_c1 : (Jvm.Cond.code ({ cls := "com/example/fama/fama/search/HitQueue", name := "<init>", desc := "(I)V" } : Jvm.MethodName) prog_71_method_1_code (2 : Nat) (Option.none : Option Jvm.ClassFile.FieldType)).before args0 about1 = true := code_word (m := ⟨2, 0⟩) (meth := k2m0) (c := k2c0) (by decide +kernel) rfl rfl rfl (by decide +kernel)
set_option maxRecDepth 65536 in
theorem w_c2 : (Jvm.Cond.code ({ cls := "java/lang/Object", name := "<init>", desc := "()V" } : Jvm.MethodName) object_method_1_code (1 : Nat) (Option.none : Option Jvm.ClassFile.FieldType)).before args0 about1 = true := code_word (m := ⟨0, 0⟩) (meth := k0m0) (c := k0c0) (by decide +kernel) rfl rfl rfl (by decide +kernel)
set_option maxRecDepth 65536 in
theorem w_c3 : (Jvm.Cond.code ({ cls := "com/example/fama/fama/search/HitQueue", name := "isFull", desc := "()Z" } : Jvm.MethodName) prog_71_method_3_code (1 : Nat) (Option.some Jvm.ClassFile.FieldType.boolean)).before args0 about1 = true := code_word (m := ⟨2, 2⟩) (meth := k2m2) (c := k2c2) (by decide +kernel) rfl rfl rfl (by decide +kernel)
set_option maxRecDepth 65536 in
theorem w_c4 : (Jvm.Cond.code ({ cls := "com/example/fama/fama/search/HitQueue", name := "offer", desc := "(ID)V" } : Jvm.MethodName) prog_71_method_2_code (4 : Nat) (Option.none : Option Jvm.ClassFile.FieldType)).before args0 about1 = true := code_word (m := ⟨2, 1⟩) (meth := k2m1) (c := k2c1) (by decide +kernel) rfl rfl rfl (by decide +kernel)
set_option maxRecDepth 65536 in
theorem w_c5 : (Jvm.Cond.code ({ cls := "com/example/fama/fama/search/HitQueue", name := "siftUp", desc := "(I)V" } : Jvm.MethodName) prog_71_method_8_code (3 : Nat) (Option.none : Option Jvm.ClassFile.FieldType)).before args0 about1 = true := code_word (m := ⟨2, 5⟩) (meth := k2m5) (c := k2c5) (by decide +kernel) rfl rfl rfl (by decide +kernel)
set_option maxRecDepth 65536 in
theorem w_c6 : (Jvm.Cond.code ({ cls := "com/example/fama/fama/search/HitQueue", name := "isWorse", desc := "(IDID)Z" } : Jvm.MethodName) prog_71_method_6_code (6 : Nat) (Option.some Jvm.ClassFile.FieldType.boolean)).before args0 about1 = true := code_word (m := ⟨2, 3⟩) (meth := k2m3) (c := k2c3) (by decide +kernel) rfl rfl rfl (by decide +kernel)
set_option maxRecDepth 65536 in
theorem w_c7 : (Jvm.Cond.code ({ cls := "com/example/fama/fama/search/HitQueue", name := "isWorse", desc := "(II)Z" } : Jvm.MethodName) prog_71_method_7_code (3 : Nat) (Option.some Jvm.ClassFile.FieldType.boolean)).before args0 about1 = true := code_word (m := ⟨2, 4⟩) (meth := k2m4) (c := k2c4) (by decide +kernel) rfl rfl rfl (by decide +kernel)
set_option maxRecDepth 65536 in
theorem w_c8 : (Jvm.Cond.code ({ cls := "com/example/fama/fama/search/HitQueue", name := "siftDown", desc := "(I)V" } : Jvm.MethodName) prog_71_method_9_code (6 : Nat) (Option.none : Option Jvm.ClassFile.FieldType)).before args0 about1 = true := code_word (m := ⟨2, 6⟩) (meth := k2m6) (c := k2c6) (by decide +kernel) rfl rfl rfl (by decide +kernel)
set_option maxRecDepth 65536 in
theorem w_c9 : (Jvm.Cond.code ({ cls := "com/example/fama/fama/search/HitQueue", name := "swap", desc := "(II)V" } : Jvm.MethodName) prog_71_method_11_code (6 : Nat) (Option.none : Option Jvm.ClassFile.FieldType)).before args0 about1 = true := code_word (m := ⟨2, 8⟩) (meth := k2m8) (c := k2c8) (by decide +kernel) rfl rfl rfl (by decide +kernel)
set_option maxRecDepth 65536 in
theorem w_c10 : (Jvm.Cond.code ({ cls := "com/example/fama/fama/search/HitQueue", name := "move", desc := "(II)V" } : Jvm.MethodName) prog_71_method_10_code (3 : Nat) (Option.none : Option Jvm.ClassFile.FieldType)).before args0 about1 = true := code_word (m := ⟨2, 7⟩) (meth := k2m7) (c := k2c7) (by decide +kernel) rfl rfl rfl (by decide +kernel)
def codes1 : List Jvm.Cond := [Jvm.Cond.code x code maxLocals ret, Jvm.Cond.code ({ cls := "com/example/fama/fama/search/HitQueue", name := "<init>", desc := "(I)V" } : Jvm.MethodName) prog_71_method_1_code (2 : Nat) (Option.none : Option Jvm.ClassFile.FieldType), Jvm.Cond.code ({ cls := "java/lang/Object", name := "<init>", desc := "()V" } : Jvm.MethodName) object_method_1_code (1 : Nat) (Option.none : Option Jvm.ClassFile.FieldType), Jvm.Cond.code ({ cls := "com/example/fama/fama/search/HitQueue", name := "isFull", desc := "()Z" } : Jvm.MethodName) prog_71_method_3_code (1 : Nat) (Option.some Jvm.ClassFile.FieldType.boolean), Jvm.Cond.code ({ cls := "com/example/fama/fama/search/HitQueue", name := "offer", desc := "(ID)V" } : Jvm.MethodName) prog_71_method_2_code (4 : Nat) (Option.none : Option Jvm.ClassFile.FieldType), Jvm.Cond.code ({ cls := "com/example/fama/fama/search/HitQueue", name := "siftUp", desc := "(I)V" } : Jvm.MethodName) prog_71_method_8_code (3 : Nat) (Option.none : Option Jvm.ClassFile.FieldType), Jvm.Cond.code ({ cls := "com/example/fama/fama/search/HitQueue", name := "isWorse", desc := "(IDID)Z" } : Jvm.MethodName) prog_71_method_6_code (6 : Nat) (Option.some Jvm.ClassFile.FieldType.boolean), Jvm.Cond.code ({ cls := "com/example/fama/fama/search/HitQueue", name := "isWorse", desc := "(II)Z" } : Jvm.MethodName) prog_71_method_7_code (3 : Nat) (Option.some Jvm.ClassFile.FieldType.boolean), Jvm.Cond.code ({ cls := "com/example/fama/fama/search/HitQueue", name := "siftDown", desc := "(I)V" } : Jvm.MethodName) prog_71_method_9_code (6 : Nat) (Option.none : Option Jvm.ClassFile.FieldType), Jvm.Cond.code ({ cls := "com/example/fama/fama/search/HitQueue", name := "swap", desc := "(II)V" } : Jvm.MethodName) prog_71_method_11_code (6 : Nat) (Option.none : Option Jvm.ClassFile.FieldType), Jvm.Cond.code ({ cls := "com/example/fama/fama/search/HitQueue", name := "move", desc := "(II)V" } : Jvm.MethodName) prog_71_method_10_code (3 : Nat) (Option.none : Option Jvm.ClassFile.FieldType)]
set_option maxRecDepth 65536 in
theorem codes_eq : words1.filter isCode = codes1 := rfl
theorem w_codes : ∀ c ∈ words1.filter isCode, c.before args0 about1 = true := by
  rw [codes_eq]
  intro c hc
  simp only [codes1, List.mem_cons, List.not_mem_nil, or_false] at hc
  rcases hc with rfl | rfl | rfl | rfl | rfl | rfl | rfl | rfl | rfl | rfl | rfl
  · exact w_c0
  · exact w_c1
  · exact w_c2
  · exact w_c3
  · exact w_c4
  · exact w_c5
  · exact w_c6
  · exact w_c7
  · exact w_c8
  · exact w_c9
  · exact w_c10
set_option maxRecDepth 65536 in
theorem w_t1 : (words1.take 24).all (fun c => isCode c || c.before args0 about1) = true := by decide +kernel
set_option maxRecDepth 65536 in
theorem w_t2 : ((words1.drop 24).take 24).all (fun c => isCode c || c.before args0 about1) = true := by decide +kernel
set_option maxRecDepth 65536 in
theorem w_t3 : ((words1.drop 24).drop 24).all (fun c => isCode c || c.before args0 about1) = true := by decide +kernel
theorem w_tables : (allAtoms (Jvm.Cond.code x code maxLocals ret :: tables_1)).before args0 about1 = true := by
  rw [allAtoms_all]
  show words1.all (fun c => c.before args0 about1) = true
  refine all_split ?_ w_codes
  rw [← List.take_append_drop 24 words1, List.all_append, w_t1, ← List.take_append_drop 24 (words1.drop 24), List.all_append, w_t2, w_t3]
  rfl
set_option maxRecDepth 65536 in
theorem w_case : (Jvm.Cond.and given_1 narrow_1).before args0 about1 = true := by decide +kernel
theorem w_applies : (headSpec (Jvm.Cond.code x code maxLocals ret :: tables_1) room_1).applies x e0.platform about1 = true :=
  (Spec.applies_iff w_frames).mpr ⟨w_running, w_runnable, w_alone, w_named, w_hears, w_ripe, w_room, w_tables⟩
theorem atStart : AtStart classFile x code maxLocals ret World_1 tables_1 room_1 Calls_1 rest_1 Pre_1 launch0 p0 e0 about1 theMethod args0 below0 :=
  ⟨lists_1, trivial, launch0.admits_env _ _ _, launch0.least_env, fairChoices_fair.cas, fairChoices_fair.clock, w_frames, w_args, w_heap, w_applies, trivial, trivial, w_case⟩
end start1
theorem witness_1 : WitnessClaimed_1 := ⟨start1.p0, start1.e0, start1.about1, start1.theMethod, start1.args0, start1.below0, start1.atStart⟩
end Jvm.Pilot.@@N@@
