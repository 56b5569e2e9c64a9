import JvmDerived
import JvmDerived.Pilot.@@N@@Statement
import JvmDerived.Pilot.@@N@@Code
set_option linter.unusedVariables false
set_option linter.unusedSimpArgs false
namespace Jvm.Own
open Jvm Jvm.ClassFile Sem Op Lib Jvm.Free Jvm.Stand Jvm.LawKit Jvm.RoadKit Bundle
/-- where the run stands inside a body: what is fixed, the heap, the room used -/
def St (p : Program) (l : Launch) (e : Env) (R : Room) (s : State) (m : MethodId) (args : Array Value) (below : List Frame) (meth : Method) (c : Code) (Z : State) (n0 : Nat) (y : MethodName) (code : ByteArray) (maxL : Nat) (ret : Option FieldType) (T : State) (h : Heap) (cells slots : Nat) : Prop :=
  (p.tables.exec = Jvm.exec ∧ Z.Warmed39 s.vm ∧ c.code = code ∧ c.maxLocals = maxL ∧ s.vm.findClass y.cls = some m.cls ∧ meth.name = y.name ∧ meth.sig.returnType = ret ∧ meth.locks = false ∧ n0 ≤ s.heap.size) ∧ T.heap = h ∧ ∃ locs, Stand p l e R s m args below meth c T locs cells slots ∧ Fr n0 locs
/-- from here the body comes to its end with Q -/
def WP (p : Program) (e : Env) (below : List Frame) (s : State) (n0 k n : Nat) (Q : Option Value → Heap → Prop) (T : State) (g : JFrame) : Prop :=
  ∃ s₂ o, Steps p.tables e below (T.setTop g) s₂ ∧ s₂.status = .running ∧ Ended s₂ below o ∧ ∃ v L, o = .returned v ∧ (Q v s₂.heap ∧ Fr n0 L) ∧ FrameEnd s o s₂ L k n
/-- a body's contract -/
def Ct (l : Launch) (Z : State) (y : MethodName) (code : ByteArray) (maxL : Nat) (ret : Option FieldType) (rm : Room) (as : Array Value) (h0 : Heap) (n0 : Nat) (Q : Option Value → Heap → Prop) : Prop :=
  ∀ ws, MetFree l y (head1 (Jvm.Cond.code y code maxL ret :: ws) rm) (fun a U => a = as ∧ Z.Warmed39 U.vm ∧ U.heap = h0) (fun _ _ _ _ _ => True) (fun _ U o U' => ∃ v L, o = .returned v ∧ (Q v U'.heap ∧ Fr n0 L) ∧ FrameEnd U o U' L rm.cells rm.slots)
section Steps
variable {p : Program} {l : Launch} {e : Env} {R : Room} {s : State} {m : MethodId} {args : Array Value} {below : List Frame} {meth : Method} {c : Code} {Z : State} {n0 : Nat} {y : MethodName} {code : ByteArray} {maxL : Nat} {ret : Option FieldType} {T : State} {h : Heap} {cells slots k n : Nat} {Q : Option Value → Heap → Prop} {pc pc' : Nat} {Ls : Array Slot} {S : List Value} {a0 : Array Value}
theorem WP.step {T' : State} {g g' : JFrame} (w : WP p e below s n0 k n Q T' g') (st : ∀ t, Steps p.tables e below (T'.setTop g') t → Steps p.tables e below (T.setTop g) t) : WP p e below s n0 k n Q T g := by
  obtain ⟨s₂, o, h1, r⟩ := w; exact ⟨s₂, o, st _ h1, r⟩
theorem WP.trans {T' : State} {g g' : JFrame} (w : WP p e below s n0 k n Q T' g') (st : Steps p.tables e below (T.setTop g) (T'.setTop g')) : WP p e below s n0 k n Q T g := by
  obtain ⟨s₂, o, h1, r⟩ := w; exact ⟨s₂, o, st.trans h1, r⟩
theorem WP.imp {Q' : Option Value → Heap → Prop} {g : JFrame} (w : WP p e below s n0 k n Q' T g) (hq : ∀ v h, Q' v h → Q v h) : WP p e below s n0 k n Q T g := by
  obtain ⟨s₂, o, h1, h2, h3, v, L, h4, ⟨h5, h6⟩, h7⟩ := w; exact ⟨s₂, o, h1, h2, h3, v, L, h4, ⟨hq _ _ h5, h6⟩, h7⟩
theorem WP.cast {g g' : JFrame} (q : g = g') (w : WP p e below s n0 k n Q T g') : WP p e below s n0 k n Q T g := q ▸ w
theorem Ct.imp {as : Array Value} {rm : Room} {Q' : Option Value → Heap → Prop} (ct : Ct l Z y code maxL ret rm as h n0 Q') (hq : ∀ v h, Q' v h → Q v h) : Ct l Z y code maxL ret rm as h n0 Q := by
  intro ws p e ha hc hk s m args below hf happ hP hK
  obtain ⟨n, o, h1, h2, h3, v, L, h4, ⟨h5, h6⟩, h7⟩ := ct ws p e ha hc hk s m args below hf happ hP hK
  exact ⟨n, o, h1, h2, h3, v, L, h4, ⟨hq _ _ h5, h6⟩, h7⟩
theorem Ct.intro {rm : Room} {as : Array Value} {h0 : Heap} (hpl : plainFor y = true) (Z0 : n0 ≤ h0.size)
    (body : ∀ p e s m below meth c T, St p l e rm s m as below meth c Z n0 y code maxL ret T h0 0 0 → WP p e below s n0 rm.cells rm.slots Q T (entryFrame m as maxL)) : Ct l Z y code maxL ret rm as h0 n0 Q := by
  intro ws
  refine MetFree.of_bodySF hpl hisR ?_
  intro p e s m args below meth c s₁ Bd hml0 hP hK
  obtain ⟨rfl, hZ, hh⟩ := hP
  exact body p e s m below meth c s₁ ⟨⟨Bd.exec, hZ, Bd.bytes, hml0, findClass_of_methodNamed Bd.named, (name_of_methodNamed Bd.named Bd.method).1, Bd.returns, BodyLoose.notSynchronized Bd, hh ▸ Z0⟩, by rw [← hh, Bd.state]; rfl, [], Stand.of_body Bd, Fr.nil n0⟩
theorem St.n0le (X : St p l e R s m args below meth c Z n0 y code maxL ret T h cells slots) : n0 ≤ h.size := by
  obtain ⟨⟨-, -, -, -, -, -, -, -, h0⟩, hT, locs, X, -⟩ := X
  have q : s.heap.size ≤ T.heap.size := X.same.2.1
  rw [hT] at q; exact Nat.le_trans h0 q
theorem St.mono (X : St p l e R s m args below meth c Z n0 y code maxL ret T h cells slots) {cells' slots' : Nat} (hc : cells ≤ cells') (hs : slots ≤ slots') : St p l e R s m args below meth c Z n0 y code maxL ret T h cells' slots' := by
  obtain ⟨h0, hT, locs, X, N⟩ := X
  exact ⟨h0, hT, locs, ⟨X.admits, X.cas, X.clock, X.frames, X.room, X.hears, X.method, X.code, X.here, X.tail, X.warmed, X.limits, X.bytes, X.same.mono hc hs⟩, N⟩
theorem w_nameI {v : Int32} (w : ∀ z, z = v → WP p e below s n0 k n Q T (mkF m pc Ls (.int z :: S))) : WP p e below s n0 k n Q T (mkF m pc Ls (.int v :: S)) := w v rfl
theorem w_nameJ {v : Int64} (w : ∀ z, z = v → WP p e below s n0 k n Q T (mkF m pc Ls (.long z :: S))) : WP p e below s n0 k n Q T (mkF m pc Ls (.long v :: S)) := w v rfl
theorem w_nameR {v : Addr} (w : ∀ z, z = v → WP p e below s n0 k n Q T (mkF m pc Ls (.ref z :: S))) : WP p e below s n0 k n Q T (mkF m pc Ls (.ref v :: S)) := w v rfl
theorem w_iload (X : St p l e R s m args below meth c Z n0 y code maxL ret T h cells slots) {i : Nat} {v : Int32} (hd : decode code pc = .ok (.iload i, 2)) (hl : Ls[i]? = some (.val (.int v))) (hp : pc' = pc + 2) (w : WP p e below s n0 k n Q T (mkF m pc' Ls (.int v :: S))) : WP p e below s n0 k n Q T (mkF m pc Ls (S)) := by
  obtain ⟨⟨hx, hZ, hby, hml, hown, hnm, hret, hlk, h00⟩, hT, locs, X, N⟩ := X
  subst hp
  exact w.step fun t kk => XS.iload X.here hx rfl (hb hby hd) hl kk
theorem w_iloadN (X : St p l e R s m args below meth c Z n0 y code maxL ret T h cells slots) {i : Fin 4} {v : Int32} (hd : decode code pc = .ok (.iload_n i, 1)) (hl : Ls[i.val]? = some (.val (.int v))) (hp : pc' = pc + 1) (w : WP p e below s n0 k n Q T (mkF m pc' Ls (.int v :: S))) : WP p e below s n0 k n Q T (mkF m pc Ls (S)) := by
  obtain ⟨⟨hx, hZ, hby, hml, hown, hnm, hret, hlk, h00⟩, hT, locs, X, N⟩ := X
  subst hp
  exact w.step fun t kk => XS.iloadN X.here hx rfl (hb hby hd) hl kk
theorem w_lload (X : St p l e R s m args below meth c Z n0 y code maxL ret T h cells slots) {i : Nat} {v : Int64} (hd : decode code pc = .ok (.lload i, 2)) (hl : Ls[i]? = some (.val (.long v))) (hp : pc' = pc + 2) (w : WP p e below s n0 k n Q T (mkF m pc' Ls (.long v :: S))) : WP p e below s n0 k n Q T (mkF m pc Ls (S)) := by
  obtain ⟨⟨hx, hZ, hby, hml, hown, hnm, hret, hlk, h00⟩, hT, locs, X, N⟩ := X
  subst hp
  exact w.step fun t kk => XS.lload X.here hx rfl (hb hby hd) hl kk
theorem w_lloadN (X : St p l e R s m args below meth c Z n0 y code maxL ret T h cells slots) {i : Fin 4} {v : Int64} (hd : decode code pc = .ok (.lload_n i, 1)) (hl : Ls[i.val]? = some (.val (.long v))) (hp : pc' = pc + 1) (w : WP p e below s n0 k n Q T (mkF m pc' Ls (.long v :: S))) : WP p e below s n0 k n Q T (mkF m pc Ls (S)) := by
  obtain ⟨⟨hx, hZ, hby, hml, hown, hnm, hret, hlk, h00⟩, hT, locs, X, N⟩ := X
  subst hp
  exact w.step fun t kk => XS.lloadN X.here hx rfl (hb hby hd) hl kk
theorem w_aload (X : St p l e R s m args below meth c Z n0 y code maxL ret T h cells slots) {i : Nat} {v : Value} (hd : decode code pc = .ok (.aload i, 2)) (hl : Ls[i]? = some (.val v)) (hv : v.isRef = true) (hp : pc' = pc + 2) (w : WP p e below s n0 k n Q T (mkF m pc' Ls (v :: S))) : WP p e below s n0 k n Q T (mkF m pc Ls (S)) := by
  obtain ⟨⟨hx, hZ, hby, hml, hown, hnm, hret, hlk, h00⟩, hT, locs, X, N⟩ := X
  subst hp
  exact w.step fun t kk => XS.aload X.here hx rfl (hb hby hd) hl hv kk
theorem w_aloadN (X : St p l e R s m args below meth c Z n0 y code maxL ret T h cells slots) {i : Fin 4} {v : Value} (hd : decode code pc = .ok (.aload_n i, 1)) (hl : Ls[i.val]? = some (.val v)) (hv : v.isRef = true) (hp : pc' = pc + 1) (w : WP p e below s n0 k n Q T (mkF m pc' Ls (v :: S))) : WP p e below s n0 k n Q T (mkF m pc Ls (S)) := by
  obtain ⟨⟨hx, hZ, hby, hml, hown, hnm, hret, hlk, h00⟩, hT, locs, X, N⟩ := X
  subst hp
  exact w.step fun t kk => XS.aloadN X.here hx rfl (hb hby hd) hl hv kk
theorem w_istore (X : St p l e R s m args below meth c Z n0 y code maxL ret T h cells slots) {i : Nat} {v : Int32} {L' : Array Slot} (hd : decode code pc = .ok (.istore i, 2)) (hl : storeLocals Ls i (.int v) = some L') (hp : pc' = pc + 2) (w : WP p e below s n0 k n Q T (mkF m pc' L' (S))) : WP p e below s n0 k n Q T (mkF m pc Ls (.int v :: S)) := by
  obtain ⟨⟨hx, hZ, hby, hml, hown, hnm, hret, hlk, h00⟩, hT, locs, X, N⟩ := X
  subst hp
  exact w.step fun t kk => XS.istore X.here hx rfl (hb hby hd) rfl hl kk
theorem w_istoreN (X : St p l e R s m args below meth c Z n0 y code maxL ret T h cells slots) {i : Fin 4} {v : Int32} {L' : Array Slot} (hd : decode code pc = .ok (.istore_n i, 1)) (hl : storeLocals Ls i.val (.int v) = some L') (hp : pc' = pc + 1) (w : WP p e below s n0 k n Q T (mkF m pc' L' (S))) : WP p e below s n0 k n Q T (mkF m pc Ls (.int v :: S)) := by
  obtain ⟨⟨hx, hZ, hby, hml, hown, hnm, hret, hlk, h00⟩, hT, locs, X, N⟩ := X
  subst hp
  exact w.step fun t kk => XS.istoreN X.here hx rfl (hb hby hd) rfl hl kk
theorem w_lstore (X : St p l e R s m args below meth c Z n0 y code maxL ret T h cells slots) {i : Nat} {v : Int64} {L' : Array Slot} (hd : decode code pc = .ok (.lstore i, 2)) (hl : storeLocals Ls i (.long v) = some L') (hp : pc' = pc + 2) (w : WP p e below s n0 k n Q T (mkF m pc' L' (S))) : WP p e below s n0 k n Q T (mkF m pc Ls (.long v :: S)) := by
  obtain ⟨⟨hx, hZ, hby, hml, hown, hnm, hret, hlk, h00⟩, hT, locs, X, N⟩ := X
  subst hp
  exact w.step fun t kk => XS.lstore X.here hx rfl (hb hby hd) rfl hl kk
theorem w_lstoreN (X : St p l e R s m args below meth c Z n0 y code maxL ret T h cells slots) {i : Fin 4} {v : Int64} {L' : Array Slot} (hd : decode code pc = .ok (.lstore_n i, 1)) (hl : storeLocals Ls i.val (.long v) = some L') (hp : pc' = pc + 1) (w : WP p e below s n0 k n Q T (mkF m pc' L' (S))) : WP p e below s n0 k n Q T (mkF m pc Ls (.long v :: S)) := by
  obtain ⟨⟨hx, hZ, hby, hml, hown, hnm, hret, hlk, h00⟩, hT, locs, X, N⟩ := X
  subst hp
  exact w.step fun t kk => XS.lstoreN X.here hx rfl (hb hby hd) rfl hl kk
theorem w_astore (X : St p l e R s m args below meth c Z n0 y code maxL ret T h cells slots) {i : Nat} {v : Value} {L' : Array Slot} (hd : decode code pc = .ok (.astore i, 2)) (hv : v.isRef = true) (hl : storeLocals Ls i v = some L') (hp : pc' = pc + 2) (w : WP p e below s n0 k n Q T (mkF m pc' L' (S))) : WP p e below s n0 k n Q T (mkF m pc Ls (v :: S)) := by
  obtain ⟨⟨hx, hZ, hby, hml, hown, hnm, hret, hlk, h00⟩, hT, locs, X, N⟩ := X
  subst hp
  exact w.step fun t kk => XS.astore X.here hx rfl (hb hby hd) rfl hv hl kk
theorem w_astoreN (X : St p l e R s m args below meth c Z n0 y code maxL ret T h cells slots) {i : Fin 4} {v : Value} {L' : Array Slot} (hd : decode code pc = .ok (.astore_n i, 1)) (hv : v.isRef = true) (hl : storeLocals Ls i.val v = some L') (hp : pc' = pc + 1) (w : WP p e below s n0 k n Q T (mkF m pc' L' (S))) : WP p e below s n0 k n Q T (mkF m pc Ls (v :: S)) := by
  obtain ⟨⟨hx, hZ, hby, hml, hown, hnm, hret, hlk, h00⟩, hT, locs, X, N⟩ := X
  subst hp
  exact w.step fun t kk => XS.astoreN X.here hx rfl (hb hby hd) rfl hv hl kk
theorem w_iinc (X : St p l e R s m args below meth c Z n0 y code maxL ret T h cells slots) {i : Nat} {d : Int} {v v' : Int32} {L' : Array Slot} (hd : decode code pc = .ok (.iinc i d, 3)) (hl : Ls[i]? = some (.val (.int v))) (hv : v + Int32.ofInt d = v') (hl' : storeLocals Ls i (.int v') = some L') (hp : pc' = pc + 3) (w : WP p e below s n0 k n Q T (mkF m pc' L' (S))) : WP p e below s n0 k n Q T (mkF m pc Ls (S)) := by
  obtain ⟨⟨hx, hZ, hby, hml, hown, hnm, hret, hlk, h00⟩, hT, locs, X, N⟩ := X
  subst hp hv
  exact w.step fun t kk => XS.iinc X.here hx rfl (hb hby hd) hl hl' kk
theorem w_iconst (X : St p l e R s m args below meth c Z n0 y code maxL ret T h cells slots) {i : Int} {v : Int32} (hd : decode code pc = .ok (.iconst i, 1)) (hv : Int32.ofInt i = v) (hp : pc' = pc + 1) (w : WP p e below s n0 k n Q T (mkF m pc' Ls (.int v :: S))) : WP p e below s n0 k n Q T (mkF m pc Ls (S)) := by
  obtain ⟨⟨hx, hZ, hby, hml, hown, hnm, hret, hlk, h00⟩, hT, locs, X, N⟩ := X
  subst hp hv
  exact w.step fun t kk => XS.iconst X.here hx rfl (hb hby hd) kk
theorem w_bipush (X : St p l e R s m args below meth c Z n0 y code maxL ret T h cells slots) {i : Int} {v : Int32} (hd : decode code pc = .ok (.bipush i, 2)) (hv : (Int8.ofInt i).toInt32 = v) (hp : pc' = pc + 2) (w : WP p e below s n0 k n Q T (mkF m pc' Ls (.int v :: S))) : WP p e below s n0 k n Q T (mkF m pc Ls (S)) := by
  obtain ⟨⟨hx, hZ, hby, hml, hown, hnm, hret, hlk, h00⟩, hT, locs, X, N⟩ := X
  subst hp hv
  exact w.step fun t kk => XS.bipush X.here hx rfl (hb hby hd) kk
theorem w_sipush (X : St p l e R s m args below meth c Z n0 y code maxL ret T h cells slots) {i : Int} {v : Int32} (hd : decode code pc = .ok (.sipush i, 3)) (hv : (Int16.ofInt i).toInt32 = v) (hp : pc' = pc + 3) (w : WP p e below s n0 k n Q T (mkF m pc' Ls (.int v :: S))) : WP p e below s n0 k n Q T (mkF m pc Ls (S)) := by
  obtain ⟨⟨hx, hZ, hby, hml, hown, hnm, hret, hlk, h00⟩, hT, locs, X, N⟩ := X
  subst hp hv
  exact w.step fun t kk => XS.sipush X.here hx rfl (hb hby hd) kk
theorem w_lconst (X : St p l e R s m args below meth c Z n0 y code maxL ret T h cells slots) {i : Fin 2} {v : Int64} (hd : decode code pc = .ok (.lconst i, 1)) (hv : Int64.ofNat i = v) (hp : pc' = pc + 1) (w : WP p e below s n0 k n Q T (mkF m pc' Ls (.long v :: S))) : WP p e below s n0 k n Q T (mkF m pc Ls (S)) := by
  obtain ⟨⟨hx, hZ, hby, hml, hown, hnm, hret, hlk, h00⟩, hT, locs, X, N⟩ := X
  subst hp hv
  exact w.step fun t kk => XS.lconst X.here hx rfl (hb hby hd) kk
theorem w_aconst_null (X : St p l e R s m args below meth c Z n0 y code maxL ret T h cells slots)  (hd : decode code pc = .ok (.aconst_null, 1)) (hp : pc' = pc + 1) (w : WP p e below s n0 k n Q T (mkF m pc' Ls (.null :: S))) : WP p e below s n0 k n Q T (mkF m pc Ls (S)) := by
  obtain ⟨⟨hx, hZ, hby, hml, hown, hnm, hret, hlk, h00⟩, hT, locs, X, N⟩ := X
  subst hp
  exact w.step fun t kk => XS.aconstNull X.here hx rfl (hb hby hd) kk
theorem w_ldcI (X : St p l e R s m args below meth c Z n0 y code maxL ret T h cells slots) {i : Nat} {v : Int32} (hd : decode code pc = .ok (.ldc i, 2)) (wc : (Jvm.Cond.constant y.cls i v).before a0 Z = true) (hp : pc' = pc + 2) (w : WP p e below s n0 k n Q T (mkF m pc' Ls (.int v :: S))) : WP p e below s n0 k n Q T (mkF m pc Ls (S)) := by
  obtain ⟨⟨hx, hZ, hby, hml, hown, hnm, hret, hlk, h00⟩, hT, locs, X, N⟩ := X
  subst hp
  exact w.step fun t kk => X.ldcInt hx hown (mvT (d := Jvm.Cond.constant y.cls i v) hZ wc) (g := mkF m pc Ls S) rfl (hb hby hd) t kk
theorem w_ldcWI (X : St p l e R s m args below meth c Z n0 y code maxL ret T h cells slots) {i : Nat} {v : Int32} (hd : decode code pc = .ok (.ldc_w i, 3)) (wc : (Jvm.Cond.constant y.cls i v).before a0 Z = true) (hp : pc' = pc + 3) (w : WP p e below s n0 k n Q T (mkF m pc' Ls (.int v :: S))) : WP p e below s n0 k n Q T (mkF m pc Ls (S)) := by
  obtain ⟨⟨hx, hZ, hby, hml, hown, hnm, hret, hlk, h00⟩, hT, locs, X, N⟩ := X
  subst hp
  exact w.step fun t kk => X.ldcwInt hx hown (mvT (d := Jvm.Cond.constant y.cls i v) hZ wc) (g := mkF m pc Ls S) rfl (hb hby hd) t kk
theorem w_ldcJ (X : St p l e R s m args below meth c Z n0 y code maxL ret T h cells slots) {i : Nat} {v : Int64} (hd : decode code pc = .ok (.ldc2_w i, 3)) (wc : (Jvm.Cond.constantLong y.cls i v).before a0 Z = true) (hp : pc' = pc + 3) (w : WP p e below s n0 k n Q T (mkF m pc' Ls (.long v :: S))) : WP p e below s n0 k n Q T (mkF m pc Ls (S)) := by
  obtain ⟨⟨hx, hZ, hby, hml, hown, hnm, hret, hlk, h00⟩, hT, locs, X, N⟩ := X
  subst hp
  exact w.step fun t kk => X.ldc2Long hx hown (mvT (d := Jvm.Cond.constantLong y.cls i v) hZ wc) (g := mkF m pc Ls S) rfl (hb hby hd) t kk
theorem w_iadd (X : St p l e R s m args below meth c Z n0 y code maxL ret T h cells slots) {x z : Int32} (hd : decode code pc = .ok (.iadd, 1)) (hp : pc' = pc + 1) (w : WP p e below s n0 k n Q T (mkF m pc' Ls (.int (x + z) :: S))) : WP p e below s n0 k n Q T (mkF m pc Ls (.int z :: .int x :: S)) := by
  obtain ⟨⟨hx, hZ, hby, hml, hown, hnm, hret, hlk, h00⟩, hT, locs, X, N⟩ := X
  subst hp
  exact w.step fun t kk => XS.iadd X.here hx rfl (hb hby hd) rfl kk
theorem w_ladd (X : St p l e R s m args below meth c Z n0 y code maxL ret T h cells slots) {x z : Int64} (hd : decode code pc = .ok (.ladd, 1)) (hp : pc' = pc + 1) (w : WP p e below s n0 k n Q T (mkF m pc' Ls (.long (x + z) :: S))) : WP p e below s n0 k n Q T (mkF m pc Ls (.long z :: .long x :: S)) := by
  obtain ⟨⟨hx, hZ, hby, hml, hown, hnm, hret, hlk, h00⟩, hT, locs, X, N⟩ := X
  subst hp
  exact w.step fun t kk => XS.ladd X.here hx rfl (hb hby hd) rfl kk
theorem w_isub (X : St p l e R s m args below meth c Z n0 y code maxL ret T h cells slots) {x z : Int32} (hd : decode code pc = .ok (.isub, 1)) (hp : pc' = pc + 1) (w : WP p e below s n0 k n Q T (mkF m pc' Ls (.int (x - z) :: S))) : WP p e below s n0 k n Q T (mkF m pc Ls (.int z :: .int x :: S)) := by
  obtain ⟨⟨hx, hZ, hby, hml, hown, hnm, hret, hlk, h00⟩, hT, locs, X, N⟩ := X
  subst hp
  exact w.step fun t kk => XS.isub X.here hx rfl (hb hby hd) rfl kk
theorem w_lsub (X : St p l e R s m args below meth c Z n0 y code maxL ret T h cells slots) {x z : Int64} (hd : decode code pc = .ok (.lsub, 1)) (hp : pc' = pc + 1) (w : WP p e below s n0 k n Q T (mkF m pc' Ls (.long (x - z) :: S))) : WP p e below s n0 k n Q T (mkF m pc Ls (.long z :: .long x :: S)) := by
  obtain ⟨⟨hx, hZ, hby, hml, hown, hnm, hret, hlk, h00⟩, hT, locs, X, N⟩ := X
  subst hp
  exact w.step fun t kk => XS.lsub X.here hx rfl (hb hby hd) rfl kk
theorem w_imul (X : St p l e R s m args below meth c Z n0 y code maxL ret T h cells slots) {x z : Int32} (hd : decode code pc = .ok (.imul, 1)) (hp : pc' = pc + 1) (w : WP p e below s n0 k n Q T (mkF m pc' Ls (.int (x * z) :: S))) : WP p e below s n0 k n Q T (mkF m pc Ls (.int z :: .int x :: S)) := by
  obtain ⟨⟨hx, hZ, hby, hml, hown, hnm, hret, hlk, h00⟩, hT, locs, X, N⟩ := X
  subst hp
  exact w.step fun t kk => XS.imul X.here hx rfl (hb hby hd) rfl kk
theorem w_lmul (X : St p l e R s m args below meth c Z n0 y code maxL ret T h cells slots) {x z : Int64} (hd : decode code pc = .ok (.lmul, 1)) (hp : pc' = pc + 1) (w : WP p e below s n0 k n Q T (mkF m pc' Ls (.long (x * z) :: S))) : WP p e below s n0 k n Q T (mkF m pc Ls (.long z :: .long x :: S)) := by
  obtain ⟨⟨hx, hZ, hby, hml, hown, hnm, hret, hlk, h00⟩, hT, locs, X, N⟩ := X
  subst hp
  exact w.step fun t kk => XS.lmul X.here hx rfl (hb hby hd) rfl kk
theorem w_iand (X : St p l e R s m args below meth c Z n0 y code maxL ret T h cells slots) {x z : Int32} (hd : decode code pc = .ok (.iand, 1)) (hp : pc' = pc + 1) (w : WP p e below s n0 k n Q T (mkF m pc' Ls (.int (x &&& z) :: S))) : WP p e below s n0 k n Q T (mkF m pc Ls (.int z :: .int x :: S)) := by
  obtain ⟨⟨hx, hZ, hby, hml, hown, hnm, hret, hlk, h00⟩, hT, locs, X, N⟩ := X
  subst hp
  exact w.step fun t kk => XS.iand X.here hx rfl (hb hby hd) rfl kk
theorem w_land (X : St p l e R s m args below meth c Z n0 y code maxL ret T h cells slots) {x z : Int64} (hd : decode code pc = .ok (.land, 1)) (hp : pc' = pc + 1) (w : WP p e below s n0 k n Q T (mkF m pc' Ls (.long (x &&& z) :: S))) : WP p e below s n0 k n Q T (mkF m pc Ls (.long z :: .long x :: S)) := by
  obtain ⟨⟨hx, hZ, hby, hml, hown, hnm, hret, hlk, h00⟩, hT, locs, X, N⟩ := X
  subst hp
  exact w.step fun t kk => XS.land X.here hx rfl (hb hby hd) rfl kk
theorem w_ior (X : St p l e R s m args below meth c Z n0 y code maxL ret T h cells slots) {x z : Int32} (hd : decode code pc = .ok (.ior, 1)) (hp : pc' = pc + 1) (w : WP p e below s n0 k n Q T (mkF m pc' Ls (.int (x ||| z) :: S))) : WP p e below s n0 k n Q T (mkF m pc Ls (.int z :: .int x :: S)) := by
  obtain ⟨⟨hx, hZ, hby, hml, hown, hnm, hret, hlk, h00⟩, hT, locs, X, N⟩ := X
  subst hp
  exact w.step fun t kk => XS.ior X.here hx rfl (hb hby hd) rfl kk
theorem w_lor (X : St p l e R s m args below meth c Z n0 y code maxL ret T h cells slots) {x z : Int64} (hd : decode code pc = .ok (.lor, 1)) (hp : pc' = pc + 1) (w : WP p e below s n0 k n Q T (mkF m pc' Ls (.long (x ||| z) :: S))) : WP p e below s n0 k n Q T (mkF m pc Ls (.long z :: .long x :: S)) := by
  obtain ⟨⟨hx, hZ, hby, hml, hown, hnm, hret, hlk, h00⟩, hT, locs, X, N⟩ := X
  subst hp
  exact w.step fun t kk => XS.lor X.here hx rfl (hb hby hd) rfl kk
theorem w_ixor (X : St p l e R s m args below meth c Z n0 y code maxL ret T h cells slots) {x z : Int32} (hd : decode code pc = .ok (.ixor, 1)) (hp : pc' = pc + 1) (w : WP p e below s n0 k n Q T (mkF m pc' Ls (.int (x ^^^ z) :: S))) : WP p e below s n0 k n Q T (mkF m pc Ls (.int z :: .int x :: S)) := by
  obtain ⟨⟨hx, hZ, hby, hml, hown, hnm, hret, hlk, h00⟩, hT, locs, X, N⟩ := X
  subst hp
  exact w.step fun t kk => XS.ixor X.here hx rfl (hb hby hd) rfl kk
theorem w_lxor (X : St p l e R s m args below meth c Z n0 y code maxL ret T h cells slots) {x z : Int64} (hd : decode code pc = .ok (.lxor, 1)) (hp : pc' = pc + 1) (w : WP p e below s n0 k n Q T (mkF m pc' Ls (.long (x ^^^ z) :: S))) : WP p e below s n0 k n Q T (mkF m pc Ls (.long z :: .long x :: S)) := by
  obtain ⟨⟨hx, hZ, hby, hml, hown, hnm, hret, hlk, h00⟩, hT, locs, X, N⟩ := X
  subst hp
  exact w.step fun t kk => XS.lxor X.here hx rfl (hb hby hd) rfl kk
theorem w_ineg (X : St p l e R s m args below meth c Z n0 y code maxL ret T h cells slots) {x : Int32} (hd : decode code pc = .ok (.ineg, 1)) (hp : pc' = pc + 1) (w : WP p e below s n0 k n Q T (mkF m pc' Ls (.int (-x) :: S))) : WP p e below s n0 k n Q T (mkF m pc Ls (.int x :: S)) := by
  obtain ⟨⟨hx, hZ, hby, hml, hown, hnm, hret, hlk, h00⟩, hT, locs, X, N⟩ := X
  subst hp
  exact w.step fun t kk => XS.ineg X.here hx rfl (hb hby hd) rfl kk
theorem w_lneg (X : St p l e R s m args below meth c Z n0 y code maxL ret T h cells slots) {x : Int64} (hd : decode code pc = .ok (.lneg, 1)) (hp : pc' = pc + 1) (w : WP p e below s n0 k n Q T (mkF m pc' Ls (.long (-x) :: S))) : WP p e below s n0 k n Q T (mkF m pc Ls (.long x :: S)) := by
  obtain ⟨⟨hx, hZ, hby, hml, hown, hnm, hret, hlk, h00⟩, hT, locs, X, N⟩ := X
  subst hp
  exact w.step fun t kk => XS.lneg X.here hx rfl (hb hby hd) rfl kk
theorem w_idiv (X : St p l e R s m args below meth c Z n0 y code maxL ret T h cells slots) {x z : Int32} (hd : decode code pc = .ok (.idiv, 1)) (hz : z ≠ 0) (hp : pc' = pc + 1) (w : WP p e below s n0 k n Q T (mkF m pc' Ls (.int (x / z) :: S))) : WP p e below s n0 k n Q T (mkF m pc Ls (.int z :: .int x :: S)) := by
  obtain ⟨⟨hx, hZ, hby, hml, hown, hnm, hret, hlk, h00⟩, hT, locs, X, N⟩ := X
  subst hp
  exact w.step fun t kk => XS.idiv X.here hx rfl (hb hby hd) rfl hz kk
theorem w_irem (X : St p l e R s m args below meth c Z n0 y code maxL ret T h cells slots) {x z : Int32} (hd : decode code pc = .ok (.irem, 1)) (hz : z ≠ 0) (hp : pc' = pc + 1) (w : WP p e below s n0 k n Q T (mkF m pc' Ls (.int (x % z) :: S))) : WP p e below s n0 k n Q T (mkF m pc Ls (.int z :: .int x :: S)) := by
  obtain ⟨⟨hx, hZ, hby, hml, hown, hnm, hret, hlk, h00⟩, hT, locs, X, N⟩ := X
  subst hp
  exact w.step fun t kk => iremM X hx rfl (hb hby hd) rfl hz kk
theorem w_ldiv (X : St p l e R s m args below meth c Z n0 y code maxL ret T h cells slots) {x z : Int64} (hd : decode code pc = .ok (.ldiv, 1)) (hz : z ≠ 0) (hp : pc' = pc + 1) (w : WP p e below s n0 k n Q T (mkF m pc' Ls (.long (x / z) :: S))) : WP p e below s n0 k n Q T (mkF m pc Ls (.long z :: .long x :: S)) := by
  obtain ⟨⟨hx, hZ, hby, hml, hown, hnm, hret, hlk, h00⟩, hT, locs, X, N⟩ := X
  subst hp
  exact w.step fun t kk => XS.ldiv X.here hx rfl (hb hby hd) rfl hz kk
theorem w_lrem (X : St p l e R s m args below meth c Z n0 y code maxL ret T h cells slots) {x z : Int64} (hd : decode code pc = .ok (.lrem, 1)) (hz : z ≠ 0) (hp : pc' = pc + 1) (w : WP p e below s n0 k n Q T (mkF m pc' Ls (.long (x % z) :: S))) : WP p e below s n0 k n Q T (mkF m pc Ls (.long z :: .long x :: S)) := by
  obtain ⟨⟨hx, hZ, hby, hml, hown, hnm, hret, hlk, h00⟩, hT, locs, X, N⟩ := X
  subst hp
  exact w.step fun t kk => XS.lrem X.here hx rfl (hb hby hd) rfl hz (by rw [lrem_mod]; exact kk)
theorem w_ishl (X : St p l e R s m args below meth c Z n0 y code maxL ret T h cells slots) {x z : Int32} (hd : decode code pc = .ok (.ishl, 1)) (hp : pc' = pc + 1) (w : WP p e below s n0 k n Q T (mkF m pc' Ls (.int (x <<< (z &&& 31)) :: S))) : WP p e below s n0 k n Q T (mkF m pc Ls (.int z :: .int x :: S)) := by
  obtain ⟨⟨hx, hZ, hby, hml, hown, hnm, hret, hlk, h00⟩, hT, locs, X, N⟩ := X
  subst hp
  exact w.step fun t kk => XS.ishl X.here hx rfl (hb hby hd) rfl kk
theorem w_ishr (X : St p l e R s m args below meth c Z n0 y code maxL ret T h cells slots) {x z : Int32} (hd : decode code pc = .ok (.ishr, 1)) (hp : pc' = pc + 1) (w : WP p e below s n0 k n Q T (mkF m pc' Ls (.int (x >>> (z &&& 31)) :: S))) : WP p e below s n0 k n Q T (mkF m pc Ls (.int z :: .int x :: S)) := by
  obtain ⟨⟨hx, hZ, hby, hml, hown, hnm, hret, hlk, h00⟩, hT, locs, X, N⟩ := X
  subst hp
  exact w.step fun t kk => XS.ishr X.here hx rfl (hb hby hd) rfl kk
theorem w_iushr (X : St p l e R s m args below meth c Z n0 y code maxL ret T h cells slots) {x z : Int32} (hd : decode code pc = .ok (.iushr, 1)) (hp : pc' = pc + 1) (w : WP p e below s n0 k n Q T (mkF m pc' Ls (.int ((x.toUInt32 >>> (z &&& 31).toUInt32).toInt32) :: S))) : WP p e below s n0 k n Q T (mkF m pc Ls (.int z :: .int x :: S)) := by
  obtain ⟨⟨hx, hZ, hby, hml, hown, hnm, hret, hlk, h00⟩, hT, locs, X, N⟩ := X
  subst hp
  exact w.step fun t kk => XS.iushr X.here hx rfl (hb hby hd) rfl kk
theorem w_lshl (X : St p l e R s m args below meth c Z n0 y code maxL ret T h cells slots) {x : Int64} {z : Int32} (hd : decode code pc = .ok (.lshl, 1)) (hp : pc' = pc + 1) (w : WP p e below s n0 k n Q T (mkF m pc' Ls (.long (x <<< (z &&& 0x3f).toInt64) :: S))) : WP p e below s n0 k n Q T (mkF m pc Ls (.int z :: .long x :: S)) := by
  obtain ⟨⟨hx, hZ, hby, hml, hown, hnm, hret, hlk, h00⟩, hT, locs, X, N⟩ := X
  subst hp
  exact w.step fun t kk => XS.lshl X.here hx rfl (hb hby hd) rfl kk
theorem w_lshr (X : St p l e R s m args below meth c Z n0 y code maxL ret T h cells slots) {x : Int64} {z : Int32} (hd : decode code pc = .ok (.lshr, 1)) (hp : pc' = pc + 1) (w : WP p e below s n0 k n Q T (mkF m pc' Ls (.long (x >>> (z &&& 0x3f).toInt64) :: S))) : WP p e below s n0 k n Q T (mkF m pc Ls (.int z :: .long x :: S)) := by
  obtain ⟨⟨hx, hZ, hby, hml, hown, hnm, hret, hlk, h00⟩, hT, locs, X, N⟩ := X
  subst hp
  exact w.step fun t kk => XS.lshr X.here hx rfl (hb hby hd) rfl kk
theorem w_lushr (X : St p l e R s m args below meth c Z n0 y code maxL ret T h cells slots) {x : Int64} {z : Int32} (hd : decode code pc = .ok (.lushr, 1)) (hp : pc' = pc + 1) (w : WP p e below s n0 k n Q T (mkF m pc' Ls (.long ((x.toUInt64 >>> (z &&& 0x3f).toInt64.toUInt64).toInt64) :: S))) : WP p e below s n0 k n Q T (mkF m pc Ls (.int z :: .long x :: S)) := by
  obtain ⟨⟨hx, hZ, hby, hml, hown, hnm, hret, hlk, h00⟩, hT, locs, X, N⟩ := X
  subst hp
  exact w.step fun t kk => XS.lushr X.here hx rfl (hb hby hd) rfl kk
theorem w_i2b (X : St p l e R s m args below meth c Z n0 y code maxL ret T h cells slots) {x : Int32} (hd : decode code pc = .ok (.i2b, 1)) (hp : pc' = pc + 1) (w : WP p e below s n0 k n Q T (mkF m pc' Ls (.int x.toInt8.toInt32 :: S))) : WP p e below s n0 k n Q T (mkF m pc Ls (.int x :: S)) := by
  obtain ⟨⟨hx, hZ, hby, hml, hown, hnm, hret, hlk, h00⟩, hT, locs, X, N⟩ := X
  subst hp
  exact w.step fun t kk => XS.i2b X.here hx rfl (hb hby hd) rfl kk
theorem w_i2c (X : St p l e R s m args below meth c Z n0 y code maxL ret T h cells slots) {x : Int32} (hd : decode code pc = .ok (.i2c, 1)) (hp : pc' = pc + 1) (w : WP p e below s n0 k n Q T (mkF m pc' Ls (.int x.toUInt32.toUInt16.toUInt32.toInt32 :: S))) : WP p e below s n0 k n Q T (mkF m pc Ls (.int x :: S)) := by
  obtain ⟨⟨hx, hZ, hby, hml, hown, hnm, hret, hlk, h00⟩, hT, locs, X, N⟩ := X
  subst hp
  exact w.step fun t kk => XS.i2c X.here hx rfl (hb hby hd) rfl kk
theorem w_i2s (X : St p l e R s m args below meth c Z n0 y code maxL ret T h cells slots) {x : Int32} (hd : decode code pc = .ok (.i2s, 1)) (hp : pc' = pc + 1) (w : WP p e below s n0 k n Q T (mkF m pc' Ls (.int x.toInt16.toInt32 :: S))) : WP p e below s n0 k n Q T (mkF m pc Ls (.int x :: S)) := by
  obtain ⟨⟨hx, hZ, hby, hml, hown, hnm, hret, hlk, h00⟩, hT, locs, X, N⟩ := X
  subst hp
  exact w.step fun t kk => XS.i2s X.here hx rfl (hb hby hd) rfl kk
theorem w_i2l (X : St p l e R s m args below meth c Z n0 y code maxL ret T h cells slots) {x : Int32} (hd : decode code pc = .ok (.i2l, 1)) (hp : pc' = pc + 1) (w : WP p e below s n0 k n Q T (mkF m pc' Ls (.long x.toInt64 :: S))) : WP p e below s n0 k n Q T (mkF m pc Ls (.int x :: S)) := by
  obtain ⟨⟨hx, hZ, hby, hml, hown, hnm, hret, hlk, h00⟩, hT, locs, X, N⟩ := X
  subst hp
  exact w.step fun t kk => XS.i2l X.here hx rfl (hb hby hd) rfl kk
theorem w_l2i (X : St p l e R s m args below meth c Z n0 y code maxL ret T h cells slots) {x : Int64} (hd : decode code pc = .ok (.l2i, 1)) (hp : pc' = pc + 1) (w : WP p e below s n0 k n Q T (mkF m pc' Ls (.int x.toInt32 :: S))) : WP p e below s n0 k n Q T (mkF m pc Ls (.long x :: S)) := by
  obtain ⟨⟨hx, hZ, hby, hml, hown, hnm, hret, hlk, h00⟩, hT, locs, X, N⟩ := X
  subst hp
  exact w.step fun t kk => XS.l2i X.here hx rfl (hb hby hd) rfl kk
theorem w_lcmp (X : St p l e R s m args below meth c Z n0 y code maxL ret T h cells slots) {x z : Int64} (hd : decode code pc = .ok (.lcmp, 1)) (hp : pc' = pc + 1) (w : WP p e below s n0 k n Q T (mkF m pc' Ls (.int (lcmpW x z) :: S))) : WP p e below s n0 k n Q T (mkF m pc Ls (.long z :: .long x :: S)) := by
  obtain ⟨⟨hx, hZ, hby, hml, hown, hnm, hret, hlk, h00⟩, hT, locs, X, N⟩ := X
  subst hp
  exact w.step fun t kk => XS.lcmp X.here hx rfl (hb hby hd) rfl kk
theorem w_dup (X : St p l e R s m args below meth c Z n0 y code maxL ret T h cells slots) {v : Value} (hd : decode code pc = .ok (.dup, 1)) (hv : v.category = 1) (hp : pc' = pc + 1) (w : WP p e below s n0 k n Q T (mkF m pc' Ls (v :: v :: S))) : WP p e below s n0 k n Q T (mkF m pc Ls (v :: S)) := by
  obtain ⟨⟨hx, hZ, hby, hml, hown, hnm, hret, hlk, h00⟩, hT, locs, X, N⟩ := X
  subst hp
  exact w.step fun t kk => XS.dup X.here hx rfl (hb hby hd) rfl hv kk
theorem w_pop (X : St p l e R s m args below meth c Z n0 y code maxL ret T h cells slots) {v : Value} (hd : decode code pc = .ok (.pop, 1)) (hv : v.category = 1) (hp : pc' = pc + 1) (w : WP p e below s n0 k n Q T (mkF m pc' Ls (S))) : WP p e below s n0 k n Q T (mkF m pc Ls (v :: S)) := by
  obtain ⟨⟨hx, hZ, hby, hml, hown, hnm, hret, hlk, h00⟩, hT, locs, X, N⟩ := X
  subst hp
  exact w.step fun t kk => XS.pop X.here hx rfl (hb hby hd) rfl hv kk
theorem w_dup_x1 (X : St p l e R s m args below meth c Z n0 y code maxL ret T h cells slots) {v u : Value} (hd : decode code pc = .ok (.dup_x1, 1)) (hv : v.category = 1) (hu : u.category = 1) (hp : pc' = pc + 1) (w : WP p e below s n0 k n Q T (mkF m pc' Ls (v :: u :: v :: S))) : WP p e below s n0 k n Q T (mkF m pc Ls (v :: u :: S)) := by
  obtain ⟨⟨hx, hZ, hby, hml, hown, hnm, hret, hlk, h00⟩, hT, locs, X, N⟩ := X
  subst hp
  exact w.step fun t kk => XS.dupX1 X.here hx rfl (hb hby hd) rfl hv hu kk
theorem w_dup2 (X : St p l e R s m args below meth c Z n0 y code maxL ret T h cells slots) {j : Int32} {a : Addr} (hd : decode code pc = .ok (.dup2, 1)) (hp : pc' = pc + 1) (w : WP p e below s n0 k n Q T (mkF m pc' Ls (.int j :: .ref a :: .int j :: .ref a :: S))) : WP p e below s n0 k n Q T (mkF m pc Ls (.int j :: .ref a :: S)) := by
  obtain ⟨⟨hx, hZ, hby, hml, hown, hnm, hret, hlk, h00⟩, hT, locs, X, N⟩ := X
  subst hp
  refine w.step fun t kk => ?_
  have hd' := hb hby hd
  jvm_step X.here [X.here.top, hx, hd', Value.category]
  exact kk
theorem w_goto (X : St p l e R s m args below meth c Z n0 y code maxL ret T h cells slots) {o : Int} (hd : decode code pc = .ok (.goto o, 3)) (ho : 0 ≤ (pc : Int) + o) (hp : ((pc : Int) + o).toNat = pc') (w : WP p e below s n0 k n Q T (mkF m pc' Ls S)) : WP p e below s n0 k n Q T (mkF m pc Ls S) := by
  obtain ⟨⟨hx, hZ, hby, hml, hown, hnm, hret, hlk, h00⟩, hT, locs, X, N⟩ := X
  exact w.step fun t kk => XS.goto X.here hx rfl rfl (hb hby hd) ho hp kk
theorem w_icmp_lt (X : St p l e R s m args below meth c Z n0 y code maxL ret T h cells slots) {o : Int} {x z : Int32} {p1 p2 : Nat} (hd : decode code pc = .ok (.if_icmp .lt o, 3)) (ho : 0 ≤ (pc : Int) + o) (h1 : ((pc : Int) + o).toNat = p1) (h2 : p2 = pc + 3) (wt : x < z → WP p e below s n0 k n Q T (mkF m p1 Ls S)) (wf : ¬ x < z → WP p e below s n0 k n Q T (mkF m p2 Ls S)) : WP p e below s n0 k n Q T (mkF m pc Ls (.int z :: .int x :: S)) := by
  obtain ⟨⟨hx, hZ, hby, hml, hown, hnm, hret, hlk, h00⟩, hT, locs, X, N⟩ := X
  subst h2
  by_cases q0 : x < z
  · have q := q0
    exact (wt q).step fun t kk => XS.icmpYes X.here hx rfl rfl (hb hby hd) rfl (tlt q).1 ho h1 kk
  · have q := q0
    exact (wf q).step fun t kk => XS.icmpNo X.here hx rfl (hb hby hd) rfl (flt q).1 kk
theorem w_if_lt (X : St p l e R s m args below meth c Z n0 y code maxL ret T h cells slots) {o : Int} {x : Int32} {p1 p2 : Nat} (hd : decode code pc = .ok (.ifCond .lt o, 3)) (ho : 0 ≤ (pc : Int) + o) (h1 : ((pc : Int) + o).toNat = p1) (h2 : p2 = pc + 3) (wt : x < (0 : Int32) → WP p e below s n0 k n Q T (mkF m p1 Ls S)) (wf : ¬ x < (0 : Int32) → WP p e below s n0 k n Q T (mkF m p2 Ls S)) : WP p e below s n0 k n Q T (mkF m pc Ls (.int x :: S)) := by
  obtain ⟨⟨hx, hZ, hby, hml, hown, hnm, hret, hlk, h00⟩, hT, locs, X, N⟩ := X
  subst h2
  by_cases q0 : x < (0 : Int32)
  · have q := q0
    exact (wt q).step fun t kk => XS.ifYes X.here hx rfl rfl (hb hby hd) rfl ((if0 _ _).trans (tlt q).1) ho h1 kk
  · have q := q0
    exact (wf q).step fun t kk => XS.ifNo X.here hx rfl (hb hby hd) rfl ((if0 _ _).trans (flt q).1) kk
theorem w_lcmp_lt (X : St p l e R s m args below meth c Z n0 y code maxL ret T h cells slots) {o : Int} {x z : Int64} {p0 p1 p2 : Nat} (hd0 : decode code pc = .ok (.lcmp, 1)) (h0 : p0 = pc + 1) (hd : decode code p0 = .ok (.ifCond .lt o, 3)) (ho : 0 ≤ (p0 : Int) + o) (h1 : ((p0 : Int) + o).toNat = p1) (h2 : p2 = p0 + 3) (wt : x < z → WP p e below s n0 k n Q T (mkF m p1 Ls S)) (wf : ¬ x < z → WP p e below s n0 k n Q T (mkF m p2 Ls S)) : WP p e below s n0 k n Q T (mkF m pc Ls (.long z :: .long x :: S)) :=
  w_lcmp X hd0 h0 (w_if_lt X hd ho h1 h2 (fun q => wt ((lw_lt _ _).mp q)) (fun q => wf (fun u => q ((lw_lt _ _).mpr u))))
theorem w_icmp_ge (X : St p l e R s m args below meth c Z n0 y code maxL ret T h cells slots) {o : Int} {x z : Int32} {p1 p2 : Nat} (hd : decode code pc = .ok (.if_icmp .ge o, 3)) (ho : 0 ≤ (pc : Int) + o) (h1 : ((pc : Int) + o).toNat = p1) (h2 : p2 = pc + 3) (wt : ¬ x < z → WP p e below s n0 k n Q T (mkF m p1 Ls S)) (wf : x < z → WP p e below s n0 k n Q T (mkF m p2 Ls S)) : WP p e below s n0 k n Q T (mkF m pc Ls (.int z :: .int x :: S)) := by
  obtain ⟨⟨hx, hZ, hby, hml, hown, hnm, hret, hlk, h00⟩, hT, locs, X, N⟩ := X
  subst h2
  by_cases q0 : x < z
  · have q := q0
    exact (wf q).step fun t kk => XS.icmpNo X.here hx rfl (hb hby hd) rfl (tlt q).2.1 kk
  · have q := q0
    exact (wt q).step fun t kk => XS.icmpYes X.here hx rfl rfl (hb hby hd) rfl (flt q).2.1 ho h1 kk
theorem w_if_ge (X : St p l e R s m args below meth c Z n0 y code maxL ret T h cells slots) {o : Int} {x : Int32} {p1 p2 : Nat} (hd : decode code pc = .ok (.ifCond .ge o, 3)) (ho : 0 ≤ (pc : Int) + o) (h1 : ((pc : Int) + o).toNat = p1) (h2 : p2 = pc + 3) (wt : ¬ x < (0 : Int32) → WP p e below s n0 k n Q T (mkF m p1 Ls S)) (wf : x < (0 : Int32) → WP p e below s n0 k n Q T (mkF m p2 Ls S)) : WP p e below s n0 k n Q T (mkF m pc Ls (.int x :: S)) := by
  obtain ⟨⟨hx, hZ, hby, hml, hown, hnm, hret, hlk, h00⟩, hT, locs, X, N⟩ := X
  subst h2
  by_cases q0 : x < (0 : Int32)
  · have q := q0
    exact (wf q).step fun t kk => XS.ifNo X.here hx rfl (hb hby hd) rfl ((if0 _ _).trans (tlt q).2.1) kk
  · have q := q0
    exact (wt q).step fun t kk => XS.ifYes X.here hx rfl rfl (hb hby hd) rfl ((if0 _ _).trans (flt q).2.1) ho h1 kk
theorem w_lcmp_ge (X : St p l e R s m args below meth c Z n0 y code maxL ret T h cells slots) {o : Int} {x z : Int64} {p0 p1 p2 : Nat} (hd0 : decode code pc = .ok (.lcmp, 1)) (h0 : p0 = pc + 1) (hd : decode code p0 = .ok (.ifCond .ge o, 3)) (ho : 0 ≤ (p0 : Int) + o) (h1 : ((p0 : Int) + o).toNat = p1) (h2 : p2 = p0 + 3) (wt : ¬ x < z → WP p e below s n0 k n Q T (mkF m p1 Ls S)) (wf : x < z → WP p e below s n0 k n Q T (mkF m p2 Ls S)) : WP p e below s n0 k n Q T (mkF m pc Ls (.long z :: .long x :: S)) :=
  w_lcmp X hd0 h0 (w_if_ge X hd ho h1 h2 (fun q => wt (fun u => q ((lw_lt _ _).mpr u))) (fun q => wf ((lw_lt _ _).mp q)))
theorem w_icmp_gt (X : St p l e R s m args below meth c Z n0 y code maxL ret T h cells slots) {o : Int} {x z : Int32} {p1 p2 : Nat} (hd : decode code pc = .ok (.if_icmp .gt o, 3)) (ho : 0 ≤ (pc : Int) + o) (h1 : ((pc : Int) + o).toNat = p1) (h2 : p2 = pc + 3) (wt : z < x → WP p e below s n0 k n Q T (mkF m p1 Ls S)) (wf : ¬ z < x → WP p e below s n0 k n Q T (mkF m p2 Ls S)) : WP p e below s n0 k n Q T (mkF m pc Ls (.int z :: .int x :: S)) := by
  obtain ⟨⟨hx, hZ, hby, hml, hown, hnm, hret, hlk, h00⟩, hT, locs, X, N⟩ := X
  subst h2
  by_cases q0 : z < x
  · have q := q0
    exact (wt q).step fun t kk => XS.icmpYes X.here hx rfl rfl (hb hby hd) rfl (tlt q).2.2.1 ho h1 kk
  · have q := q0
    exact (wf q).step fun t kk => XS.icmpNo X.here hx rfl (hb hby hd) rfl (flt q).2.2.1 kk
theorem w_if_gt (X : St p l e R s m args below meth c Z n0 y code maxL ret T h cells slots) {o : Int} {x : Int32} {p1 p2 : Nat} (hd : decode code pc = .ok (.ifCond .gt o, 3)) (ho : 0 ≤ (pc : Int) + o) (h1 : ((pc : Int) + o).toNat = p1) (h2 : p2 = pc + 3) (wt : (0 : Int32) < x → WP p e below s n0 k n Q T (mkF m p1 Ls S)) (wf : ¬ (0 : Int32) < x → WP p e below s n0 k n Q T (mkF m p2 Ls S)) : WP p e below s n0 k n Q T (mkF m pc Ls (.int x :: S)) := by
  obtain ⟨⟨hx, hZ, hby, hml, hown, hnm, hret, hlk, h00⟩, hT, locs, X, N⟩ := X
  subst h2
  by_cases q0 : (0 : Int32) < x
  · have q := q0
    exact (wt q).step fun t kk => XS.ifYes X.here hx rfl rfl (hb hby hd) rfl ((if0 _ _).trans (tlt q).2.2.1) ho h1 kk
  · have q := q0
    exact (wf q).step fun t kk => XS.ifNo X.here hx rfl (hb hby hd) rfl ((if0 _ _).trans (flt q).2.2.1) kk
theorem w_lcmp_gt (X : St p l e R s m args below meth c Z n0 y code maxL ret T h cells slots) {o : Int} {x z : Int64} {p0 p1 p2 : Nat} (hd0 : decode code pc = .ok (.lcmp, 1)) (h0 : p0 = pc + 1) (hd : decode code p0 = .ok (.ifCond .gt o, 3)) (ho : 0 ≤ (p0 : Int) + o) (h1 : ((p0 : Int) + o).toNat = p1) (h2 : p2 = p0 + 3) (wt : z < x → WP p e below s n0 k n Q T (mkF m p1 Ls S)) (wf : ¬ z < x → WP p e below s n0 k n Q T (mkF m p2 Ls S)) : WP p e below s n0 k n Q T (mkF m pc Ls (.long z :: .long x :: S)) :=
  w_lcmp X hd0 h0 (w_if_gt X hd ho h1 h2 (fun q => wt ((lw_gt _ _).mp q)) (fun q => wf (fun u => q ((lw_gt _ _).mpr u))))
theorem w_icmp_le (X : St p l e R s m args below meth c Z n0 y code maxL ret T h cells slots) {o : Int} {x z : Int32} {p1 p2 : Nat} (hd : decode code pc = .ok (.if_icmp .le o, 3)) (ho : 0 ≤ (pc : Int) + o) (h1 : ((pc : Int) + o).toNat = p1) (h2 : p2 = pc + 3) (wt : ¬ z < x → WP p e below s n0 k n Q T (mkF m p1 Ls S)) (wf : z < x → WP p e below s n0 k n Q T (mkF m p2 Ls S)) : WP p e below s n0 k n Q T (mkF m pc Ls (.int z :: .int x :: S)) := by
  obtain ⟨⟨hx, hZ, hby, hml, hown, hnm, hret, hlk, h00⟩, hT, locs, X, N⟩ := X
  subst h2
  by_cases q0 : z < x
  · have q := q0
    exact (wf q).step fun t kk => XS.icmpNo X.here hx rfl (hb hby hd) rfl (tlt q).2.2.2 kk
  · have q := q0
    exact (wt q).step fun t kk => XS.icmpYes X.here hx rfl rfl (hb hby hd) rfl (flt q).2.2.2 ho h1 kk
theorem w_if_le (X : St p l e R s m args below meth c Z n0 y code maxL ret T h cells slots) {o : Int} {x : Int32} {p1 p2 : Nat} (hd : decode code pc = .ok (.ifCond .le o, 3)) (ho : 0 ≤ (pc : Int) + o) (h1 : ((pc : Int) + o).toNat = p1) (h2 : p2 = pc + 3) (wt : ¬ (0 : Int32) < x → WP p e below s n0 k n Q T (mkF m p1 Ls S)) (wf : (0 : Int32) < x → WP p e below s n0 k n Q T (mkF m p2 Ls S)) : WP p e below s n0 k n Q T (mkF m pc Ls (.int x :: S)) := by
  obtain ⟨⟨hx, hZ, hby, hml, hown, hnm, hret, hlk, h00⟩, hT, locs, X, N⟩ := X
  subst h2
  by_cases q0 : (0 : Int32) < x
  · have q := q0
    exact (wf q).step fun t kk => XS.ifNo X.here hx rfl (hb hby hd) rfl ((if0 _ _).trans (tlt q).2.2.2) kk
  · have q := q0
    exact (wt q).step fun t kk => XS.ifYes X.here hx rfl rfl (hb hby hd) rfl ((if0 _ _).trans (flt q).2.2.2) ho h1 kk
theorem w_lcmp_le (X : St p l e R s m args below meth c Z n0 y code maxL ret T h cells slots) {o : Int} {x z : Int64} {p0 p1 p2 : Nat} (hd0 : decode code pc = .ok (.lcmp, 1)) (h0 : p0 = pc + 1) (hd : decode code p0 = .ok (.ifCond .le o, 3)) (ho : 0 ≤ (p0 : Int) + o) (h1 : ((p0 : Int) + o).toNat = p1) (h2 : p2 = p0 + 3) (wt : ¬ z < x → WP p e below s n0 k n Q T (mkF m p1 Ls S)) (wf : z < x → WP p e below s n0 k n Q T (mkF m p2 Ls S)) : WP p e below s n0 k n Q T (mkF m pc Ls (.long z :: .long x :: S)) :=
  w_lcmp X hd0 h0 (w_if_le X hd ho h1 h2 (fun q => wt (fun u => q ((lw_gt _ _).mpr u))) (fun q => wf ((lw_gt _ _).mp q)))
theorem w_icmp_eq (X : St p l e R s m args below meth c Z n0 y code maxL ret T h cells slots) {o : Int} {x z : Int32} {p1 p2 : Nat} (hd : decode code pc = .ok (.if_icmp .eq o, 3)) (ho : 0 ≤ (pc : Int) + o) (h1 : ((pc : Int) + o).toNat = p1) (h2 : p2 = pc + 3) (wt : x = z → WP p e below s n0 k n Q T (mkF m p1 Ls S)) (wf : ¬ x = z → WP p e below s n0 k n Q T (mkF m p2 Ls S)) : WP p e below s n0 k n Q T (mkF m pc Ls (.int z :: .int x :: S)) := by
  obtain ⟨⟨hx, hZ, hby, hml, hown, hnm, hret, hlk, h00⟩, hT, locs, X, N⟩ := X
  subst h2
  by_cases q0 : x = z
  · have q := q0
    exact (wt q).step fun t kk => XS.icmpYes X.here hx rfl rfl (hb hby hd) rfl (teq q).1 ho h1 kk
  · have q := q0
    exact (wf q).step fun t kk => XS.icmpNo X.here hx rfl (hb hby hd) rfl (feq q).1 kk
theorem w_if_eq (X : St p l e R s m args below meth c Z n0 y code maxL ret T h cells slots) {o : Int} {x : Int32} {p1 p2 : Nat} (hd : decode code pc = .ok (.ifCond .eq o, 3)) (ho : 0 ≤ (pc : Int) + o) (h1 : ((pc : Int) + o).toNat = p1) (h2 : p2 = pc + 3) (wt : x = (0 : Int32) → WP p e below s n0 k n Q T (mkF m p1 Ls S)) (wf : ¬ x = (0 : Int32) → WP p e below s n0 k n Q T (mkF m p2 Ls S)) : WP p e below s n0 k n Q T (mkF m pc Ls (.int x :: S)) := by
  obtain ⟨⟨hx, hZ, hby, hml, hown, hnm, hret, hlk, h00⟩, hT, locs, X, N⟩ := X
  subst h2
  by_cases q0 : x = (0 : Int32)
  · have q := q0
    exact (wt q).step fun t kk => XS.ifYes X.here hx rfl rfl (hb hby hd) rfl ((if0 _ _).trans (teq q).1) ho h1 kk
  · have q := q0
    exact (wf q).step fun t kk => XS.ifNo X.here hx rfl (hb hby hd) rfl ((if0 _ _).trans (feq q).1) kk
theorem w_lcmp_eq (X : St p l e R s m args below meth c Z n0 y code maxL ret T h cells slots) {o : Int} {x z : Int64} {p0 p1 p2 : Nat} (hd0 : decode code pc = .ok (.lcmp, 1)) (h0 : p0 = pc + 1) (hd : decode code p0 = .ok (.ifCond .eq o, 3)) (ho : 0 ≤ (p0 : Int) + o) (h1 : ((p0 : Int) + o).toNat = p1) (h2 : p2 = p0 + 3) (wt : x = z → WP p e below s n0 k n Q T (mkF m p1 Ls S)) (wf : ¬ x = z → WP p e below s n0 k n Q T (mkF m p2 Ls S)) : WP p e below s n0 k n Q T (mkF m pc Ls (.long z :: .long x :: S)) :=
  w_lcmp X hd0 h0 (w_if_eq X hd ho h1 h2 (fun q => wt ((lw_eq _ _).mp q)) (fun q => wf (fun u => q ((lw_eq _ _).mpr u))))
theorem w_icmp_ne (X : St p l e R s m args below meth c Z n0 y code maxL ret T h cells slots) {o : Int} {x z : Int32} {p1 p2 : Nat} (hd : decode code pc = .ok (.if_icmp .ne o, 3)) (ho : 0 ≤ (pc : Int) + o) (h1 : ((pc : Int) + o).toNat = p1) (h2 : p2 = pc + 3) (wt : ¬ x = z → WP p e below s n0 k n Q T (mkF m p1 Ls S)) (wf : x = z → WP p e below s n0 k n Q T (mkF m p2 Ls S)) : WP p e below s n0 k n Q T (mkF m pc Ls (.int z :: .int x :: S)) := by
  obtain ⟨⟨hx, hZ, hby, hml, hown, hnm, hret, hlk, h00⟩, hT, locs, X, N⟩ := X
  subst h2
  by_cases q0 : x = z
  · have q := q0
    exact (wf q).step fun t kk => XS.icmpNo X.here hx rfl (hb hby hd) rfl (teq q).2 kk
  · have q := q0
    exact (wt q).step fun t kk => XS.icmpYes X.here hx rfl rfl (hb hby hd) rfl (feq q).2 ho h1 kk
theorem w_if_ne (X : St p l e R s m args below meth c Z n0 y code maxL ret T h cells slots) {o : Int} {x : Int32} {p1 p2 : Nat} (hd : decode code pc = .ok (.ifCond .ne o, 3)) (ho : 0 ≤ (pc : Int) + o) (h1 : ((pc : Int) + o).toNat = p1) (h2 : p2 = pc + 3) (wt : ¬ x = (0 : Int32) → WP p e below s n0 k n Q T (mkF m p1 Ls S)) (wf : x = (0 : Int32) → WP p e below s n0 k n Q T (mkF m p2 Ls S)) : WP p e below s n0 k n Q T (mkF m pc Ls (.int x :: S)) := by
  obtain ⟨⟨hx, hZ, hby, hml, hown, hnm, hret, hlk, h00⟩, hT, locs, X, N⟩ := X
  subst h2
  by_cases q0 : x = (0 : Int32)
  · have q := q0
    exact (wf q).step fun t kk => XS.ifNo X.here hx rfl (hb hby hd) rfl ((if0 _ _).trans (teq q).2) kk
  · have q := q0
    exact (wt q).step fun t kk => XS.ifYes X.here hx rfl rfl (hb hby hd) rfl ((if0 _ _).trans (feq q).2) ho h1 kk
theorem w_lcmp_ne (X : St p l e R s m args below meth c Z n0 y code maxL ret T h cells slots) {o : Int} {x z : Int64} {p0 p1 p2 : Nat} (hd0 : decode code pc = .ok (.lcmp, 1)) (h0 : p0 = pc + 1) (hd : decode code p0 = .ok (.ifCond .ne o, 3)) (ho : 0 ≤ (p0 : Int) + o) (h1 : ((p0 : Int) + o).toNat = p1) (h2 : p2 = p0 + 3) (wt : ¬ x = z → WP p e below s n0 k n Q T (mkF m p1 Ls S)) (wf : x = z → WP p e below s n0 k n Q T (mkF m p2 Ls S)) : WP p e below s n0 k n Q T (mkF m pc Ls (.long z :: .long x :: S)) :=
  w_lcmp X hd0 h0 (w_if_ne X hd ho h1 h2 (fun q => wt (fun u => q ((lw_eq _ _).mpr u))) (fun q => wf ((lw_eq _ _).mp q)))
theorem w_ifnull_ref (X : St p l e R s m args below meth c Z n0 y code maxL ret T h cells slots) {o : Int} {a : Addr} (hd : decode code pc = .ok (.ifnull o, 3)) (hp : pc' = pc + 3) (w : WP p e below s n0 k n Q T (mkF m pc' Ls S)) : WP p e below s n0 k n Q T (mkF m pc Ls (.ref a :: S)) := by
  obtain ⟨⟨hx, hZ, hby, hml, hown, hnm, hret, hlk, h00⟩, hT, locs, X, N⟩ := X
  subst hp
  exact w.step fun t kk => XS.ifnullNo X.here hx rfl (hb hby hd) rfl kk
theorem w_end (X : St p l e R s m args below meth c Z n0 y code maxL ret T h cells slots) {g : JFrame} {v : Option Value} (hv : ret = none → v = none) (hk : cells ≤ k) (hn : slots ≤ n) (hq : Q v h)
    (st : ∀ (locs : List Loc) (fs : List Frame), p.tables.exec = Jvm.exec → c.code = code → meth.sig.returnType = ret → Stand p l e R s m args below meth c T locs cells slots → (∀ (f : JFrame) (acts : List Action), f.method = m → f.locked = none → f.entered = [] → (doReturn e (T.setTop f) acts v).1 = T.setFrames fs) → Steps p.tables e below (T.setTop g) (T.setFrames fs)) : WP p e below s n0 k n Q T g := by
  obtain ⟨⟨hx, hZ, hby, hml, hown, hnm, hret, hlk, h00⟩, hT, locs, X, N⟩ := X
  obtain ⟨fs, hr, hrun, hended, hW, hsame⟩ := X.leave (v := v) (fun q => hv (hret ▸ q)) hlk
  refine ⟨_, _, st locs fs hx hby hret X hr, hrun, hended, _, _, rfl, ⟨?_, N⟩, ⟨_, rfl⟩, hW, hsame.mono hk hn⟩
  show Q v T.heap
  rw [hT]; exact hq
theorem w_retI (X : St p l e R s m args below meth c Z n0 y code maxL ret T h cells slots) {z : Int32} (hr : ret = some .int) (hd : decode code pc = .ok (.ireturn, 1)) (hk : cells ≤ k) (hn : slots ≤ n) (hq : Q (some (.int z)) h) : WP p e below s n0 k n Q T (mkF m pc Ls (.int z :: S)) :=
  w_end X (v := some (.int z)) (fun q => by rw [hr] at q; cases q) hk hn hq fun locs fs hx hby hret X hl => retOut X hx (hret.trans hr) rfl (Or.inl ⟨rfl, Or.inl rfl, z, rfl⟩) (hb hby hd) hl
theorem w_retJ (X : St p l e R s m args below meth c Z n0 y code maxL ret T h cells slots) {z : Int64} (hr : ret = some .long) (hd : decode code pc = .ok (.lreturn, 1)) (hk : cells ≤ k) (hn : slots ≤ n) (hq : Q (some (.long z)) h) : WP p e below s n0 k n Q T (mkF m pc Ls (.long z :: S)) :=
  w_end X (v := some (.long z)) (fun q => by rw [hr] at q; cases q) hk hn hq fun locs fs hx hby hret X hl => retOut X hx (hret.trans hr) rfl (Or.inr (Or.inl ⟨rfl, rfl, z, rfl⟩)) (hb hby hd) hl
theorem w_retA (X : St p l e R s m args below meth c Z n0 y code maxL ret T h cells slots) {a : Addr} {t : FieldType} (hr : ret = some t) (ht : t.isReference = true) (hnn : narrow t (.ref a) = .ref a) (hd : decode code pc = .ok (.areturn, 1)) (hk : cells ≤ k) (hn : slots ≤ n) (hq : Q (some (.ref a)) h) : WP p e below s n0 k n Q T (mkF m pc Ls (.ref a :: S)) :=
  w_end X (v := some (.ref a)) (fun q => by rw [hr] at q; cases q) hk hn hq fun locs fs hx hby hret X hl => retOut X hx (hret.trans hr) hnn (Or.inr (Or.inr (Or.inr (Or.inr ⟨rfl, ht, rfl⟩)))) (hb hby hd) hl
theorem w_retN (X : St p l e R s m args below meth c Z n0 y code maxL ret T h cells slots) {z z' : Int32} {t : FieldType} (hr : ret = some t) (ht : t = .boolean ∨ t = .byte ∨ t = .char ∨ t = .short) (hd : decode code pc = .ok (.ireturn, 1)) (hz : nar t z = z') (hk : cells ≤ k) (hn : slots ≤ n) (hq : Q (some (.int z')) h) : WP p e below s n0 k n Q T (mkF m pc Ls (.int z :: S)) :=
  w_end X (v := some (.int z')) (fun q => by rw [hr] at q; cases q) hk hn hq fun locs fs hx hby hret X hl => retN X hx (hret.trans hr) ht (hb hby hd) (by rw [hz]; exact hl)
theorem w_retZ (X : St p l e R s m args below meth c Z n0 y code maxL ret T h cells slots) {z : Int32} (hr : ret = some .boolean) (hd : decode code pc = .ok (.ireturn, 1)) (hz : z &&& 1 = z) (hk : cells ≤ k) (hn : slots ≤ n) (hq : Q (some (.int z)) h) : WP p e below s n0 k n Q T (mkF m pc Ls (.int z :: S)) :=
  w_retN X hr (Or.inl rfl) hd hz hk hn hq
theorem w_retV (X : St p l e R s m args below meth c Z n0 y code maxL ret T h cells slots) (hr : ret = none) (hd : decode code pc = .ok (.return_, 1)) (hk : cells ≤ k) (hn : slots ≤ n) (hq : Q none h) : WP p e below s n0 k n Q T (mkF m pc Ls []) :=
  w_end X (v := none) (fun _ => rfl) hk hn hq fun locs fs hx hby hret X hl => X.returnOut hx (hret.trans hr) (hb hby hd) hl
theorem St.of_back (X : St p l e R s m args below meth c Z n0 y code maxL ret T h cells slots) {locs : List Loc} (N : Fr n0 locs) {T' : State} {L' : List Loc} {cells' slots' : Nat} (X' : Stand p l e R s m args below meth c T' (locs ++ L') cells' slots') (N' : Fr n0 L') : St p l e R s m args below meth c Z n0 y code maxL ret T' T'.heap cells' slots' :=
  ⟨X.1, rfl, _, X', N.app N'⟩
theorem w_callS (X : St p l e R s m args below meth c Z n0 y code maxL ret T h cells slots) {z : MethodName} {idx : Nat} {code' : ByteArray} {maxL' : Nat} {ret' : Option FieldType} {rm : Room} (argsL rest : List Value) {Q' : Option Value → Heap → Prop} {ps : List FieldType} {r : Option FieldType} (W : Nat)
    (wl : (Jvm.Cond.methodLink y.cls idx z).before a0 Z = true) (wt : (Jvm.Cond.static z).before a0 Z = true) (wi : (Jvm.Cond.initialized z.cls).before a0 Z = true) (wc : (Jvm.Cond.code z code' maxL' ret').before a0 Z = true)
    (ct : Ct l Z z code' maxL' ret' rm argsL.toArray h n0 Q') (hd : decode code pc = .ok (.invokestatic idx, 3)) (pd : parseMethodDescriptor z.desc = some ⟨ps, r⟩) (hlen : argsL.length = ps.length) (hy : z.cls ≠ "java/lang/invoke/MethodHandle" ∧ z.cls ≠ "java/lang/invoke/VarHandle")
    (hsz : Ls.size = maxL) (hS : S = argsL.reverse ++ rest) (hW : (rest.map fun v => v.category).sum = W) (hfr : rm.frames + 1 ≤ R.frames) (hlo : W + (maxL' + 11) + rm.locals ≤ R.locals) (hc : cells + rm.cells ≤ R.cells) (hs : slots + rm.slots ≤ R.slots) (hp : pc' = pc + 3)
    (w : ∀ T' h' v, St p l e R s m args below meth c Z n0 y code maxL ret T' h' (cells + rm.cells) (slots + rm.slots) → Q' v h' → WP p e below s n0 k n Q T' (mkF m pc' Ls (v.toList ++ rest))) : WP p e below s n0 k n Q T (mkF m pc Ls S) := by
  have X1 := X
  obtain ⟨⟨hx, hZ, hby, hml, hown, hnm, hret, hlk, h00⟩, hT, locs, X, N⟩ := X
  subst hp hS
  obtain ⟨v, _, ⟨T', L', k', n'⟩, -, X', ⟨Lc, hQ, l1, y1, z1⟩, st⟩ := Jvm.LawKit.callS X hx (y := z) hown (mvT hZ wl) (mvT hZ wt) (mvT hZ wi) (mvT hZ wc) hy (backOf (W := W) (Q := fun v h L => Q' v h ∧ Fr n0 L) (ct []) hZ wc wi hfr hlo) (g := mkF m pc Ls (argsL.reverse ++ rest)) rfl (hsz.trans hml.symm) (argsL := argsL) (rest := rest) (lenOf pd hlen) rfl (by show 2 * 0 + _ ≤ _; omega) (hb hby hd) (fun _ _ => ⟨rfl, hT, hc, hs⟩)
  dsimp only [Pt.U, Pt.locs, Pt.cells, Pt.slots] at X' l1 y1 z1 st hQ
  subst l1 y1 z1
  exact (w T' T'.heap v (X1.of_back N X' hQ.2) hQ.1).step fun t kk => st t kk
theorem w_callV (X : St p l e R s m args below meth c Z n0 y code maxL ret T h cells slots) {z : MethodName} {C : String} {idx : Nat} {code' : ByteArray} {maxL' : Nat} {ret' : Option FieldType} {rm : Room} {a : Addr} (argsL rest : List Value) {Q' : Option Value → Heap → Prop} {ps : List FieldType} {r : Option FieldType} (W : Nat)
    (wl : (Jvm.Cond.methodLink y.cls idx z).before a0 Z = true) (wdc : (Jvm.Cond.declares z).before a0 Z = true) (wsel : (Jvm.Cond.selects C z z).before a0 Z = true) (wt : (Jvm.Cond.instanceMethod z).before a0 Z = true) (wi : (Jvm.Cond.initialized z.cls).before a0 Z = true) (wc : (Jvm.Cond.code z code' maxL' ret').before a0 Z = true)
    (E : Exa Z h a C) (ct : Ct l Z z code' maxL' ret' rm (.ref a :: argsL).toArray h n0 Q') (hd : decode code pc = .ok (.invokevirtual idx, 3)) (pd : parseMethodDescriptor z.desc = some ⟨ps, r⟩) (hlen : argsL.length = ps.length) (hy : z.cls ≠ "java/lang/invoke/MethodHandle" ∧ z.cls ≠ "java/lang/invoke/VarHandle")
    (hsz : Ls.size = maxL) (hS : S = argsL.reverse ++ .ref a :: rest) (hW : (rest.map fun v => v.category).sum = W) (hfr : rm.frames + 1 ≤ R.frames) (hlo : W + (maxL' + 11) + rm.locals ≤ R.locals) (hc : cells + rm.cells ≤ R.cells) (hs : slots + rm.slots ≤ R.slots) (hp : pc' = pc + 3)
    (w : ∀ T' h' v, St p l e R s m args below meth c Z n0 y code maxL ret T' h' (cells + rm.cells) (slots + rm.slots) → Q' v h' → WP p e below s n0 k n Q T' (mkF m pc' Ls (v.toList ++ rest))) : WP p e below s n0 k n Q T (mkF m pc Ls S) := by
  have X1 := X
  obtain ⟨⟨hx, hZ, hby, hml, hown, hnm, hret, hlk, h00⟩, hT, locs, X, N⟩ := X
  subst hp hS
  obtain ⟨cq, kq, qa, qb, qc⟩ := isOf hZ hT E
  obtain ⟨v, _, ⟨T', L', k', n'⟩, -, X', ⟨Lc, hQ, l1, y1, z1⟩, st⟩ := X.virtualBack hx (y := z) (z := z) hown (mvT hZ wl) (mvT hZ wdc) (notFace_of_selects (args := #[]) (mvT hZ wsel)) (mvT hZ wsel) (mvT hZ wt) hy (backOf (W := W) (Q := fun v h L => Q' v h ∧ Fr n0 L) (ct []) hZ wc wi hfr hlo) qa qc (g := mkF m pc Ls (argsL.reverse ++ .ref a :: rest)) rfl (hsz.trans hml.symm) (Steps.refl _) (argsL := argsL) (rest := rest) (lenOf pd hlen) rfl (by show 2 * 0 + _ ≤ _; omega) (hb hby hd) (fun _ _ => ⟨rfl, hT, hc, hs⟩)
  dsimp only [Pt.U, Pt.locs, Pt.cells, Pt.slots] at X' l1 y1 z1 st hQ
  subst l1 y1 z1
  exact (w T' T'.heap v (X1.of_back N X' hQ.2) hQ.1).trans st
theorem w_callC (X : St p l e R s m args below meth c Z n0 y code maxL ret T h cells slots) {z : MethodName} {idx : Nat} {code' : ByteArray} {maxL' : Nat} {rm : Room} {a : Addr} (argsL rest : List Value) {Q' : Option Value → Heap → Prop} {ps : List FieldType} {r : Option FieldType} (W : Nat)
    (hi : z.name = "<init>") (wl : (Jvm.Cond.methodLink y.cls idx z).before a0 Z = true) (wt : (Jvm.Cond.instanceMethod z).before a0 Z = true) (wi : (Jvm.Cond.initialized z.cls).before a0 Z = true) (wc : (Jvm.Cond.code z code' maxL' none).before a0 Z = true)
    (ct : Ct l Z z code' maxL' none rm (.ref a :: argsL).toArray h n0 Q') (hd : decode code pc = .ok (.invokespecial idx, 3)) (pd : parseMethodDescriptor z.desc = some ⟨ps, r⟩) (hlen : argsL.length = ps.length) (hy : z.cls ≠ "java/lang/invoke/MethodHandle" ∧ z.cls ≠ "java/lang/invoke/VarHandle")
    (hsz : Ls.size = maxL) (hS : S = argsL.reverse ++ .ref a :: rest) (hW : (rest.map fun v => v.category).sum = W) (hfr : rm.frames + 1 ≤ R.frames) (hlo : W + (maxL' + 11) + rm.locals ≤ R.locals) (hc : cells + rm.cells ≤ R.cells) (hs : slots + rm.slots ≤ R.slots) (hp : pc' = pc + 3)
    (w : ∀ T' h' v, St p l e R s m args below meth c Z n0 y code maxL ret T' h' (cells + rm.cells) (slots + rm.slots) → Q' v h' → WP p e below s n0 k n Q T' (mkF m pc' Ls (v.toList ++ rest))) : WP p e below s n0 k n Q T (mkF m pc Ls S) := by
  have X1 := X
  obtain ⟨⟨hx, hZ, hby, hml, hown, hnm, hret, hlk, h00⟩, hT, locs, X, N⟩ := X
  subst hp hS
  obtain ⟨v, _, ⟨T', L', k', n'⟩, -, X', ⟨Lc, hQ, l1, y1, z1⟩, st⟩ := X.specialBack hx (y := z) hi hown (mvT hZ wl) (mvT hZ wt) (mvT hZ wc) hy (backOf (W := W) (Q := fun v h L => Q' v h ∧ Fr n0 L) (ct []) hZ wc wi hfr hlo) (g := mkF m pc Ls (argsL.reverse ++ .ref a :: rest)) rfl (hsz.trans hml.symm) (Steps.refl _) (a := a) (argsL := argsL) (rest := rest) (lenOf pd hlen) rfl (by show 2 * 0 + _ ≤ _; omega) (hb hby hd) (fun _ _ => ⟨rfl, hT, hc, hs⟩)
  dsimp only [Pt.U, Pt.locs, Pt.cells, Pt.slots] at X' l1 y1 z1 st hQ
  subst l1 y1 z1
  exact (w T' T'.heap v (X1.of_back N X' hQ.2) hQ.1).trans st
theorem w_callP (X : St p l e R s m args below meth c Z n0 y code maxL ret T h cells slots) {z z0 : MethodName} {idx : Nat} {code' : ByteArray} {maxL' : Nat} {ret' : Option FieldType} {rm : Room} {a : Addr} (argsL rest : List Value) {Q' : Option Value → Heap → Prop} {ps : List FieldType} {r : Option FieldType} (W : Nat)
    (wl : (Jvm.Cond.methodLink y.cls idx z).before a0 Z = true) (wt : (Jvm.Cond.instanceMethod z).before a0 Z = true) (wp : (Jvm.Cond.privateMethod z).before a0 Z = true) (wsel : (Jvm.Cond.selects z0.cls z0 z0).before a0 Z = true) (h0 : z0.cls = z.cls) (wi : (Jvm.Cond.initialized z.cls).before a0 Z = true) (wc : (Jvm.Cond.code z code' maxL' ret').before a0 Z = true)
    (E : Exa Z h a z.cls) (ct : Ct l Z z code' maxL' ret' rm (.ref a :: argsL).toArray h n0 Q') (hd : decode code pc = .ok (.invokevirtual idx, 3)) (pd : parseMethodDescriptor z.desc = some ⟨ps, r⟩) (hlen : argsL.length = ps.length) (hy : z.cls ≠ "java/lang/invoke/MethodHandle" ∧ z.cls ≠ "java/lang/invoke/VarHandle")
    (hsz : Ls.size = maxL) (hS : S = argsL.reverse ++ .ref a :: rest) (hW : (rest.map fun v => v.category).sum = W) (hfr : rm.frames + 1 ≤ R.frames) (hlo : W + (maxL' + 11) + rm.locals ≤ R.locals) (hc : cells + rm.cells ≤ R.cells) (hs : slots + rm.slots ≤ R.slots) (hp : pc' = pc + 3)
    (w : ∀ T' h' v, St p l e R s m args below meth c Z n0 y code maxL ret T' h' (cells + rm.cells) (slots + rm.slots) → Q' v h' → WP p e below s n0 k n Q T' (mkF m pc' Ls (v.toList ++ rest))) : WP p e below s n0 k n Q T (mkF m pc Ls S) := by
  have X1 := X
  obtain ⟨⟨hx, hZ, hby, hml, hown, hnm, hret, hlk, h00⟩, hT, locs, X, N⟩ := X
  subst hp hS
  obtain ⟨cq, q, q'⟩ := E.cell
  obtain ⟨c2, r2, m2, e1, e2, e3, e4, kP, hkP, hkPi⟩ := Cond.selects_spec (mvT (args := args) hZ wsel)
  have e5 : s.vm.findClass z.cls = some m2.cls := h0 ▸ findClass_of_methodNamed e3
  have hpr : s.PrivateAt z := Cond.privateMethod_at (mvP hZ wp (args := args))
  have hsel : (Jvm.Cond.selects z.cls z z).before args s = true := selects_self_of_private e5 hkP hkPi hpr (mvT hZ wt) hy
  obtain ⟨v, _, ⟨T', L', k', n'⟩, -, X', ⟨Lc, hQ, l1, y1, z1⟩, st⟩ := X.privateBack hx (y := z) hown (mvT hZ wl) (mvT hZ wt) hsel hpr (mvT hZ wc) hy (backOf (W := W) (Q := fun v h L => Q' v h ∧ Fr n0 L) (ct []) hZ wc wi hfr hlo) (g := mkF m pc Ls (argsL.reverse ++ .ref a :: rest)) rfl (hsz.trans hml.symm) (Steps.refl _) (a := a) (by rw [hT]; exact q) q' (argsL := argsL) (rest := rest) (lenOf pd hlen) rfl (by show 2 * 0 + _ ≤ _; omega) (hb hby hd) (fun _ _ => ⟨rfl, hT, hc, hs⟩)
  dsimp only [Pt.U, Pt.locs, Pt.cells, Pt.slots] at X' l1 y1 z1 st hQ
  subst l1 y1 z1
  exact (w T' T'.heap v (X1.of_back N X' hQ.2) hQ.1).trans st
theorem w_initO (X : St p l e R s m args below meth c Z n0 y code maxL ret T h cells slots) {idx : Nat} {a : Addr} {W : Nat} (w1 : (Jvm.Cond.methodLink y.cls idx Lib.objectInit).before a0 Z = true) (w2 : (Jvm.Cond.instanceMethod Lib.objectInit).before a0 Z = true) (w3 : (Jvm.Cond.code Lib.objectInit ⟨#[0xb1]⟩ 1 none).before a0 Z = true)
    (hd : decode code pc = .ok (.invokespecial idx, 3)) (hsz : Ls.size = maxL) (hf : 1 ≤ R.frames) (hW : (S.map fun v => v.category).sum = W) (hl : W + 12 ≤ R.locals) (hp : pc' = pc + 3)
    (w : ∀ T', St p l e R s m args below meth c Z n0 y code maxL ret T' h cells slots → WP p e below s n0 k n Q T' (mkF m pc' Ls S)) : WP p e below s n0 k n Q T (mkF m pc Ls (.ref a :: S)) := by
  have X1 := X
  obtain ⟨⟨hx, hZ, hby, hml, hown, hnm, hret, hlk, h00⟩, hT, locs, X, N⟩ := X
  subst hp
  obtain ⟨T', X', e', st⟩ := initO X hx hZ hown w1 w2 w3 hT (g := mkF m pc Ls (.ref a :: S)) rfl (hsz.trans hml.symm) rfl (hb hby hd) hf (W := W) (by show 2 * 0 + _ ≤ _; omega) hl
  exact (w T' ⟨X1.1, e', locs, X', N⟩).step st
theorem w_getF (X : St p l e R s m args below meth c Z n0 y code maxL ret T h cells slots) {idx : Nat} {O nm d : String} {a : Addr} {v : Value} (wl : (Jvm.Cond.fieldLink y.cls idx O nm d).before a0 Z = true) (F : Fld Z h a O nm d v) (hd : decode code pc = .ok (.getfield idx, 3)) (hp : pc' = pc + 3)
    (w : ∀ T', St p l e R s m args below meth c Z n0 y code maxL ret T' h cells slots → WP p e below s n0 k n Q T' (mkF m pc' Ls (v :: S))) : WP p e below s n0 k n Q T (mkF m pc Ls (.ref a :: S)) := by
  have X1 := X
  obtain ⟨⟨hx, hZ, hby, hml, hown, hnm, hret, hlk, h00⟩, hT, locs, X, N⟩ := X
  subst hp
  obtain ⟨T', X', e', st⟩ := getF X hx hZ hown (host := "") (Or.inl wl) Via.refl hT F (g := mkF m pc Ls (.ref a :: S)) rfl rfl (hb hby hd)
  exact (w T' ⟨X1.1, e', locs, X', N⟩).step st
theorem w_putF (X : St p l e R s m args below meth c Z n0 y code maxL ret T h cells slots) {idx kk : Nat} {O nm d C : String} {ty : FieldType} {a : Addr} {v v' old : Value} (wl : (Jvm.Cond.fieldLink y.cls idx O nm d).before a0 Z = true) (F : Fld Z h a O nm d old) (E : Exa Z h a C) (L : (Jvm.Cond.lays C O nm d).before a0 Z = true ∨ ((Jvm.Cond.laysFinal C O nm d).before a0 Z = true ∧ y.cls = O ∧ y.name = "<init>")) (wi : (Jvm.Cond.instantiable C kk).before a0 Z = true) (ga : n0 ≤ a)
    (hd : decode code pc = .ok (.putfield idx, 3)) (hty : parseFieldDescriptor d = some ty) (hv : narrow ty v = v') (hf : fits ty v' = true) (hp : pc' = pc + 3)
    (w : ∀ T' h', St p l e R s m args below meth c Z n0 y code maxL ret T' h' cells slots → Wr h h' a (Jvm.RoadKit.slotOf Z O nm d) v' → WP p e below s n0 k n Q T' (mkF m pc' Ls S)) : WP p e below s n0 k n Q T (mkF m pc Ls (v :: .ref a :: S)) := by
  have X1 := X
  obtain ⟨⟨hx, hZ, hby, hml, hown, hnm, hret, hlk, h00⟩, hT, locs, X, N⟩ := X
  subst hp
  obtain ⟨T', h', X', e', W', st⟩ := putFN X hx hZ hown wl Via.refl hT F E (L.imp id fun q => ⟨q.1, q.2.1, hnm.trans q.2.2⟩) wi hty hv hf (g := mkF m pc Ls (v :: .ref a :: S)) rfl rfl (hb hby hd)
  exact (w T' h' ⟨X1.1, e', _, X', Fr.snoc X' N ga⟩ W').step st
theorem w_new (X : St p l e R s m args below meth c Z n0 y code maxL ret T h cells slots) {idx nn : Nat} {C : String} (wl : (Jvm.Cond.classLink y.cls idx C).before a0 Z = true) (wi : (Jvm.Cond.instantiable C nn).before a0 Z = true) (wz : (Jvm.Cond.initialized C).before a0 Z = true) (hd : decode code pc = .ok (.new idx, 3)) (hc : cells + 1 ≤ R.cells) (hl : slots + nn ≤ R.slots) (hp : pc' = pc + 3)
    (w : ∀ T' h' a, St p l e R s m args below meth c Z n0 y code maxL ret T' h' (cells + 1) (slots + nn) → a = h.size → n0 ≤ a → Ext h h' → Exa Z h' a C → (∀ {O f d : String} {ty : FieldType}, Laid Z a0 C O f d → parseFieldDescriptor d = some ty → Fld Z h' a O f d (defaultValue ty)) → WP p e below s n0 k n Q T' (mkF m pc' Ls (.ref a :: S))) : WP p e below s n0 k n Q T (mkF m pc Ls S) := by
  have X1 := X
  obtain ⟨⟨hx, hZ, hby, hml, hown, hnm, hret, hlk, h00⟩, hT, locs, X, N⟩ := X
  subst hp
  obtain ⟨T', h', X', e', E', A', D', -, st⟩ := newO X hx hZ hown wl wi wz hT (g := mkF m pc Ls S) rfl (hb hby hd) hc hl
  exact (w T' h' h.size ⟨X1.1, e', _, X', N⟩ rfl X1.n0le E' A' D').step st
theorem w_newarray (X : St p l e R s m args below meth c Z n0 y code maxL ret T h cells slots) {aty : ArrayType} {sz : Int32} (cap : Nat) (wa : (Jvm.Cond.arrayClass (newarray.typeOf aty)).before a0 Z = true) (hd : decode code pc = .ok (.newarray aty, 2)) (hz : ¬ sz < 0) (hcap : sz.toNatClampNeg ≤ cap) (hbig : cap * 8 ≤ 536870912) (hc : cells + 1 ≤ R.cells) (hl : slots + cap ≤ R.slots) (hp : pc' = pc + 2)
    (w : ∀ T' h' a cA, St p l e R s m args below meth c Z n0 y code maxL ret T' h' (cells + 1) (slots + cap) → a = h.size → n0 ≤ a → Ext h h' → Arr Z h' a (newA cA (newarray.typeOf aty) sz) (newarray.typeOf aty) → WP p e below s n0 k n Q T' (mkF m pc' Ls (.ref a :: S))) : WP p e below s n0 k n Q T (mkF m pc Ls (.int sz :: S)) := by
  have X1 := X
  obtain ⟨⟨hx, hZ, hby, hml, hown, hnm, hret, hlk, h00⟩, hT, locs, X, N⟩ := X
  subst hp
  obtain ⟨T', h', cA, X', e', E', A', st⟩ := newP X hx hZ wa hT (g := mkF m pc Ls (.int sz :: S)) rfl (hb hby hd) rfl hz hcap hbig hc hl
  exact (w T' h' h.size cA ⟨X1.1, e', _, X', N⟩ rfl X1.n0le E' A').step st
/-- the array at a: its kind, its length, what stands at each place -/
def AV (Z : State) (h : Heap) (a : Addr) (ty : FieldType) (n : Nat) (f : Nat → Value) : Prop := ∃ c : Cell, Arr Z h a c ty ∧ c.slots.size = n ∧ n < 2 ^ 31 ∧ ∀ i, i < n → c.slots[i]? = some (f i)
theorem AV.ext {a : Addr} {ty : FieldType} {n : Nat} {f : Nat → Value} {h' : Heap} (A : AV Z h a ty n f) (E : Ext h h') : AV Z h' a ty n f := by
  obtain ⟨c, A, r⟩ := A; exact ⟨c, A.ext E, r⟩
theorem AV.keep {a : Addr} {ty : FieldType} {n : Nat} {f : Nat → Value} {h' : Heap} {ws : List Addr} (A : AV Z h a ty n f) (K : Keep h h' ws) (q : a ∉ ws) : AV Z h' a ty n f := by
  obtain ⟨c, A, r⟩ := A; exact ⟨c, ⟨K.2.1 a c A.1 q, A.2⟩, r⟩
theorem AV.lt {a : Addr} {ty : FieldType} {n : Nat} {f : Nat → Value} (A : AV Z h a ty n f) : a < h.size := by
  obtain ⟨c, A, r⟩ := A; exact A.lt
theorem AV.len {a : Addr} {ty : FieldType} {n : Nat} {f : Nat → Value} (A : AV Z h a ty n f) : n < 2 ^ 31 := by
  obtain ⟨c, A, r⟩ := A; exact r.2.1
theorem AV.congr {a : Addr} {ty : FieldType} {n : Nat} {f g : Nat → Value} (A : AV Z h a ty n f) (q : ∀ i, i < n → f i = g i) : AV Z h a ty n g := by
  obtain ⟨c, A, r1, r2, r3⟩ := A; exact ⟨c, A, r1, r2, fun i hi => by rw [← q i hi]; exact r3 i hi⟩
theorem AV.new {a : Addr} {ty : FieldType} {sz : Int32} {cA : ClassId} {n : Nat} (A : Arr Z h a (newA cA ty sz) ty) (hn : sz.toInt = n) : AV Z h a ty n (fun _ => defaultValue ty) := by
  have q1 : sz.toNatClampNeg = n := by simp only [Int32.toNatClampNeg, hn]; omega
  have q2 := Int32.toInt_lt sz
  refine ⟨_, A, by rw [sz_new, q1], by omega, fun i hi => ?_⟩
  simp [newA, q1, hi]
theorem nat_at {j : Int32} {i : Nat} (hi : j.toInt = i) : j.toNatClampNeg = i := by simp only [Int32.toNatClampNeg, hi]; omega
theorem in_at {j : Int32} {i sz n : Nat} (hi : j.toInt = i) (hz : sz = n) (hlt : i < n) : ¬ (j < 0 ∨ sz ≤ j.toNatClampNeg) := by
  rw [nat_at hi, Int32.lt_iff_toInt_lt, hi]; simp only [Int32.reduceToInt]; omega
theorem AV.set {a : Addr} {ty : FieldType} {n i : Nat} {f : Nat → Value} {h' : Heap} {v : Value} (A : AV Z h a ty n f) (W : Wr h h' a i v) : AV Z h' a ty n (fun q => if q = i then v else f q) := by
  obtain ⟨c, A, r1, r2, r3⟩ := A
  obtain ⟨cell, w1, w2, w3, w4⟩ := id W
  have e1 : cell = c := by have := w1.symm.trans A.1; exact Option.some.inj this
  subst e1
  refine ⟨_, A.same W, by rw [sz_set]; exact r1, r2, fun q hq => ?_⟩
  by_cases e : q = i
  · subst e; simp [Cell.setSlot, w3]
  · have e' : ¬ i = q := fun u => e u.symm
    simp only [e, if_false, Cell.setSlot]
    rw [Array.getElem?_setIfInBounds_ne e']; exact r3 q hq
abbrev AI (Z : State) (h : Heap) (a : Addr) (ty : FieldType) (n : Nat) (g : Nat → Int32) : Prop := AV Z h a ty n (fun q => .int (g q))
abbrev AJ (Z : State) (h : Heap) (a : Addr) (n : Nat) (g : Nat → Int64) : Prop := AV Z h a .long n (fun q => .long (g q))
theorem AI.new {a : Addr} {ty : FieldType} {sz : Int32} {cA : ClassId} {n : Nat} (A : Arr Z h a (newA cA ty sz) ty) (hn : sz.toInt = n) (hd : defaultValue ty = .int 0) : AI Z h a ty n (fun _ => 0) := by
  have q := AV.new A hn; rw [hd] at q; exact q
theorem AJ.new {a : Addr} {sz : Int32} {cA : ClassId} {n : Nat} (A : Arr Z h a (newA cA .long sz) .long) (hn : sz.toInt = n) : AJ Z h a n (fun _ => 0) := AV.new A hn
theorem AI.set {a : Addr} {ty : FieldType} {n i : Nat} {g : Nat → Int32} {h' : Heap} {x : Int32} (A : AI Z h a ty n g) (W : Wr h h' a i (.int x)) : AI Z h' a ty n (fun q => if q = i then x else g q) :=
  (AV.set A W).congr fun q _ => by by_cases e : q = i <;> simp [e]
theorem AJ.set {a : Addr} {n i : Nat} {g : Nat → Int64} {h' : Heap} {x : Int64} (A : AJ Z h a n g) (W : Wr h h' a i (.long x)) : AJ Z h' a n (fun q => if q = i then x else g q) :=
  (AV.set A W).congr fun q _ => by by_cases e : q = i <;> simp [e]
theorem AI.congr {a : Addr} {ty : FieldType} {n : Nat} {f g : Nat → Int32} (A : AI Z h a ty n f) (q : ∀ i, i < n → f i = g i) : AI Z h a ty n g := AV.congr A fun i hi => by rw [q i hi]
theorem AJ.congr {a : Addr} {n : Nat} {f g : Nat → Int64} (A : AJ Z h a n f) (q : ∀ i, i < n → f i = g i) : AJ Z h a n g := AV.congr A fun i hi => by rw [q i hi]
theorem w_iaload (X : St p l e R s m args below meth c Z n0 y code maxL ret T h cells slots) {a : Addr} {N : Nat} {g : Nat → Int32} {j : Int32} {i : Nat} {v : Int32} (A : AI Z h a .int N g) (hd : decode code pc = .ok (.iaload, 1)) (hi : j.toInt = i) (hlt : i < N) (hv : g i = v) (hp : pc' = pc + 1) (w : WP p e below s n0 k n Q T (mkF m pc' Ls (.int v :: S))) : WP p e below s n0 k n Q T (mkF m pc Ls (.int j :: .ref a :: S)) := by
  obtain ⟨⟨hx, hZ, hby, hml, hown, hnm, hret, hlk, h00⟩, hT, locs, X, N⟩ := X
  subst hp hv
  obtain ⟨cl, A, r1, r2, r3⟩ := A
  exact w.step fun t kk => X.iaload hx (j := j) (v := .int (g i)) (by rw [hT]; exact A.1) (State.isArrayOf_alike hZ.alike A.2.1) A.2.2 (in_at hi r1 hlt) (by rw [nat_at hi]; exact r3 i hlt) (g := mkF m pc Ls (.int j :: .ref a :: S)) rfl rfl (hb hby hd) t kk
theorem w_laload (X : St p l e R s m args below meth c Z n0 y code maxL ret T h cells slots) {a : Addr} {N : Nat} {g : Nat → Int64} {j : Int32} {i : Nat} {v : Int64} (A : AJ Z h a N g) (hd : decode code pc = .ok (.laload, 1)) (hi : j.toInt = i) (hlt : i < N) (hv : g i = v) (hp : pc' = pc + 1) (w : WP p e below s n0 k n Q T (mkF m pc' Ls (.long v :: S))) : WP p e below s n0 k n Q T (mkF m pc Ls (.int j :: .ref a :: S)) := by
  obtain ⟨⟨hx, hZ, hby, hml, hown, hnm, hret, hlk, h00⟩, hT, locs, X, N⟩ := X
  subst hp hv
  obtain ⟨cl, A, r1, r2, r3⟩ := A
  exact w.step fun t kk => X.laload hx (j := j) (v := .long (g i)) (by rw [hT]; exact A.1) (State.isArrayOf_alike hZ.alike A.2.1) A.2.2 (in_at hi r1 hlt) (by rw [nat_at hi]; exact r3 i hlt) (g := mkF m pc Ls (.int j :: .ref a :: S)) rfl rfl (hb hby hd) t kk
theorem w_caload (X : St p l e R s m args below meth c Z n0 y code maxL ret T h cells slots) {a : Addr} {N : Nat} {g : Nat → Int32} {j : Int32} {i : Nat} {v : Int32} (A : AI Z h a .char N g) (hd : decode code pc = .ok (.caload, 1)) (hi : j.toInt = i) (hlt : i < N) (hv : g i = v) (hp : pc' = pc + 1) (w : WP p e below s n0 k n Q T (mkF m pc' Ls (.int v :: S))) : WP p e below s n0 k n Q T (mkF m pc Ls (.int j :: .ref a :: S)) := by
  obtain ⟨⟨hx, hZ, hby, hml, hown, hnm, hret, hlk, h00⟩, hT, locs, X, N⟩ := X
  subst hp hv
  obtain ⟨cl, A, r1, r2, r3⟩ := A
  exact w.step fun t kk => X.caload hx (j := j) (v := .int (g i)) (by rw [hT]; exact A.1) (State.isArrayOf_alike hZ.alike A.2.1) A.2.2 (in_at hi r1 hlt) (by rw [nat_at hi]; exact r3 i hlt) (g := mkF m pc Ls (.int j :: .ref a :: S)) rfl rfl (hb hby hd) t kk
theorem w_baload (X : St p l e R s m args below meth c Z n0 y code maxL ret T h cells slots) {a : Addr} {N : Nat} {g : Nat → Int32} {j : Int32} {i : Nat} {v : Int32} (A : AI Z h a .byte N g) (hd : decode code pc = .ok (.baload, 1)) (hi : j.toInt = i) (hlt : i < N) (hv : g i = v) (hp : pc' = pc + 1) (w : WP p e below s n0 k n Q T (mkF m pc' Ls (.int v :: S))) : WP p e below s n0 k n Q T (mkF m pc Ls (.int j :: .ref a :: S)) := by
  obtain ⟨⟨hx, hZ, hby, hml, hown, hnm, hret, hlk, h00⟩, hT, locs, X, N⟩ := X
  subst hp hv
  obtain ⟨cl, A, r1, r2, r3⟩ := A
  exact w.step fun t kk => X.baloadBytes hx (j := j) (v := .int (g i)) (by rw [hT]; exact A.1) (State.isArrayOf_alike hZ.alike A.2.1) A.2.2 (in_at hi r1 hlt) (by rw [nat_at hi]; exact r3 i hlt) (g := mkF m pc Ls (.int j :: .ref a :: S)) rfl rfl (hb hby hd) t kk
theorem w_arraylength (X : St p l e R s m args below meth c Z n0 y code maxL ret T h cells slots) {a : Addr} {ty : FieldType} {N : Nat} {f : Nat → Value} {z : Int32} (A : AV Z h a ty N f) (hd : decode code pc = .ok (.arraylength, 1)) (hz : N.toInt32 = z) (hp : pc' = pc + 1) (w : WP p e below s n0 k n Q T (mkF m pc' Ls (.int z :: S))) : WP p e below s n0 k n Q T (mkF m pc Ls (.ref a :: S)) := by
  obtain ⟨⟨hx, hZ, hby, hml, hown, hnm, hret, hlk, h00⟩, hT, locs, X, N⟩ := X
  subst hp hz
  obtain ⟨cl, A, r1, r2, r3⟩ := A
  refine w.step fun t kk => X.arraylength hx (by rw [hT]; exact A.1) (State.isArrayOf_alike hZ.alike A.2.1) (g := mkF m pc Ls (.ref a :: S)) rfl rfl (hb hby hd) t ?_
  rw [r1]; exact kk
theorem w_iastore (X : St p l e R s m args below meth c Z n0 y code maxL ret T h cells slots) {a : Addr} {N : Nat} {g : Nat → Int32} {j : Int32} {i : Nat} {x x' : Int32} (A : AI Z h a .int N g) (ga : n0 ≤ a) (hd : decode code pc = .ok (.iastore, 1)) (hi : j.toInt = i) (hlt : i < N) (hx' : x = x') (hp : pc' = pc + 1) (w : ∀ T' h', St p l e R s m args below meth c Z n0 y code maxL ret T' h' cells slots → Keep h h' [a] → AI Z h' a .int N (fun q => if q = i then x' else g q) → WP p e below s n0 k n Q T' (mkF m pc' Ls S)) : WP p e below s n0 k n Q T (mkF m pc Ls (.int x :: .int j :: .ref a :: S)) := by
  have X1 := X
  have A1 := A
  obtain ⟨⟨hx, hZ, hby, hml, hown, hnm, hret, hlk, h00⟩, hT, locs, X, N⟩ := X
  subst hp hx'
  obtain ⟨cl, A, r1, r2, r3⟩ := A
  obtain ⟨T', h', X', e', W', st⟩ := stI X hx hZ hT A (j := j) (x := x) (in_at hi r1 hlt) (g := mkF m pc Ls (.int x :: .int j :: .ref a :: S)) rfl rfl (hb hby hd)
  have N' := Fr.snoc X' N ga
  rw [nat_at hi] at W'
  exact (w T' h' ⟨X1.1, e', _, X', N'⟩ (Keep.of_wr W') (AI.set A1 W')).step st
theorem w_lastore (X : St p l e R s m args below meth c Z n0 y code maxL ret T h cells slots) {a : Addr} {N : Nat} {g : Nat → Int64} {j : Int32} {i : Nat} {x x' : Int64} (A : AJ Z h a N g) (ga : n0 ≤ a) (hd : decode code pc = .ok (.lastore, 1)) (hi : j.toInt = i) (hlt : i < N) (hx' : x = x') (hp : pc' = pc + 1) (w : ∀ T' h', St p l e R s m args below meth c Z n0 y code maxL ret T' h' cells slots → Keep h h' [a] → AJ Z h' a N (fun q => if q = i then x' else g q) → WP p e below s n0 k n Q T' (mkF m pc' Ls S)) : WP p e below s n0 k n Q T (mkF m pc Ls (.long x :: .int j :: .ref a :: S)) := by
  have X1 := X
  have A1 := A
  obtain ⟨⟨hx, hZ, hby, hml, hown, hnm, hret, hlk, h00⟩, hT, locs, X, N⟩ := X
  subst hp hx'
  obtain ⟨cl, A, r1, r2, r3⟩ := A
  obtain ⟨T', h', X', e', W', st⟩ := stJ X hx hZ hT A (j := j) (x := x) (in_at hi r1 hlt) (g := mkF m pc Ls (.long x :: .int j :: .ref a :: S)) rfl rfl (hb hby hd)
  have N' := Fr.snoc X' N ga
  rw [nat_at hi] at W'
  exact (w T' h' ⟨X1.1, e', _, X', N'⟩ (Keep.of_wr W') (AJ.set A1 W')).step st
theorem w_castore (X : St p l e R s m args below meth c Z n0 y code maxL ret T h cells slots) {a : Addr} {N : Nat} {g : Nat → Int32} {j : Int32} {i : Nat} {x x' : Int32} (A : AI Z h a .char N g) (ga : n0 ≤ a) (hd : decode code pc = .ok (.castore, 1)) (hi : j.toInt = i) (hlt : i < N) (hx' : nar .char x = x') (hp : pc' = pc + 1) (w : ∀ T' h', St p l e R s m args below meth c Z n0 y code maxL ret T' h' cells slots → Keep h h' [a] → AI Z h' a .char N (fun q => if q = i then x' else g q) → WP p e below s n0 k n Q T' (mkF m pc' Ls S)) : WP p e below s n0 k n Q T (mkF m pc Ls (.int x :: .int j :: .ref a :: S)) := by
  have X1 := X
  have A1 := A
  obtain ⟨⟨hx, hZ, hby, hml, hown, hnm, hret, hlk, h00⟩, hT, locs, X, N⟩ := X
  subst hp hx'
  obtain ⟨cl, A, r1, r2, r3⟩ := A
  obtain ⟨T', h', X', e', W', st⟩ := stC X hx hZ hT A (j := j) (x := x) (in_at hi r1 hlt) (g := mkF m pc Ls (.int x :: .int j :: .ref a :: S)) rfl rfl (hb hby hd)
  have N' := Fr.snoc X' N ga
  rw [nat_at hi] at W'
  exact (w T' h' ⟨X1.1, e', _, X', N'⟩ (Keep.of_wr W') (AI.set A1 W')).step st
theorem w_bastore (X : St p l e R s m args below meth c Z n0 y code maxL ret T h cells slots) {a : Addr} {N : Nat} {g : Nat → Int32} {j : Int32} {i : Nat} {x x' : Int32} (A : AI Z h a .byte N g) (ga : n0 ≤ a) (hd : decode code pc = .ok (.bastore, 1)) (hi : j.toInt = i) (hlt : i < N) (hx' : nar .byte x = x') (hp : pc' = pc + 1) (w : ∀ T' h', St p l e R s m args below meth c Z n0 y code maxL ret T' h' cells slots → Keep h h' [a] → AI Z h' a .byte N (fun q => if q = i then x' else g q) → WP p e below s n0 k n Q T' (mkF m pc' Ls S)) : WP p e below s n0 k n Q T (mkF m pc Ls (.int x :: .int j :: .ref a :: S)) := by
  have X1 := X
  have A1 := A
  obtain ⟨⟨hx, hZ, hby, hml, hown, hnm, hret, hlk, h00⟩, hT, locs, X, N⟩ := X
  subst hp hx'
  obtain ⟨cl, A, r1, r2, r3⟩ := A
  obtain ⟨T', h', X', e', W', st⟩ := stB X hx hZ hT A (j := j) (x := x) (in_at hi r1 hlt) (g := mkF m pc Ls (.int x :: .int j :: .ref a :: S)) rfl rfl (hb hby hd)
  have N' := Fr.snoc X' N ga
  rw [nat_at hi] at W'
  exact (w T' h' ⟨X1.1, e', _, X', N'⟩ (Keep.of_wr W') (AI.set A1 W')).step st
end Steps
end Jvm.Own
namespace Jvm.Pilot.@@N@@
open Jvm Jvm.ClassFile Sem Op Lib Jvm.Free Jvm.Stand Jvm.LawKit Jvm.RoadKit Bundle Jvm.Own Jvm.Pilot.@@N@@.Jvm.D
theorem tw0 {a0 : Array Value} {Z : State} (hw : ∀ d ∈ tables_1, d.before a0 Z = true) : (Jvm.Cond.arrayClass Jvm.ClassFile.FieldType.long).before a0 Z = true := hw _ (List.mem_of_getElem? (i := 0) rfl)
theorem tw1 {a0 : Array Value} {Z : State} (hw : ∀ d ∈ tables_1, d.before a0 Z = true) : (Jvm.Cond.constantLong "com/example/varve/varve/column/DigitsOfPinLaw" (7 : Nat) (10 : Int64)).before a0 Z = true := hw _ (List.mem_of_getElem? (i := 1) rfl)
theorem tw2 {a0 : Array Value} {Z : State} (hw : ∀ d ∈ tables_1, d.before a0 Z = true) : (Jvm.Cond.constantLong "com/example/varve/varve/column/DigitsOfPinLaw" (9 : Nat) (100 : Int64)).before a0 Z = true := hw _ (List.mem_of_getElem? (i := 2) rfl)
theorem tw3 {a0 : Array Value} {Z : State} (hw : ∀ d ∈ tables_1, d.before a0 Z = true) : (Jvm.Cond.constantLong "com/example/varve/varve/column/DigitsOfPinLaw" (11 : Nat) (1000 : Int64)).before a0 Z = true := hw _ (List.mem_of_getElem? (i := 3) rfl)
theorem tw4 {a0 : Array Value} {Z : State} (hw : ∀ d ∈ tables_1, d.before a0 Z = true) : (Jvm.Cond.constantLong "com/example/varve/varve/column/DigitsOfPinLaw" (13 : Nat) (10000 : Int64)).before a0 Z = true := hw _ (List.mem_of_getElem? (i := 4) rfl)
theorem tw5 {a0 : Array Value} {Z : State} (hw : ∀ d ∈ tables_1, d.before a0 Z = true) : (Jvm.Cond.constantLong "com/example/varve/varve/column/DigitsOfPinLaw" (15 : Nat) (100000 : Int64)).before a0 Z = true := hw _ (List.mem_of_getElem? (i := 5) rfl)
theorem tw6 {a0 : Array Value} {Z : State} (hw : ∀ d ∈ tables_1, d.before a0 Z = true) : (Jvm.Cond.constantLong "com/example/varve/varve/column/DigitsOfPinLaw" (17 : Nat) (1000000 : Int64)).before a0 Z = true := hw _ (List.mem_of_getElem? (i := 6) rfl)
theorem tw7 {a0 : Array Value} {Z : State} (hw : ∀ d ∈ tables_1, d.before a0 Z = true) : (Jvm.Cond.constantLong "com/example/varve/varve/column/DigitsOfPinLaw" (19 : Nat) (10000000 : Int64)).before a0 Z = true := hw _ (List.mem_of_getElem? (i := 7) rfl)
theorem tw8 {a0 : Array Value} {Z : State} (hw : ∀ d ∈ tables_1, d.before a0 Z = true) : (Jvm.Cond.constantLong "com/example/varve/varve/column/DigitsOfPinLaw" (21 : Nat) (100000000 : Int64)).before a0 Z = true := hw _ (List.mem_of_getElem? (i := 8) rfl)
theorem tw9 {a0 : Array Value} {Z : State} (hw : ∀ d ∈ tables_1, d.before a0 Z = true) : (Jvm.Cond.constantLong "com/example/varve/varve/column/DigitsOfPinLaw" (23 : Nat) (1000000000 : Int64)).before a0 Z = true := hw _ (List.mem_of_getElem? (i := 9) rfl)
theorem tw10 {a0 : Array Value} {Z : State} (hw : ∀ d ∈ tables_1, d.before a0 Z = true) : (Jvm.Cond.constantLong "com/example/varve/varve/column/DigitsOfPinLaw" (25 : Nat) (10000000000 : Int64)).before a0 Z = true := hw _ (List.mem_of_getElem? (i := 10) rfl)
theorem tw11 {a0 : Array Value} {Z : State} (hw : ∀ d ∈ tables_1, d.before a0 Z = true) : (Jvm.Cond.constantLong "com/example/varve/varve/column/DigitsOfPinLaw" (27 : Nat) (100000000000 : Int64)).before a0 Z = true := hw _ (List.mem_of_getElem? (i := 11) rfl)
theorem tw12 {a0 : Array Value} {Z : State} (hw : ∀ d ∈ tables_1, d.before a0 Z = true) : (Jvm.Cond.constantLong "com/example/varve/varve/column/DigitsOfPinLaw" (29 : Nat) (1000000000000 : Int64)).before a0 Z = true := hw _ (List.mem_of_getElem? (i := 12) rfl)
theorem tw13 {a0 : Array Value} {Z : State} (hw : ∀ d ∈ tables_1, d.before a0 Z = true) : (Jvm.Cond.constantLong "com/example/varve/varve/column/DigitsOfPinLaw" (31 : Nat) (10000000000000 : Int64)).before a0 Z = true := hw _ (List.mem_of_getElem? (i := 13) rfl)
theorem tw14 {a0 : Array Value} {Z : State} (hw : ∀ d ∈ tables_1, d.before a0 Z = true) : (Jvm.Cond.constantLong "com/example/varve/varve/column/DigitsOfPinLaw" (33 : Nat) (100000000000000 : Int64)).before a0 Z = true := hw _ (List.mem_of_getElem? (i := 14) rfl)
theorem tw15 {a0 : Array Value} {Z : State} (hw : ∀ d ∈ tables_1, d.before a0 Z = true) : (Jvm.Cond.constantLong "com/example/varve/varve/column/DigitsOfPinLaw" (35 : Nat) (1000000000000000 : Int64)).before a0 Z = true := hw _ (List.mem_of_getElem? (i := 15) rfl)
theorem tw16 {a0 : Array Value} {Z : State} (hw : ∀ d ∈ tables_1, d.before a0 Z = true) : (Jvm.Cond.constantLong "com/example/varve/varve/column/DigitsOfPinLaw" (37 : Nat) (10000000000000000 : Int64)).before a0 Z = true := hw _ (List.mem_of_getElem? (i := 16) rfl)
theorem tw17 {a0 : Array Value} {Z : State} (hw : ∀ d ∈ tables_1, d.before a0 Z = true) : (Jvm.Cond.constantLong "com/example/varve/varve/column/DigitsOfPinLaw" (39 : Nat) (100000000000000000 : Int64)).before a0 Z = true := hw _ (List.mem_of_getElem? (i := 17) rfl)
theorem tw18 {a0 : Array Value} {Z : State} (hw : ∀ d ∈ tables_1, d.before a0 Z = true) : (Jvm.Cond.constantLong "com/example/varve/varve/column/DigitsOfPinLaw" (41 : Nat) (1000000000000000000 : Int64)).before a0 Z = true := hw _ (List.mem_of_getElem? (i := 18) rfl)
theorem tw19 {a0 : Array Value} {Z : State} (hw : ∀ d ∈ tables_1, d.before a0 Z = true) : (Jvm.Cond.methodLink "com/example/varve/varve/column/DigitsOfPinLaw" (43 : Nat) ({ cls := "com/example/varve/varve/column/DigitsOfPinLaw", name := "digitsOf", desc := "(J[J)I" } : Jvm.MethodName)).before a0 Z = true := hw _ (List.mem_of_getElem? (i := 19) rfl)
theorem tw20 {a0 : Array Value} {Z : State} (hw : ∀ d ∈ tables_1, d.before a0 Z = true) : (Jvm.Cond.static ({ cls := "com/example/varve/varve/column/DigitsOfPinLaw", name := "digitsOf", desc := "(J[J)I" } : Jvm.MethodName)).before a0 Z = true := hw _ (List.mem_of_getElem? (i := 20) rfl)
theorem tw21 {a0 : Array Value} {Z : State} (hw : ∀ d ∈ tables_1, d.before a0 Z = true) : (Jvm.Cond.initialized "com/example/varve/varve/column/DigitsOfPinLaw").before a0 Z = true := hw _ (List.mem_of_getElem? (i := 21) rfl)
theorem tw22 {a0 : Array Value} {Z : State} (hw : ∀ d ∈ tables_1, d.before a0 Z = true) : (Jvm.Cond.code ({ cls := "com/example/varve/varve/column/DigitsOfPinLaw", name := "digitsOf", desc := "(J[J)I" } : Jvm.MethodName) method_3_code (4 : Nat) (Option.some Jvm.ClassFile.FieldType.int)).before a0 Z = true := hw _ (List.mem_of_getElem? (i := 22) rfl)
theorem tw23 {a0 : Array Value} {Z : State} (hw : ∀ d ∈ tables_1, d.before a0 Z = true) : (Jvm.Cond.arrayClass Jvm.ClassFile.FieldType.byte).before a0 Z = true := hw _ (List.mem_of_getElem? (i := 23) rfl)
theorem tw24 {a0 : Array Value} {Z : State} (hw : ∀ d ∈ tables_1, d.before a0 Z = true) : (Jvm.Cond.methodLink "com/example/varve/varve/column/DigitsOfPinLaw" (49 : Nat) ({ cls := "com/example/varve/varve/column/DigitsOfPinLaw", name := "fill", desc := "([BIIIIJI[J)V" } : Jvm.MethodName)).before a0 Z = true := hw _ (List.mem_of_getElem? (i := 24) rfl)
theorem tw25 {a0 : Array Value} {Z : State} (hw : ∀ d ∈ tables_1, d.before a0 Z = true) : (Jvm.Cond.static ({ cls := "com/example/varve/varve/column/DigitsOfPinLaw", name := "fill", desc := "([BIIIIJI[J)V" } : Jvm.MethodName)).before a0 Z = true := hw _ (List.mem_of_getElem? (i := 25) rfl)
theorem tw26 {a0 : Array Value} {Z : State} (hw : ∀ d ∈ tables_1, d.before a0 Z = true) : (Jvm.Cond.code ({ cls := "com/example/varve/varve/column/DigitsOfPinLaw", name := "fill", desc := "([BIIIIJI[J)V" } : Jvm.MethodName) method_5_code (9 : Nat) (Option.none : Option Jvm.ClassFile.FieldType)).before a0 Z = true := hw _ (List.mem_of_getElem? (i := 26) rfl)
theorem tw27 {a0 : Array Value} {Z : State} (hw : ∀ d ∈ tables_1, d.before a0 Z = true) : (Jvm.Cond.methodLink "com/example/varve/varve/column/DigitsOfPinLaw" (73 : Nat) ({ cls := "com/example/varve/varve/column/DigitsOfPinLaw", name := "cx", desc := "(IIIIJI[J)B" } : Jvm.MethodName)).before a0 Z = true := hw _ (List.mem_of_getElem? (i := 27) rfl)
theorem tw28 {a0 : Array Value} {Z : State} (hw : ∀ d ∈ tables_1, d.before a0 Z = true) : (Jvm.Cond.static ({ cls := "com/example/varve/varve/column/DigitsOfPinLaw", name := "cx", desc := "(IIIIJI[J)B" } : Jvm.MethodName)).before a0 Z = true := hw _ (List.mem_of_getElem? (i := 28) rfl)
theorem tw29 {a0 : Array Value} {Z : State} (hw : ∀ d ∈ tables_1, d.before a0 Z = true) : (Jvm.Cond.code ({ cls := "com/example/varve/varve/column/DigitsOfPinLaw", name := "cx", desc := "(IIIIJI[J)B" } : Jvm.MethodName) method_4_code (13 : Nat) (Option.some Jvm.ClassFile.FieldType.byte)).before a0 Z = true := hw _ (List.mem_of_getElem? (i := 29) rfl)
theorem tw30 {a0 : Array Value} {Z : State} (hw : ∀ d ∈ tables_1, d.before a0 Z = true) : (Jvm.Cond.arrayClass Jvm.ClassFile.FieldType.int).before a0 Z = true := hw _ (List.mem_of_getElem? (i := 30) rfl)
theorem tw31 {a0 : Array Value} {Z : State} (hw : ∀ d ∈ tables_1, d.before a0 Z = true) : (Jvm.Cond.constantLong "com/example/varve/varve/column/DigitsOfPinLaw" (53 : Nat) (6510615555426900570 : Int64)).before a0 Z = true := hw _ (List.mem_of_getElem? (i := 31) rfl)
theorem tw32 {a0 : Array Value} {Z : State} (hw : ∀ d ∈ tables_1, d.before a0 Z = true) : (Jvm.Cond.methodLink "com/example/varve/varve/column/DigitsOfPinLaw" (55 : Nat) ({ cls := "com/example/varve/varve/column/Digits", name := "of", desc := "([B[II[J)Z" } : Jvm.MethodName)).before a0 Z = true := hw _ (List.mem_of_getElem? (i := 32) rfl)
theorem tw33 {a0 : Array Value} {Z : State} (hw : ∀ d ∈ tables_1, d.before a0 Z = true) : (Jvm.Cond.static ({ cls := "com/example/varve/varve/column/Digits", name := "of", desc := "([B[II[J)Z" } : Jvm.MethodName)).before a0 Z = true := hw _ (List.mem_of_getElem? (i := 33) rfl)
theorem tw34 {a0 : Array Value} {Z : State} (hw : ∀ d ∈ tables_1, d.before a0 Z = true) : (Jvm.Cond.initialized "com/example/varve/varve/column/Digits").before a0 Z = true := hw _ (List.mem_of_getElem? (i := 34) rfl)
theorem tw35 {a0 : Array Value} {Z : State} (hw : ∀ d ∈ tables_1, d.before a0 Z = true) : (Jvm.Cond.code ({ cls := "com/example/varve/varve/column/Digits", name := "of", desc := "([B[II[J)Z" } : Jvm.MethodName) prog_40_method_2_code (12 : Nat) (Option.some Jvm.ClassFile.FieldType.boolean)).before a0 Z = true := hw _ (List.mem_of_getElem? (i := 35) rfl)
theorem tw36 {a0 : Array Value} {Z : State} (hw : ∀ d ∈ tables_1, d.before a0 Z = true) : (Jvm.Cond.constantLong "com/example/varve/varve/column/Digits" (13 : Nat) (10 : Int64)).before a0 Z = true := hw _ (List.mem_of_getElem? (i := 36) rfl)
theorem tw37 {a0 : Array Value} {Z : State} (hw : ∀ d ∈ tables_1, d.before a0 Z = true) : (Jvm.Cond.constantLong "com/example/varve/varve/column/DigitsOfPinLaw" (63 : Nat) (-9223372036854775808 : Int64)).before a0 Z = true := hw _ (List.mem_of_getElem? (i := 37) rfl)
theorem tw38 {a0 : Array Value} {Z : State} (hw : ∀ d ∈ tables_1, d.before a0 Z = true) : (Jvm.Cond.constantLong "com/example/varve/varve/column/Digits" (11 : Nat) (-9223372036854775808 : Int64)).before a0 Z = true := hw _ (List.mem_of_getElem? (i := 38) rfl)
theorem tw39 {a0 : Array Value} {Z : State} (hw : ∀ d ∈ tables_1, d.before a0 Z = true) : (Jvm.Cond.methodLink "com/example/varve/varve/column/DigitsOfPinLaw" (65 : Nat) ({ cls := "java/lang/Math", name := "min", desc := "(II)I" } : Jvm.MethodName)).before a0 Z = true := hw _ (List.mem_of_getElem? (i := 39) rfl)
theorem tw40 {a0 : Array Value} {Z : State} (hw : ∀ d ∈ tables_1, d.before a0 Z = true) : (Jvm.Cond.static ({ cls := "java/lang/Math", name := "min", desc := "(II)I" } : Jvm.MethodName)).before a0 Z = true := hw _ (List.mem_of_getElem? (i := 40) rfl)
theorem tw41 {a0 : Array Value} {Z : State} (hw : ∀ d ∈ tables_1, d.before a0 Z = true) : (Jvm.Cond.initialized "java/lang/Math").before a0 Z = true := hw _ (List.mem_of_getElem? (i := 41) rfl)
theorem tw42 {a0 : Array Value} {Z : State} (hw : ∀ d ∈ tables_1, d.before a0 Z = true) : (Jvm.Cond.code ({ cls := "java/lang/Math", name := "min", desc := "(II)I" } : Jvm.MethodName) jdk_29_method_69_code (2 : Nat) (Option.some Jvm.ClassFile.FieldType.int)).before a0 Z = true := hw _ (List.mem_of_getElem? (i := 42) rfl)
theorem tw43 {a0 : Array Value} {Z : State} (hw : ∀ d ∈ tables_1, d.before a0 Z = true) : (Jvm.Cond.constantLong "com/example/varve/varve/column/DigitsOfPinLaw" (71 : Nat) (-922337203685477580 : Int64)).before a0 Z = true := hw _ (List.mem_of_getElem? (i := 43) rfl)
theorem d1_0 : decode method_3_code 0 = .ok (.iconst 1, 1) := by decide +kernel
theorem d1_1 : decode method_3_code 1 = .ok (.istore_n 3, 1) := by decide +kernel
theorem d1_2 : decode method_3_code 2 = .ok (.lload_n 0, 1) := by decide +kernel
theorem d1_3 : decode method_3_code 3 = .ok (.aload_n 2, 1) := by decide +kernel
theorem d1_4 : decode method_3_code 4 = .ok (.iconst 1, 1) := by decide +kernel
theorem d1_5 : decode method_3_code 5 = .ok (.laload, 1) := by decide +kernel
theorem d1_6 : decode method_3_code 6 = .ok (.lneg, 1) := by decide +kernel
theorem d1_7 : decode method_3_code 7 = .ok (.lcmp, 1) := by decide +kernel
theorem d1_8 : decode method_3_code 8 = .ok (.ifCond .gt 5, 3) := by decide +kernel
theorem d1_11 : decode method_3_code 11 = .ok (.iconst 2, 1) := by decide +kernel
theorem d1_12 : decode method_3_code 12 = .ok (.istore_n 3, 1) := by decide +kernel
theorem d1_13 : decode method_3_code 13 = .ok (.lload_n 0, 1) := by decide +kernel
theorem d1_14 : decode method_3_code 14 = .ok (.aload_n 2, 1) := by decide +kernel
theorem d1_15 : decode method_3_code 15 = .ok (.iconst 2, 1) := by decide +kernel
theorem d1_16 : decode method_3_code 16 = .ok (.laload, 1) := by decide +kernel
theorem d1_17 : decode method_3_code 17 = .ok (.lneg, 1) := by decide +kernel
theorem d1_18 : decode method_3_code 18 = .ok (.lcmp, 1) := by decide +kernel
theorem d1_19 : decode method_3_code 19 = .ok (.ifCond .gt 5, 3) := by decide +kernel
theorem d1_22 : decode method_3_code 22 = .ok (.iconst 3, 1) := by decide +kernel
theorem d1_23 : decode method_3_code 23 = .ok (.istore_n 3, 1) := by decide +kernel
theorem d1_24 : decode method_3_code 24 = .ok (.lload_n 0, 1) := by decide +kernel
theorem d1_25 : decode method_3_code 25 = .ok (.aload_n 2, 1) := by decide +kernel
theorem d1_26 : decode method_3_code 26 = .ok (.iconst 3, 1) := by decide +kernel
theorem d1_27 : decode method_3_code 27 = .ok (.laload, 1) := by decide +kernel
theorem d1_28 : decode method_3_code 28 = .ok (.lneg, 1) := by decide +kernel
theorem d1_29 : decode method_3_code 29 = .ok (.lcmp, 1) := by decide +kernel
theorem d1_30 : decode method_3_code 30 = .ok (.ifCond .gt 5, 3) := by decide +kernel
theorem d1_33 : decode method_3_code 33 = .ok (.iconst 4, 1) := by decide +kernel
theorem d1_34 : decode method_3_code 34 = .ok (.istore_n 3, 1) := by decide +kernel
theorem d1_35 : decode method_3_code 35 = .ok (.lload_n 0, 1) := by decide +kernel
theorem d1_36 : decode method_3_code 36 = .ok (.aload_n 2, 1) := by decide +kernel
theorem d1_37 : decode method_3_code 37 = .ok (.iconst 4, 1) := by decide +kernel
theorem d1_38 : decode method_3_code 38 = .ok (.laload, 1) := by decide +kernel
theorem d1_39 : decode method_3_code 39 = .ok (.lneg, 1) := by decide +kernel
theorem d1_40 : decode method_3_code 40 = .ok (.lcmp, 1) := by decide +kernel
theorem d1_41 : decode method_3_code 41 = .ok (.ifCond .gt 5, 3) := by decide +kernel
theorem d1_44 : decode method_3_code 44 = .ok (.iconst 5, 1) := by decide +kernel
theorem d1_45 : decode method_3_code 45 = .ok (.istore_n 3, 1) := by decide +kernel
theorem d1_46 : decode method_3_code 46 = .ok (.lload_n 0, 1) := by decide +kernel
theorem d1_47 : decode method_3_code 47 = .ok (.aload_n 2, 1) := by decide +kernel
theorem d1_48 : decode method_3_code 48 = .ok (.iconst 5, 1) := by decide +kernel
theorem d1_49 : decode method_3_code 49 = .ok (.laload, 1) := by decide +kernel
theorem d1_50 : decode method_3_code 50 = .ok (.lneg, 1) := by decide +kernel
theorem d1_51 : decode method_3_code 51 = .ok (.lcmp, 1) := by decide +kernel
theorem d1_52 : decode method_3_code 52 = .ok (.ifCond .gt 6, 3) := by decide +kernel
theorem d1_55 : decode method_3_code 55 = .ok (.bipush 6, 2) := by decide +kernel
theorem d1_57 : decode method_3_code 57 = .ok (.istore_n 3, 1) := by decide +kernel
theorem d1_58 : decode method_3_code 58 = .ok (.lload_n 0, 1) := by decide +kernel
theorem d1_59 : decode method_3_code 59 = .ok (.aload_n 2, 1) := by decide +kernel
theorem d1_60 : decode method_3_code 60 = .ok (.bipush 6, 2) := by decide +kernel
theorem d1_62 : decode method_3_code 62 = .ok (.laload, 1) := by decide +kernel
theorem d1_63 : decode method_3_code 63 = .ok (.lneg, 1) := by decide +kernel
theorem d1_64 : decode method_3_code 64 = .ok (.lcmp, 1) := by decide +kernel
theorem d1_65 : decode method_3_code 65 = .ok (.ifCond .gt 6, 3) := by decide +kernel
theorem d1_68 : decode method_3_code 68 = .ok (.bipush 7, 2) := by decide +kernel
theorem d1_70 : decode method_3_code 70 = .ok (.istore_n 3, 1) := by decide +kernel
theorem d1_71 : decode method_3_code 71 = .ok (.lload_n 0, 1) := by decide +kernel
theorem d1_72 : decode method_3_code 72 = .ok (.aload_n 2, 1) := by decide +kernel
theorem d1_73 : decode method_3_code 73 = .ok (.bipush 7, 2) := by decide +kernel
theorem d1_75 : decode method_3_code 75 = .ok (.laload, 1) := by decide +kernel
theorem d1_76 : decode method_3_code 76 = .ok (.lneg, 1) := by decide +kernel
theorem d1_77 : decode method_3_code 77 = .ok (.lcmp, 1) := by decide +kernel
theorem d1_78 : decode method_3_code 78 = .ok (.ifCond .gt 6, 3) := by decide +kernel
theorem d1_81 : decode method_3_code 81 = .ok (.bipush 8, 2) := by decide +kernel
theorem d1_83 : decode method_3_code 83 = .ok (.istore_n 3, 1) := by decide +kernel
theorem d1_84 : decode method_3_code 84 = .ok (.lload_n 0, 1) := by decide +kernel
theorem d1_85 : decode method_3_code 85 = .ok (.aload_n 2, 1) := by decide +kernel
theorem d1_86 : decode method_3_code 86 = .ok (.bipush 8, 2) := by decide +kernel
theorem d1_88 : decode method_3_code 88 = .ok (.laload, 1) := by decide +kernel
theorem d1_89 : decode method_3_code 89 = .ok (.lneg, 1) := by decide +kernel
theorem d1_90 : decode method_3_code 90 = .ok (.lcmp, 1) := by decide +kernel
theorem d1_91 : decode method_3_code 91 = .ok (.ifCond .gt 6, 3) := by decide +kernel
theorem d1_94 : decode method_3_code 94 = .ok (.bipush 9, 2) := by decide +kernel
theorem d1_96 : decode method_3_code 96 = .ok (.istore_n 3, 1) := by decide +kernel
theorem d1_97 : decode method_3_code 97 = .ok (.lload_n 0, 1) := by decide +kernel
theorem d1_98 : decode method_3_code 98 = .ok (.aload_n 2, 1) := by decide +kernel
theorem d1_99 : decode method_3_code 99 = .ok (.bipush 9, 2) := by decide +kernel
theorem d1_101 : decode method_3_code 101 = .ok (.laload, 1) := by decide +kernel
theorem d1_102 : decode method_3_code 102 = .ok (.lneg, 1) := by decide +kernel
theorem d1_103 : decode method_3_code 103 = .ok (.lcmp, 1) := by decide +kernel
theorem d1_104 : decode method_3_code 104 = .ok (.ifCond .gt 6, 3) := by decide +kernel
theorem d1_107 : decode method_3_code 107 = .ok (.bipush 10, 2) := by decide +kernel
theorem d1_109 : decode method_3_code 109 = .ok (.istore_n 3, 1) := by decide +kernel
theorem d1_110 : decode method_3_code 110 = .ok (.lload_n 0, 1) := by decide +kernel
theorem d1_111 : decode method_3_code 111 = .ok (.aload_n 2, 1) := by decide +kernel
theorem d1_112 : decode method_3_code 112 = .ok (.bipush 10, 2) := by decide +kernel
theorem d1_114 : decode method_3_code 114 = .ok (.laload, 1) := by decide +kernel
theorem d1_115 : decode method_3_code 115 = .ok (.lneg, 1) := by decide +kernel
theorem d1_116 : decode method_3_code 116 = .ok (.lcmp, 1) := by decide +kernel
theorem d1_117 : decode method_3_code 117 = .ok (.ifCond .gt 6, 3) := by decide +kernel
theorem d1_120 : decode method_3_code 120 = .ok (.bipush 11, 2) := by decide +kernel
theorem d1_122 : decode method_3_code 122 = .ok (.istore_n 3, 1) := by decide +kernel
theorem d1_123 : decode method_3_code 123 = .ok (.lload_n 0, 1) := by decide +kernel
theorem d1_124 : decode method_3_code 124 = .ok (.aload_n 2, 1) := by decide +kernel
theorem d1_125 : decode method_3_code 125 = .ok (.bipush 11, 2) := by decide +kernel
theorem d1_127 : decode method_3_code 127 = .ok (.laload, 1) := by decide +kernel
theorem d1_128 : decode method_3_code 128 = .ok (.lneg, 1) := by decide +kernel
theorem d1_129 : decode method_3_code 129 = .ok (.lcmp, 1) := by decide +kernel
theorem d1_130 : decode method_3_code 130 = .ok (.ifCond .gt 6, 3) := by decide +kernel
theorem d1_133 : decode method_3_code 133 = .ok (.bipush 12, 2) := by decide +kernel
theorem d1_135 : decode method_3_code 135 = .ok (.istore_n 3, 1) := by decide +kernel
theorem d1_136 : decode method_3_code 136 = .ok (.lload_n 0, 1) := by decide +kernel
theorem d1_137 : decode method_3_code 137 = .ok (.aload_n 2, 1) := by decide +kernel
theorem d1_138 : decode method_3_code 138 = .ok (.bipush 12, 2) := by decide +kernel
theorem d1_140 : decode method_3_code 140 = .ok (.laload, 1) := by decide +kernel
theorem d1_141 : decode method_3_code 141 = .ok (.lneg, 1) := by decide +kernel
theorem d1_142 : decode method_3_code 142 = .ok (.lcmp, 1) := by decide +kernel
theorem d1_143 : decode method_3_code 143 = .ok (.ifCond .gt 6, 3) := by decide +kernel
theorem d1_146 : decode method_3_code 146 = .ok (.bipush 13, 2) := by decide +kernel
theorem d1_148 : decode method_3_code 148 = .ok (.istore_n 3, 1) := by decide +kernel
theorem d1_149 : decode method_3_code 149 = .ok (.lload_n 0, 1) := by decide +kernel
theorem d1_150 : decode method_3_code 150 = .ok (.aload_n 2, 1) := by decide +kernel
theorem d1_151 : decode method_3_code 151 = .ok (.bipush 13, 2) := by decide +kernel
theorem d1_153 : decode method_3_code 153 = .ok (.laload, 1) := by decide +kernel
theorem d1_154 : decode method_3_code 154 = .ok (.lneg, 1) := by decide +kernel
theorem d1_155 : decode method_3_code 155 = .ok (.lcmp, 1) := by decide +kernel
theorem d1_156 : decode method_3_code 156 = .ok (.ifCond .gt 6, 3) := by decide +kernel
theorem d1_159 : decode method_3_code 159 = .ok (.bipush 14, 2) := by decide +kernel
theorem d1_161 : decode method_3_code 161 = .ok (.istore_n 3, 1) := by decide +kernel
theorem d1_162 : decode method_3_code 162 = .ok (.lload_n 0, 1) := by decide +kernel
theorem d1_163 : decode method_3_code 163 = .ok (.aload_n 2, 1) := by decide +kernel
theorem d1_164 : decode method_3_code 164 = .ok (.bipush 14, 2) := by decide +kernel
theorem d1_166 : decode method_3_code 166 = .ok (.laload, 1) := by decide +kernel
theorem d1_167 : decode method_3_code 167 = .ok (.lneg, 1) := by decide +kernel
theorem d1_168 : decode method_3_code 168 = .ok (.lcmp, 1) := by decide +kernel
theorem d1_169 : decode method_3_code 169 = .ok (.ifCond .gt 6, 3) := by decide +kernel
theorem d1_172 : decode method_3_code 172 = .ok (.bipush 15, 2) := by decide +kernel
theorem d1_174 : decode method_3_code 174 = .ok (.istore_n 3, 1) := by decide +kernel
theorem d1_175 : decode method_3_code 175 = .ok (.lload_n 0, 1) := by decide +kernel
theorem d1_176 : decode method_3_code 176 = .ok (.aload_n 2, 1) := by decide +kernel
theorem d1_177 : decode method_3_code 177 = .ok (.bipush 15, 2) := by decide +kernel
theorem d1_179 : decode method_3_code 179 = .ok (.laload, 1) := by decide +kernel
theorem d1_180 : decode method_3_code 180 = .ok (.lneg, 1) := by decide +kernel
theorem d1_181 : decode method_3_code 181 = .ok (.lcmp, 1) := by decide +kernel
theorem d1_182 : decode method_3_code 182 = .ok (.ifCond .gt 6, 3) := by decide +kernel
theorem d1_185 : decode method_3_code 185 = .ok (.bipush 16, 2) := by decide +kernel
theorem d1_187 : decode method_3_code 187 = .ok (.istore_n 3, 1) := by decide +kernel
theorem d1_188 : decode method_3_code 188 = .ok (.lload_n 0, 1) := by decide +kernel
theorem d1_189 : decode method_3_code 189 = .ok (.aload_n 2, 1) := by decide +kernel
theorem d1_190 : decode method_3_code 190 = .ok (.bipush 16, 2) := by decide +kernel
theorem d1_192 : decode method_3_code 192 = .ok (.laload, 1) := by decide +kernel
theorem d1_193 : decode method_3_code 193 = .ok (.lneg, 1) := by decide +kernel
theorem d1_194 : decode method_3_code 194 = .ok (.lcmp, 1) := by decide +kernel
theorem d1_195 : decode method_3_code 195 = .ok (.ifCond .gt 6, 3) := by decide +kernel
theorem d1_198 : decode method_3_code 198 = .ok (.bipush 17, 2) := by decide +kernel
theorem d1_200 : decode method_3_code 200 = .ok (.istore_n 3, 1) := by decide +kernel
theorem d1_201 : decode method_3_code 201 = .ok (.lload_n 0, 1) := by decide +kernel
theorem d1_202 : decode method_3_code 202 = .ok (.aload_n 2, 1) := by decide +kernel
theorem d1_203 : decode method_3_code 203 = .ok (.bipush 17, 2) := by decide +kernel
theorem d1_205 : decode method_3_code 205 = .ok (.laload, 1) := by decide +kernel
theorem d1_206 : decode method_3_code 206 = .ok (.lneg, 1) := by decide +kernel
theorem d1_207 : decode method_3_code 207 = .ok (.lcmp, 1) := by decide +kernel
theorem d1_208 : decode method_3_code 208 = .ok (.ifCond .gt 6, 3) := by decide +kernel
theorem d1_211 : decode method_3_code 211 = .ok (.bipush 18, 2) := by decide +kernel
theorem d1_213 : decode method_3_code 213 = .ok (.istore_n 3, 1) := by decide +kernel
theorem d1_214 : decode method_3_code 214 = .ok (.lload_n 0, 1) := by decide +kernel
theorem d1_215 : decode method_3_code 215 = .ok (.aload_n 2, 1) := by decide +kernel
theorem d1_216 : decode method_3_code 216 = .ok (.bipush 18, 2) := by decide +kernel
theorem d1_218 : decode method_3_code 218 = .ok (.laload, 1) := by decide +kernel
theorem d1_219 : decode method_3_code 219 = .ok (.lneg, 1) := by decide +kernel
theorem d1_220 : decode method_3_code 220 = .ok (.lcmp, 1) := by decide +kernel
theorem d1_221 : decode method_3_code 221 = .ok (.ifCond .gt 6, 3) := by decide +kernel
theorem d1_224 : decode method_3_code 224 = .ok (.bipush 19, 2) := by decide +kernel
theorem d1_226 : decode method_3_code 226 = .ok (.istore_n 3, 1) := by decide +kernel
theorem d1_227 : decode method_3_code 227 = .ok (.iload_n 3, 1) := by decide +kernel
theorem d1_228 : decode method_3_code 228 = .ok (.ireturn, 1) := by decide +kernel
theorem d2_0 : decode method_5_code 0 = .ok (.aload_n 0, 1) := by decide +kernel
theorem d2_1 : decode method_5_code 1 = .ok (.iconst 0, 1) := by decide +kernel
theorem d2_2 : decode method_5_code 2 = .ok (.iconst 0, 1) := by decide +kernel
theorem d2_3 : decode method_5_code 3 = .ok (.iload_n 1, 1) := by decide +kernel
theorem d2_4 : decode method_5_code 4 = .ok (.isub, 1) := by decide +kernel
theorem d2_5 : decode method_5_code 5 = .ok (.iload_n 2, 1) := by decide +kernel
theorem d2_6 : decode method_5_code 6 = .ok (.iload_n 3, 1) := by decide +kernel
theorem d2_7 : decode method_5_code 7 = .ok (.iload 4, 2) := by decide +kernel
theorem d2_9 : decode method_5_code 9 = .ok (.lload 5, 2) := by decide +kernel
theorem d2_11 : decode method_5_code 11 = .ok (.iload 7, 2) := by decide +kernel
theorem d2_13 : decode method_5_code 13 = .ok (.aload 8, 2) := by decide +kernel
theorem d2_15 : decode method_5_code 15 = .ok (.invokestatic 73, 3) := by decide +kernel
theorem d2_18 : decode method_5_code 18 = .ok (.bastore, 1) := by decide +kernel
theorem d2_19 : decode method_5_code 19 = .ok (.aload_n 0, 1) := by decide +kernel
theorem d2_20 : decode method_5_code 20 = .ok (.iconst 1, 1) := by decide +kernel
theorem d2_21 : decode method_5_code 21 = .ok (.iconst 1, 1) := by decide +kernel
theorem d2_22 : decode method_5_code 22 = .ok (.iload_n 1, 1) := by decide +kernel
theorem d2_23 : decode method_5_code 23 = .ok (.isub, 1) := by decide +kernel
theorem d2_24 : decode method_5_code 24 = .ok (.iload_n 2, 1) := by decide +kernel
theorem d2_25 : decode method_5_code 25 = .ok (.iload_n 3, 1) := by decide +kernel
theorem d2_26 : decode method_5_code 26 = .ok (.iload 4, 2) := by decide +kernel
theorem d2_28 : decode method_5_code 28 = .ok (.lload 5, 2) := by decide +kernel
theorem d2_30 : decode method_5_code 30 = .ok (.iload 7, 2) := by decide +kernel
theorem d2_32 : decode method_5_code 32 = .ok (.aload 8, 2) := by decide +kernel
theorem d2_34 : decode method_5_code 34 = .ok (.invokestatic 73, 3) := by decide +kernel
theorem d2_37 : decode method_5_code 37 = .ok (.bastore, 1) := by decide +kernel
theorem d2_38 : decode method_5_code 38 = .ok (.aload_n 0, 1) := by decide +kernel
theorem d2_39 : decode method_5_code 39 = .ok (.iconst 2, 1) := by decide +kernel
theorem d2_40 : decode method_5_code 40 = .ok (.iconst 2, 1) := by decide +kernel
theorem d2_41 : decode method_5_code 41 = .ok (.iload_n 1, 1) := by decide +kernel
theorem d2_42 : decode method_5_code 42 = .ok (.isub, 1) := by decide +kernel
theorem d2_43 : decode method_5_code 43 = .ok (.iload_n 2, 1) := by decide +kernel
theorem d2_44 : decode method_5_code 44 = .ok (.iload_n 3, 1) := by decide +kernel
theorem d2_45 : decode method_5_code 45 = .ok (.iload 4, 2) := by decide +kernel
theorem d2_47 : decode method_5_code 47 = .ok (.lload 5, 2) := by decide +kernel
theorem d2_49 : decode method_5_code 49 = .ok (.iload 7, 2) := by decide +kernel
theorem d2_51 : decode method_5_code 51 = .ok (.aload 8, 2) := by decide +kernel
theorem d2_53 : decode method_5_code 53 = .ok (.invokestatic 73, 3) := by decide +kernel
theorem d2_56 : decode method_5_code 56 = .ok (.bastore, 1) := by decide +kernel
theorem d2_57 : decode method_5_code 57 = .ok (.aload_n 0, 1) := by decide +kernel
theorem d2_58 : decode method_5_code 58 = .ok (.iconst 3, 1) := by decide +kernel
theorem d2_59 : decode method_5_code 59 = .ok (.iconst 3, 1) := by decide +kernel
theorem d2_60 : decode method_5_code 60 = .ok (.iload_n 1, 1) := by decide +kernel
theorem d2_61 : decode method_5_code 61 = .ok (.isub, 1) := by decide +kernel
theorem d2_62 : decode method_5_code 62 = .ok (.iload_n 2, 1) := by decide +kernel
theorem d2_63 : decode method_5_code 63 = .ok (.iload_n 3, 1) := by decide +kernel
theorem d2_64 : decode method_5_code 64 = .ok (.iload 4, 2) := by decide +kernel
theorem d2_66 : decode method_5_code 66 = .ok (.lload 5, 2) := by decide +kernel
theorem d2_68 : decode method_5_code 68 = .ok (.iload 7, 2) := by decide +kernel
theorem d2_70 : decode method_5_code 70 = .ok (.aload 8, 2) := by decide +kernel
theorem d2_72 : decode method_5_code 72 = .ok (.invokestatic 73, 3) := by decide +kernel
theorem d2_75 : decode method_5_code 75 = .ok (.bastore, 1) := by decide +kernel
theorem d2_76 : decode method_5_code 76 = .ok (.aload_n 0, 1) := by decide +kernel
theorem d2_77 : decode method_5_code 77 = .ok (.iconst 4, 1) := by decide +kernel
theorem d2_78 : decode method_5_code 78 = .ok (.iconst 4, 1) := by decide +kernel
theorem d2_79 : decode method_5_code 79 = .ok (.iload_n 1, 1) := by decide +kernel
theorem d2_80 : decode method_5_code 80 = .ok (.isub, 1) := by decide +kernel
theorem d2_81 : decode method_5_code 81 = .ok (.iload_n 2, 1) := by decide +kernel
theorem d2_82 : decode method_5_code 82 = .ok (.iload_n 3, 1) := by decide +kernel
theorem d2_83 : decode method_5_code 83 = .ok (.iload 4, 2) := by decide +kernel
theorem d2_85 : decode method_5_code 85 = .ok (.lload 5, 2) := by decide +kernel
theorem d2_87 : decode method_5_code 87 = .ok (.iload 7, 2) := by decide +kernel
theorem d2_89 : decode method_5_code 89 = .ok (.aload 8, 2) := by decide +kernel
theorem d2_91 : decode method_5_code 91 = .ok (.invokestatic 73, 3) := by decide +kernel
theorem d2_94 : decode method_5_code 94 = .ok (.bastore, 1) := by decide +kernel
theorem d2_95 : decode method_5_code 95 = .ok (.aload_n 0, 1) := by decide +kernel
theorem d2_96 : decode method_5_code 96 = .ok (.iconst 5, 1) := by decide +kernel
theorem d2_97 : decode method_5_code 97 = .ok (.iconst 5, 1) := by decide +kernel
theorem d2_98 : decode method_5_code 98 = .ok (.iload_n 1, 1) := by decide +kernel
theorem d2_99 : decode method_5_code 99 = .ok (.isub, 1) := by decide +kernel
theorem d2_100 : decode method_5_code 100 = .ok (.iload_n 2, 1) := by decide +kernel
theorem d2_101 : decode method_5_code 101 = .ok (.iload_n 3, 1) := by decide +kernel
theorem d2_102 : decode method_5_code 102 = .ok (.iload 4, 2) := by decide +kernel
theorem d2_104 : decode method_5_code 104 = .ok (.lload 5, 2) := by decide +kernel
theorem d2_106 : decode method_5_code 106 = .ok (.iload 7, 2) := by decide +kernel
theorem d2_108 : decode method_5_code 108 = .ok (.aload 8, 2) := by decide +kernel
theorem d2_110 : decode method_5_code 110 = .ok (.invokestatic 73, 3) := by decide +kernel
theorem d2_113 : decode method_5_code 113 = .ok (.bastore, 1) := by decide +kernel
theorem d2_114 : decode method_5_code 114 = .ok (.aload_n 0, 1) := by decide +kernel
theorem d2_115 : decode method_5_code 115 = .ok (.bipush 6, 2) := by decide +kernel
theorem d2_117 : decode method_5_code 117 = .ok (.bipush 6, 2) := by decide +kernel
theorem d2_119 : decode method_5_code 119 = .ok (.iload_n 1, 1) := by decide +kernel
theorem d2_120 : decode method_5_code 120 = .ok (.isub, 1) := by decide +kernel
theorem d2_121 : decode method_5_code 121 = .ok (.iload_n 2, 1) := by decide +kernel
theorem d2_122 : decode method_5_code 122 = .ok (.iload_n 3, 1) := by decide +kernel
theorem d2_123 : decode method_5_code 123 = .ok (.iload 4, 2) := by decide +kernel
theorem d2_125 : decode method_5_code 125 = .ok (.lload 5, 2) := by decide +kernel
theorem d2_127 : decode method_5_code 127 = .ok (.iload 7, 2) := by decide +kernel
theorem d2_129 : decode method_5_code 129 = .ok (.aload 8, 2) := by decide +kernel
theorem d2_131 : decode method_5_code 131 = .ok (.invokestatic 73, 3) := by decide +kernel
theorem d2_134 : decode method_5_code 134 = .ok (.bastore, 1) := by decide +kernel
theorem d2_135 : decode method_5_code 135 = .ok (.aload_n 0, 1) := by decide +kernel
theorem d2_136 : decode method_5_code 136 = .ok (.bipush 7, 2) := by decide +kernel
theorem d2_138 : decode method_5_code 138 = .ok (.bipush 7, 2) := by decide +kernel
theorem d2_140 : decode method_5_code 140 = .ok (.iload_n 1, 1) := by decide +kernel
theorem d2_141 : decode method_5_code 141 = .ok (.isub, 1) := by decide +kernel
theorem d2_142 : decode method_5_code 142 = .ok (.iload_n 2, 1) := by decide +kernel
theorem d2_143 : decode method_5_code 143 = .ok (.iload_n 3, 1) := by decide +kernel
theorem d2_144 : decode method_5_code 144 = .ok (.iload 4, 2) := by decide +kernel
theorem d2_146 : decode method_5_code 146 = .ok (.lload 5, 2) := by decide +kernel
theorem d2_148 : decode method_5_code 148 = .ok (.iload 7, 2) := by decide +kernel
theorem d2_150 : decode method_5_code 150 = .ok (.aload 8, 2) := by decide +kernel
theorem d2_152 : decode method_5_code 152 = .ok (.invokestatic 73, 3) := by decide +kernel
theorem d2_155 : decode method_5_code 155 = .ok (.bastore, 1) := by decide +kernel
theorem d2_156 : decode method_5_code 156 = .ok (.aload_n 0, 1) := by decide +kernel
theorem d2_157 : decode method_5_code 157 = .ok (.bipush 8, 2) := by decide +kernel
theorem d2_159 : decode method_5_code 159 = .ok (.bipush 8, 2) := by decide +kernel
theorem d2_161 : decode method_5_code 161 = .ok (.iload_n 1, 1) := by decide +kernel
theorem d2_162 : decode method_5_code 162 = .ok (.isub, 1) := by decide +kernel
theorem d2_163 : decode method_5_code 163 = .ok (.iload_n 2, 1) := by decide +kernel
theorem d2_164 : decode method_5_code 164 = .ok (.iload_n 3, 1) := by decide +kernel
theorem d2_165 : decode method_5_code 165 = .ok (.iload 4, 2) := by decide +kernel
theorem d2_167 : decode method_5_code 167 = .ok (.lload 5, 2) := by decide +kernel
theorem d2_169 : decode method_5_code 169 = .ok (.iload 7, 2) := by decide +kernel
theorem d2_171 : decode method_5_code 171 = .ok (.aload 8, 2) := by decide +kernel
theorem d2_173 : decode method_5_code 173 = .ok (.invokestatic 73, 3) := by decide +kernel
theorem d2_176 : decode method_5_code 176 = .ok (.bastore, 1) := by decide +kernel
theorem d2_177 : decode method_5_code 177 = .ok (.aload_n 0, 1) := by decide +kernel
theorem d2_178 : decode method_5_code 178 = .ok (.bipush 9, 2) := by decide +kernel
theorem d2_180 : decode method_5_code 180 = .ok (.bipush 9, 2) := by decide +kernel
theorem d2_182 : decode method_5_code 182 = .ok (.iload_n 1, 1) := by decide +kernel
theorem d2_183 : decode method_5_code 183 = .ok (.isub, 1) := by decide +kernel
theorem d2_184 : decode method_5_code 184 = .ok (.iload_n 2, 1) := by decide +kernel
theorem d2_185 : decode method_5_code 185 = .ok (.iload_n 3, 1) := by decide +kernel
theorem d2_186 : decode method_5_code 186 = .ok (.iload 4, 2) := by decide +kernel
theorem d2_188 : decode method_5_code 188 = .ok (.lload 5, 2) := by decide +kernel
theorem d2_190 : decode method_5_code 190 = .ok (.iload 7, 2) := by decide +kernel
theorem d2_192 : decode method_5_code 192 = .ok (.aload 8, 2) := by decide +kernel
theorem d2_194 : decode method_5_code 194 = .ok (.invokestatic 73, 3) := by decide +kernel
theorem d2_197 : decode method_5_code 197 = .ok (.bastore, 1) := by decide +kernel
theorem d2_198 : decode method_5_code 198 = .ok (.aload_n 0, 1) := by decide +kernel
theorem d2_199 : decode method_5_code 199 = .ok (.bipush 10, 2) := by decide +kernel
theorem d2_201 : decode method_5_code 201 = .ok (.bipush 10, 2) := by decide +kernel
theorem d2_203 : decode method_5_code 203 = .ok (.iload_n 1, 1) := by decide +kernel
theorem d2_204 : decode method_5_code 204 = .ok (.isub, 1) := by decide +kernel
theorem d2_205 : decode method_5_code 205 = .ok (.iload_n 2, 1) := by decide +kernel
theorem d2_206 : decode method_5_code 206 = .ok (.iload_n 3, 1) := by decide +kernel
theorem d2_207 : decode method_5_code 207 = .ok (.iload 4, 2) := by decide +kernel
theorem d2_209 : decode method_5_code 209 = .ok (.lload 5, 2) := by decide +kernel
theorem d2_211 : decode method_5_code 211 = .ok (.iload 7, 2) := by decide +kernel
theorem d2_213 : decode method_5_code 213 = .ok (.aload 8, 2) := by decide +kernel
theorem d2_215 : decode method_5_code 215 = .ok (.invokestatic 73, 3) := by decide +kernel
theorem d2_218 : decode method_5_code 218 = .ok (.bastore, 1) := by decide +kernel
theorem d2_219 : decode method_5_code 219 = .ok (.aload_n 0, 1) := by decide +kernel
theorem d2_220 : decode method_5_code 220 = .ok (.bipush 11, 2) := by decide +kernel
theorem d2_222 : decode method_5_code 222 = .ok (.bipush 11, 2) := by decide +kernel
theorem d2_224 : decode method_5_code 224 = .ok (.iload_n 1, 1) := by decide +kernel
theorem d2_225 : decode method_5_code 225 = .ok (.isub, 1) := by decide +kernel
theorem d2_226 : decode method_5_code 226 = .ok (.iload_n 2, 1) := by decide +kernel
theorem d2_227 : decode method_5_code 227 = .ok (.iload_n 3, 1) := by decide +kernel
theorem d2_228 : decode method_5_code 228 = .ok (.iload 4, 2) := by decide +kernel
theorem d2_230 : decode method_5_code 230 = .ok (.lload 5, 2) := by decide +kernel
theorem d2_232 : decode method_5_code 232 = .ok (.iload 7, 2) := by decide +kernel
theorem d2_234 : decode method_5_code 234 = .ok (.aload 8, 2) := by decide +kernel
theorem d2_236 : decode method_5_code 236 = .ok (.invokestatic 73, 3) := by decide +kernel
theorem d2_239 : decode method_5_code 239 = .ok (.bastore, 1) := by decide +kernel
theorem d2_240 : decode method_5_code 240 = .ok (.aload_n 0, 1) := by decide +kernel
theorem d2_241 : decode method_5_code 241 = .ok (.bipush 12, 2) := by decide +kernel
theorem d2_243 : decode method_5_code 243 = .ok (.bipush 12, 2) := by decide +kernel
theorem d2_245 : decode method_5_code 245 = .ok (.iload_n 1, 1) := by decide +kernel
theorem d2_246 : decode method_5_code 246 = .ok (.isub, 1) := by decide +kernel
theorem d2_247 : decode method_5_code 247 = .ok (.iload_n 2, 1) := by decide +kernel
theorem d2_248 : decode method_5_code 248 = .ok (.iload_n 3, 1) := by decide +kernel
theorem d2_249 : decode method_5_code 249 = .ok (.iload 4, 2) := by decide +kernel
theorem d2_251 : decode method_5_code 251 = .ok (.lload 5, 2) := by decide +kernel
theorem d2_253 : decode method_5_code 253 = .ok (.iload 7, 2) := by decide +kernel
theorem d2_255 : decode method_5_code 255 = .ok (.aload 8, 2) := by decide +kernel
theorem d2_257 : decode method_5_code 257 = .ok (.invokestatic 73, 3) := by decide +kernel
theorem d2_260 : decode method_5_code 260 = .ok (.bastore, 1) := by decide +kernel
theorem d2_261 : decode method_5_code 261 = .ok (.aload_n 0, 1) := by decide +kernel
theorem d2_262 : decode method_5_code 262 = .ok (.bipush 13, 2) := by decide +kernel
theorem d2_264 : decode method_5_code 264 = .ok (.bipush 13, 2) := by decide +kernel
theorem d2_266 : decode method_5_code 266 = .ok (.iload_n 1, 1) := by decide +kernel
theorem d2_267 : decode method_5_code 267 = .ok (.isub, 1) := by decide +kernel
theorem d2_268 : decode method_5_code 268 = .ok (.iload_n 2, 1) := by decide +kernel
theorem d2_269 : decode method_5_code 269 = .ok (.iload_n 3, 1) := by decide +kernel
theorem d2_270 : decode method_5_code 270 = .ok (.iload 4, 2) := by decide +kernel
theorem d2_272 : decode method_5_code 272 = .ok (.lload 5, 2) := by decide +kernel
theorem d2_274 : decode method_5_code 274 = .ok (.iload 7, 2) := by decide +kernel
theorem d2_276 : decode method_5_code 276 = .ok (.aload 8, 2) := by decide +kernel
theorem d2_278 : decode method_5_code 278 = .ok (.invokestatic 73, 3) := by decide +kernel
theorem d2_281 : decode method_5_code 281 = .ok (.bastore, 1) := by decide +kernel
theorem d2_282 : decode method_5_code 282 = .ok (.aload_n 0, 1) := by decide +kernel
theorem d2_283 : decode method_5_code 283 = .ok (.bipush 14, 2) := by decide +kernel
theorem d2_285 : decode method_5_code 285 = .ok (.bipush 14, 2) := by decide +kernel
theorem d2_287 : decode method_5_code 287 = .ok (.iload_n 1, 1) := by decide +kernel
theorem d2_288 : decode method_5_code 288 = .ok (.isub, 1) := by decide +kernel
theorem d2_289 : decode method_5_code 289 = .ok (.iload_n 2, 1) := by decide +kernel
theorem d2_290 : decode method_5_code 290 = .ok (.iload_n 3, 1) := by decide +kernel
theorem d2_291 : decode method_5_code 291 = .ok (.iload 4, 2) := by decide +kernel
theorem d2_293 : decode method_5_code 293 = .ok (.lload 5, 2) := by decide +kernel
theorem d2_295 : decode method_5_code 295 = .ok (.iload 7, 2) := by decide +kernel
theorem d2_297 : decode method_5_code 297 = .ok (.aload 8, 2) := by decide +kernel
theorem d2_299 : decode method_5_code 299 = .ok (.invokestatic 73, 3) := by decide +kernel
theorem d2_302 : decode method_5_code 302 = .ok (.bastore, 1) := by decide +kernel
theorem d2_303 : decode method_5_code 303 = .ok (.aload_n 0, 1) := by decide +kernel
theorem d2_304 : decode method_5_code 304 = .ok (.bipush 15, 2) := by decide +kernel
theorem d2_306 : decode method_5_code 306 = .ok (.bipush 15, 2) := by decide +kernel
theorem d2_308 : decode method_5_code 308 = .ok (.iload_n 1, 1) := by decide +kernel
theorem d2_309 : decode method_5_code 309 = .ok (.isub, 1) := by decide +kernel
theorem d2_310 : decode method_5_code 310 = .ok (.iload_n 2, 1) := by decide +kernel
theorem d2_311 : decode method_5_code 311 = .ok (.iload_n 3, 1) := by decide +kernel
theorem d2_312 : decode method_5_code 312 = .ok (.iload 4, 2) := by decide +kernel
theorem d2_314 : decode method_5_code 314 = .ok (.lload 5, 2) := by decide +kernel
theorem d2_316 : decode method_5_code 316 = .ok (.iload 7, 2) := by decide +kernel
theorem d2_318 : decode method_5_code 318 = .ok (.aload 8, 2) := by decide +kernel
theorem d2_320 : decode method_5_code 320 = .ok (.invokestatic 73, 3) := by decide +kernel
theorem d2_323 : decode method_5_code 323 = .ok (.bastore, 1) := by decide +kernel
theorem d2_324 : decode method_5_code 324 = .ok (.aload_n 0, 1) := by decide +kernel
theorem d2_325 : decode method_5_code 325 = .ok (.bipush 16, 2) := by decide +kernel
theorem d2_327 : decode method_5_code 327 = .ok (.bipush 16, 2) := by decide +kernel
theorem d2_329 : decode method_5_code 329 = .ok (.iload_n 1, 1) := by decide +kernel
theorem d2_330 : decode method_5_code 330 = .ok (.isub, 1) := by decide +kernel
theorem d2_331 : decode method_5_code 331 = .ok (.iload_n 2, 1) := by decide +kernel
theorem d2_332 : decode method_5_code 332 = .ok (.iload_n 3, 1) := by decide +kernel
theorem d2_333 : decode method_5_code 333 = .ok (.iload 4, 2) := by decide +kernel
theorem d2_335 : decode method_5_code 335 = .ok (.lload 5, 2) := by decide +kernel
theorem d2_337 : decode method_5_code 337 = .ok (.iload 7, 2) := by decide +kernel
theorem d2_339 : decode method_5_code 339 = .ok (.aload 8, 2) := by decide +kernel
theorem d2_341 : decode method_5_code 341 = .ok (.invokestatic 73, 3) := by decide +kernel
theorem d2_344 : decode method_5_code 344 = .ok (.bastore, 1) := by decide +kernel
theorem d2_345 : decode method_5_code 345 = .ok (.aload_n 0, 1) := by decide +kernel
theorem d2_346 : decode method_5_code 346 = .ok (.bipush 17, 2) := by decide +kernel
theorem d2_348 : decode method_5_code 348 = .ok (.bipush 17, 2) := by decide +kernel
theorem d2_350 : decode method_5_code 350 = .ok (.iload_n 1, 1) := by decide +kernel
theorem d2_351 : decode method_5_code 351 = .ok (.isub, 1) := by decide +kernel
theorem d2_352 : decode method_5_code 352 = .ok (.iload_n 2, 1) := by decide +kernel
theorem d2_353 : decode method_5_code 353 = .ok (.iload_n 3, 1) := by decide +kernel
theorem d2_354 : decode method_5_code 354 = .ok (.iload 4, 2) := by decide +kernel
theorem d2_356 : decode method_5_code 356 = .ok (.lload 5, 2) := by decide +kernel
theorem d2_358 : decode method_5_code 358 = .ok (.iload 7, 2) := by decide +kernel
theorem d2_360 : decode method_5_code 360 = .ok (.aload 8, 2) := by decide +kernel
theorem d2_362 : decode method_5_code 362 = .ok (.invokestatic 73, 3) := by decide +kernel
theorem d2_365 : decode method_5_code 365 = .ok (.bastore, 1) := by decide +kernel
theorem d2_366 : decode method_5_code 366 = .ok (.aload_n 0, 1) := by decide +kernel
theorem d2_367 : decode method_5_code 367 = .ok (.bipush 18, 2) := by decide +kernel
theorem d2_369 : decode method_5_code 369 = .ok (.bipush 18, 2) := by decide +kernel
theorem d2_371 : decode method_5_code 371 = .ok (.iload_n 1, 1) := by decide +kernel
theorem d2_372 : decode method_5_code 372 = .ok (.isub, 1) := by decide +kernel
theorem d2_373 : decode method_5_code 373 = .ok (.iload_n 2, 1) := by decide +kernel
theorem d2_374 : decode method_5_code 374 = .ok (.iload_n 3, 1) := by decide +kernel
theorem d2_375 : decode method_5_code 375 = .ok (.iload 4, 2) := by decide +kernel
theorem d2_377 : decode method_5_code 377 = .ok (.lload 5, 2) := by decide +kernel
theorem d2_379 : decode method_5_code 379 = .ok (.iload 7, 2) := by decide +kernel
theorem d2_381 : decode method_5_code 381 = .ok (.aload 8, 2) := by decide +kernel
theorem d2_383 : decode method_5_code 383 = .ok (.invokestatic 73, 3) := by decide +kernel
theorem d2_386 : decode method_5_code 386 = .ok (.bastore, 1) := by decide +kernel
theorem d2_387 : decode method_5_code 387 = .ok (.aload_n 0, 1) := by decide +kernel
theorem d2_388 : decode method_5_code 388 = .ok (.bipush 19, 2) := by decide +kernel
theorem d2_390 : decode method_5_code 390 = .ok (.bipush 19, 2) := by decide +kernel
theorem d2_392 : decode method_5_code 392 = .ok (.iload_n 1, 1) := by decide +kernel
theorem d2_393 : decode method_5_code 393 = .ok (.isub, 1) := by decide +kernel
theorem d2_394 : decode method_5_code 394 = .ok (.iload_n 2, 1) := by decide +kernel
theorem d2_395 : decode method_5_code 395 = .ok (.iload_n 3, 1) := by decide +kernel
theorem d2_396 : decode method_5_code 396 = .ok (.iload 4, 2) := by decide +kernel
theorem d2_398 : decode method_5_code 398 = .ok (.lload 5, 2) := by decide +kernel
theorem d2_400 : decode method_5_code 400 = .ok (.iload 7, 2) := by decide +kernel
theorem d2_402 : decode method_5_code 402 = .ok (.aload 8, 2) := by decide +kernel
theorem d2_404 : decode method_5_code 404 = .ok (.invokestatic 73, 3) := by decide +kernel
theorem d2_407 : decode method_5_code 407 = .ok (.bastore, 1) := by decide +kernel
theorem d2_408 : decode method_5_code 408 = .ok (.aload_n 0, 1) := by decide +kernel
theorem d2_409 : decode method_5_code 409 = .ok (.bipush 20, 2) := by decide +kernel
theorem d2_411 : decode method_5_code 411 = .ok (.bipush 20, 2) := by decide +kernel
theorem d2_413 : decode method_5_code 413 = .ok (.iload_n 1, 1) := by decide +kernel
theorem d2_414 : decode method_5_code 414 = .ok (.isub, 1) := by decide +kernel
theorem d2_415 : decode method_5_code 415 = .ok (.iload_n 2, 1) := by decide +kernel
theorem d2_416 : decode method_5_code 416 = .ok (.iload_n 3, 1) := by decide +kernel
theorem d2_417 : decode method_5_code 417 = .ok (.iload 4, 2) := by decide +kernel
theorem d2_419 : decode method_5_code 419 = .ok (.lload 5, 2) := by decide +kernel
theorem d2_421 : decode method_5_code 421 = .ok (.iload 7, 2) := by decide +kernel
theorem d2_423 : decode method_5_code 423 = .ok (.aload 8, 2) := by decide +kernel
theorem d2_425 : decode method_5_code 425 = .ok (.invokestatic 73, 3) := by decide +kernel
theorem d2_428 : decode method_5_code 428 = .ok (.bastore, 1) := by decide +kernel
theorem d2_429 : decode method_5_code 429 = .ok (.aload_n 0, 1) := by decide +kernel
theorem d2_430 : decode method_5_code 430 = .ok (.bipush 21, 2) := by decide +kernel
theorem d2_432 : decode method_5_code 432 = .ok (.bipush 21, 2) := by decide +kernel
theorem d2_434 : decode method_5_code 434 = .ok (.iload_n 1, 1) := by decide +kernel
theorem d2_435 : decode method_5_code 435 = .ok (.isub, 1) := by decide +kernel
theorem d2_436 : decode method_5_code 436 = .ok (.iload_n 2, 1) := by decide +kernel
theorem d2_437 : decode method_5_code 437 = .ok (.iload_n 3, 1) := by decide +kernel
theorem d2_438 : decode method_5_code 438 = .ok (.iload 4, 2) := by decide +kernel
theorem d2_440 : decode method_5_code 440 = .ok (.lload 5, 2) := by decide +kernel
theorem d2_442 : decode method_5_code 442 = .ok (.iload 7, 2) := by decide +kernel
theorem d2_444 : decode method_5_code 444 = .ok (.aload 8, 2) := by decide +kernel
theorem d2_446 : decode method_5_code 446 = .ok (.invokestatic 73, 3) := by decide +kernel
theorem d2_449 : decode method_5_code 449 = .ok (.bastore, 1) := by decide +kernel
theorem d2_450 : decode method_5_code 450 = .ok (.return_, 1) := by decide +kernel
theorem d3_0 : decode method_4_code 0 = .ok (.iload_n 0, 1) := by decide +kernel
theorem d3_1 : decode method_4_code 1 = .ok (.iload_n 1, 1) := by decide +kernel
theorem d3_2 : decode method_4_code 2 = .ok (.if_icmp .ge 6, 3) := by decide +kernel
theorem d3_5 : decode method_4_code 5 = .ok (.bipush 45, 2) := by decide +kernel
theorem d3_7 : decode method_4_code 7 = .ok (.ireturn, 1) := by decide +kernel
theorem d3_8 : decode method_4_code 8 = .ok (.iload_n 2, 1) := by decide +kernel
theorem d3_9 : decode method_4_code 9 = .ok (.iconst 1, 1) := by decide +kernel
theorem d3_10 : decode method_4_code 10 = .ok (.if_icmp .ne 11, 3) := by decide +kernel
theorem d3_13 : decode method_4_code 13 = .ok (.iload_n 0, 1) := by decide +kernel
theorem d3_14 : decode method_4_code 14 = .ok (.iload_n 1, 1) := by decide +kernel
theorem d3_15 : decode method_4_code 15 = .ok (.if_icmp .ne 6, 3) := by decide +kernel
theorem d3_18 : decode method_4_code 18 = .ok (.iload_n 3, 1) := by decide +kernel
theorem d3_19 : decode method_4_code 19 = .ok (.i2b, 1) := by decide +kernel
theorem d3_20 : decode method_4_code 20 = .ok (.ireturn, 1) := by decide +kernel
theorem d3_21 : decode method_4_code 21 = .ok (.iload_n 1, 1) := by decide +kernel
theorem d3_22 : decode method_4_code 22 = .ok (.iload_n 2, 1) := by decide +kernel
theorem d3_23 : decode method_4_code 23 = .ok (.iconst 1, 1) := by decide +kernel
theorem d3_24 : decode method_4_code 24 = .ok (.if_icmp .ne 7, 3) := by decide +kernel
theorem d3_27 : decode method_4_code 27 = .ok (.iconst 1, 1) := by decide +kernel
theorem d3_28 : decode method_4_code 28 = .ok (.goto 4, 3) := by decide +kernel
theorem d3_31 : decode method_4_code 31 = .ok (.iconst 0, 1) := by decide +kernel
theorem d3_32 : decode method_4_code 32 = .ok (.iadd, 1) := by decide +kernel
theorem d3_33 : decode method_4_code 33 = .ok (.istore 8, 2) := by decide +kernel
theorem d3_35 : decode method_4_code 35 = .ok (.iload_n 2, 1) := by decide +kernel
theorem d3_36 : decode method_4_code 36 = .ok (.iconst 3, 1) := by decide +kernel
theorem d3_37 : decode method_4_code 37 = .ok (.if_icmp .ne 7, 3) := by decide +kernel
theorem d3_40 : decode method_4_code 40 = .ok (.iconst 0, 1) := by decide +kernel
theorem d3_41 : decode method_4_code 41 = .ok (.goto 5, 3) := by decide +kernel
theorem d3_44 : decode method_4_code 44 = .ok (.iload 6, 2) := by decide +kernel
theorem d3_46 : decode method_4_code 46 = .ok (.istore 9, 2) := by decide +kernel
theorem d3_48 : decode method_4_code 48 = .ok (.iload_n 0, 1) := by decide +kernel
theorem d3_49 : decode method_4_code 49 = .ok (.iload 8, 2) := by decide +kernel
theorem d3_51 : decode method_4_code 51 = .ok (.if_icmp .lt 45, 3) := by decide +kernel
theorem d3_54 : decode method_4_code 54 = .ok (.iload_n 0, 1) := by decide +kernel
theorem d3_55 : decode method_4_code 55 = .ok (.iload 8, 2) := by decide +kernel
theorem d3_57 : decode method_4_code 57 = .ok (.iload 9, 2) := by decide +kernel
theorem d3_59 : decode method_4_code 59 = .ok (.iadd, 1) := by decide +kernel
theorem d3_60 : decode method_4_code 60 = .ok (.if_icmp .ge 36, 3) := by decide +kernel
theorem d3_63 : decode method_4_code 63 = .ok (.iload 9, 2) := by decide +kernel
theorem d3_65 : decode method_4_code 65 = .ok (.iconst 1, 1) := by decide +kernel
theorem d3_66 : decode method_4_code 66 = .ok (.isub, 1) := by decide +kernel
theorem d3_67 : decode method_4_code 67 = .ok (.iload_n 0, 1) := by decide +kernel
theorem d3_68 : decode method_4_code 68 = .ok (.iload 8, 2) := by decide +kernel
theorem d3_70 : decode method_4_code 70 = .ok (.isub, 1) := by decide +kernel
theorem d3_71 : decode method_4_code 71 = .ok (.isub, 1) := by decide +kernel
theorem d3_72 : decode method_4_code 72 = .ok (.istore 10, 2) := by decide +kernel
theorem d3_74 : decode method_4_code 74 = .ok (.lload 4, 2) := by decide +kernel
theorem d3_76 : decode method_4_code 76 = .ok (.aload 7, 2) := by decide +kernel
theorem d3_78 : decode method_4_code 78 = .ok (.iload 10, 2) := by decide +kernel
theorem d3_80 : decode method_4_code 80 = .ok (.laload, 1) := by decide +kernel
theorem d3_81 : decode method_4_code 81 = .ok (.ldiv, 1) := by decide +kernel
theorem d3_82 : decode method_4_code 82 = .ok (.lstore 11, 2) := by decide +kernel
theorem d3_84 : decode method_4_code 84 = .ok (.bipush 48, 2) := by decide +kernel
theorem d3_86 : decode method_4_code 86 = .ok (.lload 11, 2) := by decide +kernel
theorem d3_88 : decode method_4_code 88 = .ok (.ldc2_w 7, 3) := by decide +kernel
theorem d3_91 : decode method_4_code 91 = .ok (.lrem, 1) := by decide +kernel
theorem d3_92 : decode method_4_code 92 = .ok (.l2i, 1) := by decide +kernel
theorem d3_93 : decode method_4_code 93 = .ok (.isub, 1) := by decide +kernel
theorem d3_94 : decode method_4_code 94 = .ok (.i2b, 1) := by decide +kernel
theorem d3_95 : decode method_4_code 95 = .ok (.ireturn, 1) := by decide +kernel
theorem d3_96 : decode method_4_code 96 = .ok (.iload_n 2, 1) := by decide +kernel
theorem d3_97 : decode method_4_code 97 = .ok (.iconst 2, 1) := by decide +kernel
theorem d3_98 : decode method_4_code 98 = .ok (.if_icmp .ne 15, 3) := by decide +kernel
theorem d3_101 : decode method_4_code 101 = .ok (.iload_n 0, 1) := by decide +kernel
theorem d3_102 : decode method_4_code 102 = .ok (.iload 8, 2) := by decide +kernel
theorem d3_104 : decode method_4_code 104 = .ok (.iload 9, 2) := by decide +kernel
theorem d3_106 : decode method_4_code 106 = .ok (.iadd, 1) := by decide +kernel
theorem d3_107 : decode method_4_code 107 = .ok (.if_icmp .ne 6, 3) := by decide +kernel
theorem d3_110 : decode method_4_code 110 = .ok (.iload_n 3, 1) := by decide +kernel
theorem d3_111 : decode method_4_code 111 = .ok (.i2b, 1) := by decide +kernel
theorem d3_112 : decode method_4_code 112 = .ok (.ireturn, 1) := by decide +kernel
theorem d3_113 : decode method_4_code 113 = .ok (.iconst 0, 1) := by decide +kernel
theorem d3_114 : decode method_4_code 114 = .ok (.ireturn, 1) := by decide +kernel
theorem d4_0 : decode prog_40_method_2_code 0 = .ok (.iconst 0, 1) := by decide +kernel
theorem d4_1 : decode prog_40_method_2_code 1 = .ok (.istore 4, 2) := by decide +kernel
theorem d4_3 : decode prog_40_method_2_code 3 = .ok (.iload 4, 2) := by decide +kernel
theorem d4_5 : decode prog_40_method_2_code 5 = .ok (.iload_n 2, 1) := by decide +kernel
theorem d4_6 : decode prog_40_method_2_code 6 = .ok (.if_icmp .ge 220, 3) := by decide +kernel
theorem d4_9 : decode prog_40_method_2_code 9 = .ok (.iload 4, 2) := by decide +kernel
theorem d4_11 : decode prog_40_method_2_code 11 = .ok (.ifCond .ne 7, 3) := by decide +kernel
theorem d4_14 : decode prog_40_method_2_code 14 = .ok (.iconst 0, 1) := by decide +kernel
theorem d4_15 : decode prog_40_method_2_code 15 = .ok (.goto 9, 3) := by decide +kernel
theorem d4_18 : decode prog_40_method_2_code 18 = .ok (.aload_n 1, 1) := by decide +kernel
theorem d4_19 : decode prog_40_method_2_code 19 = .ok (.iload 4, 2) := by decide +kernel
theorem d4_21 : decode prog_40_method_2_code 21 = .ok (.iconst 1, 1) := by decide +kernel
theorem d4_22 : decode prog_40_method_2_code 22 = .ok (.isub, 1) := by decide +kernel
theorem d4_23 : decode prog_40_method_2_code 23 = .ok (.iaload, 1) := by decide +kernel
theorem d4_24 : decode prog_40_method_2_code 24 = .ok (.istore 5, 2) := by decide +kernel
theorem d4_26 : decode prog_40_method_2_code 26 = .ok (.iload 5, 2) := by decide +kernel
theorem d4_28 : decode prog_40_method_2_code 28 = .ok (.aload_n 1, 1) := by decide +kernel
theorem d4_29 : decode prog_40_method_2_code 29 = .ok (.iload 4, 2) := by decide +kernel
theorem d4_31 : decode prog_40_method_2_code 31 = .ok (.iaload, 1) := by decide +kernel
theorem d4_32 : decode prog_40_method_2_code 32 = .ok (.if_icmp .ge 19, 3) := by decide +kernel
theorem d4_35 : decode prog_40_method_2_code 35 = .ok (.aload_n 0, 1) := by decide +kernel
theorem d4_36 : decode prog_40_method_2_code 36 = .ok (.iload 5, 2) := by decide +kernel
theorem d4_38 : decode prog_40_method_2_code 38 = .ok (.baload, 1) := by decide +kernel
theorem d4_39 : decode prog_40_method_2_code 39 = .ok (.bipush 45, 2) := by decide +kernel
theorem d4_41 : decode prog_40_method_2_code 41 = .ok (.if_icmp .ne 10, 3) := by decide +kernel
theorem d4_44 : decode prog_40_method_2_code 44 = .ok (.iload 5, 2) := by decide +kernel
theorem d4_46 : decode prog_40_method_2_code 46 = .ok (.iconst 1, 1) := by decide +kernel
theorem d4_47 : decode prog_40_method_2_code 47 = .ok (.iadd, 1) := by decide +kernel
theorem d4_48 : decode prog_40_method_2_code 48 = .ok (.goto 5, 3) := by decide +kernel
theorem d4_51 : decode prog_40_method_2_code 51 = .ok (.iload 5, 2) := by decide +kernel
theorem d4_53 : decode prog_40_method_2_code 53 = .ok (.istore 6, 2) := by decide +kernel
theorem d4_55 : decode prog_40_method_2_code 55 = .ok (.aload_n 1, 1) := by decide +kernel
theorem d4_56 : decode prog_40_method_2_code 56 = .ok (.iload 4, 2) := by decide +kernel
theorem d4_58 : decode prog_40_method_2_code 58 = .ok (.iaload, 1) := by decide +kernel
theorem d4_59 : decode prog_40_method_2_code 59 = .ok (.iload 6, 2) := by decide +kernel
theorem d4_61 : decode prog_40_method_2_code 61 = .ok (.isub, 1) := by decide +kernel
theorem d4_62 : decode prog_40_method_2_code 62 = .ok (.istore 7, 2) := by decide +kernel
theorem d4_64 : decode prog_40_method_2_code 64 = .ok (.iload 7, 2) := by decide +kernel
theorem d4_66 : decode prog_40_method_2_code 66 = .ok (.ifCond .eq 32, 3) := by decide +kernel
theorem d4_69 : decode prog_40_method_2_code 69 = .ok (.iload 7, 2) := by decide +kernel
theorem d4_71 : decode prog_40_method_2_code 71 = .ok (.bipush 19, 2) := by decide +kernel
theorem d4_73 : decode prog_40_method_2_code 73 = .ok (.if_icmp .gt 25, 3) := by decide +kernel
theorem d4_76 : decode prog_40_method_2_code 76 = .ok (.aload_n 0, 1) := by decide +kernel
theorem d4_77 : decode prog_40_method_2_code 77 = .ok (.iload 6, 2) := by decide +kernel
theorem d4_79 : decode prog_40_method_2_code 79 = .ok (.baload, 1) := by decide +kernel
theorem d4_80 : decode prog_40_method_2_code 80 = .ok (.bipush 48, 2) := by decide +kernel
theorem d4_82 : decode prog_40_method_2_code 82 = .ok (.if_icmp .ne 18, 3) := by decide +kernel
theorem d4_85 : decode prog_40_method_2_code 85 = .ok (.iload 7, 2) := by decide +kernel
theorem d4_87 : decode prog_40_method_2_code 87 = .ok (.iconst 1, 1) := by decide +kernel
theorem d4_88 : decode prog_40_method_2_code 88 = .ok (.if_icmp .gt 10, 3) := by decide +kernel
theorem d4_91 : decode prog_40_method_2_code 91 = .ok (.iload 6, 2) := by decide +kernel
theorem d4_93 : decode prog_40_method_2_code 93 = .ok (.iload 5, 2) := by decide +kernel
theorem d4_95 : decode prog_40_method_2_code 95 = .ok (.if_icmp .le 5, 3) := by decide +kernel
theorem d4_98 : decode prog_40_method_2_code 98 = .ok (.iconst 0, 1) := by decide +kernel
theorem d4_99 : decode prog_40_method_2_code 99 = .ok (.ireturn, 1) := by decide +kernel
theorem d4_100 : decode prog_40_method_2_code 100 = .ok (.lconst 0, 1) := by decide +kernel
theorem d4_101 : decode prog_40_method_2_code 101 = .ok (.lstore 8, 2) := by decide +kernel
theorem d4_103 : decode prog_40_method_2_code 103 = .ok (.iload 6, 2) := by decide +kernel
theorem d4_105 : decode prog_40_method_2_code 105 = .ok (.istore 10, 2) := by decide +kernel
theorem d4_107 : decode prog_40_method_2_code 107 = .ok (.iload 10, 2) := by decide +kernel
theorem d4_109 : decode prog_40_method_2_code 109 = .ok (.aload_n 1, 1) := by decide +kernel
theorem d4_110 : decode prog_40_method_2_code 110 = .ok (.iload 4, 2) := by decide +kernel
theorem d4_112 : decode prog_40_method_2_code 112 = .ok (.iaload, 1) := by decide +kernel
theorem d4_113 : decode prog_40_method_2_code 113 = .ok (.if_icmp .ge 70, 3) := by decide +kernel
theorem d4_116 : decode prog_40_method_2_code 116 = .ok (.aload_n 0, 1) := by decide +kernel
theorem d4_117 : decode prog_40_method_2_code 117 = .ok (.iload 10, 2) := by decide +kernel
theorem d4_119 : decode prog_40_method_2_code 119 = .ok (.baload, 1) := by decide +kernel
theorem d4_120 : decode prog_40_method_2_code 120 = .ok (.bipush 48, 2) := by decide +kernel
theorem d4_122 : decode prog_40_method_2_code 122 = .ok (.isub, 1) := by decide +kernel
theorem d4_123 : decode prog_40_method_2_code 123 = .ok (.istore 11, 2) := by decide +kernel
theorem d4_125 : decode prog_40_method_2_code 125 = .ok (.iload 11, 2) := by decide +kernel
theorem d4_127 : decode prog_40_method_2_code 127 = .ok (.ifCond .lt 10, 3) := by decide +kernel
theorem d4_130 : decode prog_40_method_2_code 130 = .ok (.iload 11, 2) := by decide +kernel
theorem d4_132 : decode prog_40_method_2_code 132 = .ok (.bipush 9, 2) := by decide +kernel
theorem d4_134 : decode prog_40_method_2_code 134 = .ok (.if_icmp .le 5, 3) := by decide +kernel
theorem d4_137 : decode prog_40_method_2_code 137 = .ok (.iconst 0, 1) := by decide +kernel
theorem d4_138 : decode prog_40_method_2_code 138 = .ok (.ireturn, 1) := by decide +kernel
theorem d4_139 : decode prog_40_method_2_code 139 = .ok (.iload 7, 2) := by decide +kernel
theorem d4_141 : decode prog_40_method_2_code 141 = .ok (.bipush 18, 2) := by decide +kernel
theorem d4_143 : decode prog_40_method_2_code 143 = .ok (.if_icmp .le 22, 3) := by decide +kernel
theorem d4_146 : decode prog_40_method_2_code 146 = .ok (.lload 8, 2) := by decide +kernel
theorem d4_148 : decode prog_40_method_2_code 148 = .ok (.ldc2_w 11, 3) := by decide +kernel
theorem d4_151 : decode prog_40_method_2_code 151 = .ok (.iload 11, 2) := by decide +kernel
theorem d4_153 : decode prog_40_method_2_code 153 = .ok (.i2l, 1) := by decide +kernel
theorem d4_154 : decode prog_40_method_2_code 154 = .ok (.ladd, 1) := by decide +kernel
theorem d4_155 : decode prog_40_method_2_code 155 = .ok (.ldc2_w 13, 3) := by decide +kernel
theorem d4_158 : decode prog_40_method_2_code 158 = .ok (.ldiv, 1) := by decide +kernel
theorem d4_159 : decode prog_40_method_2_code 159 = .ok (.lcmp, 1) := by decide +kernel
theorem d4_160 : decode prog_40_method_2_code 160 = .ok (.ifCond .ge 5, 3) := by decide +kernel
theorem d4_163 : decode prog_40_method_2_code 163 = .ok (.iconst 0, 1) := by decide +kernel
theorem d4_164 : decode prog_40_method_2_code 164 = .ok (.ireturn, 1) := by decide +kernel
theorem d4_165 : decode prog_40_method_2_code 165 = .ok (.ldc2_w 13, 3) := by decide +kernel
theorem d4_168 : decode prog_40_method_2_code 168 = .ok (.lload 8, 2) := by decide +kernel
theorem d4_170 : decode prog_40_method_2_code 170 = .ok (.lmul, 1) := by decide +kernel
theorem d4_171 : decode prog_40_method_2_code 171 = .ok (.iload 11, 2) := by decide +kernel
theorem d4_173 : decode prog_40_method_2_code 173 = .ok (.i2l, 1) := by decide +kernel
theorem d4_174 : decode prog_40_method_2_code 174 = .ok (.lsub, 1) := by decide +kernel
theorem d4_175 : decode prog_40_method_2_code 175 = .ok (.lstore 8, 2) := by decide +kernel
theorem d4_177 : decode prog_40_method_2_code 177 = .ok (.iinc 10 1, 3) := by decide +kernel
theorem d4_180 : decode prog_40_method_2_code 180 = .ok (.goto (-73), 3) := by decide +kernel
theorem d4_183 : decode prog_40_method_2_code 183 = .ok (.iload 6, 2) := by decide +kernel
theorem d4_185 : decode prog_40_method_2_code 185 = .ok (.iload 5, 2) := by decide +kernel
theorem d4_187 : decode prog_40_method_2_code 187 = .ok (.if_icmp .ne 14, 3) := by decide +kernel
theorem d4_190 : decode prog_40_method_2_code 190 = .ok (.lload 8, 2) := by decide +kernel
theorem d4_192 : decode prog_40_method_2_code 192 = .ok (.ldc2_w 11, 3) := by decide +kernel
theorem d4_195 : decode prog_40_method_2_code 195 = .ok (.lcmp, 1) := by decide +kernel
theorem d4_196 : decode prog_40_method_2_code 196 = .ok (.ifCond .ne 5, 3) := by decide +kernel
theorem d4_199 : decode prog_40_method_2_code 199 = .ok (.iconst 0, 1) := by decide +kernel
theorem d4_200 : decode prog_40_method_2_code 200 = .ok (.ireturn, 1) := by decide +kernel
theorem d4_201 : decode prog_40_method_2_code 201 = .ok (.aload_n 3, 1) := by decide +kernel
theorem d4_202 : decode prog_40_method_2_code 202 = .ok (.iload 4, 2) := by decide +kernel
theorem d4_204 : decode prog_40_method_2_code 204 = .ok (.iload 6, 2) := by decide +kernel
theorem d4_206 : decode prog_40_method_2_code 206 = .ok (.iload 5, 2) := by decide +kernel
theorem d4_208 : decode prog_40_method_2_code 208 = .ok (.if_icmp .le 8, 3) := by decide +kernel
theorem d4_211 : decode prog_40_method_2_code 211 = .ok (.lload 8, 2) := by decide +kernel
theorem d4_213 : decode prog_40_method_2_code 213 = .ok (.goto 6, 3) := by decide +kernel
theorem d4_216 : decode prog_40_method_2_code 216 = .ok (.lload 8, 2) := by decide +kernel
theorem d4_218 : decode prog_40_method_2_code 218 = .ok (.lneg, 1) := by decide +kernel
theorem d4_219 : decode prog_40_method_2_code 219 = .ok (.lastore, 1) := by decide +kernel
theorem d4_220 : decode prog_40_method_2_code 220 = .ok (.iinc 4 1, 3) := by decide +kernel
theorem d4_223 : decode prog_40_method_2_code 223 = .ok (.goto (-220), 3) := by decide +kernel
theorem d4_226 : decode prog_40_method_2_code 226 = .ok (.iconst 1, 1) := by decide +kernel
theorem d4_227 : decode prog_40_method_2_code 227 = .ok (.ireturn, 1) := by decide +kernel
theorem d5_0 : decode jdk_29_method_69_code 0 = .ok (.iload_n 0, 1) := by decide +kernel
theorem d5_1 : decode jdk_29_method_69_code 1 = .ok (.iload_n 1, 1) := by decide +kernel
theorem d5_2 : decode jdk_29_method_69_code 2 = .ok (.if_icmp .gt 7, 3) := by decide +kernel
theorem d5_5 : decode jdk_29_method_69_code 5 = .ok (.iload_n 0, 1) := by decide +kernel
theorem d5_6 : decode jdk_29_method_69_code 6 = .ok (.goto 4, 3) := by decide +kernel
theorem d5_9 : decode jdk_29_method_69_code 9 = .ok (.iload_n 1, 1) := by decide +kernel
theorem d5_10 : decode jdk_29_method_69_code 10 = .ok (.ireturn, 1) := by decide +kernel
theorem pd0 : parseMethodDescriptor "(IIIIJI[J)B" = some ⟨[.int, .int, .int, .int, .long, .int, (.array .long)], some .byte⟩ := by decide +kernel
theorem pd1 : parseMethodDescriptor "(J[J)I" = some ⟨[.long, (.array .long)], some .int⟩ := by decide +kernel
theorem pd2 : parseMethodDescriptor "([BIIIIJI[J)V" = some ⟨[(.array .byte), .int, .int, .int, .int, .long, .int, (.array .long)], none⟩ := by decide +kernel
theorem pd3 : parseMethodDescriptor "([B[II[J)Z" = some ⟨[(.array .byte), (.array .int), .int, (.array .long)], some .boolean⟩ := by decide +kernel
theorem pd4 : parseMethodDescriptor "(II)I" = some ⟨[.int, .int], some .int⟩ := by decide +kernel
def fMin (u : Int32) (v : Int32) : Int32 :=
  if v < u then
    v
  else
    u
set_option maxRecDepth 65536 in
set_option maxHeartbeats 4000000 in
theorem ct_fMin (l : Launch) (Z : State) (a0 : Array Value) (hw : ∀ d ∈ tables_1, d.before a0 Z = true) (u : Int32) (v : Int32) (h0 : Heap) (n0 : Nat) (Z0 : n0 ≤ h0.size) :
    Ct l Z (⟨"java/lang/Math", "min", "(II)I"⟩ : MethodName) jdk_29_method_69_code 2 (some .int) ({ frames := 0, cells := 0, slots := 0, locals := 0 } : Room) #[(.int u), (.int v)] h0 n0 (fun r_ h_ => r_ = some (.int (fMin u v)) ∧ h_ = h0) := by
  refine Ct.intro (Jvm.Free.JP.mathPlain rfl (by decide +kernel)) Z0 ?_
  intro p e s m below meth c T X
  refine WP.cast (g' := (mkF m 0 #[.val (.int u), .val (.int v)] [])) (by first | (simp [entryFrame, mkF, argsToLocals, Value.category]; done) | rfl) ?_
  refine w_iloadN X d5_0 rfl (pc' := 1) rfl ?_
  refine w_iloadN X d5_1 rfl (pc' := 2) rfl ?_
  refine w_icmp_gt X d5_2 (by decide) (p1 := 9) (by decide) (p2 := 5) rfl (fun c2 => ?_) (fun c2 => ?_)
  · -- c2 taken
    refine w_iloadN X d5_9 rfl (pc' := 10) rfl ?_
    exact w_retI X rfl d5_10 (by decide) (by decide) ⟨by rw [fMin, if_pos c2], rfl⟩
  · -- c2 not taken
    refine w_iloadN X d5_5 rfl (pc' := 6) rfl ?_
    refine w_goto X d5_6 (by decide) (pc' := 10) (by decide) ?_
    exact w_retI X rfl d5_10 (by decide) (by decide) ⟨by rw [fMin, if_neg c2], rfl⟩
def P10 (k : Nat) : Int64 := Int64.ofNat (10 ^ k)
theorem pow18 {k : Nat} (h : k ≤ 18) : 1 ≤ 10 ^ k ∧ 10 ^ k ≤ 1000000000000000000 := ⟨Nat.one_le_pow _ _ (by decide), by have := Nat.pow_le_pow_right (n := 10) (by decide) h; omega⟩
theorem P10_int {k : Nat} (h : k ≤ 18) : (P10 k).toInt = (10 ^ k : Nat) := by
  have := pow18 h
  exact Int64.toInt_ofNat_of_lt (by omega)
def dgs (neg : Int64) : Nat → Int32
  | 0 => 1
  | k + 1 => if -(P10 (k + 1)) < neg then dgs neg k else Int32.ofNat (k + 2)
theorem neg_P10 {k : Nat} (h : k ≤ 18) : (-(P10 k)).toInt = -(10 ^ k : Nat) := by
  have h1 := c_lneg (P10 k); have h2 := P10_int h; have h3 := pow18 h; have r := rng64 (-(P10 k)); omega
theorem dgs_spec {neg : Int64} {N : Nat} (hN : neg.toInt = -(N : Int)) : ∀ k, k ≤ 18 → ∃ m : Nat, (dgs neg k).toInt = m ∧ 1 ≤ m ∧ m ≤ k + 1 ∧ (2 ≤ m → 10 ^ (m - 1) ≤ N) ∧ ∀ j, m ≤ j → j ≤ k → N < 10 ^ j
  | 0, _ => ⟨1, rfl, by omega, by omega, fun q => absurd q (by decide), fun j h1 h2 => by omega⟩
  | k + 1, hk => by
    obtain ⟨m, h1, h2, h3, h4, h5⟩ := dgs_spec hN k (by omega)
    have h6 := neg_P10 (k := k + 1) hk
    by_cases c : -(P10 (k + 1)) < neg
    · rw [dgs, if_pos c]
      rw [Int64.lt_iff_toInt_lt, h6, hN] at c
      refine ⟨m, h1, h2, by omega, h4, fun j q1 q2 => ?_⟩
      by_cases e : j = k + 1
      · subst e; omega
      · exact h5 j q1 (by omega)
    · rw [dgs, if_neg c]
      rw [Int64.lt_iff_toInt_lt, h6, hN] at c
      refine ⟨k + 2, Int32.toInt_ofNat_small (by omega), by omega, by omega, fun _ => ?_, fun j q1 q2 => by omega⟩
      show 10 ^ (k + 1) ≤ N
      omega
/-- the number of digits -/
theorem dgs_ok {neg : Int64} {N : Nat} (hN : neg.toInt = -(N : Int)) : ∃ m : Nat, (dgs neg 18).toInt = m ∧ 1 ≤ m ∧ m ≤ 19 ∧ (2 ≤ m → 10 ^ (m - 1) ≤ N) ∧ N < 10 ^ m := by
  obtain ⟨m, h1, h2, h3, h4, h5⟩ := dgs_spec hN 18 (by decide)
  refine ⟨m, h1, h2, by omega, h4, ?_⟩
  by_cases c : m ≤ 18
  · exact h5 m (Nat.le_refl _) c
  · have e : m = 19 := by omega
    subst e
    have r := rng64 neg
    omega
def cxD (neg : Int64) (k : Nat) : Int32 := nar .byte (((48 : Int32) - ((neg / P10 k) % (10 : Int64)).toInt32)).toInt8.toInt32
def cx2 (r ds nd x e : Int32) (neg : Int64) : Int32 :=
  if r < ds then (if x = 2 then (if r = ds + nd then nar .byte e.toInt8.toInt32 else nar .byte 0) else nar .byte 0)
  else if r < ds + nd then cxD neg ((nd - 1) - (r - ds)).toInt.toNat
  else (if x = 2 then (if r = ds + nd then nar .byte e.toInt8.toInt32 else nar .byte 0) else nar .byte 0)
def fCx (r s x e : Int32) (neg : Int64) (n : Int32) : Int32 :=
  if r < s then nar .byte 45 else if x = 1 then (if r = s then nar .byte e.toInt8.toInt32 else cx2 r (s + 1) (if x = 3 then 0 else n) x e neg) else cx2 r (s + 0) (if x = 3 then 0 else n) x e neg
/-- the digits of N, from the chars of neg -/
theorem cxD_int {neg : Int64} {N k : Nat} (hN : neg.toInt = -(N : Int)) (hk : k ≤ 18) : (cxD neg k).toInt = 48 + (N / 10 ^ k % 10 : Nat) := by
  have h1 := P10_int hk
  have h2 := pow18 hk
  have hne : P10 k ≠ -1 := fun q => by rw [q, show (-1 : Int64).toInt = -1 from rfl] at h1; omega
  have a1 : (neg / P10 k).toInt = -((N / 10 ^ k : Nat) : Int) := by
    rw [Int64.toInt_div_of_ne_right _ _ hne, h1, hN, Int.neg_tdiv]
    rfl
  have a2 : ((neg / P10 k) % 10).toInt = -((N / 10 ^ k % 10 : Nat) : Int) := by
    rw [Int64.toInt_mod, a1, show (10 : Int64).toInt = 10 from rfl, Int.neg_tmod]
    rfl
  have a3 := c_l2i ((neg / P10 k) % 10)
  have a4 := c_isub 48 ((neg / P10 k) % 10).toInt32
  have r1 := rng32 ((neg / P10 k) % 10).toInt32; have r2 := rng32 ((48 : Int32) - ((neg / P10 k) % 10).toInt32)
  rw [show (48 : Int32).toInt = 48 from rfl] at a4
  have hd : N / 10 ^ k % 10 < 10 := Nat.mod_lt _ (by decide)
  show (((48 : Int32) - ((neg / P10 k) % (10 : Int64)).toInt32).toInt8.toInt32.toInt8.toInt32).toInt = _
  have b1 := c_i2b ((48 : Int32) - ((neg / P10 k) % (10 : Int64)).toInt32)
  have b2 := c_i2b (((48 : Int32) - ((neg / P10 k) % (10 : Int64)).toInt32).toInt8.toInt32)
  omega
def lp (g : Nat → Int32) (D : Int32) : Nat → Nat → Int64 → Option Int64
  | _, 0, acc => some acc
  | k, q + 1, acc => if g k - 48 < 0 then none else if 9 < g k - 48 then none else
      if 18 < D then (if acc < (-9223372036854775808 + (g k - 48).toInt64) / 10 then none else lp g D (k + 1) q (10 * acc - (g k - 48).toInt64))
      else lp g D (k + 1) q (10 * acc - (g k - 48).toInt64)
def prF (g : Nat → Int32) (a b : Int32) : Int32 := if a < b then (if g a.toInt.toNat = 45 then a + 1 else a) else a
def pr2 (g : Nat → Int32) (a b : Int32) : Option Int64 :=
  match lp g (b - prF g a b) (prF g a b).toInt.toNat (b - prF g a b).toInt.toNat 0 with
  | none => none
  | some acc => if prF g a b = a then (if acc = -9223372036854775808 then none else some (-acc)) else some acc
def prs (g : Nat → Int32) (a b : Int32) : Option Int64 :=
  if b - prF g a b = 0 then none else if 19 < b - prF g a b then none else
    if g (prF g a b).toInt.toNat = 48 then (if 1 < b - prF g a b then none else if a < prF g a b then none else pr2 g a b) else pr2 g a b
/-- the value, in Int -/
def vl (g : Nat → Int32) : Nat → Nat → Int → Int
  | _, 0, A => A
  | k, q + 1, A => vl g (k + 1) q (10 * A - ((g k).toInt - 48))
theorem vl_le {g : Nat → Int32} : ∀ (q k : Nat) (A : Int), A ≤ 0 → (∀ i, k ≤ i → i < k + q → 48 ≤ (g i).toInt) → vl g k q A ≤ A
  | 0, _, _, _, _ => Int.le_refl _
  | q + 1, k, A, hA, hd => by
    have h1 := hd k (Nat.le_refl _) (by omega)
    have h2 := vl_le (g := g) q (k + 1) (10 * A - ((g k).toInt - 48)) (by omega) (fun i p1 p2 => hd i (by omega) (by omega))
    show vl g (k + 1) q (10 * A - ((g k).toInt - 48)) ≤ A
    omega
theorem sub48 {x : Int32} (h : 48 ≤ x.toInt ∧ x.toInt ≤ 57) : (x - 48).toInt = x.toInt - 48 := by
  have h1 := c_isub x 48; have r := rng32 (x - 48)
  rw [show (48 : Int32).toInt = 48 from rfl] at h1; omega
theorem lp_spec {g : Nat → Int32} {D : Int32} : ∀ (q k : Nat) (acc : Int64), acc.toInt ≤ 0 → (∀ i, k ≤ i → i < k + q → 48 ≤ (g i).toInt ∧ (g i).toInt ≤ 57) → (18 < D ∨ -9223372036854775808 ≤ vl g k q acc.toInt) →
    lp g D k q acc = if -9223372036854775808 ≤ vl g k q acc.toInt then some (Int64.ofInt (vl g k q acc.toInt)) else none
  | 0, k, acc, _, _, _ => by
    have r := rng64 acc
    show some acc = if -9223372036854775808 ≤ acc.toInt then some (Int64.ofInt acc.toInt) else none
    rw [if_pos r.1, Int64.ofInt_toInt]
  | q + 1, k, acc, hA, hd, hD => by
    have h1 := hd k (Nat.le_refl _) (by omega)
    have h2 := sub48 h1
    have n1 : ¬ g k - 48 < 0 := by rw [Int32.lt_iff_toInt_lt, h2, show (0 : Int32).toInt = 0 from rfl]; omega
    have n2 : ¬ 9 < g k - 48 := by rw [Int32.lt_iff_toInt_lt, h2, show (9 : Int32).toInt = 9 from rfl]; omega
    have hd' : ∀ i, k + 1 ≤ i → i < k + 1 + q → 48 ≤ (g i).toInt ∧ (g i).toInt ≤ 57 := fun i p1 p2 => hd i (by omega) (by omega)
    have hv : vl g k (q + 1) acc.toInt = vl g (k + 1) q (10 * acc.toInt - ((g k).toInt - 48)) := rfl
    have hle := vl_le (g := g) q (k + 1) (10 * acc.toInt - ((g k).toInt - 48)) (by omega) (fun i p1 p2 => (hd' i p1 p2).1)
    rw [lp, if_neg n1, if_neg n2]
    rw [hv] at hD ⊢
    have m1 := c_lmul 10 acc; have m2 := c_lsub (10 * acc) (g k - 48).toInt64; have m3 := c_i2l (g k - 48)
    have r1 := rng64 acc; have r3 := rng64 (10 * acc - (g k - 48).toInt64)
    rw [show (10 : Int64).toInt = 10 from rfl] at m1
    have step : -9223372036854775808 ≤ 10 * acc.toInt - ((g k).toInt - 48) → (10 * acc - (g k - 48).toInt64).toInt = 10 * acc.toInt - ((g k).toInt - 48) := fun z => by omega
    have m4 := c_ladd (-9223372036854775808) (g k - 48).toInt64
    have r4 := rng64 (-9223372036854775808 + (g k - 48).toInt64)
    rw [show (-9223372036854775808 : Int64).toInt = -9223372036854775808 from rfl] at m4
    have e4 : (-9223372036854775808 + (g k - 48).toInt64).toInt = -9223372036854775808 + ((g k).toInt - 48) := by omega
    have e5 := (c_ldiv (-9223372036854775808 + (g k - 48).toInt64) 10 10 (by decide) (by decide)).2 (by omega)
    rw [e4] at e5
    by_cases c : 18 < D
    · rw [if_pos c]
      by_cases c2 : acc < (-9223372036854775808 + (g k - 48).toInt64) / 10
      · rw [if_pos c2]
        rw [Int64.lt_iff_toInt_lt, e5] at c2
        rw [if_neg (by omega)]
      · rw [if_neg c2]
        rw [Int64.lt_iff_toInt_lt, e5] at c2
        have e6 := step (by omega)
        rw [lp_spec q (k + 1) _ (by omega) hd' (Or.inl c), e6]
    · rw [if_neg c]
      have z : -9223372036854775808 ≤ vl g (k + 1) q (10 * acc.toInt - ((g k).toInt - 48)) := hD.resolve_left c
      have e6 := step (by omega)
      rw [lp_spec q (k + 1) _ (by omega) hd' (Or.inr (by rw [e6]; exact z)), e6]
/-- the digits of N in a row -/
theorem vl_digits {g : Nat → Int32} {N : Nat} : ∀ (q k : Nat) (A : Int), (∀ i, i < q → (g (k + i)).toInt = 48 + (N / 10 ^ (q - 1 - i) % 10 : Nat)) → vl g k q A = A * (10 ^ q : Nat) - (N % 10 ^ q : Nat)
  | 0, k, A, _ => by show A = _; simp [Nat.mod_one]
  | q + 1, k, A, h => by
    have h1 := h 0 (by omega)
    have h2 := vl_digits (g := g) (N := N) q (k + 1) (10 * A - ((g k).toInt - 48)) (fun i hi => by
      have := h (i + 1) (by omega)
      rw [show k + 1 + i = k + (i + 1) by omega, this, show q + 1 - 1 - (i + 1) = q - 1 - i by omega])
    show vl g (k + 1) q (10 * A - ((g k).toInt - 48)) = _
    rw [h2]
    rw [show k + 0 = k from rfl, show q + 1 - 1 - 0 = q by omega] at h1
    have h3 : N % 10 ^ (q + 1) = (N / 10 ^ q % 10) * 10 ^ q + N % 10 ^ q := by
      rw [Nat.pow_succ, Nat.mod_mul, Nat.add_comm, Nat.mul_comm (10 ^ q)]
    rw [h3, h1, Nat.pow_succ]
    simp only [Int.natCast_add, Int.natCast_mul]
    generalize ((N / 10 ^ q % 10 : Nat) : Int) = dd
    generalize ((10 ^ q : Nat) : Int) = pp
    generalize ((N % 10 ^ q : Nat) : Int) = rr
    have e1 : (10 * A - (48 + dd - 48)) * pp = 10 * A * pp - dd * pp := by rw [show 48 + dd - 48 = dd by omega, Int.sub_mul]
    have e2 : A * (pp * ((10 : Nat) : Int)) = 10 * A * pp := by
      rw [show ((10 : Nat) : Int) = 10 from rfl, Int.mul_comm pp 10, ← Int.mul_assoc, Int.mul_comm A 10]
    omega
theorem P10_ne {k : Nat} (h : k ≤ 18) : P10 k ≠ 0 := fun q => by
  have h1 := P10_int h; have h2 := pow18 h
  rw [q, show (0 : Int64).toInt = 0 from rfl] at h1; omega
theorem nar2 (q : Int32) : nar .byte (nar .byte q) = nar .byte q := by simp [nar]
theorem fCx_nar (r s x e : Int32) (neg : Int64) (n : Int32) : nar .byte (fCx r s x e neg n) = fCx r s x e neg n := by
  unfold fCx cx2 cxD
  repeat' split
  all_goals exact nar2 _
/-- the place of a digit -/
theorem cx_at {r ds nd s n : Int32} (hs : 0 ≤ s.toInt ∧ s.toInt ≤ 1) (hn : 1 ≤ n.toInt ∧ n.toInt ≤ 19) (hr : -1 ≤ r.toInt ∧ r.toInt ≤ 30) (hds : ds = s + 1 ∨ ds = s + 0) (hnd : nd = 0 ∨ nd = n) (c1 : ¬ r < ds) (c2 : r < ds + nd) :
    ((nd - 1) - (r - ds)).toInt = (((nd - 1) - (r - ds)).toInt.toNat : Nat) ∧ ((nd - 1) - (r - ds)).toInt.toNat ≤ 18 := by
  have d1 := c_iadd s 1; have d2 := c_iadd s 0; have r1 := rng32 (s + 1); have r2 := rng32 (s + 0)
  rw [show (1 : Int32).toInt = 1 from rfl] at d1
  rw [show (0 : Int32).toInt = 0 from rfl] at d2
  have hd : 0 ≤ ds.toInt ∧ ds.toInt ≤ 2 := by rcases hds with rfl | rfl <;> omega
  have hn2 : 0 ≤ nd.toInt ∧ nd.toInt ≤ 19 := by
    rcases hnd with rfl | rfl
    · decide
    · omega
  have e1 := c_isub nd 1; have e2 := c_isub r ds; have e3 := c_isub (nd - 1) (r - ds); have e4 := c_iadd ds nd
  have q1 := rng32 (nd - 1); have q2 := rng32 (r - ds); have q3 := rng32 ((nd - 1) - (r - ds)); have q4 := rng32 (ds + nd)
  rw [show (1 : Int32).toInt = 1 from rfl] at e1
  rw [Int32.lt_iff_toInt_lt] at c1 c2
  omega
theorem fill_step {Z : State} {h : Heap} {a : Addr} {g F : Nat → Int32} {i N : Nat} {v : Int32} (A : AI Z h a .byte N (fun q => if q = i then v else g q)) (H : ∀ k, k < i → g k = F k) (hv : v = F i) : ∃ g', AI Z h a .byte N g' ∧ ∀ k, k < i + 1 → g' k = F k :=
  ⟨_, A, fun k hk => by
    by_cases e : k = i
    · subst e; simp [hv]
    · simp only [e, if_false]; exact H k (by omega)⟩
theorem fill_stepJ {Z : State} {h : Heap} {a : Addr} {g F : Nat → Int64} {i N : Nat} {v : Int64} (A : AJ Z h a N (fun q => if q = i then v else g q)) (H : ∀ k, k < i → g k = F k) (hv : v = F i) : ∃ g', AJ Z h a N g' ∧ ∀ k, k < i + 1 → g' k = F k :=
  ⟨_, A, fun k hk => by
    by_cases e : k = i
    · subst e; simp [hv]
    · simp only [e, if_false]; exact H k (by omega)⟩
def FX (off s x e : Int32) (neg : Int64) (n : Int32) (k : Nat) : Int32 := fCx (Int32.ofNat k - off) s x e neg n
theorem r_ok {k : Nat} {off : Int32} (hk : k ≤ 22) (ho : 0 ≤ off.toInt ∧ off.toInt ≤ 1) : -1 ≤ (Int32.ofNat k - off).toInt ∧ (Int32.ofNat k - off).toInt ≤ 30 := by
  have h1 := c_isub (Int32.ofNat k) off
  have h2 : (Int32.ofNat k).toInt = k := Int32.toInt_ofNat_small (by omega)
  have r := rng32 (Int32.ofNat k - off)
  omega
theorem x_succ {x : Int32} {j m : Nat} (h : x.toInt = j) (hj : j < m) (hm : m < 2 ^ 31) : (x + 1).toInt = (j + 1 : Nat) := by
  have h1 := c_iadd x 1; have r := rng32 (x + 1)
  rw [show (1 : Int32).toInt = 1 from rfl] at h1; omega
theorem prF_cases (g : Nat → Int32) (a b : Int32) : prF g a b = a ∨ (a < b ∧ prF g a b = a + 1) := by
  unfold prF; split
  · next h => split
              · exact Or.inr ⟨h, rfl⟩
              · exact Or.inl rfl
  · exact Or.inl rfl
theorem D_int {b f : Int32} (hb : 0 ≤ b.toInt ∧ b.toInt ≤ 22) (hf : 0 ≤ f.toInt ∧ f.toInt ≤ 22) : (b - f).toInt = b.toInt - f.toInt := by
  have h1 := c_isub b f; have r := rng32 (b - f); omega

set_option maxRecDepth 65536 in
set_option maxHeartbeats 4000000 in
theorem ct_dg (l : Launch) (Z : State) (a0 : Array Value) (hw : ∀ d ∈ tables_1, d.before a0 Z = true) (ng : Int64) (u : Addr) (h0 : Heap) (n0 : Nat) (Z0 : n0 ≤ h0.size) (V : AJ Z h0 u 19 P10) :
    Ct l Z (⟨"com/example/varve/varve/column/DigitsOfPinLaw", "digitsOf", "(J[J)I"⟩ : MethodName) method_3_code 4 (some .int) ({ frames := 0, cells := 0, slots := 0, locals := 0 } : Room) #[(.long ng), (.ref u)] h0 n0 (fun r h => r = some (.int (dgs ng 18)) ∧ h = h0) := by
  refine Ct.intro (plainFor_of_name (by first | (simp [plainName, overriddenIn]; done) | decide +kernel)) Z0 ?_
  intro p e s m below meth c T X
  refine WP.cast (g' := (mkF m 0 #[.val (.long ng), .second, .val (.ref u), .unset] [])) (by first | (simp [entryFrame, mkF, argsToLocals, Value.category]; done) | rfl) ?_
  refine w_iconst X d1_0 (v := (1 : Int32)) (by decide) (pc' := 1) rfl ?_
  refine w_istoreN X d1_1 (L' := #[.val (.long ng), .second, .val (.ref u), .val (.int (1 : Int32))]) rfl (pc' := 2) rfl ?_
  have J1 : ∀ T, St p l e ({ frames := 0, cells := 0, slots := 0, locals := 0 } : Room) s m #[(.long ng), (.ref u)] below meth c Z n0 (⟨"com/example/varve/varve/column/DigitsOfPinLaw", "digitsOf", "(J[J)I"⟩ : MethodName) method_3_code 4 (some .int) T h0 0 0 → ∀ (n1 : Int32), (dgs ng 1 = n1) → WP p e below s n0 ({ frames := 0, cells := 0, slots := 0, locals := 0 } : Room).cells ({ frames := 0, cells := 0, slots := 0, locals := 0 } : Room).slots (fun r h => r = some (.int (dgs ng 18)) ∧ h = h0) T (mkF m 13 #[.val (.long ng), .second, .val (.ref u), .val (.int n1)] []) := by
    intro T X n1 hn1
    have J2 : ∀ T, St p l e ({ frames := 0, cells := 0, slots := 0, locals := 0 } : Room) s m #[(.long ng), (.ref u)] below meth c Z n0 (⟨"com/example/varve/varve/column/DigitsOfPinLaw", "digitsOf", "(J[J)I"⟩ : MethodName) method_3_code 4 (some .int) T h0 0 0 → ∀ (n2 : Int32), (dgs ng 2 = n2) → WP p e below s n0 ({ frames := 0, cells := 0, slots := 0, locals := 0 } : Room).cells ({ frames := 0, cells := 0, slots := 0, locals := 0 } : Room).slots (fun r h => r = some (.int (dgs ng 18)) ∧ h = h0) T (mkF m 24 #[.val (.long ng), .second, .val (.ref u), .val (.int n2)] []) := by
      intro T X n2 hn2
      have J3 : ∀ T, St p l e ({ frames := 0, cells := 0, slots := 0, locals := 0 } : Room) s m #[(.long ng), (.ref u)] below meth c Z n0 (⟨"com/example/varve/varve/column/DigitsOfPinLaw", "digitsOf", "(J[J)I"⟩ : MethodName) method_3_code 4 (some .int) T h0 0 0 → ∀ (n3 : Int32), (dgs ng 3 = n3) → WP p e below s n0 ({ frames := 0, cells := 0, slots := 0, locals := 0 } : Room).cells ({ frames := 0, cells := 0, slots := 0, locals := 0 } : Room).slots (fun r h => r = some (.int (dgs ng 18)) ∧ h = h0) T (mkF m 35 #[.val (.long ng), .second, .val (.ref u), .val (.int n3)] []) := by
        intro T X n3 hn3
        have J4 : ∀ T, St p l e ({ frames := 0, cells := 0, slots := 0, locals := 0 } : Room) s m #[(.long ng), (.ref u)] below meth c Z n0 (⟨"com/example/varve/varve/column/DigitsOfPinLaw", "digitsOf", "(J[J)I"⟩ : MethodName) method_3_code 4 (some .int) T h0 0 0 → ∀ (n4 : Int32), (dgs ng 4 = n4) → WP p e below s n0 ({ frames := 0, cells := 0, slots := 0, locals := 0 } : Room).cells ({ frames := 0, cells := 0, slots := 0, locals := 0 } : Room).slots (fun r h => r = some (.int (dgs ng 18)) ∧ h = h0) T (mkF m 46 #[.val (.long ng), .second, .val (.ref u), .val (.int n4)] []) := by
          intro T X n4 hn4
          have J5 : ∀ T, St p l e ({ frames := 0, cells := 0, slots := 0, locals := 0 } : Room) s m #[(.long ng), (.ref u)] below meth c Z n0 (⟨"com/example/varve/varve/column/DigitsOfPinLaw", "digitsOf", "(J[J)I"⟩ : MethodName) method_3_code 4 (some .int) T h0 0 0 → ∀ (n5 : Int32), (dgs ng 5 = n5) → WP p e below s n0 ({ frames := 0, cells := 0, slots := 0, locals := 0 } : Room).cells ({ frames := 0, cells := 0, slots := 0, locals := 0 } : Room).slots (fun r h => r = some (.int (dgs ng 18)) ∧ h = h0) T (mkF m 58 #[.val (.long ng), .second, .val (.ref u), .val (.int n5)] []) := by
            intro T X n5 hn5
            have J6 : ∀ T, St p l e ({ frames := 0, cells := 0, slots := 0, locals := 0 } : Room) s m #[(.long ng), (.ref u)] below meth c Z n0 (⟨"com/example/varve/varve/column/DigitsOfPinLaw", "digitsOf", "(J[J)I"⟩ : MethodName) method_3_code 4 (some .int) T h0 0 0 → ∀ (n6 : Int32), (dgs ng 6 = n6) → WP p e below s n0 ({ frames := 0, cells := 0, slots := 0, locals := 0 } : Room).cells ({ frames := 0, cells := 0, slots := 0, locals := 0 } : Room).slots (fun r h => r = some (.int (dgs ng 18)) ∧ h = h0) T (mkF m 71 #[.val (.long ng), .second, .val (.ref u), .val (.int n6)] []) := by
              intro T X n6 hn6
              have J7 : ∀ T, St p l e ({ frames := 0, cells := 0, slots := 0, locals := 0 } : Room) s m #[(.long ng), (.ref u)] below meth c Z n0 (⟨"com/example/varve/varve/column/DigitsOfPinLaw", "digitsOf", "(J[J)I"⟩ : MethodName) method_3_code 4 (some .int) T h0 0 0 → ∀ (n7 : Int32), (dgs ng 7 = n7) → WP p e below s n0 ({ frames := 0, cells := 0, slots := 0, locals := 0 } : Room).cells ({ frames := 0, cells := 0, slots := 0, locals := 0 } : Room).slots (fun r h => r = some (.int (dgs ng 18)) ∧ h = h0) T (mkF m 84 #[.val (.long ng), .second, .val (.ref u), .val (.int n7)] []) := by
                intro T X n7 hn7
                have J8 : ∀ T, St p l e ({ frames := 0, cells := 0, slots := 0, locals := 0 } : Room) s m #[(.long ng), (.ref u)] below meth c Z n0 (⟨"com/example/varve/varve/column/DigitsOfPinLaw", "digitsOf", "(J[J)I"⟩ : MethodName) method_3_code 4 (some .int) T h0 0 0 → ∀ (n8 : Int32), (dgs ng 8 = n8) → WP p e below s n0 ({ frames := 0, cells := 0, slots := 0, locals := 0 } : Room).cells ({ frames := 0, cells := 0, slots := 0, locals := 0 } : Room).slots (fun r h => r = some (.int (dgs ng 18)) ∧ h = h0) T (mkF m 97 #[.val (.long ng), .second, .val (.ref u), .val (.int n8)] []) := by
                  intro T X n8 hn8
                  have J9 : ∀ T, St p l e ({ frames := 0, cells := 0, slots := 0, locals := 0 } : Room) s m #[(.long ng), (.ref u)] below meth c Z n0 (⟨"com/example/varve/varve/column/DigitsOfPinLaw", "digitsOf", "(J[J)I"⟩ : MethodName) method_3_code 4 (some .int) T h0 0 0 → ∀ (n9 : Int32), (dgs ng 9 = n9) → WP p e below s n0 ({ frames := 0, cells := 0, slots := 0, locals := 0 } : Room).cells ({ frames := 0, cells := 0, slots := 0, locals := 0 } : Room).slots (fun r h => r = some (.int (dgs ng 18)) ∧ h = h0) T (mkF m 110 #[.val (.long ng), .second, .val (.ref u), .val (.int n9)] []) := by
                    intro T X n9 hn9
                    have J10 : ∀ T, St p l e ({ frames := 0, cells := 0, slots := 0, locals := 0 } : Room) s m #[(.long ng), (.ref u)] below meth c Z n0 (⟨"com/example/varve/varve/column/DigitsOfPinLaw", "digitsOf", "(J[J)I"⟩ : MethodName) method_3_code 4 (some .int) T h0 0 0 → ∀ (n10 : Int32), (dgs ng 10 = n10) → WP p e below s n0 ({ frames := 0, cells := 0, slots := 0, locals := 0 } : Room).cells ({ frames := 0, cells := 0, slots := 0, locals := 0 } : Room).slots (fun r h => r = some (.int (dgs ng 18)) ∧ h = h0) T (mkF m 123 #[.val (.long ng), .second, .val (.ref u), .val (.int n10)] []) := by
                      intro T X n10 hn10
                      have J11 : ∀ T, St p l e ({ frames := 0, cells := 0, slots := 0, locals := 0 } : Room) s m #[(.long ng), (.ref u)] below meth c Z n0 (⟨"com/example/varve/varve/column/DigitsOfPinLaw", "digitsOf", "(J[J)I"⟩ : MethodName) method_3_code 4 (some .int) T h0 0 0 → ∀ (n11 : Int32), (dgs ng 11 = n11) → WP p e below s n0 ({ frames := 0, cells := 0, slots := 0, locals := 0 } : Room).cells ({ frames := 0, cells := 0, slots := 0, locals := 0 } : Room).slots (fun r h => r = some (.int (dgs ng 18)) ∧ h = h0) T (mkF m 136 #[.val (.long ng), .second, .val (.ref u), .val (.int n11)] []) := by
                        intro T X n11 hn11
                        have J12 : ∀ T, St p l e ({ frames := 0, cells := 0, slots := 0, locals := 0 } : Room) s m #[(.long ng), (.ref u)] below meth c Z n0 (⟨"com/example/varve/varve/column/DigitsOfPinLaw", "digitsOf", "(J[J)I"⟩ : MethodName) method_3_code 4 (some .int) T h0 0 0 → ∀ (n12 : Int32), (dgs ng 12 = n12) → WP p e below s n0 ({ frames := 0, cells := 0, slots := 0, locals := 0 } : Room).cells ({ frames := 0, cells := 0, slots := 0, locals := 0 } : Room).slots (fun r h => r = some (.int (dgs ng 18)) ∧ h = h0) T (mkF m 149 #[.val (.long ng), .second, .val (.ref u), .val (.int n12)] []) := by
                          intro T X n12 hn12
                          have J13 : ∀ T, St p l e ({ frames := 0, cells := 0, slots := 0, locals := 0 } : Room) s m #[(.long ng), (.ref u)] below meth c Z n0 (⟨"com/example/varve/varve/column/DigitsOfPinLaw", "digitsOf", "(J[J)I"⟩ : MethodName) method_3_code 4 (some .int) T h0 0 0 → ∀ (n13 : Int32), (dgs ng 13 = n13) → WP p e below s n0 ({ frames := 0, cells := 0, slots := 0, locals := 0 } : Room).cells ({ frames := 0, cells := 0, slots := 0, locals := 0 } : Room).slots (fun r h => r = some (.int (dgs ng 18)) ∧ h = h0) T (mkF m 162 #[.val (.long ng), .second, .val (.ref u), .val (.int n13)] []) := by
                            intro T X n13 hn13
                            have J14 : ∀ T, St p l e ({ frames := 0, cells := 0, slots := 0, locals := 0 } : Room) s m #[(.long ng), (.ref u)] below meth c Z n0 (⟨"com/example/varve/varve/column/DigitsOfPinLaw", "digitsOf", "(J[J)I"⟩ : MethodName) method_3_code 4 (some .int) T h0 0 0 → ∀ (n14 : Int32), (dgs ng 14 = n14) → WP p e below s n0 ({ frames := 0, cells := 0, slots := 0, locals := 0 } : Room).cells ({ frames := 0, cells := 0, slots := 0, locals := 0 } : Room).slots (fun r h => r = some (.int (dgs ng 18)) ∧ h = h0) T (mkF m 175 #[.val (.long ng), .second, .val (.ref u), .val (.int n14)] []) := by
                              intro T X n14 hn14
                              have J15 : ∀ T, St p l e ({ frames := 0, cells := 0, slots := 0, locals := 0 } : Room) s m #[(.long ng), (.ref u)] below meth c Z n0 (⟨"com/example/varve/varve/column/DigitsOfPinLaw", "digitsOf", "(J[J)I"⟩ : MethodName) method_3_code 4 (some .int) T h0 0 0 → ∀ (n15 : Int32), (dgs ng 15 = n15) → WP p e below s n0 ({ frames := 0, cells := 0, slots := 0, locals := 0 } : Room).cells ({ frames := 0, cells := 0, slots := 0, locals := 0 } : Room).slots (fun r h => r = some (.int (dgs ng 18)) ∧ h = h0) T (mkF m 188 #[.val (.long ng), .second, .val (.ref u), .val (.int n15)] []) := by
                                intro T X n15 hn15
                                have J16 : ∀ T, St p l e ({ frames := 0, cells := 0, slots := 0, locals := 0 } : Room) s m #[(.long ng), (.ref u)] below meth c Z n0 (⟨"com/example/varve/varve/column/DigitsOfPinLaw", "digitsOf", "(J[J)I"⟩ : MethodName) method_3_code 4 (some .int) T h0 0 0 → ∀ (n16 : Int32), (dgs ng 16 = n16) → WP p e below s n0 ({ frames := 0, cells := 0, slots := 0, locals := 0 } : Room).cells ({ frames := 0, cells := 0, slots := 0, locals := 0 } : Room).slots (fun r h => r = some (.int (dgs ng 18)) ∧ h = h0) T (mkF m 201 #[.val (.long ng), .second, .val (.ref u), .val (.int n16)] []) := by
                                  intro T X n16 hn16
                                  have J17 : ∀ T, St p l e ({ frames := 0, cells := 0, slots := 0, locals := 0 } : Room) s m #[(.long ng), (.ref u)] below meth c Z n0 (⟨"com/example/varve/varve/column/DigitsOfPinLaw", "digitsOf", "(J[J)I"⟩ : MethodName) method_3_code 4 (some .int) T h0 0 0 → ∀ (n17 : Int32), (dgs ng 17 = n17) → WP p e below s n0 ({ frames := 0, cells := 0, slots := 0, locals := 0 } : Room).cells ({ frames := 0, cells := 0, slots := 0, locals := 0 } : Room).slots (fun r h => r = some (.int (dgs ng 18)) ∧ h = h0) T (mkF m 214 #[.val (.long ng), .second, .val (.ref u), .val (.int n17)] []) := by
                                    intro T X n17 hn17
                                    have J18 : ∀ T, St p l e ({ frames := 0, cells := 0, slots := 0, locals := 0 } : Room) s m #[(.long ng), (.ref u)] below meth c Z n0 (⟨"com/example/varve/varve/column/DigitsOfPinLaw", "digitsOf", "(J[J)I"⟩ : MethodName) method_3_code 4 (some .int) T h0 0 0 → ∀ (n18 : Int32), (dgs ng 18 = n18) → WP p e below s n0 ({ frames := 0, cells := 0, slots := 0, locals := 0 } : Room).cells ({ frames := 0, cells := 0, slots := 0, locals := 0 } : Room).slots (fun r h => r = some (.int (dgs ng 18)) ∧ h = h0) T (mkF m 227 #[.val (.long ng), .second, .val (.ref u), .val (.int n18)] []) := by
                                      intro T X n18 hn18
                                      refine w_iloadN X d1_227 rfl (pc' := 228) rfl ?_
                                      exact w_retI X rfl d1_228 (by decide) (by decide) ⟨by rw [hn18], rfl⟩
                                    refine w_lloadN X d1_214 rfl (pc' := 215) rfl ?_
                                    refine w_aloadN X d1_215 rfl rfl (pc' := 216) rfl ?_
                                    refine w_bipush X d1_216 (v := (18 : Int32)) (by decide) (pc' := 218) rfl ?_
                                    refine w_laload X (i := 18) V d1_218 (by decide) (by decide) rfl (pc' := 219) rfl ?_
                                    refine w_lneg X d1_219 (pc' := 220) rfl ?_
                                    refine w_lcmp_gt X d1_220 (p0 := 221) rfl d1_221 (by decide) (p1 := 227) (by decide) (p2 := 224) rfl (fun c220 => ?_) (fun c220 => ?_)
                                    · -- c220 taken
                                      exact J18 T X n17 (by show (if -(P10 18) < ng then dgs ng 17 else Int32.ofNat 19) = _; rw [if_pos c220]; exact hn17)
                                    · -- c220 not taken
                                      refine w_bipush X d1_224 (v := (19 : Int32)) (by decide) (pc' := 226) rfl ?_
                                      refine w_istoreN X d1_226 (L' := #[.val (.long ng), .second, .val (.ref u), .val (.int (19 : Int32))]) rfl (pc' := 227) rfl ?_
                                      exact J18 T X (19 : Int32) (by show (if -(P10 18) < ng then dgs ng 17 else Int32.ofNat 19) = _; rw [if_neg c220]; rfl)
                                  refine w_lloadN X d1_201 rfl (pc' := 202) rfl ?_
                                  refine w_aloadN X d1_202 rfl rfl (pc' := 203) rfl ?_
                                  refine w_bipush X d1_203 (v := (17 : Int32)) (by decide) (pc' := 205) rfl ?_
                                  refine w_laload X (i := 17) V d1_205 (by decide) (by decide) rfl (pc' := 206) rfl ?_
                                  refine w_lneg X d1_206 (pc' := 207) rfl ?_
                                  refine w_lcmp_gt X d1_207 (p0 := 208) rfl d1_208 (by decide) (p1 := 214) (by decide) (p2 := 211) rfl (fun c207 => ?_) (fun c207 => ?_)
                                  · -- c207 taken
                                    exact J17 T X n16 (by show (if -(P10 17) < ng then dgs ng 16 else Int32.ofNat 18) = _; rw [if_pos c207]; exact hn16)
                                  · -- c207 not taken
                                    refine w_bipush X d1_211 (v := (18 : Int32)) (by decide) (pc' := 213) rfl ?_
                                    refine w_istoreN X d1_213 (L' := #[.val (.long ng), .second, .val (.ref u), .val (.int (18 : Int32))]) rfl (pc' := 214) rfl ?_
                                    exact J17 T X (18 : Int32) (by show (if -(P10 17) < ng then dgs ng 16 else Int32.ofNat 18) = _; rw [if_neg c207]; rfl)
                                refine w_lloadN X d1_188 rfl (pc' := 189) rfl ?_
                                refine w_aloadN X d1_189 rfl rfl (pc' := 190) rfl ?_
                                refine w_bipush X d1_190 (v := (16 : Int32)) (by decide) (pc' := 192) rfl ?_
                                refine w_laload X (i := 16) V d1_192 (by decide) (by decide) rfl (pc' := 193) rfl ?_
                                refine w_lneg X d1_193 (pc' := 194) rfl ?_
                                refine w_lcmp_gt X d1_194 (p0 := 195) rfl d1_195 (by decide) (p1 := 201) (by decide) (p2 := 198) rfl (fun c194 => ?_) (fun c194 => ?_)
                                · -- c194 taken
                                  exact J16 T X n15 (by show (if -(P10 16) < ng then dgs ng 15 else Int32.ofNat 17) = _; rw [if_pos c194]; exact hn15)
                                · -- c194 not taken
                                  refine w_bipush X d1_198 (v := (17 : Int32)) (by decide) (pc' := 200) rfl ?_
                                  refine w_istoreN X d1_200 (L' := #[.val (.long ng), .second, .val (.ref u), .val (.int (17 : Int32))]) rfl (pc' := 201) rfl ?_
                                  exact J16 T X (17 : Int32) (by show (if -(P10 16) < ng then dgs ng 15 else Int32.ofNat 17) = _; rw [if_neg c194]; rfl)
                              refine w_lloadN X d1_175 rfl (pc' := 176) rfl ?_
                              refine w_aloadN X d1_176 rfl rfl (pc' := 177) rfl ?_
                              refine w_bipush X d1_177 (v := (15 : Int32)) (by decide) (pc' := 179) rfl ?_
                              refine w_laload X (i := 15) V d1_179 (by decide) (by decide) rfl (pc' := 180) rfl ?_
                              refine w_lneg X d1_180 (pc' := 181) rfl ?_
                              refine w_lcmp_gt X d1_181 (p0 := 182) rfl d1_182 (by decide) (p1 := 188) (by decide) (p2 := 185) rfl (fun c181 => ?_) (fun c181 => ?_)
                              · -- c181 taken
                                exact J15 T X n14 (by show (if -(P10 15) < ng then dgs ng 14 else Int32.ofNat 16) = _; rw [if_pos c181]; exact hn14)
                              · -- c181 not taken
                                refine w_bipush X d1_185 (v := (16 : Int32)) (by decide) (pc' := 187) rfl ?_
                                refine w_istoreN X d1_187 (L' := #[.val (.long ng), .second, .val (.ref u), .val (.int (16 : Int32))]) rfl (pc' := 188) rfl ?_
                                exact J15 T X (16 : Int32) (by show (if -(P10 15) < ng then dgs ng 14 else Int32.ofNat 16) = _; rw [if_neg c181]; rfl)
                            refine w_lloadN X d1_162 rfl (pc' := 163) rfl ?_
                            refine w_aloadN X d1_163 rfl rfl (pc' := 164) rfl ?_
                            refine w_bipush X d1_164 (v := (14 : Int32)) (by decide) (pc' := 166) rfl ?_
                            refine w_laload X (i := 14) V d1_166 (by decide) (by decide) rfl (pc' := 167) rfl ?_
                            refine w_lneg X d1_167 (pc' := 168) rfl ?_
                            refine w_lcmp_gt X d1_168 (p0 := 169) rfl d1_169 (by decide) (p1 := 175) (by decide) (p2 := 172) rfl (fun c168 => ?_) (fun c168 => ?_)
                            · -- c168 taken
                              exact J14 T X n13 (by show (if -(P10 14) < ng then dgs ng 13 else Int32.ofNat 15) = _; rw [if_pos c168]; exact hn13)
                            · -- c168 not taken
                              refine w_bipush X d1_172 (v := (15 : Int32)) (by decide) (pc' := 174) rfl ?_
                              refine w_istoreN X d1_174 (L' := #[.val (.long ng), .second, .val (.ref u), .val (.int (15 : Int32))]) rfl (pc' := 175) rfl ?_
                              exact J14 T X (15 : Int32) (by show (if -(P10 14) < ng then dgs ng 13 else Int32.ofNat 15) = _; rw [if_neg c168]; rfl)
                          refine w_lloadN X d1_149 rfl (pc' := 150) rfl ?_
                          refine w_aloadN X d1_150 rfl rfl (pc' := 151) rfl ?_
                          refine w_bipush X d1_151 (v := (13 : Int32)) (by decide) (pc' := 153) rfl ?_
                          refine w_laload X (i := 13) V d1_153 (by decide) (by decide) rfl (pc' := 154) rfl ?_
                          refine w_lneg X d1_154 (pc' := 155) rfl ?_
                          refine w_lcmp_gt X d1_155 (p0 := 156) rfl d1_156 (by decide) (p1 := 162) (by decide) (p2 := 159) rfl (fun c155 => ?_) (fun c155 => ?_)
                          · -- c155 taken
                            exact J13 T X n12 (by show (if -(P10 13) < ng then dgs ng 12 else Int32.ofNat 14) = _; rw [if_pos c155]; exact hn12)
                          · -- c155 not taken
                            refine w_bipush X d1_159 (v := (14 : Int32)) (by decide) (pc' := 161) rfl ?_
                            refine w_istoreN X d1_161 (L' := #[.val (.long ng), .second, .val (.ref u), .val (.int (14 : Int32))]) rfl (pc' := 162) rfl ?_
                            exact J13 T X (14 : Int32) (by show (if -(P10 13) < ng then dgs ng 12 else Int32.ofNat 14) = _; rw [if_neg c155]; rfl)
                        refine w_lloadN X d1_136 rfl (pc' := 137) rfl ?_
                        refine w_aloadN X d1_137 rfl rfl (pc' := 138) rfl ?_
                        refine w_bipush X d1_138 (v := (12 : Int32)) (by decide) (pc' := 140) rfl ?_
                        refine w_laload X (i := 12) V d1_140 (by decide) (by decide) rfl (pc' := 141) rfl ?_
                        refine w_lneg X d1_141 (pc' := 142) rfl ?_
                        refine w_lcmp_gt X d1_142 (p0 := 143) rfl d1_143 (by decide) (p1 := 149) (by decide) (p2 := 146) rfl (fun c142 => ?_) (fun c142 => ?_)
                        · -- c142 taken
                          exact J12 T X n11 (by show (if -(P10 12) < ng then dgs ng 11 else Int32.ofNat 13) = _; rw [if_pos c142]; exact hn11)
                        · -- c142 not taken
                          refine w_bipush X d1_146 (v := (13 : Int32)) (by decide) (pc' := 148) rfl ?_
                          refine w_istoreN X d1_148 (L' := #[.val (.long ng), .second, .val (.ref u), .val (.int (13 : Int32))]) rfl (pc' := 149) rfl ?_
                          exact J12 T X (13 : Int32) (by show (if -(P10 12) < ng then dgs ng 11 else Int32.ofNat 13) = _; rw [if_neg c142]; rfl)
                      refine w_lloadN X d1_123 rfl (pc' := 124) rfl ?_
                      refine w_aloadN X d1_124 rfl rfl (pc' := 125) rfl ?_
                      refine w_bipush X d1_125 (v := (11 : Int32)) (by decide) (pc' := 127) rfl ?_
                      refine w_laload X (i := 11) V d1_127 (by decide) (by decide) rfl (pc' := 128) rfl ?_
                      refine w_lneg X d1_128 (pc' := 129) rfl ?_
                      refine w_lcmp_gt X d1_129 (p0 := 130) rfl d1_130 (by decide) (p1 := 136) (by decide) (p2 := 133) rfl (fun c129 => ?_) (fun c129 => ?_)
                      · -- c129 taken
                        exact J11 T X n10 (by show (if -(P10 11) < ng then dgs ng 10 else Int32.ofNat 12) = _; rw [if_pos c129]; exact hn10)
                      · -- c129 not taken
                        refine w_bipush X d1_133 (v := (12 : Int32)) (by decide) (pc' := 135) rfl ?_
                        refine w_istoreN X d1_135 (L' := #[.val (.long ng), .second, .val (.ref u), .val (.int (12 : Int32))]) rfl (pc' := 136) rfl ?_
                        exact J11 T X (12 : Int32) (by show (if -(P10 11) < ng then dgs ng 10 else Int32.ofNat 12) = _; rw [if_neg c129]; rfl)
                    refine w_lloadN X d1_110 rfl (pc' := 111) rfl ?_
                    refine w_aloadN X d1_111 rfl rfl (pc' := 112) rfl ?_
                    refine w_bipush X d1_112 (v := (10 : Int32)) (by decide) (pc' := 114) rfl ?_
                    refine w_laload X (i := 10) V d1_114 (by decide) (by decide) rfl (pc' := 115) rfl ?_
                    refine w_lneg X d1_115 (pc' := 116) rfl ?_
                    refine w_lcmp_gt X d1_116 (p0 := 117) rfl d1_117 (by decide) (p1 := 123) (by decide) (p2 := 120) rfl (fun c116 => ?_) (fun c116 => ?_)
                    · -- c116 taken
                      exact J10 T X n9 (by show (if -(P10 10) < ng then dgs ng 9 else Int32.ofNat 11) = _; rw [if_pos c116]; exact hn9)
                    · -- c116 not taken
                      refine w_bipush X d1_120 (v := (11 : Int32)) (by decide) (pc' := 122) rfl ?_
                      refine w_istoreN X d1_122 (L' := #[.val (.long ng), .second, .val (.ref u), .val (.int (11 : Int32))]) rfl (pc' := 123) rfl ?_
                      exact J10 T X (11 : Int32) (by show (if -(P10 10) < ng then dgs ng 9 else Int32.ofNat 11) = _; rw [if_neg c116]; rfl)
                  refine w_lloadN X d1_97 rfl (pc' := 98) rfl ?_
                  refine w_aloadN X d1_98 rfl rfl (pc' := 99) rfl ?_
                  refine w_bipush X d1_99 (v := (9 : Int32)) (by decide) (pc' := 101) rfl ?_
                  refine w_laload X (i := 9) V d1_101 (by decide) (by decide) rfl (pc' := 102) rfl ?_
                  refine w_lneg X d1_102 (pc' := 103) rfl ?_
                  refine w_lcmp_gt X d1_103 (p0 := 104) rfl d1_104 (by decide) (p1 := 110) (by decide) (p2 := 107) rfl (fun c103 => ?_) (fun c103 => ?_)
                  · -- c103 taken
                    exact J9 T X n8 (by show (if -(P10 9) < ng then dgs ng 8 else Int32.ofNat 10) = _; rw [if_pos c103]; exact hn8)
                  · -- c103 not taken
                    refine w_bipush X d1_107 (v := (10 : Int32)) (by decide) (pc' := 109) rfl ?_
                    refine w_istoreN X d1_109 (L' := #[.val (.long ng), .second, .val (.ref u), .val (.int (10 : Int32))]) rfl (pc' := 110) rfl ?_
                    exact J9 T X (10 : Int32) (by show (if -(P10 9) < ng then dgs ng 8 else Int32.ofNat 10) = _; rw [if_neg c103]; rfl)
                refine w_lloadN X d1_84 rfl (pc' := 85) rfl ?_
                refine w_aloadN X d1_85 rfl rfl (pc' := 86) rfl ?_
                refine w_bipush X d1_86 (v := (8 : Int32)) (by decide) (pc' := 88) rfl ?_
                refine w_laload X (i := 8) V d1_88 (by decide) (by decide) rfl (pc' := 89) rfl ?_
                refine w_lneg X d1_89 (pc' := 90) rfl ?_
                refine w_lcmp_gt X d1_90 (p0 := 91) rfl d1_91 (by decide) (p1 := 97) (by decide) (p2 := 94) rfl (fun c90 => ?_) (fun c90 => ?_)
                · -- c90 taken
                  exact J8 T X n7 (by show (if -(P10 8) < ng then dgs ng 7 else Int32.ofNat 9) = _; rw [if_pos c90]; exact hn7)
                · -- c90 not taken
                  refine w_bipush X d1_94 (v := (9 : Int32)) (by decide) (pc' := 96) rfl ?_
                  refine w_istoreN X d1_96 (L' := #[.val (.long ng), .second, .val (.ref u), .val (.int (9 : Int32))]) rfl (pc' := 97) rfl ?_
                  exact J8 T X (9 : Int32) (by show (if -(P10 8) < ng then dgs ng 7 else Int32.ofNat 9) = _; rw [if_neg c90]; rfl)
              refine w_lloadN X d1_71 rfl (pc' := 72) rfl ?_
              refine w_aloadN X d1_72 rfl rfl (pc' := 73) rfl ?_
              refine w_bipush X d1_73 (v := (7 : Int32)) (by decide) (pc' := 75) rfl ?_
              refine w_laload X (i := 7) V d1_75 (by decide) (by decide) rfl (pc' := 76) rfl ?_
              refine w_lneg X d1_76 (pc' := 77) rfl ?_
              refine w_lcmp_gt X d1_77 (p0 := 78) rfl d1_78 (by decide) (p1 := 84) (by decide) (p2 := 81) rfl (fun c77 => ?_) (fun c77 => ?_)
              · -- c77 taken
                exact J7 T X n6 (by show (if -(P10 7) < ng then dgs ng 6 else Int32.ofNat 8) = _; rw [if_pos c77]; exact hn6)
              · -- c77 not taken
                refine w_bipush X d1_81 (v := (8 : Int32)) (by decide) (pc' := 83) rfl ?_
                refine w_istoreN X d1_83 (L' := #[.val (.long ng), .second, .val (.ref u), .val (.int (8 : Int32))]) rfl (pc' := 84) rfl ?_
                exact J7 T X (8 : Int32) (by show (if -(P10 7) < ng then dgs ng 6 else Int32.ofNat 8) = _; rw [if_neg c77]; rfl)
            refine w_lloadN X d1_58 rfl (pc' := 59) rfl ?_
            refine w_aloadN X d1_59 rfl rfl (pc' := 60) rfl ?_
            refine w_bipush X d1_60 (v := (6 : Int32)) (by decide) (pc' := 62) rfl ?_
            refine w_laload X (i := 6) V d1_62 (by decide) (by decide) rfl (pc' := 63) rfl ?_
            refine w_lneg X d1_63 (pc' := 64) rfl ?_
            refine w_lcmp_gt X d1_64 (p0 := 65) rfl d1_65 (by decide) (p1 := 71) (by decide) (p2 := 68) rfl (fun c64 => ?_) (fun c64 => ?_)
            · -- c64 taken
              exact J6 T X n5 (by show (if -(P10 6) < ng then dgs ng 5 else Int32.ofNat 7) = _; rw [if_pos c64]; exact hn5)
            · -- c64 not taken
              refine w_bipush X d1_68 (v := (7 : Int32)) (by decide) (pc' := 70) rfl ?_
              refine w_istoreN X d1_70 (L' := #[.val (.long ng), .second, .val (.ref u), .val (.int (7 : Int32))]) rfl (pc' := 71) rfl ?_
              exact J6 T X (7 : Int32) (by show (if -(P10 6) < ng then dgs ng 5 else Int32.ofNat 7) = _; rw [if_neg c64]; rfl)
          refine w_lloadN X d1_46 rfl (pc' := 47) rfl ?_
          refine w_aloadN X d1_47 rfl rfl (pc' := 48) rfl ?_
          refine w_iconst X d1_48 (v := (5 : Int32)) (by decide) (pc' := 49) rfl ?_
          refine w_laload X (i := 5) V d1_49 (by decide) (by decide) rfl (pc' := 50) rfl ?_
          refine w_lneg X d1_50 (pc' := 51) rfl ?_
          refine w_lcmp_gt X d1_51 (p0 := 52) rfl d1_52 (by decide) (p1 := 58) (by decide) (p2 := 55) rfl (fun c51 => ?_) (fun c51 => ?_)
          · -- c51 taken
            exact J5 T X n4 (by show (if -(P10 5) < ng then dgs ng 4 else Int32.ofNat 6) = _; rw [if_pos c51]; exact hn4)
          · -- c51 not taken
            refine w_bipush X d1_55 (v := (6 : Int32)) (by decide) (pc' := 57) rfl ?_
            refine w_istoreN X d1_57 (L' := #[.val (.long ng), .second, .val (.ref u), .val (.int (6 : Int32))]) rfl (pc' := 58) rfl ?_
            exact J5 T X (6 : Int32) (by show (if -(P10 5) < ng then dgs ng 4 else Int32.ofNat 6) = _; rw [if_neg c51]; rfl)
        refine w_lloadN X d1_35 rfl (pc' := 36) rfl ?_
        refine w_aloadN X d1_36 rfl rfl (pc' := 37) rfl ?_
        refine w_iconst X d1_37 (v := (4 : Int32)) (by decide) (pc' := 38) rfl ?_
        refine w_laload X (i := 4) V d1_38 (by decide) (by decide) rfl (pc' := 39) rfl ?_
        refine w_lneg X d1_39 (pc' := 40) rfl ?_
        refine w_lcmp_gt X d1_40 (p0 := 41) rfl d1_41 (by decide) (p1 := 46) (by decide) (p2 := 44) rfl (fun c40 => ?_) (fun c40 => ?_)
        · -- c40 taken
          exact J4 T X n3 (by show (if -(P10 4) < ng then dgs ng 3 else Int32.ofNat 5) = _; rw [if_pos c40]; exact hn3)
        · -- c40 not taken
          refine w_iconst X d1_44 (v := (5 : Int32)) (by decide) (pc' := 45) rfl ?_
          refine w_istoreN X d1_45 (L' := #[.val (.long ng), .second, .val (.ref u), .val (.int (5 : Int32))]) rfl (pc' := 46) rfl ?_
          exact J4 T X (5 : Int32) (by show (if -(P10 4) < ng then dgs ng 3 else Int32.ofNat 5) = _; rw [if_neg c40]; rfl)
      refine w_lloadN X d1_24 rfl (pc' := 25) rfl ?_
      refine w_aloadN X d1_25 rfl rfl (pc' := 26) rfl ?_
      refine w_iconst X d1_26 (v := (3 : Int32)) (by decide) (pc' := 27) rfl ?_
      refine w_laload X (i := 3) V d1_27 (by decide) (by decide) rfl (pc' := 28) rfl ?_
      refine w_lneg X d1_28 (pc' := 29) rfl ?_
      refine w_lcmp_gt X d1_29 (p0 := 30) rfl d1_30 (by decide) (p1 := 35) (by decide) (p2 := 33) rfl (fun c29 => ?_) (fun c29 => ?_)
      · -- c29 taken
        exact J3 T X n2 (by show (if -(P10 3) < ng then dgs ng 2 else Int32.ofNat 4) = _; rw [if_pos c29]; exact hn2)
      · -- c29 not taken
        refine w_iconst X d1_33 (v := (4 : Int32)) (by decide) (pc' := 34) rfl ?_
        refine w_istoreN X d1_34 (L' := #[.val (.long ng), .second, .val (.ref u), .val (.int (4 : Int32))]) rfl (pc' := 35) rfl ?_
        exact J3 T X (4 : Int32) (by show (if -(P10 3) < ng then dgs ng 2 else Int32.ofNat 4) = _; rw [if_neg c29]; rfl)
    refine w_lloadN X d1_13 rfl (pc' := 14) rfl ?_
    refine w_aloadN X d1_14 rfl rfl (pc' := 15) rfl ?_
    refine w_iconst X d1_15 (v := (2 : Int32)) (by decide) (pc' := 16) rfl ?_
    refine w_laload X (i := 2) V d1_16 (by decide) (by decide) rfl (pc' := 17) rfl ?_
    refine w_lneg X d1_17 (pc' := 18) rfl ?_
    refine w_lcmp_gt X d1_18 (p0 := 19) rfl d1_19 (by decide) (p1 := 24) (by decide) (p2 := 22) rfl (fun c18 => ?_) (fun c18 => ?_)
    · -- c18 taken
      exact J2 T X n1 (by show (if -(P10 2) < ng then dgs ng 1 else Int32.ofNat 3) = _; rw [if_pos c18]; exact hn1)
    · -- c18 not taken
      refine w_iconst X d1_22 (v := (3 : Int32)) (by decide) (pc' := 23) rfl ?_
      refine w_istoreN X d1_23 (L' := #[.val (.long ng), .second, .val (.ref u), .val (.int (3 : Int32))]) rfl (pc' := 24) rfl ?_
      exact J2 T X (3 : Int32) (by show (if -(P10 2) < ng then dgs ng 1 else Int32.ofNat 3) = _; rw [if_neg c18]; rfl)
  refine w_lloadN X d1_2 rfl (pc' := 3) rfl ?_
  refine w_aloadN X d1_3 rfl rfl (pc' := 4) rfl ?_
  refine w_iconst X d1_4 (v := (1 : Int32)) (by decide) (pc' := 5) rfl ?_
  refine w_laload X (i := 1) V d1_5 (by decide) (by decide) rfl (pc' := 6) rfl ?_
  refine w_lneg X d1_6 (pc' := 7) rfl ?_
  refine w_lcmp_gt X d1_7 (p0 := 8) rfl d1_8 (by decide) (p1 := 13) (by decide) (p2 := 11) rfl (fun c7 => ?_) (fun c7 => ?_)
  · -- c7 taken
    exact J1 T X (1 : Int32) (by show (if -(P10 1) < ng then dgs ng 0 else Int32.ofNat 2) = _; rw [if_pos c7]; exact rfl)
  · -- c7 not taken
    refine w_iconst X d1_11 (v := (2 : Int32)) (by decide) (pc' := 12) rfl ?_
    refine w_istoreN X d1_12 (L' := #[.val (.long ng), .second, .val (.ref u), .val (.int (2 : Int32))]) rfl (pc' := 13) rfl ?_
    exact J1 T X (2 : Int32) (by show (if -(P10 1) < ng then dgs ng 0 else Int32.ofNat 2) = _; rw [if_neg c7]; rfl)
set_option maxRecDepth 65536 in
set_option maxHeartbeats 4000000 in
theorem ct_cx (l : Launch) (Z : State) (a0 : Array Value) (hw : ∀ d ∈ tables_1, d.before a0 Z = true) (r sn x_ ec : Int32) (ng : Int64) (n : Int32) (u : Addr) (h0 : Heap) (n0 : Nat) (Z0 : n0 ≤ h0.size) (V : AJ Z h0 u 19 P10) (hs : 0 ≤ sn.toInt ∧ sn.toInt ≤ 1) (hn : 1 ≤ n.toInt ∧ n.toInt ≤ 19) (hr : -1 ≤ r.toInt ∧ r.toInt ≤ 30) :
    Ct l Z (⟨"com/example/varve/varve/column/DigitsOfPinLaw", "cx", "(IIIIJI[J)B"⟩ : MethodName) method_4_code 13 (some .byte) ({ frames := 0, cells := 0, slots := 0, locals := 0 } : Room) #[(.int r), (.int sn), (.int x_), (.int ec), (.long ng), (.int n), (.ref u)] h0 n0 (fun v h => v = some (.int (fCx r sn x_ ec ng n)) ∧ h = h0) := by
  refine Ct.intro (plainFor_of_name (by first | (simp [plainName, overriddenIn]; done) | decide +kernel)) Z0 ?_
  intro p e s m below meth c T X
  refine WP.cast (g' := (mkF m 0 #[.val (.int r), .val (.int sn), .val (.int x_), .val (.int ec), .val (.long ng), .second, .val (.int n), .val (.ref u), .unset, .unset, .unset, .unset, .unset] [])) (by first | (simp [entryFrame, mkF, argsToLocals, Value.category]; done) | rfl) ?_
  refine w_iloadN X d3_0 rfl (pc' := 1) rfl ?_
  refine w_iloadN X d3_1 rfl (pc' := 2) rfl ?_
  refine w_icmp_ge X d3_2 (by decide) (p1 := 8) (by decide) (p2 := 5) rfl (fun c2 => ?_) (fun c2 => ?_)
  · -- c2 taken
    refine w_iloadN X d3_8 rfl (pc' := 9) rfl ?_
    refine w_iconst X d3_9 (v := (1 : Int32)) (by decide) (pc' := 10) rfl ?_
    refine w_icmp_ne X d3_10 (by decide) (p1 := 21) (by decide) (p2 := 13) rfl (fun c10 => ?_) (fun c10 => ?_)
    · -- c10 taken
      refine w_iloadN X d3_21 rfl (pc' := 22) rfl ?_
      refine w_iloadN X d3_22 rfl (pc' := 23) rfl ?_
      refine w_iconst X d3_23 (v := (1 : Int32)) (by decide) (pc' := 24) rfl ?_
      refine w_icmp_ne X d3_24 (by decide) (p1 := 31) (by decide) (p2 := 27) rfl (fun _ => ?_) (fun c24 => absurd c24 c10)
      refine w_iconst X d3_31 (v := (0 : Int32)) (by decide) (pc' := 32) rfl ?_
      refine w_iadd X d3_32 (pc' := 33) rfl ?_
      refine w_istore X d3_33 (L' := #[.val (.int r), .val (.int sn), .val (.int x_), .val (.int ec), .val (.long ng), .second, .val (.int n), .val (.ref u), .val (.int (sn + (0 : Int32))), .unset, .unset, .unset, .unset]) rfl (pc' := 35) rfl ?_
      refine w_iloadN X d3_35 rfl (pc' := 36) rfl ?_
      refine w_iconst X d3_36 (v := (3 : Int32)) (by decide) (pc' := 37) rfl ?_
      refine w_icmp_ne X d3_37 (by decide) (p1 := 44) (by decide) (p2 := 40) rfl (fun c37 => ?_) (fun c37 => ?_)
      · -- c37 taken
        refine w_iload X d3_44 rfl (pc' := 46) rfl ?_
        refine w_istore X d3_46 (L' := #[.val (.int r), .val (.int sn), .val (.int x_), .val (.int ec), .val (.long ng), .second, .val (.int n), .val (.ref u), .val (.int (sn + (0 : Int32))), .val (.int n), .unset, .unset, .unset]) rfl (pc' := 48) rfl ?_
        refine w_iloadN X d3_48 rfl (pc' := 49) rfl ?_
        refine w_iload X d3_49 rfl (pc' := 51) rfl ?_
        refine w_icmp_lt X d3_51 (by decide) (p1 := 96) (by decide) (p2 := 54) rfl (fun c51 => ?_) (fun c51 => ?_)
        · -- c51 taken
          refine w_iloadN X d3_96 rfl (pc' := 97) rfl ?_
          refine w_iconst X d3_97 (v := (2 : Int32)) (by decide) (pc' := 98) rfl ?_
          refine w_icmp_ne X d3_98 (by decide) (p1 := 113) (by decide) (p2 := 101) rfl (fun c98 => ?_) (fun c98 => ?_)
          · -- c98 taken
            refine w_iconst X d3_113 (v := (0 : Int32)) (by decide) (pc' := 114) rfl ?_
            exact w_retN X rfl (by simp) d3_114 rfl (by decide) (by decide) ⟨by simp only [fCx, cx2, cxD, if_neg c2, if_neg c10, if_neg c37, if_pos c51, if_neg c98], rfl⟩
          · -- c98 not taken
            refine w_iloadN X d3_101 rfl (pc' := 102) rfl ?_
            refine w_iload X d3_102 rfl (pc' := 104) rfl ?_
            refine w_iload X d3_104 rfl (pc' := 106) rfl ?_
            refine w_iadd X d3_106 (pc' := 107) rfl ?_
            refine w_icmp_ne X d3_107 (by decide) (p1 := 113) (by decide) (p2 := 110) rfl (fun c107 => ?_) (fun c107 => ?_)
            · -- c107 taken
              refine w_iconst X d3_113 (v := (0 : Int32)) (by decide) (pc' := 114) rfl ?_
              exact w_retN X rfl (by simp) d3_114 rfl (by decide) (by decide) ⟨by simp only [fCx, cx2, cxD, if_neg c2, if_neg c10, if_neg c37, if_pos c51, if_pos c98, if_neg c107], rfl⟩
            · -- c107 not taken
              refine w_iloadN X d3_110 rfl (pc' := 111) rfl ?_
              refine w_i2b X d3_111 (pc' := 112) rfl ?_
              exact w_retN X rfl (by simp) d3_112 rfl (by decide) (by decide) ⟨by simp only [fCx, cx2, cxD, if_neg c2, if_neg c10, if_neg c37, if_pos c51, if_pos c98, if_pos c107], rfl⟩
        · -- c51 not taken
          refine w_iloadN X d3_54 rfl (pc' := 55) rfl ?_
          refine w_iload X d3_55 rfl (pc' := 57) rfl ?_
          refine w_iload X d3_57 rfl (pc' := 59) rfl ?_
          refine w_iadd X d3_59 (pc' := 60) rfl ?_
          refine w_icmp_ge X d3_60 (by decide) (p1 := 96) (by decide) (p2 := 63) rfl (fun c60 => ?_) (fun c60 => ?_)
          · -- c60 taken
            refine w_iloadN X d3_96 rfl (pc' := 97) rfl ?_
            refine w_iconst X d3_97 (v := (2 : Int32)) (by decide) (pc' := 98) rfl ?_
            refine w_icmp_ne X d3_98 (by decide) (p1 := 113) (by decide) (p2 := 101) rfl (fun c98 => ?_) (fun c98 => ?_)
            · -- c98 taken
              refine w_iconst X d3_113 (v := (0 : Int32)) (by decide) (pc' := 114) rfl ?_
              exact w_retN X rfl (by simp) d3_114 rfl (by decide) (by decide) ⟨by simp only [fCx, cx2, cxD, if_neg c2, if_neg c10, if_neg c37, if_neg c51, if_neg c60, if_neg c98], rfl⟩
            · -- c98 not taken
              refine w_iloadN X d3_101 rfl (pc' := 102) rfl ?_
              refine w_iload X d3_102 rfl (pc' := 104) rfl ?_
              refine w_iload X d3_104 rfl (pc' := 106) rfl ?_
              refine w_iadd X d3_106 (pc' := 107) rfl ?_
              refine w_icmp_ne X d3_107 (by decide) (p1 := 113) (by decide) (p2 := 110) rfl (fun c107 => ?_) (fun c107 => ?_)
              · -- c107 taken
                refine w_iconst X d3_113 (v := (0 : Int32)) (by decide) (pc' := 114) rfl ?_
                exact w_retN X rfl (by simp) d3_114 rfl (by decide) (by decide) ⟨by simp only [fCx, cx2, cxD, if_neg c2, if_neg c10, if_neg c37, if_neg c51, if_neg c60, if_pos c98, if_neg c107], rfl⟩
              · -- c107 not taken
                refine w_iloadN X d3_110 rfl (pc' := 111) rfl ?_
                refine w_i2b X d3_111 (pc' := 112) rfl ?_
                exact w_retN X rfl (by simp) d3_112 rfl (by decide) (by decide) ⟨by simp only [fCx, cx2, cxD, if_neg c2, if_neg c10, if_neg c37, if_neg c51, if_neg c60, if_pos c98, if_pos c107], rfl⟩
          · -- c60 not taken
            refine w_iload X d3_63 rfl (pc' := 65) rfl ?_
            refine w_iconst X d3_65 (v := (1 : Int32)) (by decide) (pc' := 66) rfl ?_
            refine w_isub X d3_66 (pc' := 67) rfl ?_
            refine w_iloadN X d3_67 rfl (pc' := 68) rfl ?_
            refine w_iload X d3_68 rfl (pc' := 70) rfl ?_
            refine w_isub X d3_70 (pc' := 71) rfl ?_
            refine w_isub X d3_71 (pc' := 72) rfl ?_
            refine w_istore X d3_72 (L' := #[.val (.int r), .val (.int sn), .val (.int x_), .val (.int ec), .val (.long ng), .second, .val (.int n), .val (.ref u), .val (.int (sn + (0 : Int32))), .val (.int n), .val (.int ((n - (1 : Int32)) - (r - (sn + (0 : Int32))))), .unset, .unset]) rfl (pc' := 74) rfl ?_
            refine w_lload X d3_74 rfl (pc' := 76) rfl ?_
            refine w_aload X d3_76 rfl rfl (pc' := 78) rfl ?_
            refine w_iload X d3_78 rfl (pc' := 80) rfl ?_
            have hat := cx_at (r := r) (ds := (sn + (0 : Int32))) (nd := n) hs hn hr (by first | exact Or.inl rfl | exact Or.inr rfl) (by first | exact Or.inl rfl | exact Or.inr rfl) c51 c60
            refine w_laload X (i := (((n - (1 : Int32)) - (r - (sn + (0 : Int32)))).toInt.toNat)) V d3_80 hat.1 (Nat.lt_succ_of_le hat.2) rfl (pc' := 81) rfl ?_
            refine w_ldiv X d3_81 (P10_ne hat.2) (pc' := 82) rfl ?_
            refine w_lstore X d3_82 (L' := #[.val (.int r), .val (.int sn), .val (.int x_), .val (.int ec), .val (.long ng), .second, .val (.int n), .val (.ref u), .val (.int (sn + (0 : Int32))), .val (.int n), .val (.int ((n - (1 : Int32)) - (r - (sn + (0 : Int32))))), .val (.long (ng / (P10 (((n - (1 : Int32)) - (r - (sn + (0 : Int32)))).toInt.toNat)))), .second]) rfl (pc' := 84) rfl ?_
            refine w_bipush X d3_84 (v := (48 : Int32)) (by decide) (pc' := 86) rfl ?_
            refine w_lload X d3_86 rfl (pc' := 88) rfl ?_
            refine w_ldcJ X d3_88 (tw1 hw) (pc' := 91) rfl ?_
            refine w_lrem X d3_91 (by decide) (pc' := 92) rfl ?_
            refine w_l2i X d3_92 (pc' := 93) rfl ?_
            refine w_isub X d3_93 (pc' := 94) rfl ?_
            refine w_i2b X d3_94 (pc' := 95) rfl ?_
            exact w_retN X rfl (by simp) d3_95 rfl (by decide) (by decide) ⟨by simp only [fCx, cx2, cxD, if_neg c2, if_neg c10, if_neg c37, if_neg c51, if_pos c60], rfl⟩
      · -- c37 not taken
        refine w_iconst X d3_40 (v := (0 : Int32)) (by decide) (pc' := 41) rfl ?_
        refine w_goto X d3_41 (by decide) (pc' := 46) (by decide) ?_
        refine w_istore X d3_46 (L' := #[.val (.int r), .val (.int sn), .val (.int x_), .val (.int ec), .val (.long ng), .second, .val (.int n), .val (.ref u), .val (.int (sn + (0 : Int32))), .val (.int (0 : Int32)), .unset, .unset, .unset]) rfl (pc' := 48) rfl ?_
        refine w_iloadN X d3_48 rfl (pc' := 49) rfl ?_
        refine w_iload X d3_49 rfl (pc' := 51) rfl ?_
        refine w_icmp_lt X d3_51 (by decide) (p1 := 96) (by decide) (p2 := 54) rfl (fun c51 => ?_) (fun c51 => ?_)
        · -- c51 taken
          refine w_iloadN X d3_96 rfl (pc' := 97) rfl ?_
          refine w_iconst X d3_97 (v := (2 : Int32)) (by decide) (pc' := 98) rfl ?_
          refine w_icmp_ne X d3_98 (by decide) (p1 := 113) (by decide) (p2 := 101) rfl (fun c98 => ?_) (fun c98 => ?_)
          · -- c98 taken
            refine w_iconst X d3_113 (v := (0 : Int32)) (by decide) (pc' := 114) rfl ?_
            exact w_retN X rfl (by simp) d3_114 rfl (by decide) (by decide) ⟨by simp only [fCx, cx2, cxD, if_neg c2, if_neg c10, if_pos c37, if_pos c51, if_neg c98], rfl⟩
          · -- c98 not taken
            refine w_iloadN X d3_101 rfl (pc' := 102) rfl ?_
            refine w_iload X d3_102 rfl (pc' := 104) rfl ?_
            refine w_iload X d3_104 rfl (pc' := 106) rfl ?_
            refine w_iadd X d3_106 (pc' := 107) rfl ?_
            refine w_icmp_ne X d3_107 (by decide) (p1 := 113) (by decide) (p2 := 110) rfl (fun c107 => ?_) (fun c107 => ?_)
            · -- c107 taken
              refine w_iconst X d3_113 (v := (0 : Int32)) (by decide) (pc' := 114) rfl ?_
              exact w_retN X rfl (by simp) d3_114 rfl (by decide) (by decide) ⟨by simp only [fCx, cx2, cxD, if_neg c2, if_neg c10, if_pos c37, if_pos c51, if_pos c98, if_neg c107], rfl⟩
            · -- c107 not taken
              refine w_iloadN X d3_110 rfl (pc' := 111) rfl ?_
              refine w_i2b X d3_111 (pc' := 112) rfl ?_
              exact w_retN X rfl (by simp) d3_112 rfl (by decide) (by decide) ⟨by simp only [fCx, cx2, cxD, if_neg c2, if_neg c10, if_pos c37, if_pos c51, if_pos c98, if_pos c107], rfl⟩
        · -- c51 not taken
          refine w_iloadN X d3_54 rfl (pc' := 55) rfl ?_
          refine w_iload X d3_55 rfl (pc' := 57) rfl ?_
          refine w_iload X d3_57 rfl (pc' := 59) rfl ?_
          refine w_iadd X d3_59 (pc' := 60) rfl ?_
          refine w_icmp_ge X d3_60 (by decide) (p1 := 96) (by decide) (p2 := 63) rfl (fun c60 => ?_) (fun c60 => ?_)
          · -- c60 taken
            refine w_iloadN X d3_96 rfl (pc' := 97) rfl ?_
            refine w_iconst X d3_97 (v := (2 : Int32)) (by decide) (pc' := 98) rfl ?_
            refine w_icmp_ne X d3_98 (by decide) (p1 := 113) (by decide) (p2 := 101) rfl (fun c98 => ?_) (fun c98 => ?_)
            · -- c98 taken
              refine w_iconst X d3_113 (v := (0 : Int32)) (by decide) (pc' := 114) rfl ?_
              exact w_retN X rfl (by simp) d3_114 rfl (by decide) (by decide) ⟨by simp only [fCx, cx2, cxD, if_neg c2, if_neg c10, if_pos c37, if_neg c51, if_neg c60, if_neg c98], rfl⟩
            · -- c98 not taken
              refine w_iloadN X d3_101 rfl (pc' := 102) rfl ?_
              refine w_iload X d3_102 rfl (pc' := 104) rfl ?_
              refine w_iload X d3_104 rfl (pc' := 106) rfl ?_
              refine w_iadd X d3_106 (pc' := 107) rfl ?_
              refine w_icmp_ne X d3_107 (by decide) (p1 := 113) (by decide) (p2 := 110) rfl (fun c107 => ?_) (fun c107 => ?_)
              · -- c107 taken
                refine w_iconst X d3_113 (v := (0 : Int32)) (by decide) (pc' := 114) rfl ?_
                exact w_retN X rfl (by simp) d3_114 rfl (by decide) (by decide) ⟨by simp only [fCx, cx2, cxD, if_neg c2, if_neg c10, if_pos c37, if_neg c51, if_neg c60, if_pos c98, if_neg c107], rfl⟩
              · -- c107 not taken
                refine w_iloadN X d3_110 rfl (pc' := 111) rfl ?_
                refine w_i2b X d3_111 (pc' := 112) rfl ?_
                exact w_retN X rfl (by simp) d3_112 rfl (by decide) (by decide) ⟨by simp only [fCx, cx2, cxD, if_neg c2, if_neg c10, if_pos c37, if_neg c51, if_neg c60, if_pos c98, if_pos c107], rfl⟩
          · -- c60 not taken
            refine w_iload X d3_63 rfl (pc' := 65) rfl ?_
            refine w_iconst X d3_65 (v := (1 : Int32)) (by decide) (pc' := 66) rfl ?_
            refine w_isub X d3_66 (pc' := 67) rfl ?_
            refine w_iloadN X d3_67 rfl (pc' := 68) rfl ?_
            refine w_iload X d3_68 rfl (pc' := 70) rfl ?_
            refine w_isub X d3_70 (pc' := 71) rfl ?_
            refine w_isub X d3_71 (pc' := 72) rfl ?_
            refine w_istore X d3_72 (L' := #[.val (.int r), .val (.int sn), .val (.int x_), .val (.int ec), .val (.long ng), .second, .val (.int n), .val (.ref u), .val (.int (sn + (0 : Int32))), .val (.int (0 : Int32)), .val (.int (((0 : Int32) - (1 : Int32)) - (r - (sn + (0 : Int32))))), .unset, .unset]) rfl (pc' := 74) rfl ?_
            refine w_lload X d3_74 rfl (pc' := 76) rfl ?_
            refine w_aload X d3_76 rfl rfl (pc' := 78) rfl ?_
            refine w_iload X d3_78 rfl (pc' := 80) rfl ?_
            have hat := cx_at (r := r) (ds := (sn + (0 : Int32))) (nd := (0 : Int32)) hs hn hr (by first | exact Or.inl rfl | exact Or.inr rfl) (by first | exact Or.inl rfl | exact Or.inr rfl) c51 c60
            refine w_laload X (i := ((((0 : Int32) - (1 : Int32)) - (r - (sn + (0 : Int32)))).toInt.toNat)) V d3_80 hat.1 (Nat.lt_succ_of_le hat.2) rfl (pc' := 81) rfl ?_
            refine w_ldiv X d3_81 (P10_ne hat.2) (pc' := 82) rfl ?_
            refine w_lstore X d3_82 (L' := #[.val (.int r), .val (.int sn), .val (.int x_), .val (.int ec), .val (.long ng), .second, .val (.int n), .val (.ref u), .val (.int (sn + (0 : Int32))), .val (.int (0 : Int32)), .val (.int (((0 : Int32) - (1 : Int32)) - (r - (sn + (0 : Int32))))), .val (.long (ng / (P10 ((((0 : Int32) - (1 : Int32)) - (r - (sn + (0 : Int32)))).toInt.toNat)))), .second]) rfl (pc' := 84) rfl ?_
            refine w_bipush X d3_84 (v := (48 : Int32)) (by decide) (pc' := 86) rfl ?_
            refine w_lload X d3_86 rfl (pc' := 88) rfl ?_
            refine w_ldcJ X d3_88 (tw1 hw) (pc' := 91) rfl ?_
            refine w_lrem X d3_91 (by decide) (pc' := 92) rfl ?_
            refine w_l2i X d3_92 (pc' := 93) rfl ?_
            refine w_isub X d3_93 (pc' := 94) rfl ?_
            refine w_i2b X d3_94 (pc' := 95) rfl ?_
            exact w_retN X rfl (by simp) d3_95 rfl (by decide) (by decide) ⟨by simp only [fCx, cx2, cxD, if_neg c2, if_neg c10, if_pos c37, if_neg c51, if_pos c60], rfl⟩
    · -- c10 not taken
      refine w_iloadN X d3_13 rfl (pc' := 14) rfl ?_
      refine w_iloadN X d3_14 rfl (pc' := 15) rfl ?_
      refine w_icmp_ne X d3_15 (by decide) (p1 := 21) (by decide) (p2 := 18) rfl (fun c15 => ?_) (fun c15 => ?_)
      · -- c15 taken
        refine w_iloadN X d3_21 rfl (pc' := 22) rfl ?_
        refine w_iloadN X d3_22 rfl (pc' := 23) rfl ?_
        refine w_iconst X d3_23 (v := (1 : Int32)) (by decide) (pc' := 24) rfl ?_
        refine w_icmp_ne X d3_24 (by decide) (p1 := 31) (by decide) (p2 := 27) rfl (fun c24 => absurd c10 c24) (fun _ => ?_)
        refine w_iconst X d3_27 (v := (1 : Int32)) (by decide) (pc' := 28) rfl ?_
        refine w_goto X d3_28 (by decide) (pc' := 32) (by decide) ?_
        refine w_iadd X d3_32 (pc' := 33) rfl ?_
        refine w_istore X d3_33 (L' := #[.val (.int r), .val (.int sn), .val (.int x_), .val (.int ec), .val (.long ng), .second, .val (.int n), .val (.ref u), .val (.int (sn + (1 : Int32))), .unset, .unset, .unset, .unset]) rfl (pc' := 35) rfl ?_
        refine w_iloadN X d3_35 rfl (pc' := 36) rfl ?_
        refine w_iconst X d3_36 (v := (3 : Int32)) (by decide) (pc' := 37) rfl ?_
        refine w_icmp_ne X d3_37 (by decide) (p1 := 44) (by decide) (p2 := 40) rfl (fun c37 => ?_) (fun c37 => ?_)
        · -- c37 taken
          refine w_iload X d3_44 rfl (pc' := 46) rfl ?_
          refine w_istore X d3_46 (L' := #[.val (.int r), .val (.int sn), .val (.int x_), .val (.int ec), .val (.long ng), .second, .val (.int n), .val (.ref u), .val (.int (sn + (1 : Int32))), .val (.int n), .unset, .unset, .unset]) rfl (pc' := 48) rfl ?_
          refine w_iloadN X d3_48 rfl (pc' := 49) rfl ?_
          refine w_iload X d3_49 rfl (pc' := 51) rfl ?_
          refine w_icmp_lt X d3_51 (by decide) (p1 := 96) (by decide) (p2 := 54) rfl (fun c51 => ?_) (fun c51 => ?_)
          · -- c51 taken
            refine w_iloadN X d3_96 rfl (pc' := 97) rfl ?_
            refine w_iconst X d3_97 (v := (2 : Int32)) (by decide) (pc' := 98) rfl ?_
            refine w_icmp_ne X d3_98 (by decide) (p1 := 113) (by decide) (p2 := 101) rfl (fun c98 => ?_) (fun c98 => ?_)
            · -- c98 taken
              refine w_iconst X d3_113 (v := (0 : Int32)) (by decide) (pc' := 114) rfl ?_
              exact w_retN X rfl (by simp) d3_114 rfl (by decide) (by decide) ⟨by simp only [fCx, cx2, cxD, if_neg c2, if_pos c10, if_neg c15, if_neg c37, if_pos c51, if_neg c98], rfl⟩
            · -- c98 not taken
              refine w_iloadN X d3_101 rfl (pc' := 102) rfl ?_
              refine w_iload X d3_102 rfl (pc' := 104) rfl ?_
              refine w_iload X d3_104 rfl (pc' := 106) rfl ?_
              refine w_iadd X d3_106 (pc' := 107) rfl ?_
              refine w_icmp_ne X d3_107 (by decide) (p1 := 113) (by decide) (p2 := 110) rfl (fun c107 => ?_) (fun c107 => ?_)
              · -- c107 taken
                refine w_iconst X d3_113 (v := (0 : Int32)) (by decide) (pc' := 114) rfl ?_
                exact w_retN X rfl (by simp) d3_114 rfl (by decide) (by decide) ⟨by simp only [fCx, cx2, cxD, if_neg c2, if_pos c10, if_neg c15, if_neg c37, if_pos c51, if_pos c98, if_neg c107], rfl⟩
              · -- c107 not taken
                refine w_iloadN X d3_110 rfl (pc' := 111) rfl ?_
                refine w_i2b X d3_111 (pc' := 112) rfl ?_
                exact w_retN X rfl (by simp) d3_112 rfl (by decide) (by decide) ⟨by simp only [fCx, cx2, cxD, if_neg c2, if_pos c10, if_neg c15, if_neg c37, if_pos c51, if_pos c98, if_pos c107], rfl⟩
          · -- c51 not taken
            refine w_iloadN X d3_54 rfl (pc' := 55) rfl ?_
            refine w_iload X d3_55 rfl (pc' := 57) rfl ?_
            refine w_iload X d3_57 rfl (pc' := 59) rfl ?_
            refine w_iadd X d3_59 (pc' := 60) rfl ?_
            refine w_icmp_ge X d3_60 (by decide) (p1 := 96) (by decide) (p2 := 63) rfl (fun c60 => ?_) (fun c60 => ?_)
            · -- c60 taken
              refine w_iloadN X d3_96 rfl (pc' := 97) rfl ?_
              refine w_iconst X d3_97 (v := (2 : Int32)) (by decide) (pc' := 98) rfl ?_
              refine w_icmp_ne X d3_98 (by decide) (p1 := 113) (by decide) (p2 := 101) rfl (fun c98 => ?_) (fun c98 => ?_)
              · -- c98 taken
                refine w_iconst X d3_113 (v := (0 : Int32)) (by decide) (pc' := 114) rfl ?_
                exact w_retN X rfl (by simp) d3_114 rfl (by decide) (by decide) ⟨by simp only [fCx, cx2, cxD, if_neg c2, if_pos c10, if_neg c15, if_neg c37, if_neg c51, if_neg c60, if_neg c98], rfl⟩
              · -- c98 not taken
                refine w_iloadN X d3_101 rfl (pc' := 102) rfl ?_
                refine w_iload X d3_102 rfl (pc' := 104) rfl ?_
                refine w_iload X d3_104 rfl (pc' := 106) rfl ?_
                refine w_iadd X d3_106 (pc' := 107) rfl ?_
                refine w_icmp_ne X d3_107 (by decide) (p1 := 113) (by decide) (p2 := 110) rfl (fun c107 => ?_) (fun c107 => ?_)
                · -- c107 taken
                  refine w_iconst X d3_113 (v := (0 : Int32)) (by decide) (pc' := 114) rfl ?_
                  exact w_retN X rfl (by simp) d3_114 rfl (by decide) (by decide) ⟨by simp only [fCx, cx2, cxD, if_neg c2, if_pos c10, if_neg c15, if_neg c37, if_neg c51, if_neg c60, if_pos c98, if_neg c107], rfl⟩
                · -- c107 not taken
                  refine w_iloadN X d3_110 rfl (pc' := 111) rfl ?_
                  refine w_i2b X d3_111 (pc' := 112) rfl ?_
                  exact w_retN X rfl (by simp) d3_112 rfl (by decide) (by decide) ⟨by simp only [fCx, cx2, cxD, if_neg c2, if_pos c10, if_neg c15, if_neg c37, if_neg c51, if_neg c60, if_pos c98, if_pos c107], rfl⟩
            · -- c60 not taken
              refine w_iload X d3_63 rfl (pc' := 65) rfl ?_
              refine w_iconst X d3_65 (v := (1 : Int32)) (by decide) (pc' := 66) rfl ?_
              refine w_isub X d3_66 (pc' := 67) rfl ?_
              refine w_iloadN X d3_67 rfl (pc' := 68) rfl ?_
              refine w_iload X d3_68 rfl (pc' := 70) rfl ?_
              refine w_isub X d3_70 (pc' := 71) rfl ?_
              refine w_isub X d3_71 (pc' := 72) rfl ?_
              refine w_istore X d3_72 (L' := #[.val (.int r), .val (.int sn), .val (.int x_), .val (.int ec), .val (.long ng), .second, .val (.int n), .val (.ref u), .val (.int (sn + (1 : Int32))), .val (.int n), .val (.int ((n - (1 : Int32)) - (r - (sn + (1 : Int32))))), .unset, .unset]) rfl (pc' := 74) rfl ?_
              refine w_lload X d3_74 rfl (pc' := 76) rfl ?_
              refine w_aload X d3_76 rfl rfl (pc' := 78) rfl ?_
              refine w_iload X d3_78 rfl (pc' := 80) rfl ?_
              have hat := cx_at (r := r) (ds := (sn + (1 : Int32))) (nd := n) hs hn hr (by first | exact Or.inl rfl | exact Or.inr rfl) (by first | exact Or.inl rfl | exact Or.inr rfl) c51 c60
              refine w_laload X (i := (((n - (1 : Int32)) - (r - (sn + (1 : Int32)))).toInt.toNat)) V d3_80 hat.1 (Nat.lt_succ_of_le hat.2) rfl (pc' := 81) rfl ?_
              refine w_ldiv X d3_81 (P10_ne hat.2) (pc' := 82) rfl ?_
              refine w_lstore X d3_82 (L' := #[.val (.int r), .val (.int sn), .val (.int x_), .val (.int ec), .val (.long ng), .second, .val (.int n), .val (.ref u), .val (.int (sn + (1 : Int32))), .val (.int n), .val (.int ((n - (1 : Int32)) - (r - (sn + (1 : Int32))))), .val (.long (ng / (P10 (((n - (1 : Int32)) - (r - (sn + (1 : Int32)))).toInt.toNat)))), .second]) rfl (pc' := 84) rfl ?_
              refine w_bipush X d3_84 (v := (48 : Int32)) (by decide) (pc' := 86) rfl ?_
              refine w_lload X d3_86 rfl (pc' := 88) rfl ?_
              refine w_ldcJ X d3_88 (tw1 hw) (pc' := 91) rfl ?_
              refine w_lrem X d3_91 (by decide) (pc' := 92) rfl ?_
              refine w_l2i X d3_92 (pc' := 93) rfl ?_
              refine w_isub X d3_93 (pc' := 94) rfl ?_
              refine w_i2b X d3_94 (pc' := 95) rfl ?_
              exact w_retN X rfl (by simp) d3_95 rfl (by decide) (by decide) ⟨by simp only [fCx, cx2, cxD, if_neg c2, if_pos c10, if_neg c15, if_neg c37, if_neg c51, if_pos c60], rfl⟩
        · -- c37 not taken
          refine w_iconst X d3_40 (v := (0 : Int32)) (by decide) (pc' := 41) rfl ?_
          refine w_goto X d3_41 (by decide) (pc' := 46) (by decide) ?_
          refine w_istore X d3_46 (L' := #[.val (.int r), .val (.int sn), .val (.int x_), .val (.int ec), .val (.long ng), .second, .val (.int n), .val (.ref u), .val (.int (sn + (1 : Int32))), .val (.int (0 : Int32)), .unset, .unset, .unset]) rfl (pc' := 48) rfl ?_
          refine w_iloadN X d3_48 rfl (pc' := 49) rfl ?_
          refine w_iload X d3_49 rfl (pc' := 51) rfl ?_
          refine w_icmp_lt X d3_51 (by decide) (p1 := 96) (by decide) (p2 := 54) rfl (fun c51 => ?_) (fun c51 => ?_)
          · -- c51 taken
            refine w_iloadN X d3_96 rfl (pc' := 97) rfl ?_
            refine w_iconst X d3_97 (v := (2 : Int32)) (by decide) (pc' := 98) rfl ?_
            refine w_icmp_ne X d3_98 (by decide) (p1 := 113) (by decide) (p2 := 101) rfl (fun c98 => ?_) (fun c98 => ?_)
            · -- c98 taken
              refine w_iconst X d3_113 (v := (0 : Int32)) (by decide) (pc' := 114) rfl ?_
              exact w_retN X rfl (by simp) d3_114 rfl (by decide) (by decide) ⟨by simp only [fCx, cx2, cxD, if_neg c2, if_pos c10, if_neg c15, if_pos c37, if_pos c51, if_neg c98], rfl⟩
            · -- c98 not taken
              refine w_iloadN X d3_101 rfl (pc' := 102) rfl ?_
              refine w_iload X d3_102 rfl (pc' := 104) rfl ?_
              refine w_iload X d3_104 rfl (pc' := 106) rfl ?_
              refine w_iadd X d3_106 (pc' := 107) rfl ?_
              refine w_icmp_ne X d3_107 (by decide) (p1 := 113) (by decide) (p2 := 110) rfl (fun c107 => ?_) (fun c107 => ?_)
              · -- c107 taken
                refine w_iconst X d3_113 (v := (0 : Int32)) (by decide) (pc' := 114) rfl ?_
                exact w_retN X rfl (by simp) d3_114 rfl (by decide) (by decide) ⟨by simp only [fCx, cx2, cxD, if_neg c2, if_pos c10, if_neg c15, if_pos c37, if_pos c51, if_pos c98, if_neg c107], rfl⟩
              · -- c107 not taken
                refine w_iloadN X d3_110 rfl (pc' := 111) rfl ?_
                refine w_i2b X d3_111 (pc' := 112) rfl ?_
                exact w_retN X rfl (by simp) d3_112 rfl (by decide) (by decide) ⟨by simp only [fCx, cx2, cxD, if_neg c2, if_pos c10, if_neg c15, if_pos c37, if_pos c51, if_pos c98, if_pos c107], rfl⟩
          · -- c51 not taken
            refine w_iloadN X d3_54 rfl (pc' := 55) rfl ?_
            refine w_iload X d3_55 rfl (pc' := 57) rfl ?_
            refine w_iload X d3_57 rfl (pc' := 59) rfl ?_
            refine w_iadd X d3_59 (pc' := 60) rfl ?_
            refine w_icmp_ge X d3_60 (by decide) (p1 := 96) (by decide) (p2 := 63) rfl (fun c60 => ?_) (fun c60 => ?_)
            · -- c60 taken
              refine w_iloadN X d3_96 rfl (pc' := 97) rfl ?_
              refine w_iconst X d3_97 (v := (2 : Int32)) (by decide) (pc' := 98) rfl ?_
              refine w_icmp_ne X d3_98 (by decide) (p1 := 113) (by decide) (p2 := 101) rfl (fun c98 => ?_) (fun c98 => ?_)
              · -- c98 taken
                refine w_iconst X d3_113 (v := (0 : Int32)) (by decide) (pc' := 114) rfl ?_
                exact w_retN X rfl (by simp) d3_114 rfl (by decide) (by decide) ⟨by simp only [fCx, cx2, cxD, if_neg c2, if_pos c10, if_neg c15, if_pos c37, if_neg c51, if_neg c60, if_neg c98], rfl⟩
              · -- c98 not taken
                refine w_iloadN X d3_101 rfl (pc' := 102) rfl ?_
                refine w_iload X d3_102 rfl (pc' := 104) rfl ?_
                refine w_iload X d3_104 rfl (pc' := 106) rfl ?_
                refine w_iadd X d3_106 (pc' := 107) rfl ?_
                refine w_icmp_ne X d3_107 (by decide) (p1 := 113) (by decide) (p2 := 110) rfl (fun c107 => ?_) (fun c107 => ?_)
                · -- c107 taken
                  refine w_iconst X d3_113 (v := (0 : Int32)) (by decide) (pc' := 114) rfl ?_
                  exact w_retN X rfl (by simp) d3_114 rfl (by decide) (by decide) ⟨by simp only [fCx, cx2, cxD, if_neg c2, if_pos c10, if_neg c15, if_pos c37, if_neg c51, if_neg c60, if_pos c98, if_neg c107], rfl⟩
                · -- c107 not taken
                  refine w_iloadN X d3_110 rfl (pc' := 111) rfl ?_
                  refine w_i2b X d3_111 (pc' := 112) rfl ?_
                  exact w_retN X rfl (by simp) d3_112 rfl (by decide) (by decide) ⟨by simp only [fCx, cx2, cxD, if_neg c2, if_pos c10, if_neg c15, if_pos c37, if_neg c51, if_neg c60, if_pos c98, if_pos c107], rfl⟩
            · -- c60 not taken
              refine w_iload X d3_63 rfl (pc' := 65) rfl ?_
              refine w_iconst X d3_65 (v := (1 : Int32)) (by decide) (pc' := 66) rfl ?_
              refine w_isub X d3_66 (pc' := 67) rfl ?_
              refine w_iloadN X d3_67 rfl (pc' := 68) rfl ?_
              refine w_iload X d3_68 rfl (pc' := 70) rfl ?_
              refine w_isub X d3_70 (pc' := 71) rfl ?_
              refine w_isub X d3_71 (pc' := 72) rfl ?_
              refine w_istore X d3_72 (L' := #[.val (.int r), .val (.int sn), .val (.int x_), .val (.int ec), .val (.long ng), .second, .val (.int n), .val (.ref u), .val (.int (sn + (1 : Int32))), .val (.int (0 : Int32)), .val (.int (((0 : Int32) - (1 : Int32)) - (r - (sn + (1 : Int32))))), .unset, .unset]) rfl (pc' := 74) rfl ?_
              refine w_lload X d3_74 rfl (pc' := 76) rfl ?_
              refine w_aload X d3_76 rfl rfl (pc' := 78) rfl ?_
              refine w_iload X d3_78 rfl (pc' := 80) rfl ?_
              have hat := cx_at (r := r) (ds := (sn + (1 : Int32))) (nd := (0 : Int32)) hs hn hr (by first | exact Or.inl rfl | exact Or.inr rfl) (by first | exact Or.inl rfl | exact Or.inr rfl) c51 c60
              refine w_laload X (i := ((((0 : Int32) - (1 : Int32)) - (r - (sn + (1 : Int32)))).toInt.toNat)) V d3_80 hat.1 (Nat.lt_succ_of_le hat.2) rfl (pc' := 81) rfl ?_
              refine w_ldiv X d3_81 (P10_ne hat.2) (pc' := 82) rfl ?_
              refine w_lstore X d3_82 (L' := #[.val (.int r), .val (.int sn), .val (.int x_), .val (.int ec), .val (.long ng), .second, .val (.int n), .val (.ref u), .val (.int (sn + (1 : Int32))), .val (.int (0 : Int32)), .val (.int (((0 : Int32) - (1 : Int32)) - (r - (sn + (1 : Int32))))), .val (.long (ng / (P10 ((((0 : Int32) - (1 : Int32)) - (r - (sn + (1 : Int32)))).toInt.toNat)))), .second]) rfl (pc' := 84) rfl ?_
              refine w_bipush X d3_84 (v := (48 : Int32)) (by decide) (pc' := 86) rfl ?_
              refine w_lload X d3_86 rfl (pc' := 88) rfl ?_
              refine w_ldcJ X d3_88 (tw1 hw) (pc' := 91) rfl ?_
              refine w_lrem X d3_91 (by decide) (pc' := 92) rfl ?_
              refine w_l2i X d3_92 (pc' := 93) rfl ?_
              refine w_isub X d3_93 (pc' := 94) rfl ?_
              refine w_i2b X d3_94 (pc' := 95) rfl ?_
              exact w_retN X rfl (by simp) d3_95 rfl (by decide) (by decide) ⟨by simp only [fCx, cx2, cxD, if_neg c2, if_pos c10, if_neg c15, if_pos c37, if_neg c51, if_pos c60], rfl⟩
      · -- c15 not taken
        refine w_iloadN X d3_18 rfl (pc' := 19) rfl ?_
        refine w_i2b X d3_19 (pc' := 20) rfl ?_
        exact w_retN X rfl (by simp) d3_20 rfl (by decide) (by decide) ⟨by simp only [fCx, cx2, cxD, if_neg c2, if_pos c10, if_pos c15], rfl⟩
  · -- c2 not taken
    refine w_bipush X d3_5 (v := (45 : Int32)) (by decide) (pc' := 7) rfl ?_
    exact w_retN X rfl (by simp) d3_7 rfl (by decide) (by decide) ⟨by simp only [fCx, cx2, cxD, if_pos c2], rfl⟩
set_option maxRecDepth 65536 in
set_option maxHeartbeats 4000000 in
theorem ct_fl (l : Launch) (Z : State) (a0 : Array Value) (hw : ∀ d ∈ tables_1, d.before a0 Z = true) (a : Addr) (off sn x_ ec : Int32) (ng : Int64) (n : Int32) (u : Addr) (g : Nat → Int32) (h0 : Heap) (n0 : Nat) (Z0 : n0 ≤ h0.size) (ga : n0 ≤ a) (hau : a ≠ u) (O : AI Z h0 a .byte 22 g) (V : AJ Z h0 u 19 P10) (hs : 0 ≤ sn.toInt ∧ sn.toInt ≤ 1) (hn : 1 ≤ n.toInt ∧ n.toInt ≤ 19) (ho : 0 ≤ off.toInt ∧ off.toInt ≤ 1) :
    Ct l Z (⟨"com/example/varve/varve/column/DigitsOfPinLaw", "fill", "([BIIIIJI[J)V"⟩ : MethodName) method_5_code 9 none ({ frames := 1, cells := 0, slots := 0, locals := 30 } : Room) #[(.ref a), (.int off), (.int sn), (.int x_), (.int ec), (.long ng), (.int n), (.ref u)] h0 n0 (fun v h => v = none ∧ ∃ g', Keep h0 h [a] ∧ AI Z h a .byte 22 g' ∧ ∀ k, k < 21 + 1 → g' k = FX off sn x_ ec ng n k) := by
  refine Ct.intro (plainFor_of_name (by first | (simp [plainName, overriddenIn]; done) | decide +kernel)) Z0 ?_
  intro p e s m below meth c T X
  refine WP.cast (g' := (mkF m 0 #[.val (.ref a), .val (.int off), .val (.int sn), .val (.int x_), .val (.int ec), .val (.long ng), .second, .val (.int n), .val (.ref u)] [])) (by first | (simp [entryFrame, mkF, argsToLocals, Value.category]; done) | rfl) ?_
  have K := Keep.refl h0 [a]
  refine w_aloadN X d2_0 rfl rfl (pc' := 1) rfl ?_
  refine w_iconst X d2_1 (v := (0 : Int32)) (by decide) (pc' := 2) rfl ?_
  refine w_iconst X d2_2 (v := (0 : Int32)) (by decide) (pc' := 3) rfl ?_
  refine w_iloadN X d2_3 rfl (pc' := 4) rfl ?_
  refine w_isub X d2_4 (pc' := 5) rfl ?_
  refine w_iloadN X d2_5 rfl (pc' := 6) rfl ?_
  refine w_iloadN X d2_6 rfl (pc' := 7) rfl ?_
  refine w_iload X d2_7 rfl (pc' := 9) rfl ?_
  refine w_lload X d2_9 rfl (pc' := 11) rfl ?_
  refine w_iload X d2_11 rfl (pc' := 13) rfl ?_
  refine w_aload X d2_13 rfl rfl (pc' := 15) rfl ?_
  refine w_callS X [(.int ((0 : Int32) - off)), (.int sn), (.int x_), (.int ec), (.long ng), (.int n), (.ref u)] [(.int (0 : Int32)), (.ref a)] 2 (tw27 hw) (tw28 hw) (tw21 hw) (tw29 hw) (ct_cx l Z a0 hw ((0 : Int32) - off) sn x_ ec ng n u h0 n0 X.n0le V hs hn (r_ok (k := 0) (by decide) ho)) d2_15 pd0 rfl (by decide) rfl rfl rfl (by decide) (by decide) (by decide) (by decide) (pc' := 18) rfl ?_
  intro T hz v X hQ
  obtain ⟨rfl, hz1⟩ := hQ; replace hz1 := hz1.symm; subst hz1
  show WP _ _ _ _ _ _ _ _ _ (mkF m 18 #[.val (.ref a), .val (.int off), .val (.int sn), .val (.int x_), .val (.int ec), .val (.long ng), .second, .val (.int n), .val (.ref u)] [(.int (fCx ((0 : Int32) - off) sn x_ ec ng n)), (.int (0 : Int32)), (.ref a)])
  refine w_bastore X (i := 0) (x' := (fCx ((0 : Int32) - off) sn x_ ec ng n)) O ga d2_18 (by decide) (by decide) (fCx_nar _ _ _ _ _ _) (pc' := 19) rfl ?_; intro T h1 X K2 O3
  have O4 := V.keep K2 (ninS (Ne.symm hau) nin0)
  have K5 := K.trans K2 (allS (Or.inl (by simp)) all0)
  obtain ⟨g6, O7, H8⟩ := fill_step (F := FX off sn x_ ec ng n) O3 (fun k hk => absurd hk (Nat.not_lt_zero k)) rfl
  refine w_aloadN X d2_19 rfl rfl (pc' := 20) rfl ?_
  refine w_iconst X d2_20 (v := (1 : Int32)) (by decide) (pc' := 21) rfl ?_
  refine w_iconst X d2_21 (v := (1 : Int32)) (by decide) (pc' := 22) rfl ?_
  refine w_iloadN X d2_22 rfl (pc' := 23) rfl ?_
  refine w_isub X d2_23 (pc' := 24) rfl ?_
  refine w_iloadN X d2_24 rfl (pc' := 25) rfl ?_
  refine w_iloadN X d2_25 rfl (pc' := 26) rfl ?_
  refine w_iload X d2_26 rfl (pc' := 28) rfl ?_
  refine w_lload X d2_28 rfl (pc' := 30) rfl ?_
  refine w_iload X d2_30 rfl (pc' := 32) rfl ?_
  refine w_aload X d2_32 rfl rfl (pc' := 34) rfl ?_
  refine w_callS X [(.int ((1 : Int32) - off)), (.int sn), (.int x_), (.int ec), (.long ng), (.int n), (.ref u)] [(.int (1 : Int32)), (.ref a)] 2 (tw27 hw) (tw28 hw) (tw21 hw) (tw29 hw) (ct_cx l Z a0 hw ((1 : Int32) - off) sn x_ ec ng n u h1 n0 X.n0le O4 hs hn (r_ok (k := 1) (by decide) ho)) d2_34 pd0 rfl (by decide) rfl rfl rfl (by decide) (by decide) (by decide) (by decide) (pc' := 37) rfl ?_
  intro T hz v X hQ
  obtain ⟨rfl, hz1⟩ := hQ; replace hz1 := hz1.symm; subst hz1
  show WP _ _ _ _ _ _ _ _ _ (mkF m 37 #[.val (.ref a), .val (.int off), .val (.int sn), .val (.int x_), .val (.int ec), .val (.long ng), .second, .val (.int n), .val (.ref u)] [(.int (fCx ((1 : Int32) - off) sn x_ ec ng n)), (.int (1 : Int32)), (.ref a)])
  refine w_bastore X (i := 1) (x' := (fCx ((1 : Int32) - off) sn x_ ec ng n)) O7 ga d2_37 (by decide) (by decide) (fCx_nar _ _ _ _ _ _) (pc' := 38) rfl ?_; intro T h9 X K10 O11
  have O12 := O4.keep K10 (ninS (Ne.symm hau) nin0)
  have K13 := K5.trans K10 (allS (Or.inl (by simp)) all0)
  obtain ⟨g14, O15, H16⟩ := fill_step (F := FX off sn x_ ec ng n) O11 H8 rfl
  refine w_aloadN X d2_38 rfl rfl (pc' := 39) rfl ?_
  refine w_iconst X d2_39 (v := (2 : Int32)) (by decide) (pc' := 40) rfl ?_
  refine w_iconst X d2_40 (v := (2 : Int32)) (by decide) (pc' := 41) rfl ?_
  refine w_iloadN X d2_41 rfl (pc' := 42) rfl ?_
  refine w_isub X d2_42 (pc' := 43) rfl ?_
  refine w_iloadN X d2_43 rfl (pc' := 44) rfl ?_
  refine w_iloadN X d2_44 rfl (pc' := 45) rfl ?_
  refine w_iload X d2_45 rfl (pc' := 47) rfl ?_
  refine w_lload X d2_47 rfl (pc' := 49) rfl ?_
  refine w_iload X d2_49 rfl (pc' := 51) rfl ?_
  refine w_aload X d2_51 rfl rfl (pc' := 53) rfl ?_
  refine w_callS X [(.int ((2 : Int32) - off)), (.int sn), (.int x_), (.int ec), (.long ng), (.int n), (.ref u)] [(.int (2 : Int32)), (.ref a)] 2 (tw27 hw) (tw28 hw) (tw21 hw) (tw29 hw) (ct_cx l Z a0 hw ((2 : Int32) - off) sn x_ ec ng n u h9 n0 X.n0le O12 hs hn (r_ok (k := 2) (by decide) ho)) d2_53 pd0 rfl (by decide) rfl rfl rfl (by decide) (by decide) (by decide) (by decide) (pc' := 56) rfl ?_
  intro T hz v X hQ
  obtain ⟨rfl, hz1⟩ := hQ; replace hz1 := hz1.symm; subst hz1
  show WP _ _ _ _ _ _ _ _ _ (mkF m 56 #[.val (.ref a), .val (.int off), .val (.int sn), .val (.int x_), .val (.int ec), .val (.long ng), .second, .val (.int n), .val (.ref u)] [(.int (fCx ((2 : Int32) - off) sn x_ ec ng n)), (.int (2 : Int32)), (.ref a)])
  refine w_bastore X (i := 2) (x' := (fCx ((2 : Int32) - off) sn x_ ec ng n)) O15 ga d2_56 (by decide) (by decide) (fCx_nar _ _ _ _ _ _) (pc' := 57) rfl ?_; intro T h17 X K18 O19
  have O20 := O12.keep K18 (ninS (Ne.symm hau) nin0)
  have K21 := K13.trans K18 (allS (Or.inl (by simp)) all0)
  obtain ⟨g22, O23, H24⟩ := fill_step (F := FX off sn x_ ec ng n) O19 H16 rfl
  refine w_aloadN X d2_57 rfl rfl (pc' := 58) rfl ?_
  refine w_iconst X d2_58 (v := (3 : Int32)) (by decide) (pc' := 59) rfl ?_
  refine w_iconst X d2_59 (v := (3 : Int32)) (by decide) (pc' := 60) rfl ?_
  refine w_iloadN X d2_60 rfl (pc' := 61) rfl ?_
  refine w_isub X d2_61 (pc' := 62) rfl ?_
  refine w_iloadN X d2_62 rfl (pc' := 63) rfl ?_
  refine w_iloadN X d2_63 rfl (pc' := 64) rfl ?_
  refine w_iload X d2_64 rfl (pc' := 66) rfl ?_
  refine w_lload X d2_66 rfl (pc' := 68) rfl ?_
  refine w_iload X d2_68 rfl (pc' := 70) rfl ?_
  refine w_aload X d2_70 rfl rfl (pc' := 72) rfl ?_
  refine w_callS X [(.int ((3 : Int32) - off)), (.int sn), (.int x_), (.int ec), (.long ng), (.int n), (.ref u)] [(.int (3 : Int32)), (.ref a)] 2 (tw27 hw) (tw28 hw) (tw21 hw) (tw29 hw) (ct_cx l Z a0 hw ((3 : Int32) - off) sn x_ ec ng n u h17 n0 X.n0le O20 hs hn (r_ok (k := 3) (by decide) ho)) d2_72 pd0 rfl (by decide) rfl rfl rfl (by decide) (by decide) (by decide) (by decide) (pc' := 75) rfl ?_
  intro T hz v X hQ
  obtain ⟨rfl, hz1⟩ := hQ; replace hz1 := hz1.symm; subst hz1
  show WP _ _ _ _ _ _ _ _ _ (mkF m 75 #[.val (.ref a), .val (.int off), .val (.int sn), .val (.int x_), .val (.int ec), .val (.long ng), .second, .val (.int n), .val (.ref u)] [(.int (fCx ((3 : Int32) - off) sn x_ ec ng n)), (.int (3 : Int32)), (.ref a)])
  refine w_bastore X (i := 3) (x' := (fCx ((3 : Int32) - off) sn x_ ec ng n)) O23 ga d2_75 (by decide) (by decide) (fCx_nar _ _ _ _ _ _) (pc' := 76) rfl ?_; intro T h25 X K26 O27
  have O28 := O20.keep K26 (ninS (Ne.symm hau) nin0)
  have K29 := K21.trans K26 (allS (Or.inl (by simp)) all0)
  obtain ⟨g30, O31, H32⟩ := fill_step (F := FX off sn x_ ec ng n) O27 H24 rfl
  refine w_aloadN X d2_76 rfl rfl (pc' := 77) rfl ?_
  refine w_iconst X d2_77 (v := (4 : Int32)) (by decide) (pc' := 78) rfl ?_
  refine w_iconst X d2_78 (v := (4 : Int32)) (by decide) (pc' := 79) rfl ?_
  refine w_iloadN X d2_79 rfl (pc' := 80) rfl ?_
  refine w_isub X d2_80 (pc' := 81) rfl ?_
  refine w_iloadN X d2_81 rfl (pc' := 82) rfl ?_
  refine w_iloadN X d2_82 rfl (pc' := 83) rfl ?_
  refine w_iload X d2_83 rfl (pc' := 85) rfl ?_
  refine w_lload X d2_85 rfl (pc' := 87) rfl ?_
  refine w_iload X d2_87 rfl (pc' := 89) rfl ?_
  refine w_aload X d2_89 rfl rfl (pc' := 91) rfl ?_
  refine w_callS X [(.int ((4 : Int32) - off)), (.int sn), (.int x_), (.int ec), (.long ng), (.int n), (.ref u)] [(.int (4 : Int32)), (.ref a)] 2 (tw27 hw) (tw28 hw) (tw21 hw) (tw29 hw) (ct_cx l Z a0 hw ((4 : Int32) - off) sn x_ ec ng n u h25 n0 X.n0le O28 hs hn (r_ok (k := 4) (by decide) ho)) d2_91 pd0 rfl (by decide) rfl rfl rfl (by decide) (by decide) (by decide) (by decide) (pc' := 94) rfl ?_
  intro T hz v X hQ
  obtain ⟨rfl, hz1⟩ := hQ; replace hz1 := hz1.symm; subst hz1
  show WP _ _ _ _ _ _ _ _ _ (mkF m 94 #[.val (.ref a), .val (.int off), .val (.int sn), .val (.int x_), .val (.int ec), .val (.long ng), .second, .val (.int n), .val (.ref u)] [(.int (fCx ((4 : Int32) - off) sn x_ ec ng n)), (.int (4 : Int32)), (.ref a)])
  refine w_bastore X (i := 4) (x' := (fCx ((4 : Int32) - off) sn x_ ec ng n)) O31 ga d2_94 (by decide) (by decide) (fCx_nar _ _ _ _ _ _) (pc' := 95) rfl ?_; intro T h33 X K34 O35
  have O36 := O28.keep K34 (ninS (Ne.symm hau) nin0)
  have K37 := K29.trans K34 (allS (Or.inl (by simp)) all0)
  obtain ⟨g38, O39, H40⟩ := fill_step (F := FX off sn x_ ec ng n) O35 H32 rfl
  refine w_aloadN X d2_95 rfl rfl (pc' := 96) rfl ?_
  refine w_iconst X d2_96 (v := (5 : Int32)) (by decide) (pc' := 97) rfl ?_
  refine w_iconst X d2_97 (v := (5 : Int32)) (by decide) (pc' := 98) rfl ?_
  refine w_iloadN X d2_98 rfl (pc' := 99) rfl ?_
  refine w_isub X d2_99 (pc' := 100) rfl ?_
  refine w_iloadN X d2_100 rfl (pc' := 101) rfl ?_
  refine w_iloadN X d2_101 rfl (pc' := 102) rfl ?_
  refine w_iload X d2_102 rfl (pc' := 104) rfl ?_
  refine w_lload X d2_104 rfl (pc' := 106) rfl ?_
  refine w_iload X d2_106 rfl (pc' := 108) rfl ?_
  refine w_aload X d2_108 rfl rfl (pc' := 110) rfl ?_
  refine w_callS X [(.int ((5 : Int32) - off)), (.int sn), (.int x_), (.int ec), (.long ng), (.int n), (.ref u)] [(.int (5 : Int32)), (.ref a)] 2 (tw27 hw) (tw28 hw) (tw21 hw) (tw29 hw) (ct_cx l Z a0 hw ((5 : Int32) - off) sn x_ ec ng n u h33 n0 X.n0le O36 hs hn (r_ok (k := 5) (by decide) ho)) d2_110 pd0 rfl (by decide) rfl rfl rfl (by decide) (by decide) (by decide) (by decide) (pc' := 113) rfl ?_
  intro T hz v X hQ
  obtain ⟨rfl, hz1⟩ := hQ; replace hz1 := hz1.symm; subst hz1
  show WP _ _ _ _ _ _ _ _ _ (mkF m 113 #[.val (.ref a), .val (.int off), .val (.int sn), .val (.int x_), .val (.int ec), .val (.long ng), .second, .val (.int n), .val (.ref u)] [(.int (fCx ((5 : Int32) - off) sn x_ ec ng n)), (.int (5 : Int32)), (.ref a)])
  refine w_bastore X (i := 5) (x' := (fCx ((5 : Int32) - off) sn x_ ec ng n)) O39 ga d2_113 (by decide) (by decide) (fCx_nar _ _ _ _ _ _) (pc' := 114) rfl ?_; intro T h41 X K42 O43
  have O44 := O36.keep K42 (ninS (Ne.symm hau) nin0)
  have K45 := K37.trans K42 (allS (Or.inl (by simp)) all0)
  obtain ⟨g46, O47, H48⟩ := fill_step (F := FX off sn x_ ec ng n) O43 H40 rfl
  refine w_aloadN X d2_114 rfl rfl (pc' := 115) rfl ?_
  refine w_bipush X d2_115 (v := (6 : Int32)) (by decide) (pc' := 117) rfl ?_
  refine w_bipush X d2_117 (v := (6 : Int32)) (by decide) (pc' := 119) rfl ?_
  refine w_iloadN X d2_119 rfl (pc' := 120) rfl ?_
  refine w_isub X d2_120 (pc' := 121) rfl ?_
  refine w_iloadN X d2_121 rfl (pc' := 122) rfl ?_
  refine w_iloadN X d2_122 rfl (pc' := 123) rfl ?_
  refine w_iload X d2_123 rfl (pc' := 125) rfl ?_
  refine w_lload X d2_125 rfl (pc' := 127) rfl ?_
  refine w_iload X d2_127 rfl (pc' := 129) rfl ?_
  refine w_aload X d2_129 rfl rfl (pc' := 131) rfl ?_
  refine w_callS X [(.int ((6 : Int32) - off)), (.int sn), (.int x_), (.int ec), (.long ng), (.int n), (.ref u)] [(.int (6 : Int32)), (.ref a)] 2 (tw27 hw) (tw28 hw) (tw21 hw) (tw29 hw) (ct_cx l Z a0 hw ((6 : Int32) - off) sn x_ ec ng n u h41 n0 X.n0le O44 hs hn (r_ok (k := 6) (by decide) ho)) d2_131 pd0 rfl (by decide) rfl rfl rfl (by decide) (by decide) (by decide) (by decide) (pc' := 134) rfl ?_
  intro T hz v X hQ
  obtain ⟨rfl, hz1⟩ := hQ; replace hz1 := hz1.symm; subst hz1
  show WP _ _ _ _ _ _ _ _ _ (mkF m 134 #[.val (.ref a), .val (.int off), .val (.int sn), .val (.int x_), .val (.int ec), .val (.long ng), .second, .val (.int n), .val (.ref u)] [(.int (fCx ((6 : Int32) - off) sn x_ ec ng n)), (.int (6 : Int32)), (.ref a)])
  refine w_bastore X (i := 6) (x' := (fCx ((6 : Int32) - off) sn x_ ec ng n)) O47 ga d2_134 (by decide) (by decide) (fCx_nar _ _ _ _ _ _) (pc' := 135) rfl ?_; intro T h49 X K50 O51
  have O52 := O44.keep K50 (ninS (Ne.symm hau) nin0)
  have K53 := K45.trans K50 (allS (Or.inl (by simp)) all0)
  obtain ⟨g54, O55, H56⟩ := fill_step (F := FX off sn x_ ec ng n) O51 H48 rfl
  refine w_aloadN X d2_135 rfl rfl (pc' := 136) rfl ?_
  refine w_bipush X d2_136 (v := (7 : Int32)) (by decide) (pc' := 138) rfl ?_
  refine w_bipush X d2_138 (v := (7 : Int32)) (by decide) (pc' := 140) rfl ?_
  refine w_iloadN X d2_140 rfl (pc' := 141) rfl ?_
  refine w_isub X d2_141 (pc' := 142) rfl ?_
  refine w_iloadN X d2_142 rfl (pc' := 143) rfl ?_
  refine w_iloadN X d2_143 rfl (pc' := 144) rfl ?_
  refine w_iload X d2_144 rfl (pc' := 146) rfl ?_
  refine w_lload X d2_146 rfl (pc' := 148) rfl ?_
  refine w_iload X d2_148 rfl (pc' := 150) rfl ?_
  refine w_aload X d2_150 rfl rfl (pc' := 152) rfl ?_
  refine w_callS X [(.int ((7 : Int32) - off)), (.int sn), (.int x_), (.int ec), (.long ng), (.int n), (.ref u)] [(.int (7 : Int32)), (.ref a)] 2 (tw27 hw) (tw28 hw) (tw21 hw) (tw29 hw) (ct_cx l Z a0 hw ((7 : Int32) - off) sn x_ ec ng n u h49 n0 X.n0le O52 hs hn (r_ok (k := 7) (by decide) ho)) d2_152 pd0 rfl (by decide) rfl rfl rfl (by decide) (by decide) (by decide) (by decide) (pc' := 155) rfl ?_
  intro T hz v X hQ
  obtain ⟨rfl, hz1⟩ := hQ; replace hz1 := hz1.symm; subst hz1
  show WP _ _ _ _ _ _ _ _ _ (mkF m 155 #[.val (.ref a), .val (.int off), .val (.int sn), .val (.int x_), .val (.int ec), .val (.long ng), .second, .val (.int n), .val (.ref u)] [(.int (fCx ((7 : Int32) - off) sn x_ ec ng n)), (.int (7 : Int32)), (.ref a)])
  refine w_bastore X (i := 7) (x' := (fCx ((7 : Int32) - off) sn x_ ec ng n)) O55 ga d2_155 (by decide) (by decide) (fCx_nar _ _ _ _ _ _) (pc' := 156) rfl ?_; intro T h57 X K58 O59
  have O60 := O52.keep K58 (ninS (Ne.symm hau) nin0)
  have K61 := K53.trans K58 (allS (Or.inl (by simp)) all0)
  obtain ⟨g62, O63, H64⟩ := fill_step (F := FX off sn x_ ec ng n) O59 H56 rfl
  refine w_aloadN X d2_156 rfl rfl (pc' := 157) rfl ?_
  refine w_bipush X d2_157 (v := (8 : Int32)) (by decide) (pc' := 159) rfl ?_
  refine w_bipush X d2_159 (v := (8 : Int32)) (by decide) (pc' := 161) rfl ?_
  refine w_iloadN X d2_161 rfl (pc' := 162) rfl ?_
  refine w_isub X d2_162 (pc' := 163) rfl ?_
  refine w_iloadN X d2_163 rfl (pc' := 164) rfl ?_
  refine w_iloadN X d2_164 rfl (pc' := 165) rfl ?_
  refine w_iload X d2_165 rfl (pc' := 167) rfl ?_
  refine w_lload X d2_167 rfl (pc' := 169) rfl ?_
  refine w_iload X d2_169 rfl (pc' := 171) rfl ?_
  refine w_aload X d2_171 rfl rfl (pc' := 173) rfl ?_
  refine w_callS X [(.int ((8 : Int32) - off)), (.int sn), (.int x_), (.int ec), (.long ng), (.int n), (.ref u)] [(.int (8 : Int32)), (.ref a)] 2 (tw27 hw) (tw28 hw) (tw21 hw) (tw29 hw) (ct_cx l Z a0 hw ((8 : Int32) - off) sn x_ ec ng n u h57 n0 X.n0le O60 hs hn (r_ok (k := 8) (by decide) ho)) d2_173 pd0 rfl (by decide) rfl rfl rfl (by decide) (by decide) (by decide) (by decide) (pc' := 176) rfl ?_
  intro T hz v X hQ
  obtain ⟨rfl, hz1⟩ := hQ; replace hz1 := hz1.symm; subst hz1
  show WP _ _ _ _ _ _ _ _ _ (mkF m 176 #[.val (.ref a), .val (.int off), .val (.int sn), .val (.int x_), .val (.int ec), .val (.long ng), .second, .val (.int n), .val (.ref u)] [(.int (fCx ((8 : Int32) - off) sn x_ ec ng n)), (.int (8 : Int32)), (.ref a)])
  refine w_bastore X (i := 8) (x' := (fCx ((8 : Int32) - off) sn x_ ec ng n)) O63 ga d2_176 (by decide) (by decide) (fCx_nar _ _ _ _ _ _) (pc' := 177) rfl ?_; intro T h65 X K66 O67
  have O68 := O60.keep K66 (ninS (Ne.symm hau) nin0)
  have K69 := K61.trans K66 (allS (Or.inl (by simp)) all0)
  obtain ⟨g70, O71, H72⟩ := fill_step (F := FX off sn x_ ec ng n) O67 H64 rfl
  refine w_aloadN X d2_177 rfl rfl (pc' := 178) rfl ?_
  refine w_bipush X d2_178 (v := (9 : Int32)) (by decide) (pc' := 180) rfl ?_
  refine w_bipush X d2_180 (v := (9 : Int32)) (by decide) (pc' := 182) rfl ?_
  refine w_iloadN X d2_182 rfl (pc' := 183) rfl ?_
  refine w_isub X d2_183 (pc' := 184) rfl ?_
  refine w_iloadN X d2_184 rfl (pc' := 185) rfl ?_
  refine w_iloadN X d2_185 rfl (pc' := 186) rfl ?_
  refine w_iload X d2_186 rfl (pc' := 188) rfl ?_
  refine w_lload X d2_188 rfl (pc' := 190) rfl ?_
  refine w_iload X d2_190 rfl (pc' := 192) rfl ?_
  refine w_aload X d2_192 rfl rfl (pc' := 194) rfl ?_
  refine w_callS X [(.int ((9 : Int32) - off)), (.int sn), (.int x_), (.int ec), (.long ng), (.int n), (.ref u)] [(.int (9 : Int32)), (.ref a)] 2 (tw27 hw) (tw28 hw) (tw21 hw) (tw29 hw) (ct_cx l Z a0 hw ((9 : Int32) - off) sn x_ ec ng n u h65 n0 X.n0le O68 hs hn (r_ok (k := 9) (by decide) ho)) d2_194 pd0 rfl (by decide) rfl rfl rfl (by decide) (by decide) (by decide) (by decide) (pc' := 197) rfl ?_
  intro T hz v X hQ
  obtain ⟨rfl, hz1⟩ := hQ; replace hz1 := hz1.symm; subst hz1
  show WP _ _ _ _ _ _ _ _ _ (mkF m 197 #[.val (.ref a), .val (.int off), .val (.int sn), .val (.int x_), .val (.int ec), .val (.long ng), .second, .val (.int n), .val (.ref u)] [(.int (fCx ((9 : Int32) - off) sn x_ ec ng n)), (.int (9 : Int32)), (.ref a)])
  refine w_bastore X (i := 9) (x' := (fCx ((9 : Int32) - off) sn x_ ec ng n)) O71 ga d2_197 (by decide) (by decide) (fCx_nar _ _ _ _ _ _) (pc' := 198) rfl ?_; intro T h73 X K74 O75
  have O76 := O68.keep K74 (ninS (Ne.symm hau) nin0)
  have K77 := K69.trans K74 (allS (Or.inl (by simp)) all0)
  obtain ⟨g78, O79, H80⟩ := fill_step (F := FX off sn x_ ec ng n) O75 H72 rfl
  refine w_aloadN X d2_198 rfl rfl (pc' := 199) rfl ?_
  refine w_bipush X d2_199 (v := (10 : Int32)) (by decide) (pc' := 201) rfl ?_
  refine w_bipush X d2_201 (v := (10 : Int32)) (by decide) (pc' := 203) rfl ?_
  refine w_iloadN X d2_203 rfl (pc' := 204) rfl ?_
  refine w_isub X d2_204 (pc' := 205) rfl ?_
  refine w_iloadN X d2_205 rfl (pc' := 206) rfl ?_
  refine w_iloadN X d2_206 rfl (pc' := 207) rfl ?_
  refine w_iload X d2_207 rfl (pc' := 209) rfl ?_
  refine w_lload X d2_209 rfl (pc' := 211) rfl ?_
  refine w_iload X d2_211 rfl (pc' := 213) rfl ?_
  refine w_aload X d2_213 rfl rfl (pc' := 215) rfl ?_
  refine w_callS X [(.int ((10 : Int32) - off)), (.int sn), (.int x_), (.int ec), (.long ng), (.int n), (.ref u)] [(.int (10 : Int32)), (.ref a)] 2 (tw27 hw) (tw28 hw) (tw21 hw) (tw29 hw) (ct_cx l Z a0 hw ((10 : Int32) - off) sn x_ ec ng n u h73 n0 X.n0le O76 hs hn (r_ok (k := 10) (by decide) ho)) d2_215 pd0 rfl (by decide) rfl rfl rfl (by decide) (by decide) (by decide) (by decide) (pc' := 218) rfl ?_
  intro T hz v X hQ
  obtain ⟨rfl, hz1⟩ := hQ; replace hz1 := hz1.symm; subst hz1
  show WP _ _ _ _ _ _ _ _ _ (mkF m 218 #[.val (.ref a), .val (.int off), .val (.int sn), .val (.int x_), .val (.int ec), .val (.long ng), .second, .val (.int n), .val (.ref u)] [(.int (fCx ((10 : Int32) - off) sn x_ ec ng n)), (.int (10 : Int32)), (.ref a)])
  refine w_bastore X (i := 10) (x' := (fCx ((10 : Int32) - off) sn x_ ec ng n)) O79 ga d2_218 (by decide) (by decide) (fCx_nar _ _ _ _ _ _) (pc' := 219) rfl ?_; intro T h81 X K82 O83
  have O84 := O76.keep K82 (ninS (Ne.symm hau) nin0)
  have K85 := K77.trans K82 (allS (Or.inl (by simp)) all0)
  obtain ⟨g86, O87, H88⟩ := fill_step (F := FX off sn x_ ec ng n) O83 H80 rfl
  refine w_aloadN X d2_219 rfl rfl (pc' := 220) rfl ?_
  refine w_bipush X d2_220 (v := (11 : Int32)) (by decide) (pc' := 222) rfl ?_
  refine w_bipush X d2_222 (v := (11 : Int32)) (by decide) (pc' := 224) rfl ?_
  refine w_iloadN X d2_224 rfl (pc' := 225) rfl ?_
  refine w_isub X d2_225 (pc' := 226) rfl ?_
  refine w_iloadN X d2_226 rfl (pc' := 227) rfl ?_
  refine w_iloadN X d2_227 rfl (pc' := 228) rfl ?_
  refine w_iload X d2_228 rfl (pc' := 230) rfl ?_
  refine w_lload X d2_230 rfl (pc' := 232) rfl ?_
  refine w_iload X d2_232 rfl (pc' := 234) rfl ?_
  refine w_aload X d2_234 rfl rfl (pc' := 236) rfl ?_
  refine w_callS X [(.int ((11 : Int32) - off)), (.int sn), (.int x_), (.int ec), (.long ng), (.int n), (.ref u)] [(.int (11 : Int32)), (.ref a)] 2 (tw27 hw) (tw28 hw) (tw21 hw) (tw29 hw) (ct_cx l Z a0 hw ((11 : Int32) - off) sn x_ ec ng n u h81 n0 X.n0le O84 hs hn (r_ok (k := 11) (by decide) ho)) d2_236 pd0 rfl (by decide) rfl rfl rfl (by decide) (by decide) (by decide) (by decide) (pc' := 239) rfl ?_
  intro T hz v X hQ
  obtain ⟨rfl, hz1⟩ := hQ; replace hz1 := hz1.symm; subst hz1
  show WP _ _ _ _ _ _ _ _ _ (mkF m 239 #[.val (.ref a), .val (.int off), .val (.int sn), .val (.int x_), .val (.int ec), .val (.long ng), .second, .val (.int n), .val (.ref u)] [(.int (fCx ((11 : Int32) - off) sn x_ ec ng n)), (.int (11 : Int32)), (.ref a)])
  refine w_bastore X (i := 11) (x' := (fCx ((11 : Int32) - off) sn x_ ec ng n)) O87 ga d2_239 (by decide) (by decide) (fCx_nar _ _ _ _ _ _) (pc' := 240) rfl ?_; intro T h89 X K90 O91
  have O92 := O84.keep K90 (ninS (Ne.symm hau) nin0)
  have K93 := K85.trans K90 (allS (Or.inl (by simp)) all0)
  obtain ⟨g94, O95, H96⟩ := fill_step (F := FX off sn x_ ec ng n) O91 H88 rfl
  refine w_aloadN X d2_240 rfl rfl (pc' := 241) rfl ?_
  refine w_bipush X d2_241 (v := (12 : Int32)) (by decide) (pc' := 243) rfl ?_
  refine w_bipush X d2_243 (v := (12 : Int32)) (by decide) (pc' := 245) rfl ?_
  refine w_iloadN X d2_245 rfl (pc' := 246) rfl ?_
  refine w_isub X d2_246 (pc' := 247) rfl ?_
  refine w_iloadN X d2_247 rfl (pc' := 248) rfl ?_
  refine w_iloadN X d2_248 rfl (pc' := 249) rfl ?_
  refine w_iload X d2_249 rfl (pc' := 251) rfl ?_
  refine w_lload X d2_251 rfl (pc' := 253) rfl ?_
  refine w_iload X d2_253 rfl (pc' := 255) rfl ?_
  refine w_aload X d2_255 rfl rfl (pc' := 257) rfl ?_
  refine w_callS X [(.int ((12 : Int32) - off)), (.int sn), (.int x_), (.int ec), (.long ng), (.int n), (.ref u)] [(.int (12 : Int32)), (.ref a)] 2 (tw27 hw) (tw28 hw) (tw21 hw) (tw29 hw) (ct_cx l Z a0 hw ((12 : Int32) - off) sn x_ ec ng n u h89 n0 X.n0le O92 hs hn (r_ok (k := 12) (by decide) ho)) d2_257 pd0 rfl (by decide) rfl rfl rfl (by decide) (by decide) (by decide) (by decide) (pc' := 260) rfl ?_
  intro T hz v X hQ
  obtain ⟨rfl, hz1⟩ := hQ; replace hz1 := hz1.symm; subst hz1
  show WP _ _ _ _ _ _ _ _ _ (mkF m 260 #[.val (.ref a), .val (.int off), .val (.int sn), .val (.int x_), .val (.int ec), .val (.long ng), .second, .val (.int n), .val (.ref u)] [(.int (fCx ((12 : Int32) - off) sn x_ ec ng n)), (.int (12 : Int32)), (.ref a)])
  refine w_bastore X (i := 12) (x' := (fCx ((12 : Int32) - off) sn x_ ec ng n)) O95 ga d2_260 (by decide) (by decide) (fCx_nar _ _ _ _ _ _) (pc' := 261) rfl ?_; intro T h97 X K98 O99
  have O100 := O92.keep K98 (ninS (Ne.symm hau) nin0)
  have K101 := K93.trans K98 (allS (Or.inl (by simp)) all0)
  obtain ⟨g102, O103, H104⟩ := fill_step (F := FX off sn x_ ec ng n) O99 H96 rfl
  refine w_aloadN X d2_261 rfl rfl (pc' := 262) rfl ?_
  refine w_bipush X d2_262 (v := (13 : Int32)) (by decide) (pc' := 264) rfl ?_
  refine w_bipush X d2_264 (v := (13 : Int32)) (by decide) (pc' := 266) rfl ?_
  refine w_iloadN X d2_266 rfl (pc' := 267) rfl ?_
  refine w_isub X d2_267 (pc' := 268) rfl ?_
  refine w_iloadN X d2_268 rfl (pc' := 269) rfl ?_
  refine w_iloadN X d2_269 rfl (pc' := 270) rfl ?_
  refine w_iload X d2_270 rfl (pc' := 272) rfl ?_
  refine w_lload X d2_272 rfl (pc' := 274) rfl ?_
  refine w_iload X d2_274 rfl (pc' := 276) rfl ?_
  refine w_aload X d2_276 rfl rfl (pc' := 278) rfl ?_
  refine w_callS X [(.int ((13 : Int32) - off)), (.int sn), (.int x_), (.int ec), (.long ng), (.int n), (.ref u)] [(.int (13 : Int32)), (.ref a)] 2 (tw27 hw) (tw28 hw) (tw21 hw) (tw29 hw) (ct_cx l Z a0 hw ((13 : Int32) - off) sn x_ ec ng n u h97 n0 X.n0le O100 hs hn (r_ok (k := 13) (by decide) ho)) d2_278 pd0 rfl (by decide) rfl rfl rfl (by decide) (by decide) (by decide) (by decide) (pc' := 281) rfl ?_
  intro T hz v X hQ
  obtain ⟨rfl, hz1⟩ := hQ; replace hz1 := hz1.symm; subst hz1
  show WP _ _ _ _ _ _ _ _ _ (mkF m 281 #[.val (.ref a), .val (.int off), .val (.int sn), .val (.int x_), .val (.int ec), .val (.long ng), .second, .val (.int n), .val (.ref u)] [(.int (fCx ((13 : Int32) - off) sn x_ ec ng n)), (.int (13 : Int32)), (.ref a)])
  refine w_bastore X (i := 13) (x' := (fCx ((13 : Int32) - off) sn x_ ec ng n)) O103 ga d2_281 (by decide) (by decide) (fCx_nar _ _ _ _ _ _) (pc' := 282) rfl ?_; intro T h105 X K106 O107
  have O108 := O100.keep K106 (ninS (Ne.symm hau) nin0)
  have K109 := K101.trans K106 (allS (Or.inl (by simp)) all0)
  obtain ⟨g110, O111, H112⟩ := fill_step (F := FX off sn x_ ec ng n) O107 H104 rfl
  refine w_aloadN X d2_282 rfl rfl (pc' := 283) rfl ?_
  refine w_bipush X d2_283 (v := (14 : Int32)) (by decide) (pc' := 285) rfl ?_
  refine w_bipush X d2_285 (v := (14 : Int32)) (by decide) (pc' := 287) rfl ?_
  refine w_iloadN X d2_287 rfl (pc' := 288) rfl ?_
  refine w_isub X d2_288 (pc' := 289) rfl ?_
  refine w_iloadN X d2_289 rfl (pc' := 290) rfl ?_
  refine w_iloadN X d2_290 rfl (pc' := 291) rfl ?_
  refine w_iload X d2_291 rfl (pc' := 293) rfl ?_
  refine w_lload X d2_293 rfl (pc' := 295) rfl ?_
  refine w_iload X d2_295 rfl (pc' := 297) rfl ?_
  refine w_aload X d2_297 rfl rfl (pc' := 299) rfl ?_
  refine w_callS X [(.int ((14 : Int32) - off)), (.int sn), (.int x_), (.int ec), (.long ng), (.int n), (.ref u)] [(.int (14 : Int32)), (.ref a)] 2 (tw27 hw) (tw28 hw) (tw21 hw) (tw29 hw) (ct_cx l Z a0 hw ((14 : Int32) - off) sn x_ ec ng n u h105 n0 X.n0le O108 hs hn (r_ok (k := 14) (by decide) ho)) d2_299 pd0 rfl (by decide) rfl rfl rfl (by decide) (by decide) (by decide) (by decide) (pc' := 302) rfl ?_
  intro T hz v X hQ
  obtain ⟨rfl, hz1⟩ := hQ; replace hz1 := hz1.symm; subst hz1
  show WP _ _ _ _ _ _ _ _ _ (mkF m 302 #[.val (.ref a), .val (.int off), .val (.int sn), .val (.int x_), .val (.int ec), .val (.long ng), .second, .val (.int n), .val (.ref u)] [(.int (fCx ((14 : Int32) - off) sn x_ ec ng n)), (.int (14 : Int32)), (.ref a)])
  refine w_bastore X (i := 14) (x' := (fCx ((14 : Int32) - off) sn x_ ec ng n)) O111 ga d2_302 (by decide) (by decide) (fCx_nar _ _ _ _ _ _) (pc' := 303) rfl ?_; intro T h113 X K114 O115
  have O116 := O108.keep K114 (ninS (Ne.symm hau) nin0)
  have K117 := K109.trans K114 (allS (Or.inl (by simp)) all0)
  obtain ⟨g118, O119, H120⟩ := fill_step (F := FX off sn x_ ec ng n) O115 H112 rfl
  refine w_aloadN X d2_303 rfl rfl (pc' := 304) rfl ?_
  refine w_bipush X d2_304 (v := (15 : Int32)) (by decide) (pc' := 306) rfl ?_
  refine w_bipush X d2_306 (v := (15 : Int32)) (by decide) (pc' := 308) rfl ?_
  refine w_iloadN X d2_308 rfl (pc' := 309) rfl ?_
  refine w_isub X d2_309 (pc' := 310) rfl ?_
  refine w_iloadN X d2_310 rfl (pc' := 311) rfl ?_
  refine w_iloadN X d2_311 rfl (pc' := 312) rfl ?_
  refine w_iload X d2_312 rfl (pc' := 314) rfl ?_
  refine w_lload X d2_314 rfl (pc' := 316) rfl ?_
  refine w_iload X d2_316 rfl (pc' := 318) rfl ?_
  refine w_aload X d2_318 rfl rfl (pc' := 320) rfl ?_
  refine w_callS X [(.int ((15 : Int32) - off)), (.int sn), (.int x_), (.int ec), (.long ng), (.int n), (.ref u)] [(.int (15 : Int32)), (.ref a)] 2 (tw27 hw) (tw28 hw) (tw21 hw) (tw29 hw) (ct_cx l Z a0 hw ((15 : Int32) - off) sn x_ ec ng n u h113 n0 X.n0le O116 hs hn (r_ok (k := 15) (by decide) ho)) d2_320 pd0 rfl (by decide) rfl rfl rfl (by decide) (by decide) (by decide) (by decide) (pc' := 323) rfl ?_
  intro T hz v X hQ
  obtain ⟨rfl, hz1⟩ := hQ; replace hz1 := hz1.symm; subst hz1
  show WP _ _ _ _ _ _ _ _ _ (mkF m 323 #[.val (.ref a), .val (.int off), .val (.int sn), .val (.int x_), .val (.int ec), .val (.long ng), .second, .val (.int n), .val (.ref u)] [(.int (fCx ((15 : Int32) - off) sn x_ ec ng n)), (.int (15 : Int32)), (.ref a)])
  refine w_bastore X (i := 15) (x' := (fCx ((15 : Int32) - off) sn x_ ec ng n)) O119 ga d2_323 (by decide) (by decide) (fCx_nar _ _ _ _ _ _) (pc' := 324) rfl ?_; intro T h121 X K122 O123
  have O124 := O116.keep K122 (ninS (Ne.symm hau) nin0)
  have K125 := K117.trans K122 (allS (Or.inl (by simp)) all0)
  obtain ⟨g126, O127, H128⟩ := fill_step (F := FX off sn x_ ec ng n) O123 H120 rfl
  refine w_aloadN X d2_324 rfl rfl (pc' := 325) rfl ?_
  refine w_bipush X d2_325 (v := (16 : Int32)) (by decide) (pc' := 327) rfl ?_
  refine w_bipush X d2_327 (v := (16 : Int32)) (by decide) (pc' := 329) rfl ?_
  refine w_iloadN X d2_329 rfl (pc' := 330) rfl ?_
  refine w_isub X d2_330 (pc' := 331) rfl ?_
  refine w_iloadN X d2_331 rfl (pc' := 332) rfl ?_
  refine w_iloadN X d2_332 rfl (pc' := 333) rfl ?_
  refine w_iload X d2_333 rfl (pc' := 335) rfl ?_
  refine w_lload X d2_335 rfl (pc' := 337) rfl ?_
  refine w_iload X d2_337 rfl (pc' := 339) rfl ?_
  refine w_aload X d2_339 rfl rfl (pc' := 341) rfl ?_
  refine w_callS X [(.int ((16 : Int32) - off)), (.int sn), (.int x_), (.int ec), (.long ng), (.int n), (.ref u)] [(.int (16 : Int32)), (.ref a)] 2 (tw27 hw) (tw28 hw) (tw21 hw) (tw29 hw) (ct_cx l Z a0 hw ((16 : Int32) - off) sn x_ ec ng n u h121 n0 X.n0le O124 hs hn (r_ok (k := 16) (by decide) ho)) d2_341 pd0 rfl (by decide) rfl rfl rfl (by decide) (by decide) (by decide) (by decide) (pc' := 344) rfl ?_
  intro T hz v X hQ
  obtain ⟨rfl, hz1⟩ := hQ; replace hz1 := hz1.symm; subst hz1
  show WP _ _ _ _ _ _ _ _ _ (mkF m 344 #[.val (.ref a), .val (.int off), .val (.int sn), .val (.int x_), .val (.int ec), .val (.long ng), .second, .val (.int n), .val (.ref u)] [(.int (fCx ((16 : Int32) - off) sn x_ ec ng n)), (.int (16 : Int32)), (.ref a)])
  refine w_bastore X (i := 16) (x' := (fCx ((16 : Int32) - off) sn x_ ec ng n)) O127 ga d2_344 (by decide) (by decide) (fCx_nar _ _ _ _ _ _) (pc' := 345) rfl ?_; intro T h129 X K130 O131
  have O132 := O124.keep K130 (ninS (Ne.symm hau) nin0)
  have K133 := K125.trans K130 (allS (Or.inl (by simp)) all0)
  obtain ⟨g134, O135, H136⟩ := fill_step (F := FX off sn x_ ec ng n) O131 H128 rfl
  refine w_aloadN X d2_345 rfl rfl (pc' := 346) rfl ?_
  refine w_bipush X d2_346 (v := (17 : Int32)) (by decide) (pc' := 348) rfl ?_
  refine w_bipush X d2_348 (v := (17 : Int32)) (by decide) (pc' := 350) rfl ?_
  refine w_iloadN X d2_350 rfl (pc' := 351) rfl ?_
  refine w_isub X d2_351 (pc' := 352) rfl ?_
  refine w_iloadN X d2_352 rfl (pc' := 353) rfl ?_
  refine w_iloadN X d2_353 rfl (pc' := 354) rfl ?_
  refine w_iload X d2_354 rfl (pc' := 356) rfl ?_
  refine w_lload X d2_356 rfl (pc' := 358) rfl ?_
  refine w_iload X d2_358 rfl (pc' := 360) rfl ?_
  refine w_aload X d2_360 rfl rfl (pc' := 362) rfl ?_
  refine w_callS X [(.int ((17 : Int32) - off)), (.int sn), (.int x_), (.int ec), (.long ng), (.int n), (.ref u)] [(.int (17 : Int32)), (.ref a)] 2 (tw27 hw) (tw28 hw) (tw21 hw) (tw29 hw) (ct_cx l Z a0 hw ((17 : Int32) - off) sn x_ ec ng n u h129 n0 X.n0le O132 hs hn (r_ok (k := 17) (by decide) ho)) d2_362 pd0 rfl (by decide) rfl rfl rfl (by decide) (by decide) (by decide) (by decide) (pc' := 365) rfl ?_
  intro T hz v X hQ
  obtain ⟨rfl, hz1⟩ := hQ; replace hz1 := hz1.symm; subst hz1
  show WP _ _ _ _ _ _ _ _ _ (mkF m 365 #[.val (.ref a), .val (.int off), .val (.int sn), .val (.int x_), .val (.int ec), .val (.long ng), .second, .val (.int n), .val (.ref u)] [(.int (fCx ((17 : Int32) - off) sn x_ ec ng n)), (.int (17 : Int32)), (.ref a)])
  refine w_bastore X (i := 17) (x' := (fCx ((17 : Int32) - off) sn x_ ec ng n)) O135 ga d2_365 (by decide) (by decide) (fCx_nar _ _ _ _ _ _) (pc' := 366) rfl ?_; intro T h137 X K138 O139
  have O140 := O132.keep K138 (ninS (Ne.symm hau) nin0)
  have K141 := K133.trans K138 (allS (Or.inl (by simp)) all0)
  obtain ⟨g142, O143, H144⟩ := fill_step (F := FX off sn x_ ec ng n) O139 H136 rfl
  refine w_aloadN X d2_366 rfl rfl (pc' := 367) rfl ?_
  refine w_bipush X d2_367 (v := (18 : Int32)) (by decide) (pc' := 369) rfl ?_
  refine w_bipush X d2_369 (v := (18 : Int32)) (by decide) (pc' := 371) rfl ?_
  refine w_iloadN X d2_371 rfl (pc' := 372) rfl ?_
  refine w_isub X d2_372 (pc' := 373) rfl ?_
  refine w_iloadN X d2_373 rfl (pc' := 374) rfl ?_
  refine w_iloadN X d2_374 rfl (pc' := 375) rfl ?_
  refine w_iload X d2_375 rfl (pc' := 377) rfl ?_
  refine w_lload X d2_377 rfl (pc' := 379) rfl ?_
  refine w_iload X d2_379 rfl (pc' := 381) rfl ?_
  refine w_aload X d2_381 rfl rfl (pc' := 383) rfl ?_
  refine w_callS X [(.int ((18 : Int32) - off)), (.int sn), (.int x_), (.int ec), (.long ng), (.int n), (.ref u)] [(.int (18 : Int32)), (.ref a)] 2 (tw27 hw) (tw28 hw) (tw21 hw) (tw29 hw) (ct_cx l Z a0 hw ((18 : Int32) - off) sn x_ ec ng n u h137 n0 X.n0le O140 hs hn (r_ok (k := 18) (by decide) ho)) d2_383 pd0 rfl (by decide) rfl rfl rfl (by decide) (by decide) (by decide) (by decide) (pc' := 386) rfl ?_
  intro T hz v X hQ
  obtain ⟨rfl, hz1⟩ := hQ; replace hz1 := hz1.symm; subst hz1
  show WP _ _ _ _ _ _ _ _ _ (mkF m 386 #[.val (.ref a), .val (.int off), .val (.int sn), .val (.int x_), .val (.int ec), .val (.long ng), .second, .val (.int n), .val (.ref u)] [(.int (fCx ((18 : Int32) - off) sn x_ ec ng n)), (.int (18 : Int32)), (.ref a)])
  refine w_bastore X (i := 18) (x' := (fCx ((18 : Int32) - off) sn x_ ec ng n)) O143 ga d2_386 (by decide) (by decide) (fCx_nar _ _ _ _ _ _) (pc' := 387) rfl ?_; intro T h145 X K146 O147
  have O148 := O140.keep K146 (ninS (Ne.symm hau) nin0)
  have K149 := K141.trans K146 (allS (Or.inl (by simp)) all0)
  obtain ⟨g150, O151, H152⟩ := fill_step (F := FX off sn x_ ec ng n) O147 H144 rfl
  refine w_aloadN X d2_387 rfl rfl (pc' := 388) rfl ?_
  refine w_bipush X d2_388 (v := (19 : Int32)) (by decide) (pc' := 390) rfl ?_
  refine w_bipush X d2_390 (v := (19 : Int32)) (by decide) (pc' := 392) rfl ?_
  refine w_iloadN X d2_392 rfl (pc' := 393) rfl ?_
  refine w_isub X d2_393 (pc' := 394) rfl ?_
  refine w_iloadN X d2_394 rfl (pc' := 395) rfl ?_
  refine w_iloadN X d2_395 rfl (pc' := 396) rfl ?_
  refine w_iload X d2_396 rfl (pc' := 398) rfl ?_
  refine w_lload X d2_398 rfl (pc' := 400) rfl ?_
  refine w_iload X d2_400 rfl (pc' := 402) rfl ?_
  refine w_aload X d2_402 rfl rfl (pc' := 404) rfl ?_
  refine w_callS X [(.int ((19 : Int32) - off)), (.int sn), (.int x_), (.int ec), (.long ng), (.int n), (.ref u)] [(.int (19 : Int32)), (.ref a)] 2 (tw27 hw) (tw28 hw) (tw21 hw) (tw29 hw) (ct_cx l Z a0 hw ((19 : Int32) - off) sn x_ ec ng n u h145 n0 X.n0le O148 hs hn (r_ok (k := 19) (by decide) ho)) d2_404 pd0 rfl (by decide) rfl rfl rfl (by decide) (by decide) (by decide) (by decide) (pc' := 407) rfl ?_
  intro T hz v X hQ
  obtain ⟨rfl, hz1⟩ := hQ; replace hz1 := hz1.symm; subst hz1
  show WP _ _ _ _ _ _ _ _ _ (mkF m 407 #[.val (.ref a), .val (.int off), .val (.int sn), .val (.int x_), .val (.int ec), .val (.long ng), .second, .val (.int n), .val (.ref u)] [(.int (fCx ((19 : Int32) - off) sn x_ ec ng n)), (.int (19 : Int32)), (.ref a)])
  refine w_bastore X (i := 19) (x' := (fCx ((19 : Int32) - off) sn x_ ec ng n)) O151 ga d2_407 (by decide) (by decide) (fCx_nar _ _ _ _ _ _) (pc' := 408) rfl ?_; intro T h153 X K154 O155
  have O156 := O148.keep K154 (ninS (Ne.symm hau) nin0)
  have K157 := K149.trans K154 (allS (Or.inl (by simp)) all0)
  obtain ⟨g158, O159, H160⟩ := fill_step (F := FX off sn x_ ec ng n) O155 H152 rfl
  refine w_aloadN X d2_408 rfl rfl (pc' := 409) rfl ?_
  refine w_bipush X d2_409 (v := (20 : Int32)) (by decide) (pc' := 411) rfl ?_
  refine w_bipush X d2_411 (v := (20 : Int32)) (by decide) (pc' := 413) rfl ?_
  refine w_iloadN X d2_413 rfl (pc' := 414) rfl ?_
  refine w_isub X d2_414 (pc' := 415) rfl ?_
  refine w_iloadN X d2_415 rfl (pc' := 416) rfl ?_
  refine w_iloadN X d2_416 rfl (pc' := 417) rfl ?_
  refine w_iload X d2_417 rfl (pc' := 419) rfl ?_
  refine w_lload X d2_419 rfl (pc' := 421) rfl ?_
  refine w_iload X d2_421 rfl (pc' := 423) rfl ?_
  refine w_aload X d2_423 rfl rfl (pc' := 425) rfl ?_
  refine w_callS X [(.int ((20 : Int32) - off)), (.int sn), (.int x_), (.int ec), (.long ng), (.int n), (.ref u)] [(.int (20 : Int32)), (.ref a)] 2 (tw27 hw) (tw28 hw) (tw21 hw) (tw29 hw) (ct_cx l Z a0 hw ((20 : Int32) - off) sn x_ ec ng n u h153 n0 X.n0le O156 hs hn (r_ok (k := 20) (by decide) ho)) d2_425 pd0 rfl (by decide) rfl rfl rfl (by decide) (by decide) (by decide) (by decide) (pc' := 428) rfl ?_
  intro T hz v X hQ
  obtain ⟨rfl, hz1⟩ := hQ; replace hz1 := hz1.symm; subst hz1
  show WP _ _ _ _ _ _ _ _ _ (mkF m 428 #[.val (.ref a), .val (.int off), .val (.int sn), .val (.int x_), .val (.int ec), .val (.long ng), .second, .val (.int n), .val (.ref u)] [(.int (fCx ((20 : Int32) - off) sn x_ ec ng n)), (.int (20 : Int32)), (.ref a)])
  refine w_bastore X (i := 20) (x' := (fCx ((20 : Int32) - off) sn x_ ec ng n)) O159 ga d2_428 (by decide) (by decide) (fCx_nar _ _ _ _ _ _) (pc' := 429) rfl ?_; intro T h161 X K162 O163
  have O164 := O156.keep K162 (ninS (Ne.symm hau) nin0)
  have K165 := K157.trans K162 (allS (Or.inl (by simp)) all0)
  obtain ⟨g166, O167, H168⟩ := fill_step (F := FX off sn x_ ec ng n) O163 H160 rfl
  refine w_aloadN X d2_429 rfl rfl (pc' := 430) rfl ?_
  refine w_bipush X d2_430 (v := (21 : Int32)) (by decide) (pc' := 432) rfl ?_
  refine w_bipush X d2_432 (v := (21 : Int32)) (by decide) (pc' := 434) rfl ?_
  refine w_iloadN X d2_434 rfl (pc' := 435) rfl ?_
  refine w_isub X d2_435 (pc' := 436) rfl ?_
  refine w_iloadN X d2_436 rfl (pc' := 437) rfl ?_
  refine w_iloadN X d2_437 rfl (pc' := 438) rfl ?_
  refine w_iload X d2_438 rfl (pc' := 440) rfl ?_
  refine w_lload X d2_440 rfl (pc' := 442) rfl ?_
  refine w_iload X d2_442 rfl (pc' := 444) rfl ?_
  refine w_aload X d2_444 rfl rfl (pc' := 446) rfl ?_
  refine w_callS X [(.int ((21 : Int32) - off)), (.int sn), (.int x_), (.int ec), (.long ng), (.int n), (.ref u)] [(.int (21 : Int32)), (.ref a)] 2 (tw27 hw) (tw28 hw) (tw21 hw) (tw29 hw) (ct_cx l Z a0 hw ((21 : Int32) - off) sn x_ ec ng n u h161 n0 X.n0le O164 hs hn (r_ok (k := 21) (by decide) ho)) d2_446 pd0 rfl (by decide) rfl rfl rfl (by decide) (by decide) (by decide) (by decide) (pc' := 449) rfl ?_
  intro T hz v X hQ
  obtain ⟨rfl, hz1⟩ := hQ; replace hz1 := hz1.symm; subst hz1
  show WP _ _ _ _ _ _ _ _ _ (mkF m 449 #[.val (.ref a), .val (.int off), .val (.int sn), .val (.int x_), .val (.int ec), .val (.long ng), .second, .val (.int n), .val (.ref u)] [(.int (fCx ((21 : Int32) - off) sn x_ ec ng n)), (.int (21 : Int32)), (.ref a)])
  refine w_bastore X (i := 21) (x' := (fCx ((21 : Int32) - off) sn x_ ec ng n)) O167 ga d2_449 (by decide) (by decide) (fCx_nar _ _ _ _ _ _) (pc' := 450) rfl ?_; intro T h169 X K170 O171
  have O172 := O164.keep K170 (ninS (Ne.symm hau) nin0)
  have K173 := K165.trans K170 (allS (Or.inl (by simp)) all0)
  obtain ⟨g174, O175, H176⟩ := fill_step (F := FX off sn x_ ec ng n) O171 H168 rfl
  exact w_retV X rfl d2_450 (by decide) (by decide) ⟨rfl, g174, K173, O175, H176⟩
/-- what Digits.of answers and leaves -/
def OF (g ge : Nat → Int32) (gi : Nat → Int64) : Nat → Int32 → (Nat → Int64) → Prop
  | 0, r, g' => r = 1 ∧ g' 0 = gi 0 ∧ g' 1 = gi 1
  | 1, r, g' => (prs g 0 (ge 0) = none ∧ r = 0) ∨ ∃ v, prs g 0 (ge 0) = some v ∧ r = 1 ∧ g' 0 = v ∧ g' 1 = gi 1
  | _, r, g' => ((prs g 0 (ge 0) = none ∨ prs g (ge 0) (ge 1) = none) ∧ r = 0) ∨ ∃ v0 v1, prs g 0 (ge 0) = some v0 ∧ prs g (ge 0) (ge 1) = some v1 ∧ r = 1 ∧ g' 0 = v0 ∧ g' 1 = v1
theorem lt22 {x y : Int32} (h : x < y) (hy : y.toInt ≤ 22) (hx : 0 ≤ x.toInt) : x.toInt.toNat < 22 := by rw [Int32.lt_iff_toInt_lt] at h; omega
theorem nn_at {x : Int32} (h : 0 ≤ x.toInt) : x.toInt = (x.toInt.toNat : Nat) := by omega
theorem first_int {g : Nat → Int32} {a b f : Int32} (hF : prF g a b = f) (ha : 0 ≤ a.toInt) (hab : a.toInt ≤ b.toInt) (hb : b.toInt ≤ 22) : (f = a ∨ a < f) ∧ 0 ≤ f.toInt ∧ f.toInt ≤ b.toInt ∧ (b - f).toInt = b.toInt - f.toInt := by
  rcases prF_cases g a b with q | ⟨q1, q2⟩
  · rw [q] at hF; subst hF; exact ⟨Or.inl rfl, ha, hab, D_int (by omega) (by omega)⟩
  · rw [q2] at hF; subst hF
    rw [Int32.lt_iff_toInt_lt] at q1
    have e := c_iadd a 1; have r := rng32 (a + 1)
    rw [show (1 : Int32).toInt = 1 from rfl] at e
    have e2 : (a + 1).toInt = a.toInt + 1 := by omega
    exact ⟨Or.inr (by rw [Int32.lt_iff_toInt_lt]; omega), by omega, by omega, D_int (by omega) (by omega)⟩
theorem ne_int {x : Int32} (h : ¬ x = 0) : ¬ x.toInt = 0 := fun q => h (Int32.toInt_inj.mp q)
set_option maxRecDepth 65536 in
set_option maxHeartbeats 4000000 in
theorem ct_of0 (l : Launch) (Z : State) (a0 : Array Value) (hw : ∀ d ∈ tables_1, d.before a0 Z = true) (a ea ia : Addr) (g ge : Nat → Int32) (gi : Nat → Int64) (h0 : Heap) (n0 : Nat) (Z0 : n0 ≤ h0.size) (gia : n0 ≤ ia) (h1 : a ≠ ia) (h2 : ea ≠ ia) (O : AI Z h0 a .byte 22 g) (E : AI Z h0 ea .int 2 ge) (V : AJ Z h0 ia 2 gi) (hb0 : 0 ≤ (ge 0).toInt) (hb0' : (ge 0).toInt ≤ 22) (hbb : (ge 0).toInt ≤ (ge 1).toInt) (hb1' : (ge 1).toInt ≤ 22) :
    Ct l Z (⟨"com/example/varve/varve/column/Digits", "of", "([B[II[J)Z"⟩ : MethodName) prog_40_method_2_code 12 (some .boolean) ({ frames := 0, cells := 0, slots := 0, locals := 0 } : Room) #[(.ref a), (.ref ea), (.int (0 : Int32)), (.ref ia)] h0 n0 (fun v h => ∃ r g', v = some (.int r) ∧ Keep h0 h [ia] ∧ AJ Z h ia 2 g' ∧ OF g ge gi 0 r g') := by
  refine Ct.intro (plainFor_of_name (by first | (simp [plainName, overriddenIn]; done) | decide +kernel)) Z0 ?_
  intro p e s m below meth c T X
  refine WP.cast (g' := (mkF m 0 #[.val (.ref a), .val (.ref ea), .val (.int (0 : Int32)), .val (.ref ia), .unset, .unset, .unset, .unset, .unset, .unset, .unset, .unset] [])) (by first | (simp [entryFrame, mkF, argsToLocals, Value.category]; done) | rfl) ?_
  have K := Keep.refl h0 [ia]
  refine w_iconst X d4_0 (v := (0 : Int32)) (by decide) (pc' := 1) rfl ?_
  refine w_istore X d4_1 (L' := #[.val (.ref a), .val (.ref ea), .val (.int (0 : Int32)), .val (.ref ia), .val (.int (0 : Int32)), .unset, .unset, .unset, .unset, .unset, .unset, .unset]) rfl (pc' := 3) rfl ?_
  refine w_iload X d4_3 rfl (pc' := 5) rfl ?_
  refine w_iloadN X d4_5 rfl (pc' := 6) rfl ?_
  refine w_icmp_ge X d4_6 (by decide) (p1 := 226) (by decide) (p2 := 9) rfl (fun c6 => ?_) (fun c6 => False.elim (absurd c6 (by decide)))
  refine w_iconst X d4_226 (v := (1 : Int32)) (by decide) (pc' := 227) rfl ?_
  exact w_retZ X rfl d4_227 (by decide) (by decide) (by decide) ⟨_, _, rfl, K, V, ⟨rfl, rfl, rfl⟩⟩
set_option maxRecDepth 65536 in
set_option maxHeartbeats 4000000 in
theorem ct_of1 (l : Launch) (Z : State) (a0 : Array Value) (hw : ∀ d ∈ tables_1, d.before a0 Z = true) (a ea ia : Addr) (g ge : Nat → Int32) (gi : Nat → Int64) (h0 : Heap) (n0 : Nat) (Z0 : n0 ≤ h0.size) (gia : n0 ≤ ia) (h1 : a ≠ ia) (h2 : ea ≠ ia) (O : AI Z h0 a .byte 22 g) (E : AI Z h0 ea .int 2 ge) (V : AJ Z h0 ia 2 gi) (hb0 : 0 ≤ (ge 0).toInt) (hb0' : (ge 0).toInt ≤ 22) (hbb : (ge 0).toInt ≤ (ge 1).toInt) (hb1' : (ge 1).toInt ≤ 22) :
    Ct l Z (⟨"com/example/varve/varve/column/Digits", "of", "([B[II[J)Z"⟩ : MethodName) prog_40_method_2_code 12 (some .boolean) ({ frames := 0, cells := 0, slots := 0, locals := 0 } : Room) #[(.ref a), (.ref ea), (.int (1 : Int32)), (.ref ia)] h0 n0 (fun v h => ∃ r g', v = some (.int r) ∧ Keep h0 h [ia] ∧ AJ Z h ia 2 g' ∧ OF g ge gi 1 r g') := by
  refine Ct.intro (plainFor_of_name (by first | (simp [plainName, overriddenIn]; done) | decide +kernel)) Z0 ?_
  intro p e s m below meth c T X
  refine WP.cast (g' := (mkF m 0 #[.val (.ref a), .val (.ref ea), .val (.int (1 : Int32)), .val (.ref ia), .unset, .unset, .unset, .unset, .unset, .unset, .unset, .unset] [])) (by first | (simp [entryFrame, mkF, argsToLocals, Value.category]; done) | rfl) ?_
  have K := Keep.refl h0 [ia]
  refine w_iconst X d4_0 (v := (0 : Int32)) (by decide) (pc' := 1) rfl ?_
  refine w_istore X d4_1 (L' := #[.val (.ref a), .val (.ref ea), .val (.int (1 : Int32)), .val (.ref ia), .val (.int (0 : Int32)), .unset, .unset, .unset, .unset, .unset, .unset, .unset]) rfl (pc' := 3) rfl ?_
  refine w_iload X d4_3 rfl (pc' := 5) rfl ?_
  refine w_iloadN X d4_5 rfl (pc' := 6) rfl ?_
  refine w_icmp_ge X d4_6 (by decide) (p1 := 226) (by decide) (p2 := 9) rfl (fun c6 => False.elim (absurd c6 (by decide))) (fun c6 => ?_)
  refine w_iload X d4_9 rfl (pc' := 11) rfl ?_
  refine w_if_ne X d4_11 (by decide) (p1 := 18) (by decide) (p2 := 14) rfl (fun c11 => False.elim (absurd c11 (by decide))) (fun c11 => ?_)
  refine w_iconst X d4_14 (v := (0 : Int32)) (by decide) (pc' := 15) rfl ?_
  refine w_goto X d4_15 (by decide) (pc' := 24) (by decide) ?_
  refine w_istore X d4_24 (L' := #[.val (.ref a), .val (.ref ea), .val (.int (1 : Int32)), .val (.ref ia), .val (.int (0 : Int32)), .val (.int (0 : Int32)), .unset, .unset, .unset, .unset, .unset, .unset]) rfl (pc' := 26) rfl ?_
  have J1 : ∀ T, St p l e ({ frames := 0, cells := 0, slots := 0, locals := 0 } : Room) s m #[(.ref a), (.ref ea), (.int (1 : Int32)), (.ref ia)] below meth c Z n0 (⟨"com/example/varve/varve/column/Digits", "of", "([B[II[J)Z"⟩ : MethodName) prog_40_method_2_code 12 (some .boolean) T h0 0 0 → ∀ (fi0 : Int32), (prF g (0 : Int32) (ge 0) = fi0) → WP p e below s n0 ({ frames := 0, cells := 0, slots := 0, locals := 0 } : Room).cells ({ frames := 0, cells := 0, slots := 0, locals := 0 } : Room).slots (fun v h => ∃ r g', v = some (.int r) ∧ Keep h0 h [ia] ∧ AJ Z h ia 2 g' ∧ OF g ge gi 1 r g') T (mkF m 53 #[.val (.ref a), .val (.ref ea), .val (.int (1 : Int32)), .val (.ref ia), .val (.int (0 : Int32)), .val (.int (0 : Int32)), .unset, .unset, .unset, .unset, .unset, .unset] [(.int fi0)]) := by
    intro T X fi0 hF0
    have hf0 := first_int hF0 (by decide) hb0 hb0'
    refine w_istore X d4_53 (L' := #[.val (.ref a), .val (.ref ea), .val (.int (1 : Int32)), .val (.ref ia), .val (.int (0 : Int32)), .val (.int (0 : Int32)), .val (.int fi0), .unset, .unset, .unset, .unset, .unset]) rfl (pc' := 55) rfl ?_
    refine w_aloadN X d4_55 rfl rfl (pc' := 56) rfl ?_
    refine w_iload X d4_56 rfl (pc' := 58) rfl ?_
    refine w_iaload X (i := 0) E d4_58 (by decide) (by decide) rfl (pc' := 59) rfl ?_
    refine w_iload X d4_59 rfl (pc' := 61) rfl ?_
    refine w_isub X d4_61 (pc' := 62) rfl ?_
    refine w_istore X d4_62 (L' := #[.val (.ref a), .val (.ref ea), .val (.int (1 : Int32)), .val (.ref ia), .val (.int (0 : Int32)), .val (.int (0 : Int32)), .val (.int fi0), .val (.int ((ge 0) - fi0)), .unset, .unset, .unset, .unset]) rfl (pc' := 64) rfl ?_
    refine w_iload X d4_64 rfl (pc' := 66) rfl ?_
    refine w_if_eq X d4_66 (by decide) (p1 := 98) (by decide) (p2 := 69) rfl (fun c66 => ?_) (fun c66 => ?_)
    · -- c66 taken
      refine w_iconst X d4_98 (v := (0 : Int32)) (by decide) (pc' := 99) rfl ?_
      have hp : prs g (0 : Int32) (ge 0) = none := by rw [prs, hF0]; simp only [if_pos c66]
      exact w_retZ X rfl d4_99 (by decide) (by decide) (by decide) ⟨_, _, rfl, K, V, Or.inl ⟨hp, rfl⟩⟩
    · -- c66 not taken
      refine w_iload X d4_69 rfl (pc' := 71) rfl ?_
      refine w_bipush X d4_71 (v := (19 : Int32)) (by decide) (pc' := 73) rfl ?_
      refine w_icmp_gt X d4_73 (by decide) (p1 := 98) (by decide) (p2 := 76) rfl (fun c73 => ?_) (fun c73 => ?_)
      · -- c73 taken
        refine w_iconst X d4_98 (v := (0 : Int32)) (by decide) (pc' := 99) rfl ?_
        have hp : prs g (0 : Int32) (ge 0) = none := by rw [prs, hF0]; simp only [if_neg c66, if_pos c73]
        exact w_retZ X rfl d4_99 (by decide) (by decide) (by decide) ⟨_, _, rfl, K, V, Or.inl ⟨hp, rfl⟩⟩
      · -- c73 not taken
        have J2 : ∀ T, St p l e ({ frames := 0, cells := 0, slots := 0, locals := 0 } : Room) s m #[(.ref a), (.ref ea), (.int (1 : Int32)), (.ref ia)] below meth c Z n0 (⟨"com/example/varve/varve/column/Digits", "of", "([B[II[J)Z"⟩ : MethodName) prog_40_method_2_code 12 (some .boolean) T h0 0 0 → (prs g (0 : Int32) (ge 0) = pr2 g (0 : Int32) (ge 0)) → WP p e below s n0 ({ frames := 0, cells := 0, slots := 0, locals := 0 } : Room).cells ({ frames := 0, cells := 0, slots := 0, locals := 0 } : Room).slots (fun v h => ∃ r g', v = some (.int r) ∧ Keep h0 h [ia] ∧ AJ Z h ia 2 g' ∧ OF g ge gi 1 r g') T (mkF m 100 #[.val (.ref a), .val (.ref ea), .val (.int (1 : Int32)), .val (.ref ia), .val (.int (0 : Int32)), .val (.int (0 : Int32)), .val (.int fi0), .val (.int ((ge 0) - fi0)), .unset, .unset, .unset, .unset] []) := by
          intro T X prsE0
          refine w_lconst X d4_100 (v := (0 : Int64)) (by decide) (pc' := 101) rfl ?_
          refine w_lstore X d4_101 (L' := #[.val (.ref a), .val (.ref ea), .val (.int (1 : Int32)), .val (.ref ia), .val (.int (0 : Int32)), .val (.int (0 : Int32)), .val (.int fi0), .val (.int ((ge 0) - fi0)), .val (.long (0 : Int64)), .second, .unset, .unset]) rfl (pc' := 103) rfl ?_
          refine w_iload X d4_103 rfl (pc' := 105) rfl ?_
          refine w_istore X d4_105 (L' := #[.val (.ref a), .val (.ref ea), .val (.int (1 : Int32)), .val (.ref ia), .val (.int (0 : Int32)), .val (.int (0 : Int32)), .val (.int fi0), .val (.int ((ge 0) - fi0)), .val (.long (0 : Int64)), .second, .val (.int fi0), .unset]) rfl (pc' := 107) rfl ?_
          have LP : ∀ (q : Nat) T, St p l e ({ frames := 0, cells := 0, slots := 0, locals := 0 } : Room) s m #[(.ref a), (.ref ea), (.int (1 : Int32)), (.ref ia)] below meth c Z n0 (⟨"com/example/varve/varve/column/Digits", "of", "([B[II[J)Z"⟩ : MethodName) prog_40_method_2_code 12 (some .boolean) T h0 0 0 → ∀ (k0 : Nat) (acc0 : Int64) (x10_0 : Int32) (s11_0 : Slot), One s11_0 → x10_0.toInt = k0 → k0 + q = (ge 0).toInt.toNat → lp g ((ge 0) - fi0) k0 q acc0 = lp g ((ge 0) - fi0) fi0.toInt.toNat ((ge 0) - fi0).toInt.toNat 0 → WP p e below s n0 ({ frames := 0, cells := 0, slots := 0, locals := 0 } : Room).cells ({ frames := 0, cells := 0, slots := 0, locals := 0 } : Room).slots (fun v h => ∃ r g', v = some (.int r) ∧ Keep h0 h [ia] ∧ AJ Z h ia 2 g' ∧ OF g ge gi 1 r g') T (mkF m 107 #[.val (.ref a), .val (.ref ea), .val (.int (1 : Int32)), .val (.ref ia), .val (.int (0 : Int32)), .val (.int (0 : Int32)), .val (.int fi0), .val (.int ((ge 0) - fi0)), .val (.long acc0), .second, .val (.int x10_0), s11_0] []) := by
            intro q
            induction q with
            | zero =>
              intro T X k0 acc0 x10_0 s11_0 h_s11_0 hx10 hsum hL
              have hE0 := hb0'
              have hG0 := hf0
              have hR : lp g ((ge 0) - fi0) fi0.toInt.toNat ((ge 0) - fi0).toInt.toNat 0 = some acc0 := hL.symm
              refine w_iload X d4_107 rfl (pc' := 109) rfl ?_
              refine w_aloadN X d4_109 rfl rfl (pc' := 110) rfl ?_
              refine w_iload X d4_110 rfl (pc' := 112) rfl ?_
              refine w_iaload X (i := 0) E d4_112 (by decide) (by decide) rfl (pc' := 113) rfl ?_
              refine w_icmp_ge X d4_113 (by decide) (p1 := 183) (by decide) (p2 := 116) rfl (fun c113 => ?_) (fun c113 => False.elim (absurd c113 (by rw [Int32.lt_iff_toInt_lt]; omega)))
              refine w_iload X d4_183 rfl (pc' := 185) rfl ?_
              refine w_iload X d4_185 rfl (pc' := 187) rfl ?_
              refine w_icmp_ne X d4_187 (by decide) (p1 := 201) (by decide) (p2 := 190) rfl (fun c187 => ?_) (fun c187 => ?_)
              · -- c187 taken
                refine w_aloadN X d4_201 rfl rfl (pc' := 202) rfl ?_
                refine w_iload X d4_202 rfl (pc' := 204) rfl ?_
                refine w_iload X d4_204 rfl (pc' := 206) rfl ?_
                refine w_iload X d4_206 rfl (pc' := 208) rfl ?_
                refine w_icmp_le X d4_208 (by decide) (p1 := 216) (by decide) (p2 := 211) rfl (fun c208 => False.elim (c208 (hf0.1.resolve_left c187))) (fun c208 => ?_)
                refine w_lload X d4_211 rfl (pc' := 213) rfl ?_
                refine w_goto X d4_213 (by decide) (pc' := 219) (by decide) ?_
                refine w_lastore X (i := 0) (x' := acc0) V gia d4_219 (by decide) (by decide) rfl (pc' := 220) rfl ?_; intro T h3 X K4 O5
                have O6 := O.keep K4 (ninS h1 nin0)
                have O7 := E.keep K4 (ninS h2 nin0)
                have K8 := K.trans K4 (allS (Or.inl (by simp)) all0)
                have hv0 : prs g (0 : Int32) (ge 0) = some acc0 := by rw [prsE0, pr2, hF0, hR]; simp only [if_neg c187]
                refine w_iinc X d4_220 rfl (v' := (1 : Int32)) (by first | rfl | decide) (L' := #[.val (.ref a), .val (.ref ea), .val (.int (1 : Int32)), .val (.ref ia), .val (.int (1 : Int32)), .val (.int (0 : Int32)), .val (.int fi0), .val (.int ((ge 0) - fi0)), .val (.long acc0), .second, .val (.int x10_0), s11_0]) rfl (pc' := 223) rfl ?_
                refine w_goto X d4_223 (by decide) (pc' := 3) (by decide) ?_
                refine w_iload X d4_3 rfl (pc' := 5) rfl ?_
                refine w_iloadN X d4_5 rfl (pc' := 6) rfl ?_
                refine w_icmp_ge X d4_6 (by decide) (p1 := 226) (by decide) (p2 := 9) rfl (fun c6_2 => ?_) (fun c6_2 => False.elim (absurd c6_2 (by decide)))
                refine w_iconst X d4_226 (v := (1 : Int32)) (by decide) (pc' := 227) rfl ?_
                exact w_retZ X rfl d4_227 (by decide) (by decide) (by decide) ⟨_, _, rfl, K8, O5, Or.inr ⟨_, hv0, rfl, rfl, rfl⟩⟩
              · -- c187 not taken
                refine w_lload X d4_190 rfl (pc' := 192) rfl ?_
                refine w_ldcJ X d4_192 (tw38 hw) (pc' := 195) rfl ?_
                refine w_lcmp_ne X d4_195 (p0 := 196) rfl d4_196 (by decide) (p1 := 201) (by decide) (p2 := 199) rfl (fun c195 => ?_) (fun c195 => ?_)
                · -- c195 taken
                  refine w_aloadN X d4_201 rfl rfl (pc' := 202) rfl ?_
                  refine w_iload X d4_202 rfl (pc' := 204) rfl ?_
                  refine w_iload X d4_204 rfl (pc' := 206) rfl ?_
                  refine w_iload X d4_206 rfl (pc' := 208) rfl ?_
                  refine w_icmp_le X d4_208 (by decide) (p1 := 216) (by decide) (p2 := 211) rfl (fun c208 => ?_) (fun c208 => False.elim (absurd c208 (by rw [c187]; exact fun q => Int32.lt_irrefl q)))
                  refine w_lload X d4_216 rfl (pc' := 218) rfl ?_
                  refine w_lneg X d4_218 (pc' := 219) rfl ?_
                  refine w_lastore X (i := 0) (x' := (-acc0)) V gia d4_219 (by decide) (by decide) rfl (pc' := 220) rfl ?_; intro T h9 X K10 O11
                  have O12 := O.keep K10 (ninS h1 nin0)
                  have O13 := E.keep K10 (ninS h2 nin0)
                  have K14 := K.trans K10 (allS (Or.inl (by simp)) all0)
                  have hv0 : prs g (0 : Int32) (ge 0) = some (-acc0) := by rw [prsE0, pr2, hF0, hR]; simp only [if_pos c187, if_neg c195]
                  refine w_iinc X d4_220 rfl (v' := (1 : Int32)) (by first | rfl | decide) (L' := #[.val (.ref a), .val (.ref ea), .val (.int (1 : Int32)), .val (.ref ia), .val (.int (1 : Int32)), .val (.int (0 : Int32)), .val (.int fi0), .val (.int ((ge 0) - fi0)), .val (.long acc0), .second, .val (.int x10_0), s11_0]) rfl (pc' := 223) rfl ?_
                  refine w_goto X d4_223 (by decide) (pc' := 3) (by decide) ?_
                  refine w_iload X d4_3 rfl (pc' := 5) rfl ?_
                  refine w_iloadN X d4_5 rfl (pc' := 6) rfl ?_
                  refine w_icmp_ge X d4_6 (by decide) (p1 := 226) (by decide) (p2 := 9) rfl (fun c6_2 => ?_) (fun c6_2 => False.elim (absurd c6_2 (by decide)))
                  refine w_iconst X d4_226 (v := (1 : Int32)) (by decide) (pc' := 227) rfl ?_
                  exact w_retZ X rfl d4_227 (by decide) (by decide) (by decide) ⟨_, _, rfl, K14, O11, Or.inr ⟨_, hv0, rfl, rfl, rfl⟩⟩
                · -- c195 not taken
                  refine w_iconst X d4_199 (v := (0 : Int32)) (by decide) (pc' := 200) rfl ?_
                  have hp : prs g (0 : Int32) (ge 0) = none := by rw [prsE0, pr2, hF0, hR]; simp only [if_pos c187, if_pos c195]
                  exact w_retZ X rfl d4_200 (by decide) (by decide) (by decide) ⟨_, _, rfl, K, V, Or.inl ⟨hp, rfl⟩⟩
            | succ q ih =>
              intro T X k0 acc0 x10_0 s11_0 h_s11_0 hx10 hsum hL
              have hE0 := hb0'
              have hG0 := hf0
              refine w_iload X d4_107 rfl (pc' := 109) rfl ?_
              refine w_aloadN X d4_109 rfl rfl (pc' := 110) rfl ?_
              refine w_iload X d4_110 rfl (pc' := 112) rfl ?_
              refine w_iaload X (i := 0) E d4_112 (by decide) (by decide) rfl (pc' := 113) rfl ?_
              refine w_icmp_ge X d4_113 (by decide) (p1 := 183) (by decide) (p2 := 116) rfl (fun c113 => False.elim (absurd (show x10_0 < (ge 0) by rw [Int32.lt_iff_toInt_lt]; omega) c113)) (fun c113 => ?_)
              refine w_aloadN X d4_116 rfl rfl (pc' := 117) rfl ?_
              refine w_iload X d4_117 rfl (pc' := 119) rfl ?_
              refine w_baload X (i := k0) O d4_119 hx10 (by omega) rfl (pc' := 120) rfl ?_
              refine w_bipush X d4_120 (v := (48 : Int32)) (by decide) (pc' := 122) rfl ?_
              refine w_isub X d4_122 (pc' := 123) rfl ?_
              refine w_istore X d4_123 (L' := #[.val (.ref a), .val (.ref ea), .val (.int (1 : Int32)), .val (.ref ia), .val (.int (0 : Int32)), .val (.int (0 : Int32)), .val (.int fi0), .val (.int ((ge 0) - fi0)), .val (.long acc0), .second, .val (.int x10_0), .val (.int ((g k0) - (48 : Int32)))]) (XS.store1 (o := s11_0) rfl h_s11_0 rfl) (pc' := 125) rfl ?_
              refine w_iload X d4_125 rfl (pc' := 127) rfl ?_
              refine w_if_lt X d4_127 (by decide) (p1 := 137) (by decide) (p2 := 130) rfl (fun c127 => ?_) (fun c127 => ?_)
              · -- c127 taken
                refine w_iconst X d4_137 (v := (0 : Int32)) (by decide) (pc' := 138) rfl ?_
                have hp : prs g (0 : Int32) (ge 0) = none := by rw [prsE0, pr2, hF0, ← hL, lp]; simp only [if_pos c127]
                exact w_retZ X rfl d4_138 (by decide) (by decide) (by decide) ⟨_, _, rfl, K, V, Or.inl ⟨hp, rfl⟩⟩
              · -- c127 not taken
                refine w_iload X d4_130 rfl (pc' := 132) rfl ?_
                refine w_bipush X d4_132 (v := (9 : Int32)) (by decide) (pc' := 134) rfl ?_
                refine w_icmp_le X d4_134 (by decide) (p1 := 139) (by decide) (p2 := 137) rfl (fun c134 => ?_) (fun c134 => ?_)
                · -- c134 taken
                  refine w_iload X d4_139 rfl (pc' := 141) rfl ?_
                  refine w_bipush X d4_141 (v := (18 : Int32)) (by decide) (pc' := 143) rfl ?_
                  refine w_icmp_le X d4_143 (by decide) (p1 := 165) (by decide) (p2 := 146) rfl (fun c143 => ?_) (fun c143 => ?_)
                  · -- c143 taken
                    refine w_ldcJ X d4_165 (tw36 hw) (pc' := 168) rfl ?_
                    refine w_lload X d4_168 rfl (pc' := 170) rfl ?_
                    refine w_lmul X d4_170 (pc' := 171) rfl ?_
                    refine w_iload X d4_171 rfl (pc' := 173) rfl ?_
                    refine w_i2l X d4_173 (pc' := 174) rfl ?_
                    refine w_lsub X d4_174 (pc' := 175) rfl ?_
                    refine w_lstore X d4_175 (L' := #[.val (.ref a), .val (.ref ea), .val (.int (1 : Int32)), .val (.ref ia), .val (.int (0 : Int32)), .val (.int (0 : Int32)), .val (.int fi0), .val (.int ((ge 0) - fi0)), .val (.long (((10 : Int64) * acc0) - (((g k0) - (48 : Int32))).toInt64)), .second, .val (.int x10_0), .val (.int ((g k0) - (48 : Int32)))]) rfl (pc' := 177) rfl ?_
                    refine w_iinc X d4_177 rfl (v' := (x10_0 + (1 : Int32))) (by first | rfl | decide) (L' := #[.val (.ref a), .val (.ref ea), .val (.int (1 : Int32)), .val (.ref ia), .val (.int (0 : Int32)), .val (.int (0 : Int32)), .val (.int fi0), .val (.int ((ge 0) - fi0)), .val (.long (((10 : Int64) * acc0) - (((g k0) - (48 : Int32))).toInt64)), .second, .val (.int (x10_0 + (1 : Int32))), .val (.int ((g k0) - (48 : Int32)))]) rfl (pc' := 180) rfl ?_
                    refine w_goto X d4_180 (by decide) (pc' := 107) (by decide) ?_
                    exact ih T X (k0 + 1) (((10 : Int64) * acc0) - (((g k0) - (48 : Int32))).toInt64) (x10_0 + 1) (.val (.int ((g k0) - (48 : Int32)))) (One.val rfl) (x_succ hx10 (show k0 < 22 by omega) (by decide)) (by omega) (by rw [← hL, lp]; simp only [if_neg c127, if_neg c134, if_neg c143])
                  · -- c143 not taken
                    refine w_lload X d4_146 rfl (pc' := 148) rfl ?_
                    refine w_ldcJ X d4_148 (tw38 hw) (pc' := 151) rfl ?_
                    refine w_iload X d4_151 rfl (pc' := 153) rfl ?_
                    refine w_i2l X d4_153 (pc' := 154) rfl ?_
                    refine w_ladd X d4_154 (pc' := 155) rfl ?_
                    refine w_ldcJ X d4_155 (tw36 hw) (pc' := 158) rfl ?_
                    refine w_ldiv X d4_158 (by decide) (pc' := 159) rfl ?_
                    refine w_lcmp_ge X d4_159 (p0 := 160) rfl d4_160 (by decide) (p1 := 165) (by decide) (p2 := 163) rfl (fun c159 => ?_) (fun c159 => ?_)
                    · -- c159 taken
                      refine w_ldcJ X d4_165 (tw36 hw) (pc' := 168) rfl ?_
                      refine w_lload X d4_168 rfl (pc' := 170) rfl ?_
                      refine w_lmul X d4_170 (pc' := 171) rfl ?_
                      refine w_iload X d4_171 rfl (pc' := 173) rfl ?_
                      refine w_i2l X d4_173 (pc' := 174) rfl ?_
                      refine w_lsub X d4_174 (pc' := 175) rfl ?_
                      refine w_lstore X d4_175 (L' := #[.val (.ref a), .val (.ref ea), .val (.int (1 : Int32)), .val (.ref ia), .val (.int (0 : Int32)), .val (.int (0 : Int32)), .val (.int fi0), .val (.int ((ge 0) - fi0)), .val (.long (((10 : Int64) * acc0) - (((g k0) - (48 : Int32))).toInt64)), .second, .val (.int x10_0), .val (.int ((g k0) - (48 : Int32)))]) rfl (pc' := 177) rfl ?_
                      refine w_iinc X d4_177 rfl (v' := (x10_0 + (1 : Int32))) (by first | rfl | decide) (L' := #[.val (.ref a), .val (.ref ea), .val (.int (1 : Int32)), .val (.ref ia), .val (.int (0 : Int32)), .val (.int (0 : Int32)), .val (.int fi0), .val (.int ((ge 0) - fi0)), .val (.long (((10 : Int64) * acc0) - (((g k0) - (48 : Int32))).toInt64)), .second, .val (.int (x10_0 + (1 : Int32))), .val (.int ((g k0) - (48 : Int32)))]) rfl (pc' := 180) rfl ?_
                      refine w_goto X d4_180 (by decide) (pc' := 107) (by decide) ?_
                      exact ih T X (k0 + 1) (((10 : Int64) * acc0) - (((g k0) - (48 : Int32))).toInt64) (x10_0 + 1) (.val (.int ((g k0) - (48 : Int32)))) (One.val rfl) (x_succ hx10 (show k0 < 22 by omega) (by decide)) (by omega) (by rw [← hL, lp]; simp only [if_neg c127, if_neg c134, if_pos c143, if_neg c159])
                    · -- c159 not taken
                      refine w_iconst X d4_163 (v := (0 : Int32)) (by decide) (pc' := 164) rfl ?_
                      have hp : prs g (0 : Int32) (ge 0) = none := by rw [prsE0, pr2, hF0, ← hL, lp]; simp only [if_neg c127, if_neg c134, if_pos c143, if_pos c159]
                      exact w_retZ X rfl d4_164 (by decide) (by decide) (by decide) ⟨_, _, rfl, K, V, Or.inl ⟨hp, rfl⟩⟩
                · -- c134 not taken
                  refine w_iconst X d4_137 (v := (0 : Int32)) (by decide) (pc' := 138) rfl ?_
                  have hp : prs g (0 : Int32) (ge 0) = none := by rw [prsE0, pr2, hF0, ← hL, lp]; simp only [if_neg c127, if_pos c134]
                  exact w_retZ X rfl d4_138 (by decide) (by decide) (by decide) ⟨_, _, rfl, K, V, Or.inl ⟨hp, rfl⟩⟩
          exact LP ((ge 0) - fi0).toInt.toNat T X fi0.toInt.toNat 0 fi0 (.unset) One.u (nn_at hf0.2.1) (by have := hf0; omega) rfl
        refine w_aloadN X d4_76 rfl rfl (pc' := 77) rfl ?_
        refine w_iload X d4_77 rfl (pc' := 79) rfl ?_
        refine w_baload X (i := (fi0.toInt.toNat)) O d4_79 (nn_at hf0.2.1) (by have := ne_int c66; have := hf0; have := hb0'; omega) rfl (pc' := 80) rfl ?_
        refine w_bipush X d4_80 (v := (48 : Int32)) (by decide) (pc' := 82) rfl ?_
        refine w_icmp_ne X d4_82 (by decide) (p1 := 100) (by decide) (p2 := 85) rfl (fun c82 => ?_) (fun c82 => ?_)
        · -- c82 taken
          exact J2 T X (by rw [prs, hF0]; simp only [if_neg c66, if_neg c73, if_neg c82])
        · -- c82 not taken
          refine w_iload X d4_85 rfl (pc' := 87) rfl ?_
          refine w_iconst X d4_87 (v := (1 : Int32)) (by decide) (pc' := 88) rfl ?_
          refine w_icmp_gt X d4_88 (by decide) (p1 := 98) (by decide) (p2 := 91) rfl (fun c88 => ?_) (fun c88 => ?_)
          · -- c88 taken
            refine w_iconst X d4_98 (v := (0 : Int32)) (by decide) (pc' := 99) rfl ?_
            have hp : prs g (0 : Int32) (ge 0) = none := by rw [prs, hF0]; simp only [if_neg c66, if_neg c73, if_pos c82, if_pos c88]
            exact w_retZ X rfl d4_99 (by decide) (by decide) (by decide) ⟨_, _, rfl, K, V, Or.inl ⟨hp, rfl⟩⟩
          · -- c88 not taken
            refine w_iload X d4_91 rfl (pc' := 93) rfl ?_
            refine w_iload X d4_93 rfl (pc' := 95) rfl ?_
            refine w_icmp_le X d4_95 (by decide) (p1 := 100) (by decide) (p2 := 98) rfl (fun c95 => ?_) (fun c95 => ?_)
            · -- c95 taken
              exact J2 T X (by rw [prs, hF0]; simp only [if_neg c66, if_neg c73, if_pos c82, if_neg c88, if_neg c95])
            · -- c95 not taken
              refine w_iconst X d4_98 (v := (0 : Int32)) (by decide) (pc' := 99) rfl ?_
              have hp : prs g (0 : Int32) (ge 0) = none := by rw [prs, hF0]; simp only [if_neg c66, if_neg c73, if_pos c82, if_neg c88, if_pos c95]
              exact w_retZ X rfl d4_99 (by decide) (by decide) (by decide) ⟨_, _, rfl, K, V, Or.inl ⟨hp, rfl⟩⟩
  refine w_iload X d4_26 rfl (pc' := 28) rfl ?_
  refine w_aloadN X d4_28 rfl rfl (pc' := 29) rfl ?_
  refine w_iload X d4_29 rfl (pc' := 31) rfl ?_
  refine w_iaload X (i := 0) E d4_31 (by decide) (by decide) rfl (pc' := 32) rfl ?_
  refine w_icmp_ge X d4_32 (by decide) (p1 := 51) (by decide) (p2 := 35) rfl (fun c32 => ?_) (fun c32 => ?_)
  · -- c32 taken
    refine w_iload X d4_51 rfl (pc' := 53) rfl ?_
    exact J1 T X (0 : Int32) (by simp only [prF, if_neg c32])
  · -- c32 not taken
    refine w_aloadN X d4_35 rfl rfl (pc' := 36) rfl ?_
    refine w_iload X d4_36 rfl (pc' := 38) rfl ?_
    refine w_baload X (i := ((0 : Int32).toInt.toNat)) O d4_38 (nn_at (by decide)) (lt22 c32 hb0' (by decide)) rfl (pc' := 39) rfl ?_
    refine w_bipush X d4_39 (v := (45 : Int32)) (by decide) (pc' := 41) rfl ?_
    refine w_icmp_ne X d4_41 (by decide) (p1 := 51) (by decide) (p2 := 44) rfl (fun c41 => ?_) (fun c41 => ?_)
    · -- c41 taken
      refine w_iload X d4_51 rfl (pc' := 53) rfl ?_
      exact J1 T X (0 : Int32) (by simp only [prF, if_pos c32, if_neg c41])
    · -- c41 not taken
      refine w_iload X d4_44 rfl (pc' := 46) rfl ?_
      refine w_iconst X d4_46 (v := (1 : Int32)) (by decide) (pc' := 47) rfl ?_
      refine w_iadd X d4_47 (pc' := 48) rfl ?_
      refine w_goto X d4_48 (by decide) (pc' := 53) (by decide) ?_
      exact J1 T X ((0 : Int32) + (1 : Int32)) (by simp only [prF, if_pos c32, if_pos c41])
set_option maxRecDepth 65536 in
set_option maxHeartbeats 4000000 in
theorem ct_of2 (l : Launch) (Z : State) (a0 : Array Value) (hw : ∀ d ∈ tables_1, d.before a0 Z = true) (a ea ia : Addr) (g ge : Nat → Int32) (gi : Nat → Int64) (h0 : Heap) (n0 : Nat) (Z0 : n0 ≤ h0.size) (gia : n0 ≤ ia) (h1 : a ≠ ia) (h2 : ea ≠ ia) (O : AI Z h0 a .byte 22 g) (E : AI Z h0 ea .int 2 ge) (V : AJ Z h0 ia 2 gi) (hb0 : 0 ≤ (ge 0).toInt) (hb0' : (ge 0).toInt ≤ 22) (hbb : (ge 0).toInt ≤ (ge 1).toInt) (hb1' : (ge 1).toInt ≤ 22) :
    Ct l Z (⟨"com/example/varve/varve/column/Digits", "of", "([B[II[J)Z"⟩ : MethodName) prog_40_method_2_code 12 (some .boolean) ({ frames := 0, cells := 0, slots := 0, locals := 0 } : Room) #[(.ref a), (.ref ea), (.int (2 : Int32)), (.ref ia)] h0 n0 (fun v h => ∃ r g', v = some (.int r) ∧ Keep h0 h [ia] ∧ AJ Z h ia 2 g' ∧ OF g ge gi 2 r g') := by
  refine Ct.intro (plainFor_of_name (by first | (simp [plainName, overriddenIn]; done) | decide +kernel)) Z0 ?_
  intro p e s m below meth c T X
  refine WP.cast (g' := (mkF m 0 #[.val (.ref a), .val (.ref ea), .val (.int (2 : Int32)), .val (.ref ia), .unset, .unset, .unset, .unset, .unset, .unset, .unset, .unset] [])) (by first | (simp [entryFrame, mkF, argsToLocals, Value.category]; done) | rfl) ?_
  have K := Keep.refl h0 [ia]
  refine w_iconst X d4_0 (v := (0 : Int32)) (by decide) (pc' := 1) rfl ?_
  refine w_istore X d4_1 (L' := #[.val (.ref a), .val (.ref ea), .val (.int (2 : Int32)), .val (.ref ia), .val (.int (0 : Int32)), .unset, .unset, .unset, .unset, .unset, .unset, .unset]) rfl (pc' := 3) rfl ?_
  refine w_iload X d4_3 rfl (pc' := 5) rfl ?_
  refine w_iloadN X d4_5 rfl (pc' := 6) rfl ?_
  refine w_icmp_ge X d4_6 (by decide) (p1 := 226) (by decide) (p2 := 9) rfl (fun c6 => False.elim (absurd c6 (by decide))) (fun c6 => ?_)
  refine w_iload X d4_9 rfl (pc' := 11) rfl ?_
  refine w_if_ne X d4_11 (by decide) (p1 := 18) (by decide) (p2 := 14) rfl (fun c11 => False.elim (absurd c11 (by decide))) (fun c11 => ?_)
  refine w_iconst X d4_14 (v := (0 : Int32)) (by decide) (pc' := 15) rfl ?_
  refine w_goto X d4_15 (by decide) (pc' := 24) (by decide) ?_
  refine w_istore X d4_24 (L' := #[.val (.ref a), .val (.ref ea), .val (.int (2 : Int32)), .val (.ref ia), .val (.int (0 : Int32)), .val (.int (0 : Int32)), .unset, .unset, .unset, .unset, .unset, .unset]) rfl (pc' := 26) rfl ?_
  have J1 : ∀ T, St p l e ({ frames := 0, cells := 0, slots := 0, locals := 0 } : Room) s m #[(.ref a), (.ref ea), (.int (2 : Int32)), (.ref ia)] below meth c Z n0 (⟨"com/example/varve/varve/column/Digits", "of", "([B[II[J)Z"⟩ : MethodName) prog_40_method_2_code 12 (some .boolean) T h0 0 0 → ∀ (fi0 : Int32), (prF g (0 : Int32) (ge 0) = fi0) → WP p e below s n0 ({ frames := 0, cells := 0, slots := 0, locals := 0 } : Room).cells ({ frames := 0, cells := 0, slots := 0, locals := 0 } : Room).slots (fun v h => ∃ r g', v = some (.int r) ∧ Keep h0 h [ia] ∧ AJ Z h ia 2 g' ∧ OF g ge gi 2 r g') T (mkF m 53 #[.val (.ref a), .val (.ref ea), .val (.int (2 : Int32)), .val (.ref ia), .val (.int (0 : Int32)), .val (.int (0 : Int32)), .unset, .unset, .unset, .unset, .unset, .unset] [(.int fi0)]) := by
    intro T X fi0 hF0
    have hf0 := first_int hF0 (by decide) hb0 hb0'
    refine w_istore X d4_53 (L' := #[.val (.ref a), .val (.ref ea), .val (.int (2 : Int32)), .val (.ref ia), .val (.int (0 : Int32)), .val (.int (0 : Int32)), .val (.int fi0), .unset, .unset, .unset, .unset, .unset]) rfl (pc' := 55) rfl ?_
    refine w_aloadN X d4_55 rfl rfl (pc' := 56) rfl ?_
    refine w_iload X d4_56 rfl (pc' := 58) rfl ?_
    refine w_iaload X (i := 0) E d4_58 (by decide) (by decide) rfl (pc' := 59) rfl ?_
    refine w_iload X d4_59 rfl (pc' := 61) rfl ?_
    refine w_isub X d4_61 (pc' := 62) rfl ?_
    refine w_istore X d4_62 (L' := #[.val (.ref a), .val (.ref ea), .val (.int (2 : Int32)), .val (.ref ia), .val (.int (0 : Int32)), .val (.int (0 : Int32)), .val (.int fi0), .val (.int ((ge 0) - fi0)), .unset, .unset, .unset, .unset]) rfl (pc' := 64) rfl ?_
    refine w_iload X d4_64 rfl (pc' := 66) rfl ?_
    refine w_if_eq X d4_66 (by decide) (p1 := 98) (by decide) (p2 := 69) rfl (fun c66 => ?_) (fun c66 => ?_)
    · -- c66 taken
      refine w_iconst X d4_98 (v := (0 : Int32)) (by decide) (pc' := 99) rfl ?_
      have hp : prs g (0 : Int32) (ge 0) = none := by rw [prs, hF0]; simp only [if_pos c66]
      exact w_retZ X rfl d4_99 (by decide) (by decide) (by decide) ⟨_, _, rfl, K, V, Or.inl ⟨Or.inl hp, rfl⟩⟩
    · -- c66 not taken
      refine w_iload X d4_69 rfl (pc' := 71) rfl ?_
      refine w_bipush X d4_71 (v := (19 : Int32)) (by decide) (pc' := 73) rfl ?_
      refine w_icmp_gt X d4_73 (by decide) (p1 := 98) (by decide) (p2 := 76) rfl (fun c73 => ?_) (fun c73 => ?_)
      · -- c73 taken
        refine w_iconst X d4_98 (v := (0 : Int32)) (by decide) (pc' := 99) rfl ?_
        have hp : prs g (0 : Int32) (ge 0) = none := by rw [prs, hF0]; simp only [if_neg c66, if_pos c73]
        exact w_retZ X rfl d4_99 (by decide) (by decide) (by decide) ⟨_, _, rfl, K, V, Or.inl ⟨Or.inl hp, rfl⟩⟩
      · -- c73 not taken
        have J2 : ∀ T, St p l e ({ frames := 0, cells := 0, slots := 0, locals := 0 } : Room) s m #[(.ref a), (.ref ea), (.int (2 : Int32)), (.ref ia)] below meth c Z n0 (⟨"com/example/varve/varve/column/Digits", "of", "([B[II[J)Z"⟩ : MethodName) prog_40_method_2_code 12 (some .boolean) T h0 0 0 → (prs g (0 : Int32) (ge 0) = pr2 g (0 : Int32) (ge 0)) → WP p e below s n0 ({ frames := 0, cells := 0, slots := 0, locals := 0 } : Room).cells ({ frames := 0, cells := 0, slots := 0, locals := 0 } : Room).slots (fun v h => ∃ r g', v = some (.int r) ∧ Keep h0 h [ia] ∧ AJ Z h ia 2 g' ∧ OF g ge gi 2 r g') T (mkF m 100 #[.val (.ref a), .val (.ref ea), .val (.int (2 : Int32)), .val (.ref ia), .val (.int (0 : Int32)), .val (.int (0 : Int32)), .val (.int fi0), .val (.int ((ge 0) - fi0)), .unset, .unset, .unset, .unset] []) := by
          intro T X prsE0
          refine w_lconst X d4_100 (v := (0 : Int64)) (by decide) (pc' := 101) rfl ?_
          refine w_lstore X d4_101 (L' := #[.val (.ref a), .val (.ref ea), .val (.int (2 : Int32)), .val (.ref ia), .val (.int (0 : Int32)), .val (.int (0 : Int32)), .val (.int fi0), .val (.int ((ge 0) - fi0)), .val (.long (0 : Int64)), .second, .unset, .unset]) rfl (pc' := 103) rfl ?_
          refine w_iload X d4_103 rfl (pc' := 105) rfl ?_
          refine w_istore X d4_105 (L' := #[.val (.ref a), .val (.ref ea), .val (.int (2 : Int32)), .val (.ref ia), .val (.int (0 : Int32)), .val (.int (0 : Int32)), .val (.int fi0), .val (.int ((ge 0) - fi0)), .val (.long (0 : Int64)), .second, .val (.int fi0), .unset]) rfl (pc' := 107) rfl ?_
          have LP : ∀ (q : Nat) T, St p l e ({ frames := 0, cells := 0, slots := 0, locals := 0 } : Room) s m #[(.ref a), (.ref ea), (.int (2 : Int32)), (.ref ia)] below meth c Z n0 (⟨"com/example/varve/varve/column/Digits", "of", "([B[II[J)Z"⟩ : MethodName) prog_40_method_2_code 12 (some .boolean) T h0 0 0 → ∀ (k0 : Nat) (acc0 : Int64) (x10_0 : Int32) (s11_0 : Slot), One s11_0 → x10_0.toInt = k0 → k0 + q = (ge 0).toInt.toNat → lp g ((ge 0) - fi0) k0 q acc0 = lp g ((ge 0) - fi0) fi0.toInt.toNat ((ge 0) - fi0).toInt.toNat 0 → WP p e below s n0 ({ frames := 0, cells := 0, slots := 0, locals := 0 } : Room).cells ({ frames := 0, cells := 0, slots := 0, locals := 0 } : Room).slots (fun v h => ∃ r g', v = some (.int r) ∧ Keep h0 h [ia] ∧ AJ Z h ia 2 g' ∧ OF g ge gi 2 r g') T (mkF m 107 #[.val (.ref a), .val (.ref ea), .val (.int (2 : Int32)), .val (.ref ia), .val (.int (0 : Int32)), .val (.int (0 : Int32)), .val (.int fi0), .val (.int ((ge 0) - fi0)), .val (.long acc0), .second, .val (.int x10_0), s11_0] []) := by
            intro q
            induction q with
            | zero =>
              intro T X k0 acc0 x10_0 s11_0 h_s11_0 hx10 hsum hL
              have hE0 := hb0'
              have hG0 := hf0
              have hR : lp g ((ge 0) - fi0) fi0.toInt.toNat ((ge 0) - fi0).toInt.toNat 0 = some acc0 := hL.symm
              refine w_iload X d4_107 rfl (pc' := 109) rfl ?_
              refine w_aloadN X d4_109 rfl rfl (pc' := 110) rfl ?_
              refine w_iload X d4_110 rfl (pc' := 112) rfl ?_
              refine w_iaload X (i := 0) E d4_112 (by decide) (by decide) rfl (pc' := 113) rfl ?_
              refine w_icmp_ge X d4_113 (by decide) (p1 := 183) (by decide) (p2 := 116) rfl (fun c113 => ?_) (fun c113 => False.elim (absurd c113 (by rw [Int32.lt_iff_toInt_lt]; omega)))
              refine w_iload X d4_183 rfl (pc' := 185) rfl ?_
              refine w_iload X d4_185 rfl (pc' := 187) rfl ?_
              refine w_icmp_ne X d4_187 (by decide) (p1 := 201) (by decide) (p2 := 190) rfl (fun c187 => ?_) (fun c187 => ?_)
              · -- c187 taken
                refine w_aloadN X d4_201 rfl rfl (pc' := 202) rfl ?_
                refine w_iload X d4_202 rfl (pc' := 204) rfl ?_
                refine w_iload X d4_204 rfl (pc' := 206) rfl ?_
                refine w_iload X d4_206 rfl (pc' := 208) rfl ?_
                refine w_icmp_le X d4_208 (by decide) (p1 := 216) (by decide) (p2 := 211) rfl (fun c208 => False.elim (c208 (hf0.1.resolve_left c187))) (fun c208 => ?_)
                refine w_lload X d4_211 rfl (pc' := 213) rfl ?_
                refine w_goto X d4_213 (by decide) (pc' := 219) (by decide) ?_
                refine w_lastore X (i := 0) (x' := acc0) V gia d4_219 (by decide) (by decide) rfl (pc' := 220) rfl ?_; intro T h3 X K4 O5
                have O6 := O.keep K4 (ninS h1 nin0)
                have O7 := E.keep K4 (ninS h2 nin0)
                have K8 := K.trans K4 (allS (Or.inl (by simp)) all0)
                have hv0 : prs g (0 : Int32) (ge 0) = some acc0 := by rw [prsE0, pr2, hF0, hR]; simp only [if_neg c187]
                refine w_iinc X d4_220 rfl (v' := (1 : Int32)) (by first | rfl | decide) (L' := #[.val (.ref a), .val (.ref ea), .val (.int (2 : Int32)), .val (.ref ia), .val (.int (1 : Int32)), .val (.int (0 : Int32)), .val (.int fi0), .val (.int ((ge 0) - fi0)), .val (.long acc0), .second, .val (.int x10_0), s11_0]) rfl (pc' := 223) rfl ?_
                refine w_goto X d4_223 (by decide) (pc' := 3) (by decide) ?_
                refine w_iload X d4_3 rfl (pc' := 5) rfl ?_
                refine w_iloadN X d4_5 rfl (pc' := 6) rfl ?_
                refine w_icmp_ge X d4_6 (by decide) (p1 := 226) (by decide) (p2 := 9) rfl (fun c6_2 => False.elim (absurd c6_2 (by decide))) (fun c6_2 => ?_)
                refine w_iload X d4_9 rfl (pc' := 11) rfl ?_
                refine w_if_ne X d4_11 (by decide) (p1 := 18) (by decide) (p2 := 14) rfl (fun c11_2 => ?_) (fun c11_2 => False.elim (absurd c11_2 (by decide)))
                refine w_aloadN X d4_18 rfl rfl (pc' := 19) rfl ?_
                refine w_iload X d4_19 rfl (pc' := 21) rfl ?_
                refine w_iconst X d4_21 (v := (1 : Int32)) (by decide) (pc' := 22) rfl ?_
                refine w_isub X d4_22 (pc' := 23) rfl ?_
                refine w_iaload X (i := 0) O7 d4_23 (by decide) (by decide) rfl (pc' := 24) rfl ?_
                refine w_istore X d4_24 (L' := #[.val (.ref a), .val (.ref ea), .val (.int (2 : Int32)), .val (.ref ia), .val (.int (1 : Int32)), .val (.int (ge 0)), .val (.int fi0), .val (.int ((ge 0) - fi0)), .val (.long acc0), .second, .val (.int x10_0), s11_0]) rfl (pc' := 26) rfl ?_
                have J9 : ∀ T, St p l e ({ frames := 0, cells := 0, slots := 0, locals := 0 } : Room) s m #[(.ref a), (.ref ea), (.int (2 : Int32)), (.ref ia)] below meth c Z n0 (⟨"com/example/varve/varve/column/Digits", "of", "([B[II[J)Z"⟩ : MethodName) prog_40_method_2_code 12 (some .boolean) T h3 0 0 → ∀ (fi1 : Int32), (prF g (ge 0) (ge 1) = fi1) → WP p e below s n0 ({ frames := 0, cells := 0, slots := 0, locals := 0 } : Room).cells ({ frames := 0, cells := 0, slots := 0, locals := 0 } : Room).slots (fun v h => ∃ r g', v = some (.int r) ∧ Keep h0 h [ia] ∧ AJ Z h ia 2 g' ∧ OF g ge gi 2 r g') T (mkF m 53 #[.val (.ref a), .val (.ref ea), .val (.int (2 : Int32)), .val (.ref ia), .val (.int (1 : Int32)), .val (.int (ge 0)), .val (.int fi0), .val (.int ((ge 0) - fi0)), .val (.long acc0), .second, .val (.int x10_0), s11_0] [(.int fi1)]) := by
                  intro T X fi1 hF1
                  have hf1 := first_int hF1 hb0 hbb hb1'
                  refine w_istore X d4_53 (L' := #[.val (.ref a), .val (.ref ea), .val (.int (2 : Int32)), .val (.ref ia), .val (.int (1 : Int32)), .val (.int (ge 0)), .val (.int fi1), .val (.int ((ge 0) - fi0)), .val (.long acc0), .second, .val (.int x10_0), s11_0]) rfl (pc' := 55) rfl ?_
                  refine w_aloadN X d4_55 rfl rfl (pc' := 56) rfl ?_
                  refine w_iload X d4_56 rfl (pc' := 58) rfl ?_
                  refine w_iaload X (i := 1) O7 d4_58 (by decide) (by decide) rfl (pc' := 59) rfl ?_
                  refine w_iload X d4_59 rfl (pc' := 61) rfl ?_
                  refine w_isub X d4_61 (pc' := 62) rfl ?_
                  refine w_istore X d4_62 (L' := #[.val (.ref a), .val (.ref ea), .val (.int (2 : Int32)), .val (.ref ia), .val (.int (1 : Int32)), .val (.int (ge 0)), .val (.int fi1), .val (.int ((ge 1) - fi1)), .val (.long acc0), .second, .val (.int x10_0), s11_0]) rfl (pc' := 64) rfl ?_
                  refine w_iload X d4_64 rfl (pc' := 66) rfl ?_
                  refine w_if_eq X d4_66 (by decide) (p1 := 98) (by decide) (p2 := 69) rfl (fun c66_2 => ?_) (fun c66_2 => ?_)
                  · -- c66_2 taken
                    refine w_iconst X d4_98 (v := (0 : Int32)) (by decide) (pc' := 99) rfl ?_
                    have hp : prs g (ge 0) (ge 1) = none := by rw [prs, hF1]; simp only [if_pos c66_2]
                    exact w_retZ X rfl d4_99 (by decide) (by decide) (by decide) ⟨_, _, rfl, K8, O5, Or.inl ⟨Or.inr hp, rfl⟩⟩
                  · -- c66_2 not taken
                    refine w_iload X d4_69 rfl (pc' := 71) rfl ?_
                    refine w_bipush X d4_71 (v := (19 : Int32)) (by decide) (pc' := 73) rfl ?_
                    refine w_icmp_gt X d4_73 (by decide) (p1 := 98) (by decide) (p2 := 76) rfl (fun c73_2 => ?_) (fun c73_2 => ?_)
                    · -- c73_2 taken
                      refine w_iconst X d4_98 (v := (0 : Int32)) (by decide) (pc' := 99) rfl ?_
                      have hp : prs g (ge 0) (ge 1) = none := by rw [prs, hF1]; simp only [if_neg c66_2, if_pos c73_2]
                      exact w_retZ X rfl d4_99 (by decide) (by decide) (by decide) ⟨_, _, rfl, K8, O5, Or.inl ⟨Or.inr hp, rfl⟩⟩
                    · -- c73_2 not taken
                      have J10 : ∀ T, St p l e ({ frames := 0, cells := 0, slots := 0, locals := 0 } : Room) s m #[(.ref a), (.ref ea), (.int (2 : Int32)), (.ref ia)] below meth c Z n0 (⟨"com/example/varve/varve/column/Digits", "of", "([B[II[J)Z"⟩ : MethodName) prog_40_method_2_code 12 (some .boolean) T h3 0 0 → (prs g (ge 0) (ge 1) = pr2 g (ge 0) (ge 1)) → WP p e below s n0 ({ frames := 0, cells := 0, slots := 0, locals := 0 } : Room).cells ({ frames := 0, cells := 0, slots := 0, locals := 0 } : Room).slots (fun v h => ∃ r g', v = some (.int r) ∧ Keep h0 h [ia] ∧ AJ Z h ia 2 g' ∧ OF g ge gi 2 r g') T (mkF m 100 #[.val (.ref a), .val (.ref ea), .val (.int (2 : Int32)), .val (.ref ia), .val (.int (1 : Int32)), .val (.int (ge 0)), .val (.int fi1), .val (.int ((ge 1) - fi1)), .val (.long acc0), .second, .val (.int x10_0), s11_0] []) := by
                        intro T X prsE1
                        refine w_lconst X d4_100 (v := (0 : Int64)) (by decide) (pc' := 101) rfl ?_
                        refine w_lstore X d4_101 (L' := #[.val (.ref a), .val (.ref ea), .val (.int (2 : Int32)), .val (.ref ia), .val (.int (1 : Int32)), .val (.int (ge 0)), .val (.int fi1), .val (.int ((ge 1) - fi1)), .val (.long (0 : Int64)), .second, .val (.int x10_0), s11_0]) rfl (pc' := 103) rfl ?_
                        refine w_iload X d4_103 rfl (pc' := 105) rfl ?_
                        refine w_istore X d4_105 (L' := #[.val (.ref a), .val (.ref ea), .val (.int (2 : Int32)), .val (.ref ia), .val (.int (1 : Int32)), .val (.int (ge 0)), .val (.int fi1), .val (.int ((ge 1) - fi1)), .val (.long (0 : Int64)), .second, .val (.int fi1), s11_0]) rfl (pc' := 107) rfl ?_
                        have LP : ∀ (q : Nat) T, St p l e ({ frames := 0, cells := 0, slots := 0, locals := 0 } : Room) s m #[(.ref a), (.ref ea), (.int (2 : Int32)), (.ref ia)] below meth c Z n0 (⟨"com/example/varve/varve/column/Digits", "of", "([B[II[J)Z"⟩ : MethodName) prog_40_method_2_code 12 (some .boolean) T h3 0 0 → ∀ (k1 : Nat) (acc1 : Int64) (x10_1 : Int32) (s11_1 : Slot), One s11_1 → x10_1.toInt = k1 → k1 + q = (ge 1).toInt.toNat → lp g ((ge 1) - fi1) k1 q acc1 = lp g ((ge 1) - fi1) fi1.toInt.toNat ((ge 1) - fi1).toInt.toNat 0 → WP p e below s n0 ({ frames := 0, cells := 0, slots := 0, locals := 0 } : Room).cells ({ frames := 0, cells := 0, slots := 0, locals := 0 } : Room).slots (fun v h => ∃ r g', v = some (.int r) ∧ Keep h0 h [ia] ∧ AJ Z h ia 2 g' ∧ OF g ge gi 2 r g') T (mkF m 107 #[.val (.ref a), .val (.ref ea), .val (.int (2 : Int32)), .val (.ref ia), .val (.int (1 : Int32)), .val (.int (ge 0)), .val (.int fi1), .val (.int ((ge 1) - fi1)), .val (.long acc1), .second, .val (.int x10_1), s11_1] []) := by
                          intro q
                          induction q with
                          | zero =>
                            intro T X k1 acc1 x10_1 s11_1 h_s11_1 hx10 hsum hL
                            have hE1 := hb1'
                            have hG1 := hf1
                            have hR : lp g ((ge 1) - fi1) fi1.toInt.toNat ((ge 1) - fi1).toInt.toNat 0 = some acc1 := hL.symm
                            refine w_iload X d4_107 rfl (pc' := 109) rfl ?_
                            refine w_aloadN X d4_109 rfl rfl (pc' := 110) rfl ?_
                            refine w_iload X d4_110 rfl (pc' := 112) rfl ?_
                            refine w_iaload X (i := 1) O7 d4_112 (by decide) (by decide) rfl (pc' := 113) rfl ?_
                            refine w_icmp_ge X d4_113 (by decide) (p1 := 183) (by decide) (p2 := 116) rfl (fun c113_2 => ?_) (fun c113_2 => False.elim (absurd c113_2 (by rw [Int32.lt_iff_toInt_lt]; omega)))
                            refine w_iload X d4_183 rfl (pc' := 185) rfl ?_
                            refine w_iload X d4_185 rfl (pc' := 187) rfl ?_
                            refine w_icmp_ne X d4_187 (by decide) (p1 := 201) (by decide) (p2 := 190) rfl (fun c187_2 => ?_) (fun c187_2 => ?_)
                            · -- c187_2 taken
                              refine w_aloadN X d4_201 rfl rfl (pc' := 202) rfl ?_
                              refine w_iload X d4_202 rfl (pc' := 204) rfl ?_
                              refine w_iload X d4_204 rfl (pc' := 206) rfl ?_
                              refine w_iload X d4_206 rfl (pc' := 208) rfl ?_
                              refine w_icmp_le X d4_208 (by decide) (p1 := 216) (by decide) (p2 := 211) rfl (fun c208_2 => False.elim (c208_2 (hf1.1.resolve_left c187_2))) (fun c208_2 => ?_)
                              refine w_lload X d4_211 rfl (pc' := 213) rfl ?_
                              refine w_goto X d4_213 (by decide) (pc' := 219) (by decide) ?_
                              refine w_lastore X (i := 1) (x' := acc1) O5 gia d4_219 (by decide) (by decide) rfl (pc' := 220) rfl ?_; intro T h11 X K12 O13
                              have O14 := O6.keep K12 (ninS h1 nin0)
                              have O15 := O7.keep K12 (ninS h2 nin0)
                              have K16 := K8.trans K12 (allS (Or.inl (by simp)) all0)
                              have hv1 : prs g (ge 0) (ge 1) = some acc1 := by rw [prsE1, pr2, hF1, hR]; simp only [if_neg c187_2]
                              refine w_iinc X d4_220 rfl (v' := (2 : Int32)) (by first | rfl | decide) (L' := #[.val (.ref a), .val (.ref ea), .val (.int (2 : Int32)), .val (.ref ia), .val (.int (2 : Int32)), .val (.int (ge 0)), .val (.int fi1), .val (.int ((ge 1) - fi1)), .val (.long acc1), .second, .val (.int x10_1), s11_1]) rfl (pc' := 223) rfl ?_
                              refine w_goto X d4_223 (by decide) (pc' := 3) (by decide) ?_
                              refine w_iload X d4_3 rfl (pc' := 5) rfl ?_
                              refine w_iloadN X d4_5 rfl (pc' := 6) rfl ?_
                              refine w_icmp_ge X d4_6 (by decide) (p1 := 226) (by decide) (p2 := 9) rfl (fun c6_3 => ?_) (fun c6_3 => False.elim (absurd c6_3 (by decide)))
                              refine w_iconst X d4_226 (v := (1 : Int32)) (by decide) (pc' := 227) rfl ?_
                              exact w_retZ X rfl d4_227 (by decide) (by decide) (by decide) ⟨_, _, rfl, K16, O13, Or.inr ⟨_, _, hv0, hv1, rfl, rfl, rfl⟩⟩
                            · -- c187_2 not taken
                              refine w_lload X d4_190 rfl (pc' := 192) rfl ?_
                              refine w_ldcJ X d4_192 (tw38 hw) (pc' := 195) rfl ?_
                              refine w_lcmp_ne X d4_195 (p0 := 196) rfl d4_196 (by decide) (p1 := 201) (by decide) (p2 := 199) rfl (fun c195 => ?_) (fun c195 => ?_)
                              · -- c195 taken
                                refine w_aloadN X d4_201 rfl rfl (pc' := 202) rfl ?_
                                refine w_iload X d4_202 rfl (pc' := 204) rfl ?_
                                refine w_iload X d4_204 rfl (pc' := 206) rfl ?_
                                refine w_iload X d4_206 rfl (pc' := 208) rfl ?_
                                refine w_icmp_le X d4_208 (by decide) (p1 := 216) (by decide) (p2 := 211) rfl (fun c208_2 => ?_) (fun c208_2 => False.elim (absurd c208_2 (by rw [c187_2]; exact fun q => Int32.lt_irrefl q)))
                                refine w_lload X d4_216 rfl (pc' := 218) rfl ?_
                                refine w_lneg X d4_218 (pc' := 219) rfl ?_
                                refine w_lastore X (i := 1) (x' := (-acc1)) O5 gia d4_219 (by decide) (by decide) rfl (pc' := 220) rfl ?_; intro T h17 X K18 O19
                                have O20 := O6.keep K18 (ninS h1 nin0)
                                have O21 := O7.keep K18 (ninS h2 nin0)
                                have K22 := K8.trans K18 (allS (Or.inl (by simp)) all0)
                                have hv1 : prs g (ge 0) (ge 1) = some (-acc1) := by rw [prsE1, pr2, hF1, hR]; simp only [if_pos c187_2, if_neg c195]
                                refine w_iinc X d4_220 rfl (v' := (2 : Int32)) (by first | rfl | decide) (L' := #[.val (.ref a), .val (.ref ea), .val (.int (2 : Int32)), .val (.ref ia), .val (.int (2 : Int32)), .val (.int (ge 0)), .val (.int fi1), .val (.int ((ge 1) - fi1)), .val (.long acc1), .second, .val (.int x10_1), s11_1]) rfl (pc' := 223) rfl ?_
                                refine w_goto X d4_223 (by decide) (pc' := 3) (by decide) ?_
                                refine w_iload X d4_3 rfl (pc' := 5) rfl ?_
                                refine w_iloadN X d4_5 rfl (pc' := 6) rfl ?_
                                refine w_icmp_ge X d4_6 (by decide) (p1 := 226) (by decide) (p2 := 9) rfl (fun c6_3 => ?_) (fun c6_3 => False.elim (absurd c6_3 (by decide)))
                                refine w_iconst X d4_226 (v := (1 : Int32)) (by decide) (pc' := 227) rfl ?_
                                exact w_retZ X rfl d4_227 (by decide) (by decide) (by decide) ⟨_, _, rfl, K22, O19, Or.inr ⟨_, _, hv0, hv1, rfl, rfl, rfl⟩⟩
                              · -- c195 not taken
                                refine w_iconst X d4_199 (v := (0 : Int32)) (by decide) (pc' := 200) rfl ?_
                                have hp : prs g (ge 0) (ge 1) = none := by rw [prsE1, pr2, hF1, hR]; simp only [if_pos c187_2, if_pos c195]
                                exact w_retZ X rfl d4_200 (by decide) (by decide) (by decide) ⟨_, _, rfl, K8, O5, Or.inl ⟨Or.inr hp, rfl⟩⟩
                          | succ q ih =>
                            intro T X k1 acc1 x10_1 s11_1 h_s11_1 hx10 hsum hL
                            have hE1 := hb1'
                            have hG1 := hf1
                            refine w_iload X d4_107 rfl (pc' := 109) rfl ?_
                            refine w_aloadN X d4_109 rfl rfl (pc' := 110) rfl ?_
                            refine w_iload X d4_110 rfl (pc' := 112) rfl ?_
                            refine w_iaload X (i := 1) O7 d4_112 (by decide) (by decide) rfl (pc' := 113) rfl ?_
                            refine w_icmp_ge X d4_113 (by decide) (p1 := 183) (by decide) (p2 := 116) rfl (fun c113_2 => False.elim (absurd (show x10_1 < (ge 1) by rw [Int32.lt_iff_toInt_lt]; omega) c113_2)) (fun c113_2 => ?_)
                            refine w_aloadN X d4_116 rfl rfl (pc' := 117) rfl ?_
                            refine w_iload X d4_117 rfl (pc' := 119) rfl ?_
                            refine w_baload X (i := k1) O6 d4_119 hx10 (by omega) rfl (pc' := 120) rfl ?_
                            refine w_bipush X d4_120 (v := (48 : Int32)) (by decide) (pc' := 122) rfl ?_
                            refine w_isub X d4_122 (pc' := 123) rfl ?_
                            refine w_istore X d4_123 (L' := #[.val (.ref a), .val (.ref ea), .val (.int (2 : Int32)), .val (.ref ia), .val (.int (1 : Int32)), .val (.int (ge 0)), .val (.int fi1), .val (.int ((ge 1) - fi1)), .val (.long acc1), .second, .val (.int x10_1), .val (.int ((g k1) - (48 : Int32)))]) (XS.store1 (o := s11_1) rfl h_s11_1 rfl) (pc' := 125) rfl ?_
                            refine w_iload X d4_125 rfl (pc' := 127) rfl ?_
                            refine w_if_lt X d4_127 (by decide) (p1 := 137) (by decide) (p2 := 130) rfl (fun c127 => ?_) (fun c127 => ?_)
                            · -- c127 taken
                              refine w_iconst X d4_137 (v := (0 : Int32)) (by decide) (pc' := 138) rfl ?_
                              have hp : prs g (ge 0) (ge 1) = none := by rw [prsE1, pr2, hF1, ← hL, lp]; simp only [if_pos c127]
                              exact w_retZ X rfl d4_138 (by decide) (by decide) (by decide) ⟨_, _, rfl, K8, O5, Or.inl ⟨Or.inr hp, rfl⟩⟩
                            · -- c127 not taken
                              refine w_iload X d4_130 rfl (pc' := 132) rfl ?_
                              refine w_bipush X d4_132 (v := (9 : Int32)) (by decide) (pc' := 134) rfl ?_
                              refine w_icmp_le X d4_134 (by decide) (p1 := 139) (by decide) (p2 := 137) rfl (fun c134 => ?_) (fun c134 => ?_)
                              · -- c134 taken
                                refine w_iload X d4_139 rfl (pc' := 141) rfl ?_
                                refine w_bipush X d4_141 (v := (18 : Int32)) (by decide) (pc' := 143) rfl ?_
                                refine w_icmp_le X d4_143 (by decide) (p1 := 165) (by decide) (p2 := 146) rfl (fun c143 => ?_) (fun c143 => ?_)
                                · -- c143 taken
                                  refine w_ldcJ X d4_165 (tw36 hw) (pc' := 168) rfl ?_
                                  refine w_lload X d4_168 rfl (pc' := 170) rfl ?_
                                  refine w_lmul X d4_170 (pc' := 171) rfl ?_
                                  refine w_iload X d4_171 rfl (pc' := 173) rfl ?_
                                  refine w_i2l X d4_173 (pc' := 174) rfl ?_
                                  refine w_lsub X d4_174 (pc' := 175) rfl ?_
                                  refine w_lstore X d4_175 (L' := #[.val (.ref a), .val (.ref ea), .val (.int (2 : Int32)), .val (.ref ia), .val (.int (1 : Int32)), .val (.int (ge 0)), .val (.int fi1), .val (.int ((ge 1) - fi1)), .val (.long (((10 : Int64) * acc1) - (((g k1) - (48 : Int32))).toInt64)), .second, .val (.int x10_1), .val (.int ((g k1) - (48 : Int32)))]) rfl (pc' := 177) rfl ?_
                                  refine w_iinc X d4_177 rfl (v' := (x10_1 + (1 : Int32))) (by first | rfl | decide) (L' := #[.val (.ref a), .val (.ref ea), .val (.int (2 : Int32)), .val (.ref ia), .val (.int (1 : Int32)), .val (.int (ge 0)), .val (.int fi1), .val (.int ((ge 1) - fi1)), .val (.long (((10 : Int64) * acc1) - (((g k1) - (48 : Int32))).toInt64)), .second, .val (.int (x10_1 + (1 : Int32))), .val (.int ((g k1) - (48 : Int32)))]) rfl (pc' := 180) rfl ?_
                                  refine w_goto X d4_180 (by decide) (pc' := 107) (by decide) ?_
                                  exact ih T X (k1 + 1) (((10 : Int64) * acc1) - (((g k1) - (48 : Int32))).toInt64) (x10_1 + 1) (.val (.int ((g k1) - (48 : Int32)))) (One.val rfl) (x_succ hx10 (show k1 < 22 by omega) (by decide)) (by omega) (by rw [← hL, lp]; simp only [if_neg c127, if_neg c134, if_neg c143])
                                · -- c143 not taken
                                  refine w_lload X d4_146 rfl (pc' := 148) rfl ?_
                                  refine w_ldcJ X d4_148 (tw38 hw) (pc' := 151) rfl ?_
                                  refine w_iload X d4_151 rfl (pc' := 153) rfl ?_
                                  refine w_i2l X d4_153 (pc' := 154) rfl ?_
                                  refine w_ladd X d4_154 (pc' := 155) rfl ?_
                                  refine w_ldcJ X d4_155 (tw36 hw) (pc' := 158) rfl ?_
                                  refine w_ldiv X d4_158 (by decide) (pc' := 159) rfl ?_
                                  refine w_lcmp_ge X d4_159 (p0 := 160) rfl d4_160 (by decide) (p1 := 165) (by decide) (p2 := 163) rfl (fun c159 => ?_) (fun c159 => ?_)
                                  · -- c159 taken
                                    refine w_ldcJ X d4_165 (tw36 hw) (pc' := 168) rfl ?_
                                    refine w_lload X d4_168 rfl (pc' := 170) rfl ?_
                                    refine w_lmul X d4_170 (pc' := 171) rfl ?_
                                    refine w_iload X d4_171 rfl (pc' := 173) rfl ?_
                                    refine w_i2l X d4_173 (pc' := 174) rfl ?_
                                    refine w_lsub X d4_174 (pc' := 175) rfl ?_
                                    refine w_lstore X d4_175 (L' := #[.val (.ref a), .val (.ref ea), .val (.int (2 : Int32)), .val (.ref ia), .val (.int (1 : Int32)), .val (.int (ge 0)), .val (.int fi1), .val (.int ((ge 1) - fi1)), .val (.long (((10 : Int64) * acc1) - (((g k1) - (48 : Int32))).toInt64)), .second, .val (.int x10_1), .val (.int ((g k1) - (48 : Int32)))]) rfl (pc' := 177) rfl ?_
                                    refine w_iinc X d4_177 rfl (v' := (x10_1 + (1 : Int32))) (by first | rfl | decide) (L' := #[.val (.ref a), .val (.ref ea), .val (.int (2 : Int32)), .val (.ref ia), .val (.int (1 : Int32)), .val (.int (ge 0)), .val (.int fi1), .val (.int ((ge 1) - fi1)), .val (.long (((10 : Int64) * acc1) - (((g k1) - (48 : Int32))).toInt64)), .second, .val (.int (x10_1 + (1 : Int32))), .val (.int ((g k1) - (48 : Int32)))]) rfl (pc' := 180) rfl ?_
                                    refine w_goto X d4_180 (by decide) (pc' := 107) (by decide) ?_
                                    exact ih T X (k1 + 1) (((10 : Int64) * acc1) - (((g k1) - (48 : Int32))).toInt64) (x10_1 + 1) (.val (.int ((g k1) - (48 : Int32)))) (One.val rfl) (x_succ hx10 (show k1 < 22 by omega) (by decide)) (by omega) (by rw [← hL, lp]; simp only [if_neg c127, if_neg c134, if_pos c143, if_neg c159])
                                  · -- c159 not taken
                                    refine w_iconst X d4_163 (v := (0 : Int32)) (by decide) (pc' := 164) rfl ?_
                                    have hp : prs g (ge 0) (ge 1) = none := by rw [prsE1, pr2, hF1, ← hL, lp]; simp only [if_neg c127, if_neg c134, if_pos c143, if_pos c159]
                                    exact w_retZ X rfl d4_164 (by decide) (by decide) (by decide) ⟨_, _, rfl, K8, O5, Or.inl ⟨Or.inr hp, rfl⟩⟩
                              · -- c134 not taken
                                refine w_iconst X d4_137 (v := (0 : Int32)) (by decide) (pc' := 138) rfl ?_
                                have hp : prs g (ge 0) (ge 1) = none := by rw [prsE1, pr2, hF1, ← hL, lp]; simp only [if_neg c127, if_pos c134]
                                exact w_retZ X rfl d4_138 (by decide) (by decide) (by decide) ⟨_, _, rfl, K8, O5, Or.inl ⟨Or.inr hp, rfl⟩⟩
                        exact LP ((ge 1) - fi1).toInt.toNat T X fi1.toInt.toNat 0 fi1 (s11_0) h_s11_0 (nn_at hf1.2.1) (by have := hf1; omega) rfl
                      refine w_aloadN X d4_76 rfl rfl (pc' := 77) rfl ?_
                      refine w_iload X d4_77 rfl (pc' := 79) rfl ?_
                      refine w_baload X (i := (fi1.toInt.toNat)) O6 d4_79 (nn_at hf1.2.1) (by have := ne_int c66_2; have := hf1; have := hb1'; omega) rfl (pc' := 80) rfl ?_
                      refine w_bipush X d4_80 (v := (48 : Int32)) (by decide) (pc' := 82) rfl ?_
                      refine w_icmp_ne X d4_82 (by decide) (p1 := 100) (by decide) (p2 := 85) rfl (fun c82 => ?_) (fun c82 => ?_)
                      · -- c82 taken
                        exact J10 T X (by rw [prs, hF1]; simp only [if_neg c66_2, if_neg c73_2, if_neg c82])
                      · -- c82 not taken
                        refine w_iload X d4_85 rfl (pc' := 87) rfl ?_
                        refine w_iconst X d4_87 (v := (1 : Int32)) (by decide) (pc' := 88) rfl ?_
                        refine w_icmp_gt X d4_88 (by decide) (p1 := 98) (by decide) (p2 := 91) rfl (fun c88 => ?_) (fun c88 => ?_)
                        · -- c88 taken
                          refine w_iconst X d4_98 (v := (0 : Int32)) (by decide) (pc' := 99) rfl ?_
                          have hp : prs g (ge 0) (ge 1) = none := by rw [prs, hF1]; simp only [if_neg c66_2, if_neg c73_2, if_pos c82, if_pos c88]
                          exact w_retZ X rfl d4_99 (by decide) (by decide) (by decide) ⟨_, _, rfl, K8, O5, Or.inl ⟨Or.inr hp, rfl⟩⟩
                        · -- c88 not taken
                          refine w_iload X d4_91 rfl (pc' := 93) rfl ?_
                          refine w_iload X d4_93 rfl (pc' := 95) rfl ?_
                          refine w_icmp_le X d4_95 (by decide) (p1 := 100) (by decide) (p2 := 98) rfl (fun c95 => ?_) (fun c95 => ?_)
                          · -- c95 taken
                            exact J10 T X (by rw [prs, hF1]; simp only [if_neg c66_2, if_neg c73_2, if_pos c82, if_neg c88, if_neg c95])
                          · -- c95 not taken
                            refine w_iconst X d4_98 (v := (0 : Int32)) (by decide) (pc' := 99) rfl ?_
                            have hp : prs g (ge 0) (ge 1) = none := by rw [prs, hF1]; simp only [if_neg c66_2, if_neg c73_2, if_pos c82, if_neg c88, if_pos c95]
                            exact w_retZ X rfl d4_99 (by decide) (by decide) (by decide) ⟨_, _, rfl, K8, O5, Or.inl ⟨Or.inr hp, rfl⟩⟩
                refine w_iload X d4_26 rfl (pc' := 28) rfl ?_
                refine w_aloadN X d4_28 rfl rfl (pc' := 29) rfl ?_
                refine w_iload X d4_29 rfl (pc' := 31) rfl ?_
                refine w_iaload X (i := 1) O7 d4_31 (by decide) (by decide) rfl (pc' := 32) rfl ?_
                refine w_icmp_ge X d4_32 (by decide) (p1 := 51) (by decide) (p2 := 35) rfl (fun c32 => ?_) (fun c32 => ?_)
                · -- c32 taken
                  refine w_iload X d4_51 rfl (pc' := 53) rfl ?_
                  exact J9 T X (ge 0) (by simp only [prF, if_neg c32])
                · -- c32 not taken
                  refine w_aloadN X d4_35 rfl rfl (pc' := 36) rfl ?_
                  refine w_iload X d4_36 rfl (pc' := 38) rfl ?_
                  refine w_baload X (i := ((ge 0).toInt.toNat)) O6 d4_38 (nn_at hb0) (lt22 c32 hb1' hb0) rfl (pc' := 39) rfl ?_
                  refine w_bipush X d4_39 (v := (45 : Int32)) (by decide) (pc' := 41) rfl ?_
                  refine w_icmp_ne X d4_41 (by decide) (p1 := 51) (by decide) (p2 := 44) rfl (fun c41 => ?_) (fun c41 => ?_)
                  · -- c41 taken
                    refine w_iload X d4_51 rfl (pc' := 53) rfl ?_
                    exact J9 T X (ge 0) (by simp only [prF, if_pos c32, if_neg c41])
                  · -- c41 not taken
                    refine w_iload X d4_44 rfl (pc' := 46) rfl ?_
                    refine w_iconst X d4_46 (v := (1 : Int32)) (by decide) (pc' := 47) rfl ?_
                    refine w_iadd X d4_47 (pc' := 48) rfl ?_
                    refine w_goto X d4_48 (by decide) (pc' := 53) (by decide) ?_
                    exact J9 T X ((ge 0) + (1 : Int32)) (by simp only [prF, if_pos c32, if_pos c41])
              · -- c187 not taken
                refine w_lload X d4_190 rfl (pc' := 192) rfl ?_
                refine w_ldcJ X d4_192 (tw38 hw) (pc' := 195) rfl ?_
                refine w_lcmp_ne X d4_195 (p0 := 196) rfl d4_196 (by decide) (p1 := 201) (by decide) (p2 := 199) rfl (fun c195 => ?_) (fun c195 => ?_)
                · -- c195 taken
                  refine w_aloadN X d4_201 rfl rfl (pc' := 202) rfl ?_
                  refine w_iload X d4_202 rfl (pc' := 204) rfl ?_
                  refine w_iload X d4_204 rfl (pc' := 206) rfl ?_
                  refine w_iload X d4_206 rfl (pc' := 208) rfl ?_
                  refine w_icmp_le X d4_208 (by decide) (p1 := 216) (by decide) (p2 := 211) rfl (fun c208 => ?_) (fun c208 => False.elim (absurd c208 (by rw [c187]; exact fun q => Int32.lt_irrefl q)))
                  refine w_lload X d4_216 rfl (pc' := 218) rfl ?_
                  refine w_lneg X d4_218 (pc' := 219) rfl ?_
                  refine w_lastore X (i := 0) (x' := (-acc0)) V gia d4_219 (by decide) (by decide) rfl (pc' := 220) rfl ?_; intro T h23 X K24 O25
                  have O26 := O.keep K24 (ninS h1 nin0)
                  have O27 := E.keep K24 (ninS h2 nin0)
                  have K28 := K.trans K24 (allS (Or.inl (by simp)) all0)
                  have hv0 : prs g (0 : Int32) (ge 0) = some (-acc0) := by rw [prsE0, pr2, hF0, hR]; simp only [if_pos c187, if_neg c195]
                  refine w_iinc X d4_220 rfl (v' := (1 : Int32)) (by first | rfl | decide) (L' := #[.val (.ref a), .val (.ref ea), .val (.int (2 : Int32)), .val (.ref ia), .val (.int (1 : Int32)), .val (.int (0 : Int32)), .val (.int fi0), .val (.int ((ge 0) - fi0)), .val (.long acc0), .second, .val (.int x10_0), s11_0]) rfl (pc' := 223) rfl ?_
                  refine w_goto X d4_223 (by decide) (pc' := 3) (by decide) ?_
                  refine w_iload X d4_3 rfl (pc' := 5) rfl ?_
                  refine w_iloadN X d4_5 rfl (pc' := 6) rfl ?_
                  refine w_icmp_ge X d4_6 (by decide) (p1 := 226) (by decide) (p2 := 9) rfl (fun c6_2 => False.elim (absurd c6_2 (by decide))) (fun c6_2 => ?_)
                  refine w_iload X d4_9 rfl (pc' := 11) rfl ?_
                  refine w_if_ne X d4_11 (by decide) (p1 := 18) (by decide) (p2 := 14) rfl (fun c11_2 => ?_) (fun c11_2 => False.elim (absurd c11_2 (by decide)))
                  refine w_aloadN X d4_18 rfl rfl (pc' := 19) rfl ?_
                  refine w_iload X d4_19 rfl (pc' := 21) rfl ?_
                  refine w_iconst X d4_21 (v := (1 : Int32)) (by decide) (pc' := 22) rfl ?_
                  refine w_isub X d4_22 (pc' := 23) rfl ?_
                  refine w_iaload X (i := 0) O27 d4_23 (by decide) (by decide) rfl (pc' := 24) rfl ?_
                  refine w_istore X d4_24 (L' := #[.val (.ref a), .val (.ref ea), .val (.int (2 : Int32)), .val (.ref ia), .val (.int (1 : Int32)), .val (.int (ge 0)), .val (.int fi0), .val (.int ((ge 0) - fi0)), .val (.long acc0), .second, .val (.int x10_0), s11_0]) rfl (pc' := 26) rfl ?_
                  have J29 : ∀ T, St p l e ({ frames := 0, cells := 0, slots := 0, locals := 0 } : Room) s m #[(.ref a), (.ref ea), (.int (2 : Int32)), (.ref ia)] below meth c Z n0 (⟨"com/example/varve/varve/column/Digits", "of", "([B[II[J)Z"⟩ : MethodName) prog_40_method_2_code 12 (some .boolean) T h23 0 0 → ∀ (fi1 : Int32), (prF g (ge 0) (ge 1) = fi1) → WP p e below s n0 ({ frames := 0, cells := 0, slots := 0, locals := 0 } : Room).cells ({ frames := 0, cells := 0, slots := 0, locals := 0 } : Room).slots (fun v h => ∃ r g', v = some (.int r) ∧ Keep h0 h [ia] ∧ AJ Z h ia 2 g' ∧ OF g ge gi 2 r g') T (mkF m 53 #[.val (.ref a), .val (.ref ea), .val (.int (2 : Int32)), .val (.ref ia), .val (.int (1 : Int32)), .val (.int (ge 0)), .val (.int fi0), .val (.int ((ge 0) - fi0)), .val (.long acc0), .second, .val (.int x10_0), s11_0] [(.int fi1)]) := by
                    intro T X fi1 hF1
                    have hf1 := first_int hF1 hb0 hbb hb1'
                    refine w_istore X d4_53 (L' := #[.val (.ref a), .val (.ref ea), .val (.int (2 : Int32)), .val (.ref ia), .val (.int (1 : Int32)), .val (.int (ge 0)), .val (.int fi1), .val (.int ((ge 0) - fi0)), .val (.long acc0), .second, .val (.int x10_0), s11_0]) rfl (pc' := 55) rfl ?_
                    refine w_aloadN X d4_55 rfl rfl (pc' := 56) rfl ?_
                    refine w_iload X d4_56 rfl (pc' := 58) rfl ?_
                    refine w_iaload X (i := 1) O27 d4_58 (by decide) (by decide) rfl (pc' := 59) rfl ?_
                    refine w_iload X d4_59 rfl (pc' := 61) rfl ?_
                    refine w_isub X d4_61 (pc' := 62) rfl ?_
                    refine w_istore X d4_62 (L' := #[.val (.ref a), .val (.ref ea), .val (.int (2 : Int32)), .val (.ref ia), .val (.int (1 : Int32)), .val (.int (ge 0)), .val (.int fi1), .val (.int ((ge 1) - fi1)), .val (.long acc0), .second, .val (.int x10_0), s11_0]) rfl (pc' := 64) rfl ?_
                    refine w_iload X d4_64 rfl (pc' := 66) rfl ?_
                    refine w_if_eq X d4_66 (by decide) (p1 := 98) (by decide) (p2 := 69) rfl (fun c66_2 => ?_) (fun c66_2 => ?_)
                    · -- c66_2 taken
                      refine w_iconst X d4_98 (v := (0 : Int32)) (by decide) (pc' := 99) rfl ?_
                      have hp : prs g (ge 0) (ge 1) = none := by rw [prs, hF1]; simp only [if_pos c66_2]
                      exact w_retZ X rfl d4_99 (by decide) (by decide) (by decide) ⟨_, _, rfl, K28, O25, Or.inl ⟨Or.inr hp, rfl⟩⟩
                    · -- c66_2 not taken
                      refine w_iload X d4_69 rfl (pc' := 71) rfl ?_
                      refine w_bipush X d4_71 (v := (19 : Int32)) (by decide) (pc' := 73) rfl ?_
                      refine w_icmp_gt X d4_73 (by decide) (p1 := 98) (by decide) (p2 := 76) rfl (fun c73_2 => ?_) (fun c73_2 => ?_)
                      · -- c73_2 taken
                        refine w_iconst X d4_98 (v := (0 : Int32)) (by decide) (pc' := 99) rfl ?_
                        have hp : prs g (ge 0) (ge 1) = none := by rw [prs, hF1]; simp only [if_neg c66_2, if_pos c73_2]
                        exact w_retZ X rfl d4_99 (by decide) (by decide) (by decide) ⟨_, _, rfl, K28, O25, Or.inl ⟨Or.inr hp, rfl⟩⟩
                      · -- c73_2 not taken
                        have J30 : ∀ T, St p l e ({ frames := 0, cells := 0, slots := 0, locals := 0 } : Room) s m #[(.ref a), (.ref ea), (.int (2 : Int32)), (.ref ia)] below meth c Z n0 (⟨"com/example/varve/varve/column/Digits", "of", "([B[II[J)Z"⟩ : MethodName) prog_40_method_2_code 12 (some .boolean) T h23 0 0 → (prs g (ge 0) (ge 1) = pr2 g (ge 0) (ge 1)) → WP p e below s n0 ({ frames := 0, cells := 0, slots := 0, locals := 0 } : Room).cells ({ frames := 0, cells := 0, slots := 0, locals := 0 } : Room).slots (fun v h => ∃ r g', v = some (.int r) ∧ Keep h0 h [ia] ∧ AJ Z h ia 2 g' ∧ OF g ge gi 2 r g') T (mkF m 100 #[.val (.ref a), .val (.ref ea), .val (.int (2 : Int32)), .val (.ref ia), .val (.int (1 : Int32)), .val (.int (ge 0)), .val (.int fi1), .val (.int ((ge 1) - fi1)), .val (.long acc0), .second, .val (.int x10_0), s11_0] []) := by
                          intro T X prsE1
                          refine w_lconst X d4_100 (v := (0 : Int64)) (by decide) (pc' := 101) rfl ?_
                          refine w_lstore X d4_101 (L' := #[.val (.ref a), .val (.ref ea), .val (.int (2 : Int32)), .val (.ref ia), .val (.int (1 : Int32)), .val (.int (ge 0)), .val (.int fi1), .val (.int ((ge 1) - fi1)), .val (.long (0 : Int64)), .second, .val (.int x10_0), s11_0]) rfl (pc' := 103) rfl ?_
                          refine w_iload X d4_103 rfl (pc' := 105) rfl ?_
                          refine w_istore X d4_105 (L' := #[.val (.ref a), .val (.ref ea), .val (.int (2 : Int32)), .val (.ref ia), .val (.int (1 : Int32)), .val (.int (ge 0)), .val (.int fi1), .val (.int ((ge 1) - fi1)), .val (.long (0 : Int64)), .second, .val (.int fi1), s11_0]) rfl (pc' := 107) rfl ?_
                          have LP : ∀ (q : Nat) T, St p l e ({ frames := 0, cells := 0, slots := 0, locals := 0 } : Room) s m #[(.ref a), (.ref ea), (.int (2 : Int32)), (.ref ia)] below meth c Z n0 (⟨"com/example/varve/varve/column/Digits", "of", "([B[II[J)Z"⟩ : MethodName) prog_40_method_2_code 12 (some .boolean) T h23 0 0 → ∀ (k1 : Nat) (acc1 : Int64) (x10_1 : Int32) (s11_1 : Slot), One s11_1 → x10_1.toInt = k1 → k1 + q = (ge 1).toInt.toNat → lp g ((ge 1) - fi1) k1 q acc1 = lp g ((ge 1) - fi1) fi1.toInt.toNat ((ge 1) - fi1).toInt.toNat 0 → WP p e below s n0 ({ frames := 0, cells := 0, slots := 0, locals := 0 } : Room).cells ({ frames := 0, cells := 0, slots := 0, locals := 0 } : Room).slots (fun v h => ∃ r g', v = some (.int r) ∧ Keep h0 h [ia] ∧ AJ Z h ia 2 g' ∧ OF g ge gi 2 r g') T (mkF m 107 #[.val (.ref a), .val (.ref ea), .val (.int (2 : Int32)), .val (.ref ia), .val (.int (1 : Int32)), .val (.int (ge 0)), .val (.int fi1), .val (.int ((ge 1) - fi1)), .val (.long acc1), .second, .val (.int x10_1), s11_1] []) := by
                            intro q
                            induction q with
                            | zero =>
                              intro T X k1 acc1 x10_1 s11_1 h_s11_1 hx10 hsum hL
                              have hE1 := hb1'
                              have hG1 := hf1
                              have hR : lp g ((ge 1) - fi1) fi1.toInt.toNat ((ge 1) - fi1).toInt.toNat 0 = some acc1 := hL.symm
                              refine w_iload X d4_107 rfl (pc' := 109) rfl ?_
                              refine w_aloadN X d4_109 rfl rfl (pc' := 110) rfl ?_
                              refine w_iload X d4_110 rfl (pc' := 112) rfl ?_
                              refine w_iaload X (i := 1) O27 d4_112 (by decide) (by decide) rfl (pc' := 113) rfl ?_
                              refine w_icmp_ge X d4_113 (by decide) (p1 := 183) (by decide) (p2 := 116) rfl (fun c113_2 => ?_) (fun c113_2 => False.elim (absurd c113_2 (by rw [Int32.lt_iff_toInt_lt]; omega)))
                              refine w_iload X d4_183 rfl (pc' := 185) rfl ?_
                              refine w_iload X d4_185 rfl (pc' := 187) rfl ?_
                              refine w_icmp_ne X d4_187 (by decide) (p1 := 201) (by decide) (p2 := 190) rfl (fun c187_2 => ?_) (fun c187_2 => ?_)
                              · -- c187_2 taken
                                refine w_aloadN X d4_201 rfl rfl (pc' := 202) rfl ?_
                                refine w_iload X d4_202 rfl (pc' := 204) rfl ?_
                                refine w_iload X d4_204 rfl (pc' := 206) rfl ?_
                                refine w_iload X d4_206 rfl (pc' := 208) rfl ?_
                                refine w_icmp_le X d4_208 (by decide) (p1 := 216) (by decide) (p2 := 211) rfl (fun c208_2 => False.elim (c208_2 (hf1.1.resolve_left c187_2))) (fun c208_2 => ?_)
                                refine w_lload X d4_211 rfl (pc' := 213) rfl ?_
                                refine w_goto X d4_213 (by decide) (pc' := 219) (by decide) ?_
                                refine w_lastore X (i := 1) (x' := acc1) O25 gia d4_219 (by decide) (by decide) rfl (pc' := 220) rfl ?_; intro T h31 X K32 O33
                                have O34 := O26.keep K32 (ninS h1 nin0)
                                have O35 := O27.keep K32 (ninS h2 nin0)
                                have K36 := K28.trans K32 (allS (Or.inl (by simp)) all0)
                                have hv1 : prs g (ge 0) (ge 1) = some acc1 := by rw [prsE1, pr2, hF1, hR]; simp only [if_neg c187_2]
                                refine w_iinc X d4_220 rfl (v' := (2 : Int32)) (by first | rfl | decide) (L' := #[.val (.ref a), .val (.ref ea), .val (.int (2 : Int32)), .val (.ref ia), .val (.int (2 : Int32)), .val (.int (ge 0)), .val (.int fi1), .val (.int ((ge 1) - fi1)), .val (.long acc1), .second, .val (.int x10_1), s11_1]) rfl (pc' := 223) rfl ?_
                                refine w_goto X d4_223 (by decide) (pc' := 3) (by decide) ?_
                                refine w_iload X d4_3 rfl (pc' := 5) rfl ?_
                                refine w_iloadN X d4_5 rfl (pc' := 6) rfl ?_
                                refine w_icmp_ge X d4_6 (by decide) (p1 := 226) (by decide) (p2 := 9) rfl (fun c6_3 => ?_) (fun c6_3 => False.elim (absurd c6_3 (by decide)))
                                refine w_iconst X d4_226 (v := (1 : Int32)) (by decide) (pc' := 227) rfl ?_
                                exact w_retZ X rfl d4_227 (by decide) (by decide) (by decide) ⟨_, _, rfl, K36, O33, Or.inr ⟨_, _, hv0, hv1, rfl, rfl, rfl⟩⟩
                              · -- c187_2 not taken
                                refine w_lload X d4_190 rfl (pc' := 192) rfl ?_
                                refine w_ldcJ X d4_192 (tw38 hw) (pc' := 195) rfl ?_
                                refine w_lcmp_ne X d4_195 (p0 := 196) rfl d4_196 (by decide) (p1 := 201) (by decide) (p2 := 199) rfl (fun c195_2 => ?_) (fun c195_2 => ?_)
                                · -- c195_2 taken
                                  refine w_aloadN X d4_201 rfl rfl (pc' := 202) rfl ?_
                                  refine w_iload X d4_202 rfl (pc' := 204) rfl ?_
                                  refine w_iload X d4_204 rfl (pc' := 206) rfl ?_
                                  refine w_iload X d4_206 rfl (pc' := 208) rfl ?_
                                  refine w_icmp_le X d4_208 (by decide) (p1 := 216) (by decide) (p2 := 211) rfl (fun c208_2 => ?_) (fun c208_2 => False.elim (absurd c208_2 (by rw [c187_2]; exact fun q => Int32.lt_irrefl q)))
                                  refine w_lload X d4_216 rfl (pc' := 218) rfl ?_
                                  refine w_lneg X d4_218 (pc' := 219) rfl ?_
                                  refine w_lastore X (i := 1) (x' := (-acc1)) O25 gia d4_219 (by decide) (by decide) rfl (pc' := 220) rfl ?_; intro T h37 X K38 O39
                                  have O40 := O26.keep K38 (ninS h1 nin0)
                                  have O41 := O27.keep K38 (ninS h2 nin0)
                                  have K42 := K28.trans K38 (allS (Or.inl (by simp)) all0)
                                  have hv1 : prs g (ge 0) (ge 1) = some (-acc1) := by rw [prsE1, pr2, hF1, hR]; simp only [if_pos c187_2, if_neg c195_2]
                                  refine w_iinc X d4_220 rfl (v' := (2 : Int32)) (by first | rfl | decide) (L' := #[.val (.ref a), .val (.ref ea), .val (.int (2 : Int32)), .val (.ref ia), .val (.int (2 : Int32)), .val (.int (ge 0)), .val (.int fi1), .val (.int ((ge 1) - fi1)), .val (.long acc1), .second, .val (.int x10_1), s11_1]) rfl (pc' := 223) rfl ?_
                                  refine w_goto X d4_223 (by decide) (pc' := 3) (by decide) ?_
                                  refine w_iload X d4_3 rfl (pc' := 5) rfl ?_
                                  refine w_iloadN X d4_5 rfl (pc' := 6) rfl ?_
                                  refine w_icmp_ge X d4_6 (by decide) (p1 := 226) (by decide) (p2 := 9) rfl (fun c6_3 => ?_) (fun c6_3 => False.elim (absurd c6_3 (by decide)))
                                  refine w_iconst X d4_226 (v := (1 : Int32)) (by decide) (pc' := 227) rfl ?_
                                  exact w_retZ X rfl d4_227 (by decide) (by decide) (by decide) ⟨_, _, rfl, K42, O39, Or.inr ⟨_, _, hv0, hv1, rfl, rfl, rfl⟩⟩
                                · -- c195_2 not taken
                                  refine w_iconst X d4_199 (v := (0 : Int32)) (by decide) (pc' := 200) rfl ?_
                                  have hp : prs g (ge 0) (ge 1) = none := by rw [prsE1, pr2, hF1, hR]; simp only [if_pos c187_2, if_pos c195_2]
                                  exact w_retZ X rfl d4_200 (by decide) (by decide) (by decide) ⟨_, _, rfl, K28, O25, Or.inl ⟨Or.inr hp, rfl⟩⟩
                            | succ q ih =>
                              intro T X k1 acc1 x10_1 s11_1 h_s11_1 hx10 hsum hL
                              have hE1 := hb1'
                              have hG1 := hf1
                              refine w_iload X d4_107 rfl (pc' := 109) rfl ?_
                              refine w_aloadN X d4_109 rfl rfl (pc' := 110) rfl ?_
                              refine w_iload X d4_110 rfl (pc' := 112) rfl ?_
                              refine w_iaload X (i := 1) O27 d4_112 (by decide) (by decide) rfl (pc' := 113) rfl ?_
                              refine w_icmp_ge X d4_113 (by decide) (p1 := 183) (by decide) (p2 := 116) rfl (fun c113_2 => False.elim (absurd (show x10_1 < (ge 1) by rw [Int32.lt_iff_toInt_lt]; omega) c113_2)) (fun c113_2 => ?_)
                              refine w_aloadN X d4_116 rfl rfl (pc' := 117) rfl ?_
                              refine w_iload X d4_117 rfl (pc' := 119) rfl ?_
                              refine w_baload X (i := k1) O26 d4_119 hx10 (by omega) rfl (pc' := 120) rfl ?_
                              refine w_bipush X d4_120 (v := (48 : Int32)) (by decide) (pc' := 122) rfl ?_
                              refine w_isub X d4_122 (pc' := 123) rfl ?_
                              refine w_istore X d4_123 (L' := #[.val (.ref a), .val (.ref ea), .val (.int (2 : Int32)), .val (.ref ia), .val (.int (1 : Int32)), .val (.int (ge 0)), .val (.int fi1), .val (.int ((ge 1) - fi1)), .val (.long acc1), .second, .val (.int x10_1), .val (.int ((g k1) - (48 : Int32)))]) (XS.store1 (o := s11_1) rfl h_s11_1 rfl) (pc' := 125) rfl ?_
                              refine w_iload X d4_125 rfl (pc' := 127) rfl ?_
                              refine w_if_lt X d4_127 (by decide) (p1 := 137) (by decide) (p2 := 130) rfl (fun c127 => ?_) (fun c127 => ?_)
                              · -- c127 taken
                                refine w_iconst X d4_137 (v := (0 : Int32)) (by decide) (pc' := 138) rfl ?_
                                have hp : prs g (ge 0) (ge 1) = none := by rw [prsE1, pr2, hF1, ← hL, lp]; simp only [if_pos c127]
                                exact w_retZ X rfl d4_138 (by decide) (by decide) (by decide) ⟨_, _, rfl, K28, O25, Or.inl ⟨Or.inr hp, rfl⟩⟩
                              · -- c127 not taken
                                refine w_iload X d4_130 rfl (pc' := 132) rfl ?_
                                refine w_bipush X d4_132 (v := (9 : Int32)) (by decide) (pc' := 134) rfl ?_
                                refine w_icmp_le X d4_134 (by decide) (p1 := 139) (by decide) (p2 := 137) rfl (fun c134 => ?_) (fun c134 => ?_)
                                · -- c134 taken
                                  refine w_iload X d4_139 rfl (pc' := 141) rfl ?_
                                  refine w_bipush X d4_141 (v := (18 : Int32)) (by decide) (pc' := 143) rfl ?_
                                  refine w_icmp_le X d4_143 (by decide) (p1 := 165) (by decide) (p2 := 146) rfl (fun c143 => ?_) (fun c143 => ?_)
                                  · -- c143 taken
                                    refine w_ldcJ X d4_165 (tw36 hw) (pc' := 168) rfl ?_
                                    refine w_lload X d4_168 rfl (pc' := 170) rfl ?_
                                    refine w_lmul X d4_170 (pc' := 171) rfl ?_
                                    refine w_iload X d4_171 rfl (pc' := 173) rfl ?_
                                    refine w_i2l X d4_173 (pc' := 174) rfl ?_
                                    refine w_lsub X d4_174 (pc' := 175) rfl ?_
                                    refine w_lstore X d4_175 (L' := #[.val (.ref a), .val (.ref ea), .val (.int (2 : Int32)), .val (.ref ia), .val (.int (1 : Int32)), .val (.int (ge 0)), .val (.int fi1), .val (.int ((ge 1) - fi1)), .val (.long (((10 : Int64) * acc1) - (((g k1) - (48 : Int32))).toInt64)), .second, .val (.int x10_1), .val (.int ((g k1) - (48 : Int32)))]) rfl (pc' := 177) rfl ?_
                                    refine w_iinc X d4_177 rfl (v' := (x10_1 + (1 : Int32))) (by first | rfl | decide) (L' := #[.val (.ref a), .val (.ref ea), .val (.int (2 : Int32)), .val (.ref ia), .val (.int (1 : Int32)), .val (.int (ge 0)), .val (.int fi1), .val (.int ((ge 1) - fi1)), .val (.long (((10 : Int64) * acc1) - (((g k1) - (48 : Int32))).toInt64)), .second, .val (.int (x10_1 + (1 : Int32))), .val (.int ((g k1) - (48 : Int32)))]) rfl (pc' := 180) rfl ?_
                                    refine w_goto X d4_180 (by decide) (pc' := 107) (by decide) ?_
                                    exact ih T X (k1 + 1) (((10 : Int64) * acc1) - (((g k1) - (48 : Int32))).toInt64) (x10_1 + 1) (.val (.int ((g k1) - (48 : Int32)))) (One.val rfl) (x_succ hx10 (show k1 < 22 by omega) (by decide)) (by omega) (by rw [← hL, lp]; simp only [if_neg c127, if_neg c134, if_neg c143])
                                  · -- c143 not taken
                                    refine w_lload X d4_146 rfl (pc' := 148) rfl ?_
                                    refine w_ldcJ X d4_148 (tw38 hw) (pc' := 151) rfl ?_
                                    refine w_iload X d4_151 rfl (pc' := 153) rfl ?_
                                    refine w_i2l X d4_153 (pc' := 154) rfl ?_
                                    refine w_ladd X d4_154 (pc' := 155) rfl ?_
                                    refine w_ldcJ X d4_155 (tw36 hw) (pc' := 158) rfl ?_
                                    refine w_ldiv X d4_158 (by decide) (pc' := 159) rfl ?_
                                    refine w_lcmp_ge X d4_159 (p0 := 160) rfl d4_160 (by decide) (p1 := 165) (by decide) (p2 := 163) rfl (fun c159 => ?_) (fun c159 => ?_)
                                    · -- c159 taken
                                      refine w_ldcJ X d4_165 (tw36 hw) (pc' := 168) rfl ?_
                                      refine w_lload X d4_168 rfl (pc' := 170) rfl ?_
                                      refine w_lmul X d4_170 (pc' := 171) rfl ?_
                                      refine w_iload X d4_171 rfl (pc' := 173) rfl ?_
                                      refine w_i2l X d4_173 (pc' := 174) rfl ?_
                                      refine w_lsub X d4_174 (pc' := 175) rfl ?_
                                      refine w_lstore X d4_175 (L' := #[.val (.ref a), .val (.ref ea), .val (.int (2 : Int32)), .val (.ref ia), .val (.int (1 : Int32)), .val (.int (ge 0)), .val (.int fi1), .val (.int ((ge 1) - fi1)), .val (.long (((10 : Int64) * acc1) - (((g k1) - (48 : Int32))).toInt64)), .second, .val (.int x10_1), .val (.int ((g k1) - (48 : Int32)))]) rfl (pc' := 177) rfl ?_
                                      refine w_iinc X d4_177 rfl (v' := (x10_1 + (1 : Int32))) (by first | rfl | decide) (L' := #[.val (.ref a), .val (.ref ea), .val (.int (2 : Int32)), .val (.ref ia), .val (.int (1 : Int32)), .val (.int (ge 0)), .val (.int fi1), .val (.int ((ge 1) - fi1)), .val (.long (((10 : Int64) * acc1) - (((g k1) - (48 : Int32))).toInt64)), .second, .val (.int (x10_1 + (1 : Int32))), .val (.int ((g k1) - (48 : Int32)))]) rfl (pc' := 180) rfl ?_
                                      refine w_goto X d4_180 (by decide) (pc' := 107) (by decide) ?_
                                      exact ih T X (k1 + 1) (((10 : Int64) * acc1) - (((g k1) - (48 : Int32))).toInt64) (x10_1 + 1) (.val (.int ((g k1) - (48 : Int32)))) (One.val rfl) (x_succ hx10 (show k1 < 22 by omega) (by decide)) (by omega) (by rw [← hL, lp]; simp only [if_neg c127, if_neg c134, if_pos c143, if_neg c159])
                                    · -- c159 not taken
                                      refine w_iconst X d4_163 (v := (0 : Int32)) (by decide) (pc' := 164) rfl ?_
                                      have hp : prs g (ge 0) (ge 1) = none := by rw [prsE1, pr2, hF1, ← hL, lp]; simp only [if_neg c127, if_neg c134, if_pos c143, if_pos c159]
                                      exact w_retZ X rfl d4_164 (by decide) (by decide) (by decide) ⟨_, _, rfl, K28, O25, Or.inl ⟨Or.inr hp, rfl⟩⟩
                                · -- c134 not taken
                                  refine w_iconst X d4_137 (v := (0 : Int32)) (by decide) (pc' := 138) rfl ?_
                                  have hp : prs g (ge 0) (ge 1) = none := by rw [prsE1, pr2, hF1, ← hL, lp]; simp only [if_neg c127, if_pos c134]
                                  exact w_retZ X rfl d4_138 (by decide) (by decide) (by decide) ⟨_, _, rfl, K28, O25, Or.inl ⟨Or.inr hp, rfl⟩⟩
                          exact LP ((ge 1) - fi1).toInt.toNat T X fi1.toInt.toNat 0 fi1 (s11_0) h_s11_0 (nn_at hf1.2.1) (by have := hf1; omega) rfl
                        refine w_aloadN X d4_76 rfl rfl (pc' := 77) rfl ?_
                        refine w_iload X d4_77 rfl (pc' := 79) rfl ?_
                        refine w_baload X (i := (fi1.toInt.toNat)) O26 d4_79 (nn_at hf1.2.1) (by have := ne_int c66_2; have := hf1; have := hb1'; omega) rfl (pc' := 80) rfl ?_
                        refine w_bipush X d4_80 (v := (48 : Int32)) (by decide) (pc' := 82) rfl ?_
                        refine w_icmp_ne X d4_82 (by decide) (p1 := 100) (by decide) (p2 := 85) rfl (fun c82 => ?_) (fun c82 => ?_)
                        · -- c82 taken
                          exact J30 T X (by rw [prs, hF1]; simp only [if_neg c66_2, if_neg c73_2, if_neg c82])
                        · -- c82 not taken
                          refine w_iload X d4_85 rfl (pc' := 87) rfl ?_
                          refine w_iconst X d4_87 (v := (1 : Int32)) (by decide) (pc' := 88) rfl ?_
                          refine w_icmp_gt X d4_88 (by decide) (p1 := 98) (by decide) (p2 := 91) rfl (fun c88 => ?_) (fun c88 => ?_)
                          · -- c88 taken
                            refine w_iconst X d4_98 (v := (0 : Int32)) (by decide) (pc' := 99) rfl ?_
                            have hp : prs g (ge 0) (ge 1) = none := by rw [prs, hF1]; simp only [if_neg c66_2, if_neg c73_2, if_pos c82, if_pos c88]
                            exact w_retZ X rfl d4_99 (by decide) (by decide) (by decide) ⟨_, _, rfl, K28, O25, Or.inl ⟨Or.inr hp, rfl⟩⟩
                          · -- c88 not taken
                            refine w_iload X d4_91 rfl (pc' := 93) rfl ?_
                            refine w_iload X d4_93 rfl (pc' := 95) rfl ?_
                            refine w_icmp_le X d4_95 (by decide) (p1 := 100) (by decide) (p2 := 98) rfl (fun c95 => ?_) (fun c95 => ?_)
                            · -- c95 taken
                              exact J30 T X (by rw [prs, hF1]; simp only [if_neg c66_2, if_neg c73_2, if_pos c82, if_neg c88, if_neg c95])
                            · -- c95 not taken
                              refine w_iconst X d4_98 (v := (0 : Int32)) (by decide) (pc' := 99) rfl ?_
                              have hp : prs g (ge 0) (ge 1) = none := by rw [prs, hF1]; simp only [if_neg c66_2, if_neg c73_2, if_pos c82, if_neg c88, if_pos c95]
                              exact w_retZ X rfl d4_99 (by decide) (by decide) (by decide) ⟨_, _, rfl, K28, O25, Or.inl ⟨Or.inr hp, rfl⟩⟩
                  refine w_iload X d4_26 rfl (pc' := 28) rfl ?_
                  refine w_aloadN X d4_28 rfl rfl (pc' := 29) rfl ?_
                  refine w_iload X d4_29 rfl (pc' := 31) rfl ?_
                  refine w_iaload X (i := 1) O27 d4_31 (by decide) (by decide) rfl (pc' := 32) rfl ?_
                  refine w_icmp_ge X d4_32 (by decide) (p1 := 51) (by decide) (p2 := 35) rfl (fun c32 => ?_) (fun c32 => ?_)
                  · -- c32 taken
                    refine w_iload X d4_51 rfl (pc' := 53) rfl ?_
                    exact J29 T X (ge 0) (by simp only [prF, if_neg c32])
                  · -- c32 not taken
                    refine w_aloadN X d4_35 rfl rfl (pc' := 36) rfl ?_
                    refine w_iload X d4_36 rfl (pc' := 38) rfl ?_
                    refine w_baload X (i := ((ge 0).toInt.toNat)) O26 d4_38 (nn_at hb0) (lt22 c32 hb1' hb0) rfl (pc' := 39) rfl ?_
                    refine w_bipush X d4_39 (v := (45 : Int32)) (by decide) (pc' := 41) rfl ?_
                    refine w_icmp_ne X d4_41 (by decide) (p1 := 51) (by decide) (p2 := 44) rfl (fun c41 => ?_) (fun c41 => ?_)
                    · -- c41 taken
                      refine w_iload X d4_51 rfl (pc' := 53) rfl ?_
                      exact J29 T X (ge 0) (by simp only [prF, if_pos c32, if_neg c41])
                    · -- c41 not taken
                      refine w_iload X d4_44 rfl (pc' := 46) rfl ?_
                      refine w_iconst X d4_46 (v := (1 : Int32)) (by decide) (pc' := 47) rfl ?_
                      refine w_iadd X d4_47 (pc' := 48) rfl ?_
                      refine w_goto X d4_48 (by decide) (pc' := 53) (by decide) ?_
                      exact J29 T X ((ge 0) + (1 : Int32)) (by simp only [prF, if_pos c32, if_pos c41])
                · -- c195 not taken
                  refine w_iconst X d4_199 (v := (0 : Int32)) (by decide) (pc' := 200) rfl ?_
                  have hp : prs g (0 : Int32) (ge 0) = none := by rw [prsE0, pr2, hF0, hR]; simp only [if_pos c187, if_pos c195]
                  exact w_retZ X rfl d4_200 (by decide) (by decide) (by decide) ⟨_, _, rfl, K, V, Or.inl ⟨Or.inl hp, rfl⟩⟩
            | succ q ih =>
              intro T X k0 acc0 x10_0 s11_0 h_s11_0 hx10 hsum hL
              have hE0 := hb0'
              have hG0 := hf0
              refine w_iload X d4_107 rfl (pc' := 109) rfl ?_
              refine w_aloadN X d4_109 rfl rfl (pc' := 110) rfl ?_
              refine w_iload X d4_110 rfl (pc' := 112) rfl ?_
              refine w_iaload X (i := 0) E d4_112 (by decide) (by decide) rfl (pc' := 113) rfl ?_
              refine w_icmp_ge X d4_113 (by decide) (p1 := 183) (by decide) (p2 := 116) rfl (fun c113 => False.elim (absurd (show x10_0 < (ge 0) by rw [Int32.lt_iff_toInt_lt]; omega) c113)) (fun c113 => ?_)
              refine w_aloadN X d4_116 rfl rfl (pc' := 117) rfl ?_
              refine w_iload X d4_117 rfl (pc' := 119) rfl ?_
              refine w_baload X (i := k0) O d4_119 hx10 (by omega) rfl (pc' := 120) rfl ?_
              refine w_bipush X d4_120 (v := (48 : Int32)) (by decide) (pc' := 122) rfl ?_
              refine w_isub X d4_122 (pc' := 123) rfl ?_
              refine w_istore X d4_123 (L' := #[.val (.ref a), .val (.ref ea), .val (.int (2 : Int32)), .val (.ref ia), .val (.int (0 : Int32)), .val (.int (0 : Int32)), .val (.int fi0), .val (.int ((ge 0) - fi0)), .val (.long acc0), .second, .val (.int x10_0), .val (.int ((g k0) - (48 : Int32)))]) (XS.store1 (o := s11_0) rfl h_s11_0 rfl) (pc' := 125) rfl ?_
              refine w_iload X d4_125 rfl (pc' := 127) rfl ?_
              refine w_if_lt X d4_127 (by decide) (p1 := 137) (by decide) (p2 := 130) rfl (fun c127 => ?_) (fun c127 => ?_)
              · -- c127 taken
                refine w_iconst X d4_137 (v := (0 : Int32)) (by decide) (pc' := 138) rfl ?_
                have hp : prs g (0 : Int32) (ge 0) = none := by rw [prsE0, pr2, hF0, ← hL, lp]; simp only [if_pos c127]
                exact w_retZ X rfl d4_138 (by decide) (by decide) (by decide) ⟨_, _, rfl, K, V, Or.inl ⟨Or.inl hp, rfl⟩⟩
              · -- c127 not taken
                refine w_iload X d4_130 rfl (pc' := 132) rfl ?_
                refine w_bipush X d4_132 (v := (9 : Int32)) (by decide) (pc' := 134) rfl ?_
                refine w_icmp_le X d4_134 (by decide) (p1 := 139) (by decide) (p2 := 137) rfl (fun c134 => ?_) (fun c134 => ?_)
                · -- c134 taken
                  refine w_iload X d4_139 rfl (pc' := 141) rfl ?_
                  refine w_bipush X d4_141 (v := (18 : Int32)) (by decide) (pc' := 143) rfl ?_
                  refine w_icmp_le X d4_143 (by decide) (p1 := 165) (by decide) (p2 := 146) rfl (fun c143 => ?_) (fun c143 => ?_)
                  · -- c143 taken
                    refine w_ldcJ X d4_165 (tw36 hw) (pc' := 168) rfl ?_
                    refine w_lload X d4_168 rfl (pc' := 170) rfl ?_
                    refine w_lmul X d4_170 (pc' := 171) rfl ?_
                    refine w_iload X d4_171 rfl (pc' := 173) rfl ?_
                    refine w_i2l X d4_173 (pc' := 174) rfl ?_
                    refine w_lsub X d4_174 (pc' := 175) rfl ?_
                    refine w_lstore X d4_175 (L' := #[.val (.ref a), .val (.ref ea), .val (.int (2 : Int32)), .val (.ref ia), .val (.int (0 : Int32)), .val (.int (0 : Int32)), .val (.int fi0), .val (.int ((ge 0) - fi0)), .val (.long (((10 : Int64) * acc0) - (((g k0) - (48 : Int32))).toInt64)), .second, .val (.int x10_0), .val (.int ((g k0) - (48 : Int32)))]) rfl (pc' := 177) rfl ?_
                    refine w_iinc X d4_177 rfl (v' := (x10_0 + (1 : Int32))) (by first | rfl | decide) (L' := #[.val (.ref a), .val (.ref ea), .val (.int (2 : Int32)), .val (.ref ia), .val (.int (0 : Int32)), .val (.int (0 : Int32)), .val (.int fi0), .val (.int ((ge 0) - fi0)), .val (.long (((10 : Int64) * acc0) - (((g k0) - (48 : Int32))).toInt64)), .second, .val (.int (x10_0 + (1 : Int32))), .val (.int ((g k0) - (48 : Int32)))]) rfl (pc' := 180) rfl ?_
                    refine w_goto X d4_180 (by decide) (pc' := 107) (by decide) ?_
                    exact ih T X (k0 + 1) (((10 : Int64) * acc0) - (((g k0) - (48 : Int32))).toInt64) (x10_0 + 1) (.val (.int ((g k0) - (48 : Int32)))) (One.val rfl) (x_succ hx10 (show k0 < 22 by omega) (by decide)) (by omega) (by rw [← hL, lp]; simp only [if_neg c127, if_neg c134, if_neg c143])
                  · -- c143 not taken
                    refine w_lload X d4_146 rfl (pc' := 148) rfl ?_
                    refine w_ldcJ X d4_148 (tw38 hw) (pc' := 151) rfl ?_
                    refine w_iload X d4_151 rfl (pc' := 153) rfl ?_
                    refine w_i2l X d4_153 (pc' := 154) rfl ?_
                    refine w_ladd X d4_154 (pc' := 155) rfl ?_
                    refine w_ldcJ X d4_155 (tw36 hw) (pc' := 158) rfl ?_
                    refine w_ldiv X d4_158 (by decide) (pc' := 159) rfl ?_
                    refine w_lcmp_ge X d4_159 (p0 := 160) rfl d4_160 (by decide) (p1 := 165) (by decide) (p2 := 163) rfl (fun c159 => ?_) (fun c159 => ?_)
                    · -- c159 taken
                      refine w_ldcJ X d4_165 (tw36 hw) (pc' := 168) rfl ?_
                      refine w_lload X d4_168 rfl (pc' := 170) rfl ?_
                      refine w_lmul X d4_170 (pc' := 171) rfl ?_
                      refine w_iload X d4_171 rfl (pc' := 173) rfl ?_
                      refine w_i2l X d4_173 (pc' := 174) rfl ?_
                      refine w_lsub X d4_174 (pc' := 175) rfl ?_
                      refine w_lstore X d4_175 (L' := #[.val (.ref a), .val (.ref ea), .val (.int (2 : Int32)), .val (.ref ia), .val (.int (0 : Int32)), .val (.int (0 : Int32)), .val (.int fi0), .val (.int ((ge 0) - fi0)), .val (.long (((10 : Int64) * acc0) - (((g k0) - (48 : Int32))).toInt64)), .second, .val (.int x10_0), .val (.int ((g k0) - (48 : Int32)))]) rfl (pc' := 177) rfl ?_
                      refine w_iinc X d4_177 rfl (v' := (x10_0 + (1 : Int32))) (by first | rfl | decide) (L' := #[.val (.ref a), .val (.ref ea), .val (.int (2 : Int32)), .val (.ref ia), .val (.int (0 : Int32)), .val (.int (0 : Int32)), .val (.int fi0), .val (.int ((ge 0) - fi0)), .val (.long (((10 : Int64) * acc0) - (((g k0) - (48 : Int32))).toInt64)), .second, .val (.int (x10_0 + (1 : Int32))), .val (.int ((g k0) - (48 : Int32)))]) rfl (pc' := 180) rfl ?_
                      refine w_goto X d4_180 (by decide) (pc' := 107) (by decide) ?_
                      exact ih T X (k0 + 1) (((10 : Int64) * acc0) - (((g k0) - (48 : Int32))).toInt64) (x10_0 + 1) (.val (.int ((g k0) - (48 : Int32)))) (One.val rfl) (x_succ hx10 (show k0 < 22 by omega) (by decide)) (by omega) (by rw [← hL, lp]; simp only [if_neg c127, if_neg c134, if_pos c143, if_neg c159])
                    · -- c159 not taken
                      refine w_iconst X d4_163 (v := (0 : Int32)) (by decide) (pc' := 164) rfl ?_
                      have hp : prs g (0 : Int32) (ge 0) = none := by rw [prsE0, pr2, hF0, ← hL, lp]; simp only [if_neg c127, if_neg c134, if_pos c143, if_pos c159]
                      exact w_retZ X rfl d4_164 (by decide) (by decide) (by decide) ⟨_, _, rfl, K, V, Or.inl ⟨Or.inl hp, rfl⟩⟩
                · -- c134 not taken
                  refine w_iconst X d4_137 (v := (0 : Int32)) (by decide) (pc' := 138) rfl ?_
                  have hp : prs g (0 : Int32) (ge 0) = none := by rw [prsE0, pr2, hF0, ← hL, lp]; simp only [if_neg c127, if_pos c134]
                  exact w_retZ X rfl d4_138 (by decide) (by decide) (by decide) ⟨_, _, rfl, K, V, Or.inl ⟨Or.inl hp, rfl⟩⟩
          exact LP ((ge 0) - fi0).toInt.toNat T X fi0.toInt.toNat 0 fi0 (.unset) One.u (nn_at hf0.2.1) (by have := hf0; omega) rfl
        refine w_aloadN X d4_76 rfl rfl (pc' := 77) rfl ?_
        refine w_iload X d4_77 rfl (pc' := 79) rfl ?_
        refine w_baload X (i := (fi0.toInt.toNat)) O d4_79 (nn_at hf0.2.1) (by have := ne_int c66; have := hf0; have := hb0'; omega) rfl (pc' := 80) rfl ?_
        refine w_bipush X d4_80 (v := (48 : Int32)) (by decide) (pc' := 82) rfl ?_
        refine w_icmp_ne X d4_82 (by decide) (p1 := 100) (by decide) (p2 := 85) rfl (fun c82 => ?_) (fun c82 => ?_)
        · -- c82 taken
          exact J2 T X (by rw [prs, hF0]; simp only [if_neg c66, if_neg c73, if_neg c82])
        · -- c82 not taken
          refine w_iload X d4_85 rfl (pc' := 87) rfl ?_
          refine w_iconst X d4_87 (v := (1 : Int32)) (by decide) (pc' := 88) rfl ?_
          refine w_icmp_gt X d4_88 (by decide) (p1 := 98) (by decide) (p2 := 91) rfl (fun c88 => ?_) (fun c88 => ?_)
          · -- c88 taken
            refine w_iconst X d4_98 (v := (0 : Int32)) (by decide) (pc' := 99) rfl ?_
            have hp : prs g (0 : Int32) (ge 0) = none := by rw [prs, hF0]; simp only [if_neg c66, if_neg c73, if_pos c82, if_pos c88]
            exact w_retZ X rfl d4_99 (by decide) (by decide) (by decide) ⟨_, _, rfl, K, V, Or.inl ⟨Or.inl hp, rfl⟩⟩
          · -- c88 not taken
            refine w_iload X d4_91 rfl (pc' := 93) rfl ?_
            refine w_iload X d4_93 rfl (pc' := 95) rfl ?_
            refine w_icmp_le X d4_95 (by decide) (p1 := 100) (by decide) (p2 := 98) rfl (fun c95 => ?_) (fun c95 => ?_)
            · -- c95 taken
              exact J2 T X (by rw [prs, hF0]; simp only [if_neg c66, if_neg c73, if_pos c82, if_neg c88, if_neg c95])
            · -- c95 not taken
              refine w_iconst X d4_98 (v := (0 : Int32)) (by decide) (pc' := 99) rfl ?_
              have hp : prs g (0 : Int32) (ge 0) = none := by rw [prs, hF0]; simp only [if_neg c66, if_neg c73, if_pos c82, if_neg c88, if_pos c95]
              exact w_retZ X rfl d4_99 (by decide) (by decide) (by decide) ⟨_, _, rfl, K, V, Or.inl ⟨Or.inl hp, rfl⟩⟩
  refine w_iload X d4_26 rfl (pc' := 28) rfl ?_
  refine w_aloadN X d4_28 rfl rfl (pc' := 29) rfl ?_
  refine w_iload X d4_29 rfl (pc' := 31) rfl ?_
  refine w_iaload X (i := 0) E d4_31 (by decide) (by decide) rfl (pc' := 32) rfl ?_
  refine w_icmp_ge X d4_32 (by decide) (p1 := 51) (by decide) (p2 := 35) rfl (fun c32 => ?_) (fun c32 => ?_)
  · -- c32 taken
    refine w_iload X d4_51 rfl (pc' := 53) rfl ?_
    exact J1 T X (0 : Int32) (by simp only [prF, if_neg c32])
  · -- c32 not taken
    refine w_aloadN X d4_35 rfl rfl (pc' := 36) rfl ?_
    refine w_iload X d4_36 rfl (pc' := 38) rfl ?_
    refine w_baload X (i := ((0 : Int32).toInt.toNat)) O d4_38 (nn_at (by decide)) (lt22 c32 hb0' (by decide)) rfl (pc' := 39) rfl ?_
    refine w_bipush X d4_39 (v := (45 : Int32)) (by decide) (pc' := 41) rfl ?_
    refine w_icmp_ne X d4_41 (by decide) (p1 := 51) (by decide) (p2 := 44) rfl (fun c41 => ?_) (fun c41 => ?_)
    · -- c41 taken
      refine w_iload X d4_51 rfl (pc' := 53) rfl ?_
      exact J1 T X (0 : Int32) (by simp only [prF, if_pos c32, if_neg c41])
    · -- c41 not taken
      refine w_iload X d4_44 rfl (pc' := 46) rfl ?_
      refine w_iconst X d4_46 (v := (1 : Int32)) (by decide) (pc' := 47) rfl ?_
      refine w_iadd X d4_47 (pc' := 48) rfl ?_
      refine w_goto X d4_48 (by decide) (pc' := 53) (by decide) ?_
      exact J1 T X ((0 : Int32) + (1 : Int32)) (by simp only [prF, if_pos c32, if_pos c41])
theorem gen2I {Z : State} {h : Heap} {a : Addr} {f : Nat → Int32} {x y : Int32} (A : AI Z h a .int 2 (fun q => if q = 1 then y else (fun q => if q = 0 then x else f q) q)) : ∃ g, AI Z h a .int 2 g ∧ g 0 = x ∧ g 1 = y := ⟨_, A, rfl, rfl⟩
theorem gen2J {Z : State} {h : Heap} {a : Addr} {f : Nat → Int64} {x y : Int64} (A : AJ Z h a 2 (fun q => if q = 1 then y else (fun q => if q = 0 then x else f q) q)) : ∃ g, AJ Z h a 2 g ∧ g 0 = x ∧ g 1 = y := ⟨_, A, rfl, rfl⟩
theorem fi_ok {fi fg : Int32} (h : fi = fg &&& 1) : 0 ≤ fi.toInt ∧ fi.toInt ≤ 1 := by
  have h1 := c_mask fg 1 1 (by decide) (by decide)
  rw [← h] at h1; omega
theorem two_ok (t : Int32) {x fl : Int32} (h : x = (fl.toUInt32 >>> (t &&& 31).toUInt32).toInt32 &&& 3) : 0 ≤ x.toInt ∧ x.toInt ≤ 3 := by
  have h1 := c_mask ((fl.toUInt32 >>> (t &&& 31).toUInt32).toInt32) 3 2 (by decide) (by decide)
  rw [← h] at h1; omega
theorem byte_ok {x b : Int32} (h : x = b &&& 255) : 0 ≤ x.toInt ∧ x.toInt ≤ 255 := by
  have h1 := c_mask b 255 8 (by decide) (by decide)
  rw [← h] at h1; omega
theorem ng_ok {vv ng : Int64} (h : (if vv < 0 then vv else -vv) = ng) : ng.toInt = -((-ng.toInt).toNat : Int) := by
  have h1 := c_lneg vv; have r := rng64 vv; have r2 := rng64 (-vv)
  have : ng.toInt ≤ 0 := by
    split at h
    · next q => rw [Int64.lt_iff_toInt_lt, show (0 : Int64).toInt = 0 from rfl] at q; subst h; omega
    · next q => rw [Int64.lt_iff_toInt_lt, show (0 : Int64).toInt = 0 from rfl] at q; subst h; omega
  omega
theorem n_ok {n : Int32} {vv ng : Int64} (h : n = dgs ng 18) (hng : (if vv < 0 then vv else -vv) = ng) : 1 ≤ n.toInt ∧ n.toInt ≤ 19 := by
  obtain ⟨m, h1, h2, h3, _⟩ := dgs_ok (ng_ok hng)
  subst h; omega
theorem min_ok {n : Int32} {vv ng : Int64} (h : n = dgs ng 18) (hng : (if vv < 0 then vv else -vv) = ng) : 0 ≤ (fMin n (18 : Int32)).toInt ∧ (fMin n (18 : Int32)).toInt ≤ 18 := by
  have h1 := n_ok h hng
  unfold fMin
  by_cases q : (18 : Int32) < n
  · rw [if_pos q]; decide
  · rw [if_neg q]; rw [Int32.lt_iff_toInt_lt, show (18 : Int32).toInt = 18 from rfl] at q; omega
theorem i3 : (3 : Int32).toInt = 3 := rfl
theorem ln_ok {sn x_ n l1 l2 l3 ln : Int32} (hs : 0 ≤ sn.toInt ∧ sn.toInt ≤ 1) (hn : 1 ≤ n.toInt ∧ n.toInt ≤ 19) (h1 : (if x_ = 1 then (1 : Int32) else 0) = l1) (h2 : (if x_ = 3 then (0 : Int32) else n) = l2) (h3 : (if x_ = 2 then (1 : Int32) else 0) = l3) (h : ln = sn + l1 + l2 + l3) : 0 ≤ ln.toInt ∧ ln.toInt ≤ 21 ∧ ln.toInt = sn.toInt + (if x_ = 1 then 1 else 0) + (if x_ = 3 then 0 else n.toInt) + (if x_ = 2 then 1 else 0) := by
  have a1 : l1.toInt = if x_ = 1 then 1 else 0 := by subst h1; split <;> rfl
  have a2 : l2.toInt = if x_ = 3 then 0 else n.toInt := by subst h2; split <;> rfl
  have a3 : l3.toInt = if x_ = 2 then 1 else 0 := by subst h3; split <;> rfl
  rw [← a1, ← a2, ← a3]
  have b1 : 0 ≤ l1.toInt ∧ l1.toInt ≤ 1 := by rw [a1]; split <;> omega
  have b2 : 0 ≤ l2.toInt ∧ l2.toInt ≤ 19 := by rw [a2]; split <;> omega
  have b3 : 0 ≤ l3.toInt ∧ l3.toInt ≤ 1 := by rw [a3]; split <;> omega
  have b4 : l1.toInt = 0 ∨ l3.toInt = 0 := by
    by_cases q : x_ = 1
    · right; rw [a3, if_neg (by rw [q]; decide)]
    · left; rw [a1, if_neg q]
  have c1 := c_iadd sn l1; have c2 := c_iadd (sn + l1) l2; have c3 := c_iadd (sn + l1 + l2) l3
  have r1 := rng32 (sn + l1); have r2 := rng32 (sn + l1 + l2); have r3 := rng32 (sn + l1 + l2 + l3)
  subst h; omega
theorem off_ok {k_ off : Int32} (h : (if k_ = 2 then (1 : Int32) else 0) = off) : 0 ≤ off.toInt ∧ off.toInt ≤ 1 := by
  subst h; split <;> decide
theorem cnt_ok {k_ cnt : Int32} (h : (if k_ = 0 then (0 : Int32) else if k_ = 1 then 1 else 2) = cnt) : cnt = 0 ∨ cnt = 1 ∨ cnt = 2 := by
  subst h; split
  · exact Or.inl rfl
  · split
    · exact Or.inr (Or.inl rfl)
    · exact Or.inr (Or.inr rfl)
theorem ends_ok {k_ ln ev0 ev1 : Int32} {ge : Nat → Int32} {P : Prop} (hln : 0 ≤ ln.toInt ∧ ln.toInt ≤ 21 ∧ P) (h0 : (if k_ = 2 then (1 : Int32) else ln) = ev0) (h1 : (if k_ = 2 then ln else (1 : Int32)) = ev1) (g0 : ge 0 = ev0) (g1 : ge 1 = ev0 + ev1) :
    0 ≤ (ge 0).toInt ∧ (ge 0).toInt ≤ 22 ∧ (ge 0).toInt ≤ (ge 1).toInt ∧ (ge 1).toInt ≤ 22 := by
  have c1 := c_iadd ev0 ev1; have r := rng32 (ev0 + ev1)
  have i1 : (1 : Int32).toInt = 1 := rfl
  have : (ev0 = 1 ∧ ev1 = ln) ∨ (ev0 = ln ∧ ev1 = 1) := by
    by_cases q : k_ = 2
    · left; exact ⟨by rw [← h0, if_pos q], by rw [← h1, if_pos q]⟩
    · right; exact ⟨by rw [← h0, if_neg q], by rw [← h1, if_neg q]⟩
  rw [g0, g1]
  rcases this with ⟨q1, q2⟩ | ⟨q1, q2⟩ <;> rw [q1, q2] at c1 r ⊢ <;> omega
theorem k_three {k : Int32} (h : 0 ≤ k.toInt ∧ k.toInt ≤ 3) (h0 : ¬ k = 0) (h1 : ¬ k = 1) (h2 : ¬ k = 2) : k = 3 := by
  have a : ∀ c : Int32, ¬ k = c → k.toInt ≠ c.toInt := fun c q z => q (Int32.toInt_inj.mp z)
  have a0 := a 0 h0; have a1 := a 1 h1; have a2 := a 2 h2
  rw [show (0 : Int32).toInt = 0 from rfl] at a0
  rw [show (1 : Int32).toInt = 1 from rfl] at a1
  rw [show (2 : Int32).toInt = 2 from rfl] at a2
  exact Int32.toInt_inj.mp (by rw [i3]; omega)
def GB (k_ ln cc off sn x_ ec : Int32) (ng : Int64) (n : Int32) (gb : Nat → Int32) : Prop :=
  (k_ = 2 → gb 0 = nar .byte cc.toInt8.toInt32) ∧ (k_ = 3 → gb ln.toInt.toNat = nar .byte cc.toInt8.toInt32) ∧ ∀ i, i < 22 → (k_ = 2 → i ≠ 0) → (k_ = 3 → i ≠ ln.toInt.toNat) → gb i = FX off sn x_ ec ng n i
theorem gb_ff {k_ ln cc off sn x_ ec : Int32} {ng : Int64} {n : Int32} {gF : Nat → Int32} (HF : ∀ k, k < 21 + 1 → gF k = FX off sn x_ ec ng n k) (c1 : ¬ k_ = 2) (c2 : ¬ k_ = 3) : GB k_ ln cc off sn x_ ec ng n gF := ⟨fun q => absurd q c1, fun q => absurd q c2, fun i hi _ _ => HF i hi⟩
theorem gb_tf {k_ ln cc off sn x_ ec : Int32} {ng : Int64} {n : Int32} {gF : Nat → Int32} (HF : ∀ k, k < 21 + 1 → gF k = FX off sn x_ ec ng n k) (c1 : k_ = 2) (c2 : ¬ k_ = 3) : GB k_ ln cc off sn x_ ec ng n (fun q => if q = 0 then nar .byte cc.toInt8.toInt32 else gF q) :=
  ⟨fun _ => rfl, fun q => absurd q c2, fun i hi h _ => (if_neg (h c1)).trans (HF i hi)⟩
theorem gb_ft {k_ ln cc off sn x_ ec : Int32} {ng : Int64} {n : Int32} {gF : Nat → Int32} (HF : ∀ k, k < 21 + 1 → gF k = FX off sn x_ ec ng n k) (c1 : ¬ k_ = 2) (c2 : k_ = 3) : GB k_ ln cc off sn x_ ec ng n (fun q => if q = ln.toInt.toNat then nar .byte cc.toInt8.toInt32 else gF q) :=
  ⟨fun q => absurd q c1, fun _ => if_pos rfl, fun i hi _ h => (if_neg (h c2)).trans (HF i hi)⟩
theorem gb_tt {k_ ln cc off sn x_ ec : Int32} {ng : Int64} {n : Int32} {gF : Nat → Int32} (HF : ∀ k, k < 21 + 1 → gF k = FX off sn x_ ec ng n k) {g} (c1 : k_ = 2) (c2 : k_ = 3) : GB k_ ln cc off sn x_ ec ng n g := absurd (c1.symm.trans c2) (by decide)
def CV (sn x_ ec : Int32) (ng : Int64) (n cv : Int32) (cval : Int64) : Prop :=
  (x_ = 3 ∧ cv = 0) ∨
  ((x_ = 0 ∨ (x_ = 1 ∧ sn = 0 ∧ ec = 45)) ∧ ∃ mi : Int32, (if sn = 1 then (1 : Int32) else if x_ = 1 then 1 else 0) = mi ∧ (if mi = 0 then (if ng = -9223372036854775808 then (0 : Int32) else 1) else (if ng = 0 then 0 else 1)) = cv ∧ (if mi = 0 then -ng else ng) = cval) ∨
  ((¬ x_ = 0 ∧ ¬ (x_ = 1 ∧ sn = 0 ∧ ec = 45) ∧ ¬ x_ = 3) ∧ ∃ eD : Int32, (if (ec - 48) < 0 then (0 : Int32) else if 9 < (ec - 48) then 0 else 1) = eD ∧ (
    (eD = 0 ∧ cv = 0) ∨
    (¬ eD = 0 ∧ x_ = 1 ∧ ∃ mm lim : Int64, mm = ng - (ec - 48).toInt64 * P10 (fMin n 18).toInt.toNat ∧ lim = -9223372036854775808 + (ec - 48).toInt64 * P10 18 ∧ (if (ec - 48) = 0 then (0 : Int32) else if n = 19 then 0 else if n = 18 then (if sn = 1 then (if ng < lim then 0 else 1) else (if lim < ng then 1 else 0)) else 1) = cv ∧ (if sn = 1 then mm else -mm) = cval) ∨
    (¬ eD = 0 ∧ ¬ x_ = 1 ∧ ∃ mm : Int64, mm = 10 * ng - (ec - 48).toInt64 ∧ (if ng = 0 then (0 : Int32) else if (-922337203685477580 : Int64) < ng then 1 else if ng = (-922337203685477580 : Int64) then (if sn = 1 then (if 8 < (ec - 48) then 0 else 1) else (if 7 < (ec - 48) then 0 else 1)) else 0) = cv ∧ (if sn = 1 then mm else -mm) = cval)))

theorem prF_no {g : Nat → Int32} {a b : Int32} (h : ¬ (g a.toInt.toNat = 45) ∨ ¬ a < b) : prF g a b = a := by
  unfold prF
  by_cases q : a < b
  · rw [if_pos q, if_neg (h.resolve_right (fun z => z q))]
  · rw [if_neg q]
theorem prF_yes {g : Nat → Int32} {a b : Int32} (h : g a.toInt.toNat = 45) (q : a < b) : prF g a b = a + 1 := by
  unfold prF; rw [if_pos q, if_pos h]
theorem lp_bad {g : Nat → Int32} {D : Int32} : ∀ (q k : Nat) (acc : Int64), (∃ i, k ≤ i ∧ i < k + q ∧ ¬ (48 ≤ (g i).toInt ∧ (g i).toInt ≤ 57) ∧ -128 ≤ (g i).toInt ∧ (g i).toInt ≤ 127) → lp g D k q acc = none
  | 0, k, acc, ⟨i, h1, h2, _⟩ => by omega
  | q + 1, k, acc, ⟨i, h1, h2, h3, h4⟩ => by
    rw [lp]
    by_cases e : i = k
    · subst e
      have d1 := c_isub (g i) 48; have r := rng32 (g i - 48)
      rw [show (48 : Int32).toInt = 48 from rfl] at d1
      by_cases n1 : g i - 48 < 0
      · rw [if_pos n1]
      · rw [if_neg n1]
        rw [Int32.lt_iff_toInt_lt, show (0 : Int32).toInt = 0 from rfl] at n1
        have n2 : 9 < g i - 48 := by rw [Int32.lt_iff_toInt_lt, show (9 : Int32).toInt = 9 from rfl]; omega
        rw [if_pos n2]
    · have ih : ∀ acc, lp g D (k + 1) q acc = none := fun acc => lp_bad q (k + 1) acc ⟨i, by omega, by omega, h3, h4⟩
      simp only [ih, ite_self]
theorem prs_bad {g : Nat → Int32} {a b f : Int32} (hf : prF g a b = f) (hf0 : 0 ≤ f.toInt) (hfb : f.toInt ≤ b.toInt) (hb : b.toInt ≤ 22) (h : ∃ i : Nat, f.toInt ≤ i ∧ (i : Int) < b.toInt ∧ ¬ (48 ≤ (g i).toInt ∧ (g i).toInt ≤ 57) ∧ -128 ≤ (g i).toInt ∧ (g i).toInt ≤ 127) : prs g a b = none := by
  have hD : (b - f).toInt = b.toInt - f.toInt := D_int (by omega) (by omega)
  obtain ⟨i, h1, h2, h3, h4⟩ := h
  have h5 : pr2 g a b = none := by
    rw [pr2, hf, lp_bad _ _ _ ⟨i, by omega, by omega, h3, h4⟩]
  rw [prs, h5]; simp only [ite_self]
theorem prs_long {g : Nat → Int32} {a b f : Int32} (hf : prF g a b = f) (hf0 : 0 ≤ f.toInt) (hfb : f.toInt ≤ b.toInt) (hb : b.toInt ≤ 22) (h : b.toInt - f.toInt = 0 ∨ 19 < b.toInt - f.toInt) : prs g a b = none := by
  have hD : (b - f).toInt = b.toInt - f.toInt := D_int (by omega) (by omega)
  rw [prs, hf]
  rcases h with h | h
  · rw [if_pos (Int32.toInt_inj.mp (by rw [hD, h]; rfl))]
  · have : 19 < b - f := by rw [Int32.lt_iff_toInt_lt, hD]; exact h
    rw [if_pos this, ite_self]
theorem prs_lead {g : Nat → Int32} {a b f : Int32} (hf : prF g a b = f) (hf0 : 0 ≤ f.toInt) (hfb : f.toInt ≤ b.toInt) (hb : b.toInt ≤ 22) (hg : g f.toInt.toNat = 48) (h : 1 < b.toInt - f.toInt ∨ a < f) : prs g a b = none := by
  have hD : (b - f).toInt = b.toInt - f.toInt := D_int (by omega) (by omega)
  rw [prs, hf, if_pos hg]
  rcases h with h | h
  · have : 1 < b - f := by rw [Int32.lt_iff_toInt_lt, hD]; exact h
    rw [if_pos this]; simp only [ite_self]
  · rw [if_pos h]; simp only [ite_self]
/-- a row of digits -/
theorem prs_dig {g : Nat → Int32} {a b f : Int32} {F L : Nat} (hf : prF g a b = f) (hF : f.toInt = F) (hb : b.toInt = F + L) (hb2 : F + L ≤ 22) (hL : 1 ≤ L) (hL2 : L ≤ 19) (hd : ∀ i, F ≤ i → i < F + L → 48 ≤ (g i).toInt ∧ (g i).toInt ≤ 57)
    (h0 : ¬ g F = 48 ∨ (L = 1 ∧ f = a)) (hV : 18 < L ∨ -9223372036854775808 ≤ vl g F L 0) :
    prs g a b = if -9223372036854775808 ≤ vl g F L 0 then (if f = a then (if vl g F L 0 = -9223372036854775808 then none else some (-(Int64.ofInt (vl g F L 0)))) else some (Int64.ofInt (vl g F L 0))) else none := by
  have hD : (b - f).toInt = L := by rw [D_int (by omega) (by omega)]; omega
  have e1 : ¬ b - f = 0 := fun q => by rw [q, show (0 : Int32).toInt = 0 from rfl] at hD; omega
  have e2 : ¬ 19 < b - f := by rw [Int32.lt_iff_toInt_lt, hD, show (19 : Int32).toInt = 19 from rfl]; omega
  have hFn : f.toInt.toNat = F := by omega
  have hDn : (b - f).toInt.toNat = L := by omega
  have e3 : prs g a b = pr2 g a b := by
    rw [prs, hf, if_neg e1, if_neg e2, hFn]
    rcases h0 with h0 | ⟨h0, h1⟩
    · rw [if_neg h0]
    · have q1 : ¬ 1 < b - f := by rw [Int32.lt_iff_toInt_lt, hD, show (1 : Int32).toInt = 1 from rfl]; omega
      have q2 : ¬ a < f := by rw [h1]; exact fun q => Int32.lt_irrefl q
      rw [if_neg q1, if_neg q2, ite_self]
  have sp := lp_spec (g := g) (D := b - f) L F 0 (by decide) hd (by rcases hV with q | q
                                                                    · left; rw [Int32.lt_iff_toInt_lt, hD, show (18 : Int32).toInt = 18 from rfl]; omega
                                                                    · right; exact q)
  rw [show (0 : Int64).toInt = 0 from rfl] at sp
  have hle := vl_le (g := g) L F 0 (Int.le_refl 0) (fun i p1 p2 => (hd i p1 p2).1)
  rw [e3, pr2, hf, hFn, hDn, sp]
  by_cases c : -9223372036854775808 ≤ vl g F L 0
  · rw [if_pos c, if_pos c]
    have hv : (Int64.ofInt (vl g F L 0)).toInt = vl g F L 0 := Int64.toInt_ofInt_of_le (by omega) (by omega)
    have eqm : (Int64.ofInt (vl g F L 0) = -9223372036854775808) ↔ (vl g F L 0 = -9223372036854775808) :=
      ⟨fun q => by rw [← hv, q]; rfl, fun q => Int64.toInt_inj.mp (by rw [hv, q]; rfl)⟩
    simp only [eqm]
  · rw [if_neg c, if_neg c]
theorem bt_int {e : Int32} (h : 0 ≤ e.toInt ∧ e.toInt ≤ 255) : (nar .byte e.toInt8.toInt32).toInt = (if e.toInt < 128 then e.toInt else e.toInt - 256) := by
  show (e.toInt8.toInt32.toInt8.toInt32).toInt = _
  have b1 := c_i2b e; have b2 := c_i2b e.toInt8.toInt32
  split <;> omega
theorem single {g : Nat → Int32} {a b cc lv : Int32} (hcc : 0 ≤ cc.toInt ∧ cc.toInt ≤ 255) (ha : 0 ≤ a.toInt) (hb : b.toInt = a.toInt + 1) (hb2 : b.toInt ≤ 22) (hg : g a.toInt.toNat = nar .byte cc.toInt8.toInt32) (hlv : (if cc < 48 then (0 : Int32) else if 57 < cc then 0 else 1) = lv) :
    (lv = 0 ∧ prs g a b = none) ∨ (lv = 1 ∧ prs g a b = some (cc - 48).toInt64) := by
  have hB := bt_int hcc
  rw [← hg] at hB
  have lt1 : a < b := by rw [Int32.lt_iff_toInt_lt]; omega
  simp only [Int32.lt_iff_toInt_lt, show (48 : Int32).toInt = 48 from rfl, show (57 : Int32).toInt = 57 from rfl] at hlv
  by_cases m : g a.toInt.toNat = 45
  · have e1 := prF_yes m lt1
    have s1 := c_iadd a 1; have r1 := rng32 (a + 1)
    rw [show (1 : Int32).toInt = 1 from rfl] at s1
    rw [m, show (45 : Int32).toInt = 45 from rfl] at hB
    left
    refine ⟨?_, prs_long e1 (by omega) (by omega) hb2 (Or.inl (by omega))⟩
    rw [← hlv, if_pos (by split at hB <;> omega)]
  · have e1 := prF_no (b := b) (Or.inl m)
    by_cases d : 48 ≤ cc.toInt ∧ cc.toInt ≤ 57
    · right
      refine ⟨by rw [← hlv, if_neg (by omega), if_neg (by omega)], ?_⟩
      rw [if_pos (by omega)] at hB
      have hv : vl g a.toInt.toNat 1 0 = 48 - cc.toInt := by show 10 * 0 - ((g a.toInt.toNat).toInt - 48) = _; omega
      rw [prs_dig (F := a.toInt.toNat) (L := 1) e1 (by omega) (by omega) (by omega) (by omega) (by omega) (fun i h1 h2 => by rw [show i = a.toInt.toNat by omega]; omega) (Or.inr ⟨rfl, rfl⟩) (Or.inr (by omega)), hv]
      rw [if_pos (by omega), if_pos rfl, if_neg (by omega)]
      congr 1
      apply Int64.toInt_inj.mp
      have q0 : (Int64.ofInt (48 - cc.toInt)).toInt = 48 - cc.toInt := Int64.toInt_ofInt_of_le (by omega) (by omega)
      have q1 := c_lneg (Int64.ofInt (48 - cc.toInt)); have q2 := rng64 (-(Int64.ofInt (48 - cc.toInt)))
      have q3 := c_i2l (cc - 48); have q4 := c_isub cc 48; have q5 := rng32 (cc - 48)
      rw [show (48 : Int32).toInt = 48 from rfl] at q4
      omega
    · left
      refine ⟨by rw [← hlv]; by_cases q : cc.toInt < 48
                 · rw [if_pos q]
                 · rw [if_neg q, if_pos (by omega)], ?_⟩
      exact prs_bad e1 ha (by omega) hb2 ⟨a.toInt.toNat, by omega, by omega, by split at hB <;> omega, by split at hB <;> omega, by split at hB <;> omega⟩

theorem ofN_int {i : Nat} (h : i ≤ 22) : (Int32.ofNat i).toInt = i := Int32.toInt_ofNat_small (by omega)
theorem inj32 {x y : Int32} (h : x.toInt = y.toInt) : x = y := Int32.toInt_inj.mp h
theorem ne32 {x : Int32} (c : Int32) (h : ¬ x = c) : ¬ x.toInt = c.toInt := fun q => h (inj32 q)
theorem ch_minus {sn x_ ec n : Int32} {ng : Int64} (hs : sn = 1) : fCx (Int32.ofNat 0) sn x_ ec ng n = 45 := by
  subst hs; unfold fCx; rw [if_pos (by decide)]; decide
theorem ch_e1 {sn ec n : Int32} {ng : Int64} {i : Nat} (hi : i ≤ 22) (hs : sn.toInt = i) : fCx (Int32.ofNat i) sn 1 ec ng n = nar .byte ec.toInt8.toInt32 := by
  have e : Int32.ofNat i = sn := inj32 (by rw [ofN_int hi, hs])
  unfold fCx; rw [e, if_neg (fun q => Int32.lt_irrefl q), if_pos rfl, if_pos rfl]
theorem ch_dig {sn x_ ec n : Int32} {ng : Int64} {N m S t i : Nat} (hN : ng.toInt = -(N : Int)) (hn : n.toInt = m) (hm : m ≤ 19) (hs : sn.toInt = S) (hS : S ≤ 1) (hx3 : ¬ x_ = 3) (ht : t = if x_ = 1 then 1 else 0) (hi : i < m) :
    (fCx (Int32.ofNat (S + t + i)) sn x_ ec ng n).toInt = 48 + (N / 10 ^ (m - 1 - i) % 10 : Nat) := by
  have ht1 : t ≤ 1 := by rw [ht]; split <;> omega
  have hr := ofN_int (i := S + t + i) (by omega)
  have n1 : ¬ Int32.ofNat (S + t + i) < sn := by rw [Int32.lt_iff_toInt_lt, hr, hs]; omega
  have key : ∀ ds : Int32, ds.toInt = (S + t : Nat) → (cx2 (Int32.ofNat (S + t + i)) ds n x_ ec ng).toInt = 48 + (N / 10 ^ (m - 1 - i) % 10 : Nat) := by
    intro ds hds
    have a1 := c_iadd ds n; have a2 := rng32 (ds + n)
    have m1 : ¬ Int32.ofNat (S + t + i) < ds := by rw [Int32.lt_iff_toInt_lt, hr, hds]; omega
    have m2 : Int32.ofNat (S + t + i) < ds + n := by rw [Int32.lt_iff_toInt_lt, hr]; omega
    unfold cx2
    rw [if_neg m1, if_pos m2]
    have b1 := c_isub n 1; have b2 := rng32 (n - 1); have b3 := c_isub (Int32.ofNat (S + t + i)) ds; have b4 := rng32 (Int32.ofNat (S + t + i) - ds)
    have b5 := c_isub (n - 1) (Int32.ofNat (S + t + i) - ds); have b6 := rng32 ((n - 1) - (Int32.ofNat (S + t + i) - ds))
    rw [show (1 : Int32).toInt = 1 from rfl] at b1
    have e : ((n - 1) - (Int32.ofNat (S + t + i) - ds)).toInt.toNat = m - 1 - i := by omega
    rw [e]; exact cxD_int hN (by omega)
  unfold fCx
  rw [if_neg n1, if_neg hx3]
  by_cases q : x_ = 1
  · rw [if_pos q] at ht ⊢
    have n2 : ¬ Int32.ofNat (S + t + i) = sn := fun z => by have := congrArg Int32.toInt z; rw [hr, hs] at this; omega
    rw [if_neg n2]
    refine key _ ?_
    have a1 := c_iadd sn 1; have a2 := rng32 (sn + 1)
    rw [show (1 : Int32).toInt = 1 from rfl] at a1; omega
  · rw [if_neg q] at ht ⊢
    refine key _ ?_
    have a1 := c_iadd sn 0; have a2 := rng32 (sn + 0)
    rw [show (0 : Int32).toInt = 0 from rfl] at a1; omega
theorem ch_e2 {sn ec n : Int32} {ng : Int64} {m S : Nat} (hn : n.toInt = m) (hm : m ≤ 19) (hm1 : 1 ≤ m) (hs : sn.toInt = S) (hS : S ≤ 1) : fCx (Int32.ofNat (S + m)) sn 2 ec ng n = nar .byte ec.toInt8.toInt32 := by
  have hr := ofN_int (i := S + m) (by omega)
  have n1 : ¬ Int32.ofNat (S + m) < sn := by rw [Int32.lt_iff_toInt_lt, hr, hs]; omega
  have a1 := c_iadd sn 0; have a2 := rng32 (sn + 0)
  rw [show (0 : Int32).toInt = 0 from rfl] at a1
  have a3 := c_iadd (sn + 0) n; have a4 := rng32 (sn + 0 + n)
  have m1 : ¬ Int32.ofNat (S + m) < sn + 0 := by rw [Int32.lt_iff_toInt_lt, hr]; omega
  have m2 : ¬ Int32.ofNat (S + m) < sn + 0 + n := by rw [Int32.lt_iff_toInt_lt, hr]; omega
  have m3 : Int32.ofNat (S + m) = sn + 0 + n := inj32 (by rw [hr]; omega)
  unfold fCx
  rw [if_neg n1, if_neg (by decide), if_neg (by decide)]
  unfold cx2
  rw [if_neg m1, if_neg m2, if_pos rfl, if_pos m3]
theorem vl_snoc {g : Nat → Int32} : ∀ (q k : Nat) (A : Int), vl g k (q + 1) A = 10 * vl g k q A - ((g (k + q)).toInt - 48)
  | 0, _, _ => rfl
  | q + 1, k, A => by
    have h := vl_snoc (g := g) q (k + 1) (10 * A - ((g k).toInt - 48))
    rw [show k + 1 + q = k + (q + 1) by omega] at h
    exact h
/-- where the digits begin -/
theorem start {g : Nat → Int32} {a b : Int32} {A S : Nat} (hA : a.toInt = A) (hA1 : A ≤ 1) (hS : S ≤ 1) (hb : (A + S : Int) ≤ b.toInt) (h1 : S = 1 → g A = 45) (h0 : S = 0 → ¬ g A = 45 ∨ ¬ a < b) :
    ∃ f, prF g a b = f ∧ f.toInt = (A + S : Nat) ∧ (S = 1 → a < f ∧ ¬ f = a) ∧ (S = 0 → f = a) := by
  have hAn : a.toInt.toNat = A := by omega
  by_cases q : S = 1
  · have e1 := prF_yes (g := g) (a := a) (b := b) (by rw [hAn]; exact h1 q) (by rw [Int32.lt_iff_toInt_lt]; omega)
    have s1 := c_iadd a 1; have r1 := rng32 (a + 1)
    rw [show (1 : Int32).toInt = 1 from rfl] at s1
    exact ⟨a + 1, e1, by omega, fun _ => ⟨by rw [Int32.lt_iff_toInt_lt]; omega, fun z => by rw [z] at s1 r1; omega⟩, fun z => by omega⟩
  · have e1 := prF_no (g := g) (a := a) (b := b) (by rw [hAn]; exact h0 (by omega))
    exact ⟨a, e1, by omega, fun z => absurd z q, fun _ => rfl⟩
/-- the digits of N at F -/
def Dg (g : Nat → Int32) (N m F : Nat) : Prop := ∀ i, i < m → (g (F + i)).toInt = 48 + (N / 10 ^ (m - 1 - i) % 10 : Nat)
theorem Dg.rng {g : Nat → Int32} {N m F : Nat} (h : Dg g N m F) (i : Nat) (h1 : F ≤ i) (h2 : i < F + m) : 48 ≤ (g i).toInt ∧ (g i).toInt ≤ 57 := by
  have h3 := h (i - F) (by omega)
  rw [show F + (i - F) = i by omega] at h3
  have := Nat.mod_lt (N / 10 ^ (m - 1 - (i - F))) (show 0 < 10 by decide)
  omega
theorem Dg.first {g : Nat → Int32} {N m F : Nat} (h : Dg g N m F) (h1 : 1 ≤ m) (h2 : 2 ≤ m → 10 ^ (m - 1) ≤ N) (h3 : N < 10 ^ m) : (g F = 48 → N = 0) ∧ (N = 0 → m = 1 ∧ g F = 48) := by
  have h4 := h 0 (by omega)
  rw [show F + 0 = F from rfl, show m - 1 - 0 = m - 1 by omega] at h4
  have hp : 0 < 10 ^ (m - 1) := Nat.pow_pos (by decide)
  have h5 : N / 10 ^ (m - 1) < 10 := Nat.div_lt_of_lt_mul (by rw [Nat.mul_comm, ← Nat.pow_succ']; rw [show (m - 1).succ = m by omega]; exact h3)
  rw [Nat.mod_eq_of_lt h5] at h4
  constructor
  · intro q
    rw [q, show (48 : Int32).toInt = 48 from rfl] at h4
    have z : N / 10 ^ (m - 1) = 0 := by omega
    have lt := (Nat.div_eq_zero_iff_lt hp).mp z
    by_cases q2 : 2 ≤ m
    · have := h2 q2; omega
    · rw [show m - 1 = 0 by omega] at lt; simpa using lt
  · intro q
    have hm : m = 1 := by
      by_cases q2 : 2 ≤ m
      · have := h2 q2; omega
      · omega
    refine ⟨hm, inj32 ?_⟩
    rw [h4, q, Nat.zero_div]; rfl
theorem Dg.vl {g : Nat → Int32} {N m F : Nat} (h : Dg g N m F) (h3 : N < 10 ^ m) (A : Int) : vl g F m A = A * (10 ^ m : Nat) - N := by
  rw [vl_digits m F A h, Nat.mod_eq_of_lt h3]

theorem ofV {V : Int} {mm : Int64} (h : -9223372036854775808 ≤ V) (h0 : V ≤ 0) (hm : (mm.toInt - V) % 18446744073709551616 = 0) : Int64.ofInt V = mm :=
  Int64.toInt_inj.mp (by
    rw [Int64.toInt_ofInt_of_le (by omega) (by omega)]
    have := rng64 mm; omega)
/-- what a value answers -/
def An (S : Nat) (V : Int) (mm : Int64) : Option Int64 := if -9223372036854775808 ≤ V then (if S = 0 then (if V = -9223372036854775808 then none else some (-mm)) else some mm) else none
theorem prs_An {g : Nat → Int32} {a b : Int32} {A S L : Nat} {V : Int} {mm : Int64} (hA : a.toInt = A) (hA1 : A ≤ 1) (hS : S ≤ 1) (h1 : S = 1 → g A = 45) (hb : b.toInt = A + S + L) (hL : 1 ≤ L) (hL2 : L ≤ 19) (hd : ∀ i, A + S ≤ i → i < A + S + L → 48 ≤ (g i).toInt ∧ (g i).toInt ≤ 57)
    (h0 : ¬ g (A + S) = 48 ∨ (L = 1 ∧ S = 0)) (hV : vl g (A + S) L 0 = V) (hV2 : 18 < L ∨ -9223372036854775808 ≤ V) (hm : (mm.toInt - V) % 18446744073709551616 = 0) : prs g a b = An S V mm := by
  obtain ⟨f, hf, hfi, hf1, hf0⟩ := start (g := g) (a := a) (b := b) hA hA1 hS (by omega) h1 (fun z => Or.inl fun q => by
    have := hd A (by omega) (by omega); rw [q, show (45 : Int32).toInt = 45 from rfl] at this; omega)
  have hle := vl_le (g := g) L (A + S) 0 (Int.le_refl 0) (fun i p1 p2 => (hd i p1 p2).1)
  rw [prs_dig (F := A + S) (L := L) hf hfi (by omega) (by omega) hL hL2 hd (h0.imp id fun q => ⟨q.1, hf0 q.2⟩) (by rw [hV]; exact hV2), hV]
  rw [hV] at hle
  unfold An
  by_cases c : -9223372036854775808 ≤ V
  · rw [if_pos c, if_pos c, ofV c hle hm]
    by_cases q : S = 0
    · rw [if_pos q, if_pos (hf0 q)]
    · rw [if_neg q, if_neg (hf1 (by omega)).2]
  · rw [if_neg c, if_neg c]
theorem lead_An {g : Nat → Int32} {a b : Int32} {A S L : Nat} (hA : a.toInt = A) (hA1 : A ≤ 1) (hS : S ≤ 1) (h1 : S = 1 → g A = 45) (hb : b.toInt = A + S + L) (hb2 : b.toInt ≤ 22) (hL : 1 ≤ L) (hg : g (A + S) = 48) (h : 1 < L ∨ S = 1) : prs g a b = none := by
  obtain ⟨f, hf, hfi, hf1, hf0⟩ := start (g := g) (a := a) (b := b) hA hA1 hS (by omega) h1 (fun z => Or.inl fun q => by
    subst z; rw [show A + 0 = A from rfl, q] at hg; exact absurd hg (by decide))
  exact prs_lead hf (by omega) (by omega) hb2 (by rw [show f.toInt.toNat = A + S by omega]; exact hg) (h.imp (fun q => by omega) (fun q => (hf1 q).1))
theorem long_An {g : Nat → Int32} {a b : Int32} {A S L : Nat} (hA : a.toInt = A) (hA1 : A ≤ 1) (hS : S ≤ 1) (h1 : S = 1 → g A = 45) (hb : b.toInt = A + S + L) (hb2 : b.toInt ≤ 22) (h0 : L = 0 ∨ (19 < L ∧ ¬ g (A + S) = 45)) : prs g a b = none := by
  obtain ⟨f, hf, hfi, hf1, hf0⟩ := start (g := g) (a := a) (b := b) hA hA1 hS (by omega) h1 (fun z => by
    subst z
    rcases h0 with q | ⟨_, q⟩
    · right; rw [Int32.lt_iff_toInt_lt]; omega
    · left; exact q)
  exact prs_long hf (by omega) (by omega) hb2 (by omega)
theorem bad_An {g : Nat → Int32} {a b : Int32} {A S L i : Nat} (hA : a.toInt = A) (hA1 : A ≤ 1) (hS : S ≤ 1) (h1 : S = 1 → g A = 45) (hb : b.toInt = A + S + L) (hb2 : b.toInt ≤ 22) (h0 : S = 0 → ¬ g A = 45) (hi : A + S ≤ i) (hi2 : i < A + S + L) (hg : ¬ (48 ≤ (g i).toInt ∧ (g i).toInt ≤ 57) ∧ -128 ≤ (g i).toInt ∧ (g i).toInt ≤ 127) : prs g a b = none := by
  obtain ⟨f, hf, hfi, hf1, hf0⟩ := start (g := g) (a := a) (b := b) hA hA1 hS (by omega) h1 (fun z => Or.inl (h0 z))
  exact prs_bad hf (by omega) (by omega) hb2 ⟨i, by omega, by omega, hg⟩
theorem lt64 {x y : Int64} : x < y ↔ x.toInt < y.toInt := Int64.lt_iff_toInt_lt
theorem eq64 {x y : Int64} : x = y ↔ x.toInt = y.toInt := Int64.toInt_inj.symm
theorem eq32 {x y : Int32} : x = y ↔ x.toInt = y.toInt := Int32.toInt_inj.symm
theorem lt32 {x y : Int32} : x < y ↔ x.toInt < y.toInt := Int32.lt_iff_toInt_lt
theorem e18 : ((10 ^ 18 : Nat) : Int) = 1000000000000000000 := by decide
theorem lim_int {d lim : Int64} (h0 : 0 ≤ d.toInt ∧ d.toInt ≤ 9) (h : lim = -9223372036854775808 + d * P10 18) : lim.toInt = -9223372036854775808 + d.toInt * 1000000000000000000 := by
  have l1 := c_lmul d (P10 18); have l4 := rng64 (d * P10 18)
  rw [P10_int (by decide), e18] at l1
  have p : (d * P10 18).toInt = d.toInt * 1000000000000000000 := by omega
  clear l1 l4
  have l2 := c_ladd (-9223372036854775808) (d * P10 18); have l3 := rng64 lim
  rw [← h, p, show (-9223372036854775808 : Int64).toInt = -9223372036854775808 from rfl] at l2
  omega
set_option maxHeartbeats 4000000 in
theorem core {g : Nat → Int32} {sn x_ ec n a b ln cv : Int32} {vv ng cval : Int64} {A : Nat} (hsn : 0 ≤ sn.toInt ∧ sn.toInt ≤ 1) (hx : 0 ≤ x_.toInt ∧ x_.toInt ≤ 3) (hec : 0 ≤ ec.toInt ∧ ec.toInt ≤ 255) (hng : (if vv < 0 then vv else -vv) = ng) (hn : n = dgs ng 18)
    (hln : 0 ≤ ln.toInt ∧ ln.toInt ≤ 21 ∧ ln.toInt = sn.toInt + (if x_ = 1 then 1 else 0) + (if x_ = 3 then 0 else n.toInt) + (if x_ = 2 then 1 else 0)) (hA : a.toInt = A) (hA1 : A ≤ 1) (hb : b.toInt = a.toInt + ln.toInt)
    (hg : ∀ i : Nat, (i : Int) < ln.toInt → g (A + i) = fCx (Int32.ofNat i) sn x_ ec ng n) (hcv : CV sn x_ ec ng n cv cval) : (cv = 0 ∧ prs g a b = none) ∨ (cv = 1 ∧ prs g a b = some cval) := by
  have hN := ng_ok hng
  generalize (-ng.toInt).toNat = N at hN
  obtain ⟨m, hm, hm1, hm2, hm3, hm4⟩ := dgs_ok hN
  rw [← hn] at hm
  obtain ⟨S, hS⟩ : ∃ S : Nat, sn.toInt = S := ⟨sn.toInt.toNat, by omega⟩
  have hS1 : S ≤ 1 := by omega
  have hs1 : S = 1 → sn = 1 := fun q => inj32 (by rw [hS, q]; rfl)
  have hs0 : S = 0 → ¬ sn = 1 := fun q z => by rw [z, show (1 : Int32).toInt = 1 from rfl] at hS; omega
  have h45 : S = 1 → g A = 45 := fun q => by
    have := hg 0 (by have := hln.2.2; split at this <;> split at this <;> split at this <;> omega)
    exact this.trans (ch_minus (hs1 q))
  have hB := bt_int hec
  have ngr := rng64 ng
  rcases hcv with ⟨h3, hc⟩ | ⟨hA0, mi, hmi, hc, hv⟩ | ⟨hBx, eD, heD, h⟩
  · left
    subst h3
    rw [if_neg (by decide), if_pos rfl, if_neg (by decide)] at hln
    exact ⟨hc, long_An (S := S) (L := 0) hA hA1 hS1 h45 (by omega) (by omega) (Or.inl rfl)⟩
  · have num : ∀ U : Nat, U ≤ 1 → (U = 1 → g A = 45) → Dg g N m (A + U) → b.toInt = A + U + m → (U = 1 ∧ N = 0 ∧ prs g a b = none) ∨ ((U = 0 ∨ ¬ N = 0) ∧ prs g a b = An U (-(N : Int)) ng) := by
      intro U hU hU1 D hbb
      have hfst := D.first hm1 hm3 hm4
      have hvl := D.vl hm4 0
      rw [Int.zero_mul, Int.zero_sub] at hvl
      by_cases q : U = 1 ∧ N = 0
      · exact Or.inl ⟨q.1, q.2, lead_An hA hA1 hU hU1 hbb (by omega) hm1 (hfst.2 q.2).2 (Or.inr q.1)⟩
      · right
        refine ⟨by omega, prs_An hA hA1 hU hU1 hbb hm1 hm2 D.rng ?_ hvl (Or.inr (by omega)) (by omega)⟩
        by_cases z : g (A + U) = 48
        · right; have := hfst.1 z; exact ⟨(hfst.2 this).1, by omega⟩
        · left; exact z
    have fin : ∀ U : Nat, U ≤ 1 → (mi = 0 ↔ U = 0) → ((U = 1 ∧ N = 0 ∧ prs g a b = none) ∨ ((U = 0 ∨ ¬ N = 0) ∧ prs g a b = An U (-(N : Int)) ng)) → (cv = 0 ∧ prs g a b = none) ∨ (cv = 1 ∧ prs g a b = some cval) := by
      intro U hU hmU hp
      have e0 : ng = 0 ↔ N = 0 := by rw [eq64, show (0 : Int64).toInt = 0 from rfl]; omega
      have eM : ng = -9223372036854775808 ↔ -(N : Int) = -9223372036854775808 := by rw [eq64, show (-9223372036854775808 : Int64).toInt = -9223372036854775808 from rfl]; omega
      simp only [hmU, e0, eM] at hc hv
      unfold An at hp
      rw [if_pos (show -9223372036854775808 ≤ -(N : Int) by omega)] at hp
      by_cases u : U = 0
      · rw [if_pos u] at hc hv hp
        have hp := hp.resolve_left (fun z => by omega)
        by_cases z : -(N : Int) = -9223372036854775808
        · rw [if_pos z] at hc hp; exact Or.inl ⟨hc.symm, hp.2⟩
        · rw [if_neg z] at hc hp; exact Or.inr ⟨hc.symm, by rw [hp.2, hv]⟩
      · rw [if_neg u] at hc hv hp
        rcases hp with hp | hp
        · rw [if_pos hp.2.1] at hc; exact Or.inl ⟨hc.symm, hp.2.2⟩
        · rw [if_neg (hp.1.resolve_left u)] at hc; exact Or.inr ⟨hc.symm, by rw [hp.2, hv]⟩
    rcases hA0 with q | ⟨q, q1, q2⟩
    · subst q
      rw [if_neg (by decide), if_neg (by decide), if_neg (by decide)] at hln
      refine fin S hS1 ?_ (num S hS1 h45 (fun i hi => ?_) (by omega))
      · rw [← hmi]
        by_cases z : S = 0
        · rw [if_neg (hs0 z), if_neg (by decide)]; simp [z]
        · rw [if_pos (hs1 (by omega))]; simp [z]
      · rw [show A + S + i = A + (S + 0 + i) by omega, hg _ (by omega)]
        exact ch_dig hN hm hm2 hS hS1 (by decide) rfl hi
    · subst q q1 q2
      rw [if_pos rfl, if_neg (by decide), if_neg (by decide)] at hln
      have hS0 : S = 0 := by rw [show (0 : Int32).toInt = 0 from rfl] at hS; omega
      subst hS0
      rw [show (0 : Int32).toInt = 0 from rfl] at hln
      refine fin 1 (by omega) ?_ (num 1 (by omega) (fun _ => ?_) (fun i hi => ?_) (by omega))
      · rw [← hmi, if_neg (by decide), if_pos rfl]; decide
      · exact (hg 0 (by omega)).trans ((ch_e1 (by decide) (by decide)).trans (by decide))
      · rw [show A + 1 + i = A + (0 + 1 + i) by omega, hg _ (by omega)]
        exact ch_dig hN hm hm2 hS (by omega) (by decide) rfl hi
  · have hd0 := c_isub ec 48; have hdr := rng32 (ec - 48)
    rw [show (48 : Int32).toInt = 48 from rfl] at hd0
    have hd : (ec - 48).toInt = ec.toInt - 48 := by omega
    have hd64 := c_i2l (ec - 48)
    have hd64r := rng64 (ec - 48).toInt64
    rw [hd] at hd64
    simp only [lt32, hd, show (0 : Int32).toInt = 0 from rfl, show (9 : Int32).toInt = 9 from rfl] at heD
    have sn1 : sn = 1 ↔ S = 1 := ⟨fun q => by rw [q, show (1 : Int32).toInt = 1 from rfl] at hS; omega, hs1⟩
    have x12 : x_ = 1 ∨ x_ = 2 := by
      by_cases q : x_ = 1
      · exact Or.inl q
      · right; by_cases q2 : x_ = 2
        · exact q2
        · exact absurd (k_three hx hBx.1 q q2) hBx.2.2
    have dig : ¬ eD = 0 → 48 ≤ ec.toInt ∧ ec.toInt ≤ 57 := fun q => by
      by_cases z : ec.toInt - 48 < 0
      · rw [if_pos z] at heD; exact absurd heD.symm q
      · rw [if_neg z] at heD
        by_cases z2 : 9 < ec.toInt - 48
        · rw [if_pos z2] at heD; exact absurd heD.symm q
        · omega
    have nodig : eD = 0 → ¬ (48 ≤ ec.toInt ∧ ec.toInt ≤ 57) := fun q z => by
      rw [if_neg (by omega), if_neg (by omega)] at heD; rw [q] at heD; exact absurd heD (by decide)
    rcases x12 with hx1 | hx2
    · subst hx1
      rw [if_pos rfl, if_neg (by decide), if_neg (by decide)] at hln
      have gF : g (A + S) = nar .byte ec.toInt8.toInt32 := (hg S (by omega)).trans (ch_e1 (by omega) hS)
      have D : Dg g N m (A + S + 1) := fun i hi => by
        rw [show A + S + 1 + i = A + (S + 1 + i) by omega, hg _ (by omega)]
        exact ch_dig hN hm hm2 hS hS1 (by decide) rfl hi
      rw [← gF] at hB
      rcases h with ⟨q, hc⟩ | ⟨q, _, mm, lim, hmm, hlim, hc, hv⟩ | ⟨_, q, _⟩
      · left
        refine ⟨hc, bad_An (S := S) (L := m + 1) (i := A + S) hA hA1 hS1 h45 (by omega) (by omega) (fun z w => ?_) (by omega) (by omega) ?_⟩
        · subst z
          rw [show A + 0 = A from rfl, w, show (45 : Int32).toInt = 45 from rfl] at hB
          exact hBx.2.1 ⟨rfl, inj32 (by rw [hS]; rfl), inj32 (by rw [show (45 : Int32).toInt = 45 from rfl]; split at hB <;> omega)⟩
        · have := nodig q
          split at hB <;> omega
      · have hdg := dig q
        rw [if_pos (by omega)] at hB
        have n45 : ¬ g (A + S) = 45 := fun z => by rw [z, show (45 : Int32).toInt = 45 from rfl] at hB; omega
        have e1 : (ec - 48 = 0) ↔ ec.toInt = 48 := by rw [eq32, hd, show (0 : Int32).toInt = 0 from rfl]; omega
        have e2 : n = 19 ↔ m = 19 := by rw [eq32, hm, show (19 : Int32).toInt = 19 from rfl]; omega
        have e3 : n = 18 ↔ m = 18 := by rw [eq32, hm, show (18 : Int32).toInt = 18 from rfl]; omega
        simp only [e1, e2, e3, sn1] at hc hv
        by_cases c1 : ec.toInt = 48
        · rw [if_pos c1] at hc
          exact Or.inl ⟨hc.symm, lead_An (S := S) (L := m + 1) hA hA1 hS1 h45 (by omega) (by omega) (by omega) (inj32 (by rw [hB, c1]; rfl)) (Or.inl (by omega))⟩
        rw [if_neg c1] at hc
        by_cases c2 : m = 19
        · rw [if_pos c2] at hc
          exact Or.inl ⟨hc.symm, long_An (S := S) (L := m + 1) hA hA1 hS1 h45 (by omega) (by omega) (Or.inr ⟨by omega, n45⟩)⟩
        rw [if_neg c2] at hc
        have hP := P10_int (k := m) (by omega)
        have hfm : (fMin n 18).toInt.toNat = m := by
          unfold fMin; rw [if_neg (by rw [lt32, hm, show (18 : Int32).toInt = 18 from rfl]; omega)]; omega
        rw [hfm] at hmm
        have m1 := c_lmul (ec - 48).toInt64 (P10 m); have m2 := c_lsub ng ((ec - 48).toInt64 * P10 m)
        rw [hP] at m1
        have hd64e : (ec - 48).toInt64.toInt = ec.toInt - 48 := by omega
        rw [hd64e] at m1
        rw [← hmm, hN] at m2
        have hvl : vl g (A + S) (m + 1) 0 = -((ec.toInt - 48) * (10 ^ m : Nat)) - N := by
          show vl g (A + S + 1) m (10 * 0 - ((g (A + S)).toInt - 48)) = _
          rw [D.vl hm4, hB, show (10 * 0 - (ec.toInt - 48) : Int) = -(ec.toInt - 48) by omega, Int.neg_mul]
        have w1 : 0 ≤ (ec.toInt - 48) * ((10 ^ m : Nat) : Int) := Int.mul_nonneg (by omega) (by omega)
        have w2 : (ec.toInt - 48) * ((10 ^ m : Nat) : Int) ≤ 9 * ((10 ^ m : Nat) : Int) := Int.mul_le_mul_of_nonneg_right (by omega) (by omega)
        have w3 : m ≤ 17 → 10 ^ m ≤ 100000000000000000 := fun z => by have := Nat.pow_le_pow_right (n := 10) (by decide) z; omega
        have w4 : m = 18 → (ec.toInt - 48) * ((10 ^ m : Nat) : Int) = (ec.toInt - 48) * 1000000000000000000 := fun z => by rw [z, e18]
        generalize (ec.toInt - 48) * ((10 ^ m : Nat) : Int) = W at m1 hvl w1 w2 w4
        have hp : prs g a b = An S (-W - N) mm := prs_An (L := m + 1) hA hA1 hS1 h45 (by omega) (by omega) (by omega) (fun i i1 i2 => by
            by_cases z : i = A + S
            · rw [z]; omega
            · exact D.rng i (by omega) (by omega)) (Or.inl fun z => by rw [z, show (48 : Int32).toInt = 48 from rfl] at hB; omega) hvl (by
            by_cases z : m = 18
            · left; omega
            · right; have := w3 (by omega); omega) (by omega)
        have hl := lim_int (by rw [hd64e]; omega) hlim
        rw [hd64e] at hl
        simp only [lt64, hl, hN] at hc
        unfold An at hp
        by_cases c3 : m = 18
        · have w5 := w4 c3
          rw [if_pos c3] at hc
          by_cases z : S = 1
          · rw [if_pos z] at hc hv
            rw [if_neg (show ¬ S = 0 by omega)] at hp
            by_cases y : -(N : Int) < -9223372036854775808 + (ec.toInt - 48) * 1000000000000000000
            · rw [if_pos y] at hc; rw [if_neg (by omega)] at hp; exact Or.inl ⟨hc.symm, hp⟩
            · rw [if_neg y] at hc; rw [if_pos (by omega)] at hp; exact Or.inr ⟨hc.symm, by rw [hp, hv]⟩
          · rw [if_neg z] at hc hv
            rw [if_pos (show S = 0 by omega)] at hp
            by_cases y : -9223372036854775808 + (ec.toInt - 48) * 1000000000000000000 < -(N : Int)
            · rw [if_pos y] at hc; rw [if_pos (by omega), if_neg (by omega)] at hp; exact Or.inr ⟨hc.symm, by rw [hp, hv]⟩
            · rw [if_neg y] at hc
              refine Or.inl ⟨hc.symm, ?_⟩
              rw [hp]
              by_cases u : -9223372036854775808 ≤ -W - (N : Int)
              · rw [if_pos u, if_pos (by omega)]
              · rw [if_neg u]
        · have w6 := w3 (by omega)
          rw [if_neg c3] at hc
          rw [if_pos (by omega)] at hp
          refine Or.inr ⟨hc.symm, ?_⟩
          by_cases z : S = 1
          · rw [if_pos z] at hv; rw [if_neg (by omega)] at hp; rw [hp, hv]
          · rw [if_neg z] at hv; rw [if_pos (by omega), if_neg (by omega)] at hp; rw [hp, hv]
      · exact absurd rfl q
    · subst hx2
      rw [if_neg (by decide), if_neg (by decide), if_pos rfl] at hln
      have D : Dg g N m (A + S) := fun i hi => by
        rw [show A + S + i = A + (S + 0 + i) by omega, hg _ (by omega)]
        exact ch_dig hN hm hm2 hS hS1 (by decide) rfl hi
      have gE : g (A + S + m) = nar .byte ec.toInt8.toInt32 := by
        rw [show A + S + m = A + (S + m) by omega]; exact (hg (S + m) (by omega)).trans (ch_e2 hm hm2 hm1 hS hS1)
      have hfst := D.first hm1 hm3 hm4
      have hr0 := D.rng (A + S) (by omega) (by omega)
      have n45 : ¬ g (A + S) = 45 := fun z => by rw [z, show (45 : Int32).toInt = 45 from rfl] at hr0; omega
      rw [← gE] at hB
      rcases h with ⟨q, hc⟩ | ⟨_, q, _⟩ | ⟨q, _, mm, hmm, hc, hv⟩
      · left
        refine ⟨hc, bad_An (S := S) (L := m + 1) (i := A + S + m) hA hA1 hS1 h45 (by omega) (by omega) (fun z w => ?_) (by omega) (by omega) ?_⟩
        · subst z; exact n45 w
        · have := nodig q
          split at hB <;> omega
      · exact absurd q (by decide)
      · have hdg := dig q
        rw [if_pos (by omega)] at hB
        have e0 : ng = 0 ↔ N = 0 := by rw [eq64, show (0 : Int64).toInt = 0 from rfl]; omega
        have e1 : ng = -922337203685477580 ↔ N = 922337203685477580 := by rw [eq64, show (-922337203685477580 : Int64).toInt = -922337203685477580 from rfl]; omega
        have e2 : (-922337203685477580 : Int64) < ng ↔ N < 922337203685477580 := by rw [lt64, show (-922337203685477580 : Int64).toInt = -922337203685477580 from rfl]; omega
        have e3 : (8 : Int32) < ec - 48 ↔ 8 < ec.toInt - 48 := by rw [lt32, hd, show (8 : Int32).toInt = 8 from rfl]
        have e4 : (7 : Int32) < ec - 48 ↔ 7 < ec.toInt - 48 := by rw [lt32, hd, show (7 : Int32).toInt = 7 from rfl]
        simp only [e0, e1, e2, e3, e4, sn1] at hc hv
        by_cases c1 : N = 0
        · rw [if_pos c1] at hc
          exact Or.inl ⟨hc.symm, lead_An (S := S) (L := m + 1) hA hA1 hS1 h45 (by omega) (by omega) (by omega) (hfst.2 c1).2 (Or.inl (by omega))⟩
        rw [if_neg c1] at hc
        by_cases c2 : m = 19
        · have := hm3 (by omega)
          rw [c2] at this
          rw [if_neg (by omega), if_neg (by omega)] at hc
          exact Or.inl ⟨hc.symm, long_An (S := S) (L := m + 1) hA hA1 hS1 h45 (by omega) (by omega) (Or.inr ⟨by omega, n45⟩)⟩
        have m1 := c_lmul 10 ng; have m2 := c_lsub (10 * ng) (ec - 48).toInt64
        rw [show (10 : Int64).toInt = 10 from rfl, hN] at m1
        rw [← hmm] at m2
        have hvl : vl g (A + S) (m + 1) 0 = -(10 * (N : Int)) - (ec.toInt - 48) := by
          rw [vl_snoc, D.vl hm4, hB]; omega
        have w3 : m ≤ 17 → 10 ^ m ≤ 100000000000000000 := fun z => by have := Nat.pow_le_pow_right (n := 10) (by decide) z; omega
        have hp : prs g a b = An S (-(10 * (N : Int)) - (ec.toInt - 48)) mm := prs_An (L := m + 1) hA hA1 hS1 h45 (by omega) (by omega) (by omega) (fun i i1 i2 => by
            by_cases z : i = A + S + m
            · rw [z]; omega
            · exact D.rng i (by omega) (by omega)) (Or.inl fun z => c1 (hfst.1 z)) hvl (by
            by_cases z : m = 18
            · left; omega
            · right; have := w3 (by omega); omega) (by omega)
        unfold An at hp
        by_cases c3 : N < 922337203685477580
        · rw [if_pos c3] at hc
          rw [if_pos (by omega)] at hp
          refine Or.inr ⟨hc.symm, ?_⟩
          by_cases z : S = 1
          · rw [if_pos z] at hv; rw [if_neg (by omega)] at hp; rw [hp, hv]
          · rw [if_neg z] at hv; rw [if_pos (by omega), if_neg (by omega)] at hp; rw [hp, hv]
        rw [if_neg c3] at hc
        by_cases c4 : N = 922337203685477580
        · rw [if_pos c4] at hc
          by_cases z : S = 1
          · rw [if_pos z] at hc hv
            rw [if_neg (show ¬ S = 0 by omega)] at hp
            by_cases y : 8 < ec.toInt - 48
            · rw [if_pos y] at hc; rw [if_neg (by omega)] at hp; exact Or.inl ⟨hc.symm, hp⟩
            · rw [if_neg y] at hc; rw [if_pos (by omega)] at hp; exact Or.inr ⟨hc.symm, by rw [hp, hv]⟩
          · rw [if_neg z] at hc hv
            rw [if_pos (show S = 0 by omega)] at hp
            by_cases y : 7 < ec.toInt - 48
            · rw [if_pos y] at hc
              refine Or.inl ⟨hc.symm, ?_⟩
              rw [hp]
              by_cases u : -9223372036854775808 ≤ -(10 * (N : Int)) - (ec.toInt - 48)
              · rw [if_pos u, if_pos (by omega)]
              · rw [if_neg u]
            · rw [if_neg y] at hc; rw [if_pos (by omega), if_neg (by omega)] at hp; exact Or.inr ⟨hc.symm, by rw [hp, hv]⟩
        · rw [if_neg c4] at hc
          rw [if_neg (by omega)] at hp
          exact Or.inl ⟨hc.symm, hp⟩

theorem res_all {k_ ln cc off sn x_ ec n l1 l2 l3 ev0 ev1 cnt gr cv lv : Int32} {vv ng cval : Int64} {gb ge : Nat → Int32} {gi gI : Nat → Int64}
    (hsn : 0 ≤ sn.toInt ∧ sn.toInt ≤ 1) (hx : 0 ≤ x_.toInt ∧ x_.toInt ≤ 3) (hk : 0 ≤ k_.toInt ∧ k_.toInt ≤ 3) (hec : 0 ≤ ec.toInt ∧ ec.toInt ≤ 255) (hcc : 0 ≤ cc.toInt ∧ cc.toInt ≤ 255)
    (hng : (if vv < 0 then vv else -vv) = ng) (hn : n = dgs ng 18) (h1 : (if x_ = 1 then (1 : Int32) else 0) = l1) (h2 : (if x_ = 3 then (0 : Int32) else n) = l2) (h3 : (if x_ = 2 then (1 : Int32) else 0) = l3) (hln : ln = sn + l1 + l2 + l3)
    (hoff : (if k_ = 2 then (1 : Int32) else 0) = off) (hgb : GB k_ ln cc off sn x_ ec ng n gb) (he0 : (if k_ = 2 then (1 : Int32) else ln) = ev0) (he1 : (if k_ = 2 then ln else (1 : Int32)) = ev1) (hg0 : ge 0 = ev0) (hg1 : ge 1 = ev0 + ev1)
    (hcnt : (if k_ = 0 then (0 : Int32) else if k_ = 1 then 1 else 2) = cnt) (hi0 : gi 0 = 6510615555426900570) (hi1 : gi 1 = 6510615555426900570)
    (H0 : cnt = 0 → OF gb ge gi 0 gr gI) (H1 : cnt = 1 → OF gb ge gi 1 gr gI) (H2 : cnt = 2 → OF gb ge gi 2 gr gI)
    (hcv : CV sn x_ ec ng n cv cval) (hlv : (if cc < 48 then (0 : Int32) else if 57 < cc then 0 else 1) = lv) :
    (k_ = 0 → gr = 1 ∧ gI 0 = 6510615555426900570 ∧ gI 1 = 6510615555426900570) ∧
    (k_ = 1 → (cv = 0 ∧ gr = 0) ∨ (cv = 1 ∧ gr = 1 ∧ gI 0 = cval ∧ gI 1 = 6510615555426900570)) ∧
    (k_ = 2 → ((cv = 0 ∨ lv = 0) ∧ gr = 0) ∨ (cv = 1 ∧ lv = 1 ∧ gr = 1 ∧ gI 0 = (cc - 48).toInt64 ∧ gI 1 = cval)) ∧
    (k_ = 3 → ((cv = 0 ∨ lv = 0) ∧ gr = 0) ∨ (cv = 1 ∧ lv = 1 ∧ gr = 1 ∧ gI 0 = cval ∧ gI 1 = (cc - 48).toInt64)) := by
  have hn19 := n_ok hn hng
  have hl := ln_ok hsn hn19 h1 h2 h3 hln
  have i0 : (0 : Int32).toInt = 0 := rfl
  have i1 : (1 : Int32).toInt = 1 := rfl
  have lI := c_iadd 1 ln; have lI2 := rng32 (1 + ln); have lJ := c_iadd ln 1; have lJ2 := rng32 (ln + 1)
  rw [i1] at lI lJ
  refine ⟨fun q => ?_, fun q => ?_, fun q => ?_, fun q => ?_⟩
  · rw [if_pos q] at hcnt
    have h := H0 hcnt.symm
    exact ⟨h.1, h.2.1.trans hi0, h.2.2.trans hi1⟩
  · have k0 : ¬ k_ = 0 := by rw [q]; decide
    have k2 : ¬ k_ = 2 := by rw [q]; decide
    have k3 : ¬ k_ = 3 := by rw [q]; decide
    rw [if_neg k0, if_pos q] at hcnt
    rw [if_neg k2] at hoff he0
    have h := H1 hcnt.symm
    have hc := core (g := gb) (a := 0) (b := ge 0) (A := 0) hsn hx hec hng hn hl i0 (by omega) (by rw [hg0, ← he0]; omega) (fun i hi => by
      rw [show 0 + i = i by omega, hgb.2.2 i (by omega) (fun z => absurd z k2) (fun z => absurd z k3), ← hoff]
      show fCx (Int32.ofNat i - 0) sn x_ ec ng n = _
      rw [Int32.sub_zero]) hcv
    rcases h with ⟨p1, p2⟩ | ⟨v, p1, p2, p3, p4⟩
    · rcases hc with ⟨c1, c2⟩ | ⟨c1, c2⟩
      · exact Or.inl ⟨c1, p2⟩
      · rw [p1] at c2; exact absurd c2 (by simp)
    · rcases hc with ⟨c1, c2⟩ | ⟨c1, c2⟩
      · rw [p1] at c2; exact absurd c2 (by simp)
      · rw [p1] at c2
        exact Or.inr ⟨c1, p2, p3.trans (Option.some.inj c2), p4.trans hi1⟩
  · have k0 : ¬ k_ = 0 := by rw [q]; decide
    have k1 : ¬ k_ = 1 := by rw [q]; decide
    have k3 : ¬ k_ = 3 := by rw [q]; decide
    rw [if_neg k0, if_neg k1] at hcnt
    rw [if_pos q] at hoff he0 he1
    have h := H2 hcnt.symm
    have hs := single (g := gb) (a := 0) (b := ge 0) hcc (by decide) (by rw [hg0, ← he0]; decide) (by rw [hg0, ← he0]; decide) (hgb.1 q) hlv
    have hc := core (g := gb) (a := ge 0) (b := ge 1) (A := 1) hsn hx hec hng hn hl (by rw [hg0, ← he0]; rfl) (by omega) (by rw [hg1, hg0, ← he0, ← he1, i1]; omega) (fun i hi => by
      rw [hgb.2.2 (1 + i) (by omega) (fun _ => by omega) (fun z => absurd z k3), ← hoff]
      show fCx (Int32.ofNat (1 + i) - 1) sn x_ ec ng n = _
      have e : Int32.ofNat (1 + i) - 1 = Int32.ofNat i := inj32 (by
        have a1 := c_isub (Int32.ofNat (1 + i)) 1; have a2 := rng32 (Int32.ofNat (1 + i) - 1); have a3 := ofN_int (i := 1 + i) (by omega); have a4 := ofN_int (i := i) (by omega)
        rw [i1] at a1; omega)
      rw [e]) hcv
    rcases h with ⟨p1, p2⟩ | ⟨v0, v1, p1, p2, p3, p4, p5⟩
    · left
      refine ⟨?_, p2⟩
      rcases p1 with p1 | p1
      · rcases hs with c | c
        · exact Or.inr c.1
        · rw [p1] at c; exact absurd c.2 (by simp)
      · rcases hc with c | c
        · exact Or.inl c.1
        · rw [p1] at c; exact absurd c.2 (by simp)
    · rcases hs with c | c
      · rw [p1] at c; exact absurd c.2 (by simp)
      · rcases hc with d | d
        · rw [p2] at d; exact absurd d.2 (by simp)
        · rw [p1] at c; rw [p2] at d
          exact Or.inr ⟨d.1, c.1, p3, p4.trans (Option.some.inj c.2), p5.trans (Option.some.inj d.2)⟩
  · have k0 : ¬ k_ = 0 := by rw [q]; decide
    have k1 : ¬ k_ = 1 := by rw [q]; decide
    have k2 : ¬ k_ = 2 := by rw [q]; decide
    rw [if_neg k0, if_neg k1] at hcnt
    rw [if_neg k2] at hoff he0 he1
    have h := H2 hcnt.symm
    have hs := single (g := gb) (a := ge 0) (b := ge 1) hcc (by rw [hg0, ← he0]; omega) (by rw [hg1, hg0, ← he0, ← he1]; omega) (by rw [hg1, ← he0, ← he1]; omega) (by rw [hg0, ← he0]; exact hgb.2.1 q) hlv
    have hc := core (g := gb) (a := 0) (b := ge 0) (A := 0) hsn hx hec hng hn hl i0 (by omega) (by rw [hg0, ← he0]; omega) (fun i hi => by
      rw [show 0 + i = i by omega, hgb.2.2 i (by omega) (fun z => absurd z k2) (fun _ => by omega), ← hoff]
      show fCx (Int32.ofNat i - 0) sn x_ ec ng n = _
      rw [Int32.sub_zero]) hcv
    rcases h with ⟨p1, p2⟩ | ⟨v0, v1, p1, p2, p3, p4, p5⟩
    · left
      refine ⟨?_, p2⟩
      rcases p1 with p1 | p1
      · rcases hc with c | c
        · exact Or.inl c.1
        · rw [p1] at c; exact absurd c.2 (by simp)
      · rcases hs with c | c
        · exact Or.inr c.1
        · rw [p1] at c; exact absurd c.2 (by simp)
    · rcases hc with c | c
      · rw [p1] at c; exact absurd c.2 (by simp)
      · rcases hs with d | d
        · rw [p2] at d; exact absurd d.2 (by simp)
        · rw [p1] at c; rw [p2] at d
          exact Or.inr ⟨c.1, d.1, p3, p4.trans (Option.some.inj c.2), p5.trans (Option.some.inj d.2)⟩

set_option maxRecDepth 65536 in
set_option maxHeartbeats 4000000 in
theorem ct_of (l : Launch) (Z : State) (a0 : Array Value) (hw : ∀ d ∈ tables_1, d.before a0 Z = true) (a ea ia : Addr) (cnt : Int32) (hc : cnt = 0 ∨ cnt = 1 ∨ cnt = 2) (g ge : Nat → Int32) (gi : Nat → Int64) (h0 : Heap) (n0 : Nat) (Z0 : n0 ≤ h0.size) (gia : n0 ≤ ia) (h1 : a ≠ ia) (h2 : ea ≠ ia) (O : AI Z h0 a .byte 22 g) (E : AI Z h0 ea .int 2 ge) (V : AJ Z h0 ia 2 gi) (hb0 : 0 ≤ (ge 0).toInt) (hb0' : (ge 0).toInt ≤ 22) (hbb : (ge 0).toInt ≤ (ge 1).toInt) (hb1' : (ge 1).toInt ≤ 22) :
    Ct l Z (⟨"com/example/varve/varve/column/Digits", "of", "([B[II[J)Z"⟩ : MethodName) prog_40_method_2_code 12 (some .boolean) ({ frames := 0, cells := 0, slots := 0, locals := 0 } : Room) #[(.ref a), (.ref ea), (.int cnt), (.ref ia)] h0 n0 (fun v h => ∃ r g', v = some (.int r) ∧ Keep h0 h [ia] ∧ AJ Z h ia 2 g' ∧ (cnt = 0 → OF g ge gi 0 r g') ∧ (cnt = 1 → OF g ge gi 1 r g') ∧ (cnt = 2 → OF g ge gi 2 r g')) := by
  rcases hc with rfl | rfl | rfl
  · exact (ct_of0 l Z a0 hw a ea ia g ge gi h0 n0 Z0 gia h1 h2 O E V hb0 hb0' hbb hb1').imp fun v h q => by obtain ⟨r, g', q1, q2, q3, q4⟩ := q; exact ⟨r, g', q1, q2, q3, fun _ => q4, fun z => absurd z (by decide), fun z => absurd z (by decide)⟩
  · exact (ct_of1 l Z a0 hw a ea ia g ge gi h0 n0 Z0 gia h1 h2 O E V hb0 hb0' hbb hb1').imp fun v h q => by obtain ⟨r, g', q1, q2, q3, q4⟩ := q; exact ⟨r, g', q1, q2, q3, fun z => absurd z (by decide), fun _ => q4, fun z => absurd z (by decide)⟩
  · exact (ct_of2 l Z a0 hw a ea ia g ge gi h0 n0 Z0 gia h1 h2 O E V hb0 hb0' hbb hb1').imp fun v h q => by obtain ⟨r, g', q1, q2, q3, q4⟩ := q; exact ⟨r, g', q1, q2, q3, fun z => absurd z (by decide), fun z => absurd z (by decide), fun _ => q4⟩
set_option maxRecDepth 65536 in
set_option maxHeartbeats 4000000 in
theorem ct_law (l : Launch) (Z : State) (a0 : Array Value) (hw : ∀ d ∈ tables_1, d.before a0 Z = true) (vv : Int64) (fl e0 c0 : Int32) (h0 : Heap) (n0 : Nat) (Z0 : n0 ≤ h0.size) :
    Ct l Z x code maxLocals ret room_1 #[(.long vv), (.int fl), (.int e0), (.int c0)] h0 n0 (fun r _ => r = some (.int 1)) := by
  refine Ct.intro (plainFor_of_name (by first | (simp [plainName, overriddenIn, x]; done) | decide +kernel)) Z0 ?_
  intro p e s m below meth c T X
  refine WP.cast (g' := (mkF m 0 #[.val (.long vv), .second, .val (.int fl), .val (.int e0), .val (.int c0), .unset, .unset, .unset, .unset, .unset, .unset, .unset, .unset, .unset, .unset, .unset, .unset, .unset, .unset, .unset, .unset, .unset, .unset, .unset, .unset, .unset, .unset, .unset, .unset, .unset, .unset, .unset, .unset, .unset, .unset, .unset] [])) (by first | (simp [entryFrame, mkF, argsToLocals, Value.category, maxLocals]; done) | rfl) ?_
  refine w_bipush X at_0 (v := (19 : Int32)) (by decide) (pc' := 2) rfl ?_
  refine w_newarray X (aty := .long) 19 (tw0 hw) at_2 (by decide) (by decide) (by decide) (by decide) (by decide) (pc' := 4) rfl ?_; intro T h1 b1 cA1 X eq1 ga1 E1 A1
  have O2 : AJ Z h1 b1 19 (fun _ => 0) := AJ.new A1 (by decide)
  refine w_dup X at_4 rfl (pc' := 5) rfl ?_
  refine w_iconst X at_5 (v := (0 : Int32)) (by decide) (pc' := 6) rfl ?_
  refine w_lconst X at_6 (v := (1 : Int64)) (by decide) (pc' := 7) rfl ?_
  refine w_lastore X (i := 0) (x' := (1 : Int64)) O2 ga1 at_7 (by decide) (by decide) rfl (pc' := 8) rfl ?_; intro T h3 X K4 O5
  obtain ⟨g6, O7, H8⟩ := fill_stepJ (F := P10) O5 (fun k hk => absurd hk (Nat.not_lt_zero k)) (by decide +kernel)
  refine w_dup X at_8 rfl (pc' := 9) rfl ?_
  refine w_iconst X at_9 (v := (1 : Int32)) (by decide) (pc' := 10) rfl ?_
  refine w_ldcJ X at_10 (tw1 hw) (pc' := 13) rfl ?_
  refine w_lastore X (i := 1) (x' := (10 : Int64)) O7 ga1 at_13 (by decide) (by decide) rfl (pc' := 14) rfl ?_; intro T h9 X K10 O11
  obtain ⟨g12, O13, H14⟩ := fill_stepJ (F := P10) O11 H8 (by decide +kernel)
  refine w_dup X at_14 rfl (pc' := 15) rfl ?_
  refine w_iconst X at_15 (v := (2 : Int32)) (by decide) (pc' := 16) rfl ?_
  refine w_ldcJ X at_16 (tw2 hw) (pc' := 19) rfl ?_
  refine w_lastore X (i := 2) (x' := (100 : Int64)) O13 ga1 at_19 (by decide) (by decide) rfl (pc' := 20) rfl ?_; intro T h15 X K16 O17
  obtain ⟨g18, O19, H20⟩ := fill_stepJ (F := P10) O17 H14 (by decide +kernel)
  refine w_dup X at_20 rfl (pc' := 21) rfl ?_
  refine w_iconst X at_21 (v := (3 : Int32)) (by decide) (pc' := 22) rfl ?_
  refine w_ldcJ X at_22 (tw3 hw) (pc' := 25) rfl ?_
  refine w_lastore X (i := 3) (x' := (1000 : Int64)) O19 ga1 at_25 (by decide) (by decide) rfl (pc' := 26) rfl ?_; intro T h21 X K22 O23
  obtain ⟨g24, O25, H26⟩ := fill_stepJ (F := P10) O23 H20 (by decide +kernel)
  refine w_dup X at_26 rfl (pc' := 27) rfl ?_
  refine w_iconst X at_27 (v := (4 : Int32)) (by decide) (pc' := 28) rfl ?_
  refine w_ldcJ X at_28 (tw4 hw) (pc' := 31) rfl ?_
  refine w_lastore X (i := 4) (x' := (10000 : Int64)) O25 ga1 at_31 (by decide) (by decide) rfl (pc' := 32) rfl ?_; intro T h27 X K28 O29
  obtain ⟨g30, O31, H32⟩ := fill_stepJ (F := P10) O29 H26 (by decide +kernel)
  refine w_dup X at_32 rfl (pc' := 33) rfl ?_
  refine w_iconst X at_33 (v := (5 : Int32)) (by decide) (pc' := 34) rfl ?_
  refine w_ldcJ X at_34 (tw5 hw) (pc' := 37) rfl ?_
  refine w_lastore X (i := 5) (x' := (100000 : Int64)) O31 ga1 at_37 (by decide) (by decide) rfl (pc' := 38) rfl ?_; intro T h33 X K34 O35
  obtain ⟨g36, O37, H38⟩ := fill_stepJ (F := P10) O35 H32 (by decide +kernel)
  refine w_dup X at_38 rfl (pc' := 39) rfl ?_
  refine w_bipush X at_39 (v := (6 : Int32)) (by decide) (pc' := 41) rfl ?_
  refine w_ldcJ X at_41 (tw6 hw) (pc' := 44) rfl ?_
  refine w_lastore X (i := 6) (x' := (1000000 : Int64)) O37 ga1 at_44 (by decide) (by decide) rfl (pc' := 45) rfl ?_; intro T h39 X K40 O41
  obtain ⟨g42, O43, H44⟩ := fill_stepJ (F := P10) O41 H38 (by decide +kernel)
  refine w_dup X at_45 rfl (pc' := 46) rfl ?_
  refine w_bipush X at_46 (v := (7 : Int32)) (by decide) (pc' := 48) rfl ?_
  refine w_ldcJ X at_48 (tw7 hw) (pc' := 51) rfl ?_
  refine w_lastore X (i := 7) (x' := (10000000 : Int64)) O43 ga1 at_51 (by decide) (by decide) rfl (pc' := 52) rfl ?_; intro T h45 X K46 O47
  obtain ⟨g48, O49, H50⟩ := fill_stepJ (F := P10) O47 H44 (by decide +kernel)
  refine w_dup X at_52 rfl (pc' := 53) rfl ?_
  refine w_bipush X at_53 (v := (8 : Int32)) (by decide) (pc' := 55) rfl ?_
  refine w_ldcJ X at_55 (tw8 hw) (pc' := 58) rfl ?_
  refine w_lastore X (i := 8) (x' := (100000000 : Int64)) O49 ga1 at_58 (by decide) (by decide) rfl (pc' := 59) rfl ?_; intro T h51 X K52 O53
  obtain ⟨g54, O55, H56⟩ := fill_stepJ (F := P10) O53 H50 (by decide +kernel)
  refine w_dup X at_59 rfl (pc' := 60) rfl ?_
  refine w_bipush X at_60 (v := (9 : Int32)) (by decide) (pc' := 62) rfl ?_
  refine w_ldcJ X at_62 (tw9 hw) (pc' := 65) rfl ?_
  refine w_lastore X (i := 9) (x' := (1000000000 : Int64)) O55 ga1 at_65 (by decide) (by decide) rfl (pc' := 66) rfl ?_; intro T h57 X K58 O59
  obtain ⟨g60, O61, H62⟩ := fill_stepJ (F := P10) O59 H56 (by decide +kernel)
  refine w_dup X at_66 rfl (pc' := 67) rfl ?_
  refine w_bipush X at_67 (v := (10 : Int32)) (by decide) (pc' := 69) rfl ?_
  refine w_ldcJ X at_69 (tw10 hw) (pc' := 72) rfl ?_
  refine w_lastore X (i := 10) (x' := (10000000000 : Int64)) O61 ga1 at_72 (by decide) (by decide) rfl (pc' := 73) rfl ?_; intro T h63 X K64 O65
  obtain ⟨g66, O67, H68⟩ := fill_stepJ (F := P10) O65 H62 (by decide +kernel)
  refine w_dup X at_73 rfl (pc' := 74) rfl ?_
  refine w_bipush X at_74 (v := (11 : Int32)) (by decide) (pc' := 76) rfl ?_
  refine w_ldcJ X at_76 (tw11 hw) (pc' := 79) rfl ?_
  refine w_lastore X (i := 11) (x' := (100000000000 : Int64)) O67 ga1 at_79 (by decide) (by decide) rfl (pc' := 80) rfl ?_; intro T h69 X K70 O71
  obtain ⟨g72, O73, H74⟩ := fill_stepJ (F := P10) O71 H68 (by decide +kernel)
  refine w_dup X at_80 rfl (pc' := 81) rfl ?_
  refine w_bipush X at_81 (v := (12 : Int32)) (by decide) (pc' := 83) rfl ?_
  refine w_ldcJ X at_83 (tw12 hw) (pc' := 86) rfl ?_
  refine w_lastore X (i := 12) (x' := (1000000000000 : Int64)) O73 ga1 at_86 (by decide) (by decide) rfl (pc' := 87) rfl ?_; intro T h75 X K76 O77
  obtain ⟨g78, O79, H80⟩ := fill_stepJ (F := P10) O77 H74 (by decide +kernel)
  refine w_dup X at_87 rfl (pc' := 88) rfl ?_
  refine w_bipush X at_88 (v := (13 : Int32)) (by decide) (pc' := 90) rfl ?_
  refine w_ldcJ X at_90 (tw13 hw) (pc' := 93) rfl ?_
  refine w_lastore X (i := 13) (x' := (10000000000000 : Int64)) O79 ga1 at_93 (by decide) (by decide) rfl (pc' := 94) rfl ?_; intro T h81 X K82 O83
  obtain ⟨g84, O85, H86⟩ := fill_stepJ (F := P10) O83 H80 (by decide +kernel)
  refine w_dup X at_94 rfl (pc' := 95) rfl ?_
  refine w_bipush X at_95 (v := (14 : Int32)) (by decide) (pc' := 97) rfl ?_
  refine w_ldcJ X at_97 (tw14 hw) (pc' := 100) rfl ?_
  refine w_lastore X (i := 14) (x' := (100000000000000 : Int64)) O85 ga1 at_100 (by decide) (by decide) rfl (pc' := 101) rfl ?_; intro T h87 X K88 O89
  obtain ⟨g90, O91, H92⟩ := fill_stepJ (F := P10) O89 H86 (by decide +kernel)
  refine w_dup X at_101 rfl (pc' := 102) rfl ?_
  refine w_bipush X at_102 (v := (15 : Int32)) (by decide) (pc' := 104) rfl ?_
  refine w_ldcJ X at_104 (tw15 hw) (pc' := 107) rfl ?_
  refine w_lastore X (i := 15) (x' := (1000000000000000 : Int64)) O91 ga1 at_107 (by decide) (by decide) rfl (pc' := 108) rfl ?_; intro T h93 X K94 O95
  obtain ⟨g96, O97, H98⟩ := fill_stepJ (F := P10) O95 H92 (by decide +kernel)
  refine w_dup X at_108 rfl (pc' := 109) rfl ?_
  refine w_bipush X at_109 (v := (16 : Int32)) (by decide) (pc' := 111) rfl ?_
  refine w_ldcJ X at_111 (tw16 hw) (pc' := 114) rfl ?_
  refine w_lastore X (i := 16) (x' := (10000000000000000 : Int64)) O97 ga1 at_114 (by decide) (by decide) rfl (pc' := 115) rfl ?_; intro T h99 X K100 O101
  obtain ⟨g102, O103, H104⟩ := fill_stepJ (F := P10) O101 H98 (by decide +kernel)
  refine w_dup X at_115 rfl (pc' := 116) rfl ?_
  refine w_bipush X at_116 (v := (17 : Int32)) (by decide) (pc' := 118) rfl ?_
  refine w_ldcJ X at_118 (tw17 hw) (pc' := 121) rfl ?_
  refine w_lastore X (i := 17) (x' := (100000000000000000 : Int64)) O103 ga1 at_121 (by decide) (by decide) rfl (pc' := 122) rfl ?_; intro T h105 X K106 O107
  obtain ⟨g108, O109, H110⟩ := fill_stepJ (F := P10) O107 H104 (by decide +kernel)
  refine w_dup X at_122 rfl (pc' := 123) rfl ?_
  refine w_bipush X at_123 (v := (18 : Int32)) (by decide) (pc' := 125) rfl ?_
  refine w_ldcJ X at_125 (tw18 hw) (pc' := 128) rfl ?_
  refine w_lastore X (i := 18) (x' := (1000000000000000000 : Int64)) O109 ga1 at_128 (by decide) (by decide) rfl (pc' := 129) rfl ?_; intro T h111 X K112 O113
  obtain ⟨g114, O115, H116⟩ := fill_stepJ (F := P10) O113 H110 (by decide +kernel)
  replace O115 := O115.congr H116
  refine w_astore X at_129 (L' := #[.val (.long vv), .second, .val (.int fl), .val (.int e0), .val (.int c0), .val (.ref b1), .unset, .unset, .unset, .unset, .unset, .unset, .unset, .unset, .unset, .unset, .unset, .unset, .unset, .unset, .unset, .unset, .unset, .unset, .unset, .unset, .unset, .unset, .unset, .unset, .unset, .unset, .unset, .unset, .unset, .unset]) rfl rfl (pc' := 131) rfl ?_
  refine w_iloadN X at_131 rfl (pc' := 132) rfl ?_
  refine w_iconst X at_132 (v := (1 : Int32)) (by decide) (pc' := 133) rfl ?_
  refine w_iand X at_133 (pc' := 134) rfl ?_
  refine w_nameI ?_; intro sn h_sn
  refine w_istore X at_134 (L' := #[.val (.long vv), .second, .val (.int fl), .val (.int e0), .val (.int c0), .val (.ref b1), .val (.int sn), .unset, .unset, .unset, .unset, .unset, .unset, .unset, .unset, .unset, .unset, .unset, .unset, .unset, .unset, .unset, .unset, .unset, .unset, .unset, .unset, .unset, .unset, .unset, .unset, .unset, .unset, .unset, .unset, .unset]) rfl (pc' := 136) rfl ?_
  refine w_iloadN X at_136 rfl (pc' := 137) rfl ?_
  refine w_iconst X at_137 (v := (1 : Int32)) (by decide) (pc' := 138) rfl ?_
  refine w_iushr X at_138 (pc' := 139) rfl ?_
  refine w_iconst X at_139 (v := (3 : Int32)) (by decide) (pc' := 140) rfl ?_
  refine w_iand X at_140 (pc' := 141) rfl ?_
  refine w_nameI ?_; intro x_ h_x_
  refine w_istore X at_141 (L' := #[.val (.long vv), .second, .val (.int fl), .val (.int e0), .val (.int c0), .val (.ref b1), .val (.int sn), .val (.int x_), .unset, .unset, .unset, .unset, .unset, .unset, .unset, .unset, .unset, .unset, .unset, .unset, .unset, .unset, .unset, .unset, .unset, .unset, .unset, .unset, .unset, .unset, .unset, .unset, .unset, .unset, .unset, .unset]) rfl (pc' := 143) rfl ?_
  refine w_iloadN X at_143 rfl (pc' := 144) rfl ?_
  refine w_iconst X at_144 (v := (3 : Int32)) (by decide) (pc' := 145) rfl ?_
  refine w_iushr X at_145 (pc' := 146) rfl ?_
  refine w_iconst X at_146 (v := (3 : Int32)) (by decide) (pc' := 147) rfl ?_
  refine w_iand X at_147 (pc' := 148) rfl ?_
  refine w_nameI ?_; intro k_ h_k_
  refine w_istore X at_148 (L' := #[.val (.long vv), .second, .val (.int fl), .val (.int e0), .val (.int c0), .val (.ref b1), .val (.int sn), .val (.int x_), .val (.int k_), .unset, .unset, .unset, .unset, .unset, .unset, .unset, .unset, .unset, .unset, .unset, .unset, .unset, .unset, .unset, .unset, .unset, .unset, .unset, .unset, .unset, .unset, .unset, .unset, .unset, .unset, .unset]) rfl (pc' := 150) rfl ?_
  refine w_iloadN X at_150 rfl (pc' := 151) rfl ?_
  refine w_sipush X at_151 (v := (255 : Int32)) (by decide) (pc' := 154) rfl ?_
  refine w_iand X at_154 (pc' := 155) rfl ?_
  refine w_nameI ?_; intro ec h_ec
  refine w_istore X at_155 (L' := #[.val (.long vv), .second, .val (.int fl), .val (.int e0), .val (.int c0), .val (.ref b1), .val (.int sn), .val (.int x_), .val (.int k_), .val (.int ec), .unset, .unset, .unset, .unset, .unset, .unset, .unset, .unset, .unset, .unset, .unset, .unset, .unset, .unset, .unset, .unset, .unset, .unset, .unset, .unset, .unset, .unset, .unset, .unset, .unset, .unset]) rfl (pc' := 157) rfl ?_
  refine w_iload X at_157 rfl (pc' := 159) rfl ?_
  refine w_sipush X at_159 (v := (255 : Int32)) (by decide) (pc' := 162) rfl ?_
  refine w_iand X at_162 (pc' := 163) rfl ?_
  refine w_nameI ?_; intro cc h_cc
  refine w_istore X at_163 (L' := #[.val (.long vv), .second, .val (.int fl), .val (.int e0), .val (.int c0), .val (.ref b1), .val (.int sn), .val (.int x_), .val (.int k_), .val (.int ec), .val (.int cc), .unset, .unset, .unset, .unset, .unset, .unset, .unset, .unset, .unset, .unset, .unset, .unset, .unset, .unset, .unset, .unset, .unset, .unset, .unset, .unset, .unset, .unset, .unset, .unset, .unset]) rfl (pc' := 165) rfl ?_
  have hsn := fi_ok h_sn
  have hxk := And.intro (two_ok 1 h_x_) (two_ok 3 h_k_)
  have hec := byte_ok h_ec
  have hcc := byte_ok h_cc
  have J117 : ∀ T, St p l e room_1 s m #[(.long vv), (.int fl), (.int e0), (.int c0)] below meth c Z n0 x code maxLocals ret T h111 (0 + 1) (0 + 19) → ∀ (ng : Int64), ((if vv < 0 then vv else -vv) = ng) → WP p e below s n0 room_1.cells room_1.slots (fun r _ => r = some (.int 1)) T (mkF m 177 #[.val (.long vv), .second, .val (.int fl), .val (.int e0), .val (.int c0), .val (.ref b1), .val (.int sn), .val (.int x_), .val (.int k_), .val (.int ec), .val (.int cc), .unset, .unset, .unset, .unset, .unset, .unset, .unset, .unset, .unset, .unset, .unset, .unset, .unset, .unset, .unset, .unset, .unset, .unset, .unset, .unset, .unset, .unset, .unset, .unset, .unset] [(.long ng)]) := by
    intro T X ng hng
    refine w_lstore X at_177 (L' := #[.val (.long vv), .second, .val (.int fl), .val (.int e0), .val (.int c0), .val (.ref b1), .val (.int sn), .val (.int x_), .val (.int k_), .val (.int ec), .val (.int cc), .val (.long ng), .second, .unset, .unset, .unset, .unset, .unset, .unset, .unset, .unset, .unset, .unset, .unset, .unset, .unset, .unset, .unset, .unset, .unset, .unset, .unset, .unset, .unset, .unset, .unset]) rfl (pc' := 179) rfl ?_
    refine w_lload X at_179 rfl (pc' := 181) rfl ?_
    refine w_aload X at_181 rfl rfl (pc' := 183) rfl ?_
    refine w_callS X [(.long ng), (.ref b1)] [] 0 (tw19 hw) (tw20 hw) (tw21 hw) (tw22 hw) (ct_dg l Z a0 hw ng b1 h111 n0 X.n0le O115) at_183 pd1 rfl (by decide) rfl rfl rfl (by decide) (by decide) (by decide) (by decide) (pc' := 186) rfl ?_
    intro T hz v X hQ
    obtain ⟨rfl, hz1⟩ := hQ; replace hz1 := hz1.symm; subst hz1
    show WP _ _ _ _ _ _ _ _ _ (mkF m 186 #[.val (.long vv), .second, .val (.int fl), .val (.int e0), .val (.int c0), .val (.ref b1), .val (.int sn), .val (.int x_), .val (.int k_), .val (.int ec), .val (.int cc), .val (.long ng), .second, .unset, .unset, .unset, .unset, .unset, .unset, .unset, .unset, .unset, .unset, .unset, .unset, .unset, .unset, .unset, .unset, .unset, .unset, .unset, .unset, .unset, .unset, .unset] [(.int (dgs ng 18))])
    refine w_nameI ?_; intro n h_n
    refine w_istore X at_186 (L' := #[.val (.long vv), .second, .val (.int fl), .val (.int e0), .val (.int c0), .val (.ref b1), .val (.int sn), .val (.int x_), .val (.int k_), .val (.int ec), .val (.int cc), .val (.long ng), .second, .val (.int n), .unset, .unset, .unset, .unset, .unset, .unset, .unset, .unset, .unset, .unset, .unset, .unset, .unset, .unset, .unset, .unset, .unset, .unset, .unset, .unset, .unset, .unset]) rfl (pc' := 188) rfl ?_
    have hn19 := n_ok h_n hng
    refine w_iload X at_188 rfl (pc' := 190) rfl ?_
    have J118 : ∀ T, St p l e room_1 s m #[(.long vv), (.int fl), (.int e0), (.int c0)] below meth c Z n0 x code maxLocals ret T h111 ((0 + 1) + 0) ((0 + 19) + 0) → ∀ (l1 : Int32), ((if x_ = 1 then (1 : Int32) else 0) = l1) → WP p e below s n0 room_1.cells room_1.slots (fun r _ => r = some (.int 1)) T (mkF m 201 #[.val (.long vv), .second, .val (.int fl), .val (.int e0), .val (.int c0), .val (.ref b1), .val (.int sn), .val (.int x_), .val (.int k_), .val (.int ec), .val (.int cc), .val (.long ng), .second, .val (.int n), .unset, .unset, .unset, .unset, .unset, .unset, .unset, .unset, .unset, .unset, .unset, .unset, .unset, .unset, .unset, .unset, .unset, .unset, .unset, .unset, .unset, .unset] [(.int l1), (.int sn)]) := by
      intro T X l1 hl1
      refine w_iadd X at_201 (pc' := 202) rfl ?_
      have J119 : ∀ T, St p l e room_1 s m #[(.long vv), (.int fl), (.int e0), (.int c0)] below meth c Z n0 x code maxLocals ret T h111 ((0 + 1) + 0) ((0 + 19) + 0) → ∀ (l2 : Int32), ((if x_ = 3 then (0 : Int32) else n) = l2) → WP p e below s n0 room_1.cells room_1.slots (fun r _ => r = some (.int 1)) T (mkF m 214 #[.val (.long vv), .second, .val (.int fl), .val (.int e0), .val (.int c0), .val (.ref b1), .val (.int sn), .val (.int x_), .val (.int k_), .val (.int ec), .val (.int cc), .val (.long ng), .second, .val (.int n), .unset, .unset, .unset, .unset, .unset, .unset, .unset, .unset, .unset, .unset, .unset, .unset, .unset, .unset, .unset, .unset, .unset, .unset, .unset, .unset, .unset, .unset] [(.int l2), (.int (sn + l1))]) := by
        intro T X l2 hl2
        refine w_iadd X at_214 (pc' := 215) rfl ?_
        have J120 : ∀ T, St p l e room_1 s m #[(.long vv), (.int fl), (.int e0), (.int c0)] below meth c Z n0 x code maxLocals ret T h111 ((0 + 1) + 0) ((0 + 19) + 0) → ∀ (l3 : Int32), ((if x_ = 2 then (1 : Int32) else 0) = l3) → WP p e below s n0 room_1.cells room_1.slots (fun r _ => r = some (.int 1)) T (mkF m 226 #[.val (.long vv), .second, .val (.int fl), .val (.int e0), .val (.int c0), .val (.ref b1), .val (.int sn), .val (.int x_), .val (.int k_), .val (.int ec), .val (.int cc), .val (.long ng), .second, .val (.int n), .unset, .unset, .unset, .unset, .unset, .unset, .unset, .unset, .unset, .unset, .unset, .unset, .unset, .unset, .unset, .unset, .unset, .unset, .unset, .unset, .unset, .unset] [(.int l3), (.int ((sn + l1) + l2))]) := by
          intro T X l3 hl3
          refine w_iadd X at_226 (pc' := 227) rfl ?_
          refine w_nameI ?_; intro ln h_ln
          refine w_istore X at_227 (L' := #[.val (.long vv), .second, .val (.int fl), .val (.int e0), .val (.int c0), .val (.ref b1), .val (.int sn), .val (.int x_), .val (.int k_), .val (.int ec), .val (.int cc), .val (.long ng), .second, .val (.int n), .val (.int ln), .unset, .unset, .unset, .unset, .unset, .unset, .unset, .unset, .unset, .unset, .unset, .unset, .unset, .unset, .unset, .unset, .unset, .unset, .unset, .unset, .unset]) rfl (pc' := 229) rfl ?_
          have hln := ln_ok hsn hn19 hl1 hl2 hl3 h_ln
          have J121 : ∀ T, St p l e room_1 s m #[(.long vv), (.int fl), (.int e0), (.int c0)] below meth c Z n0 x code maxLocals ret T h111 ((0 + 1) + 0) ((0 + 19) + 0) → ∀ (off : Int32), ((if k_ = 2 then (1 : Int32) else 0) = off) → WP p e below s n0 room_1.cells room_1.slots (fun r _ => r = some (.int 1)) T (mkF m 240 #[.val (.long vv), .second, .val (.int fl), .val (.int e0), .val (.int c0), .val (.ref b1), .val (.int sn), .val (.int x_), .val (.int k_), .val (.int ec), .val (.int cc), .val (.long ng), .second, .val (.int n), .val (.int ln), .unset, .unset, .unset, .unset, .unset, .unset, .unset, .unset, .unset, .unset, .unset, .unset, .unset, .unset, .unset, .unset, .unset, .unset, .unset, .unset, .unset] [(.int off)]) := by
            intro T X off hoff
            refine w_istore X at_240 (L' := #[.val (.long vv), .second, .val (.int fl), .val (.int e0), .val (.int c0), .val (.ref b1), .val (.int sn), .val (.int x_), .val (.int k_), .val (.int ec), .val (.int cc), .val (.long ng), .second, .val (.int n), .val (.int ln), .val (.int off), .unset, .unset, .unset, .unset, .unset, .unset, .unset, .unset, .unset, .unset, .unset, .unset, .unset, .unset, .unset, .unset, .unset, .unset, .unset, .unset]) rfl (pc' := 242) rfl ?_
            have hoff0 := hoff
            replace hoff := off_ok hoff
            refine w_bipush X at_242 (v := (22 : Int32)) (by decide) (pc' := 244) rfl ?_
            refine w_newarray X (aty := .byte) 22 (tw23 hw) at_244 (by decide) (by decide) (by decide) (by decide) (by decide) (pc' := 246) rfl ?_; intro T h122 b122 cA122 X eq122 ga122 E122 A122
            have ne123 : b1 ≠ b122 := Nat.ne_of_lt (Nat.lt_of_lt_of_eq O115.lt eq122.symm)
            have O124 := O115.ext E122
            have O125 : AI Z h122 b122 .byte 22 (fun _ => 0) := AI.new A122 (by decide) rfl
            refine w_astore X at_246 (L' := #[.val (.long vv), .second, .val (.int fl), .val (.int e0), .val (.int c0), .val (.ref b1), .val (.int sn), .val (.int x_), .val (.int k_), .val (.int ec), .val (.int cc), .val (.long ng), .second, .val (.int n), .val (.int ln), .val (.int off), .val (.ref b122), .unset, .unset, .unset, .unset, .unset, .unset, .unset, .unset, .unset, .unset, .unset, .unset, .unset, .unset, .unset, .unset, .unset, .unset, .unset]) rfl rfl (pc' := 248) rfl ?_
            refine w_aload X at_248 rfl rfl (pc' := 250) rfl ?_
            refine w_iload X at_250 rfl (pc' := 252) rfl ?_
            refine w_iload X at_252 rfl (pc' := 254) rfl ?_
            refine w_iload X at_254 rfl (pc' := 256) rfl ?_
            refine w_iload X at_256 rfl (pc' := 258) rfl ?_
            refine w_lload X at_258 rfl (pc' := 260) rfl ?_
            refine w_iload X at_260 rfl (pc' := 262) rfl ?_
            refine w_aload X at_262 rfl rfl (pc' := 264) rfl ?_
            refine w_callS X [(.ref b122), (.int off), (.int sn), (.int x_), (.int ec), (.long ng), (.int n), (.ref b1)] [] 0 (tw24 hw) (tw25 hw) (tw21 hw) (tw26 hw) (ct_fl l Z a0 hw b122 off sn x_ ec ng n b1 (fun _ => 0) h122 n0 X.n0le ga122 (Ne.symm ne123) O125 O124 hsn hn19 hoff) at_264 pd2 rfl (by decide) rfl rfl rfl (by decide) (by decide) (by decide) (by decide) (pc' := 267) rfl ?_
            intro T h126 v X hQ
            obtain ⟨rfl, gF, K127, OB, HF⟩ := hQ
            have O128 := O124.keep K127 (ninS ne123 nin0)
            show WP _ _ _ _ _ _ _ _ _ (mkF m 267 #[.val (.long vv), .second, .val (.int fl), .val (.int e0), .val (.int c0), .val (.ref b1), .val (.int sn), .val (.int x_), .val (.int k_), .val (.int ec), .val (.int cc), .val (.long ng), .second, .val (.int n), .val (.int ln), .val (.int off), .val (.ref b122), .unset, .unset, .unset, .unset, .unset, .unset, .unset, .unset, .unset, .unset, .unset, .unset, .unset, .unset, .unset, .unset, .unset, .unset, .unset] [])
            have J129 : ∀ T h130, St p l e room_1 s m #[(.long vv), (.int fl), (.int e0), (.int c0)] below meth c Z n0 x code maxLocals ret T h130 ((((0 + 1) + 0) + 1) + 0) ((((0 + 19) + 0) + 22) + 0) → ∀ (gb : Nat → Int32), AJ Z h130 b1 19 P10 → AI Z h130 b122 .byte 22 gb → (GB k_ ln cc off sn x_ ec ng n gb) → WP p e below s n0 room_1.cells room_1.slots (fun r _ => r = some (.int 1)) T (mkF m 294 #[.val (.long vv), .second, .val (.int fl), .val (.int e0), .val (.int c0), .val (.ref b1), .val (.int sn), .val (.int x_), .val (.int k_), .val (.int ec), .val (.int cc), .val (.long ng), .second, .val (.int n), .val (.int ln), .val (.int off), .val (.ref b122), .unset, .unset, .unset, .unset, .unset, .unset, .unset, .unset, .unset, .unset, .unset, .unset, .unset, .unset, .unset, .unset, .unset, .unset, .unset] []) := by
              intro T h130 X gb O131 O132 hgb
              refine w_iconst X at_294 (v := (2 : Int32)) (by decide) (pc' := 295) rfl ?_
              refine w_newarray X (aty := .int) 2 (tw30 hw) at_295 (by decide) (by decide) (by decide) (by decide) (by decide) (pc' := 297) rfl ?_; intro T h133 b133 cA133 X eq133 ga133 E133 A133
              have ne134 : b1 ≠ b133 := Nat.ne_of_lt (Nat.lt_of_lt_of_eq O131.lt eq133.symm)
              have ne135 : b122 ≠ b133 := Nat.ne_of_lt (Nat.lt_of_lt_of_eq O132.lt eq133.symm)
              have O136 := O131.ext E133
              have O137 := O132.ext E133
              have O138 : AI Z h133 b133 .int 2 (fun _ => 0) := AI.new A133 (by decide) rfl
              refine w_astore X at_297 (L' := #[.val (.long vv), .second, .val (.int fl), .val (.int e0), .val (.int c0), .val (.ref b1), .val (.int sn), .val (.int x_), .val (.int k_), .val (.int ec), .val (.int cc), .val (.long ng), .second, .val (.int n), .val (.int ln), .val (.int off), .val (.ref b122), .val (.ref b133), .unset, .unset, .unset, .unset, .unset, .unset, .unset, .unset, .unset, .unset, .unset, .unset, .unset, .unset, .unset, .unset, .unset, .unset]) rfl rfl (pc' := 299) rfl ?_
              refine w_aload X at_299 rfl rfl (pc' := 301) rfl ?_
              refine w_iconst X at_301 (v := (0 : Int32)) (by decide) (pc' := 302) rfl ?_
              have J139 : ∀ T, St p l e room_1 s m #[(.long vv), (.int fl), (.int e0), (.int c0)] below meth c Z n0 x code maxLocals ret T h133 (((((0 + 1) + 0) + 1) + 0) + 1) (((((0 + 19) + 0) + 22) + 0) + 2) → ∀ (ev0 : Int32), ((if k_ = 2 then (1 : Int32) else ln) = ev0) → WP p e below s n0 room_1.cells room_1.slots (fun r _ => r = some (.int 1)) T (mkF m 314 #[.val (.long vv), .second, .val (.int fl), .val (.int e0), .val (.int c0), .val (.ref b1), .val (.int sn), .val (.int x_), .val (.int k_), .val (.int ec), .val (.int cc), .val (.long ng), .second, .val (.int n), .val (.int ln), .val (.int off), .val (.ref b122), .val (.ref b133), .unset, .unset, .unset, .unset, .unset, .unset, .unset, .unset, .unset, .unset, .unset, .unset, .unset, .unset, .unset, .unset, .unset, .unset] [(.int ev0), (.int (0 : Int32)), (.ref b133)]) := by
                intro T X ev0 hev0
                refine w_iastore X (i := 0) (x' := ev0) O138 ga133 at_314 (by decide) (by decide) rfl (pc' := 315) rfl ?_; intro T h140 X K141 O142
                have O143 := O136.keep K141 (ninS ne134 nin0)
                have O144 := O137.keep K141 (ninS ne135 nin0)
                refine w_aload X at_315 rfl rfl (pc' := 317) rfl ?_
                refine w_iconst X at_317 (v := (1 : Int32)) (by decide) (pc' := 318) rfl ?_
                refine w_aload X at_318 rfl rfl (pc' := 320) rfl ?_
                refine w_iconst X at_320 (v := (0 : Int32)) (by decide) (pc' := 321) rfl ?_
                refine w_iaload X (i := 0) (v := ev0) O142 at_321 (by decide) (by decide) rfl (pc' := 322) rfl ?_
                have J145 : ∀ T, St p l e room_1 s m #[(.long vv), (.int fl), (.int e0), (.int c0)] below meth c Z n0 x code maxLocals ret T h140 (((((0 + 1) + 0) + 1) + 0) + 1) (((((0 + 19) + 0) + 22) + 0) + 2) → ∀ (ev1 : Int32), ((if k_ = 2 then ln else (1 : Int32)) = ev1) → WP p e below s n0 room_1.cells room_1.slots (fun r _ => r = some (.int 1)) T (mkF m 334 #[.val (.long vv), .second, .val (.int fl), .val (.int e0), .val (.int c0), .val (.ref b1), .val (.int sn), .val (.int x_), .val (.int k_), .val (.int ec), .val (.int cc), .val (.long ng), .second, .val (.int n), .val (.int ln), .val (.int off), .val (.ref b122), .val (.ref b133), .unset, .unset, .unset, .unset, .unset, .unset, .unset, .unset, .unset, .unset, .unset, .unset, .unset, .unset, .unset, .unset, .unset, .unset] [(.int ev1), (.int ev0), (.int (1 : Int32)), (.ref b133)]) := by
                  intro T X ev1 hev1
                  refine w_iadd X at_334 (pc' := 335) rfl ?_
                  refine w_iastore X (i := 1) (x' := (ev0 + ev1)) O142 ga133 at_335 (by decide) (by decide) rfl (pc' := 336) rfl ?_; intro T h146 X K147 O148
                  have O149 := O143.keep K147 (ninS ne134 nin0)
                  have O150 := O144.keep K147 (ninS ne135 nin0)
                  obtain ⟨ge, O151, hge0, hge1⟩ := gen2I O148
                  have hE := ends_ok hln hev0 hev1 hge0 hge1
                  have J152 : ∀ T, St p l e room_1 s m #[(.long vv), (.int fl), (.int e0), (.int c0)] below meth c Z n0 x code maxLocals ret T h146 (((((0 + 1) + 0) + 1) + 0) + 1) (((((0 + 19) + 0) + 22) + 0) + 2) → ∀ (cnt : Int32), ((if k_ = 0 then (0 : Int32) else if k_ = 1 then 1 else 2) = cnt) → WP p e below s n0 room_1.cells room_1.slots (fun r _ => r = some (.int 1)) T (mkF m 356 #[.val (.long vv), .second, .val (.int fl), .val (.int e0), .val (.int c0), .val (.ref b1), .val (.int sn), .val (.int x_), .val (.int k_), .val (.int ec), .val (.int cc), .val (.long ng), .second, .val (.int n), .val (.int ln), .val (.int off), .val (.ref b122), .val (.ref b133), .unset, .unset, .unset, .unset, .unset, .unset, .unset, .unset, .unset, .unset, .unset, .unset, .unset, .unset, .unset, .unset, .unset, .unset] [(.int cnt)]) := by
                    intro T X cnt hcnt
                    refine w_istore X at_356 (L' := #[.val (.long vv), .second, .val (.int fl), .val (.int e0), .val (.int c0), .val (.ref b1), .val (.int sn), .val (.int x_), .val (.int k_), .val (.int ec), .val (.int cc), .val (.long ng), .second, .val (.int n), .val (.int ln), .val (.int off), .val (.ref b122), .val (.ref b133), .val (.int cnt), .unset, .unset, .unset, .unset, .unset, .unset, .unset, .unset, .unset, .unset, .unset, .unset, .unset, .unset, .unset, .unset, .unset]) rfl (pc' := 358) rfl ?_
                    refine w_ldcJ X at_358 (tw31 hw) (pc' := 361) rfl ?_
                    refine w_lstore X at_361 (L' := #[.val (.long vv), .second, .val (.int fl), .val (.int e0), .val (.int c0), .val (.ref b1), .val (.int sn), .val (.int x_), .val (.int k_), .val (.int ec), .val (.int cc), .val (.long ng), .second, .val (.int n), .val (.int ln), .val (.int off), .val (.ref b122), .val (.ref b133), .val (.int cnt), .val (.long (6510615555426900570 : Int64)), .second, .unset, .unset, .unset, .unset, .unset, .unset, .unset, .unset, .unset, .unset, .unset, .unset, .unset, .unset, .unset]) rfl (pc' := 363) rfl ?_
                    refine w_iconst X at_363 (v := (2 : Int32)) (by decide) (pc' := 364) rfl ?_
                    refine w_newarray X (aty := .long) 2 (tw0 hw) at_364 (by decide) (by decide) (by decide) (by decide) (by decide) (pc' := 366) rfl ?_; intro T h153 b153 cA153 X eq153 ga153 E153 A153
                    have ne154 : b1 ≠ b153 := Nat.ne_of_lt (Nat.lt_of_lt_of_eq O149.lt eq153.symm)
                    have ne155 : b122 ≠ b153 := Nat.ne_of_lt (Nat.lt_of_lt_of_eq O150.lt eq153.symm)
                    have ne156 : b133 ≠ b153 := Nat.ne_of_lt (Nat.lt_of_lt_of_eq O151.lt eq153.symm)
                    have O157 := O149.ext E153
                    have O158 := O150.ext E153
                    have O159 := O151.ext E153
                    have O160 : AJ Z h153 b153 2 (fun _ => 0) := AJ.new A153 (by decide)
                    refine w_astore X at_366 (L' := #[.val (.long vv), .second, .val (.int fl), .val (.int e0), .val (.int c0), .val (.ref b1), .val (.int sn), .val (.int x_), .val (.int k_), .val (.int ec), .val (.int cc), .val (.long ng), .second, .val (.int n), .val (.int ln), .val (.int off), .val (.ref b122), .val (.ref b133), .val (.int cnt), .val (.long (6510615555426900570 : Int64)), .second, .val (.ref b153), .unset, .unset, .unset, .unset, .unset, .unset, .unset, .unset, .unset, .unset, .unset, .unset, .unset, .unset]) rfl rfl (pc' := 368) rfl ?_
                    refine w_aload X at_368 rfl rfl (pc' := 370) rfl ?_
                    refine w_iconst X at_370 (v := (0 : Int32)) (by decide) (pc' := 371) rfl ?_
                    refine w_lload X at_371 rfl (pc' := 373) rfl ?_
                    refine w_lastore X (i := 0) (x' := (6510615555426900570 : Int64)) O160 ga153 at_373 (by decide) (by decide) rfl (pc' := 374) rfl ?_; intro T h161 X K162 O163
                    have O164 := O157.keep K162 (ninS ne154 nin0)
                    have O165 := O158.keep K162 (ninS ne155 nin0)
                    have O166 := O159.keep K162 (ninS ne156 nin0)
                    refine w_aload X at_374 rfl rfl (pc' := 376) rfl ?_
                    refine w_iconst X at_376 (v := (1 : Int32)) (by decide) (pc' := 377) rfl ?_
                    refine w_lload X at_377 rfl (pc' := 379) rfl ?_
                    refine w_lastore X (i := 1) (x' := (6510615555426900570 : Int64)) O163 ga153 at_379 (by decide) (by decide) rfl (pc' := 380) rfl ?_; intro T h167 X K168 O169
                    have O170 := O164.keep K168 (ninS ne154 nin0)
                    have O171 := O165.keep K168 (ninS ne155 nin0)
                    have O172 := O166.keep K168 (ninS ne156 nin0)
                    obtain ⟨gi, O173, hgi0, hgi1⟩ := gen2J O169
                    refine w_aload X at_380 rfl rfl (pc' := 382) rfl ?_
                    refine w_aload X at_382 rfl rfl (pc' := 384) rfl ?_
                    refine w_iload X at_384 rfl (pc' := 386) rfl ?_
                    refine w_aload X at_386 rfl rfl (pc' := 388) rfl ?_
                    refine w_callS X [(.ref b122), (.ref b133), (.int cnt), (.ref b153)] [] 0 (tw32 hw) (tw33 hw) (tw34 hw) (tw35 hw) (ct_of l Z a0 hw b122 b133 b153 cnt (cnt_ok hcnt) gb ge gi h167 n0 X.n0le ga153 ne155 ne156 O171 O172 O173 hE.1 hE.2.1 hE.2.2.1 hE.2.2.2) at_388 pd3 rfl (by decide) rfl rfl rfl (by decide) (by decide) (by decide) (by decide) (pc' := 391) rfl ?_
                    intro T h174 v X hQ
                    obtain ⟨gr, gI, rfl, K175, OI, HO0, HO1, HO2⟩ := hQ
                    have O176 := O170.keep K175 (ninS ne154 nin0)
                    have O177 := O171.keep K175 (ninS ne155 nin0)
                    have O178 := O172.keep K175 (ninS ne156 nin0)
                    show WP _ _ _ _ _ _ _ _ _ (mkF m 391 #[.val (.long vv), .second, .val (.int fl), .val (.int e0), .val (.int c0), .val (.ref b1), .val (.int sn), .val (.int x_), .val (.int k_), .val (.int ec), .val (.int cc), .val (.long ng), .second, .val (.int n), .val (.int ln), .val (.int off), .val (.ref b122), .val (.ref b133), .val (.int cnt), .val (.long (6510615555426900570 : Int64)), .second, .val (.ref b153), .unset, .unset, .unset, .unset, .unset, .unset, .unset, .unset, .unset, .unset, .unset, .unset, .unset, .unset] [(.int gr)])
                    refine w_istore X at_391 (L' := #[.val (.long vv), .second, .val (.int fl), .val (.int e0), .val (.int c0), .val (.ref b1), .val (.int sn), .val (.int x_), .val (.int k_), .val (.int ec), .val (.int cc), .val (.long ng), .second, .val (.int n), .val (.int ln), .val (.int off), .val (.ref b122), .val (.ref b133), .val (.int cnt), .val (.long (6510615555426900570 : Int64)), .second, .val (.ref b153), .val (.int gr), .unset, .unset, .unset, .unset, .unset, .unset, .unset, .unset, .unset, .unset, .unset, .unset, .unset]) rfl (pc' := 393) rfl ?_
                    refine w_iload X at_393 rfl (pc' := 395) rfl ?_
                    refine w_bipush X at_395 (v := (48 : Int32)) (by decide) (pc' := 397) rfl ?_
                    refine w_isub X at_397 (pc' := 398) rfl ?_
                    refine w_istore X at_398 (L' := #[.val (.long vv), .second, .val (.int fl), .val (.int e0), .val (.int c0), .val (.ref b1), .val (.int sn), .val (.int x_), .val (.int k_), .val (.int ec), .val (.int cc), .val (.long ng), .second, .val (.int n), .val (.int ln), .val (.int off), .val (.ref b122), .val (.ref b133), .val (.int cnt), .val (.long (6510615555426900570 : Int64)), .second, .val (.ref b153), .val (.int gr), .unset, .unset, .unset, .val (.int (ec - (48 : Int32))), .unset, .unset, .unset, .unset, .unset, .unset, .unset, .unset, .unset]) rfl (pc' := 400) rfl ?_
                    have J179 : ∀ T, St p l e room_1 s m #[(.long vv), (.int fl), (.int e0), (.int c0)] below meth c Z n0 x code maxLocals ret T h174 (((((((0 + 1) + 0) + 1) + 0) + 1) + 1) + 0) (((((((0 + 19) + 0) + 22) + 0) + 2) + 2) + 0) → ∀ (eD : Int32), ((if (ec - (48 : Int32)) < 0 then (0 : Int32) else if 9 < (ec - (48 : Int32)) then 0 else 1) = eD) → WP p e below s n0 room_1.cells room_1.slots (fun r _ => r = some (.int 1)) T (mkF m 417 #[.val (.long vv), .second, .val (.int fl), .val (.int e0), .val (.int c0), .val (.ref b1), .val (.int sn), .val (.int x_), .val (.int k_), .val (.int ec), .val (.int cc), .val (.long ng), .second, .val (.int n), .val (.int ln), .val (.int off), .val (.ref b122), .val (.ref b133), .val (.int cnt), .val (.long (6510615555426900570 : Int64)), .second, .val (.ref b153), .val (.int gr), .unset, .unset, .unset, .val (.int (ec - (48 : Int32))), .unset, .unset, .unset, .unset, .unset, .unset, .unset, .unset, .unset] [(.int eD)]) := by
                      intro T X eD heD
                      refine w_istore X at_417 (L' := #[.val (.long vv), .second, .val (.int fl), .val (.int e0), .val (.int c0), .val (.ref b1), .val (.int sn), .val (.int x_), .val (.int k_), .val (.int ec), .val (.int cc), .val (.long ng), .second, .val (.int n), .val (.int ln), .val (.int off), .val (.ref b122), .val (.ref b133), .val (.int cnt), .val (.long (6510615555426900570 : Int64)), .second, .val (.ref b153), .val (.int gr), .unset, .unset, .unset, .val (.int (ec - (48 : Int32))), .val (.int eD), .unset, .unset, .unset, .unset, .unset, .unset, .unset, .unset]) rfl (pc' := 419) rfl ?_
                      have J180 : ∀ T, St p l e room_1 s m #[(.long vv), (.int fl), (.int e0), (.int c0)] below meth c Z n0 x code maxLocals ret T h174 (((((((0 + 1) + 0) + 1) + 0) + 1) + 1) + 0) (((((((0 + 19) + 0) + 22) + 0) + 2) + 2) + 0) → ∀ (cv : Int32), ∀ (cval : Int64), ∀ (lv : Int32), (CV sn x_ ec ng n cv cval ∧ (if cc < 48 then (0 : Int32) else if 57 < cc then 0 else 1) = lv) → WP p e below s n0 room_1.cells room_1.slots (fun r _ => r = some (.int 1)) T (mkF m 781 #[.val (.long vv), .second, .val (.int fl), .val (.int e0), .val (.int c0), .val (.ref b1), .val (.int sn), .val (.int x_), .val (.int k_), .val (.int ec), .val (.int cc), .val (.long ng), .second, .val (.int n), .val (.int ln), .val (.int off), .val (.ref b122), .val (.ref b133), .val (.int cnt), .val (.long (6510615555426900570 : Int64)), .second, .val (.ref b153), .val (.int gr), .val (.int cv), .val (.long cval), .second, .val (.int (ec - (48 : Int32))), .val (.int eD), .val (.int lv), .val (.long ((cc - (48 : Int32))).toInt64), .second, .unset, .unset, .unset, .unset, .unset] []) := by
                        intro T X cv cval lv hCL
                        have RES := res_all hsn hxk.1 hxk.2 hec hcc hng h_n hl1 hl2 hl3 h_ln hoff0 hgb hev0 hev1 hge0 hge1 hcnt hgi0 hgi1 HO0 HO1 HO2 hCL.1 hCL.2
                        have J181 : ∀ T, St p l e room_1 s m #[(.long vv), (.int fl), (.int e0), (.int c0)] below meth c Z n0 x code maxLocals ret T h174 (((((((0 + 1) + 0) + 1) + 0) + 1) + 1) + 0) (((((((0 + 19) + 0) + 22) + 0) + 2) + 2) + 0) → ∀ (want : Int32), ∀ (w0 : Int64), ∀ (w1 : Int64), (gr = want ∧ (¬ want = 0 → gI 0 = w0 ∧ gI 1 = w1)) → WP p e below s n0 room_1.cells room_1.slots (fun r _ => r = some (.int 1)) T (mkF m 880 #[.val (.long vv), .second, .val (.int fl), .val (.int e0), .val (.int c0), .val (.ref b1), .val (.int sn), .val (.int x_), .val (.int k_), .val (.int ec), .val (.int cc), .val (.long ng), .second, .val (.int n), .val (.int ln), .val (.int off), .val (.ref b122), .val (.ref b133), .val (.int cnt), .val (.long (6510615555426900570 : Int64)), .second, .val (.ref b153), .val (.int gr), .val (.int cv), .val (.long cval), .second, .val (.int (ec - (48 : Int32))), .val (.int eD), .val (.int lv), .val (.long ((cc - (48 : Int32))).toInt64), .second, .val (.int want), .val (.long w0), .second, .val (.long w1), .second] []) := by
                          intro T X want w0 w1 hW
                          refine w_iload X at_880 rfl (pc' := 882) rfl ?_
                          refine w_iload X at_882 rfl (pc' := 884) rfl ?_
                          refine w_icmp_eq X at_884 (by decide) (p1 := 889) (by decide) (p2 := 887) rfl (fun c884 => ?_) (fun c884 => False.elim (c884 hW.1))
                          refine w_iload X at_889 rfl (pc' := 891) rfl ?_
                          refine w_if_eq X at_891 (by decide) (p1 := 914) (by decide) (p2 := 894) rfl (fun c891 => ?_) (fun c891 => ?_)
                          · -- c891 taken
                            refine w_iconst X at_914 (v := (1 : Int32)) (by decide) (pc' := 915) rfl ?_
                            refine w_goto X at_915 (by decide) (pc' := 919) (by decide) ?_
                            exact w_retZ X rfl at_919 (by decide) (by decide) (by decide) rfl
                          · -- c891 not taken
                            refine w_aload X at_894 rfl rfl (pc' := 896) rfl ?_
                            refine w_iconst X at_896 (v := (0 : Int32)) (by decide) (pc' := 897) rfl ?_
                            refine w_laload X (i := 0) OI at_897 (by decide) (by decide) rfl (pc' := 898) rfl ?_
                            refine w_lload X at_898 rfl (pc' := 900) rfl ?_
                            refine w_lcmp_ne X at_900 (p0 := 901) rfl at_901 (by decide) (p1 := 918) (by decide) (p2 := 904) rfl (fun c900 => False.elim (c900 (hW.2 c891).1)) (fun c900 => ?_)
                            refine w_aload X at_904 rfl rfl (pc' := 906) rfl ?_
                            refine w_iconst X at_906 (v := (1 : Int32)) (by decide) (pc' := 907) rfl ?_
                            refine w_laload X (i := 1) OI at_907 (by decide) (by decide) rfl (pc' := 908) rfl ?_
                            refine w_lload X at_908 rfl (pc' := 910) rfl ?_
                            refine w_lcmp_ne X at_910 (p0 := 911) rfl at_911 (by decide) (p1 := 918) (by decide) (p2 := 914) rfl (fun c910 => False.elim (c910 (hW.2 c891).2)) (fun c910 => ?_)
                            refine w_iconst X at_914 (v := (1 : Int32)) (by decide) (pc' := 915) rfl ?_
                            refine w_goto X at_915 (by decide) (pc' := 919) (by decide) ?_
                            exact w_retZ X rfl at_919 (by decide) (by decide) (by decide) rfl
                        refine w_iload X at_781 rfl (pc' := 783) rfl ?_
                        refine w_if_ne X at_783 (by decide) (p1 := 800) (by decide) (p2 := 786) rfl (fun c783 => ?_) (fun c783 => ?_)
                        · -- c783 taken
                          refine w_iload X at_800 rfl (pc' := 802) rfl ?_
                          refine w_iconst X at_802 (v := (1 : Int32)) (by decide) (pc' := 803) rfl ?_
                          refine w_icmp_ne X at_803 (by decide) (p1 := 821) (by decide) (p2 := 806) rfl (fun c803 => ?_) (fun c803 => ?_)
                          · -- c803 taken
                            refine w_iload X at_821 rfl (pc' := 823) rfl ?_
                            refine w_iconst X at_823 (v := (2 : Int32)) (by decide) (pc' := 824) rfl ?_
                            refine w_icmp_ne X at_824 (by decide) (p1 := 855) (by decide) (p2 := 827) rfl (fun c824 => ?_) (fun c824 => ?_)
                            · -- c824 taken
                              refine w_iload X at_855 rfl (pc' := 857) rfl ?_
                              refine w_if_eq X at_857 (by decide) (p1 := 869) (by decide) (p2 := 860) rfl (fun c857 => ?_) (fun c857 => ?_)
                              · -- c857 taken
                                refine w_iconst X at_869 (v := (0 : Int32)) (by decide) (pc' := 870) rfl ?_
                                refine w_istore X at_870 (L' := #[.val (.long vv), .second, .val (.int fl), .val (.int e0), .val (.int c0), .val (.ref b1), .val (.int sn), .val (.int x_), .val (.int k_), .val (.int ec), .val (.int cc), .val (.long ng), .second, .val (.int n), .val (.int ln), .val (.int off), .val (.ref b122), .val (.ref b133), .val (.int cnt), .val (.long (6510615555426900570 : Int64)), .second, .val (.ref b153), .val (.int gr), .val (.int cv), .val (.long cval), .second, .val (.int (ec - (48 : Int32))), .val (.int eD), .val (.int lv), .val (.long ((cc - (48 : Int32))).toInt64), .second, .val (.int (0 : Int32)), .unset, .unset, .unset, .unset]) rfl (pc' := 872) rfl ?_
                                refine w_lload X at_872 rfl (pc' := 874) rfl ?_
                                refine w_lstore X at_874 (L' := #[.val (.long vv), .second, .val (.int fl), .val (.int e0), .val (.int c0), .val (.ref b1), .val (.int sn), .val (.int x_), .val (.int k_), .val (.int ec), .val (.int cc), .val (.long ng), .second, .val (.int n), .val (.int ln), .val (.int off), .val (.ref b122), .val (.ref b133), .val (.int cnt), .val (.long (6510615555426900570 : Int64)), .second, .val (.ref b153), .val (.int gr), .val (.int cv), .val (.long cval), .second, .val (.int (ec - (48 : Int32))), .val (.int eD), .val (.int lv), .val (.long ((cc - (48 : Int32))).toInt64), .second, .val (.int (0 : Int32)), .val (.long cval), .second, .unset, .unset]) rfl (pc' := 876) rfl ?_
                                refine w_lload X at_876 rfl (pc' := 878) rfl ?_
                                refine w_lstore X at_878 (L' := #[.val (.long vv), .second, .val (.int fl), .val (.int e0), .val (.int c0), .val (.ref b1), .val (.int sn), .val (.int x_), .val (.int k_), .val (.int ec), .val (.int cc), .val (.long ng), .second, .val (.int n), .val (.int ln), .val (.int off), .val (.ref b122), .val (.ref b133), .val (.int cnt), .val (.long (6510615555426900570 : Int64)), .second, .val (.ref b153), .val (.int gr), .val (.int cv), .val (.long cval), .second, .val (.int (ec - (48 : Int32))), .val (.int eD), .val (.int lv), .val (.long ((cc - (48 : Int32))).toInt64), .second, .val (.int (0 : Int32)), .val (.long cval), .second, .val (.long ((cc - (48 : Int32))).toInt64), .second]) rfl (pc' := 880) rfl ?_
                                exact J181 T X (0 : Int32) cval (((cc - (48 : Int32))).toInt64) ((RES.2.2.2 (k_three hxk.2 c783 c803 c824)).elim (fun q => ⟨q.2, fun z => absurd rfl z⟩) (fun q => absurd (c857.symm.trans q.1) (by decide)))
                              · -- c857 not taken
                                refine w_iload X at_860 rfl (pc' := 862) rfl ?_
                                refine w_if_eq X at_862 (by decide) (p1 := 869) (by decide) (p2 := 865) rfl (fun c862 => ?_) (fun c862 => ?_)
                                · -- c862 taken
                                  refine w_iconst X at_869 (v := (0 : Int32)) (by decide) (pc' := 870) rfl ?_
                                  refine w_istore X at_870 (L' := #[.val (.long vv), .second, .val (.int fl), .val (.int e0), .val (.int c0), .val (.ref b1), .val (.int sn), .val (.int x_), .val (.int k_), .val (.int ec), .val (.int cc), .val (.long ng), .second, .val (.int n), .val (.int ln), .val (.int off), .val (.ref b122), .val (.ref b133), .val (.int cnt), .val (.long (6510615555426900570 : Int64)), .second, .val (.ref b153), .val (.int gr), .val (.int cv), .val (.long cval), .second, .val (.int (ec - (48 : Int32))), .val (.int eD), .val (.int lv), .val (.long ((cc - (48 : Int32))).toInt64), .second, .val (.int (0 : Int32)), .unset, .unset, .unset, .unset]) rfl (pc' := 872) rfl ?_
                                  refine w_lload X at_872 rfl (pc' := 874) rfl ?_
                                  refine w_lstore X at_874 (L' := #[.val (.long vv), .second, .val (.int fl), .val (.int e0), .val (.int c0), .val (.ref b1), .val (.int sn), .val (.int x_), .val (.int k_), .val (.int ec), .val (.int cc), .val (.long ng), .second, .val (.int n), .val (.int ln), .val (.int off), .val (.ref b122), .val (.ref b133), .val (.int cnt), .val (.long (6510615555426900570 : Int64)), .second, .val (.ref b153), .val (.int gr), .val (.int cv), .val (.long cval), .second, .val (.int (ec - (48 : Int32))), .val (.int eD), .val (.int lv), .val (.long ((cc - (48 : Int32))).toInt64), .second, .val (.int (0 : Int32)), .val (.long cval), .second, .unset, .unset]) rfl (pc' := 876) rfl ?_
                                  refine w_lload X at_876 rfl (pc' := 878) rfl ?_
                                  refine w_lstore X at_878 (L' := #[.val (.long vv), .second, .val (.int fl), .val (.int e0), .val (.int c0), .val (.ref b1), .val (.int sn), .val (.int x_), .val (.int k_), .val (.int ec), .val (.int cc), .val (.long ng), .second, .val (.int n), .val (.int ln), .val (.int off), .val (.ref b122), .val (.ref b133), .val (.int cnt), .val (.long (6510615555426900570 : Int64)), .second, .val (.ref b153), .val (.int gr), .val (.int cv), .val (.long cval), .second, .val (.int (ec - (48 : Int32))), .val (.int eD), .val (.int lv), .val (.long ((cc - (48 : Int32))).toInt64), .second, .val (.int (0 : Int32)), .val (.long cval), .second, .val (.long ((cc - (48 : Int32))).toInt64), .second]) rfl (pc' := 880) rfl ?_
                                  exact J181 T X (0 : Int32) cval (((cc - (48 : Int32))).toInt64) ((RES.2.2.2 (k_three hxk.2 c783 c803 c824)).elim (fun q => ⟨q.2, fun z => absurd rfl z⟩) (fun q => absurd (c862.symm.trans q.2.1) (by decide)))
                                · -- c862 not taken
                                  refine w_iconst X at_865 (v := (1 : Int32)) (by decide) (pc' := 866) rfl ?_
                                  refine w_goto X at_866 (by decide) (pc' := 870) (by decide) ?_
                                  refine w_istore X at_870 (L' := #[.val (.long vv), .second, .val (.int fl), .val (.int e0), .val (.int c0), .val (.ref b1), .val (.int sn), .val (.int x_), .val (.int k_), .val (.int ec), .val (.int cc), .val (.long ng), .second, .val (.int n), .val (.int ln), .val (.int off), .val (.ref b122), .val (.ref b133), .val (.int cnt), .val (.long (6510615555426900570 : Int64)), .second, .val (.ref b153), .val (.int gr), .val (.int cv), .val (.long cval), .second, .val (.int (ec - (48 : Int32))), .val (.int eD), .val (.int lv), .val (.long ((cc - (48 : Int32))).toInt64), .second, .val (.int (1 : Int32)), .unset, .unset, .unset, .unset]) rfl (pc' := 872) rfl ?_
                                  refine w_lload X at_872 rfl (pc' := 874) rfl ?_
                                  refine w_lstore X at_874 (L' := #[.val (.long vv), .second, .val (.int fl), .val (.int e0), .val (.int c0), .val (.ref b1), .val (.int sn), .val (.int x_), .val (.int k_), .val (.int ec), .val (.int cc), .val (.long ng), .second, .val (.int n), .val (.int ln), .val (.int off), .val (.ref b122), .val (.ref b133), .val (.int cnt), .val (.long (6510615555426900570 : Int64)), .second, .val (.ref b153), .val (.int gr), .val (.int cv), .val (.long cval), .second, .val (.int (ec - (48 : Int32))), .val (.int eD), .val (.int lv), .val (.long ((cc - (48 : Int32))).toInt64), .second, .val (.int (1 : Int32)), .val (.long cval), .second, .unset, .unset]) rfl (pc' := 876) rfl ?_
                                  refine w_lload X at_876 rfl (pc' := 878) rfl ?_
                                  refine w_lstore X at_878 (L' := #[.val (.long vv), .second, .val (.int fl), .val (.int e0), .val (.int c0), .val (.ref b1), .val (.int sn), .val (.int x_), .val (.int k_), .val (.int ec), .val (.int cc), .val (.long ng), .second, .val (.int n), .val (.int ln), .val (.int off), .val (.ref b122), .val (.ref b133), .val (.int cnt), .val (.long (6510615555426900570 : Int64)), .second, .val (.ref b153), .val (.int gr), .val (.int cv), .val (.long cval), .second, .val (.int (ec - (48 : Int32))), .val (.int eD), .val (.int lv), .val (.long ((cc - (48 : Int32))).toInt64), .second, .val (.int (1 : Int32)), .val (.long cval), .second, .val (.long ((cc - (48 : Int32))).toInt64), .second]) rfl (pc' := 880) rfl ?_
                                  exact J181 T X (1 : Int32) cval (((cc - (48 : Int32))).toInt64) ((RES.2.2.2 (k_three hxk.2 c783 c803 c824)).elim (fun q => (q.1.elim c857 c862).elim) (fun q => ⟨q.2.2.1, fun _ => q.2.2.2⟩))
                            · -- c824 not taken
                              refine w_iload X at_827 rfl (pc' := 829) rfl ?_
                              refine w_if_eq X at_829 (by decide) (p1 := 841) (by decide) (p2 := 832) rfl (fun c829 => ?_) (fun c829 => ?_)
                              · -- c829 taken
                                refine w_iconst X at_841 (v := (0 : Int32)) (by decide) (pc' := 842) rfl ?_
                                refine w_istore X at_842 (L' := #[.val (.long vv), .second, .val (.int fl), .val (.int e0), .val (.int c0), .val (.ref b1), .val (.int sn), .val (.int x_), .val (.int k_), .val (.int ec), .val (.int cc), .val (.long ng), .second, .val (.int n), .val (.int ln), .val (.int off), .val (.ref b122), .val (.ref b133), .val (.int cnt), .val (.long (6510615555426900570 : Int64)), .second, .val (.ref b153), .val (.int gr), .val (.int cv), .val (.long cval), .second, .val (.int (ec - (48 : Int32))), .val (.int eD), .val (.int lv), .val (.long ((cc - (48 : Int32))).toInt64), .second, .val (.int (0 : Int32)), .unset, .unset, .unset, .unset]) rfl (pc' := 844) rfl ?_
                                refine w_lload X at_844 rfl (pc' := 846) rfl ?_
                                refine w_lstore X at_846 (L' := #[.val (.long vv), .second, .val (.int fl), .val (.int e0), .val (.int c0), .val (.ref b1), .val (.int sn), .val (.int x_), .val (.int k_), .val (.int ec), .val (.int cc), .val (.long ng), .second, .val (.int n), .val (.int ln), .val (.int off), .val (.ref b122), .val (.ref b133), .val (.int cnt), .val (.long (6510615555426900570 : Int64)), .second, .val (.ref b153), .val (.int gr), .val (.int cv), .val (.long cval), .second, .val (.int (ec - (48 : Int32))), .val (.int eD), .val (.int lv), .val (.long ((cc - (48 : Int32))).toInt64), .second, .val (.int (0 : Int32)), .val (.long ((cc - (48 : Int32))).toInt64), .second, .unset, .unset]) rfl (pc' := 848) rfl ?_
                                refine w_lload X at_848 rfl (pc' := 850) rfl ?_
                                refine w_lstore X at_850 (L' := #[.val (.long vv), .second, .val (.int fl), .val (.int e0), .val (.int c0), .val (.ref b1), .val (.int sn), .val (.int x_), .val (.int k_), .val (.int ec), .val (.int cc), .val (.long ng), .second, .val (.int n), .val (.int ln), .val (.int off), .val (.ref b122), .val (.ref b133), .val (.int cnt), .val (.long (6510615555426900570 : Int64)), .second, .val (.ref b153), .val (.int gr), .val (.int cv), .val (.long cval), .second, .val (.int (ec - (48 : Int32))), .val (.int eD), .val (.int lv), .val (.long ((cc - (48 : Int32))).toInt64), .second, .val (.int (0 : Int32)), .val (.long ((cc - (48 : Int32))).toInt64), .second, .val (.long cval), .second]) rfl (pc' := 852) rfl ?_
                                refine w_goto X at_852 (by decide) (pc' := 880) (by decide) ?_
                                exact J181 T X (0 : Int32) (((cc - (48 : Int32))).toInt64) cval ((RES.2.2.1 c824).elim (fun q => ⟨q.2, fun z => absurd rfl z⟩) (fun q => absurd (c829.symm.trans q.2.1) (by decide)))
                              · -- c829 not taken
                                refine w_iload X at_832 rfl (pc' := 834) rfl ?_
                                refine w_if_eq X at_834 (by decide) (p1 := 841) (by decide) (p2 := 837) rfl (fun c834 => ?_) (fun c834 => ?_)
                                · -- c834 taken
                                  refine w_iconst X at_841 (v := (0 : Int32)) (by decide) (pc' := 842) rfl ?_
                                  refine w_istore X at_842 (L' := #[.val (.long vv), .second, .val (.int fl), .val (.int e0), .val (.int c0), .val (.ref b1), .val (.int sn), .val (.int x_), .val (.int k_), .val (.int ec), .val (.int cc), .val (.long ng), .second, .val (.int n), .val (.int ln), .val (.int off), .val (.ref b122), .val (.ref b133), .val (.int cnt), .val (.long (6510615555426900570 : Int64)), .second, .val (.ref b153), .val (.int gr), .val (.int cv), .val (.long cval), .second, .val (.int (ec - (48 : Int32))), .val (.int eD), .val (.int lv), .val (.long ((cc - (48 : Int32))).toInt64), .second, .val (.int (0 : Int32)), .unset, .unset, .unset, .unset]) rfl (pc' := 844) rfl ?_
                                  refine w_lload X at_844 rfl (pc' := 846) rfl ?_
                                  refine w_lstore X at_846 (L' := #[.val (.long vv), .second, .val (.int fl), .val (.int e0), .val (.int c0), .val (.ref b1), .val (.int sn), .val (.int x_), .val (.int k_), .val (.int ec), .val (.int cc), .val (.long ng), .second, .val (.int n), .val (.int ln), .val (.int off), .val (.ref b122), .val (.ref b133), .val (.int cnt), .val (.long (6510615555426900570 : Int64)), .second, .val (.ref b153), .val (.int gr), .val (.int cv), .val (.long cval), .second, .val (.int (ec - (48 : Int32))), .val (.int eD), .val (.int lv), .val (.long ((cc - (48 : Int32))).toInt64), .second, .val (.int (0 : Int32)), .val (.long ((cc - (48 : Int32))).toInt64), .second, .unset, .unset]) rfl (pc' := 848) rfl ?_
                                  refine w_lload X at_848 rfl (pc' := 850) rfl ?_
                                  refine w_lstore X at_850 (L' := #[.val (.long vv), .second, .val (.int fl), .val (.int e0), .val (.int c0), .val (.ref b1), .val (.int sn), .val (.int x_), .val (.int k_), .val (.int ec), .val (.int cc), .val (.long ng), .second, .val (.int n), .val (.int ln), .val (.int off), .val (.ref b122), .val (.ref b133), .val (.int cnt), .val (.long (6510615555426900570 : Int64)), .second, .val (.ref b153), .val (.int gr), .val (.int cv), .val (.long cval), .second, .val (.int (ec - (48 : Int32))), .val (.int eD), .val (.int lv), .val (.long ((cc - (48 : Int32))).toInt64), .second, .val (.int (0 : Int32)), .val (.long ((cc - (48 : Int32))).toInt64), .second, .val (.long cval), .second]) rfl (pc' := 852) rfl ?_
                                  refine w_goto X at_852 (by decide) (pc' := 880) (by decide) ?_
                                  exact J181 T X (0 : Int32) (((cc - (48 : Int32))).toInt64) cval ((RES.2.2.1 c824).elim (fun q => ⟨q.2, fun z => absurd rfl z⟩) (fun q => absurd (c834.symm.trans q.1) (by decide)))
                                · -- c834 not taken
                                  refine w_iconst X at_837 (v := (1 : Int32)) (by decide) (pc' := 838) rfl ?_
                                  refine w_goto X at_838 (by decide) (pc' := 842) (by decide) ?_
                                  refine w_istore X at_842 (L' := #[.val (.long vv), .second, .val (.int fl), .val (.int e0), .val (.int c0), .val (.ref b1), .val (.int sn), .val (.int x_), .val (.int k_), .val (.int ec), .val (.int cc), .val (.long ng), .second, .val (.int n), .val (.int ln), .val (.int off), .val (.ref b122), .val (.ref b133), .val (.int cnt), .val (.long (6510615555426900570 : Int64)), .second, .val (.ref b153), .val (.int gr), .val (.int cv), .val (.long cval), .second, .val (.int (ec - (48 : Int32))), .val (.int eD), .val (.int lv), .val (.long ((cc - (48 : Int32))).toInt64), .second, .val (.int (1 : Int32)), .unset, .unset, .unset, .unset]) rfl (pc' := 844) rfl ?_
                                  refine w_lload X at_844 rfl (pc' := 846) rfl ?_
                                  refine w_lstore X at_846 (L' := #[.val (.long vv), .second, .val (.int fl), .val (.int e0), .val (.int c0), .val (.ref b1), .val (.int sn), .val (.int x_), .val (.int k_), .val (.int ec), .val (.int cc), .val (.long ng), .second, .val (.int n), .val (.int ln), .val (.int off), .val (.ref b122), .val (.ref b133), .val (.int cnt), .val (.long (6510615555426900570 : Int64)), .second, .val (.ref b153), .val (.int gr), .val (.int cv), .val (.long cval), .second, .val (.int (ec - (48 : Int32))), .val (.int eD), .val (.int lv), .val (.long ((cc - (48 : Int32))).toInt64), .second, .val (.int (1 : Int32)), .val (.long ((cc - (48 : Int32))).toInt64), .second, .unset, .unset]) rfl (pc' := 848) rfl ?_
                                  refine w_lload X at_848 rfl (pc' := 850) rfl ?_
                                  refine w_lstore X at_850 (L' := #[.val (.long vv), .second, .val (.int fl), .val (.int e0), .val (.int c0), .val (.ref b1), .val (.int sn), .val (.int x_), .val (.int k_), .val (.int ec), .val (.int cc), .val (.long ng), .second, .val (.int n), .val (.int ln), .val (.int off), .val (.ref b122), .val (.ref b133), .val (.int cnt), .val (.long (6510615555426900570 : Int64)), .second, .val (.ref b153), .val (.int gr), .val (.int cv), .val (.long cval), .second, .val (.int (ec - (48 : Int32))), .val (.int eD), .val (.int lv), .val (.long ((cc - (48 : Int32))).toInt64), .second, .val (.int (1 : Int32)), .val (.long ((cc - (48 : Int32))).toInt64), .second, .val (.long cval), .second]) rfl (pc' := 852) rfl ?_
                                  refine w_goto X at_852 (by decide) (pc' := 880) (by decide) ?_
                                  exact J181 T X (1 : Int32) (((cc - (48 : Int32))).toInt64) cval ((RES.2.2.1 c824).elim (fun q => (q.1.elim c834 c829).elim) (fun q => ⟨q.2.2.1, fun _ => q.2.2.2⟩))
                          · -- c803 not taken
                            refine w_iload X at_806 rfl (pc' := 808) rfl ?_
                            refine w_istore X at_808 (L' := #[.val (.long vv), .second, .val (.int fl), .val (.int e0), .val (.int c0), .val (.ref b1), .val (.int sn), .val (.int x_), .val (.int k_), .val (.int ec), .val (.int cc), .val (.long ng), .second, .val (.int n), .val (.int ln), .val (.int off), .val (.ref b122), .val (.ref b133), .val (.int cnt), .val (.long (6510615555426900570 : Int64)), .second, .val (.ref b153), .val (.int gr), .val (.int cv), .val (.long cval), .second, .val (.int (ec - (48 : Int32))), .val (.int eD), .val (.int lv), .val (.long ((cc - (48 : Int32))).toInt64), .second, .val (.int cv), .unset, .unset, .unset, .unset]) rfl (pc' := 810) rfl ?_
                            refine w_lload X at_810 rfl (pc' := 812) rfl ?_
                            refine w_lstore X at_812 (L' := #[.val (.long vv), .second, .val (.int fl), .val (.int e0), .val (.int c0), .val (.ref b1), .val (.int sn), .val (.int x_), .val (.int k_), .val (.int ec), .val (.int cc), .val (.long ng), .second, .val (.int n), .val (.int ln), .val (.int off), .val (.ref b122), .val (.ref b133), .val (.int cnt), .val (.long (6510615555426900570 : Int64)), .second, .val (.ref b153), .val (.int gr), .val (.int cv), .val (.long cval), .second, .val (.int (ec - (48 : Int32))), .val (.int eD), .val (.int lv), .val (.long ((cc - (48 : Int32))).toInt64), .second, .val (.int cv), .val (.long cval), .second, .unset, .unset]) rfl (pc' := 814) rfl ?_
                            refine w_lload X at_814 rfl (pc' := 816) rfl ?_
                            refine w_lstore X at_816 (L' := #[.val (.long vv), .second, .val (.int fl), .val (.int e0), .val (.int c0), .val (.ref b1), .val (.int sn), .val (.int x_), .val (.int k_), .val (.int ec), .val (.int cc), .val (.long ng), .second, .val (.int n), .val (.int ln), .val (.int off), .val (.ref b122), .val (.ref b133), .val (.int cnt), .val (.long (6510615555426900570 : Int64)), .second, .val (.ref b153), .val (.int gr), .val (.int cv), .val (.long cval), .second, .val (.int (ec - (48 : Int32))), .val (.int eD), .val (.int lv), .val (.long ((cc - (48 : Int32))).toInt64), .second, .val (.int cv), .val (.long cval), .second, .val (.long (6510615555426900570 : Int64)), .second]) rfl (pc' := 818) rfl ?_
                            refine w_goto X at_818 (by decide) (pc' := 880) (by decide) ?_
                            exact J181 T X cv cval (6510615555426900570 : Int64) ((RES.2.1 c803).elim (fun q => ⟨q.2.trans q.1.symm, fun z => absurd q.1 z⟩) (fun q => ⟨q.2.1.trans q.1.symm, fun _ => q.2.2⟩))
                        · -- c783 not taken
                          refine w_iconst X at_786 (v := (1 : Int32)) (by decide) (pc' := 787) rfl ?_
                          refine w_istore X at_787 (L' := #[.val (.long vv), .second, .val (.int fl), .val (.int e0), .val (.int c0), .val (.ref b1), .val (.int sn), .val (.int x_), .val (.int k_), .val (.int ec), .val (.int cc), .val (.long ng), .second, .val (.int n), .val (.int ln), .val (.int off), .val (.ref b122), .val (.ref b133), .val (.int cnt), .val (.long (6510615555426900570 : Int64)), .second, .val (.ref b153), .val (.int gr), .val (.int cv), .val (.long cval), .second, .val (.int (ec - (48 : Int32))), .val (.int eD), .val (.int lv), .val (.long ((cc - (48 : Int32))).toInt64), .second, .val (.int (1 : Int32)), .unset, .unset, .unset, .unset]) rfl (pc' := 789) rfl ?_
                          refine w_lload X at_789 rfl (pc' := 791) rfl ?_
                          refine w_lstore X at_791 (L' := #[.val (.long vv), .second, .val (.int fl), .val (.int e0), .val (.int c0), .val (.ref b1), .val (.int sn), .val (.int x_), .val (.int k_), .val (.int ec), .val (.int cc), .val (.long ng), .second, .val (.int n), .val (.int ln), .val (.int off), .val (.ref b122), .val (.ref b133), .val (.int cnt), .val (.long (6510615555426900570 : Int64)), .second, .val (.ref b153), .val (.int gr), .val (.int cv), .val (.long cval), .second, .val (.int (ec - (48 : Int32))), .val (.int eD), .val (.int lv), .val (.long ((cc - (48 : Int32))).toInt64), .second, .val (.int (1 : Int32)), .val (.long (6510615555426900570 : Int64)), .second, .unset, .unset]) rfl (pc' := 793) rfl ?_
                          refine w_lload X at_793 rfl (pc' := 795) rfl ?_
                          refine w_lstore X at_795 (L' := #[.val (.long vv), .second, .val (.int fl), .val (.int e0), .val (.int c0), .val (.ref b1), .val (.int sn), .val (.int x_), .val (.int k_), .val (.int ec), .val (.int cc), .val (.long ng), .second, .val (.int n), .val (.int ln), .val (.int off), .val (.ref b122), .val (.ref b133), .val (.int cnt), .val (.long (6510615555426900570 : Int64)), .second, .val (.ref b153), .val (.int gr), .val (.int cv), .val (.long cval), .second, .val (.int (ec - (48 : Int32))), .val (.int eD), .val (.int lv), .val (.long ((cc - (48 : Int32))).toInt64), .second, .val (.int (1 : Int32)), .val (.long (6510615555426900570 : Int64)), .second, .val (.long (6510615555426900570 : Int64)), .second]) rfl (pc' := 797) rfl ?_
                          refine w_goto X at_797 (by decide) (pc' := 880) (by decide) ?_
                          exact J181 T X (1 : Int32) (6510615555426900570 : Int64) (6510615555426900570 : Int64) (⟨(RES.1 c783).1, fun _ => (RES.1 c783).2⟩)
                      have J182 : ∀ T, St p l e room_1 s m #[(.long vv), (.int fl), (.int e0), (.int c0)] below meth c Z n0 x code maxLocals ret T h174 (((((((0 + 1) + 0) + 1) + 0) + 1) + 1) + 0) (((((((0 + 19) + 0) + 22) + 0) + 2) + 2) + 0) → (x_ = 0 ∨ (x_ = 1 ∧ sn = 0 ∧ ec = 45)) → WP p e below s n0 room_1.cells room_1.slots (fun r _ => r = some (.int 1)) T (mkF m 457 #[.val (.long vv), .second, .val (.int fl), .val (.int e0), .val (.int c0), .val (.ref b1), .val (.int sn), .val (.int x_), .val (.int k_), .val (.int ec), .val (.int cc), .val (.long ng), .second, .val (.int n), .val (.int ln), .val (.int off), .val (.ref b122), .val (.ref b133), .val (.int cnt), .val (.long (6510615555426900570 : Int64)), .second, .val (.ref b153), .val (.int gr), .unset, .unset, .unset, .val (.int (ec - (48 : Int32))), .val (.int eD), .unset, .unset, .unset, .unset, .unset, .unset, .unset, .unset] []) := by
                        intro T X hfA
                        have J183 : ∀ T, St p l e room_1 s m #[(.long vv), (.int fl), (.int e0), (.int c0)] below meth c Z n0 x code maxLocals ret T h174 (((((((0 + 1) + 0) + 1) + 0) + 1) + 1) + 0) (((((((0 + 19) + 0) + 22) + 0) + 2) + 2) + 0) → ∀ (mi : Int32), ((if sn = 1 then (1 : Int32) else if x_ = 1 then 1 else 0) = mi) → WP p e below s n0 room_1.cells room_1.slots (fun r _ => r = some (.int 1)) T (mkF m 474 #[.val (.long vv), .second, .val (.int fl), .val (.int e0), .val (.int c0), .val (.ref b1), .val (.int sn), .val (.int x_), .val (.int k_), .val (.int ec), .val (.int cc), .val (.long ng), .second, .val (.int n), .val (.int ln), .val (.int off), .val (.ref b122), .val (.ref b133), .val (.int cnt), .val (.long (6510615555426900570 : Int64)), .second, .val (.ref b153), .val (.int gr), .unset, .unset, .unset, .val (.int (ec - (48 : Int32))), .val (.int eD), .unset, .unset, .unset, .unset, .unset, .unset, .unset, .unset] [(.int mi)]) := by
                          intro T X mi hmi
                          refine w_istore X at_474 (L' := #[.val (.long vv), .second, .val (.int fl), .val (.int e0), .val (.int c0), .val (.ref b1), .val (.int sn), .val (.int x_), .val (.int k_), .val (.int ec), .val (.int cc), .val (.long ng), .second, .val (.int n), .val (.int ln), .val (.int off), .val (.ref b122), .val (.ref b133), .val (.int cnt), .val (.long (6510615555426900570 : Int64)), .second, .val (.ref b153), .val (.int gr), .unset, .unset, .unset, .val (.int (ec - (48 : Int32))), .val (.int eD), .val (.int mi), .unset, .unset, .unset, .unset, .unset, .unset, .unset]) rfl (pc' := 476) rfl ?_
                          have J184 : ∀ T, St p l e room_1 s m #[(.long vv), (.int fl), (.int e0), (.int c0)] below meth c Z n0 x code maxLocals ret T h174 (((((((0 + 1) + 0) + 1) + 0) + 1) + 1) + 0) (((((((0 + 19) + 0) + 22) + 0) + 2) + 2) + 0) → ∀ (cv1 : Int32), ((if mi = 0 then (if ng = (-9223372036854775808 : Int64) then (0 : Int32) else 1) else (if ng = 0 then 0 else 1)) = cv1) → WP p e below s n0 room_1.cells room_1.slots (fun r _ => r = some (.int 1)) T (mkF m 510 #[.val (.long vv), .second, .val (.int fl), .val (.int e0), .val (.int c0), .val (.ref b1), .val (.int sn), .val (.int x_), .val (.int k_), .val (.int ec), .val (.int cc), .val (.long ng), .second, .val (.int n), .val (.int ln), .val (.int off), .val (.ref b122), .val (.ref b133), .val (.int cnt), .val (.long (6510615555426900570 : Int64)), .second, .val (.ref b153), .val (.int gr), .unset, .unset, .unset, .val (.int (ec - (48 : Int32))), .val (.int eD), .val (.int mi), .unset, .unset, .unset, .unset, .unset, .unset, .unset] [(.int cv1)]) := by
                            intro T X cv1 hcv1
                            refine w_istore X at_510 (L' := #[.val (.long vv), .second, .val (.int fl), .val (.int e0), .val (.int c0), .val (.ref b1), .val (.int sn), .val (.int x_), .val (.int k_), .val (.int ec), .val (.int cc), .val (.long ng), .second, .val (.int n), .val (.int ln), .val (.int off), .val (.ref b122), .val (.ref b133), .val (.int cnt), .val (.long (6510615555426900570 : Int64)), .second, .val (.ref b153), .val (.int gr), .val (.int cv1), .unset, .unset, .val (.int (ec - (48 : Int32))), .val (.int eD), .val (.int mi), .unset, .unset, .unset, .unset, .unset, .unset, .unset]) rfl (pc' := 512) rfl ?_
                            have J185 : ∀ T, St p l e room_1 s m #[(.long vv), (.int fl), (.int e0), (.int c0)] below meth c Z n0 x code maxLocals ret T h174 (((((((0 + 1) + 0) + 1) + 0) + 1) + 1) + 0) (((((((0 + 19) + 0) + 22) + 0) + 2) + 2) + 0) → ∀ (cva : Int64), ((if mi = 0 then -ng else ng) = cva) → WP p e below s n0 room_1.cells room_1.slots (fun r _ => r = some (.int 1)) T (mkF m 525 #[.val (.long vv), .second, .val (.int fl), .val (.int e0), .val (.int c0), .val (.ref b1), .val (.int sn), .val (.int x_), .val (.int k_), .val (.int ec), .val (.int cc), .val (.long ng), .second, .val (.int n), .val (.int ln), .val (.int off), .val (.ref b122), .val (.ref b133), .val (.int cnt), .val (.long (6510615555426900570 : Int64)), .second, .val (.ref b153), .val (.int gr), .val (.int cv1), .unset, .unset, .val (.int (ec - (48 : Int32))), .val (.int eD), .val (.int mi), .unset, .unset, .unset, .unset, .unset, .unset, .unset] [(.long cva)]) := by
                              intro T X cva hcva
                              refine w_lstore X at_525 (L' := #[.val (.long vv), .second, .val (.int fl), .val (.int e0), .val (.int c0), .val (.ref b1), .val (.int sn), .val (.int x_), .val (.int k_), .val (.int ec), .val (.int cc), .val (.long ng), .second, .val (.int n), .val (.int ln), .val (.int off), .val (.ref b122), .val (.ref b133), .val (.int cnt), .val (.long (6510615555426900570 : Int64)), .second, .val (.ref b153), .val (.int gr), .val (.int cv1), .val (.long cva), .second, .val (.int (ec - (48 : Int32))), .val (.int eD), .val (.int mi), .unset, .unset, .unset, .unset, .unset, .unset, .unset]) rfl (pc' := 527) rfl ?_
                              refine w_goto X at_527 (by decide) (pc' := 752) (by decide) ?_
                              have J186 : ∀ T, St p l e room_1 s m #[(.long vv), (.int fl), (.int e0), (.int c0)] below meth c Z n0 x code maxLocals ret T h174 (((((((0 + 1) + 0) + 1) + 0) + 1) + 1) + 0) (((((((0 + 19) + 0) + 22) + 0) + 2) + 2) + 0) → ∀ (lv1 : Int32), ((if cc < 48 then (0 : Int32) else if 57 < cc then 0 else 1) = lv1) → WP p e below s n0 room_1.cells room_1.slots (fun r _ => r = some (.int 1)) T (mkF m 771 #[.val (.long vv), .second, .val (.int fl), .val (.int e0), .val (.int c0), .val (.ref b1), .val (.int sn), .val (.int x_), .val (.int k_), .val (.int ec), .val (.int cc), .val (.long ng), .second, .val (.int n), .val (.int ln), .val (.int off), .val (.ref b122), .val (.ref b133), .val (.int cnt), .val (.long (6510615555426900570 : Int64)), .second, .val (.ref b153), .val (.int gr), .val (.int cv1), .val (.long cva), .second, .val (.int (ec - (48 : Int32))), .val (.int eD), .val (.int mi), .unset, .unset, .unset, .unset, .unset, .unset, .unset] [(.int lv1)]) := by
                                intro T X lv1 hlv1
                                refine w_istore X at_771 (L' := #[.val (.long vv), .second, .val (.int fl), .val (.int e0), .val (.int c0), .val (.ref b1), .val (.int sn), .val (.int x_), .val (.int k_), .val (.int ec), .val (.int cc), .val (.long ng), .second, .val (.int n), .val (.int ln), .val (.int off), .val (.ref b122), .val (.ref b133), .val (.int cnt), .val (.long (6510615555426900570 : Int64)), .second, .val (.ref b153), .val (.int gr), .val (.int cv1), .val (.long cva), .second, .val (.int (ec - (48 : Int32))), .val (.int eD), .val (.int lv1), .unset, .unset, .unset, .unset, .unset, .unset, .unset]) rfl (pc' := 773) rfl ?_
                                refine w_iload X at_773 rfl (pc' := 775) rfl ?_
                                refine w_bipush X at_775 (v := (48 : Int32)) (by decide) (pc' := 777) rfl ?_
                                refine w_isub X at_777 (pc' := 778) rfl ?_
                                refine w_i2l X at_778 (pc' := 779) rfl ?_
                                refine w_lstore X at_779 (L' := #[.val (.long vv), .second, .val (.int fl), .val (.int e0), .val (.int c0), .val (.ref b1), .val (.int sn), .val (.int x_), .val (.int k_), .val (.int ec), .val (.int cc), .val (.long ng), .second, .val (.int n), .val (.int ln), .val (.int off), .val (.ref b122), .val (.ref b133), .val (.int cnt), .val (.long (6510615555426900570 : Int64)), .second, .val (.ref b153), .val (.int gr), .val (.int cv1), .val (.long cva), .second, .val (.int (ec - (48 : Int32))), .val (.int eD), .val (.int lv1), .val (.long ((cc - (48 : Int32))).toInt64), .second, .unset, .unset, .unset, .unset, .unset]) rfl (pc' := 781) rfl ?_
                                exact J180 T X cv1 cva lv1 (⟨Or.inr (Or.inl ⟨hfA, mi, hmi, hcv1, hcva⟩), hlv1⟩)
                              refine w_iload X at_752 rfl (pc' := 754) rfl ?_
                              refine w_bipush X at_754 (v := (48 : Int32)) (by decide) (pc' := 756) rfl ?_
                              refine w_icmp_lt X at_756 (by decide) (p1 := 770) (by decide) (p2 := 759) rfl (fun c756 => ?_) (fun c756 => ?_)
                              · -- c756 taken
                                refine w_iconst X at_770 (v := (0 : Int32)) (by decide) (pc' := 771) rfl ?_
                                exact J186 T X (0 : Int32) (by simp only [if_pos c756])
                              · -- c756 not taken
                                refine w_iload X at_759 rfl (pc' := 761) rfl ?_
                                refine w_bipush X at_761 (v := (57 : Int32)) (by decide) (pc' := 763) rfl ?_
                                refine w_icmp_gt X at_763 (by decide) (p1 := 770) (by decide) (p2 := 766) rfl (fun c763 => ?_) (fun c763 => ?_)
                                · -- c763 taken
                                  refine w_iconst X at_770 (v := (0 : Int32)) (by decide) (pc' := 771) rfl ?_
                                  exact J186 T X (0 : Int32) (by simp only [if_neg c756, if_pos c763])
                                · -- c763 not taken
                                  refine w_iconst X at_766 (v := (1 : Int32)) (by decide) (pc' := 767) rfl ?_
                                  refine w_goto X at_767 (by decide) (pc' := 771) (by decide) ?_
                                  exact J186 T X (1 : Int32) (by simp only [if_neg c756, if_neg c763])
                            refine w_iload X at_512 rfl (pc' := 514) rfl ?_
                            refine w_if_eq X at_514 (by decide) (p1 := 522) (by decide) (p2 := 517) rfl (fun c514 => ?_) (fun c514 => ?_)
                            · -- c514 taken
                              refine w_lload X at_522 rfl (pc' := 524) rfl ?_
                              refine w_lneg X at_524 (pc' := 525) rfl ?_
                              exact J185 T X (-ng) (by simp only [if_pos c514])
                            · -- c514 not taken
                              refine w_lload X at_517 rfl (pc' := 519) rfl ?_
                              refine w_goto X at_519 (by decide) (pc' := 525) (by decide) ?_
                              exact J185 T X ng (by simp only [if_neg c514])
                          refine w_iload X at_476 rfl (pc' := 478) rfl ?_
                          refine w_if_eq X at_478 (by decide) (p1 := 496) (by decide) (p2 := 481) rfl (fun c478 => ?_) (fun c478 => ?_)
                          · -- c478 taken
                            refine w_lload X at_496 rfl (pc' := 498) rfl ?_
                            refine w_ldcJ X at_498 (tw37 hw) (pc' := 501) rfl ?_
                            refine w_lcmp_eq X at_501 (p0 := 502) rfl at_502 (by decide) (p1 := 509) (by decide) (p2 := 505) rfl (fun c501 => ?_) (fun c501 => ?_)
                            · -- c501 taken
                              refine w_iconst X at_509 (v := (0 : Int32)) (by decide) (pc' := 510) rfl ?_
                              exact J184 T X (0 : Int32) (by simp only [if_pos c478, if_pos c501])
                            · -- c501 not taken
                              refine w_iconst X at_505 (v := (1 : Int32)) (by decide) (pc' := 506) rfl ?_
                              refine w_goto X at_506 (by decide) (pc' := 510) (by decide) ?_
                              exact J184 T X (1 : Int32) (by simp only [if_pos c478, if_neg c501])
                          · -- c478 not taken
                            refine w_lload X at_481 rfl (pc' := 483) rfl ?_
                            refine w_lconst X at_483 (v := (0 : Int64)) (by decide) (pc' := 484) rfl ?_
                            refine w_lcmp_eq X at_484 (p0 := 485) rfl at_485 (by decide) (p1 := 492) (by decide) (p2 := 488) rfl (fun c484 => ?_) (fun c484 => ?_)
                            · -- c484 taken
                              refine w_iconst X at_492 (v := (0 : Int32)) (by decide) (pc' := 493) rfl ?_
                              refine w_goto X at_493 (by decide) (pc' := 510) (by decide) ?_
                              exact J184 T X (0 : Int32) (by simp only [if_neg c478, if_pos c484])
                            · -- c484 not taken
                              refine w_iconst X at_488 (v := (1 : Int32)) (by decide) (pc' := 489) rfl ?_
                              refine w_goto X at_489 (by decide) (pc' := 510) (by decide) ?_
                              exact J184 T X (1 : Int32) (by simp only [if_neg c478, if_neg c484])
                        refine w_iload X at_457 rfl (pc' := 459) rfl ?_
                        refine w_iconst X at_459 (v := (1 : Int32)) (by decide) (pc' := 460) rfl ?_
                        refine w_icmp_eq X at_460 (by decide) (p1 := 469) (by decide) (p2 := 463) rfl (fun c460 => ?_) (fun c460 => ?_)
                        · -- c460 taken
                          refine w_iconst X at_469 (v := (1 : Int32)) (by decide) (pc' := 470) rfl ?_
                          refine w_goto X at_470 (by decide) (pc' := 474) (by decide) ?_
                          exact J183 T X (1 : Int32) (by simp only [if_pos c460])
                        · -- c460 not taken
                          refine w_iload X at_463 rfl (pc' := 465) rfl ?_
                          refine w_iconst X at_465 (v := (1 : Int32)) (by decide) (pc' := 466) rfl ?_
                          refine w_icmp_ne X at_466 (by decide) (p1 := 473) (by decide) (p2 := 469) rfl (fun c466 => ?_) (fun c466 => ?_)
                          · -- c466 taken
                            refine w_iconst X at_473 (v := (0 : Int32)) (by decide) (pc' := 474) rfl ?_
                            exact J183 T X (0 : Int32) (by simp only [if_neg c460, if_neg c466])
                          · -- c466 not taken
                            refine w_iconst X at_469 (v := (1 : Int32)) (by decide) (pc' := 470) rfl ?_
                            refine w_goto X at_470 (by decide) (pc' := 474) (by decide) ?_
                            exact J183 T X (1 : Int32) (by simp only [if_neg c460, if_pos c466])
                      refine w_iload X at_419 rfl (pc' := 421) rfl ?_
                      refine w_iconst X at_421 (v := (3 : Int32)) (by decide) (pc' := 422) rfl ?_
                      refine w_icmp_ne X at_422 (by decide) (p1 := 434) (by decide) (p2 := 425) rfl (fun c422 => ?_) (fun c422 => ?_)
                      · -- c422 taken
                        have J187 : ∀ T, St p l e room_1 s m #[(.long vv), (.int fl), (.int e0), (.int c0)] below meth c Z n0 x code maxLocals ret T h174 (((((((0 + 1) + 0) + 1) + 0) + 1) + 1) + 0) (((((((0 + 19) + 0) + 22) + 0) + 2) + 2) + 0) → (¬ x_ = 0 ∧ ¬ (x_ = 1 ∧ sn = 0 ∧ ec = 45) ∧ ¬ x_ = 3) → WP p e below s n0 room_1.cells room_1.slots (fun r _ => r = some (.int 1)) T (mkF m 530 #[.val (.long vv), .second, .val (.int fl), .val (.int e0), .val (.int c0), .val (.ref b1), .val (.int sn), .val (.int x_), .val (.int k_), .val (.int ec), .val (.int cc), .val (.long ng), .second, .val (.int n), .val (.int ln), .val (.int off), .val (.ref b122), .val (.ref b133), .val (.int cnt), .val (.long (6510615555426900570 : Int64)), .second, .val (.ref b153), .val (.int gr), .unset, .unset, .unset, .val (.int (ec - (48 : Int32))), .val (.int eD), .unset, .unset, .unset, .unset, .unset, .unset, .unset, .unset] []) := by
                          intro T X hfB
                          refine w_iload X at_530 rfl (pc' := 532) rfl ?_
                          refine w_if_ne X at_532 (by decide) (p1 := 544) (by decide) (p2 := 535) rfl (fun c532 => ?_) (fun c532 => ?_)
                          · -- c532 taken
                            refine w_iload X at_544 rfl (pc' := 546) rfl ?_
                            refine w_iconst X at_546 (v := (1 : Int32)) (by decide) (pc' := 547) rfl ?_
                            refine w_icmp_ne X at_547 (by decide) (p1 := 671) (by decide) (p2 := 550) rfl (fun c547 => ?_) (fun c547 => ?_)
                            · -- c547 taken
                              refine w_ldcJ X at_671 (tw43 hw) (pc' := 674) rfl ?_
                              refine w_lstore X at_674 (L' := #[.val (.long vv), .second, .val (.int fl), .val (.int e0), .val (.int c0), .val (.ref b1), .val (.int sn), .val (.int x_), .val (.int k_), .val (.int ec), .val (.int cc), .val (.long ng), .second, .val (.int n), .val (.int ln), .val (.int off), .val (.ref b122), .val (.ref b133), .val (.int cnt), .val (.long (6510615555426900570 : Int64)), .second, .val (.ref b153), .val (.int gr), .unset, .unset, .unset, .val (.int (ec - (48 : Int32))), .val (.int eD), .val (.long (-922337203685477580 : Int64)), .second, .unset, .unset, .unset, .unset, .unset, .unset]) rfl (pc' := 676) rfl ?_
                              have J188 : ∀ T, St p l e room_1 s m #[(.long vv), (.int fl), (.int e0), (.int c0)] below meth c Z n0 x code maxLocals ret T h174 (((((((0 + 1) + 0) + 1) + 0) + 1) + 1) + 0) (((((((0 + 19) + 0) + 22) + 0) + 2) + 2) + 0) → ∀ (cv5 : Int32), ((if ng = 0 then (0 : Int32) else if (-922337203685477580 : Int64) < ng then 1 else if ng = (-922337203685477580 : Int64) then (if sn = 1 then (if 8 < (ec - (48 : Int32)) then 0 else 1) else (if 7 < (ec - (48 : Int32)) then 0 else 1)) else 0) = cv5) → WP p e below s n0 room_1.cells room_1.slots (fun r _ => r = some (.int 1)) T (mkF m 722 #[.val (.long vv), .second, .val (.int fl), .val (.int e0), .val (.int c0), .val (.ref b1), .val (.int sn), .val (.int x_), .val (.int k_), .val (.int ec), .val (.int cc), .val (.long ng), .second, .val (.int n), .val (.int ln), .val (.int off), .val (.ref b122), .val (.ref b133), .val (.int cnt), .val (.long (6510615555426900570 : Int64)), .second, .val (.ref b153), .val (.int gr), .unset, .unset, .unset, .val (.int (ec - (48 : Int32))), .val (.int eD), .val (.long (-922337203685477580 : Int64)), .second, .unset, .unset, .unset, .unset, .unset, .unset] [(.int cv5)]) := by
                                intro T X cv5 hcv5
                                refine w_istore X at_722 (L' := #[.val (.long vv), .second, .val (.int fl), .val (.int e0), .val (.int c0), .val (.ref b1), .val (.int sn), .val (.int x_), .val (.int k_), .val (.int ec), .val (.int cc), .val (.long ng), .second, .val (.int n), .val (.int ln), .val (.int off), .val (.ref b122), .val (.ref b133), .val (.int cnt), .val (.long (6510615555426900570 : Int64)), .second, .val (.ref b153), .val (.int gr), .val (.int cv5), .unset, .unset, .val (.int (ec - (48 : Int32))), .val (.int eD), .val (.long (-922337203685477580 : Int64)), .second, .unset, .unset, .unset, .unset, .unset, .unset]) rfl (pc' := 724) rfl ?_
                                refine w_ldcJ X at_724 (tw1 hw) (pc' := 727) rfl ?_
                                refine w_lload X at_727 rfl (pc' := 729) rfl ?_
                                refine w_lmul X at_729 (pc' := 730) rfl ?_
                                refine w_iload X at_730 rfl (pc' := 732) rfl ?_
                                refine w_i2l X at_732 (pc' := 733) rfl ?_
                                refine w_lsub X at_733 (pc' := 734) rfl ?_
                                refine w_nameJ ?_; intro mm h_mm
                                refine w_lstore X at_734 (L' := #[.val (.long vv), .second, .val (.int fl), .val (.int e0), .val (.int c0), .val (.ref b1), .val (.int sn), .val (.int x_), .val (.int k_), .val (.int ec), .val (.int cc), .val (.long ng), .second, .val (.int n), .val (.int ln), .val (.int off), .val (.ref b122), .val (.ref b133), .val (.int cnt), .val (.long (6510615555426900570 : Int64)), .second, .val (.ref b153), .val (.int gr), .val (.int cv5), .unset, .unset, .val (.int (ec - (48 : Int32))), .val (.int eD), .val (.long (-922337203685477580 : Int64)), .second, .val (.long mm), .second, .unset, .unset, .unset, .unset]) rfl (pc' := 736) rfl ?_
                                have J189 : ∀ T, St p l e room_1 s m #[(.long vv), (.int fl), (.int e0), (.int c0)] below meth c Z n0 x code maxLocals ret T h174 (((((((0 + 1) + 0) + 1) + 0) + 1) + 1) + 0) (((((((0 + 19) + 0) + 22) + 0) + 2) + 2) + 0) → ∀ (cva : Int64), ((if sn = 1 then mm else -mm) = cva) → WP p e below s n0 room_1.cells room_1.slots (fun r _ => r = some (.int 1)) T (mkF m 750 #[.val (.long vv), .second, .val (.int fl), .val (.int e0), .val (.int c0), .val (.ref b1), .val (.int sn), .val (.int x_), .val (.int k_), .val (.int ec), .val (.int cc), .val (.long ng), .second, .val (.int n), .val (.int ln), .val (.int off), .val (.ref b122), .val (.ref b133), .val (.int cnt), .val (.long (6510615555426900570 : Int64)), .second, .val (.ref b153), .val (.int gr), .val (.int cv5), .unset, .unset, .val (.int (ec - (48 : Int32))), .val (.int eD), .val (.long (-922337203685477580 : Int64)), .second, .val (.long mm), .second, .unset, .unset, .unset, .unset] [(.long cva)]) := by
                                  intro T X cva hcva
                                  refine w_lstore X at_750 (L' := #[.val (.long vv), .second, .val (.int fl), .val (.int e0), .val (.int c0), .val (.ref b1), .val (.int sn), .val (.int x_), .val (.int k_), .val (.int ec), .val (.int cc), .val (.long ng), .second, .val (.int n), .val (.int ln), .val (.int off), .val (.ref b122), .val (.ref b133), .val (.int cnt), .val (.long (6510615555426900570 : Int64)), .second, .val (.ref b153), .val (.int gr), .val (.int cv5), .val (.long cva), .second, .val (.int (ec - (48 : Int32))), .val (.int eD), .val (.long (-922337203685477580 : Int64)), .second, .val (.long mm), .second, .unset, .unset, .unset, .unset]) rfl (pc' := 752) rfl ?_
                                  have J190 : ∀ T, St p l e room_1 s m #[(.long vv), (.int fl), (.int e0), (.int c0)] below meth c Z n0 x code maxLocals ret T h174 (((((((0 + 1) + 0) + 1) + 0) + 1) + 1) + 0) (((((((0 + 19) + 0) + 22) + 0) + 2) + 2) + 0) → ∀ (lv1 : Int32), ((if cc < 48 then (0 : Int32) else if 57 < cc then 0 else 1) = lv1) → WP p e below s n0 room_1.cells room_1.slots (fun r _ => r = some (.int 1)) T (mkF m 771 #[.val (.long vv), .second, .val (.int fl), .val (.int e0), .val (.int c0), .val (.ref b1), .val (.int sn), .val (.int x_), .val (.int k_), .val (.int ec), .val (.int cc), .val (.long ng), .second, .val (.int n), .val (.int ln), .val (.int off), .val (.ref b122), .val (.ref b133), .val (.int cnt), .val (.long (6510615555426900570 : Int64)), .second, .val (.ref b153), .val (.int gr), .val (.int cv5), .val (.long cva), .second, .val (.int (ec - (48 : Int32))), .val (.int eD), .val (.long (-922337203685477580 : Int64)), .second, .val (.long mm), .second, .unset, .unset, .unset, .unset] [(.int lv1)]) := by
                                    intro T X lv1 hlv1
                                    refine w_istore X at_771 (L' := #[.val (.long vv), .second, .val (.int fl), .val (.int e0), .val (.int c0), .val (.ref b1), .val (.int sn), .val (.int x_), .val (.int k_), .val (.int ec), .val (.int cc), .val (.long ng), .second, .val (.int n), .val (.int ln), .val (.int off), .val (.ref b122), .val (.ref b133), .val (.int cnt), .val (.long (6510615555426900570 : Int64)), .second, .val (.ref b153), .val (.int gr), .val (.int cv5), .val (.long cva), .second, .val (.int (ec - (48 : Int32))), .val (.int eD), .val (.int lv1), .unset, .val (.long mm), .second, .unset, .unset, .unset, .unset]) rfl (pc' := 773) rfl ?_
                                    refine w_iload X at_773 rfl (pc' := 775) rfl ?_
                                    refine w_bipush X at_775 (v := (48 : Int32)) (by decide) (pc' := 777) rfl ?_
                                    refine w_isub X at_777 (pc' := 778) rfl ?_
                                    refine w_i2l X at_778 (pc' := 779) rfl ?_
                                    refine w_lstore X at_779 (L' := #[.val (.long vv), .second, .val (.int fl), .val (.int e0), .val (.int c0), .val (.ref b1), .val (.int sn), .val (.int x_), .val (.int k_), .val (.int ec), .val (.int cc), .val (.long ng), .second, .val (.int n), .val (.int ln), .val (.int off), .val (.ref b122), .val (.ref b133), .val (.int cnt), .val (.long (6510615555426900570 : Int64)), .second, .val (.ref b153), .val (.int gr), .val (.int cv5), .val (.long cva), .second, .val (.int (ec - (48 : Int32))), .val (.int eD), .val (.int lv1), .val (.long ((cc - (48 : Int32))).toInt64), .second, .unset, .unset, .unset, .unset, .unset]) rfl (pc' := 781) rfl ?_
                                    exact J180 T X cv5 cva lv1 (⟨Or.inr (Or.inr ⟨hfB, eD, heD, Or.inr (Or.inr ⟨c532, c547, mm, h_mm, hcv5, hcva⟩)⟩), hlv1⟩)
                                  refine w_iload X at_752 rfl (pc' := 754) rfl ?_
                                  refine w_bipush X at_754 (v := (48 : Int32)) (by decide) (pc' := 756) rfl ?_
                                  refine w_icmp_lt X at_756 (by decide) (p1 := 770) (by decide) (p2 := 759) rfl (fun c756 => ?_) (fun c756 => ?_)
                                  · -- c756 taken
                                    refine w_iconst X at_770 (v := (0 : Int32)) (by decide) (pc' := 771) rfl ?_
                                    exact J190 T X (0 : Int32) (by simp only [if_pos c756])
                                  · -- c756 not taken
                                    refine w_iload X at_759 rfl (pc' := 761) rfl ?_
                                    refine w_bipush X at_761 (v := (57 : Int32)) (by decide) (pc' := 763) rfl ?_
                                    refine w_icmp_gt X at_763 (by decide) (p1 := 770) (by decide) (p2 := 766) rfl (fun c763 => ?_) (fun c763 => ?_)
                                    · -- c763 taken
                                      refine w_iconst X at_770 (v := (0 : Int32)) (by decide) (pc' := 771) rfl ?_
                                      exact J190 T X (0 : Int32) (by simp only [if_neg c756, if_pos c763])
                                    · -- c763 not taken
                                      refine w_iconst X at_766 (v := (1 : Int32)) (by decide) (pc' := 767) rfl ?_
                                      refine w_goto X at_767 (by decide) (pc' := 771) (by decide) ?_
                                      exact J190 T X (1 : Int32) (by simp only [if_neg c756, if_neg c763])
                                refine w_iload X at_736 rfl (pc' := 738) rfl ?_
                                refine w_iconst X at_738 (v := (1 : Int32)) (by decide) (pc' := 739) rfl ?_
                                refine w_icmp_ne X at_739 (by decide) (p1 := 747) (by decide) (p2 := 742) rfl (fun c739 => ?_) (fun c739 => ?_)
                                · -- c739 taken
                                  refine w_lload X at_747 rfl (pc' := 749) rfl ?_
                                  refine w_lneg X at_749 (pc' := 750) rfl ?_
                                  exact J189 T X (-mm) (by simp only [if_neg c739])
                                · -- c739 not taken
                                  refine w_lload X at_742 rfl (pc' := 744) rfl ?_
                                  refine w_goto X at_744 (by decide) (pc' := 750) (by decide) ?_
                                  exact J189 T X mm (by simp only [if_pos c739])
                              refine w_lload X at_676 rfl (pc' := 678) rfl ?_
                              refine w_lconst X at_678 (v := (0 : Int64)) (by decide) (pc' := 679) rfl ?_
                              refine w_lcmp_eq X at_679 (p0 := 680) rfl at_680 (by decide) (p1 := 721) (by decide) (p2 := 683) rfl (fun c679 => ?_) (fun c679 => ?_)
                              · -- c679 taken
                                refine w_iconst X at_721 (v := (0 : Int32)) (by decide) (pc' := 722) rfl ?_
                                exact J188 T X (0 : Int32) (by simp only [if_pos c679])
                              · -- c679 not taken
                                refine w_lload X at_683 rfl (pc' := 685) rfl ?_
                                refine w_lload X at_685 rfl (pc' := 687) rfl ?_
                                refine w_lcmp_gt X at_687 (p0 := 688) rfl at_688 (by decide) (p1 := 717) (by decide) (p2 := 691) rfl (fun c687 => ?_) (fun c687 => ?_)
                                · -- c687 taken
                                  refine w_iconst X at_717 (v := (1 : Int32)) (by decide) (pc' := 718) rfl ?_
                                  refine w_goto X at_718 (by decide) (pc' := 722) (by decide) ?_
                                  exact J188 T X (1 : Int32) (by simp only [if_neg c679, if_pos c687])
                                · -- c687 not taken
                                  refine w_lload X at_691 rfl (pc' := 693) rfl ?_
                                  refine w_lload X at_693 rfl (pc' := 695) rfl ?_
                                  refine w_lcmp_ne X at_695 (p0 := 696) rfl at_696 (by decide) (p1 := 721) (by decide) (p2 := 699) rfl (fun c695 => ?_) (fun c695 => ?_)
                                  · -- c695 taken
                                    refine w_iconst X at_721 (v := (0 : Int32)) (by decide) (pc' := 722) rfl ?_
                                    exact J188 T X (0 : Int32) (by simp only [if_neg c679, if_neg c687, if_neg c695])
                                  · -- c695 not taken
                                    refine w_iload X at_699 rfl (pc' := 701) rfl ?_
                                    refine w_iload X at_701 rfl (pc' := 703) rfl ?_
                                    refine w_iconst X at_703 (v := (1 : Int32)) (by decide) (pc' := 704) rfl ?_
                                    refine w_icmp_ne X at_704 (by decide) (p1 := 712) (by decide) (p2 := 707) rfl (fun c704 => ?_) (fun c704 => ?_)
                                    · -- c704 taken
                                      refine w_bipush X at_712 (v := (7 : Int32)) (by decide) (pc' := 714) rfl ?_
                                      refine w_icmp_gt X at_714 (by decide) (p1 := 721) (by decide) (p2 := 717) rfl (fun c714 => ?_) (fun c714 => ?_)
                                      · -- c714 taken
                                        refine w_iconst X at_721 (v := (0 : Int32)) (by decide) (pc' := 722) rfl ?_
                                        exact J188 T X (0 : Int32) (by simp only [if_neg c679, if_neg c687, if_pos c695, if_neg c704, if_pos c714])
                                      · -- c714 not taken
                                        refine w_iconst X at_717 (v := (1 : Int32)) (by decide) (pc' := 718) rfl ?_
                                        refine w_goto X at_718 (by decide) (pc' := 722) (by decide) ?_
                                        exact J188 T X (1 : Int32) (by simp only [if_neg c679, if_neg c687, if_pos c695, if_neg c704, if_neg c714])
                                    · -- c704 not taken
                                      refine w_bipush X at_707 (v := (8 : Int32)) (by decide) (pc' := 709) rfl ?_
                                      refine w_goto X at_709 (by decide) (pc' := 714) (by decide) ?_
                                      refine w_icmp_gt X at_714 (by decide) (p1 := 721) (by decide) (p2 := 717) rfl (fun c714 => ?_) (fun c714 => ?_)
                                      · -- c714 taken
                                        refine w_iconst X at_721 (v := (0 : Int32)) (by decide) (pc' := 722) rfl ?_
                                        exact J188 T X (0 : Int32) (by simp only [if_neg c679, if_neg c687, if_pos c695, if_pos c704, if_pos c714])
                                      · -- c714 not taken
                                        refine w_iconst X at_717 (v := (1 : Int32)) (by decide) (pc' := 718) rfl ?_
                                        refine w_goto X at_718 (by decide) (pc' := 722) (by decide) ?_
                                        exact J188 T X (1 : Int32) (by simp only [if_neg c679, if_neg c687, if_pos c695, if_pos c704, if_neg c714])
                            · -- c547 not taken
                              refine w_lload X at_550 rfl (pc' := 552) rfl ?_
                              refine w_iload X at_552 rfl (pc' := 554) rfl ?_
                              refine w_i2l X at_554 (pc' := 555) rfl ?_
                              refine w_aload X at_555 rfl rfl (pc' := 557) rfl ?_
                              refine w_iload X at_557 rfl (pc' := 559) rfl ?_
                              refine w_bipush X at_559 (v := (18 : Int32)) (by decide) (pc' := 561) rfl ?_
                              refine w_callS X [(.int n), (.int (18 : Int32))] [(.ref b1), (.long ((ec - (48 : Int32))).toInt64), (.long ng)] 5 (tw39 hw) (tw40 hw) (tw41 hw) (tw42 hw) (ct_fMin l Z a0 hw n 18 h174 n0 X.n0le) at_561 pd4 rfl (by decide) rfl rfl rfl (by decide) (by decide) (by decide) (by decide) (pc' := 564) rfl ?_
                              intro T hz v X hQ
                              obtain ⟨rfl, hz1⟩ := hQ; replace hz1 := hz1.symm; subst hz1
                              show WP _ _ _ _ _ _ _ _ _ (mkF m 564 #[.val (.long vv), .second, .val (.int fl), .val (.int e0), .val (.int c0), .val (.ref b1), .val (.int sn), .val (.int x_), .val (.int k_), .val (.int ec), .val (.int cc), .val (.long ng), .second, .val (.int n), .val (.int ln), .val (.int off), .val (.ref b122), .val (.ref b133), .val (.int cnt), .val (.long (6510615555426900570 : Int64)), .second, .val (.ref b153), .val (.int gr), .unset, .unset, .unset, .val (.int (ec - (48 : Int32))), .val (.int eD), .unset, .unset, .unset, .unset, .unset, .unset, .unset, .unset] [(.int (fMin n (18 : Int32))), (.ref b1), (.long ((ec - (48 : Int32))).toInt64), (.long ng)])
                              refine w_laload X (i := ((fMin n (18 : Int32)).toInt.toNat)) O176 at_564 (nn_at (min_ok h_n hng).1) (by have := min_ok h_n hng; omega) rfl (pc' := 565) rfl ?_
                              refine w_lmul X at_565 (pc' := 566) rfl ?_
                              refine w_lsub X at_566 (pc' := 567) rfl ?_
                              refine w_nameJ ?_; intro mm h_mm
                              refine w_lstore X at_567 (L' := #[.val (.long vv), .second, .val (.int fl), .val (.int e0), .val (.int c0), .val (.ref b1), .val (.int sn), .val (.int x_), .val (.int k_), .val (.int ec), .val (.int cc), .val (.long ng), .second, .val (.int n), .val (.int ln), .val (.int off), .val (.ref b122), .val (.ref b133), .val (.int cnt), .val (.long (6510615555426900570 : Int64)), .second, .val (.ref b153), .val (.int gr), .unset, .unset, .unset, .val (.int (ec - (48 : Int32))), .val (.int eD), .val (.long mm), .second, .unset, .unset, .unset, .unset, .unset, .unset]) rfl (pc' := 569) rfl ?_
                              refine w_ldcJ X at_569 (tw37 hw) (pc' := 572) rfl ?_
                              refine w_iload X at_572 rfl (pc' := 574) rfl ?_
                              refine w_i2l X at_574 (pc' := 575) rfl ?_
                              refine w_aload X at_575 rfl rfl (pc' := 577) rfl ?_
                              refine w_bipush X at_577 (v := (18 : Int32)) (by decide) (pc' := 579) rfl ?_
                              refine w_laload X (i := 18) O176 at_579 (by decide) (by decide) rfl (pc' := 580) rfl ?_
                              refine w_lmul X at_580 (pc' := 581) rfl ?_
                              refine w_ladd X at_581 (pc' := 582) rfl ?_
                              refine w_nameJ ?_; intro lim h_lim
                              refine w_lstore X at_582 (L' := #[.val (.long vv), .second, .val (.int fl), .val (.int e0), .val (.int c0), .val (.ref b1), .val (.int sn), .val (.int x_), .val (.int k_), .val (.int ec), .val (.int cc), .val (.long ng), .second, .val (.int n), .val (.int ln), .val (.int off), .val (.ref b122), .val (.ref b133), .val (.int cnt), .val (.long (6510615555426900570 : Int64)), .second, .val (.ref b153), .val (.int gr), .unset, .unset, .unset, .val (.int (ec - (48 : Int32))), .val (.int eD), .val (.long mm), .second, .val (.long lim), .second, .unset, .unset, .unset, .unset]) rfl (pc' := 584) rfl ?_
                              have J191 : ∀ T, St p l e room_1 s m #[(.long vv), (.int fl), (.int e0), (.int c0)] below meth c Z n0 x code maxLocals ret T h174 ((((((((0 + 1) + 0) + 1) + 0) + 1) + 1) + 0) + 0) ((((((((0 + 19) + 0) + 22) + 0) + 2) + 2) + 0) + 0) → ∀ (cv4 : Int32), ((if (ec - (48 : Int32)) = 0 then (0 : Int32) else if n = 19 then 0 else if n = 18 then (if sn = 1 then (if ng < lim then 0 else 1) else (if lim < ng then 1 else 0)) else 1) = cv4) → WP p e below s n0 room_1.cells room_1.slots (fun r _ => r = some (.int 1)) T (mkF m 652 #[.val (.long vv), .second, .val (.int fl), .val (.int e0), .val (.int c0), .val (.ref b1), .val (.int sn), .val (.int x_), .val (.int k_), .val (.int ec), .val (.int cc), .val (.long ng), .second, .val (.int n), .val (.int ln), .val (.int off), .val (.ref b122), .val (.ref b133), .val (.int cnt), .val (.long (6510615555426900570 : Int64)), .second, .val (.ref b153), .val (.int gr), .val (.int cv4), .unset, .unset, .val (.int (ec - (48 : Int32))), .val (.int eD), .val (.long mm), .second, .val (.long lim), .second, .unset, .unset, .unset, .unset] []) := by
                                intro T X cv4 hcv4
                                have J192 : ∀ T, St p l e room_1 s m #[(.long vv), (.int fl), (.int e0), (.int c0)] below meth c Z n0 x code maxLocals ret T h174 ((((((((0 + 1) + 0) + 1) + 0) + 1) + 1) + 0) + 0) ((((((((0 + 19) + 0) + 22) + 0) + 2) + 2) + 0) + 0) → ∀ (cva : Int64), ((if sn = 1 then mm else -mm) = cva) → WP p e below s n0 room_1.cells room_1.slots (fun r _ => r = some (.int 1)) T (mkF m 666 #[.val (.long vv), .second, .val (.int fl), .val (.int e0), .val (.int c0), .val (.ref b1), .val (.int sn), .val (.int x_), .val (.int k_), .val (.int ec), .val (.int cc), .val (.long ng), .second, .val (.int n), .val (.int ln), .val (.int off), .val (.ref b122), .val (.ref b133), .val (.int cnt), .val (.long (6510615555426900570 : Int64)), .second, .val (.ref b153), .val (.int gr), .val (.int cv4), .unset, .unset, .val (.int (ec - (48 : Int32))), .val (.int eD), .val (.long mm), .second, .val (.long lim), .second, .unset, .unset, .unset, .unset] [(.long cva)]) := by
                                  intro T X cva hcva
                                  refine w_lstore X at_666 (L' := #[.val (.long vv), .second, .val (.int fl), .val (.int e0), .val (.int c0), .val (.ref b1), .val (.int sn), .val (.int x_), .val (.int k_), .val (.int ec), .val (.int cc), .val (.long ng), .second, .val (.int n), .val (.int ln), .val (.int off), .val (.ref b122), .val (.ref b133), .val (.int cnt), .val (.long (6510615555426900570 : Int64)), .second, .val (.ref b153), .val (.int gr), .val (.int cv4), .val (.long cva), .second, .val (.int (ec - (48 : Int32))), .val (.int eD), .val (.long mm), .second, .val (.long lim), .second, .unset, .unset, .unset, .unset]) rfl (pc' := 668) rfl ?_
                                  refine w_goto X at_668 (by decide) (pc' := 752) (by decide) ?_
                                  have J193 : ∀ T, St p l e room_1 s m #[(.long vv), (.int fl), (.int e0), (.int c0)] below meth c Z n0 x code maxLocals ret T h174 ((((((((0 + 1) + 0) + 1) + 0) + 1) + 1) + 0) + 0) ((((((((0 + 19) + 0) + 22) + 0) + 2) + 2) + 0) + 0) → ∀ (lv1 : Int32), ((if cc < 48 then (0 : Int32) else if 57 < cc then 0 else 1) = lv1) → WP p e below s n0 room_1.cells room_1.slots (fun r _ => r = some (.int 1)) T (mkF m 771 #[.val (.long vv), .second, .val (.int fl), .val (.int e0), .val (.int c0), .val (.ref b1), .val (.int sn), .val (.int x_), .val (.int k_), .val (.int ec), .val (.int cc), .val (.long ng), .second, .val (.int n), .val (.int ln), .val (.int off), .val (.ref b122), .val (.ref b133), .val (.int cnt), .val (.long (6510615555426900570 : Int64)), .second, .val (.ref b153), .val (.int gr), .val (.int cv4), .val (.long cva), .second, .val (.int (ec - (48 : Int32))), .val (.int eD), .val (.long mm), .second, .val (.long lim), .second, .unset, .unset, .unset, .unset] [(.int lv1)]) := by
                                    intro T X lv1 hlv1
                                    refine w_istore X at_771 (L' := #[.val (.long vv), .second, .val (.int fl), .val (.int e0), .val (.int c0), .val (.ref b1), .val (.int sn), .val (.int x_), .val (.int k_), .val (.int ec), .val (.int cc), .val (.long ng), .second, .val (.int n), .val (.int ln), .val (.int off), .val (.ref b122), .val (.ref b133), .val (.int cnt), .val (.long (6510615555426900570 : Int64)), .second, .val (.ref b153), .val (.int gr), .val (.int cv4), .val (.long cva), .second, .val (.int (ec - (48 : Int32))), .val (.int eD), .val (.int lv1), .unset, .val (.long lim), .second, .unset, .unset, .unset, .unset]) rfl (pc' := 773) rfl ?_
                                    refine w_iload X at_773 rfl (pc' := 775) rfl ?_
                                    refine w_bipush X at_775 (v := (48 : Int32)) (by decide) (pc' := 777) rfl ?_
                                    refine w_isub X at_777 (pc' := 778) rfl ?_
                                    refine w_i2l X at_778 (pc' := 779) rfl ?_
                                    refine w_lstore X at_779 (L' := #[.val (.long vv), .second, .val (.int fl), .val (.int e0), .val (.int c0), .val (.ref b1), .val (.int sn), .val (.int x_), .val (.int k_), .val (.int ec), .val (.int cc), .val (.long ng), .second, .val (.int n), .val (.int ln), .val (.int off), .val (.ref b122), .val (.ref b133), .val (.int cnt), .val (.long (6510615555426900570 : Int64)), .second, .val (.ref b153), .val (.int gr), .val (.int cv4), .val (.long cva), .second, .val (.int (ec - (48 : Int32))), .val (.int eD), .val (.int lv1), .val (.long ((cc - (48 : Int32))).toInt64), .second, .unset, .unset, .unset, .unset, .unset]) rfl (pc' := 781) rfl ?_
                                    exact J180 T X cv4 cva lv1 (⟨Or.inr (Or.inr ⟨hfB, eD, heD, Or.inr (Or.inl ⟨c532, c547, mm, lim, h_mm, h_lim, hcv4, hcva⟩)⟩), hlv1⟩)
                                  refine w_iload X at_752 rfl (pc' := 754) rfl ?_
                                  refine w_bipush X at_754 (v := (48 : Int32)) (by decide) (pc' := 756) rfl ?_
                                  refine w_icmp_lt X at_756 (by decide) (p1 := 770) (by decide) (p2 := 759) rfl (fun c756 => ?_) (fun c756 => ?_)
                                  · -- c756 taken
                                    refine w_iconst X at_770 (v := (0 : Int32)) (by decide) (pc' := 771) rfl ?_
                                    exact J193 T X (0 : Int32) (by simp only [if_pos c756])
                                  · -- c756 not taken
                                    refine w_iload X at_759 rfl (pc' := 761) rfl ?_
                                    refine w_bipush X at_761 (v := (57 : Int32)) (by decide) (pc' := 763) rfl ?_
                                    refine w_icmp_gt X at_763 (by decide) (p1 := 770) (by decide) (p2 := 766) rfl (fun c763 => ?_) (fun c763 => ?_)
                                    · -- c763 taken
                                      refine w_iconst X at_770 (v := (0 : Int32)) (by decide) (pc' := 771) rfl ?_
                                      exact J193 T X (0 : Int32) (by simp only [if_neg c756, if_pos c763])
                                    · -- c763 not taken
                                      refine w_iconst X at_766 (v := (1 : Int32)) (by decide) (pc' := 767) rfl ?_
                                      refine w_goto X at_767 (by decide) (pc' := 771) (by decide) ?_
                                      exact J193 T X (1 : Int32) (by simp only [if_neg c756, if_neg c763])
                                refine w_iload X at_652 rfl (pc' := 654) rfl ?_
                                refine w_iconst X at_654 (v := (1 : Int32)) (by decide) (pc' := 655) rfl ?_
                                refine w_icmp_ne X at_655 (by decide) (p1 := 663) (by decide) (p2 := 658) rfl (fun c655 => ?_) (fun c655 => ?_)
                                · -- c655 taken
                                  refine w_lload X at_663 rfl (pc' := 665) rfl ?_
                                  refine w_lneg X at_665 (pc' := 666) rfl ?_
                                  exact J192 T X (-mm) (by simp only [if_neg c655])
                                · -- c655 not taken
                                  refine w_lload X at_658 rfl (pc' := 660) rfl ?_
                                  refine w_goto X at_660 (by decide) (pc' := 666) (by decide) ?_
                                  exact J192 T X mm (by simp only [if_pos c655])
                              refine w_iload X at_584 rfl (pc' := 586) rfl ?_
                              refine w_if_eq X at_586 (by decide) (p1 := 596) (by decide) (p2 := 589) rfl (fun c586 => ?_) (fun c586 => ?_)
                              · -- c586 taken
                                refine w_iconst X at_596 (v := (0 : Int32)) (by decide) (pc' := 597) rfl ?_
                                refine w_istore X at_597 (L' := #[.val (.long vv), .second, .val (.int fl), .val (.int e0), .val (.int c0), .val (.ref b1), .val (.int sn), .val (.int x_), .val (.int k_), .val (.int ec), .val (.int cc), .val (.long ng), .second, .val (.int n), .val (.int ln), .val (.int off), .val (.ref b122), .val (.ref b133), .val (.int cnt), .val (.long (6510615555426900570 : Int64)), .second, .val (.ref b153), .val (.int gr), .val (.int (0 : Int32)), .unset, .unset, .val (.int (ec - (48 : Int32))), .val (.int eD), .val (.long mm), .second, .val (.long lim), .second, .unset, .unset, .unset, .unset]) rfl (pc' := 599) rfl ?_
                                refine w_goto X at_599 (by decide) (pc' := 652) (by decide) ?_
                                exact J191 T X (0 : Int32) (by simp only [if_pos c586])
                              · -- c586 not taken
                                refine w_iload X at_589 rfl (pc' := 591) rfl ?_
                                refine w_bipush X at_591 (v := (19 : Int32)) (by decide) (pc' := 593) rfl ?_
                                refine w_icmp_ne X at_593 (by decide) (p1 := 602) (by decide) (p2 := 596) rfl (fun c593 => ?_) (fun c593 => ?_)
                                · -- c593 taken
                                  refine w_iload X at_602 rfl (pc' := 604) rfl ?_
                                  refine w_bipush X at_604 (v := (18 : Int32)) (by decide) (pc' := 606) rfl ?_
                                  refine w_icmp_ne X at_606 (by decide) (p1 := 649) (by decide) (p2 := 609) rfl (fun c606 => ?_) (fun c606 => ?_)
                                  · -- c606 taken
                                    refine w_iconst X at_649 (v := (1 : Int32)) (by decide) (pc' := 650) rfl ?_
                                    refine w_istore X at_650 (L' := #[.val (.long vv), .second, .val (.int fl), .val (.int e0), .val (.int c0), .val (.ref b1), .val (.int sn), .val (.int x_), .val (.int k_), .val (.int ec), .val (.int cc), .val (.long ng), .second, .val (.int n), .val (.int ln), .val (.int off), .val (.ref b122), .val (.ref b133), .val (.int cnt), .val (.long (6510615555426900570 : Int64)), .second, .val (.ref b153), .val (.int gr), .val (.int (1 : Int32)), .unset, .unset, .val (.int (ec - (48 : Int32))), .val (.int eD), .val (.long mm), .second, .val (.long lim), .second, .unset, .unset, .unset, .unset]) rfl (pc' := 652) rfl ?_
                                    exact J191 T X (1 : Int32) (by simp only [if_neg c586, if_neg c593, if_neg c606])
                                  · -- c606 not taken
                                    refine w_iload X at_609 rfl (pc' := 611) rfl ?_
                                    refine w_iconst X at_611 (v := (1 : Int32)) (by decide) (pc' := 612) rfl ?_
                                    refine w_icmp_ne X at_612 (by decide) (p1 := 631) (by decide) (p2 := 615) rfl (fun c612 => ?_) (fun c612 => ?_)
                                    · -- c612 taken
                                      refine w_lload X at_631 rfl (pc' := 633) rfl ?_
                                      refine w_lload X at_633 rfl (pc' := 635) rfl ?_
                                      refine w_lcmp_le X at_635 (p0 := 636) rfl at_636 (by decide) (p1 := 643) (by decide) (p2 := 639) rfl (fun c635 => ?_) (fun c635 => ?_)
                                      · -- c635 taken
                                        refine w_iconst X at_643 (v := (0 : Int32)) (by decide) (pc' := 644) rfl ?_
                                        refine w_istore X at_644 (L' := #[.val (.long vv), .second, .val (.int fl), .val (.int e0), .val (.int c0), .val (.ref b1), .val (.int sn), .val (.int x_), .val (.int k_), .val (.int ec), .val (.int cc), .val (.long ng), .second, .val (.int n), .val (.int ln), .val (.int off), .val (.ref b122), .val (.ref b133), .val (.int cnt), .val (.long (6510615555426900570 : Int64)), .second, .val (.ref b153), .val (.int gr), .val (.int (0 : Int32)), .unset, .unset, .val (.int (ec - (48 : Int32))), .val (.int eD), .val (.long mm), .second, .val (.long lim), .second, .unset, .unset, .unset, .unset]) rfl (pc' := 646) rfl ?_
                                        refine w_goto X at_646 (by decide) (pc' := 652) (by decide) ?_
                                        exact J191 T X (0 : Int32) (by simp only [if_neg c586, if_neg c593, if_pos c606, if_neg c612, if_neg c635])
                                      · -- c635 not taken
                                        refine w_iconst X at_639 (v := (1 : Int32)) (by decide) (pc' := 640) rfl ?_
                                        refine w_goto X at_640 (by decide) (pc' := 644) (by decide) ?_
                                        refine w_istore X at_644 (L' := #[.val (.long vv), .second, .val (.int fl), .val (.int e0), .val (.int c0), .val (.ref b1), .val (.int sn), .val (.int x_), .val (.int k_), .val (.int ec), .val (.int cc), .val (.long ng), .second, .val (.int n), .val (.int ln), .val (.int off), .val (.ref b122), .val (.ref b133), .val (.int cnt), .val (.long (6510615555426900570 : Int64)), .second, .val (.ref b153), .val (.int gr), .val (.int (1 : Int32)), .unset, .unset, .val (.int (ec - (48 : Int32))), .val (.int eD), .val (.long mm), .second, .val (.long lim), .second, .unset, .unset, .unset, .unset]) rfl (pc' := 646) rfl ?_
                                        refine w_goto X at_646 (by decide) (pc' := 652) (by decide) ?_
                                        exact J191 T X (1 : Int32) (by simp only [if_neg c586, if_neg c593, if_pos c606, if_neg c612, if_pos c635])
                                    · -- c612 not taken
                                      refine w_lload X at_615 rfl (pc' := 617) rfl ?_
                                      refine w_lload X at_617 rfl (pc' := 619) rfl ?_
                                      refine w_lcmp_lt X at_619 (p0 := 620) rfl at_620 (by decide) (p1 := 627) (by decide) (p2 := 623) rfl (fun c619 => ?_) (fun c619 => ?_)
                                      · -- c619 taken
                                        refine w_iconst X at_627 (v := (0 : Int32)) (by decide) (pc' := 628) rfl ?_
                                        refine w_goto X at_628 (by decide) (pc' := 644) (by decide) ?_
                                        refine w_istore X at_644 (L' := #[.val (.long vv), .second, .val (.int fl), .val (.int e0), .val (.int c0), .val (.ref b1), .val (.int sn), .val (.int x_), .val (.int k_), .val (.int ec), .val (.int cc), .val (.long ng), .second, .val (.int n), .val (.int ln), .val (.int off), .val (.ref b122), .val (.ref b133), .val (.int cnt), .val (.long (6510615555426900570 : Int64)), .second, .val (.ref b153), .val (.int gr), .val (.int (0 : Int32)), .unset, .unset, .val (.int (ec - (48 : Int32))), .val (.int eD), .val (.long mm), .second, .val (.long lim), .second, .unset, .unset, .unset, .unset]) rfl (pc' := 646) rfl ?_
                                        refine w_goto X at_646 (by decide) (pc' := 652) (by decide) ?_
                                        exact J191 T X (0 : Int32) (by simp only [if_neg c586, if_neg c593, if_pos c606, if_pos c612, if_pos c619])
                                      · -- c619 not taken
                                        refine w_iconst X at_623 (v := (1 : Int32)) (by decide) (pc' := 624) rfl ?_
                                        refine w_goto X at_624 (by decide) (pc' := 644) (by decide) ?_
                                        refine w_istore X at_644 (L' := #[.val (.long vv), .second, .val (.int fl), .val (.int e0), .val (.int c0), .val (.ref b1), .val (.int sn), .val (.int x_), .val (.int k_), .val (.int ec), .val (.int cc), .val (.long ng), .second, .val (.int n), .val (.int ln), .val (.int off), .val (.ref b122), .val (.ref b133), .val (.int cnt), .val (.long (6510615555426900570 : Int64)), .second, .val (.ref b153), .val (.int gr), .val (.int (1 : Int32)), .unset, .unset, .val (.int (ec - (48 : Int32))), .val (.int eD), .val (.long mm), .second, .val (.long lim), .second, .unset, .unset, .unset, .unset]) rfl (pc' := 646) rfl ?_
                                        refine w_goto X at_646 (by decide) (pc' := 652) (by decide) ?_
                                        exact J191 T X (1 : Int32) (by simp only [if_neg c586, if_neg c593, if_pos c606, if_pos c612, if_neg c619])
                                · -- c593 not taken
                                  refine w_iconst X at_596 (v := (0 : Int32)) (by decide) (pc' := 597) rfl ?_
                                  refine w_istore X at_597 (L' := #[.val (.long vv), .second, .val (.int fl), .val (.int e0), .val (.int c0), .val (.ref b1), .val (.int sn), .val (.int x_), .val (.int k_), .val (.int ec), .val (.int cc), .val (.long ng), .second, .val (.int n), .val (.int ln), .val (.int off), .val (.ref b122), .val (.ref b133), .val (.int cnt), .val (.long (6510615555426900570 : Int64)), .second, .val (.ref b153), .val (.int gr), .val (.int (0 : Int32)), .unset, .unset, .val (.int (ec - (48 : Int32))), .val (.int eD), .val (.long mm), .second, .val (.long lim), .second, .unset, .unset, .unset, .unset]) rfl (pc' := 599) rfl ?_
                                  refine w_goto X at_599 (by decide) (pc' := 652) (by decide) ?_
                                  exact J191 T X (0 : Int32) (by simp only [if_neg c586, if_pos c593])
                          · -- c532 not taken
                            refine w_iconst X at_535 (v := (0 : Int32)) (by decide) (pc' := 536) rfl ?_
                            refine w_istore X at_536 (L' := #[.val (.long vv), .second, .val (.int fl), .val (.int e0), .val (.int c0), .val (.ref b1), .val (.int sn), .val (.int x_), .val (.int k_), .val (.int ec), .val (.int cc), .val (.long ng), .second, .val (.int n), .val (.int ln), .val (.int off), .val (.ref b122), .val (.ref b133), .val (.int cnt), .val (.long (6510615555426900570 : Int64)), .second, .val (.ref b153), .val (.int gr), .val (.int (0 : Int32)), .unset, .unset, .val (.int (ec - (48 : Int32))), .val (.int eD), .unset, .unset, .unset, .unset, .unset, .unset, .unset, .unset]) rfl (pc' := 538) rfl ?_
                            refine w_lconst X at_538 (v := (0 : Int64)) (by decide) (pc' := 539) rfl ?_
                            refine w_lstore X at_539 (L' := #[.val (.long vv), .second, .val (.int fl), .val (.int e0), .val (.int c0), .val (.ref b1), .val (.int sn), .val (.int x_), .val (.int k_), .val (.int ec), .val (.int cc), .val (.long ng), .second, .val (.int n), .val (.int ln), .val (.int off), .val (.ref b122), .val (.ref b133), .val (.int cnt), .val (.long (6510615555426900570 : Int64)), .second, .val (.ref b153), .val (.int gr), .val (.int (0 : Int32)), .val (.long (0 : Int64)), .second, .val (.int (ec - (48 : Int32))), .val (.int eD), .unset, .unset, .unset, .unset, .unset, .unset, .unset, .unset]) rfl (pc' := 541) rfl ?_
                            refine w_goto X at_541 (by decide) (pc' := 752) (by decide) ?_
                            have J194 : ∀ T, St p l e room_1 s m #[(.long vv), (.int fl), (.int e0), (.int c0)] below meth c Z n0 x code maxLocals ret T h174 (((((((0 + 1) + 0) + 1) + 0) + 1) + 1) + 0) (((((((0 + 19) + 0) + 22) + 0) + 2) + 2) + 0) → ∀ (lv1 : Int32), ((if cc < 48 then (0 : Int32) else if 57 < cc then 0 else 1) = lv1) → WP p e below s n0 room_1.cells room_1.slots (fun r _ => r = some (.int 1)) T (mkF m 771 #[.val (.long vv), .second, .val (.int fl), .val (.int e0), .val (.int c0), .val (.ref b1), .val (.int sn), .val (.int x_), .val (.int k_), .val (.int ec), .val (.int cc), .val (.long ng), .second, .val (.int n), .val (.int ln), .val (.int off), .val (.ref b122), .val (.ref b133), .val (.int cnt), .val (.long (6510615555426900570 : Int64)), .second, .val (.ref b153), .val (.int gr), .val (.int (0 : Int32)), .val (.long (0 : Int64)), .second, .val (.int (ec - (48 : Int32))), .val (.int eD), .unset, .unset, .unset, .unset, .unset, .unset, .unset, .unset] [(.int lv1)]) := by
                              intro T X lv1 hlv1
                              refine w_istore X at_771 (L' := #[.val (.long vv), .second, .val (.int fl), .val (.int e0), .val (.int c0), .val (.ref b1), .val (.int sn), .val (.int x_), .val (.int k_), .val (.int ec), .val (.int cc), .val (.long ng), .second, .val (.int n), .val (.int ln), .val (.int off), .val (.ref b122), .val (.ref b133), .val (.int cnt), .val (.long (6510615555426900570 : Int64)), .second, .val (.ref b153), .val (.int gr), .val (.int (0 : Int32)), .val (.long (0 : Int64)), .second, .val (.int (ec - (48 : Int32))), .val (.int eD), .val (.int lv1), .unset, .unset, .unset, .unset, .unset, .unset, .unset]) rfl (pc' := 773) rfl ?_
                              refine w_iload X at_773 rfl (pc' := 775) rfl ?_
                              refine w_bipush X at_775 (v := (48 : Int32)) (by decide) (pc' := 777) rfl ?_
                              refine w_isub X at_777 (pc' := 778) rfl ?_
                              refine w_i2l X at_778 (pc' := 779) rfl ?_
                              refine w_lstore X at_779 (L' := #[.val (.long vv), .second, .val (.int fl), .val (.int e0), .val (.int c0), .val (.ref b1), .val (.int sn), .val (.int x_), .val (.int k_), .val (.int ec), .val (.int cc), .val (.long ng), .second, .val (.int n), .val (.int ln), .val (.int off), .val (.ref b122), .val (.ref b133), .val (.int cnt), .val (.long (6510615555426900570 : Int64)), .second, .val (.ref b153), .val (.int gr), .val (.int (0 : Int32)), .val (.long (0 : Int64)), .second, .val (.int (ec - (48 : Int32))), .val (.int eD), .val (.int lv1), .val (.long ((cc - (48 : Int32))).toInt64), .second, .unset, .unset, .unset, .unset, .unset]) rfl (pc' := 781) rfl ?_
                              exact J180 T X (0 : Int32) (0 : Int64) lv1 (⟨Or.inr (Or.inr ⟨hfB, eD, heD, Or.inl ⟨c532, rfl⟩⟩), hlv1⟩)
                            refine w_iload X at_752 rfl (pc' := 754) rfl ?_
                            refine w_bipush X at_754 (v := (48 : Int32)) (by decide) (pc' := 756) rfl ?_
                            refine w_icmp_lt X at_756 (by decide) (p1 := 770) (by decide) (p2 := 759) rfl (fun c756 => ?_) (fun c756 => ?_)
                            · -- c756 taken
                              refine w_iconst X at_770 (v := (0 : Int32)) (by decide) (pc' := 771) rfl ?_
                              exact J194 T X (0 : Int32) (by simp only [if_pos c756])
                            · -- c756 not taken
                              refine w_iload X at_759 rfl (pc' := 761) rfl ?_
                              refine w_bipush X at_761 (v := (57 : Int32)) (by decide) (pc' := 763) rfl ?_
                              refine w_icmp_gt X at_763 (by decide) (p1 := 770) (by decide) (p2 := 766) rfl (fun c763 => ?_) (fun c763 => ?_)
                              · -- c763 taken
                                refine w_iconst X at_770 (v := (0 : Int32)) (by decide) (pc' := 771) rfl ?_
                                exact J194 T X (0 : Int32) (by simp only [if_neg c756, if_pos c763])
                              · -- c763 not taken
                                refine w_iconst X at_766 (v := (1 : Int32)) (by decide) (pc' := 767) rfl ?_
                                refine w_goto X at_767 (by decide) (pc' := 771) (by decide) ?_
                                exact J194 T X (1 : Int32) (by simp only [if_neg c756, if_neg c763])
                        refine w_iload X at_434 rfl (pc' := 436) rfl ?_
                        refine w_if_eq X at_436 (by decide) (p1 := 457) (by decide) (p2 := 439) rfl (fun c436 => ?_) (fun c436 => ?_)
                        · -- c436 taken
                          exact J182 T X (Or.inl c436)
                        · -- c436 not taken
                          refine w_iload X at_439 rfl (pc' := 441) rfl ?_
                          refine w_iconst X at_441 (v := (1 : Int32)) (by decide) (pc' := 442) rfl ?_
                          refine w_icmp_ne X at_442 (by decide) (p1 := 530) (by decide) (p2 := 445) rfl (fun c442 => ?_) (fun c442 => ?_)
                          · -- c442 taken
                            exact J187 T X (⟨c436, fun q => c442 q.1, c422⟩)
                          · -- c442 not taken
                            refine w_iload X at_445 rfl (pc' := 447) rfl ?_
                            refine w_if_ne X at_447 (by decide) (p1 := 530) (by decide) (p2 := 450) rfl (fun c447 => ?_) (fun c447 => ?_)
                            · -- c447 taken
                              exact J187 T X (⟨c436, fun q => c447 q.2.1, c422⟩)
                            · -- c447 not taken
                              refine w_iload X at_450 rfl (pc' := 452) rfl ?_
                              refine w_bipush X at_452 (v := (45 : Int32)) (by decide) (pc' := 454) rfl ?_
                              refine w_icmp_ne X at_454 (by decide) (p1 := 530) (by decide) (p2 := 457) rfl (fun c454 => ?_) (fun c454 => ?_)
                              · -- c454 taken
                                exact J187 T X (⟨c436, fun q => c454 q.2.2, c422⟩)
                              · -- c454 not taken
                                exact J182 T X (Or.inr ⟨c442, c447, c454⟩)
                      · -- c422 not taken
                        refine w_iconst X at_425 (v := (0 : Int32)) (by decide) (pc' := 426) rfl ?_
                        refine w_istore X at_426 (L' := #[.val (.long vv), .second, .val (.int fl), .val (.int e0), .val (.int c0), .val (.ref b1), .val (.int sn), .val (.int x_), .val (.int k_), .val (.int ec), .val (.int cc), .val (.long ng), .second, .val (.int n), .val (.int ln), .val (.int off), .val (.ref b122), .val (.ref b133), .val (.int cnt), .val (.long (6510615555426900570 : Int64)), .second, .val (.ref b153), .val (.int gr), .val (.int (0 : Int32)), .unset, .unset, .val (.int (ec - (48 : Int32))), .val (.int eD), .unset, .unset, .unset, .unset, .unset, .unset, .unset, .unset]) rfl (pc' := 428) rfl ?_
                        refine w_lconst X at_428 (v := (0 : Int64)) (by decide) (pc' := 429) rfl ?_
                        refine w_lstore X at_429 (L' := #[.val (.long vv), .second, .val (.int fl), .val (.int e0), .val (.int c0), .val (.ref b1), .val (.int sn), .val (.int x_), .val (.int k_), .val (.int ec), .val (.int cc), .val (.long ng), .second, .val (.int n), .val (.int ln), .val (.int off), .val (.ref b122), .val (.ref b133), .val (.int cnt), .val (.long (6510615555426900570 : Int64)), .second, .val (.ref b153), .val (.int gr), .val (.int (0 : Int32)), .val (.long (0 : Int64)), .second, .val (.int (ec - (48 : Int32))), .val (.int eD), .unset, .unset, .unset, .unset, .unset, .unset, .unset, .unset]) rfl (pc' := 431) rfl ?_
                        refine w_goto X at_431 (by decide) (pc' := 752) (by decide) ?_
                        have J195 : ∀ T, St p l e room_1 s m #[(.long vv), (.int fl), (.int e0), (.int c0)] below meth c Z n0 x code maxLocals ret T h174 (((((((0 + 1) + 0) + 1) + 0) + 1) + 1) + 0) (((((((0 + 19) + 0) + 22) + 0) + 2) + 2) + 0) → ∀ (lv1 : Int32), ((if cc < 48 then (0 : Int32) else if 57 < cc then 0 else 1) = lv1) → WP p e below s n0 room_1.cells room_1.slots (fun r _ => r = some (.int 1)) T (mkF m 771 #[.val (.long vv), .second, .val (.int fl), .val (.int e0), .val (.int c0), .val (.ref b1), .val (.int sn), .val (.int x_), .val (.int k_), .val (.int ec), .val (.int cc), .val (.long ng), .second, .val (.int n), .val (.int ln), .val (.int off), .val (.ref b122), .val (.ref b133), .val (.int cnt), .val (.long (6510615555426900570 : Int64)), .second, .val (.ref b153), .val (.int gr), .val (.int (0 : Int32)), .val (.long (0 : Int64)), .second, .val (.int (ec - (48 : Int32))), .val (.int eD), .unset, .unset, .unset, .unset, .unset, .unset, .unset, .unset] [(.int lv1)]) := by
                          intro T X lv1 hlv1
                          refine w_istore X at_771 (L' := #[.val (.long vv), .second, .val (.int fl), .val (.int e0), .val (.int c0), .val (.ref b1), .val (.int sn), .val (.int x_), .val (.int k_), .val (.int ec), .val (.int cc), .val (.long ng), .second, .val (.int n), .val (.int ln), .val (.int off), .val (.ref b122), .val (.ref b133), .val (.int cnt), .val (.long (6510615555426900570 : Int64)), .second, .val (.ref b153), .val (.int gr), .val (.int (0 : Int32)), .val (.long (0 : Int64)), .second, .val (.int (ec - (48 : Int32))), .val (.int eD), .val (.int lv1), .unset, .unset, .unset, .unset, .unset, .unset, .unset]) rfl (pc' := 773) rfl ?_
                          refine w_iload X at_773 rfl (pc' := 775) rfl ?_
                          refine w_bipush X at_775 (v := (48 : Int32)) (by decide) (pc' := 777) rfl ?_
                          refine w_isub X at_777 (pc' := 778) rfl ?_
                          refine w_i2l X at_778 (pc' := 779) rfl ?_
                          refine w_lstore X at_779 (L' := #[.val (.long vv), .second, .val (.int fl), .val (.int e0), .val (.int c0), .val (.ref b1), .val (.int sn), .val (.int x_), .val (.int k_), .val (.int ec), .val (.int cc), .val (.long ng), .second, .val (.int n), .val (.int ln), .val (.int off), .val (.ref b122), .val (.ref b133), .val (.int cnt), .val (.long (6510615555426900570 : Int64)), .second, .val (.ref b153), .val (.int gr), .val (.int (0 : Int32)), .val (.long (0 : Int64)), .second, .val (.int (ec - (48 : Int32))), .val (.int eD), .val (.int lv1), .val (.long ((cc - (48 : Int32))).toInt64), .second, .unset, .unset, .unset, .unset, .unset]) rfl (pc' := 781) rfl ?_
                          exact J180 T X (0 : Int32) (0 : Int64) lv1 (⟨Or.inl ⟨c422, rfl⟩, hlv1⟩)
                        refine w_iload X at_752 rfl (pc' := 754) rfl ?_
                        refine w_bipush X at_754 (v := (48 : Int32)) (by decide) (pc' := 756) rfl ?_
                        refine w_icmp_lt X at_756 (by decide) (p1 := 770) (by decide) (p2 := 759) rfl (fun c756 => ?_) (fun c756 => ?_)
                        · -- c756 taken
                          refine w_iconst X at_770 (v := (0 : Int32)) (by decide) (pc' := 771) rfl ?_
                          exact J195 T X (0 : Int32) (by simp only [if_pos c756])
                        · -- c756 not taken
                          refine w_iload X at_759 rfl (pc' := 761) rfl ?_
                          refine w_bipush X at_761 (v := (57 : Int32)) (by decide) (pc' := 763) rfl ?_
                          refine w_icmp_gt X at_763 (by decide) (p1 := 770) (by decide) (p2 := 766) rfl (fun c763 => ?_) (fun c763 => ?_)
                          · -- c763 taken
                            refine w_iconst X at_770 (v := (0 : Int32)) (by decide) (pc' := 771) rfl ?_
                            exact J195 T X (0 : Int32) (by simp only [if_neg c756, if_pos c763])
                          · -- c763 not taken
                            refine w_iconst X at_766 (v := (1 : Int32)) (by decide) (pc' := 767) rfl ?_
                            refine w_goto X at_767 (by decide) (pc' := 771) (by decide) ?_
                            exact J195 T X (1 : Int32) (by simp only [if_neg c756, if_neg c763])
                    refine w_iload X at_400 rfl (pc' := 402) rfl ?_
                    refine w_if_lt X at_402 (by decide) (p1 := 416) (by decide) (p2 := 405) rfl (fun c402 => ?_) (fun c402 => ?_)
                    · -- c402 taken
                      refine w_iconst X at_416 (v := (0 : Int32)) (by decide) (pc' := 417) rfl ?_
                      exact J179 T X (0 : Int32) (by simp only [if_pos c402])
                    · -- c402 not taken
                      refine w_iload X at_405 rfl (pc' := 407) rfl ?_
                      refine w_bipush X at_407 (v := (9 : Int32)) (by decide) (pc' := 409) rfl ?_
                      refine w_icmp_gt X at_409 (by decide) (p1 := 416) (by decide) (p2 := 412) rfl (fun c409 => ?_) (fun c409 => ?_)
                      · -- c409 taken
                        refine w_iconst X at_416 (v := (0 : Int32)) (by decide) (pc' := 417) rfl ?_
                        exact J179 T X (0 : Int32) (by simp only [if_neg c402, if_pos c409])
                      · -- c409 not taken
                        refine w_iconst X at_412 (v := (1 : Int32)) (by decide) (pc' := 413) rfl ?_
                        refine w_goto X at_413 (by decide) (pc' := 417) (by decide) ?_
                        exact J179 T X (1 : Int32) (by simp only [if_neg c402, if_neg c409])
                  refine w_iload X at_336 rfl (pc' := 338) rfl ?_
                  refine w_if_ne X at_338 (by decide) (p1 := 345) (by decide) (p2 := 341) rfl (fun c338 => ?_) (fun c338 => ?_)
                  · -- c338 taken
                    refine w_iload X at_345 rfl (pc' := 347) rfl ?_
                    refine w_iconst X at_347 (v := (1 : Int32)) (by decide) (pc' := 348) rfl ?_
                    refine w_icmp_ne X at_348 (by decide) (p1 := 355) (by decide) (p2 := 351) rfl (fun c348 => ?_) (fun c348 => ?_)
                    · -- c348 taken
                      refine w_iconst X at_355 (v := (2 : Int32)) (by decide) (pc' := 356) rfl ?_
                      exact J152 T X (2 : Int32) (by simp only [if_neg c338, if_neg c348])
                    · -- c348 not taken
                      refine w_iconst X at_351 (v := (1 : Int32)) (by decide) (pc' := 352) rfl ?_
                      refine w_goto X at_352 (by decide) (pc' := 356) (by decide) ?_
                      exact J152 T X (1 : Int32) (by simp only [if_neg c338, if_pos c348])
                  · -- c338 not taken
                    refine w_iconst X at_341 (v := (0 : Int32)) (by decide) (pc' := 342) rfl ?_
                    refine w_goto X at_342 (by decide) (pc' := 356) (by decide) ?_
                    exact J152 T X (0 : Int32) (by simp only [if_pos c338])
                refine w_iload X at_322 rfl (pc' := 324) rfl ?_
                refine w_iconst X at_324 (v := (2 : Int32)) (by decide) (pc' := 325) rfl ?_
                refine w_icmp_ne X at_325 (by decide) (p1 := 333) (by decide) (p2 := 328) rfl (fun c325 => ?_) (fun c325 => ?_)
                · -- c325 taken
                  refine w_iconst X at_333 (v := (1 : Int32)) (by decide) (pc' := 334) rfl ?_
                  exact J145 T X (1 : Int32) (by simp only [if_neg c325])
                · -- c325 not taken
                  refine w_iload X at_328 rfl (pc' := 330) rfl ?_
                  refine w_goto X at_330 (by decide) (pc' := 334) (by decide) ?_
                  exact J145 T X ln (by simp only [if_pos c325])
              refine w_iload X at_302 rfl (pc' := 304) rfl ?_
              refine w_iconst X at_304 (v := (2 : Int32)) (by decide) (pc' := 305) rfl ?_
              refine w_icmp_ne X at_305 (by decide) (p1 := 312) (by decide) (p2 := 308) rfl (fun c305 => ?_) (fun c305 => ?_)
              · -- c305 taken
                refine w_iload X at_312 rfl (pc' := 314) rfl ?_
                exact J139 T X ln (by simp only [if_neg c305])
              · -- c305 not taken
                refine w_iconst X at_308 (v := (1 : Int32)) (by decide) (pc' := 309) rfl ?_
                refine w_goto X at_309 (by decide) (pc' := 314) (by decide) ?_
                exact J139 T X (1 : Int32) (by simp only [if_pos c305])
            refine w_iload X at_267 rfl (pc' := 269) rfl ?_
            refine w_iconst X at_269 (v := (2 : Int32)) (by decide) (pc' := 270) rfl ?_
            refine w_icmp_ne X at_270 (by decide) (p1 := 280) (by decide) (p2 := 273) rfl (fun c270 => ?_) (fun c270 => ?_)
            · -- c270 taken
              refine w_iload X at_280 rfl (pc' := 282) rfl ?_
              refine w_iconst X at_282 (v := (3 : Int32)) (by decide) (pc' := 283) rfl ?_
              refine w_icmp_ne X at_283 (by decide) (p1 := 294) (by decide) (p2 := 286) rfl (fun c283 => ?_) (fun c283 => ?_)
              · -- c283 taken
                exact J129 T h126 X gF O128 OB (gb_ff HF c270 c283)
              · -- c283 not taken
                refine w_aload X at_286 rfl rfl (pc' := 288) rfl ?_
                refine w_iload X at_288 rfl (pc' := 290) rfl ?_
                refine w_iload X at_290 rfl (pc' := 292) rfl ?_
                refine w_i2b X at_292 (pc' := 293) rfl ?_
                refine w_bastore X (i := ln.toInt.toNat) (x' := (nar .byte (cc).toInt8.toInt32)) OB ga122 at_293 (nn_at hln.1) (by have := hln; omega) rfl (pc' := 294) rfl ?_; intro T h196 X K197 O198
                have O199 := O128.keep K197 (ninS ne123 nin0)
                exact J129 T h196 X (fun q => if q = ln.toInt.toNat then (nar .byte (cc).toInt8.toInt32) else gF q) O199 O198 (gb_ft HF c270 c283)
            · -- c270 not taken
              refine w_aload X at_273 rfl rfl (pc' := 275) rfl ?_
              refine w_iconst X at_275 (v := (0 : Int32)) (by decide) (pc' := 276) rfl ?_
              refine w_iload X at_276 rfl (pc' := 278) rfl ?_
              refine w_i2b X at_278 (pc' := 279) rfl ?_
              refine w_bastore X (i := 0) (x' := (nar .byte (cc).toInt8.toInt32)) OB ga122 at_279 (by decide) (by decide) rfl (pc' := 280) rfl ?_; intro T h200 X K201 O202
              have O203 := O128.keep K201 (ninS ne123 nin0)
              refine w_iload X at_280 rfl (pc' := 282) rfl ?_
              refine w_iconst X at_282 (v := (3 : Int32)) (by decide) (pc' := 283) rfl ?_
              refine w_icmp_ne X at_283 (by decide) (p1 := 294) (by decide) (p2 := 286) rfl (fun c283 => ?_) (fun c283 => ?_)
              · -- c283 taken
                exact J129 T h200 X (fun q => if q = 0 then (nar .byte (cc).toInt8.toInt32) else gF q) O203 O202 (gb_tf HF c270 c283)
              · -- c283 not taken
                refine w_aload X at_286 rfl rfl (pc' := 288) rfl ?_
                refine w_iload X at_288 rfl (pc' := 290) rfl ?_
                refine w_iload X at_290 rfl (pc' := 292) rfl ?_
                refine w_i2b X at_292 (pc' := 293) rfl ?_
                refine w_bastore X (i := ln.toInt.toNat) (x' := (nar .byte (cc).toInt8.toInt32)) O202 ga122 at_293 (nn_at hln.1) (by have := hln; omega) rfl (pc' := 294) rfl ?_; intro T h204 X K205 O206
                have O207 := O203.keep K205 (ninS ne123 nin0)
                exact J129 T h204 X (fun q => if q = ln.toInt.toNat then (nar .byte (cc).toInt8.toInt32) else (fun q => if q = 0 then (nar .byte (cc).toInt8.toInt32) else gF q) q) O207 O206 (gb_tt HF c270 c283)
          refine w_iload X at_229 rfl (pc' := 231) rfl ?_
          refine w_iconst X at_231 (v := (2 : Int32)) (by decide) (pc' := 232) rfl ?_
          refine w_icmp_ne X at_232 (by decide) (p1 := 239) (by decide) (p2 := 235) rfl (fun c232 => ?_) (fun c232 => ?_)
          · -- c232 taken
            refine w_iconst X at_239 (v := (0 : Int32)) (by decide) (pc' := 240) rfl ?_
            exact J121 T X (0 : Int32) (by simp only [if_neg c232])
          · -- c232 not taken
            refine w_iconst X at_235 (v := (1 : Int32)) (by decide) (pc' := 236) rfl ?_
            refine w_goto X at_236 (by decide) (pc' := 240) (by decide) ?_
            exact J121 T X (1 : Int32) (by simp only [if_pos c232])
        refine w_iload X at_215 rfl (pc' := 217) rfl ?_
        refine w_iconst X at_217 (v := (2 : Int32)) (by decide) (pc' := 218) rfl ?_
        refine w_icmp_ne X at_218 (by decide) (p1 := 225) (by decide) (p2 := 221) rfl (fun c218 => ?_) (fun c218 => ?_)
        · -- c218 taken
          refine w_iconst X at_225 (v := (0 : Int32)) (by decide) (pc' := 226) rfl ?_
          exact J120 T X (0 : Int32) (by simp only [if_neg c218])
        · -- c218 not taken
          refine w_iconst X at_221 (v := (1 : Int32)) (by decide) (pc' := 222) rfl ?_
          refine w_goto X at_222 (by decide) (pc' := 226) (by decide) ?_
          exact J120 T X (1 : Int32) (by simp only [if_pos c218])
      refine w_iload X at_202 rfl (pc' := 204) rfl ?_
      refine w_iconst X at_204 (v := (3 : Int32)) (by decide) (pc' := 205) rfl ?_
      refine w_icmp_ne X at_205 (by decide) (p1 := 212) (by decide) (p2 := 208) rfl (fun c205 => ?_) (fun c205 => ?_)
      · -- c205 taken
        refine w_iload X at_212 rfl (pc' := 214) rfl ?_
        exact J119 T X n (by simp only [if_neg c205])
      · -- c205 not taken
        refine w_iconst X at_208 (v := (0 : Int32)) (by decide) (pc' := 209) rfl ?_
        refine w_goto X at_209 (by decide) (pc' := 214) (by decide) ?_
        exact J119 T X (0 : Int32) (by simp only [if_pos c205])
    refine w_iload X at_190 rfl (pc' := 192) rfl ?_
    refine w_iconst X at_192 (v := (1 : Int32)) (by decide) (pc' := 193) rfl ?_
    refine w_icmp_ne X at_193 (by decide) (p1 := 200) (by decide) (p2 := 196) rfl (fun c193 => ?_) (fun c193 => ?_)
    · -- c193 taken
      refine w_iconst X at_200 (v := (0 : Int32)) (by decide) (pc' := 201) rfl ?_
      exact J118 T X (0 : Int32) (by simp only [if_neg c193])
    · -- c193 not taken
      refine w_iconst X at_196 (v := (1 : Int32)) (by decide) (pc' := 197) rfl ?_
      refine w_goto X at_197 (by decide) (pc' := 201) (by decide) ?_
      exact J118 T X (1 : Int32) (by simp only [if_pos c193])
  refine w_lloadN X at_165 rfl (pc' := 166) rfl ?_
  refine w_lconst X at_166 (v := (0 : Int64)) (by decide) (pc' := 167) rfl ?_
  refine w_lcmp_ge X at_167 (p0 := 168) rfl at_168 (by decide) (p1 := 175) (by decide) (p2 := 171) rfl (fun c167 => ?_) (fun c167 => ?_)
  · -- c167 taken
    refine w_lloadN X at_175 rfl (pc' := 176) rfl ?_
    refine w_lneg X at_176 (pc' := 177) rfl ?_
    exact J117 T X (-vv) (by simp only [if_neg c167])
  · -- c167 not taken
    refine w_lloadN X at_171 rfl (pc' := 172) rfl ?_
    refine w_goto X at_172 (by decide) (pc' := 177) (by decide) ?_
    exact J117 T X vv (by simp only [if_pos c167])
set_option maxRecDepth 65536 in
set_option maxHeartbeats 4000000 in
theorem comes_1 {Post : Tables → Env → Array Value → State → Outcome → State → Prop} (hpost : ∀ tb e args s v u, (limb_1_1.after args s (.returned v) u = true ∧ limb_1_2.after args s (.returned v) u = true ∧ True) → FrameEnd s (.returned v) u (Jvm.fieldLocs frame_1_writes args s ++ Jvm.arrayLocs frame_1_arrays args s ++ Jvm.staticLocs frame_1_statics s) 16 192 → Post tb e args s (.returned v) u) :
    ArmFor flags0 classFile x code maxLocals ret World_1 tables_1 room_1 Calls_1 rest_1 Pre_1 Post := by
  intro l hfl _ _ p e ha hc hk s m args below hf hA hF happ hP
  obtain ⟨hcalls, hrest, hpre⟩ := hP
  obtain ⟨-, -, -, hnamed, -, -, -, hat⟩ := (Spec.applies_iff hf).mp happ
  obtain ⟨hg, hn⟩ := and_e (Cond.before_iff.mp (show (Jvm.Cond.and given_1 narrow_1).before args s = true from hpre))
  obtain ⟨g1a, g1b⟩ := and_e hg
  obtain ⟨g2a, g2b⟩ := and_e g1b
  obtain ⟨g3a, g3b⟩ := and_e g2b
  obtain ⟨g4a, g4b⟩ := and_e g3b
  obtain ⟨w0, w1, w2, w3, rfl⟩ : ∃ w0 w1 w2 w3 : Value, args = #[w0, w1, w2, w3] := by
    have hs : args.size = 4 := by simpa [Cond.value, given_1] using g1a
    obtain ⟨L⟩ := args
    match L, hs with
    | [w0, w1, w2, w3], _ => exact ⟨w0, w1, w2, w3, rfl⟩
  have hw := fun d (hd : d ∈ tables_1) => atoms_spec (ws := Jvm.Cond.code x code maxLocals ret :: tables_1) hat d (List.mem_cons_of_mem _ hd)
  obtain ⟨i0, ei0⟩ := isL_v g2a
  obtain rfl : w0 = (.long i0) := Option.some.inj ei0
  obtain ⟨i1, ei1⟩ := is_v g3a
  obtain rfl : w1 = (.int i1) := Option.some.inj ei1
  obtain ⟨i2, ei2⟩ := is_v g4a
  obtain rfl : w2 = (.int i2) := Option.some.inj ei2
  obtain ⟨i3, ei3⟩ := is_v g4b
  obtain rfl : w3 = (.int i3) := Option.some.inj ei3
  obtain ⟨n, o, h1, h2, h3, _, L, rfl, ⟨rfl, N⟩, hq⟩ := ct_law l s _ hw i0 i1 i2 i3 s.heap s.heap.size (Nat.le_refl _) tables_1 p e ha hc hk s m _ below hf ((Spec.applies_iff_loose hf).mp happ).1 ⟨rfl, State.Warmed39.refl s, rfl⟩ trivial
  exact ⟨n, _, h1, h2, h3, hpost _ _ _ _ _ _ ⟨Cond.after_iff.mpr rfl, Cond.after_iff.mpr (eq_i res_at (Term.int_eval (1)) rfl), trivial⟩ ⟨hq.1, hq.2.1, (hq.2.2.sift fun y hy => Or.inr (N y hy)).mono (by decide) (by decide)⟩⟩
theorem main_1_1 : Claimed_1_1 := comes_1 fun _ _ _ _ _ _ h hF => ⟨h.1, hF⟩
theorem main_1_2 : Claimed_1_2 := comes_1 fun _ _ _ _ _ _ h hF => ⟨h.2.1, hF⟩
end Jvm.Pilot.@@N@@
namespace Jvm.Pilot.@@N@@
open Jvm Jvm.ClassFile Sem Op Lib Jvm.Free Jvm.Stand Jvm.Pilot.@@N@@.Jvm.D
/-! MADE BY PROGRAM (witnessworld.py) out of the Statement's table words and the real class files: 12 classes; the members and pool entries that the words name. The judged class is class 1, her method 1. -/
namespace start1
open Jvm.ClassFile
def u (s : String) : CpInfo := .utf8 (stringToUtf16 s)
/-- a pool by its gaps: so many unusable entries, then the entry; so many at the end -/
def gap : Nat → List CpInfo → List CpInfo
  | 0, r => r
  | n + 1, r => .unusable :: gap n r
def poolList (es : List (Nat × CpInfo)) (last : Nat) : List CpInfo := es.foldr (fun e r => gap e.1 (e.2 :: r)) (gap last [])
def pool (es : List (Nat × CpInfo)) (last : Nat) : Array CpInfo := ⟨poolList es last⟩
def fileOf (pool : Array CpInfo) (this : Nat) (attrs : Array Attribute := #[]) (ms : Array MethodInfo := #[]) (fl : Nat := 33) (sup : Nat := 0) (ifs : Array Nat := #[]) (fds : Array FieldInfo := #[]) : ClassFile where
  minorVersion := 0
  majorVersion := 65
  constantPool := pool
  accessFlags := fl
  thisClass := this
  superClass := sup
  interfaces := ifs
  fields := fds
  methods := ms
  attributes := attrs
def plain (name : String) (sup : Option ClassId) : Class where
  name := name
  kind := .ordinary
  loader := none
  accessFlags := 33
  super := sup
  interfaces := #[]
  cf := none
  fields := #[]
  methods := #[]
  instanceTypes := #[]
  staticTypes := #[]
  resolved := #[]
  callSites := []
  init := .initialized
  statics := none
  mirror := none

def pool0 : Array CpInfo := pool [(5, u "<init>"), (0, u "()V"), (1, .class_ 10), (1, u "java/lang/Object")] 113

def k0m0 : Method := { name := "<init>", desc := "()V", sig := { parameters := [], returnType := none }, accessFlags := 1, code := none }
/-- java/lang/Object -/
def k0 : Class := { plain "java/lang/Object" none with
  accessFlags := 33
  interfaces := #[]
  cf := some (fileOf pool0 8 #[] #[{ accessFlags := 1, nameIndex := 5, descriptorIndex := 6, attributes := #[] }] 33 0 #[] #[])
  fields := #[]
  methods := #[k0m0]
  instanceTypes := #[]
  staticTypes := #[]
  resolved := Array.replicate 124 none
  statics := none }

def pool1 : Array CpInfo := pool [(2, .class_ 4), (1, u "java/lang/Object"), (0, u "<init>"), (0, u "()V"), (0, .long 10), (1, .long 100), (1, .long 1000), (1, .long 10000), (1, .long 100000), (1, .long 1000000), (1, .long 10000000), (1, .long 100000000), (1, .long 1000000000), (1, .long 10000000000), (1, .long 100000000000), (1, .long 1000000000000), (1, .long 10000000000000), (1, .long 100000000000000), (1, .long 1000000000000000), (1, .long 10000000000000000), (1, .long 100000000000000000), (1, .long 1000000000000000000), (1, .methodref 44 45), (0, .class_ 46), (0, .nameAndType 47 48), (0, u "com/example/varve/varve/column/DigitsOfPinLaw"), (0, u "digitsOf"), (0, u "(J[J)I"), (0, .methodref 44 50), (0, .nameAndType 51 52), (0, u "fill"), (0, u "([BIIIIJI[J)V"), (0, .long 6510615555426900570), (1, .methodref 56 57), (0, .class_ 58), (0, .nameAndType 59 60), (0, u "com/example/varve/varve/column/Digits"), (0, u "of"), (0, u "([B[II[J)Z"), (2, .long 9223372036854775808), (1, .methodref 66 67), (0, .class_ 68), (0, .nameAndType 69 70), (0, u "java/lang/Math"), (0, u "min"), (0, u "(II)I"), (0, .long 17524406870024074036), (1, .methodref 44 74), (0, .nameAndType 75 76), (0, u "cx"), (0, u "(IIIIJI[J)B"), (2, u "law"), (0, u "(JIII)Z")] 9

def k1m0 : Method := { name := "<init>", desc := "()V", sig := { parameters := [], returnType := none }, accessFlags := 2, code := none }
def k1c1 : Code := { maxStack := 9, maxLocals := 36, code := code, exceptionTable := #[], attributes := #[] }
def k1m1 : Method := { name := "law", desc := "(JIII)Z", sig := { parameters := [.long, .int, .int, .int], returnType := some .boolean }, accessFlags := 9, code := some k1c1 }
def k1c2 : Code := { maxStack := 4, maxLocals := 4, code := method_3_code, exceptionTable := #[], attributes := #[] }
def k1m2 : Method := { name := "digitsOf", desc := "(J[J)I", sig := { parameters := [.long, (.array .long)], returnType := some .int }, accessFlags := 10, code := some k1c2 }
def k1c3 : Code := { maxStack := 5, maxLocals := 13, code := method_4_code, exceptionTable := #[], attributes := #[] }
def k1m3 : Method := { name := "cx", desc := "(IIIIJI[J)B", sig := { parameters := [.int, .int, .int, .int, .long, .int, (.array .long)], returnType := some .byte }, accessFlags := 10, code := some k1c3 }
def k1c4 : Code := { maxStack := 10, maxLocals := 9, code := method_5_code, exceptionTable := #[], attributes := #[] }
def k1m4 : Method := { name := "fill", desc := "([BIIIIJI[J)V", sig := { parameters := [(.array .byte), .int, .int, .int, .int, .long, .int, (.array .long)], returnType := none }, accessFlags := 10, code := some k1c4 }
/-- com/example/varve/varve/column/DigitsOfPinLaw -/
def k1 : Class := { plain "com/example/varve/varve/column/DigitsOfPinLaw" (some 0) with
  accessFlags := 49
  interfaces := #[]
  cf := some (fileOf pool1 44 #[] #[{ accessFlags := 2, nameIndex := 5, descriptorIndex := 6, attributes := #[] }, { accessFlags := 9, nameIndex := 79, descriptorIndex := 80, attributes := #[] }, { accessFlags := 10, nameIndex := 47, descriptorIndex := 48, attributes := #[] }, { accessFlags := 10, nameIndex := 75, descriptorIndex := 76, attributes := #[] }, { accessFlags := 10, nameIndex := 51, descriptorIndex := 52, attributes := #[] }] 49 2 #[] #[])
  fields := #[]
  methods := #[k1m0, k1m1, k1m2, k1m3, k1m4]
  instanceTypes := #[]
  staticTypes := #[]
  resolved := Array.replicate 90 none
  statics := none }

def pool2 : Array CpInfo := pool [(2, .class_ 4), (1, u "java/lang/Object"), (0, u "<init>"), (0, u "()V"), (0, .class_ 8), (0, u "com/example/varve/varve/column/Digits"), (2, .long 9223372036854775808), (1, .long 10), (11, u "SAFE_DIGITS"), (0, u "I"), (2, u "MOST_BYTES"), (3, u "of"), (0, u "([B[II[J)Z"), (11, .class_ 47), (0, u "com/example/varve/varve/column/Digits$Reader")] 2

def k2m0 : Method := { name := "<init>", desc := "()V", sig := { parameters := [], returnType := none }, accessFlags := 2, code := none }
def k2c1 : Code := { maxStack := 6, maxLocals := 12, code := prog_40_method_2_code, exceptionTable := #[], attributes := #[] }
def k2m1 : Method := { name := "of", desc := "([B[II[J)Z", sig := { parameters := [(.array .byte), (.array .int), .int, (.array .long)], returnType := some .boolean }, accessFlags := 8, code := some k2c1 }
/-- com/example/varve/varve/column/Digits -/
def k2 : Class := { plain "com/example/varve/varve/column/Digits" (some 0) with
  accessFlags := 48
  interfaces := #[]
  cf := some (fileOf pool2 7 #[.nestMembers #[46]] #[{ accessFlags := 2, nameIndex := 5, descriptorIndex := 6, attributes := #[] }, { accessFlags := 8, nameIndex := 33, descriptorIndex := 34, attributes := #[] }] 48 2 #[] #[{ accessFlags := 26, nameIndex := 25, descriptorIndex := 26, attributes := #[] }, { accessFlags := 26, nameIndex := 29, descriptorIndex := 26, attributes := #[] }])
  fields := #[{ name := "SAFE_DIGITS", type := .int, accessFlags := 26, slot := 0, constantValue := 0 }, { name := "MOST_BYTES", type := .int, accessFlags := 26, slot := 1, constantValue := 0 }]
  methods := #[k2m0, k2m1]
  instanceTypes := #[]
  staticTypes := #[.int, .int]
  resolved := Array.replicate 50 none
  statics := none }

def pool3 : Array CpInfo := pool [(1, .class_ 2), (0, u "java/lang/Math"), (1, .class_ 6), (1, u "java/lang/Object"), (0, u "<init>"), (0, u "()V"), (89, .class_ 100), (1, u "java/lang/Math$RandomNumberGeneratorHolder"), (71, u "negativeZeroFloatBits"), (0, u "J"), (2, u "negativeZeroDoubleBits"), (24, u "min"), (43, u "$assertionsDisabled"), (0, u "Z"), (88, u "(II)I"), (2, u "twoToTheDoubleScaleDown"), (0, u "D"), (4, u "twoToTheDoubleScaleUp"), (9, u "E"), (3, u "PI"), (2, u "TAU"), (2, u "DEGREES_TO_RADIANS"), (0, u "RADIANS_TO_DEGREES")] 94

def k3m0 : Method := { name := "<init>", desc := "()V", sig := { parameters := [], returnType := none }, accessFlags := 2, code := none }
def k3c1 : Code := { maxStack := 2, maxLocals := 2, code := jdk_29_method_69_code, exceptionTable := #[], attributes := #[] }
def k3m1 : Method := { name := "min", desc := "(II)I", sig := { parameters := [.int, .int], returnType := some .int }, accessFlags := 9, code := some k3c1 }
/-- java/lang/Math -/
def k3 : Class := { plain "java/lang/Math" (some 0) with
  accessFlags := 49
  interfaces := #[]
  cf := some (fileOf pool3 1 #[.nestMembers #[98]] #[{ accessFlags := 2, nameIndex := 7, descriptorIndex := 8, attributes := #[] }, { accessFlags := 9, nameIndex := 201, descriptorIndex := 335, attributes := #[] }] 49 4 #[] #[{ accessFlags := 25, nameIndex := 354, descriptorIndex := 339, attributes := #[] }, { accessFlags := 25, nameIndex := 358, descriptorIndex := 339, attributes := #[] }, { accessFlags := 25, nameIndex := 361, descriptorIndex := 339, attributes := #[] }, { accessFlags := 26, nameIndex := 364, descriptorIndex := 339, attributes := #[] }, { accessFlags := 26, nameIndex := 365, descriptorIndex := 339, attributes := #[] }, { accessFlags := 26, nameIndex := 172, descriptorIndex := 173, attributes := #[] }, { accessFlags := 26, nameIndex := 176, descriptorIndex := 173, attributes := #[] }, { accessFlags := 8, nameIndex := 344, descriptorIndex := 339, attributes := #[] }, { accessFlags := 8, nameIndex := 338, descriptorIndex := 339, attributes := #[] }, { accessFlags := 4120, nameIndex := 245, descriptorIndex := 246, attributes := #[] }])
  fields := #[{ name := "E", type := .double, accessFlags := 25, slot := 0, constantValue := 0 }, { name := "PI", type := .double, accessFlags := 25, slot := 1, constantValue := 0 }, { name := "TAU", type := .double, accessFlags := 25, slot := 2, constantValue := 0 }, { name := "DEGREES_TO_RADIANS", type := .double, accessFlags := 26, slot := 3, constantValue := 0 }, { name := "RADIANS_TO_DEGREES", type := .double, accessFlags := 26, slot := 4, constantValue := 0 }, { name := "negativeZeroFloatBits", type := .long, accessFlags := 26, slot := 5, constantValue := 0 }, { name := "negativeZeroDoubleBits", type := .long, accessFlags := 26, slot := 6, constantValue := 0 }, { name := "twoToTheDoubleScaleUp", type := .double, accessFlags := 8, slot := 7, constantValue := 0 }, { name := "twoToTheDoubleScaleDown", type := .double, accessFlags := 8, slot := 8, constantValue := 0 }, { name := "$assertionsDisabled", type := .boolean, accessFlags := 4120, slot := 9, constantValue := 0 }]
  methods := #[k3m0, k3m1]
  instanceTypes := #[]
  staticTypes := #[.double, .double, .double, .double, .double, .long, .long, .double, .double, .boolean]
  resolved := Array.replicate 460 none
  statics := none }

def pool4 : Array CpInfo := pool [(1, u "java/lang/Cloneable"), (0, .class_ 1), (0, u "java/lang/Object"), (0, .class_ 3)] 3

/-- java/lang/Cloneable -/
def k4 : Class := { plain "java/lang/Cloneable" (some 0) with
  accessFlags := 1537
  interfaces := #[]
  cf := some (fileOf pool4 2 #[] #[] 1537 4 #[] #[])
  fields := #[]
  methods := #[]
  instanceTypes := #[]
  staticTypes := #[]
  resolved := Array.replicate 8 none
  statics := none }

def pool5 : Array CpInfo := pool [(1, u "java/io/Serializable"), (0, .class_ 1), (0, u "java/lang/Object"), (0, .class_ 3)] 3

/-- java/io/Serializable -/
def k5 : Class := { plain "java/io/Serializable" (some 0) with
  accessFlags := 1537
  interfaces := #[]
  cf := some (fileOf pool5 2 #[] #[] 1537 4 #[] #[])
  fields := #[]
  methods := #[]
  instanceTypes := #[]
  staticTypes := #[]
  resolved := Array.replicate 8 none
  statics := none }

/-- the primitive byte -/
def k6 : Class := { plain "byte" none with kind := .primitive 'B', accessFlags := 0x411 }
/-- [B -/
def k7 : Class := { plain "[B" (some 0) with kind := .array 6 .byte, interfaces := #[4, 5], accessFlags := 1041 }

/-- the primitive int -/
def k8 : Class := { plain "int" none with kind := .primitive 'I', accessFlags := 0x411 }
/-- [I -/
def k9 : Class := { plain "[I" (some 0) with kind := .array 8 .int, interfaces := #[4, 5], accessFlags := 1041 }

/-- the primitive long -/
def k10 : Class := { plain "long" none with kind := .primitive 'J', accessFlags := 0x411 }
/-- [J -/
def k11 : Class := { plain "[J" (some 0) with kind := .array 10 .long, interfaces := #[4, 5], accessFlags := 1041 }

def heap : Heap := #[]
def classes : Array Class := #[k0, k1, k2, k3, k4, k5, k6, k7, k8, k9, k10, k11]
def interned : List (Array UInt16 × Addr) := []
def slotsUsed : Nat := 0
def theMethod : MethodId := ⟨1, 1⟩
def args0 : Array Value := #[.long 5, .int 5, .int 50, .int 51]
def aboutOver (below : List Frame) : State where
  vm := { classes := classes, interned := interned.toArray }
  heap := heap
  slotsUsed := slotsUsed
  threads := #[{ frames := .invoking theMethod args0 :: below }]
def below0 : List Frame := [.native { method := ⟨0, 0⟩, args := #[] }]
def about1 : State := aboutOver below0
def p0 : Program := .bare "" "" ""
def e0 : Env := launch0.env 0 0 0
theorem w_frames : about1.frames = Frame.invoking theMethod args0 :: below0 := rfl
set_option maxRecDepth 65536 in
theorem w_args : argsFit about1.vm theMethod args0 = true := by decide +kernel
set_option maxRecDepth 65536 in
theorem w_heap : heapFits about1 = true := by decide +kernel
set_option maxRecDepth 65536 in
theorem w_runnable : about1.curStatus? = some .runnable := by decide +kernel
set_option maxRecDepth 65536 in
theorem w_alone : about1.alone = true := by decide +kernel
set_option maxRecDepth 65536 in
theorem w_named : about1.methodNamed? x = some theMethod := by decide +kernel
set_option maxRecDepth 65536 in
theorem w_hears : about1.hears theMethod below0 = true := by decide +kernel
set_option maxRecDepth 65536 in
theorem w_ripe : about1.ripe theMethod args0 below0 = true := by decide +kernel
theorem w_running : about1.status = .running := rfl
set_option maxRecDepth 65536 in
theorem w_room : about1.hasRoom e0.platform room_1 = true :=
  launch0.hasRoom_least _ room_1 (by decide +kernel) (by decide +kernel) (by decide +kernel) (by decide +kernel) (by decide +kernel) (by decide +kernel)
theorem allAtoms_all (ts : List Jvm.Cond) (a : Array Jvm.Value) (st : Jvm.State) : (allAtoms ts).before a st = ts.all (fun c => c.before a st) := by
  induction ts with
  | nil => rfl
  | cons c t ih =>
    show (Jvm.Cond.and c (allAtoms t)).before a st = _
    rw [Jvm.Cond.before_and, ih, List.all_cons]
def words1 : List Jvm.Cond := Jvm.Cond.code x code maxLocals ret :: tables_1
/-- a 'code' word, met by the world's own term for the bytes: nothing is compared byte by byte -/
theorem code_word {y : MethodName} {bytes : ByteArray} {mx : Nat} {rt : Option FieldType} {a : Array Value} {s : State} {m : MethodId} {meth : Method} {c : Code} (h1 : s.methodNamed? y = some m) (h2 : s.vm.method? m = some meth) (h3 : meth.code = some c) (h4 : c.code = bytes)
    (h5 : (c.maxLocals == mx && c.exceptionTable.isEmpty && decide (c.maxStack ≤ mostOperands) && decide (meth.sig.returnType = rt) && !meth.locks && decide (parseMethodDescriptor y.desc = some meth.sig)) = true) : (Jvm.Cond.code y bytes mx rt).before a s = true := by
  simp only [Bool.and_eq_true, beq_iff_eq, Bool.not_eq_true', decide_eq_true_eq] at h5
  obtain ⟨⟨⟨⟨⟨g1, g2⟩, g3⟩, g4⟩, g5⟩, g6⟩ := h5
  simp [Cond.before, Cond.holds, Cond.value, h1, h2, h3, h4, g1, g2, g3, g4, g5, g6]
def isCode : Jvm.Cond → Bool
  | .code _ _ _ _ => true
  | _ => false
theorem all_split {L : List Jvm.Cond} {P : Jvm.Cond → Bool} (h1 : L.all (fun c => isCode c || P c) = true) (h2 : ∀ c ∈ L.filter isCode, P c = true) : L.all P = true := by
  refine List.all_eq_true.mpr fun c hc => ?_
  have h := List.all_eq_true.mp h1 c hc
  rcases Bool.eq_false_or_eq_true (isCode c) with hi | hi
  · exact h2 c (List.mem_filter.mpr ⟨hc, hi⟩)
  · simpa [hi] using h
set_option maxRecDepth 65536 in
theorem w_c0 : (Jvm.Cond.code x code maxLocals ret).before args0 about1 = true := code_word (m := ⟨1, 1⟩) (meth := k1m1) (c := k1c1) (by decide +kernel) rfl rfl rfl (by decide +kernel)
set_option maxRecDepth 65536 in
theorem w_c1 : (Jvm.Cond.code ({ cls := "com/example/varve/varve/column/DigitsOfPinLaw", name := "digitsOf", desc := "(J[J)I" } : Jvm.MethodName) method_3_code (4 : Nat) (Option.some Jvm.ClassFile.FieldType.int)).before args0 about1 = true := code_word (m := ⟨1, 2⟩) (meth := k1m2) (c := k1c2) (by decide +kernel) rfl rfl rfl (by decide +kernel)
set_option maxRecDepth 65536 in
theorem w_c2 : (Jvm.Cond.code ({ cls := "com/example/varve/varve/column/DigitsOfPinLaw", name := "fill", desc := "([BIIIIJI[J)V" } : Jvm.MethodName) method_5_code (9 : Nat) (Option.none : Option Jvm.ClassFile.FieldType)).before args0 about1 = true := code_word (m := ⟨1, 4⟩) (meth := k1m4) (c := k1c4) (by decide +kernel) rfl rfl rfl (by decide +kernel)
set_option maxRecDepth 65536 in
theorem w_c3 : (Jvm.Cond.code ({ cls := "com/example/varve/varve/column/DigitsOfPinLaw", name := "cx", desc := "(IIIIJI[J)B" } : Jvm.MethodName) method_4_code (13 : Nat) (Option.some Jvm.ClassFile.FieldType.byte)).before args0 about1 = true := code_word (m := ⟨1, 3⟩) (meth := k1m3) (c := k1c3) (by decide +kernel) rfl rfl rfl (by decide +kernel)
set_option maxRecDepth 65536 in
theorem w_c4 : (Jvm.Cond.code ({ cls := "com/example/varve/varve/column/Digits", name := "of", desc := "([B[II[J)Z" } : Jvm.MethodName) prog_40_method_2_code (12 : Nat) (Option.some Jvm.ClassFile.FieldType.boolean)).before args0 about1 = true := code_word (m := ⟨2, 1⟩) (meth := k2m1) (c := k2c1) (by decide +kernel) rfl rfl rfl (by decide +kernel)
set_option maxRecDepth 65536 in
theorem w_c5 : (Jvm.Cond.code ({ cls := "java/lang/Math", name := "min", desc := "(II)I" } : Jvm.MethodName) jdk_29_method_69_code (2 : Nat) (Option.some Jvm.ClassFile.FieldType.int)).before args0 about1 = true := code_word (m := ⟨3, 1⟩) (meth := k3m1) (c := k3c1) (by decide +kernel) rfl rfl rfl (by decide +kernel)
def codes1 : List Jvm.Cond := [Jvm.Cond.code x code maxLocals ret, Jvm.Cond.code ({ cls := "com/example/varve/varve/column/DigitsOfPinLaw", name := "digitsOf", desc := "(J[J)I" } : Jvm.MethodName) method_3_code (4 : Nat) (Option.some Jvm.ClassFile.FieldType.int), Jvm.Cond.code ({ cls := "com/example/varve/varve/column/DigitsOfPinLaw", name := "fill", desc := "([BIIIIJI[J)V" } : Jvm.MethodName) method_5_code (9 : Nat) (Option.none : Option Jvm.ClassFile.FieldType), Jvm.Cond.code ({ cls := "com/example/varve/varve/column/DigitsOfPinLaw", name := "cx", desc := "(IIIIJI[J)B" } : Jvm.MethodName) method_4_code (13 : Nat) (Option.some Jvm.ClassFile.FieldType.byte), Jvm.Cond.code ({ cls := "com/example/varve/varve/column/Digits", name := "of", desc := "([B[II[J)Z" } : Jvm.MethodName) prog_40_method_2_code (12 : Nat) (Option.some Jvm.ClassFile.FieldType.boolean), Jvm.Cond.code ({ cls := "java/lang/Math", name := "min", desc := "(II)I" } : Jvm.MethodName) jdk_29_method_69_code (2 : Nat) (Option.some Jvm.ClassFile.FieldType.int)]
set_option maxRecDepth 65536 in
theorem codes_eq : words1.filter isCode = codes1 := rfl
theorem w_codes : ∀ c ∈ words1.filter isCode, c.before args0 about1 = true := by
  rw [codes_eq]
  intro c hc
  simp only [codes1, List.mem_cons, List.not_mem_nil, or_false] at hc
  rcases hc with rfl | rfl | rfl | rfl | rfl | rfl
  · exact w_c0
  · exact w_c1
  · exact w_c2
  · exact w_c3
  · exact w_c4
  · exact w_c5
set_option maxRecDepth 65536 in
theorem w_t1 : (words1.take 24).all (fun c => isCode c || c.before args0 about1) = true := by decide +kernel
set_option maxRecDepth 65536 in
theorem w_t2 : (words1.drop 24).all (fun c => isCode c || c.before args0 about1) = true := by decide +kernel
theorem w_tables : (allAtoms (Jvm.Cond.code x code maxLocals ret :: tables_1)).before args0 about1 = true := by
  rw [allAtoms_all]
  show words1.all (fun c => c.before args0 about1) = true
  refine all_split ?_ w_codes
  rw [← List.take_append_drop 24 words1, List.all_append, w_t1, w_t2]
  rfl
set_option maxRecDepth 65536 in
theorem w_case : (Jvm.Cond.and given_1 narrow_1).before args0 about1 = true := by decide +kernel
theorem w_applies : (headSpec (Jvm.Cond.code x code maxLocals ret :: tables_1) room_1).applies x e0.platform about1 = true :=
  (Spec.applies_iff w_frames).mpr ⟨w_running, w_runnable, w_alone, w_named, w_hears, w_ripe, w_room, w_tables⟩
theorem atStart : AtStart classFile x code maxLocals ret World_1 tables_1 room_1 Calls_1 rest_1 Pre_1 launch0 p0 e0 about1 theMethod args0 below0 :=
  ⟨lists_1, trivial, launch0.admits_env _ _ _, launch0.least_env, fairChoices_fair.cas, fairChoices_fair.clock, w_frames, w_args, w_heap, w_applies, trivial, trivial, w_case⟩
end start1
theorem witness_1 : WitnessClaimed_1 := ⟨start1.p0, start1.e0, start1.about1, start1.theMethod, start1.args0, start1.below0, start1.atStart⟩
end Jvm.Pilot.@@N@@
