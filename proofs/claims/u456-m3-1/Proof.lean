import JvmDerived
import JvmDerived.Pilot.@@N@@Statement
import JvmDerived.Pilot.@@N@@Code
set_option linter.unusedVariables false
set_option linter.unusedSimpArgs false
namespace Jvm.Own
open Jvm Jvm.ClassFile Sem Op Lib Jvm.Free Jvm.Stand Jvm.LawKit Jvm.RoadKit Bundle
/-- where the run stands inside a body: what is fixed, the heap, the room used -/
def St (p : Program) (l : Launch) (e : Env) (R : Room) (s : State) (m : MethodId) (args : Array Value) (below : List Frame) (meth : Method) (c : Code) (Z : State) (n0 : Nat) (y : MethodName) (code : ByteArray) (maxL : Nat) (ret : Option FieldType) (T : State) (h : Heap) (cells slots : Nat) : Prop :=
  (p.tables.exec = Jvm.exec ∧ Z.Warmed39 s.vm ∧ c.code = code ∧ c.maxLocals = maxL ∧ s.vm.findClass y.cls = some m.cls ∧ meth.name = y.name ∧ meth.sig.returnType = ret ∧ meth.locks = false ∧ n0 ≤ s.heap.size) ∧ T.heap = h ∧ ∃ locs, Stand p l e R s m args below meth c T locs cells slots ∧ Fr n0 locs
/-- from here the body comes to its end with Q -/
def WP (p : Program) (e : Env) (below : List Frame) (s : State) (n0 k n : Nat) (Q : Option Value → Heap → Prop) (T : State) (g : JFrame) : Prop :=
  ∃ s₂ o, Steps p.tables e below (T.setTop g) s₂ ∧ s₂.status = .running ∧ Ended s₂ below o ∧ ∃ v L, o = .returned v ∧ (Q v s₂.heap ∧ Fr n0 L) ∧ FrameEnd s o s₂ L k n
/-- a body's contract -/
def Ct (l : Launch) (Z : State) (y : MethodName) (code : ByteArray) (maxL : Nat) (ret : Option FieldType) (rm : Room) (as : Array Value) (h0 : Heap) (n0 : Nat) (Q : Option Value → Heap → Prop) : Prop :=
  ∀ ws, MetFree l y (head1 (Jvm.Cond.code y code maxL ret :: ws) rm) (fun a U => a = as ∧ Z.Warmed39 U.vm ∧ U.heap = h0) (fun _ _ _ _ _ => True) (fun _ U o U' => ∃ v L, o = .returned v ∧ (Q v U'.heap ∧ Fr n0 L) ∧ FrameEnd U o U' L rm.cells rm.slots)
section Steps
variable {p : Program} {l : Launch} {e : Env} {R : Room} {s : State} {m : MethodId} {args : Array Value} {below : List Frame} {meth : Method} {c : Code} {Z : State} {n0 : Nat} {y : MethodName} {code : ByteArray} {maxL : Nat} {ret : Option FieldType} {T : State} {h : Heap} {cells slots k n : Nat} {Q : Option Value → Heap → Prop} {pc pc' : Nat} {Ls : Array Slot} {S : List Value} {a0 : Array Value}
theorem WP.step {T' : State} {g g' : JFrame} (w : WP p e below s n0 k n Q T' g') (st : ∀ t, Steps p.tables e below (T'.setTop g') t → Steps p.tables e below (T.setTop g) t) : WP p e below s n0 k n Q T g := by
  obtain ⟨s₂, o, h1, r⟩ := w; exact ⟨s₂, o, st _ h1, r⟩
theorem WP.trans {T' : State} {g g' : JFrame} (w : WP p e below s n0 k n Q T' g') (st : Steps p.tables e below (T.setTop g) (T'.setTop g')) : WP p e below s n0 k n Q T g := by
  obtain ⟨s₂, o, h1, r⟩ := w; exact ⟨s₂, o, st.trans h1, r⟩
theorem WP.imp {Q' : Option Value → Heap → Prop} {g : JFrame} (w : WP p e below s n0 k n Q' T g) (hq : ∀ v h, Q' v h → Q v h) : WP p e below s n0 k n Q T g := by
  obtain ⟨s₂, o, h1, h2, h3, v, L, h4, ⟨h5, h6⟩, h7⟩ := w; exact ⟨s₂, o, h1, h2, h3, v, L, h4, ⟨hq _ _ h5, h6⟩, h7⟩
theorem WP.cast {g g' : JFrame} (q : g = g') (w : WP p e below s n0 k n Q T g') : WP p e below s n0 k n Q T g := q ▸ w
theorem Ct.imp {as : Array Value} {rm : Room} {Q' : Option Value → Heap → Prop} (ct : Ct l Z y code maxL ret rm as h n0 Q') (hq : ∀ v h, Q' v h → Q v h) : Ct l Z y code maxL ret rm as h n0 Q := by
  intro ws p e ha hc hk s m args below hf happ hP hK
  obtain ⟨n, o, h1, h2, h3, v, L, h4, ⟨h5, h6⟩, h7⟩ := ct ws p e ha hc hk s m args below hf happ hP hK
  exact ⟨n, o, h1, h2, h3, v, L, h4, ⟨hq _ _ h5, h6⟩, h7⟩
theorem Ct.intro {rm : Room} {as : Array Value} {h0 : Heap} (hpl : plainFor y = true) (Z0 : n0 ≤ h0.size)
    (body : ∀ p e s m below meth c T, St p l e rm s m as below meth c Z n0 y code maxL ret T h0 0 0 → WP p e below s n0 rm.cells rm.slots Q T (entryFrame m as maxL)) : Ct l Z y code maxL ret rm as h0 n0 Q := by
  intro ws
  refine MetFree.of_bodySF hpl hisR ?_
  intro p e s m args below meth c s₁ Bd hml0 hP hK
  obtain ⟨rfl, hZ, hh⟩ := hP
  exact body p e s m below meth c s₁ ⟨⟨Bd.exec, hZ, Bd.bytes, hml0, findClass_of_methodNamed Bd.named, (name_of_methodNamed Bd.named Bd.method).1, Bd.returns, BodyLoose.notSynchronized Bd, hh ▸ Z0⟩, by rw [← hh, Bd.state]; rfl, [], Stand.of_body Bd, Fr.nil n0⟩
theorem St.n0le (X : St p l e R s m args below meth c Z n0 y code maxL ret T h cells slots) : n0 ≤ h.size := by
  obtain ⟨⟨-, -, -, -, -, -, -, -, h0⟩, hT, locs, X, -⟩ := X
  have q : s.heap.size ≤ T.heap.size := X.same.2.1
  rw [hT] at q; exact Nat.le_trans h0 q
theorem St.mono (X : St p l e R s m args below meth c Z n0 y code maxL ret T h cells slots) {cells' slots' : Nat} (hc : cells ≤ cells') (hs : slots ≤ slots') : St p l e R s m args below meth c Z n0 y code maxL ret T h cells' slots' := by
  obtain ⟨h0, hT, locs, X, N⟩ := X
  exact ⟨h0, hT, locs, ⟨X.admits, X.cas, X.clock, X.frames, X.room, X.hears, X.method, X.code, X.here, X.tail, X.warmed, X.limits, X.bytes, X.same.mono hc hs⟩, N⟩
theorem w_nameI {v : Int32} (w : ∀ z, z = v → WP p e below s n0 k n Q T (mkF m pc Ls (.int z :: S))) : WP p e below s n0 k n Q T (mkF m pc Ls (.int v :: S)) := w v rfl
theorem w_nameJ {v : Int64} (w : ∀ z, z = v → WP p e below s n0 k n Q T (mkF m pc Ls (.long z :: S))) : WP p e below s n0 k n Q T (mkF m pc Ls (.long v :: S)) := w v rfl
theorem w_nameR {v : Addr} (w : ∀ z, z = v → WP p e below s n0 k n Q T (mkF m pc Ls (.ref z :: S))) : WP p e below s n0 k n Q T (mkF m pc Ls (.ref v :: S)) := w v rfl
theorem w_iload (X : St p l e R s m args below meth c Z n0 y code maxL ret T h cells slots) {i : Nat} {v : Int32} (hd : decode code pc = .ok (.iload i, 2)) (hl : Ls[i]? = some (.val (.int v))) (hp : pc' = pc + 2) (w : WP p e below s n0 k n Q T (mkF m pc' Ls (.int v :: S))) : WP p e below s n0 k n Q T (mkF m pc Ls (S)) := by
  obtain ⟨⟨hx, hZ, hby, hml, hown, hnm, hret, hlk, h00⟩, hT, locs, X, N⟩ := X
  subst hp
  exact w.step fun t kk => XS.iload X.here hx rfl (hb hby hd) hl kk
theorem w_iloadN (X : St p l e R s m args below meth c Z n0 y code maxL ret T h cells slots) {i : Fin 4} {v : Int32} (hd : decode code pc = .ok (.iload_n i, 1)) (hl : Ls[i.val]? = some (.val (.int v))) (hp : pc' = pc + 1) (w : WP p e below s n0 k n Q T (mkF m pc' Ls (.int v :: S))) : WP p e below s n0 k n Q T (mkF m pc Ls (S)) := by
  obtain ⟨⟨hx, hZ, hby, hml, hown, hnm, hret, hlk, h00⟩, hT, locs, X, N⟩ := X
  subst hp
  exact w.step fun t kk => XS.iloadN X.here hx rfl (hb hby hd) hl kk
theorem w_lload (X : St p l e R s m args below meth c Z n0 y code maxL ret T h cells slots) {i : Nat} {v : Int64} (hd : decode code pc = .ok (.lload i, 2)) (hl : Ls[i]? = some (.val (.long v))) (hp : pc' = pc + 2) (w : WP p e below s n0 k n Q T (mkF m pc' Ls (.long v :: S))) : WP p e below s n0 k n Q T (mkF m pc Ls (S)) := by
  obtain ⟨⟨hx, hZ, hby, hml, hown, hnm, hret, hlk, h00⟩, hT, locs, X, N⟩ := X
  subst hp
  exact w.step fun t kk => XS.lload X.here hx rfl (hb hby hd) hl kk
theorem w_lloadN (X : St p l e R s m args below meth c Z n0 y code maxL ret T h cells slots) {i : Fin 4} {v : Int64} (hd : decode code pc = .ok (.lload_n i, 1)) (hl : Ls[i.val]? = some (.val (.long v))) (hp : pc' = pc + 1) (w : WP p e below s n0 k n Q T (mkF m pc' Ls (.long v :: S))) : WP p e below s n0 k n Q T (mkF m pc Ls (S)) := by
  obtain ⟨⟨hx, hZ, hby, hml, hown, hnm, hret, hlk, h00⟩, hT, locs, X, N⟩ := X
  subst hp
  exact w.step fun t kk => XS.lloadN X.here hx rfl (hb hby hd) hl kk
theorem w_aload (X : St p l e R s m args below meth c Z n0 y code maxL ret T h cells slots) {i : Nat} {v : Value} (hd : decode code pc = .ok (.aload i, 2)) (hl : Ls[i]? = some (.val v)) (hv : v.isRef = true) (hp : pc' = pc + 2) (w : WP p e below s n0 k n Q T (mkF m pc' Ls (v :: S))) : WP p e below s n0 k n Q T (mkF m pc Ls (S)) := by
  obtain ⟨⟨hx, hZ, hby, hml, hown, hnm, hret, hlk, h00⟩, hT, locs, X, N⟩ := X
  subst hp
  exact w.step fun t kk => XS.aload X.here hx rfl (hb hby hd) hl hv kk
theorem w_aloadN (X : St p l e R s m args below meth c Z n0 y code maxL ret T h cells slots) {i : Fin 4} {v : Value} (hd : decode code pc = .ok (.aload_n i, 1)) (hl : Ls[i.val]? = some (.val v)) (hv : v.isRef = true) (hp : pc' = pc + 1) (w : WP p e below s n0 k n Q T (mkF m pc' Ls (v :: S))) : WP p e below s n0 k n Q T (mkF m pc Ls (S)) := by
  obtain ⟨⟨hx, hZ, hby, hml, hown, hnm, hret, hlk, h00⟩, hT, locs, X, N⟩ := X
  subst hp
  exact w.step fun t kk => XS.aloadN X.here hx rfl (hb hby hd) hl hv kk
theorem w_istore (X : St p l e R s m args below meth c Z n0 y code maxL ret T h cells slots) {i : Nat} {v : Int32} {L' : Array Slot} (hd : decode code pc = .ok (.istore i, 2)) (hl : storeLocals Ls i (.int v) = some L') (hp : pc' = pc + 2) (w : WP p e below s n0 k n Q T (mkF m pc' L' (S))) : WP p e below s n0 k n Q T (mkF m pc Ls (.int v :: S)) := by
  obtain ⟨⟨hx, hZ, hby, hml, hown, hnm, hret, hlk, h00⟩, hT, locs, X, N⟩ := X
  subst hp
  exact w.step fun t kk => XS.istore X.here hx rfl (hb hby hd) rfl hl kk
theorem w_istoreN (X : St p l e R s m args below meth c Z n0 y code maxL ret T h cells slots) {i : Fin 4} {v : Int32} {L' : Array Slot} (hd : decode code pc = .ok (.istore_n i, 1)) (hl : storeLocals Ls i.val (.int v) = some L') (hp : pc' = pc + 1) (w : WP p e below s n0 k n Q T (mkF m pc' L' (S))) : WP p e below s n0 k n Q T (mkF m pc Ls (.int v :: S)) := by
  obtain ⟨⟨hx, hZ, hby, hml, hown, hnm, hret, hlk, h00⟩, hT, locs, X, N⟩ := X
  subst hp
  exact w.step fun t kk => XS.istoreN X.here hx rfl (hb hby hd) rfl hl kk
theorem w_lstore (X : St p l e R s m args below meth c Z n0 y code maxL ret T h cells slots) {i : Nat} {v : Int64} {L' : Array Slot} (hd : decode code pc = .ok (.lstore i, 2)) (hl : storeLocals Ls i (.long v) = some L') (hp : pc' = pc + 2) (w : WP p e below s n0 k n Q T (mkF m pc' L' (S))) : WP p e below s n0 k n Q T (mkF m pc Ls (.long v :: S)) := by
  obtain ⟨⟨hx, hZ, hby, hml, hown, hnm, hret, hlk, h00⟩, hT, locs, X, N⟩ := X
  subst hp
  exact w.step fun t kk => XS.lstore X.here hx rfl (hb hby hd) rfl hl kk
theorem w_lstoreN (X : St p l e R s m args below meth c Z n0 y code maxL ret T h cells slots) {i : Fin 4} {v : Int64} {L' : Array Slot} (hd : decode code pc = .ok (.lstore_n i, 1)) (hl : storeLocals Ls i.val (.long v) = some L') (hp : pc' = pc + 1) (w : WP p e below s n0 k n Q T (mkF m pc' L' (S))) : WP p e below s n0 k n Q T (mkF m pc Ls (.long v :: S)) := by
  obtain ⟨⟨hx, hZ, hby, hml, hown, hnm, hret, hlk, h00⟩, hT, locs, X, N⟩ := X
  subst hp
  exact w.step fun t kk => XS.lstoreN X.here hx rfl (hb hby hd) rfl hl kk
theorem w_astore (X : St p l e R s m args below meth c Z n0 y code maxL ret T h cells slots) {i : Nat} {v : Value} {L' : Array Slot} (hd : decode code pc = .ok (.astore i, 2)) (hv : v.isRef = true) (hl : storeLocals Ls i v = some L') (hp : pc' = pc + 2) (w : WP p e below s n0 k n Q T (mkF m pc' L' (S))) : WP p e below s n0 k n Q T (mkF m pc Ls (v :: S)) := by
  obtain ⟨⟨hx, hZ, hby, hml, hown, hnm, hret, hlk, h00⟩, hT, locs, X, N⟩ := X
  subst hp
  exact w.step fun t kk => XS.astore X.here hx rfl (hb hby hd) rfl hv hl kk
theorem w_astoreN (X : St p l e R s m args below meth c Z n0 y code maxL ret T h cells slots) {i : Fin 4} {v : Value} {L' : Array Slot} (hd : decode code pc = .ok (.astore_n i, 1)) (hv : v.isRef = true) (hl : storeLocals Ls i.val v = some L') (hp : pc' = pc + 1) (w : WP p e below s n0 k n Q T (mkF m pc' L' (S))) : WP p e below s n0 k n Q T (mkF m pc Ls (v :: S)) := by
  obtain ⟨⟨hx, hZ, hby, hml, hown, hnm, hret, hlk, h00⟩, hT, locs, X, N⟩ := X
  subst hp
  exact w.step fun t kk => XS.astoreN X.here hx rfl (hb hby hd) rfl hv hl kk
theorem w_iinc (X : St p l e R s m args below meth c Z n0 y code maxL ret T h cells slots) {i : Nat} {d : Int} {v v' : Int32} {L' : Array Slot} (hd : decode code pc = .ok (.iinc i d, 3)) (hl : Ls[i]? = some (.val (.int v))) (hv : v + Int32.ofInt d = v') (hl' : storeLocals Ls i (.int v') = some L') (hp : pc' = pc + 3) (w : WP p e below s n0 k n Q T (mkF m pc' L' (S))) : WP p e below s n0 k n Q T (mkF m pc Ls (S)) := by
  obtain ⟨⟨hx, hZ, hby, hml, hown, hnm, hret, hlk, h00⟩, hT, locs, X, N⟩ := X
  subst hp hv
  exact w.step fun t kk => XS.iinc X.here hx rfl (hb hby hd) hl hl' kk
theorem w_iconst (X : St p l e R s m args below meth c Z n0 y code maxL ret T h cells slots) {i : Int} {v : Int32} (hd : decode code pc = .ok (.iconst i, 1)) (hv : Int32.ofInt i = v) (hp : pc' = pc + 1) (w : WP p e below s n0 k n Q T (mkF m pc' Ls (.int v :: S))) : WP p e below s n0 k n Q T (mkF m pc Ls (S)) := by
  obtain ⟨⟨hx, hZ, hby, hml, hown, hnm, hret, hlk, h00⟩, hT, locs, X, N⟩ := X
  subst hp hv
  exact w.step fun t kk => XS.iconst X.here hx rfl (hb hby hd) kk
theorem w_bipush (X : St p l e R s m args below meth c Z n0 y code maxL ret T h cells slots) {i : Int} {v : Int32} (hd : decode code pc = .ok (.bipush i, 2)) (hv : (Int8.ofInt i).toInt32 = v) (hp : pc' = pc + 2) (w : WP p e below s n0 k n Q T (mkF m pc' Ls (.int v :: S))) : WP p e below s n0 k n Q T (mkF m pc Ls (S)) := by
  obtain ⟨⟨hx, hZ, hby, hml, hown, hnm, hret, hlk, h00⟩, hT, locs, X, N⟩ := X
  subst hp hv
  exact w.step fun t kk => XS.bipush X.here hx rfl (hb hby hd) kk
theorem w_sipush (X : St p l e R s m args below meth c Z n0 y code maxL ret T h cells slots) {i : Int} {v : Int32} (hd : decode code pc = .ok (.sipush i, 3)) (hv : (Int16.ofInt i).toInt32 = v) (hp : pc' = pc + 3) (w : WP p e below s n0 k n Q T (mkF m pc' Ls (.int v :: S))) : WP p e below s n0 k n Q T (mkF m pc Ls (S)) := by
  obtain ⟨⟨hx, hZ, hby, hml, hown, hnm, hret, hlk, h00⟩, hT, locs, X, N⟩ := X
  subst hp hv
  exact w.step fun t kk => XS.sipush X.here hx rfl (hb hby hd) kk
theorem w_lconst (X : St p l e R s m args below meth c Z n0 y code maxL ret T h cells slots) {i : Fin 2} {v : Int64} (hd : decode code pc = .ok (.lconst i, 1)) (hv : Int64.ofNat i = v) (hp : pc' = pc + 1) (w : WP p e below s n0 k n Q T (mkF m pc' Ls (.long v :: S))) : WP p e below s n0 k n Q T (mkF m pc Ls (S)) := by
  obtain ⟨⟨hx, hZ, hby, hml, hown, hnm, hret, hlk, h00⟩, hT, locs, X, N⟩ := X
  subst hp hv
  exact w.step fun t kk => XS.lconst X.here hx rfl (hb hby hd) kk
theorem w_aconst_null (X : St p l e R s m args below meth c Z n0 y code maxL ret T h cells slots)  (hd : decode code pc = .ok (.aconst_null, 1)) (hp : pc' = pc + 1) (w : WP p e below s n0 k n Q T (mkF m pc' Ls (.null :: S))) : WP p e below s n0 k n Q T (mkF m pc Ls (S)) := by
  obtain ⟨⟨hx, hZ, hby, hml, hown, hnm, hret, hlk, h00⟩, hT, locs, X, N⟩ := X
  subst hp
  exact w.step fun t kk => XS.aconstNull X.here hx rfl (hb hby hd) kk
theorem w_ldcI (X : St p l e R s m args below meth c Z n0 y code maxL ret T h cells slots) {i : Nat} {v : Int32} (hd : decode code pc = .ok (.ldc i, 2)) (wc : (Jvm.Cond.constant y.cls i v).before a0 Z = true) (hp : pc' = pc + 2) (w : WP p e below s n0 k n Q T (mkF m pc' Ls (.int v :: S))) : WP p e below s n0 k n Q T (mkF m pc Ls (S)) := by
  obtain ⟨⟨hx, hZ, hby, hml, hown, hnm, hret, hlk, h00⟩, hT, locs, X, N⟩ := X
  subst hp
  exact w.step fun t kk => X.ldcInt hx hown (mvT (d := Jvm.Cond.constant y.cls i v) hZ wc) (g := mkF m pc Ls S) rfl (hb hby hd) t kk
theorem w_ldcWI (X : St p l e R s m args below meth c Z n0 y code maxL ret T h cells slots) {i : Nat} {v : Int32} (hd : decode code pc = .ok (.ldc_w i, 3)) (wc : (Jvm.Cond.constant y.cls i v).before a0 Z = true) (hp : pc' = pc + 3) (w : WP p e below s n0 k n Q T (mkF m pc' Ls (.int v :: S))) : WP p e below s n0 k n Q T (mkF m pc Ls (S)) := by
  obtain ⟨⟨hx, hZ, hby, hml, hown, hnm, hret, hlk, h00⟩, hT, locs, X, N⟩ := X
  subst hp
  exact w.step fun t kk => X.ldcwInt hx hown (mvT (d := Jvm.Cond.constant y.cls i v) hZ wc) (g := mkF m pc Ls S) rfl (hb hby hd) t kk
theorem w_ldcJ (X : St p l e R s m args below meth c Z n0 y code maxL ret T h cells slots) {i : Nat} {v : Int64} (hd : decode code pc = .ok (.ldc2_w i, 3)) (wc : (Jvm.Cond.constantLong y.cls i v).before a0 Z = true) (hp : pc' = pc + 3) (w : WP p e below s n0 k n Q T (mkF m pc' Ls (.long v :: S))) : WP p e below s n0 k n Q T (mkF m pc Ls (S)) := by
  obtain ⟨⟨hx, hZ, hby, hml, hown, hnm, hret, hlk, h00⟩, hT, locs, X, N⟩ := X
  subst hp
  exact w.step fun t kk => X.ldc2Long hx hown (mvT (d := Jvm.Cond.constantLong y.cls i v) hZ wc) (g := mkF m pc Ls S) rfl (hb hby hd) t kk
theorem w_iadd (X : St p l e R s m args below meth c Z n0 y code maxL ret T h cells slots) {x z : Int32} (hd : decode code pc = .ok (.iadd, 1)) (hp : pc' = pc + 1) (w : WP p e below s n0 k n Q T (mkF m pc' Ls (.int (x + z) :: S))) : WP p e below s n0 k n Q T (mkF m pc Ls (.int z :: .int x :: S)) := by
  obtain ⟨⟨hx, hZ, hby, hml, hown, hnm, hret, hlk, h00⟩, hT, locs, X, N⟩ := X
  subst hp
  exact w.step fun t kk => XS.iadd X.here hx rfl (hb hby hd) rfl kk
theorem w_ladd (X : St p l e R s m args below meth c Z n0 y code maxL ret T h cells slots) {x z : Int64} (hd : decode code pc = .ok (.ladd, 1)) (hp : pc' = pc + 1) (w : WP p e below s n0 k n Q T (mkF m pc' Ls (.long (x + z) :: S))) : WP p e below s n0 k n Q T (mkF m pc Ls (.long z :: .long x :: S)) := by
  obtain ⟨⟨hx, hZ, hby, hml, hown, hnm, hret, hlk, h00⟩, hT, locs, X, N⟩ := X
  subst hp
  exact w.step fun t kk => XS.ladd X.here hx rfl (hb hby hd) rfl kk
theorem w_isub (X : St p l e R s m args below meth c Z n0 y code maxL ret T h cells slots) {x z : Int32} (hd : decode code pc = .ok (.isub, 1)) (hp : pc' = pc + 1) (w : WP p e below s n0 k n Q T (mkF m pc' Ls (.int (x - z) :: S))) : WP p e below s n0 k n Q T (mkF m pc Ls (.int z :: .int x :: S)) := by
  obtain ⟨⟨hx, hZ, hby, hml, hown, hnm, hret, hlk, h00⟩, hT, locs, X, N⟩ := X
  subst hp
  exact w.step fun t kk => XS.isub X.here hx rfl (hb hby hd) rfl kk
theorem w_lsub (X : St p l e R s m args below meth c Z n0 y code maxL ret T h cells slots) {x z : Int64} (hd : decode code pc = .ok (.lsub, 1)) (hp : pc' = pc + 1) (w : WP p e below s n0 k n Q T (mkF m pc' Ls (.long (x - z) :: S))) : WP p e below s n0 k n Q T (mkF m pc Ls (.long z :: .long x :: S)) := by
  obtain ⟨⟨hx, hZ, hby, hml, hown, hnm, hret, hlk, h00⟩, hT, locs, X, N⟩ := X
  subst hp
  exact w.step fun t kk => XS.lsub X.here hx rfl (hb hby hd) rfl kk
theorem w_imul (X : St p l e R s m args below meth c Z n0 y code maxL ret T h cells slots) {x z : Int32} (hd : decode code pc = .ok (.imul, 1)) (hp : pc' = pc + 1) (w : WP p e below s n0 k n Q T (mkF m pc' Ls (.int (x * z) :: S))) : WP p e below s n0 k n Q T (mkF m pc Ls (.int z :: .int x :: S)) := by
  obtain ⟨⟨hx, hZ, hby, hml, hown, hnm, hret, hlk, h00⟩, hT, locs, X, N⟩ := X
  subst hp
  exact w.step fun t kk => XS.imul X.here hx rfl (hb hby hd) rfl kk
theorem w_lmul (X : St p l e R s m args below meth c Z n0 y code maxL ret T h cells slots) {x z : Int64} (hd : decode code pc = .ok (.lmul, 1)) (hp : pc' = pc + 1) (w : WP p e below s n0 k n Q T (mkF m pc' Ls (.long (x * z) :: S))) : WP p e below s n0 k n Q T (mkF m pc Ls (.long z :: .long x :: S)) := by
  obtain ⟨⟨hx, hZ, hby, hml, hown, hnm, hret, hlk, h00⟩, hT, locs, X, N⟩ := X
  subst hp
  exact w.step fun t kk => XS.lmul X.here hx rfl (hb hby hd) rfl kk
theorem w_iand (X : St p l e R s m args below meth c Z n0 y code maxL ret T h cells slots) {x z : Int32} (hd : decode code pc = .ok (.iand, 1)) (hp : pc' = pc + 1) (w : WP p e below s n0 k n Q T (mkF m pc' Ls (.int (x &&& z) :: S))) : WP p e below s n0 k n Q T (mkF m pc Ls (.int z :: .int x :: S)) := by
  obtain ⟨⟨hx, hZ, hby, hml, hown, hnm, hret, hlk, h00⟩, hT, locs, X, N⟩ := X
  subst hp
  exact w.step fun t kk => XS.iand X.here hx rfl (hb hby hd) rfl kk
theorem w_land (X : St p l e R s m args below meth c Z n0 y code maxL ret T h cells slots) {x z : Int64} (hd : decode code pc = .ok (.land, 1)) (hp : pc' = pc + 1) (w : WP p e below s n0 k n Q T (mkF m pc' Ls (.long (x &&& z) :: S))) : WP p e below s n0 k n Q T (mkF m pc Ls (.long z :: .long x :: S)) := by
  obtain ⟨⟨hx, hZ, hby, hml, hown, hnm, hret, hlk, h00⟩, hT, locs, X, N⟩ := X
  subst hp
  exact w.step fun t kk => XS.land X.here hx rfl (hb hby hd) rfl kk
theorem w_ior (X : St p l e R s m args below meth c Z n0 y code maxL ret T h cells slots) {x z : Int32} (hd : decode code pc = .ok (.ior, 1)) (hp : pc' = pc + 1) (w : WP p e below s n0 k n Q T (mkF m pc' Ls (.int (x ||| z) :: S))) : WP p e below s n0 k n Q T (mkF m pc Ls (.int z :: .int x :: S)) := by
  obtain ⟨⟨hx, hZ, hby, hml, hown, hnm, hret, hlk, h00⟩, hT, locs, X, N⟩ := X
  subst hp
  exact w.step fun t kk => XS.ior X.here hx rfl (hb hby hd) rfl kk
theorem w_lor (X : St p l e R s m args below meth c Z n0 y code maxL ret T h cells slots) {x z : Int64} (hd : decode code pc = .ok (.lor, 1)) (hp : pc' = pc + 1) (w : WP p e below s n0 k n Q T (mkF m pc' Ls (.long (x ||| z) :: S))) : WP p e below s n0 k n Q T (mkF m pc Ls (.long z :: .long x :: S)) := by
  obtain ⟨⟨hx, hZ, hby, hml, hown, hnm, hret, hlk, h00⟩, hT, locs, X, N⟩ := X
  subst hp
  exact w.step fun t kk => XS.lor X.here hx rfl (hb hby hd) rfl kk
theorem w_ixor (X : St p l e R s m args below meth c Z n0 y code maxL ret T h cells slots) {x z : Int32} (hd : decode code pc = .ok (.ixor, 1)) (hp : pc' = pc + 1) (w : WP p e below s n0 k n Q T (mkF m pc' Ls (.int (x ^^^ z) :: S))) : WP p e below s n0 k n Q T (mkF m pc Ls (.int z :: .int x :: S)) := by
  obtain ⟨⟨hx, hZ, hby, hml, hown, hnm, hret, hlk, h00⟩, hT, locs, X, N⟩ := X
  subst hp
  exact w.step fun t kk => XS.ixor X.here hx rfl (hb hby hd) rfl kk
theorem w_lxor (X : St p l e R s m args below meth c Z n0 y code maxL ret T h cells slots) {x z : Int64} (hd : decode code pc = .ok (.lxor, 1)) (hp : pc' = pc + 1) (w : WP p e below s n0 k n Q T (mkF m pc' Ls (.long (x ^^^ z) :: S))) : WP p e below s n0 k n Q T (mkF m pc Ls (.long z :: .long x :: S)) := by
  obtain ⟨⟨hx, hZ, hby, hml, hown, hnm, hret, hlk, h00⟩, hT, locs, X, N⟩ := X
  subst hp
  exact w.step fun t kk => XS.lxor X.here hx rfl (hb hby hd) rfl kk
theorem w_ineg (X : St p l e R s m args below meth c Z n0 y code maxL ret T h cells slots) {x : Int32} (hd : decode code pc = .ok (.ineg, 1)) (hp : pc' = pc + 1) (w : WP p e below s n0 k n Q T (mkF m pc' Ls (.int (-x) :: S))) : WP p e below s n0 k n Q T (mkF m pc Ls (.int x :: S)) := by
  obtain ⟨⟨hx, hZ, hby, hml, hown, hnm, hret, hlk, h00⟩, hT, locs, X, N⟩ := X
  subst hp
  exact w.step fun t kk => XS.ineg X.here hx rfl (hb hby hd) rfl kk
theorem w_lneg (X : St p l e R s m args below meth c Z n0 y code maxL ret T h cells slots) {x : Int64} (hd : decode code pc = .ok (.lneg, 1)) (hp : pc' = pc + 1) (w : WP p e below s n0 k n Q T (mkF m pc' Ls (.long (-x) :: S))) : WP p e below s n0 k n Q T (mkF m pc Ls (.long x :: S)) := by
  obtain ⟨⟨hx, hZ, hby, hml, hown, hnm, hret, hlk, h00⟩, hT, locs, X, N⟩ := X
  subst hp
  exact w.step fun t kk => XS.lneg X.here hx rfl (hb hby hd) rfl kk
theorem w_idiv (X : St p l e R s m args below meth c Z n0 y code maxL ret T h cells slots) {x z : Int32} (hd : decode code pc = .ok (.idiv, 1)) (hz : z ≠ 0) (hp : pc' = pc + 1) (w : WP p e below s n0 k n Q T (mkF m pc' Ls (.int (x / z) :: S))) : WP p e below s n0 k n Q T (mkF m pc Ls (.int z :: .int x :: S)) := by
  obtain ⟨⟨hx, hZ, hby, hml, hown, hnm, hret, hlk, h00⟩, hT, locs, X, N⟩ := X
  subst hp
  exact w.step fun t kk => XS.idiv X.here hx rfl (hb hby hd) rfl hz kk
theorem w_irem (X : St p l e R s m args below meth c Z n0 y code maxL ret T h cells slots) {x z : Int32} (hd : decode code pc = .ok (.irem, 1)) (hz : z ≠ 0) (hp : pc' = pc + 1) (w : WP p e below s n0 k n Q T (mkF m pc' Ls (.int (x % z) :: S))) : WP p e below s n0 k n Q T (mkF m pc Ls (.int z :: .int x :: S)) := by
  obtain ⟨⟨hx, hZ, hby, hml, hown, hnm, hret, hlk, h00⟩, hT, locs, X, N⟩ := X
  subst hp
  exact w.step fun t kk => iremM X hx rfl (hb hby hd) rfl hz kk
theorem w_ldiv (X : St p l e R s m args below meth c Z n0 y code maxL ret T h cells slots) {x z : Int64} (hd : decode code pc = .ok (.ldiv, 1)) (hz : z ≠ 0) (hp : pc' = pc + 1) (w : WP p e below s n0 k n Q T (mkF m pc' Ls (.long (x / z) :: S))) : WP p e below s n0 k n Q T (mkF m pc Ls (.long z :: .long x :: S)) := by
  obtain ⟨⟨hx, hZ, hby, hml, hown, hnm, hret, hlk, h00⟩, hT, locs, X, N⟩ := X
  subst hp
  exact w.step fun t kk => XS.ldiv X.here hx rfl (hb hby hd) rfl hz kk
theorem w_lrem (X : St p l e R s m args below meth c Z n0 y code maxL ret T h cells slots) {x z : Int64} (hd : decode code pc = .ok (.lrem, 1)) (hz : z ≠ 0) (hp : pc' = pc + 1) (w : WP p e below s n0 k n Q T (mkF m pc' Ls (.long (x % z) :: S))) : WP p e below s n0 k n Q T (mkF m pc Ls (.long z :: .long x :: S)) := by
  obtain ⟨⟨hx, hZ, hby, hml, hown, hnm, hret, hlk, h00⟩, hT, locs, X, N⟩ := X
  subst hp
  exact w.step fun t kk => XS.lrem X.here hx rfl (hb hby hd) rfl hz (by rw [lrem_mod]; exact kk)
theorem w_ishl (X : St p l e R s m args below meth c Z n0 y code maxL ret T h cells slots) {x z : Int32} (hd : decode code pc = .ok (.ishl, 1)) (hp : pc' = pc + 1) (w : WP p e below s n0 k n Q T (mkF m pc' Ls (.int (x <<< (z &&& 31)) :: S))) : WP p e below s n0 k n Q T (mkF m pc Ls (.int z :: .int x :: S)) := by
  obtain ⟨⟨hx, hZ, hby, hml, hown, hnm, hret, hlk, h00⟩, hT, locs, X, N⟩ := X
  subst hp
  exact w.step fun t kk => XS.ishl X.here hx rfl (hb hby hd) rfl kk
theorem w_ishr (X : St p l e R s m args below meth c Z n0 y code maxL ret T h cells slots) {x z : Int32} (hd : decode code pc = .ok (.ishr, 1)) (hp : pc' = pc + 1) (w : WP p e below s n0 k n Q T (mkF m pc' Ls (.int (x >>> (z &&& 31)) :: S))) : WP p e below s n0 k n Q T (mkF m pc Ls (.int z :: .int x :: S)) := by
  obtain ⟨⟨hx, hZ, hby, hml, hown, hnm, hret, hlk, h00⟩, hT, locs, X, N⟩ := X
  subst hp
  exact w.step fun t kk => XS.ishr X.here hx rfl (hb hby hd) rfl kk
theorem w_iushr (X : St p l e R s m args below meth c Z n0 y code maxL ret T h cells slots) {x z : Int32} (hd : decode code pc = .ok (.iushr, 1)) (hp : pc' = pc + 1) (w : WP p e below s n0 k n Q T (mkF m pc' Ls (.int ((x.toUInt32 >>> (z &&& 31).toUInt32).toInt32) :: S))) : WP p e below s n0 k n Q T (mkF m pc Ls (.int z :: .int x :: S)) := by
  obtain ⟨⟨hx, hZ, hby, hml, hown, hnm, hret, hlk, h00⟩, hT, locs, X, N⟩ := X
  subst hp
  exact w.step fun t kk => XS.iushr X.here hx rfl (hb hby hd) rfl kk
theorem w_lshl (X : St p l e R s m args below meth c Z n0 y code maxL ret T h cells slots) {x : Int64} {z : Int32} (hd : decode code pc = .ok (.lshl, 1)) (hp : pc' = pc + 1) (w : WP p e below s n0 k n Q T (mkF m pc' Ls (.long (x <<< (z &&& 0x3f).toInt64) :: S))) : WP p e below s n0 k n Q T (mkF m pc Ls (.int z :: .long x :: S)) := by
  obtain ⟨⟨hx, hZ, hby, hml, hown, hnm, hret, hlk, h00⟩, hT, locs, X, N⟩ := X
  subst hp
  exact w.step fun t kk => XS.lshl X.here hx rfl (hb hby hd) rfl kk
theorem w_lshr (X : St p l e R s m args below meth c Z n0 y code maxL ret T h cells slots) {x : Int64} {z : Int32} (hd : decode code pc = .ok (.lshr, 1)) (hp : pc' = pc + 1) (w : WP p e below s n0 k n Q T (mkF m pc' Ls (.long (x >>> (z &&& 0x3f).toInt64) :: S))) : WP p e below s n0 k n Q T (mkF m pc Ls (.int z :: .long x :: S)) := by
  obtain ⟨⟨hx, hZ, hby, hml, hown, hnm, hret, hlk, h00⟩, hT, locs, X, N⟩ := X
  subst hp
  exact w.step fun t kk => XS.lshr X.here hx rfl (hb hby hd) rfl kk
theorem w_lushr (X : St p l e R s m args below meth c Z n0 y code maxL ret T h cells slots) {x : Int64} {z : Int32} (hd : decode code pc = .ok (.lushr, 1)) (hp : pc' = pc + 1) (w : WP p e below s n0 k n Q T (mkF m pc' Ls (.long ((x.toUInt64 >>> (z &&& 0x3f).toInt64.toUInt64).toInt64) :: S))) : WP p e below s n0 k n Q T (mkF m pc Ls (.int z :: .long x :: S)) := by
  obtain ⟨⟨hx, hZ, hby, hml, hown, hnm, hret, hlk, h00⟩, hT, locs, X, N⟩ := X
  subst hp
  exact w.step fun t kk => XS.lushr X.here hx rfl (hb hby hd) rfl kk
theorem w_i2b (X : St p l e R s m args below meth c Z n0 y code maxL ret T h cells slots) {x : Int32} (hd : decode code pc = .ok (.i2b, 1)) (hp : pc' = pc + 1) (w : WP p e below s n0 k n Q T (mkF m pc' Ls (.int x.toInt8.toInt32 :: S))) : WP p e below s n0 k n Q T (mkF m pc Ls (.int x :: S)) := by
  obtain ⟨⟨hx, hZ, hby, hml, hown, hnm, hret, hlk, h00⟩, hT, locs, X, N⟩ := X
  subst hp
  exact w.step fun t kk => XS.i2b X.here hx rfl (hb hby hd) rfl kk
theorem w_i2c (X : St p l e R s m args below meth c Z n0 y code maxL ret T h cells slots) {x : Int32} (hd : decode code pc = .ok (.i2c, 1)) (hp : pc' = pc + 1) (w : WP p e below s n0 k n Q T (mkF m pc' Ls (.int x.toUInt32.toUInt16.toUInt32.toInt32 :: S))) : WP p e below s n0 k n Q T (mkF m pc Ls (.int x :: S)) := by
  obtain ⟨⟨hx, hZ, hby, hml, hown, hnm, hret, hlk, h00⟩, hT, locs, X, N⟩ := X
  subst hp
  exact w.step fun t kk => XS.i2c X.here hx rfl (hb hby hd) rfl kk
theorem w_i2s (X : St p l e R s m args below meth c Z n0 y code maxL ret T h cells slots) {x : Int32} (hd : decode code pc = .ok (.i2s, 1)) (hp : pc' = pc + 1) (w : WP p e below s n0 k n Q T (mkF m pc' Ls (.int x.toInt16.toInt32 :: S))) : WP p e below s n0 k n Q T (mkF m pc Ls (.int x :: S)) := by
  obtain ⟨⟨hx, hZ, hby, hml, hown, hnm, hret, hlk, h00⟩, hT, locs, X, N⟩ := X
  subst hp
  exact w.step fun t kk => XS.i2s X.here hx rfl (hb hby hd) rfl kk
theorem w_i2l (X : St p l e R s m args below meth c Z n0 y code maxL ret T h cells slots) {x : Int32} (hd : decode code pc = .ok (.i2l, 1)) (hp : pc' = pc + 1) (w : WP p e below s n0 k n Q T (mkF m pc' Ls (.long x.toInt64 :: S))) : WP p e below s n0 k n Q T (mkF m pc Ls (.int x :: S)) := by
  obtain ⟨⟨hx, hZ, hby, hml, hown, hnm, hret, hlk, h00⟩, hT, locs, X, N⟩ := X
  subst hp
  exact w.step fun t kk => XS.i2l X.here hx rfl (hb hby hd) rfl kk
theorem w_l2i (X : St p l e R s m args below meth c Z n0 y code maxL ret T h cells slots) {x : Int64} (hd : decode code pc = .ok (.l2i, 1)) (hp : pc' = pc + 1) (w : WP p e below s n0 k n Q T (mkF m pc' Ls (.int x.toInt32 :: S))) : WP p e below s n0 k n Q T (mkF m pc Ls (.long x :: S)) := by
  obtain ⟨⟨hx, hZ, hby, hml, hown, hnm, hret, hlk, h00⟩, hT, locs, X, N⟩ := X
  subst hp
  exact w.step fun t kk => XS.l2i X.here hx rfl (hb hby hd) rfl kk
theorem w_lcmp (X : St p l e R s m args below meth c Z n0 y code maxL ret T h cells slots) {x z : Int64} (hd : decode code pc = .ok (.lcmp, 1)) (hp : pc' = pc + 1) (w : WP p e below s n0 k n Q T (mkF m pc' Ls (.int (lcmpW x z) :: S))) : WP p e below s n0 k n Q T (mkF m pc Ls (.long z :: .long x :: S)) := by
  obtain ⟨⟨hx, hZ, hby, hml, hown, hnm, hret, hlk, h00⟩, hT, locs, X, N⟩ := X
  subst hp
  exact w.step fun t kk => XS.lcmp X.here hx rfl (hb hby hd) rfl kk
theorem w_dup (X : St p l e R s m args below meth c Z n0 y code maxL ret T h cells slots) {v : Value} (hd : decode code pc = .ok (.dup, 1)) (hv : v.category = 1) (hp : pc' = pc + 1) (w : WP p e below s n0 k n Q T (mkF m pc' Ls (v :: v :: S))) : WP p e below s n0 k n Q T (mkF m pc Ls (v :: S)) := by
  obtain ⟨⟨hx, hZ, hby, hml, hown, hnm, hret, hlk, h00⟩, hT, locs, X, N⟩ := X
  subst hp
  exact w.step fun t kk => XS.dup X.here hx rfl (hb hby hd) rfl hv kk
theorem w_pop (X : St p l e R s m args below meth c Z n0 y code maxL ret T h cells slots) {v : Value} (hd : decode code pc = .ok (.pop, 1)) (hv : v.category = 1) (hp : pc' = pc + 1) (w : WP p e below s n0 k n Q T (mkF m pc' Ls (S))) : WP p e below s n0 k n Q T (mkF m pc Ls (v :: S)) := by
  obtain ⟨⟨hx, hZ, hby, hml, hown, hnm, hret, hlk, h00⟩, hT, locs, X, N⟩ := X
  subst hp
  exact w.step fun t kk => XS.pop X.here hx rfl (hb hby hd) rfl hv kk
theorem w_dup_x1 (X : St p l e R s m args below meth c Z n0 y code maxL ret T h cells slots) {v u : Value} (hd : decode code pc = .ok (.dup_x1, 1)) (hv : v.category = 1) (hu : u.category = 1) (hp : pc' = pc + 1) (w : WP p e below s n0 k n Q T (mkF m pc' Ls (v :: u :: v :: S))) : WP p e below s n0 k n Q T (mkF m pc Ls (v :: u :: S)) := by
  obtain ⟨⟨hx, hZ, hby, hml, hown, hnm, hret, hlk, h00⟩, hT, locs, X, N⟩ := X
  subst hp
  exact w.step fun t kk => XS.dupX1 X.here hx rfl (hb hby hd) rfl hv hu kk
theorem w_dup2 (X : St p l e R s m args below meth c Z n0 y code maxL ret T h cells slots) {j : Int32} {a : Addr} (hd : decode code pc = .ok (.dup2, 1)) (hp : pc' = pc + 1) (w : WP p e below s n0 k n Q T (mkF m pc' Ls (.int j :: .ref a :: .int j :: .ref a :: S))) : WP p e below s n0 k n Q T (mkF m pc Ls (.int j :: .ref a :: S)) := by
  obtain ⟨⟨hx, hZ, hby, hml, hown, hnm, hret, hlk, h00⟩, hT, locs, X, N⟩ := X
  subst hp
  refine w.step fun t kk => ?_
  have hd' := hb hby hd
  jvm_step X.here [X.here.top, hx, hd', Value.category]
  exact kk
theorem w_goto (X : St p l e R s m args below meth c Z n0 y code maxL ret T h cells slots) {o : Int} (hd : decode code pc = .ok (.goto o, 3)) (ho : 0 ≤ (pc : Int) + o) (hp : ((pc : Int) + o).toNat = pc') (w : WP p e below s n0 k n Q T (mkF m pc' Ls S)) : WP p e below s n0 k n Q T (mkF m pc Ls S) := by
  obtain ⟨⟨hx, hZ, hby, hml, hown, hnm, hret, hlk, h00⟩, hT, locs, X, N⟩ := X
  exact w.step fun t kk => XS.goto X.here hx rfl rfl (hb hby hd) ho hp kk
theorem w_icmp_lt (X : St p l e R s m args below meth c Z n0 y code maxL ret T h cells slots) {o : Int} {x z : Int32} {p1 p2 : Nat} (hd : decode code pc = .ok (.if_icmp .lt o, 3)) (ho : 0 ≤ (pc : Int) + o) (h1 : ((pc : Int) + o).toNat = p1) (h2 : p2 = pc + 3) (wt : x < z → WP p e below s n0 k n Q T (mkF m p1 Ls S)) (wf : ¬ x < z → WP p e below s n0 k n Q T (mkF m p2 Ls S)) : WP p e below s n0 k n Q T (mkF m pc Ls (.int z :: .int x :: S)) := by
  obtain ⟨⟨hx, hZ, hby, hml, hown, hnm, hret, hlk, h00⟩, hT, locs, X, N⟩ := X
  subst h2
  by_cases q0 : x < z
  · have q := q0
    exact (wt q).step fun t kk => XS.icmpYes X.here hx rfl rfl (hb hby hd) rfl (tlt q).1 ho h1 kk
  · have q := q0
    exact (wf q).step fun t kk => XS.icmpNo X.here hx rfl (hb hby hd) rfl (flt q).1 kk
theorem w_if_lt (X : St p l e R s m args below meth c Z n0 y code maxL ret T h cells slots) {o : Int} {x : Int32} {p1 p2 : Nat} (hd : decode code pc = .ok (.ifCond .lt o, 3)) (ho : 0 ≤ (pc : Int) + o) (h1 : ((pc : Int) + o).toNat = p1) (h2 : p2 = pc + 3) (wt : x < (0 : Int32) → WP p e below s n0 k n Q T (mkF m p1 Ls S)) (wf : ¬ x < (0 : Int32) → WP p e below s n0 k n Q T (mkF m p2 Ls S)) : WP p e below s n0 k n Q T (mkF m pc Ls (.int x :: S)) := by
  obtain ⟨⟨hx, hZ, hby, hml, hown, hnm, hret, hlk, h00⟩, hT, locs, X, N⟩ := X
  subst h2
  by_cases q0 : x < (0 : Int32)
  · have q := q0
    exact (wt q).step fun t kk => XS.ifYes X.here hx rfl rfl (hb hby hd) rfl ((if0 _ _).trans (tlt q).1) ho h1 kk
  · have q := q0
    exact (wf q).step fun t kk => XS.ifNo X.here hx rfl (hb hby hd) rfl ((if0 _ _).trans (flt q).1) kk
theorem w_lcmp_lt (X : St p l e R s m args below meth c Z n0 y code maxL ret T h cells slots) {o : Int} {x z : Int64} {p0 p1 p2 : Nat} (hd0 : decode code pc = .ok (.lcmp, 1)) (h0 : p0 = pc + 1) (hd : decode code p0 = .ok (.ifCond .lt o, 3)) (ho : 0 ≤ (p0 : Int) + o) (h1 : ((p0 : Int) + o).toNat = p1) (h2 : p2 = p0 + 3) (wt : x < z → WP p e below s n0 k n Q T (mkF m p1 Ls S)) (wf : ¬ x < z → WP p e below s n0 k n Q T (mkF m p2 Ls S)) : WP p e below s n0 k n Q T (mkF m pc Ls (.long z :: .long x :: S)) :=
  w_lcmp X hd0 h0 (w_if_lt X hd ho h1 h2 (fun q => wt ((lw_lt _ _).mp q)) (fun q => wf (fun u => q ((lw_lt _ _).mpr u))))
theorem w_icmp_ge (X : St p l e R s m args below meth c Z n0 y code maxL ret T h cells slots) {o : Int} {x z : Int32} {p1 p2 : Nat} (hd : decode code pc = .ok (.if_icmp .ge o, 3)) (ho : 0 ≤ (pc : Int) + o) (h1 : ((pc : Int) + o).toNat = p1) (h2 : p2 = pc + 3) (wt : ¬ x < z → WP p e below s n0 k n Q T (mkF m p1 Ls S)) (wf : x < z → WP p e below s n0 k n Q T (mkF m p2 Ls S)) : WP p e below s n0 k n Q T (mkF m pc Ls (.int z :: .int x :: S)) := by
  obtain ⟨⟨hx, hZ, hby, hml, hown, hnm, hret, hlk, h00⟩, hT, locs, X, N⟩ := X
  subst h2
  by_cases q0 : x < z
  · have q := q0
    exact (wf q).step fun t kk => XS.icmpNo X.here hx rfl (hb hby hd) rfl (tlt q).2.1 kk
  · have q := q0
    exact (wt q).step fun t kk => XS.icmpYes X.here hx rfl rfl (hb hby hd) rfl (flt q).2.1 ho h1 kk
theorem w_if_ge (X : St p l e R s m args below meth c Z n0 y code maxL ret T h cells slots) {o : Int} {x : Int32} {p1 p2 : Nat} (hd : decode code pc = .ok (.ifCond .ge o, 3)) (ho : 0 ≤ (pc : Int) + o) (h1 : ((pc : Int) + o).toNat = p1) (h2 : p2 = pc + 3) (wt : ¬ x < (0 : Int32) → WP p e below s n0 k n Q T (mkF m p1 Ls S)) (wf : x < (0 : Int32) → WP p e below s n0 k n Q T (mkF m p2 Ls S)) : WP p e below s n0 k n Q T (mkF m pc Ls (.int x :: S)) := by
  obtain ⟨⟨hx, hZ, hby, hml, hown, hnm, hret, hlk, h00⟩, hT, locs, X, N⟩ := X
  subst h2
  by_cases q0 : x < (0 : Int32)
  · have q := q0
    exact (wf q).step fun t kk => XS.ifNo X.here hx rfl (hb hby hd) rfl ((if0 _ _).trans (tlt q).2.1) kk
  · have q := q0
    exact (wt q).step fun t kk => XS.ifYes X.here hx rfl rfl (hb hby hd) rfl ((if0 _ _).trans (flt q).2.1) ho h1 kk
theorem w_lcmp_ge (X : St p l e R s m args below meth c Z n0 y code maxL ret T h cells slots) {o : Int} {x z : Int64} {p0 p1 p2 : Nat} (hd0 : decode code pc = .ok (.lcmp, 1)) (h0 : p0 = pc + 1) (hd : decode code p0 = .ok (.ifCond .ge o, 3)) (ho : 0 ≤ (p0 : Int) + o) (h1 : ((p0 : Int) + o).toNat = p1) (h2 : p2 = p0 + 3) (wt : ¬ x < z → WP p e below s n0 k n Q T (mkF m p1 Ls S)) (wf : x < z → WP p e below s n0 k n Q T (mkF m p2 Ls S)) : WP p e below s n0 k n Q T (mkF m pc Ls (.long z :: .long x :: S)) :=
  w_lcmp X hd0 h0 (w_if_ge X hd ho h1 h2 (fun q => wt (fun u => q ((lw_lt _ _).mpr u))) (fun q => wf ((lw_lt _ _).mp q)))
theorem w_icmp_gt (X : St p l e R s m args below meth c Z n0 y code maxL ret T h cells slots) {o : Int} {x z : Int32} {p1 p2 : Nat} (hd : decode code pc = .ok (.if_icmp .gt o, 3)) (ho : 0 ≤ (pc : Int) + o) (h1 : ((pc : Int) + o).toNat = p1) (h2 : p2 = pc + 3) (wt : z < x → WP p e below s n0 k n Q T (mkF m p1 Ls S)) (wf : ¬ z < x → WP p e below s n0 k n Q T (mkF m p2 Ls S)) : WP p e below s n0 k n Q T (mkF m pc Ls (.int z :: .int x :: S)) := by
  obtain ⟨⟨hx, hZ, hby, hml, hown, hnm, hret, hlk, h00⟩, hT, locs, X, N⟩ := X
  subst h2
  by_cases q0 : z < x
  · have q := q0
    exact (wt q).step fun t kk => XS.icmpYes X.here hx rfl rfl (hb hby hd) rfl (tlt q).2.2.1 ho h1 kk
  · have q := q0
    exact (wf q).step fun t kk => XS.icmpNo X.here hx rfl (hb hby hd) rfl (flt q).2.2.1 kk
theorem w_if_gt (X : St p l e R s m args below meth c Z n0 y code maxL ret T h cells slots) {o : Int} {x : Int32} {p1 p2 : Nat} (hd : decode code pc = .ok (.ifCond .gt o, 3)) (ho : 0 ≤ (pc : Int) + o) (h1 : ((pc : Int) + o).toNat = p1) (h2 : p2 = pc + 3) (wt : (0 : Int32) < x → WP p e below s n0 k n Q T (mkF m p1 Ls S)) (wf : ¬ (0 : Int32) < x → WP p e below s n0 k n Q T (mkF m p2 Ls S)) : WP p e below s n0 k n Q T (mkF m pc Ls (.int x :: S)) := by
  obtain ⟨⟨hx, hZ, hby, hml, hown, hnm, hret, hlk, h00⟩, hT, locs, X, N⟩ := X
  subst h2
  by_cases q0 : (0 : Int32) < x
  · have q := q0
    exact (wt q).step fun t kk => XS.ifYes X.here hx rfl rfl (hb hby hd) rfl ((if0 _ _).trans (tlt q).2.2.1) ho h1 kk
  · have q := q0
    exact (wf q).step fun t kk => XS.ifNo X.here hx rfl (hb hby hd) rfl ((if0 _ _).trans (flt q).2.2.1) kk
theorem w_lcmp_gt (X : St p l e R s m args below meth c Z n0 y code maxL ret T h cells slots) {o : Int} {x z : Int64} {p0 p1 p2 : Nat} (hd0 : decode code pc = .ok (.lcmp, 1)) (h0 : p0 = pc + 1) (hd : decode code p0 = .ok (.ifCond .gt o, 3)) (ho : 0 ≤ (p0 : Int) + o) (h1 : ((p0 : Int) + o).toNat = p1) (h2 : p2 = p0 + 3) (wt : z < x → WP p e below s n0 k n Q T (mkF m p1 Ls S)) (wf : ¬ z < x → WP p e below s n0 k n Q T (mkF m p2 Ls S)) : WP p e below s n0 k n Q T (mkF m pc Ls (.long z :: .long x :: S)) :=
  w_lcmp X hd0 h0 (w_if_gt X hd ho h1 h2 (fun q => wt ((lw_gt _ _).mp q)) (fun q => wf (fun u => q ((lw_gt _ _).mpr u))))
theorem w_icmp_le (X : St p l e R s m args below meth c Z n0 y code maxL ret T h cells slots) {o : Int} {x z : Int32} {p1 p2 : Nat} (hd : decode code pc = .ok (.if_icmp .le o, 3)) (ho : 0 ≤ (pc : Int) + o) (h1 : ((pc : Int) + o).toNat = p1) (h2 : p2 = pc + 3) (wt : ¬ z < x → WP p e below s n0 k n Q T (mkF m p1 Ls S)) (wf : z < x → WP p e below s n0 k n Q T (mkF m p2 Ls S)) : WP p e below s n0 k n Q T (mkF m pc Ls (.int z :: .int x :: S)) := by
  obtain ⟨⟨hx, hZ, hby, hml, hown, hnm, hret, hlk, h00⟩, hT, locs, X, N⟩ := X
  subst h2
  by_cases q0 : z < x
  · have q := q0
    exact (wf q).step fun t kk => XS.icmpNo X.here hx rfl (hb hby hd) rfl (tlt q).2.2.2 kk
  · have q := q0
    exact (wt q).step fun t kk => XS.icmpYes X.here hx rfl rfl (hb hby hd) rfl (flt q).2.2.2 ho h1 kk
theorem w_if_le (X : St p l e R s m args below meth c Z n0 y code maxL ret T h cells slots) {o : Int} {x : Int32} {p1 p2 : Nat} (hd : decode code pc = .ok (.ifCond .le o, 3)) (ho : 0 ≤ (pc : Int) + o) (h1 : ((pc : Int) + o).toNat = p1) (h2 : p2 = pc + 3) (wt : ¬ (0 : Int32) < x → WP p e below s n0 k n Q T (mkF m p1 Ls S)) (wf : (0 : Int32) < x → WP p e below s n0 k n Q T (mkF m p2 Ls S)) : WP p e below s n0 k n Q T (mkF m pc Ls (.int x :: S)) := by
  obtain ⟨⟨hx, hZ, hby, hml, hown, hnm, hret, hlk, h00⟩, hT, locs, X, N⟩ := X
  subst h2
  by_cases q0 : (0 : Int32) < x
  · have q := q0
    exact (wf q).step fun t kk => XS.ifNo X.here hx rfl (hb hby hd) rfl ((if0 _ _).trans (tlt q).2.2.2) kk
  · have q := q0
    exact (wt q).step fun t kk => XS.ifYes X.here hx rfl rfl (hb hby hd) rfl ((if0 _ _).trans (flt q).2.2.2) ho h1 kk
theorem w_lcmp_le (X : St p l e R s m args below meth c Z n0 y code maxL ret T h cells slots) {o : Int} {x z : Int64} {p0 p1 p2 : Nat} (hd0 : decode code pc = .ok (.lcmp, 1)) (h0 : p0 = pc + 1) (hd : decode code p0 = .ok (.ifCond .le o, 3)) (ho : 0 ≤ (p0 : Int) + o) (h1 : ((p0 : Int) + o).toNat = p1) (h2 : p2 = p0 + 3) (wt : ¬ z < x → WP p e below s n0 k n Q T (mkF m p1 Ls S)) (wf : z < x → WP p e below s n0 k n Q T (mkF m p2 Ls S)) : WP p e below s n0 k n Q T (mkF m pc Ls (.long z :: .long x :: S)) :=
  w_lcmp X hd0 h0 (w_if_le X hd ho h1 h2 (fun q => wt (fun u => q ((lw_gt _ _).mpr u))) (fun q => wf ((lw_gt _ _).mp q)))
theorem w_icmp_eq (X : St p l e R s m args below meth c Z n0 y code maxL ret T h cells slots) {o : Int} {x z : Int32} {p1 p2 : Nat} (hd : decode code pc = .ok (.if_icmp .eq o, 3)) (ho : 0 ≤ (pc : Int) + o) (h1 : ((pc : Int) + o).toNat = p1) (h2 : p2 = pc + 3) (wt : x = z → WP p e below s n0 k n Q T (mkF m p1 Ls S)) (wf : ¬ x = z → WP p e below s n0 k n Q T (mkF m p2 Ls S)) : WP p e below s n0 k n Q T (mkF m pc Ls (.int z :: .int x :: S)) := by
  obtain ⟨⟨hx, hZ, hby, hml, hown, hnm, hret, hlk, h00⟩, hT, locs, X, N⟩ := X
  subst h2
  by_cases q0 : x = z
  · have q := q0
    exact (wt q).step fun t kk => XS.icmpYes X.here hx rfl rfl (hb hby hd) rfl (teq q).1 ho h1 kk
  · have q := q0
    exact (wf q).step fun t kk => XS.icmpNo X.here hx rfl (hb hby hd) rfl (feq q).1 kk
theorem w_if_eq (X : St p l e R s m args below meth c Z n0 y code maxL ret T h cells slots) {o : Int} {x : Int32} {p1 p2 : Nat} (hd : decode code pc = .ok (.ifCond .eq o, 3)) (ho : 0 ≤ (pc : Int) + o) (h1 : ((pc : Int) + o).toNat = p1) (h2 : p2 = pc + 3) (wt : x = (0 : Int32) → WP p e below s n0 k n Q T (mkF m p1 Ls S)) (wf : ¬ x = (0 : Int32) → WP p e below s n0 k n Q T (mkF m p2 Ls S)) : WP p e below s n0 k n Q T (mkF m pc Ls (.int x :: S)) := by
  obtain ⟨⟨hx, hZ, hby, hml, hown, hnm, hret, hlk, h00⟩, hT, locs, X, N⟩ := X
  subst h2
  by_cases q0 : x = (0 : Int32)
  · have q := q0
    exact (wt q).step fun t kk => XS.ifYes X.here hx rfl rfl (hb hby hd) rfl ((if0 _ _).trans (teq q).1) ho h1 kk
  · have q := q0
    exact (wf q).step fun t kk => XS.ifNo X.here hx rfl (hb hby hd) rfl ((if0 _ _).trans (feq q).1) kk
theorem w_lcmp_eq (X : St p l e R s m args below meth c Z n0 y code maxL ret T h cells slots) {o : Int} {x z : Int64} {p0 p1 p2 : Nat} (hd0 : decode code pc = .ok (.lcmp, 1)) (h0 : p0 = pc + 1) (hd : decode code p0 = .ok (.ifCond .eq o, 3)) (ho : 0 ≤ (p0 : Int) + o) (h1 : ((p0 : Int) + o).toNat = p1) (h2 : p2 = p0 + 3) (wt : x = z → WP p e below s n0 k n Q T (mkF m p1 Ls S)) (wf : ¬ x = z → WP p e below s n0 k n Q T (mkF m p2 Ls S)) : WP p e below s n0 k n Q T (mkF m pc Ls (.long z :: .long x :: S)) :=
  w_lcmp X hd0 h0 (w_if_eq X hd ho h1 h2 (fun q => wt ((lw_eq _ _).mp q)) (fun q => wf (fun u => q ((lw_eq _ _).mpr u))))
theorem w_icmp_ne (X : St p l e R s m args below meth c Z n0 y code maxL ret T h cells slots) {o : Int} {x z : Int32} {p1 p2 : Nat} (hd : decode code pc = .ok (.if_icmp .ne o, 3)) (ho : 0 ≤ (pc : Int) + o) (h1 : ((pc : Int) + o).toNat = p1) (h2 : p2 = pc + 3) (wt : ¬ x = z → WP p e below s n0 k n Q T (mkF m p1 Ls S)) (wf : x = z → WP p e below s n0 k n Q T (mkF m p2 Ls S)) : WP p e below s n0 k n Q T (mkF m pc Ls (.int z :: .int x :: S)) := by
  obtain ⟨⟨hx, hZ, hby, hml, hown, hnm, hret, hlk, h00⟩, hT, locs, X, N⟩ := X
  subst h2
  by_cases q0 : x = z
  · have q := q0
    exact (wf q).step fun t kk => XS.icmpNo X.here hx rfl (hb hby hd) rfl (teq q).2 kk
  · have q := q0
    exact (wt q).step fun t kk => XS.icmpYes X.here hx rfl rfl (hb hby hd) rfl (feq q).2 ho h1 kk
theorem w_if_ne (X : St p l e R s m args below meth c Z n0 y code maxL ret T h cells slots) {o : Int} {x : Int32} {p1 p2 : Nat} (hd : decode code pc = .ok (.ifCond .ne o, 3)) (ho : 0 ≤ (pc : Int) + o) (h1 : ((pc : Int) + o).toNat = p1) (h2 : p2 = pc + 3) (wt : ¬ x = (0 : Int32) → WP p e below s n0 k n Q T (mkF m p1 Ls S)) (wf : x = (0 : Int32) → WP p e below s n0 k n Q T (mkF m p2 Ls S)) : WP p e below s n0 k n Q T (mkF m pc Ls (.int x :: S)) := by
  obtain ⟨⟨hx, hZ, hby, hml, hown, hnm, hret, hlk, h00⟩, hT, locs, X, N⟩ := X
  subst h2
  by_cases q0 : x = (0 : Int32)
  · have q := q0
    exact (wf q).step fun t kk => XS.ifNo X.here hx rfl (hb hby hd) rfl ((if0 _ _).trans (teq q).2) kk
  · have q := q0
    exact (wt q).step fun t kk => XS.ifYes X.here hx rfl rfl (hb hby hd) rfl ((if0 _ _).trans (feq q).2) ho h1 kk
theorem w_lcmp_ne (X : St p l e R s m args below meth c Z n0 y code maxL ret T h cells slots) {o : Int} {x z : Int64} {p0 p1 p2 : Nat} (hd0 : decode code pc = .ok (.lcmp, 1)) (h0 : p0 = pc + 1) (hd : decode code p0 = .ok (.ifCond .ne o, 3)) (ho : 0 ≤ (p0 : Int) + o) (h1 : ((p0 : Int) + o).toNat = p1) (h2 : p2 = p0 + 3) (wt : ¬ x = z → WP p e below s n0 k n Q T (mkF m p1 Ls S)) (wf : x = z → WP p e below s n0 k n Q T (mkF m p2 Ls S)) : WP p e below s n0 k n Q T (mkF m pc Ls (.long z :: .long x :: S)) :=
  w_lcmp X hd0 h0 (w_if_ne X hd ho h1 h2 (fun q => wt (fun u => q ((lw_eq _ _).mpr u))) (fun q => wf ((lw_eq _ _).mp q)))
theorem w_ifnull_ref (X : St p l e R s m args below meth c Z n0 y code maxL ret T h cells slots) {o : Int} {a : Addr} (hd : decode code pc = .ok (.ifnull o, 3)) (hp : pc' = pc + 3) (w : WP p e below s n0 k n Q T (mkF m pc' Ls S)) : WP p e below s n0 k n Q T (mkF m pc Ls (.ref a :: S)) := by
  obtain ⟨⟨hx, hZ, hby, hml, hown, hnm, hret, hlk, h00⟩, hT, locs, X, N⟩ := X
  subst hp
  exact w.step fun t kk => XS.ifnullNo X.here hx rfl (hb hby hd) rfl kk
theorem w_end (X : St p l e R s m args below meth c Z n0 y code maxL ret T h cells slots) {g : JFrame} {v : Option Value} (hv : ret = none → v = none) (hk : cells ≤ k) (hn : slots ≤ n) (hq : Q v h)
    (st : ∀ (locs : List Loc) (fs : List Frame), p.tables.exec = Jvm.exec → c.code = code → meth.sig.returnType = ret → Stand p l e R s m args below meth c T locs cells slots → (∀ (f : JFrame) (acts : List Action), f.method = m → f.locked = none → f.entered = [] → (doReturn e (T.setTop f) acts v).1 = T.setFrames fs) → Steps p.tables e below (T.setTop g) (T.setFrames fs)) : WP p e below s n0 k n Q T g := by
  obtain ⟨⟨hx, hZ, hby, hml, hown, hnm, hret, hlk, h00⟩, hT, locs, X, N⟩ := X
  obtain ⟨fs, hr, hrun, hended, hW, hsame⟩ := X.leave (v := v) (fun q => hv (hret ▸ q)) hlk
  refine ⟨_, _, st locs fs hx hby hret X hr, hrun, hended, _, _, rfl, ⟨?_, N⟩, ⟨_, rfl⟩, hW, hsame.mono hk hn⟩
  show Q v T.heap
  rw [hT]; exact hq
theorem w_retI (X : St p l e R s m args below meth c Z n0 y code maxL ret T h cells slots) {z : Int32} (hr : ret = some .int) (hd : decode code pc = .ok (.ireturn, 1)) (hk : cells ≤ k) (hn : slots ≤ n) (hq : Q (some (.int z)) h) : WP p e below s n0 k n Q T (mkF m pc Ls (.int z :: S)) :=
  w_end X (v := some (.int z)) (fun q => by rw [hr] at q; cases q) hk hn hq fun locs fs hx hby hret X hl => retOut X hx (hret.trans hr) rfl (Or.inl ⟨rfl, Or.inl rfl, z, rfl⟩) (hb hby hd) hl
theorem w_retJ (X : St p l e R s m args below meth c Z n0 y code maxL ret T h cells slots) {z : Int64} (hr : ret = some .long) (hd : decode code pc = .ok (.lreturn, 1)) (hk : cells ≤ k) (hn : slots ≤ n) (hq : Q (some (.long z)) h) : WP p e below s n0 k n Q T (mkF m pc Ls (.long z :: S)) :=
  w_end X (v := some (.long z)) (fun q => by rw [hr] at q; cases q) hk hn hq fun locs fs hx hby hret X hl => retOut X hx (hret.trans hr) rfl (Or.inr (Or.inl ⟨rfl, rfl, z, rfl⟩)) (hb hby hd) hl
theorem w_retA (X : St p l e R s m args below meth c Z n0 y code maxL ret T h cells slots) {a : Addr} {t : FieldType} (hr : ret = some t) (ht : t.isReference = true) (hnn : narrow t (.ref a) = .ref a) (hd : decode code pc = .ok (.areturn, 1)) (hk : cells ≤ k) (hn : slots ≤ n) (hq : Q (some (.ref a)) h) : WP p e below s n0 k n Q T (mkF m pc Ls (.ref a :: S)) :=
  w_end X (v := some (.ref a)) (fun q => by rw [hr] at q; cases q) hk hn hq fun locs fs hx hby hret X hl => retOut X hx (hret.trans hr) hnn (Or.inr (Or.inr (Or.inr (Or.inr ⟨rfl, ht, rfl⟩)))) (hb hby hd) hl
theorem w_retN (X : St p l e R s m args below meth c Z n0 y code maxL ret T h cells slots) {z z' : Int32} {t : FieldType} (hr : ret = some t) (ht : t = .boolean ∨ t = .byte ∨ t = .char ∨ t = .short) (hd : decode code pc = .ok (.ireturn, 1)) (hz : nar t z = z') (hk : cells ≤ k) (hn : slots ≤ n) (hq : Q (some (.int z')) h) : WP p e below s n0 k n Q T (mkF m pc Ls (.int z :: S)) :=
  w_end X (v := some (.int z')) (fun q => by rw [hr] at q; cases q) hk hn hq fun locs fs hx hby hret X hl => retN X hx (hret.trans hr) ht (hb hby hd) (by rw [hz]; exact hl)
theorem w_retZ (X : St p l e R s m args below meth c Z n0 y code maxL ret T h cells slots) {z : Int32} (hr : ret = some .boolean) (hd : decode code pc = .ok (.ireturn, 1)) (hz : z &&& 1 = z) (hk : cells ≤ k) (hn : slots ≤ n) (hq : Q (some (.int z)) h) : WP p e below s n0 k n Q T (mkF m pc Ls (.int z :: S)) :=
  w_retN X hr (Or.inl rfl) hd hz hk hn hq
theorem w_retV (X : St p l e R s m args below meth c Z n0 y code maxL ret T h cells slots) (hr : ret = none) (hd : decode code pc = .ok (.return_, 1)) (hk : cells ≤ k) (hn : slots ≤ n) (hq : Q none h) : WP p e below s n0 k n Q T (mkF m pc Ls []) :=
  w_end X (v := none) (fun _ => rfl) hk hn hq fun locs fs hx hby hret X hl => X.returnOut hx (hret.trans hr) (hb hby hd) hl
theorem St.of_back (X : St p l e R s m args below meth c Z n0 y code maxL ret T h cells slots) {locs : List Loc} (N : Fr n0 locs) {T' : State} {L' : List Loc} {cells' slots' : Nat} (X' : Stand p l e R s m args below meth c T' (locs ++ L') cells' slots') (N' : Fr n0 L') : St p l e R s m args below meth c Z n0 y code maxL ret T' T'.heap cells' slots' :=
  ⟨X.1, rfl, _, X', N.app N'⟩
theorem w_callS (X : St p l e R s m args below meth c Z n0 y code maxL ret T h cells slots) {z : MethodName} {idx : Nat} {code' : ByteArray} {maxL' : Nat} {ret' : Option FieldType} {rm : Room} (argsL rest : List Value) {Q' : Option Value → Heap → Prop} {ps : List FieldType} {r : Option FieldType} (W : Nat)
    (wl : (Jvm.Cond.methodLink y.cls idx z).before a0 Z = true) (wt : (Jvm.Cond.static z).before a0 Z = true) (wi : (Jvm.Cond.initialized z.cls).before a0 Z = true) (wc : (Jvm.Cond.code z code' maxL' ret').before a0 Z = true)
    (ct : Ct l Z z code' maxL' ret' rm argsL.toArray h n0 Q') (hd : decode code pc = .ok (.invokestatic idx, 3)) (pd : parseMethodDescriptor z.desc = some ⟨ps, r⟩) (hlen : argsL.length = ps.length) (hy : z.cls ≠ "java/lang/invoke/MethodHandle" ∧ z.cls ≠ "java/lang/invoke/VarHandle")
    (hsz : Ls.size = maxL) (hS : S = argsL.reverse ++ rest) (hW : (rest.map fun v => v.category).sum = W) (hfr : rm.frames + 1 ≤ R.frames) (hlo : W + (maxL' + 11) + rm.locals ≤ R.locals) (hc : cells + rm.cells ≤ R.cells) (hs : slots + rm.slots ≤ R.slots) (hp : pc' = pc + 3)
    (w : ∀ T' h' v, St p l e R s m args below meth c Z n0 y code maxL ret T' h' (cells + rm.cells) (slots + rm.slots) → Q' v h' → WP p e below s n0 k n Q T' (mkF m pc' Ls (v.toList ++ rest))) : WP p e below s n0 k n Q T (mkF m pc Ls S) := by
  have X1 := X
  obtain ⟨⟨hx, hZ, hby, hml, hown, hnm, hret, hlk, h00⟩, hT, locs, X, N⟩ := X
  subst hp hS
  obtain ⟨v, _, ⟨T', L', k', n'⟩, -, X', ⟨Lc, hQ, l1, y1, z1⟩, st⟩ := Jvm.LawKit.callS X hx (y := z) hown (mvT hZ wl) (mvT hZ wt) (mvT hZ wi) (mvT hZ wc) hy (backOf (W := W) (Q := fun v h L => Q' v h ∧ Fr n0 L) (ct []) hZ wc wi hfr hlo) (g := mkF m pc Ls (argsL.reverse ++ rest)) rfl (hsz.trans hml.symm) (argsL := argsL) (rest := rest) (lenOf pd hlen) rfl (by show 2 * 0 + _ ≤ _; omega) (hb hby hd) (fun _ _ => ⟨rfl, hT, hc, hs⟩)
  dsimp only [Pt.U, Pt.locs, Pt.cells, Pt.slots] at X' l1 y1 z1 st hQ
  subst l1 y1 z1
  exact (w T' T'.heap v (X1.of_back N X' hQ.2) hQ.1).step fun t kk => st t kk
theorem w_callV (X : St p l e R s m args below meth c Z n0 y code maxL ret T h cells slots) {z : MethodName} {C : String} {idx : Nat} {code' : ByteArray} {maxL' : Nat} {ret' : Option FieldType} {rm : Room} {a : Addr} (argsL rest : List Value) {Q' : Option Value → Heap → Prop} {ps : List FieldType} {r : Option FieldType} (W : Nat)
    (wl : (Jvm.Cond.methodLink y.cls idx z).before a0 Z = true) (wdc : (Jvm.Cond.declares z).before a0 Z = true) (wsel : (Jvm.Cond.selects C z z).before a0 Z = true) (wt : (Jvm.Cond.instanceMethod z).before a0 Z = true) (wi : (Jvm.Cond.initialized z.cls).before a0 Z = true) (wc : (Jvm.Cond.code z code' maxL' ret').before a0 Z = true)
    (E : Exa Z h a C) (ct : Ct l Z z code' maxL' ret' rm (.ref a :: argsL).toArray h n0 Q') (hd : decode code pc = .ok (.invokevirtual idx, 3)) (pd : parseMethodDescriptor z.desc = some ⟨ps, r⟩) (hlen : argsL.length = ps.length) (hy : z.cls ≠ "java/lang/invoke/MethodHandle" ∧ z.cls ≠ "java/lang/invoke/VarHandle")
    (hsz : Ls.size = maxL) (hS : S = argsL.reverse ++ .ref a :: rest) (hW : (rest.map fun v => v.category).sum = W) (hfr : rm.frames + 1 ≤ R.frames) (hlo : W + (maxL' + 11) + rm.locals ≤ R.locals) (hc : cells + rm.cells ≤ R.cells) (hs : slots + rm.slots ≤ R.slots) (hp : pc' = pc + 3)
    (w : ∀ T' h' v, St p l e R s m args below meth c Z n0 y code maxL ret T' h' (cells + rm.cells) (slots + rm.slots) → Q' v h' → WP p e below s n0 k n Q T' (mkF m pc' Ls (v.toList ++ rest))) : WP p e below s n0 k n Q T (mkF m pc Ls S) := by
  have X1 := X
  obtain ⟨⟨hx, hZ, hby, hml, hown, hnm, hret, hlk, h00⟩, hT, locs, X, N⟩ := X
  subst hp hS
  obtain ⟨cq, kq, qa, qb, qc⟩ := isOf hZ hT E
  obtain ⟨v, _, ⟨T', L', k', n'⟩, -, X', ⟨Lc, hQ, l1, y1, z1⟩, st⟩ := X.virtualBack hx (y := z) (z := z) hown (mvT hZ wl) (mvT hZ wdc) (notFace_of_selects (args := #[]) (mvT hZ wsel)) (mvT hZ wsel) (mvT hZ wt) hy (backOf (W := W) (Q := fun v h L => Q' v h ∧ Fr n0 L) (ct []) hZ wc wi hfr hlo) qa qc (g := mkF m pc Ls (argsL.reverse ++ .ref a :: rest)) rfl (hsz.trans hml.symm) (Steps.refl _) (argsL := argsL) (rest := rest) (lenOf pd hlen) rfl (by show 2 * 0 + _ ≤ _; omega) (hb hby hd) (fun _ _ => ⟨rfl, hT, hc, hs⟩)
  dsimp only [Pt.U, Pt.locs, Pt.cells, Pt.slots] at X' l1 y1 z1 st hQ
  subst l1 y1 z1
  exact (w T' T'.heap v (X1.of_back N X' hQ.2) hQ.1).trans st
theorem w_callC (X : St p l e R s m args below meth c Z n0 y code maxL ret T h cells slots) {z : MethodName} {idx : Nat} {code' : ByteArray} {maxL' : Nat} {rm : Room} {a : Addr} (argsL rest : List Value) {Q' : Option Value → Heap → Prop} {ps : List FieldType} {r : Option FieldType} (W : Nat)
    (hi : z.name = "<init>") (wl : (Jvm.Cond.methodLink y.cls idx z).before a0 Z = true) (wt : (Jvm.Cond.instanceMethod z).before a0 Z = true) (wi : (Jvm.Cond.initialized z.cls).before a0 Z = true) (wc : (Jvm.Cond.code z code' maxL' none).before a0 Z = true)
    (ct : Ct l Z z code' maxL' none rm (.ref a :: argsL).toArray h n0 Q') (hd : decode code pc = .ok (.invokespecial idx, 3)) (pd : parseMethodDescriptor z.desc = some ⟨ps, r⟩) (hlen : argsL.length = ps.length) (hy : z.cls ≠ "java/lang/invoke/MethodHandle" ∧ z.cls ≠ "java/lang/invoke/VarHandle")
    (hsz : Ls.size = maxL) (hS : S = argsL.reverse ++ .ref a :: rest) (hW : (rest.map fun v => v.category).sum = W) (hfr : rm.frames + 1 ≤ R.frames) (hlo : W + (maxL' + 11) + rm.locals ≤ R.locals) (hc : cells + rm.cells ≤ R.cells) (hs : slots + rm.slots ≤ R.slots) (hp : pc' = pc + 3)
    (w : ∀ T' h' v, St p l e R s m args below meth c Z n0 y code maxL ret T' h' (cells + rm.cells) (slots + rm.slots) → Q' v h' → WP p e below s n0 k n Q T' (mkF m pc' Ls (v.toList ++ rest))) : WP p e below s n0 k n Q T (mkF m pc Ls S) := by
  have X1 := X
  obtain ⟨⟨hx, hZ, hby, hml, hown, hnm, hret, hlk, h00⟩, hT, locs, X, N⟩ := X
  subst hp hS
  obtain ⟨v, _, ⟨T', L', k', n'⟩, -, X', ⟨Lc, hQ, l1, y1, z1⟩, st⟩ := X.specialBack hx (y := z) hi hown (mvT hZ wl) (mvT hZ wt) (mvT hZ wc) hy (backOf (W := W) (Q := fun v h L => Q' v h ∧ Fr n0 L) (ct []) hZ wc wi hfr hlo) (g := mkF m pc Ls (argsL.reverse ++ .ref a :: rest)) rfl (hsz.trans hml.symm) (Steps.refl _) (a := a) (argsL := argsL) (rest := rest) (lenOf pd hlen) rfl (by show 2 * 0 + _ ≤ _; omega) (hb hby hd) (fun _ _ => ⟨rfl, hT, hc, hs⟩)
  dsimp only [Pt.U, Pt.locs, Pt.cells, Pt.slots] at X' l1 y1 z1 st hQ
  subst l1 y1 z1
  exact (w T' T'.heap v (X1.of_back N X' hQ.2) hQ.1).trans st
theorem w_callP (X : St p l e R s m args below meth c Z n0 y code maxL ret T h cells slots) {z z0 : MethodName} {idx : Nat} {code' : ByteArray} {maxL' : Nat} {ret' : Option FieldType} {rm : Room} {a : Addr} (argsL rest : List Value) {Q' : Option Value → Heap → Prop} {ps : List FieldType} {r : Option FieldType} (W : Nat)
    (wl : (Jvm.Cond.methodLink y.cls idx z).before a0 Z = true) (wt : (Jvm.Cond.instanceMethod z).before a0 Z = true) (wp : (Jvm.Cond.privateMethod z).before a0 Z = true) (wsel : (Jvm.Cond.selects z0.cls z0 z0).before a0 Z = true) (h0 : z0.cls = z.cls) (wi : (Jvm.Cond.initialized z.cls).before a0 Z = true) (wc : (Jvm.Cond.code z code' maxL' ret').before a0 Z = true)
    (E : Exa Z h a z.cls) (ct : Ct l Z z code' maxL' ret' rm (.ref a :: argsL).toArray h n0 Q') (hd : decode code pc = .ok (.invokevirtual idx, 3)) (pd : parseMethodDescriptor z.desc = some ⟨ps, r⟩) (hlen : argsL.length = ps.length) (hy : z.cls ≠ "java/lang/invoke/MethodHandle" ∧ z.cls ≠ "java/lang/invoke/VarHandle")
    (hsz : Ls.size = maxL) (hS : S = argsL.reverse ++ .ref a :: rest) (hW : (rest.map fun v => v.category).sum = W) (hfr : rm.frames + 1 ≤ R.frames) (hlo : W + (maxL' + 11) + rm.locals ≤ R.locals) (hc : cells + rm.cells ≤ R.cells) (hs : slots + rm.slots ≤ R.slots) (hp : pc' = pc + 3)
    (w : ∀ T' h' v, St p l e R s m args below meth c Z n0 y code maxL ret T' h' (cells + rm.cells) (slots + rm.slots) → Q' v h' → WP p e below s n0 k n Q T' (mkF m pc' Ls (v.toList ++ rest))) : WP p e below s n0 k n Q T (mkF m pc Ls S) := by
  have X1 := X
  obtain ⟨⟨hx, hZ, hby, hml, hown, hnm, hret, hlk, h00⟩, hT, locs, X, N⟩ := X
  subst hp hS
  obtain ⟨cq, q, q'⟩ := E.cell
  obtain ⟨c2, r2, m2, e1, e2, e3, e4, kP, hkP, hkPi⟩ := Cond.selects_spec (mvT (args := args) hZ wsel)
  have e5 : s.vm.findClass z.cls = some m2.cls := h0 ▸ findClass_of_methodNamed e3
  have hpr : s.PrivateAt z := Cond.privateMethod_at (mvP hZ wp (args := args))
  have hsel : (Jvm.Cond.selects z.cls z z).before args s = true := selects_self_of_private e5 hkP hkPi hpr (mvT hZ wt) hy
  obtain ⟨v, _, ⟨T', L', k', n'⟩, -, X', ⟨Lc, hQ, l1, y1, z1⟩, st⟩ := X.privateBack hx (y := z) hown (mvT hZ wl) (mvT hZ wt) hsel hpr (mvT hZ wc) hy (backOf (W := W) (Q := fun v h L => Q' v h ∧ Fr n0 L) (ct []) hZ wc wi hfr hlo) (g := mkF m pc Ls (argsL.reverse ++ .ref a :: rest)) rfl (hsz.trans hml.symm) (Steps.refl _) (a := a) (by rw [hT]; exact q) q' (argsL := argsL) (rest := rest) (lenOf pd hlen) rfl (by show 2 * 0 + _ ≤ _; omega) (hb hby hd) (fun _ _ => ⟨rfl, hT, hc, hs⟩)
  dsimp only [Pt.U, Pt.locs, Pt.cells, Pt.slots] at X' l1 y1 z1 st hQ
  subst l1 y1 z1
  exact (w T' T'.heap v (X1.of_back N X' hQ.2) hQ.1).trans st
theorem w_initO (X : St p l e R s m args below meth c Z n0 y code maxL ret T h cells slots) {idx : Nat} {a : Addr} {W : Nat} (w1 : (Jvm.Cond.methodLink y.cls idx Lib.objectInit).before a0 Z = true) (w2 : (Jvm.Cond.instanceMethod Lib.objectInit).before a0 Z = true) (w3 : (Jvm.Cond.code Lib.objectInit ⟨#[0xb1]⟩ 1 none).before a0 Z = true)
    (hd : decode code pc = .ok (.invokespecial idx, 3)) (hsz : Ls.size = maxL) (hf : 1 ≤ R.frames) (hW : (S.map fun v => v.category).sum = W) (hl : W + 12 ≤ R.locals) (hp : pc' = pc + 3)
    (w : ∀ T', St p l e R s m args below meth c Z n0 y code maxL ret T' h cells slots → WP p e below s n0 k n Q T' (mkF m pc' Ls S)) : WP p e below s n0 k n Q T (mkF m pc Ls (.ref a :: S)) := by
  have X1 := X
  obtain ⟨⟨hx, hZ, hby, hml, hown, hnm, hret, hlk, h00⟩, hT, locs, X, N⟩ := X
  subst hp
  obtain ⟨T', X', e', st⟩ := initO X hx hZ hown w1 w2 w3 hT (g := mkF m pc Ls (.ref a :: S)) rfl (hsz.trans hml.symm) rfl (hb hby hd) hf (W := W) (by show 2 * 0 + _ ≤ _; omega) hl
  exact (w T' ⟨X1.1, e', locs, X', N⟩).step st
theorem w_getF (X : St p l e R s m args below meth c Z n0 y code maxL ret T h cells slots) {idx : Nat} {O nm d : String} {a : Addr} {v : Value} (wl : (Jvm.Cond.fieldLink y.cls idx O nm d).before a0 Z = true) (F : Fld Z h a O nm d v) (hd : decode code pc = .ok (.getfield idx, 3)) (hp : pc' = pc + 3)
    (w : ∀ T', St p l e R s m args below meth c Z n0 y code maxL ret T' h cells slots → WP p e below s n0 k n Q T' (mkF m pc' Ls (v :: S))) : WP p e below s n0 k n Q T (mkF m pc Ls (.ref a :: S)) := by
  have X1 := X
  obtain ⟨⟨hx, hZ, hby, hml, hown, hnm, hret, hlk, h00⟩, hT, locs, X, N⟩ := X
  subst hp
  obtain ⟨T', X', e', st⟩ := getF X hx hZ hown (host := "") (Or.inl wl) Via.refl hT F (g := mkF m pc Ls (.ref a :: S)) rfl rfl (hb hby hd)
  exact (w T' ⟨X1.1, e', locs, X', N⟩).step st
theorem w_putF (X : St p l e R s m args below meth c Z n0 y code maxL ret T h cells slots) {idx kk : Nat} {O nm d C : String} {ty : FieldType} {a : Addr} {v v' old : Value} (wl : (Jvm.Cond.fieldLink y.cls idx O nm d).before a0 Z = true) (F : Fld Z h a O nm d old) (E : Exa Z h a C) (L : (Jvm.Cond.lays C O nm d).before a0 Z = true ∨ ((Jvm.Cond.laysFinal C O nm d).before a0 Z = true ∧ y.cls = O ∧ y.name = "<init>")) (wi : (Jvm.Cond.instantiable C kk).before a0 Z = true) (ga : n0 ≤ a)
    (hd : decode code pc = .ok (.putfield idx, 3)) (hty : parseFieldDescriptor d = some ty) (hv : narrow ty v = v') (hf : fits ty v' = true) (hp : pc' = pc + 3)
    (w : ∀ T' h', St p l e R s m args below meth c Z n0 y code maxL ret T' h' cells slots → Wr h h' a (Jvm.RoadKit.slotOf Z O nm d) v' → WP p e below s n0 k n Q T' (mkF m pc' Ls S)) : WP p e below s n0 k n Q T (mkF m pc Ls (v :: .ref a :: S)) := by
  have X1 := X
  obtain ⟨⟨hx, hZ, hby, hml, hown, hnm, hret, hlk, h00⟩, hT, locs, X, N⟩ := X
  subst hp
  obtain ⟨T', h', X', e', W', st⟩ := putFN X hx hZ hown wl Via.refl hT F E (L.imp id fun q => ⟨q.1, q.2.1, hnm.trans q.2.2⟩) wi hty hv hf (g := mkF m pc Ls (v :: .ref a :: S)) rfl rfl (hb hby hd)
  exact (w T' h' ⟨X1.1, e', _, X', Fr.snoc X' N ga⟩ W').step st
theorem w_new (X : St p l e R s m args below meth c Z n0 y code maxL ret T h cells slots) {idx nn : Nat} {C : String} (wl : (Jvm.Cond.classLink y.cls idx C).before a0 Z = true) (wi : (Jvm.Cond.instantiable C nn).before a0 Z = true) (wz : (Jvm.Cond.initialized C).before a0 Z = true) (hd : decode code pc = .ok (.new idx, 3)) (hc : cells + 1 ≤ R.cells) (hl : slots + nn ≤ R.slots) (hp : pc' = pc + 3)
    (w : ∀ T' h' a, St p l e R s m args below meth c Z n0 y code maxL ret T' h' (cells + 1) (slots + nn) → a = h.size → n0 ≤ a → Ext h h' → Exa Z h' a C → (∀ {O f d : String} {ty : FieldType}, Laid Z a0 C O f d → parseFieldDescriptor d = some ty → Fld Z h' a O f d (defaultValue ty)) → WP p e below s n0 k n Q T' (mkF m pc' Ls (.ref a :: S))) : WP p e below s n0 k n Q T (mkF m pc Ls S) := by
  have X1 := X
  obtain ⟨⟨hx, hZ, hby, hml, hown, hnm, hret, hlk, h00⟩, hT, locs, X, N⟩ := X
  subst hp
  obtain ⟨T', h', X', e', E', A', D', -, st⟩ := newO X hx hZ hown wl wi wz hT (g := mkF m pc Ls S) rfl (hb hby hd) hc hl
  exact (w T' h' h.size ⟨X1.1, e', _, X', N⟩ rfl X1.n0le E' A' D').step st
theorem w_newarray (X : St p l e R s m args below meth c Z n0 y code maxL ret T h cells slots) {aty : ArrayType} {sz : Int32} (cap : Nat) (wa : (Jvm.Cond.arrayClass (newarray.typeOf aty)).before a0 Z = true) (hd : decode code pc = .ok (.newarray aty, 2)) (hz : ¬ sz < 0) (hcap : sz.toNatClampNeg ≤ cap) (hbig : cap * 8 ≤ 536870912) (hc : cells + 1 ≤ R.cells) (hl : slots + cap ≤ R.slots) (hp : pc' = pc + 2)
    (w : ∀ T' h' a cA, St p l e R s m args below meth c Z n0 y code maxL ret T' h' (cells + 1) (slots + cap) → a = h.size → n0 ≤ a → Ext h h' → Arr Z h' a (newA cA (newarray.typeOf aty) sz) (newarray.typeOf aty) → WP p e below s n0 k n Q T' (mkF m pc' Ls (.ref a :: S))) : WP p e below s n0 k n Q T (mkF m pc Ls (.int sz :: S)) := by
  have X1 := X
  obtain ⟨⟨hx, hZ, hby, hml, hown, hnm, hret, hlk, h00⟩, hT, locs, X, N⟩ := X
  subst hp
  obtain ⟨T', h', cA, X', e', E', A', st⟩ := newP X hx hZ wa hT (g := mkF m pc Ls (.int sz :: S)) rfl (hb hby hd) rfl hz hcap hbig hc hl
  exact (w T' h' h.size cA ⟨X1.1, e', _, X', N⟩ rfl X1.n0le E' A').step st
/-- the array at a: its kind, its length, what stands at each place -/
def AV (Z : State) (h : Heap) (a : Addr) (ty : FieldType) (n : Nat) (f : Nat → Value) : Prop := ∃ c : Cell, Arr Z h a c ty ∧ c.slots.size = n ∧ n < 2 ^ 31 ∧ ∀ i, i < n → c.slots[i]? = some (f i)
theorem AV.ext {a : Addr} {ty : FieldType} {n : Nat} {f : Nat → Value} {h' : Heap} (A : AV Z h a ty n f) (E : Ext h h') : AV Z h' a ty n f := by
  obtain ⟨c, A, r⟩ := A; exact ⟨c, A.ext E, r⟩
theorem AV.keep {a : Addr} {ty : FieldType} {n : Nat} {f : Nat → Value} {h' : Heap} {ws : List Addr} (A : AV Z h a ty n f) (K : Keep h h' ws) (q : a ∉ ws) : AV Z h' a ty n f := by
  obtain ⟨c, A, r⟩ := A; exact ⟨c, ⟨K.2.1 a c A.1 q, A.2⟩, r⟩
theorem AV.lt {a : Addr} {ty : FieldType} {n : Nat} {f : Nat → Value} (A : AV Z h a ty n f) : a < h.size := by
  obtain ⟨c, A, r⟩ := A; exact A.lt
theorem AV.len {a : Addr} {ty : FieldType} {n : Nat} {f : Nat → Value} (A : AV Z h a ty n f) : n < 2 ^ 31 := by
  obtain ⟨c, A, r⟩ := A; exact r.2.1
theorem AV.congr {a : Addr} {ty : FieldType} {n : Nat} {f g : Nat → Value} (A : AV Z h a ty n f) (q : ∀ i, i < n → f i = g i) : AV Z h a ty n g := by
  obtain ⟨c, A, r1, r2, r3⟩ := A; exact ⟨c, A, r1, r2, fun i hi => by rw [← q i hi]; exact r3 i hi⟩
theorem AV.new {a : Addr} {ty : FieldType} {sz : Int32} {cA : ClassId} {n : Nat} (A : Arr Z h a (newA cA ty sz) ty) (hn : sz.toInt = n) : AV Z h a ty n (fun _ => defaultValue ty) := by
  have q1 : sz.toNatClampNeg = n := by simp only [Int32.toNatClampNeg, hn]; omega
  have q2 := Int32.toInt_lt sz
  refine ⟨_, A, by rw [sz_new, q1], by omega, fun i hi => ?_⟩
  simp [newA, q1, hi]
theorem nat_at {j : Int32} {i : Nat} (hi : j.toInt = i) : j.toNatClampNeg = i := by simp only [Int32.toNatClampNeg, hi]; omega
theorem in_at {j : Int32} {i sz n : Nat} (hi : j.toInt = i) (hz : sz = n) (hlt : i < n) : ¬ (j < 0 ∨ sz ≤ j.toNatClampNeg) := by
  rw [nat_at hi, Int32.lt_iff_toInt_lt, hi]; simp only [Int32.reduceToInt]; omega
theorem AV.set {a : Addr} {ty : FieldType} {n i : Nat} {f : Nat → Value} {h' : Heap} {v : Value} (A : AV Z h a ty n f) (W : Wr h h' a i v) : AV Z h' a ty n (fun q => if q = i then v else f q) := by
  obtain ⟨c, A, r1, r2, r3⟩ := A
  obtain ⟨cell, w1, w2, w3, w4⟩ := id W
  have e1 : cell = c := by have := w1.symm.trans A.1; exact Option.some.inj this
  subst e1
  refine ⟨_, A.same W, by rw [sz_set]; exact r1, r2, fun q hq => ?_⟩
  by_cases e : q = i
  · subst e; simp [Cell.setSlot, w3]
  · have e' : ¬ i = q := fun u => e u.symm
    simp only [e, if_false, Cell.setSlot]
    rw [Array.getElem?_setIfInBounds_ne e']; exact r3 q hq
abbrev AI (Z : State) (h : Heap) (a : Addr) (ty : FieldType) (n : Nat) (g : Nat → Int32) : Prop := AV Z h a ty n (fun q => .int (g q))
abbrev AJ (Z : State) (h : Heap) (a : Addr) (n : Nat) (g : Nat → Int64) : Prop := AV Z h a .long n (fun q => .long (g q))
theorem AI.new {a : Addr} {ty : FieldType} {sz : Int32} {cA : ClassId} {n : Nat} (A : Arr Z h a (newA cA ty sz) ty) (hn : sz.toInt = n) (hd : defaultValue ty = .int 0) : AI Z h a ty n (fun _ => 0) := by
  have q := AV.new A hn; rw [hd] at q; exact q
theorem AJ.new {a : Addr} {sz : Int32} {cA : ClassId} {n : Nat} (A : Arr Z h a (newA cA .long sz) .long) (hn : sz.toInt = n) : AJ Z h a n (fun _ => 0) := AV.new A hn
theorem AI.set {a : Addr} {ty : FieldType} {n i : Nat} {g : Nat → Int32} {h' : Heap} {x : Int32} (A : AI Z h a ty n g) (W : Wr h h' a i (.int x)) : AI Z h' a ty n (fun q => if q = i then x else g q) :=
  (AV.set A W).congr fun q _ => by by_cases e : q = i <;> simp [e]
theorem AJ.set {a : Addr} {n i : Nat} {g : Nat → Int64} {h' : Heap} {x : Int64} (A : AJ Z h a n g) (W : Wr h h' a i (.long x)) : AJ Z h' a n (fun q => if q = i then x else g q) :=
  (AV.set A W).congr fun q _ => by by_cases e : q = i <;> simp [e]
theorem AI.congr {a : Addr} {ty : FieldType} {n : Nat} {f g : Nat → Int32} (A : AI Z h a ty n f) (q : ∀ i, i < n → f i = g i) : AI Z h a ty n g := AV.congr A fun i hi => by rw [q i hi]
theorem AJ.congr {a : Addr} {n : Nat} {f g : Nat → Int64} (A : AJ Z h a n f) (q : ∀ i, i < n → f i = g i) : AJ Z h a n g := AV.congr A fun i hi => by rw [q i hi]
theorem w_iaload (X : St p l e R s m args below meth c Z n0 y code maxL ret T h cells slots) {a : Addr} {N : Nat} {g : Nat → Int32} {j : Int32} {i : Nat} {v : Int32} (A : AI Z h a .int N g) (hd : decode code pc = .ok (.iaload, 1)) (hi : j.toInt = i) (hlt : i < N) (hv : g i = v) (hp : pc' = pc + 1) (w : WP p e below s n0 k n Q T (mkF m pc' Ls (.int v :: S))) : WP p e below s n0 k n Q T (mkF m pc Ls (.int j :: .ref a :: S)) := by
  obtain ⟨⟨hx, hZ, hby, hml, hown, hnm, hret, hlk, h00⟩, hT, locs, X, N⟩ := X
  subst hp hv
  obtain ⟨cl, A, r1, r2, r3⟩ := A
  exact w.step fun t kk => X.iaload hx (j := j) (v := .int (g i)) (by rw [hT]; exact A.1) (State.isArrayOf_alike hZ.alike A.2.1) A.2.2 (in_at hi r1 hlt) (by rw [nat_at hi]; exact r3 i hlt) (g := mkF m pc Ls (.int j :: .ref a :: S)) rfl rfl (hb hby hd) t kk
theorem w_laload (X : St p l e R s m args below meth c Z n0 y code maxL ret T h cells slots) {a : Addr} {N : Nat} {g : Nat → Int64} {j : Int32} {i : Nat} {v : Int64} (A : AJ Z h a N g) (hd : decode code pc = .ok (.laload, 1)) (hi : j.toInt = i) (hlt : i < N) (hv : g i = v) (hp : pc' = pc + 1) (w : WP p e below s n0 k n Q T (mkF m pc' Ls (.long v :: S))) : WP p e below s n0 k n Q T (mkF m pc Ls (.int j :: .ref a :: S)) := by
  obtain ⟨⟨hx, hZ, hby, hml, hown, hnm, hret, hlk, h00⟩, hT, locs, X, N⟩ := X
  subst hp hv
  obtain ⟨cl, A, r1, r2, r3⟩ := A
  exact w.step fun t kk => X.laload hx (j := j) (v := .long (g i)) (by rw [hT]; exact A.1) (State.isArrayOf_alike hZ.alike A.2.1) A.2.2 (in_at hi r1 hlt) (by rw [nat_at hi]; exact r3 i hlt) (g := mkF m pc Ls (.int j :: .ref a :: S)) rfl rfl (hb hby hd) t kk
theorem w_caload (X : St p l e R s m args below meth c Z n0 y code maxL ret T h cells slots) {a : Addr} {N : Nat} {g : Nat → Int32} {j : Int32} {i : Nat} {v : Int32} (A : AI Z h a .char N g) (hd : decode code pc = .ok (.caload, 1)) (hi : j.toInt = i) (hlt : i < N) (hv : g i = v) (hp : pc' = pc + 1) (w : WP p e below s n0 k n Q T (mkF m pc' Ls (.int v :: S))) : WP p e below s n0 k n Q T (mkF m pc Ls (.int j :: .ref a :: S)) := by
  obtain ⟨⟨hx, hZ, hby, hml, hown, hnm, hret, hlk, h00⟩, hT, locs, X, N⟩ := X
  subst hp hv
  obtain ⟨cl, A, r1, r2, r3⟩ := A
  exact w.step fun t kk => X.caload hx (j := j) (v := .int (g i)) (by rw [hT]; exact A.1) (State.isArrayOf_alike hZ.alike A.2.1) A.2.2 (in_at hi r1 hlt) (by rw [nat_at hi]; exact r3 i hlt) (g := mkF m pc Ls (.int j :: .ref a :: S)) rfl rfl (hb hby hd) t kk
theorem w_baload (X : St p l e R s m args below meth c Z n0 y code maxL ret T h cells slots) {a : Addr} {N : Nat} {g : Nat → Int32} {j : Int32} {i : Nat} {v : Int32} (A : AI Z h a .byte N g) (hd : decode code pc = .ok (.baload, 1)) (hi : j.toInt = i) (hlt : i < N) (hv : g i = v) (hp : pc' = pc + 1) (w : WP p e below s n0 k n Q T (mkF m pc' Ls (.int v :: S))) : WP p e below s n0 k n Q T (mkF m pc Ls (.int j :: .ref a :: S)) := by
  obtain ⟨⟨hx, hZ, hby, hml, hown, hnm, hret, hlk, h00⟩, hT, locs, X, N⟩ := X
  subst hp hv
  obtain ⟨cl, A, r1, r2, r3⟩ := A
  exact w.step fun t kk => X.baloadBytes hx (j := j) (v := .int (g i)) (by rw [hT]; exact A.1) (State.isArrayOf_alike hZ.alike A.2.1) A.2.2 (in_at hi r1 hlt) (by rw [nat_at hi]; exact r3 i hlt) (g := mkF m pc Ls (.int j :: .ref a :: S)) rfl rfl (hb hby hd) t kk
theorem w_arraylength (X : St p l e R s m args below meth c Z n0 y code maxL ret T h cells slots) {a : Addr} {ty : FieldType} {N : Nat} {f : Nat → Value} {z : Int32} (A : AV Z h a ty N f) (hd : decode code pc = .ok (.arraylength, 1)) (hz : N.toInt32 = z) (hp : pc' = pc + 1) (w : WP p e below s n0 k n Q T (mkF m pc' Ls (.int z :: S))) : WP p e below s n0 k n Q T (mkF m pc Ls (.ref a :: S)) := by
  obtain ⟨⟨hx, hZ, hby, hml, hown, hnm, hret, hlk, h00⟩, hT, locs, X, N⟩ := X
  subst hp hz
  obtain ⟨cl, A, r1, r2, r3⟩ := A
  refine w.step fun t kk => X.arraylength hx (by rw [hT]; exact A.1) (State.isArrayOf_alike hZ.alike A.2.1) (g := mkF m pc Ls (.ref a :: S)) rfl rfl (hb hby hd) t ?_
  rw [r1]; exact kk
theorem w_iastore (X : St p l e R s m args below meth c Z n0 y code maxL ret T h cells slots) {a : Addr} {N : Nat} {g : Nat → Int32} {j : Int32} {i : Nat} {x x' : Int32} (A : AI Z h a .int N g) (ga : n0 ≤ a) (hd : decode code pc = .ok (.iastore, 1)) (hi : j.toInt = i) (hlt : i < N) (hx' : x = x') (hp : pc' = pc + 1) (w : ∀ T' h', St p l e R s m args below meth c Z n0 y code maxL ret T' h' cells slots → Keep h h' [a] → AI Z h' a .int N (fun q => if q = i then x' else g q) → WP p e below s n0 k n Q T' (mkF m pc' Ls S)) : WP p e below s n0 k n Q T (mkF m pc Ls (.int x :: .int j :: .ref a :: S)) := by
  have X1 := X
  have A1 := A
  obtain ⟨⟨hx, hZ, hby, hml, hown, hnm, hret, hlk, h00⟩, hT, locs, X, N⟩ := X
  subst hp hx'
  obtain ⟨cl, A, r1, r2, r3⟩ := A
  obtain ⟨T', h', X', e', W', st⟩ := stI X hx hZ hT A (j := j) (x := x) (in_at hi r1 hlt) (g := mkF m pc Ls (.int x :: .int j :: .ref a :: S)) rfl rfl (hb hby hd)
  have N' := Fr.snoc X' N ga
  rw [nat_at hi] at W'
  exact (w T' h' ⟨X1.1, e', _, X', N'⟩ (Keep.of_wr W') (AI.set A1 W')).step st
theorem w_lastore (X : St p l e R s m args below meth c Z n0 y code maxL ret T h cells slots) {a : Addr} {N : Nat} {g : Nat → Int64} {j : Int32} {i : Nat} {x x' : Int64} (A : AJ Z h a N g) (ga : n0 ≤ a) (hd : decode code pc = .ok (.lastore, 1)) (hi : j.toInt = i) (hlt : i < N) (hx' : x = x') (hp : pc' = pc + 1) (w : ∀ T' h', St p l e R s m args below meth c Z n0 y code maxL ret T' h' cells slots → Keep h h' [a] → AJ Z h' a N (fun q => if q = i then x' else g q) → WP p e below s n0 k n Q T' (mkF m pc' Ls S)) : WP p e below s n0 k n Q T (mkF m pc Ls (.long x :: .int j :: .ref a :: S)) := by
  have X1 := X
  have A1 := A
  obtain ⟨⟨hx, hZ, hby, hml, hown, hnm, hret, hlk, h00⟩, hT, locs, X, N⟩ := X
  subst hp hx'
  obtain ⟨cl, A, r1, r2, r3⟩ := A
  obtain ⟨T', h', X', e', W', st⟩ := stJ X hx hZ hT A (j := j) (x := x) (in_at hi r1 hlt) (g := mkF m pc Ls (.long x :: .int j :: .ref a :: S)) rfl rfl (hb hby hd)
  have N' := Fr.snoc X' N ga
  rw [nat_at hi] at W'
  exact (w T' h' ⟨X1.1, e', _, X', N'⟩ (Keep.of_wr W') (AJ.set A1 W')).step st
theorem w_castore (X : St p l e R s m args below meth c Z n0 y code maxL ret T h cells slots) {a : Addr} {N : Nat} {g : Nat → Int32} {j : Int32} {i : Nat} {x x' : Int32} (A : AI Z h a .char N g) (ga : n0 ≤ a) (hd : decode code pc = .ok (.castore, 1)) (hi : j.toInt = i) (hlt : i < N) (hx' : nar .char x = x') (hp : pc' = pc + 1) (w : ∀ T' h', St p l e R s m args below meth c Z n0 y code maxL ret T' h' cells slots → Keep h h' [a] → AI Z h' a .char N (fun q => if q = i then x' else g q) → WP p e below s n0 k n Q T' (mkF m pc' Ls S)) : WP p e below s n0 k n Q T (mkF m pc Ls (.int x :: .int j :: .ref a :: S)) := by
  have X1 := X
  have A1 := A
  obtain ⟨⟨hx, hZ, hby, hml, hown, hnm, hret, hlk, h00⟩, hT, locs, X, N⟩ := X
  subst hp hx'
  obtain ⟨cl, A, r1, r2, r3⟩ := A
  obtain ⟨T', h', X', e', W', st⟩ := stC X hx hZ hT A (j := j) (x := x) (in_at hi r1 hlt) (g := mkF m pc Ls (.int x :: .int j :: .ref a :: S)) rfl rfl (hb hby hd)
  have N' := Fr.snoc X' N ga
  rw [nat_at hi] at W'
  exact (w T' h' ⟨X1.1, e', _, X', N'⟩ (Keep.of_wr W') (AI.set A1 W')).step st
theorem w_bastore (X : St p l e R s m args below meth c Z n0 y code maxL ret T h cells slots) {a : Addr} {N : Nat} {g : Nat → Int32} {j : Int32} {i : Nat} {x x' : Int32} (A : AI Z h a .byte N g) (ga : n0 ≤ a) (hd : decode code pc = .ok (.bastore, 1)) (hi : j.toInt = i) (hlt : i < N) (hx' : nar .byte x = x') (hp : pc' = pc + 1) (w : ∀ T' h', St p l e R s m args below meth c Z n0 y code maxL ret T' h' cells slots → Keep h h' [a] → AI Z h' a .byte N (fun q => if q = i then x' else g q) → WP p e below s n0 k n Q T' (mkF m pc' Ls S)) : WP p e below s n0 k n Q T (mkF m pc Ls (.int x :: .int j :: .ref a :: S)) := by
  have X1 := X
  have A1 := A
  obtain ⟨⟨hx, hZ, hby, hml, hown, hnm, hret, hlk, h00⟩, hT, locs, X, N⟩ := X
  subst hp hx'
  obtain ⟨cl, A, r1, r2, r3⟩ := A
  obtain ⟨T', h', X', e', W', st⟩ := stB X hx hZ hT A (j := j) (x := x) (in_at hi r1 hlt) (g := mkF m pc Ls (.int x :: .int j :: .ref a :: S)) rfl rfl (hb hby hd)
  have N' := Fr.snoc X' N ga
  rw [nat_at hi] at W'
  exact (w T' h' ⟨X1.1, e', _, X', N'⟩ (Keep.of_wr W') (AI.set A1 W')).step st
end Steps
end Jvm.Own
namespace Jvm.Own
open Jvm Jvm.ClassFile Sem Op Lib Jvm.Free Jvm.Stand Jvm.LawKit Jvm.RoadKit Bundle
theorem AJ.arv {Z : State} {h : Heap} {a : Addr} {n : Nat} {g : Nat → Int64} (A : AJ Z h a n g) : ∃ (k : ClassId) (z : Int32), z.toNatClampNeg = n ∧ Arv Z h a k .long z ((List.range n).map fun i => .long (g i)) (.long 0) := by
  obtain ⟨c, A, r1, r2, r3⟩ := A
  have q : (Int32.ofNat n).toInt = n := Int32.toInt_ofNat_small r2
  have q2 : (Int32.ofNat n).toNatClampNeg = n := nat_at q
  have gd : ∀ k, k < n → ((List.range n).map fun i => Value.long (g i)).getD k (.long 0) = .long (g k) := fun k hk => by
    rw [List.getD_eq_getElem?_getD, List.getElem?_map, List.getElem?_range hk]; rfl
  refine ⟨c.cls, Int32.ofNat n, q2, c, A, rfl, by rw [r1, q2], ?_, fun k hk => ?_, fun i hi => ?_⟩
  · rw [Int32.lt_iff_toInt_lt, q, show (0 : Int32).toInt = 0 from rfl]; omega
  · rw [gd k (by omega)]; exact r3 k (by omega)
  · rw [gd i (by omega)]; rfl
section Ac
variable {p : Program} {l : Launch} {e : Env} {R : Room} {s : State} {m : MethodId} {args : Array Value} {below : List Frame} {meth : Method} {c : Code} {Z : State} {n0 : Nat} {y : MethodName} {code : ByteArray} {maxL : Nat} {ret : Option FieldType} {T : State} {h : Heap} {cells slots k n : Nat} {Q : Option Value → Heap → Prop} {pc pc' : Nat} {Ls : Array Slot} {S : List Value} {a0 : Array Value}
theorem w_acJ (X : St p l e R s m args below meth c Z n0 y code maxL ret T h cells slots) {idx : Nat} {a b : Addr} {Na Nb i j q W : Nat} {ga gb : Nat → Int64} {sp dp nn : Int32}
    (w1 : (Jvm.Cond.methodLink y.cls idx Jvm.Stand.acN).before a0 Z = true) (w2 : (Jvm.Cond.native Jvm.Stand.acN).before a0 Z = true) (w3 : (Jvm.Cond.static Jvm.Stand.acN).before a0 Z = true) (w4 : (Jvm.Cond.initialized "java/lang/System").before a0 Z = true)
    (A : AJ Z h a Na ga) (B : AJ Z h b Nb gb) (hi : sp.toInt = i) (hj : dp.toInt = j) (hq : nn.toInt = q) (h4 : i + q ≤ Na) (h5 : j + q ≤ Nb) (gb0 : n0 ≤ b) (hd : decode code pc = .ok (.invokestatic idx, 3)) (hsz : Ls.size = maxL) (hf : 1 ≤ R.frames) (hW : (S.map fun v => v.category).sum = W) (hlo : W + (nativeFrameWords "java/lang/System" "arraycopy" 5 + 11) ≤ R.locals) (hp : pc' = pc + 3)
    (w : ∀ T' h', St p l e R s m args below meth c Z n0 y code maxL ret T' h' cells slots → Keep h h' [b] → AJ Z h' b Nb (fun z => if j ≤ z ∧ z < j + q then ga (z - j + i) else gb z) → WP p e below s n0 k n Q T' (mkF m pc' Ls S)) : WP p e below s n0 k n Q T (mkF m pc Ls (.int nn :: .int dp :: .ref b :: .int sp :: .ref a :: S)) := by
  have X1 := X
  obtain ⟨⟨hx, hZ, hby, hml, hown, hnm, hret, hlk, h00⟩, hT, locs, X, N⟩ := X
  subst hp
  have lenB := B.len
  obtain ⟨ka, za, ea, Aa⟩ := AJ.arv A
  obtain ⟨kb, zb, eb, Ab⟩ := AJ.arv B
  have z0 : ∀ {u : Int32} {v : Nat}, u.toInt = v → ¬ u < 0 := fun {u v} hu => by rw [Int32.lt_iff_toInt_lt, hu, show (0 : Int32).toInt = 0 from rfl]; omega
  obtain ⟨T', h', L', X', e', N', K', B', st⟩ := cpA X hx hZ hown w1 w2 w3 w4 hT (sp := sp) (dp := dp) (nn := nn) Aa Ab (Or.inl ⟨rfl, rfl⟩) (z0 hi) (z0 hj) (z0 hq) (by rw [nat_at hi, nat_at hq, ea]; exact h4) (by rw [nat_at hj, nat_at hq, eb]; exact h5) rfl (by rw [nat_at hj, nat_at hq, List.length_map, List.length_range]; exact h5) N gb0 (g := mkF m pc Ls (.int nn :: .int dp :: .ref b :: .int sp :: .ref a :: S)) rfl (hsz.trans hml.symm) rfl (hb hby hd) hf (W := W) (by show 2 * 0 + _ ≤ _; omega) hlo
  refine (w T' h' ⟨X1.1, e', _, X', N'⟩ K' ?_).step st
  obtain ⟨cl, B1, B2, B3, B4, B5, B6⟩ := B'
  rw [eb] at B3
  refine ⟨cl, B1, B3, lenB, fun z hz => ?_⟩
  rw [B5 z (by omega), nat_at hi, nat_at hj, nat_at hq]
  congr 1
  show _ = Value.long (if j ≤ z ∧ z < j + q then ga (z - j + i) else gb z)
  rw [List.getD_eq_getElem?_getD]
  by_cases c1 : z < j
  · rw [List.append_assoc, List.getElem?_append_left (by simp; omega), List.getElem?_take_of_lt c1, List.getElem?_map, List.getElem?_range hz, if_neg (by omega)]; rfl
  · by_cases c2 : z < j + q
    · rw [List.getElem?_append_left (by simp; omega), List.getElem?_append_right (by simp; omega), if_pos ⟨by omega, c2⟩]
      have e1 : (List.take j (List.map (fun i => Value.long (gb i)) (List.range Nb))).length = j := by simp; omega
      rw [e1, List.getElem?_map, List.getElem?_range (by omega)]
      simp only [Option.map_some, Option.getD_some]
      rw [List.getD_eq_getElem?_getD, List.getElem?_map, List.getElem?_range (by omega)]
      simp only [Option.map_some, Option.getD_some]
      rw [show i + (z - j) = z - j + i by omega]
    · rw [List.getElem?_append_right (by simp; omega), if_neg (by omega), List.getElem?_drop]
      have e1 : (List.take j (List.map (fun i => Value.long (gb i)) (List.range Nb)) ++ (List.range q).map fun t => ((List.range Na).map fun i => Value.long (ga i)).getD (i + t) (.long 0)).length = j + q := by simp; omega
      rw [e1, show j + q + (z - (j + q)) = z by omega, List.getElem?_map, List.getElem?_range hz]; rfl
end Ac
end Jvm.Own
namespace Jvm.Pilot.@@N@@
open Jvm Jvm.ClassFile Sem Op Lib Jvm.Free Jvm.Stand Jvm.LawKit Jvm.RoadKit Bundle Jvm.Own Jvm.Pilot.@@N@@.Jvm.D
theorem tw0 {a0 : Array Value} {Z : State} (hw : ∀ d ∈ tables_1, d.before a0 Z = true) : (Jvm.Cond.constant "com/example/varve/varve/parquet/PackedNumbersGetPinLaw" (7 : Nat) (2147483647 : Int32)).before a0 Z = true := hw _ (List.mem_of_getElem? (i := 0) rfl)
theorem tw1 {a0 : Array Value} {Z : State} (hw : ∀ d ∈ tables_1, d.before a0 Z = true) : (Jvm.Cond.classLink "com/example/varve/varve/parquet/PackedNumbersGetPinLaw" (8 : Nat) "com/example/varve/varve/parquet/PackedNumbers").before a0 Z = true := hw _ (List.mem_of_getElem? (i := 1) rfl)
theorem tw2 {a0 : Array Value} {Z : State} (hw : ∀ d ∈ tables_1, d.before a0 Z = true) : (Jvm.Cond.instantiable "com/example/varve/varve/parquet/PackedNumbers" (5 : Nat)).before a0 Z = true := hw _ (List.mem_of_getElem? (i := 2) rfl)
theorem tw3 {a0 : Array Value} {Z : State} (hw : ∀ d ∈ tables_1, d.before a0 Z = true) : (Jvm.Cond.initialized "com/example/varve/varve/parquet/PackedNumbers").before a0 Z = true := hw _ (List.mem_of_getElem? (i := 3) rfl)
theorem tw4 {a0 : Array Value} {Z : State} (hw : ∀ d ∈ tables_1, d.before a0 Z = true) : (Jvm.Cond.methodLink "com/example/varve/varve/parquet/PackedNumbersGetPinLaw" (10 : Nat) ({ cls := "com/example/varve/varve/parquet/PackedNumbers", name := "<init>", desc := "()V" } : Jvm.MethodName)).before a0 Z = true := hw _ (List.mem_of_getElem? (i := 4) rfl)
theorem tw5 {a0 : Array Value} {Z : State} (hw : ∀ d ∈ tables_1, d.before a0 Z = true) : (Jvm.Cond.instanceMethod ({ cls := "com/example/varve/varve/parquet/PackedNumbers", name := "<init>", desc := "()V" } : Jvm.MethodName)).before a0 Z = true := hw _ (List.mem_of_getElem? (i := 5) rfl)
theorem tw6 {a0 : Array Value} {Z : State} (hw : ∀ d ∈ tables_1, d.before a0 Z = true) : (Jvm.Cond.code ({ cls := "com/example/varve/varve/parquet/PackedNumbers", name := "<init>", desc := "()V" } : Jvm.MethodName) prog_109_method_1_code (1 : Nat) (Option.none : Option Jvm.ClassFile.FieldType)).before a0 Z = true := hw _ (List.mem_of_getElem? (i := 6) rfl)
theorem tw7 {a0 : Array Value} {Z : State} (hw : ∀ d ∈ tables_1, d.before a0 Z = true) : (Jvm.Cond.methodLink "com/example/varve/varve/parquet/PackedNumbers" (3 : Nat) ({ cls := "java/lang/Object", name := "<init>", desc := "()V" } : Jvm.MethodName)).before a0 Z = true := hw _ (List.mem_of_getElem? (i := 7) rfl)
theorem tw8 {a0 : Array Value} {Z : State} (hw : ∀ d ∈ tables_1, d.before a0 Z = true) : (Jvm.Cond.instanceMethod ({ cls := "java/lang/Object", name := "<init>", desc := "()V" } : Jvm.MethodName)).before a0 Z = true := hw _ (List.mem_of_getElem? (i := 8) rfl)
theorem tw9 {a0 : Array Value} {Z : State} (hw : ∀ d ∈ tables_1, d.before a0 Z = true) : (Jvm.Cond.code ({ cls := "java/lang/Object", name := "<init>", desc := "()V" } : Jvm.MethodName) object_method_1_code (1 : Nat) (Option.none : Option Jvm.ClassFile.FieldType)).before a0 Z = true := hw _ (List.mem_of_getElem? (i := 9) rfl)
theorem tw10 {a0 : Array Value} {Z : State} (hw : ∀ d ∈ tables_1, d.before a0 Z = true) : (Jvm.Cond.arrayClass Jvm.ClassFile.FieldType.long).before a0 Z = true := hw _ (List.mem_of_getElem? (i := 10) rfl)
theorem tw11 {a0 : Array Value} {Z : State} (hw : ∀ d ∈ tables_1, d.before a0 Z = true) : (Jvm.Cond.fieldLink "com/example/varve/varve/parquet/PackedNumbers" (9 : Nat) "com/example/varve/varve/parquet/PackedNumbers" "words" "[J").before a0 Z = true := hw _ (List.mem_of_getElem? (i := 11) rfl)
theorem tw12 {a0 : Array Value} {Z : State} (hw : ∀ d ∈ tables_1, d.before a0 Z = true) : (Jvm.Cond.lays "com/example/varve/varve/parquet/PackedNumbers" "com/example/varve/varve/parquet/PackedNumbers" "words" "[J").before a0 Z = true := hw _ (List.mem_of_getElem? (i := 12) rfl)
theorem tw13 {a0 : Array Value} {Z : State} (hw : ∀ d ∈ tables_1, d.before a0 Z = true) : (Jvm.Cond.fieldLink "com/example/varve/varve/parquet/PackedNumbers" (13 : Nat) "com/example/varve/varve/parquet/PackedNumbers" "width" "I").before a0 Z = true := hw _ (List.mem_of_getElem? (i := 13) rfl)
theorem tw14 {a0 : Array Value} {Z : State} (hw : ∀ d ∈ tables_1, d.before a0 Z = true) : (Jvm.Cond.lays "com/example/varve/varve/parquet/PackedNumbers" "com/example/varve/varve/parquet/PackedNumbers" "width" "I").before a0 Z = true := hw _ (List.mem_of_getElem? (i := 14) rfl)
theorem tw15 {a0 : Array Value} {Z : State} (hw : ∀ d ∈ tables_1, d.before a0 Z = true) : (Jvm.Cond.fieldLink "com/example/varve/varve/parquet/PackedNumbers" (17 : Nat) "com/example/varve/varve/parquet/PackedNumbers" "greatest" "I").before a0 Z = true := hw _ (List.mem_of_getElem? (i := 15) rfl)
theorem tw16 {a0 : Array Value} {Z : State} (hw : ∀ d ∈ tables_1, d.before a0 Z = true) : (Jvm.Cond.lays "com/example/varve/varve/parquet/PackedNumbers" "com/example/varve/varve/parquet/PackedNumbers" "greatest" "I").before a0 Z = true := hw _ (List.mem_of_getElem? (i := 16) rfl)
theorem tw17 {a0 : Array Value} {Z : State} (hw : ∀ d ∈ tables_1, d.before a0 Z = true) : (Jvm.Cond.fieldLink "com/example/varve/varve/parquet/PackedNumbers" (20 : Nat) "com/example/varve/varve/parquet/PackedNumbers" "room" "I").before a0 Z = true := hw _ (List.mem_of_getElem? (i := 17) rfl)
theorem tw18 {a0 : Array Value} {Z : State} (hw : ∀ d ∈ tables_1, d.before a0 Z = true) : (Jvm.Cond.lays "com/example/varve/varve/parquet/PackedNumbers" "com/example/varve/varve/parquet/PackedNumbers" "room" "I").before a0 Z = true := hw _ (List.mem_of_getElem? (i := 18) rfl)
theorem tw19 {a0 : Array Value} {Z : State} (hw : ∀ d ∈ tables_1, d.before a0 Z = true) : (Jvm.Cond.methodLink "com/example/varve/varve/parquet/PackedNumbersGetPinLaw" (11 : Nat) ({ cls := "com/example/varve/varve/parquet/PackedNumbers", name := "add", desc := "(I)V" } : Jvm.MethodName)).before a0 Z = true := hw _ (List.mem_of_getElem? (i := 19) rfl)
theorem tw20 {a0 : Array Value} {Z : State} (hw : ∀ d ∈ tables_1, d.before a0 Z = true) : (Jvm.Cond.declares ({ cls := "com/example/varve/varve/parquet/PackedNumbers", name := "add", desc := "(I)V" } : Jvm.MethodName)).before a0 Z = true := hw _ (List.mem_of_getElem? (i := 20) rfl)
theorem tw21 {a0 : Array Value} {Z : State} (hw : ∀ d ∈ tables_1, d.before a0 Z = true) : (Jvm.Cond.instanceMethod ({ cls := "com/example/varve/varve/parquet/PackedNumbers", name := "add", desc := "(I)V" } : Jvm.MethodName)).before a0 Z = true := hw _ (List.mem_of_getElem? (i := 21) rfl)
theorem tw22 {a0 : Array Value} {Z : State} (hw : ∀ d ∈ tables_1, d.before a0 Z = true) : (Jvm.Cond.selects "com/example/varve/varve/parquet/PackedNumbers" ({ cls := "com/example/varve/varve/parquet/PackedNumbers", name := "add", desc := "(I)V" } : Jvm.MethodName) ({ cls := "com/example/varve/varve/parquet/PackedNumbers", name := "add", desc := "(I)V" } : Jvm.MethodName)).before a0 Z = true := hw _ (List.mem_of_getElem? (i := 22) rfl)
theorem tw23 {a0 : Array Value} {Z : State} (hw : ∀ d ∈ tables_1, d.before a0 Z = true) : (Jvm.Cond.code ({ cls := "com/example/varve/varve/parquet/PackedNumbers", name := "add", desc := "(I)V" } : Jvm.MethodName) prog_109_method_3_code (6 : Nat) (Option.none : Option Jvm.ClassFile.FieldType)).before a0 Z = true := hw _ (List.mem_of_getElem? (i := 23) rfl)
theorem tw24 {a0 : Array Value} {Z : State} (hw : ∀ d ∈ tables_1, d.before a0 Z = true) : (Jvm.Cond.fieldLink "com/example/varve/varve/parquet/PackedNumbers" (23 : Nat) "com/example/varve/varve/parquet/PackedNumbers" "count" "I").before a0 Z = true := hw _ (List.mem_of_getElem? (i := 24) rfl)
theorem tw25 {a0 : Array Value} {Z : State} (hw : ∀ d ∈ tables_1, d.before a0 Z = true) : (Jvm.Cond.lays "com/example/varve/varve/parquet/PackedNumbers" "com/example/varve/varve/parquet/PackedNumbers" "count" "I").before a0 Z = true := hw _ (List.mem_of_getElem? (i := 25) rfl)
theorem tw26 {a0 : Array Value} {Z : State} (hw : ∀ d ∈ tables_1, d.before a0 Z = true) : (Jvm.Cond.methodLink "com/example/varve/varve/parquet/PackedNumbers" (26 : Nat) ({ cls := "com/example/varve/varve/column/ByteOutput", name := "width", desc := "(J)I" } : Jvm.MethodName)).before a0 Z = true := hw _ (List.mem_of_getElem? (i := 26) rfl)
theorem tw27 {a0 : Array Value} {Z : State} (hw : ∀ d ∈ tables_1, d.before a0 Z = true) : (Jvm.Cond.static ({ cls := "com/example/varve/varve/column/ByteOutput", name := "width", desc := "(J)I" } : Jvm.MethodName)).before a0 Z = true := hw _ (List.mem_of_getElem? (i := 27) rfl)
theorem tw28 {a0 : Array Value} {Z : State} (hw : ∀ d ∈ tables_1, d.before a0 Z = true) : (Jvm.Cond.initialized "com/example/varve/varve/column/ByteOutput").before a0 Z = true := hw _ (List.mem_of_getElem? (i := 28) rfl)
theorem tw29 {a0 : Array Value} {Z : State} (hw : ∀ d ∈ tables_1, d.before a0 Z = true) : (Jvm.Cond.code ({ cls := "com/example/varve/varve/column/ByteOutput", name := "width", desc := "(J)I" } : Jvm.MethodName) prog_29_method_17_code (2 : Nat) (Option.some Jvm.ClassFile.FieldType.int)).before a0 Z = true := hw _ (List.mem_of_getElem? (i := 29) rfl)
theorem tw30 {a0 : Array Value} {Z : State} (hw : ∀ d ∈ tables_1, d.before a0 Z = true) : (Jvm.Cond.methodLink "com/example/varve/varve/column/ByteOutput" (67 : Nat) ({ cls := "java/lang/Long", name := "numberOfLeadingZeros", desc := "(J)I" } : Jvm.MethodName)).before a0 Z = true := hw _ (List.mem_of_getElem? (i := 30) rfl)
theorem tw31 {a0 : Array Value} {Z : State} (hw : ∀ d ∈ tables_1, d.before a0 Z = true) : (Jvm.Cond.static ({ cls := "java/lang/Long", name := "numberOfLeadingZeros", desc := "(J)I" } : Jvm.MethodName)).before a0 Z = true := hw _ (List.mem_of_getElem? (i := 31) rfl)
theorem tw32 {a0 : Array Value} {Z : State} (hw : ∀ d ∈ tables_1, d.before a0 Z = true) : (Jvm.Cond.initialized "java/lang/Long").before a0 Z = true := hw _ (List.mem_of_getElem? (i := 32) rfl)
theorem tw33 {a0 : Array Value} {Z : State} (hw : ∀ d ∈ tables_1, d.before a0 Z = true) : (Jvm.Cond.code ({ cls := "java/lang/Long", name := "numberOfLeadingZeros", desc := "(J)I" } : Jvm.MethodName) jdk_35_method_48_code (3 : Nat) (Option.some Jvm.ClassFile.FieldType.int)).before a0 Z = true := hw _ (List.mem_of_getElem? (i := 33) rfl)
theorem tw34 {a0 : Array Value} {Z : State} (hw : ∀ d ∈ tables_1, d.before a0 Z = true) : (Jvm.Cond.methodLink "java/lang/Long" (308 : Nat) ({ cls := "java/lang/Integer", name := "numberOfLeadingZeros", desc := "(I)I" } : Jvm.MethodName)).before a0 Z = true := hw _ (List.mem_of_getElem? (i := 34) rfl)
theorem tw35 {a0 : Array Value} {Z : State} (hw : ∀ d ∈ tables_1, d.before a0 Z = true) : (Jvm.Cond.static ({ cls := "java/lang/Integer", name := "numberOfLeadingZeros", desc := "(I)I" } : Jvm.MethodName)).before a0 Z = true := hw _ (List.mem_of_getElem? (i := 35) rfl)
theorem tw36 {a0 : Array Value} {Z : State} (hw : ∀ d ∈ tables_1, d.before a0 Z = true) : (Jvm.Cond.initialized "java/lang/Integer").before a0 Z = true := hw _ (List.mem_of_getElem? (i := 36) rfl)
theorem tw37 {a0 : Array Value} {Z : State} (hw : ∀ d ∈ tables_1, d.before a0 Z = true) : (Jvm.Cond.code ({ cls := "java/lang/Integer", name := "numberOfLeadingZeros", desc := "(I)I" } : Jvm.MethodName) jdk_33_method_47_code (2 : Nat) (Option.some Jvm.ClassFile.FieldType.int)).before a0 Z = true := hw _ (List.mem_of_getElem? (i := 37) rfl)
theorem tw38 {a0 : Array Value} {Z : State} (hw : ∀ d ∈ tables_1, d.before a0 Z = true) : (Jvm.Cond.constant "java/lang/Integer" (264 : Nat) (65536 : Int32)).before a0 Z = true := hw _ (List.mem_of_getElem? (i := 38) rfl)
theorem tw39 {a0 : Array Value} {Z : State} (hw : ∀ d ∈ tables_1, d.before a0 Z = true) : (Jvm.Cond.methodLink "com/example/varve/varve/parquet/PackedNumbers" (31 : Nat) ({ cls := "com/example/varve/varve/parquet/PackedNumbers", name := "widen", desc := "(I)V" } : Jvm.MethodName)).before a0 Z = true := hw _ (List.mem_of_getElem? (i := 39) rfl)
theorem tw40 {a0 : Array Value} {Z : State} (hw : ∀ d ∈ tables_1, d.before a0 Z = true) : (Jvm.Cond.instanceMethod ({ cls := "com/example/varve/varve/parquet/PackedNumbers", name := "widen", desc := "(I)V" } : Jvm.MethodName)).before a0 Z = true := hw _ (List.mem_of_getElem? (i := 40) rfl)
theorem tw41 {a0 : Array Value} {Z : State} (hw : ∀ d ∈ tables_1, d.before a0 Z = true) : (Jvm.Cond.privateMethod ({ cls := "com/example/varve/varve/parquet/PackedNumbers", name := "widen", desc := "(I)V" } : Jvm.MethodName)).before a0 Z = true := hw _ (List.mem_of_getElem? (i := 41) rfl)
theorem tw42 {a0 : Array Value} {Z : State} (hw : ∀ d ∈ tables_1, d.before a0 Z = true) : (Jvm.Cond.code ({ cls := "com/example/varve/varve/parquet/PackedNumbers", name := "widen", desc := "(I)V" } : Jvm.MethodName) prog_109_method_7_code (4 : Nat) (Option.none : Option Jvm.ClassFile.FieldType)).before a0 Z = true := hw _ (List.mem_of_getElem? (i := 42) rfl)
theorem tw43 {a0 : Array Value} {Z : State} (hw : ∀ d ∈ tables_1, d.before a0 Z = true) : (Jvm.Cond.classLink "com/example/varve/varve/parquet/PackedNumbers" (1 : Nat) "com/example/varve/varve/parquet/PackedNumbers").before a0 Z = true := hw _ (List.mem_of_getElem? (i := 43) rfl)
theorem tw44 {a0 : Array Value} {Z : State} (hw : ∀ d ∈ tables_1, d.before a0 Z = true) : (Jvm.Cond.methodLink "com/example/varve/varve/parquet/PackedNumbers" (51 : Nat) ({ cls := "com/example/varve/varve/parquet/PackedNumbers", name := "<init>", desc := "()V" } : Jvm.MethodName)).before a0 Z = true := hw _ (List.mem_of_getElem? (i := 44) rfl)
theorem tw45 {a0 : Array Value} {Z : State} (hw : ∀ d ∈ tables_1, d.before a0 Z = true) : (Jvm.Cond.methodLink "com/example/varve/varve/parquet/PackedNumbers" (52 : Nat) ({ cls := "java/lang/Math", name := "max", desc := "(II)I" } : Jvm.MethodName)).before a0 Z = true := hw _ (List.mem_of_getElem? (i := 45) rfl)
theorem tw46 {a0 : Array Value} {Z : State} (hw : ∀ d ∈ tables_1, d.before a0 Z = true) : (Jvm.Cond.static ({ cls := "java/lang/Math", name := "max", desc := "(II)I" } : Jvm.MethodName)).before a0 Z = true := hw _ (List.mem_of_getElem? (i := 46) rfl)
theorem tw47 {a0 : Array Value} {Z : State} (hw : ∀ d ∈ tables_1, d.before a0 Z = true) : (Jvm.Cond.initialized "java/lang/Math").before a0 Z = true := hw _ (List.mem_of_getElem? (i := 47) rfl)
theorem tw48 {a0 : Array Value} {Z : State} (hw : ∀ d ∈ tables_1, d.before a0 Z = true) : (Jvm.Cond.code ({ cls := "java/lang/Math", name := "max", desc := "(II)I" } : Jvm.MethodName) jdk_29_method_65_code (2 : Nat) (Option.some Jvm.ClassFile.FieldType.int)).before a0 Z = true := hw _ (List.mem_of_getElem? (i := 48) rfl)
theorem tw49 {a0 : Array Value} {Z : State} (hw : ∀ d ∈ tables_1, d.before a0 Z = true) : (Jvm.Cond.methodLink "com/example/varve/varve/parquet/PackedNumbers" (58 : Nat) ({ cls := "com/example/varve/varve/parquet/PackedNumbers", name := "get", desc := "(I)I" } : Jvm.MethodName)).before a0 Z = true := hw _ (List.mem_of_getElem? (i := 49) rfl)
theorem tw50 {a0 : Array Value} {Z : State} (hw : ∀ d ∈ tables_1, d.before a0 Z = true) : (Jvm.Cond.declares ({ cls := "com/example/varve/varve/parquet/PackedNumbers", name := "get", desc := "(I)I" } : Jvm.MethodName)).before a0 Z = true := hw _ (List.mem_of_getElem? (i := 50) rfl)
theorem tw51 {a0 : Array Value} {Z : State} (hw : ∀ d ∈ tables_1, d.before a0 Z = true) : (Jvm.Cond.instanceMethod ({ cls := "com/example/varve/varve/parquet/PackedNumbers", name := "get", desc := "(I)I" } : Jvm.MethodName)).before a0 Z = true := hw _ (List.mem_of_getElem? (i := 51) rfl)
theorem tw52 {a0 : Array Value} {Z : State} (hw : ∀ d ∈ tables_1, d.before a0 Z = true) : (Jvm.Cond.selects "com/example/varve/varve/parquet/PackedNumbers" ({ cls := "com/example/varve/varve/parquet/PackedNumbers", name := "get", desc := "(I)I" } : Jvm.MethodName) ({ cls := "com/example/varve/varve/parquet/PackedNumbers", name := "get", desc := "(I)I" } : Jvm.MethodName)).before a0 Z = true := hw _ (List.mem_of_getElem? (i := 52) rfl)
theorem tw53 {a0 : Array Value} {Z : State} (hw : ∀ d ∈ tables_1, d.before a0 Z = true) : (Jvm.Cond.code ({ cls := "com/example/varve/varve/parquet/PackedNumbers", name := "get", desc := "(I)I" } : Jvm.MethodName) prog_109_method_4_code (8 : Nat) (Option.some Jvm.ClassFile.FieldType.int)).before a0 Z = true := hw _ (List.mem_of_getElem? (i := 53) rfl)
theorem tw54 {a0 : Array Value} {Z : State} (hw : ∀ d ∈ tables_1, d.before a0 Z = true) : (Jvm.Cond.methodLink "com/example/varve/varve/parquet/PackedNumbers" (62 : Nat) ({ cls := "com/example/varve/varve/parquet/PackedNumbers", name := "add", desc := "(I)V" } : Jvm.MethodName)).before a0 Z = true := hw _ (List.mem_of_getElem? (i := 54) rfl)
theorem tw55 {a0 : Array Value} {Z : State} (hw : ∀ d ∈ tables_1, d.before a0 Z = true) : (Jvm.Cond.methodLink "com/example/varve/varve/parquet/PackedNumbersGetPinLaw" (15 : Nat) ({ cls := "com/example/varve/varve/parquet/PackedNumbers", name := "size", desc := "()I" } : Jvm.MethodName)).before a0 Z = true := hw _ (List.mem_of_getElem? (i := 55) rfl)
theorem tw56 {a0 : Array Value} {Z : State} (hw : ∀ d ∈ tables_1, d.before a0 Z = true) : (Jvm.Cond.declares ({ cls := "com/example/varve/varve/parquet/PackedNumbers", name := "size", desc := "()I" } : Jvm.MethodName)).before a0 Z = true := hw _ (List.mem_of_getElem? (i := 56) rfl)
theorem tw57 {a0 : Array Value} {Z : State} (hw : ∀ d ∈ tables_1, d.before a0 Z = true) : (Jvm.Cond.instanceMethod ({ cls := "com/example/varve/varve/parquet/PackedNumbers", name := "size", desc := "()I" } : Jvm.MethodName)).before a0 Z = true := hw _ (List.mem_of_getElem? (i := 57) rfl)
theorem tw58 {a0 : Array Value} {Z : State} (hw : ∀ d ∈ tables_1, d.before a0 Z = true) : (Jvm.Cond.selects "com/example/varve/varve/parquet/PackedNumbers" ({ cls := "com/example/varve/varve/parquet/PackedNumbers", name := "size", desc := "()I" } : Jvm.MethodName) ({ cls := "com/example/varve/varve/parquet/PackedNumbers", name := "size", desc := "()I" } : Jvm.MethodName)).before a0 Z = true := hw _ (List.mem_of_getElem? (i := 58) rfl)
theorem tw59 {a0 : Array Value} {Z : State} (hw : ∀ d ∈ tables_1, d.before a0 Z = true) : (Jvm.Cond.code ({ cls := "com/example/varve/varve/parquet/PackedNumbers", name := "size", desc := "()I" } : Jvm.MethodName) prog_109_method_2_code (1 : Nat) (Option.some Jvm.ClassFile.FieldType.int)).before a0 Z = true := hw _ (List.mem_of_getElem? (i := 59) rfl)
theorem tw60 {a0 : Array Value} {Z : State} (hw : ∀ d ∈ tables_1, d.before a0 Z = true) : (Jvm.Cond.methodLink "com/example/varve/varve/parquet/PackedNumbersGetPinLaw" (19 : Nat) ({ cls := "com/example/varve/varve/parquet/PackedNumbers", name := "get", desc := "(I)I" } : Jvm.MethodName)).before a0 Z = true := hw _ (List.mem_of_getElem? (i := 60) rfl)
theorem tw61 {a0 : Array Value} {Z : State} (hw : ∀ d ∈ tables_1, d.before a0 Z = true) : (Jvm.Cond.methodLink "com/example/varve/varve/parquet/PackedNumbers" (35 : Nat) ({ cls := "java/util/Arrays", name := "copyOf", desc := "([JI)[J" } : Jvm.MethodName)).before a0 Z = true := hw _ (List.mem_of_getElem? (i := 61) rfl)
theorem tw62 {a0 : Array Value} {Z : State} (hw : ∀ d ∈ tables_1, d.before a0 Z = true) : (Jvm.Cond.static ({ cls := "java/util/Arrays", name := "copyOf", desc := "([JI)[J" } : Jvm.MethodName)).before a0 Z = true := hw _ (List.mem_of_getElem? (i := 62) rfl)
theorem tw63 {a0 : Array Value} {Z : State} (hw : ∀ d ∈ tables_1, d.before a0 Z = true) : (Jvm.Cond.initialized "java/util/Arrays").before a0 Z = true := hw _ (List.mem_of_getElem? (i := 63) rfl)
theorem tw64 {a0 : Array Value} {Z : State} (hw : ∀ d ∈ tables_1, d.before a0 Z = true) : (Jvm.Cond.code ({ cls := "java/util/Arrays", name := "copyOf", desc := "([JI)[J" } : Jvm.MethodName) jdk_65_method_124_code (3 : Nat) (Option.some (Jvm.ClassFile.FieldType.array Jvm.ClassFile.FieldType.long))).before a0 Z = true := hw _ (List.mem_of_getElem? (i := 64) rfl)
theorem tw65 {a0 : Array Value} {Z : State} (hw : ∀ d ∈ tables_1, d.before a0 Z = true) : (Jvm.Cond.methodLink "java/util/Arrays" (304 : Nat) ({ cls := "java/lang/Math", name := "min", desc := "(II)I" } : Jvm.MethodName)).before a0 Z = true := hw _ (List.mem_of_getElem? (i := 65) rfl)
theorem tw66 {a0 : Array Value} {Z : State} (hw : ∀ d ∈ tables_1, d.before a0 Z = true) : (Jvm.Cond.static ({ cls := "java/lang/Math", name := "min", desc := "(II)I" } : Jvm.MethodName)).before a0 Z = true := hw _ (List.mem_of_getElem? (i := 66) rfl)
theorem tw67 {a0 : Array Value} {Z : State} (hw : ∀ d ∈ tables_1, d.before a0 Z = true) : (Jvm.Cond.code ({ cls := "java/lang/Math", name := "min", desc := "(II)I" } : Jvm.MethodName) jdk_29_method_69_code (2 : Nat) (Option.some Jvm.ClassFile.FieldType.int)).before a0 Z = true := hw _ (List.mem_of_getElem? (i := 67) rfl)
theorem tw68 {a0 : Array Value} {Z : State} (hw : ∀ d ∈ tables_1, d.before a0 Z = true) : (Jvm.Cond.methodLink "java/util/Arrays" (150 : Nat) ({ cls := "java/lang/System", name := "arraycopy", desc := "(Ljava/lang/Object;ILjava/lang/Object;II)V" } : Jvm.MethodName)).before a0 Z = true := hw _ (List.mem_of_getElem? (i := 68) rfl)
theorem tw69 {a0 : Array Value} {Z : State} (hw : ∀ d ∈ tables_1, d.before a0 Z = true) : (Jvm.Cond.static ({ cls := "java/lang/System", name := "arraycopy", desc := "(Ljava/lang/Object;ILjava/lang/Object;II)V" } : Jvm.MethodName)).before a0 Z = true := hw _ (List.mem_of_getElem? (i := 69) rfl)
theorem tw70 {a0 : Array Value} {Z : State} (hw : ∀ d ∈ tables_1, d.before a0 Z = true) : (Jvm.Cond.initialized "java/lang/System").before a0 Z = true := hw _ (List.mem_of_getElem? (i := 70) rfl)
theorem tw71 {a0 : Array Value} {Z : State} (hw : ∀ d ∈ tables_1, d.before a0 Z = true) : (Jvm.Cond.native ({ cls := "java/lang/System", name := "arraycopy", desc := "(Ljava/lang/Object;ILjava/lang/Object;II)V" } : Jvm.MethodName)).before a0 Z = true := hw _ (List.mem_of_getElem? (i := 71) rfl)
theorem d1_0 : decode prog_109_method_1_code 0 = .ok (.aload_n 0, 1) := by decide +kernel
theorem d1_1 : decode prog_109_method_1_code 1 = .ok (.invokespecial 3, 3) := by decide +kernel
theorem d1_4 : decode prog_109_method_1_code 4 = .ok (.aload_n 0, 1) := by decide +kernel
theorem d1_5 : decode prog_109_method_1_code 5 = .ok (.iconst 1, 1) := by decide +kernel
theorem d1_6 : decode prog_109_method_1_code 6 = .ok (.newarray .long, 2) := by decide +kernel
theorem d1_8 : decode prog_109_method_1_code 8 = .ok (.putfield 9, 3) := by decide +kernel
theorem d1_11 : decode prog_109_method_1_code 11 = .ok (.aload_n 0, 1) := by decide +kernel
theorem d1_12 : decode prog_109_method_1_code 12 = .ok (.iconst 1, 1) := by decide +kernel
theorem d1_13 : decode prog_109_method_1_code 13 = .ok (.putfield 13, 3) := by decide +kernel
theorem d1_16 : decode prog_109_method_1_code 16 = .ok (.aload_n 0, 1) := by decide +kernel
theorem d1_17 : decode prog_109_method_1_code 17 = .ok (.iconst 1, 1) := by decide +kernel
theorem d1_18 : decode prog_109_method_1_code 18 = .ok (.putfield 17, 3) := by decide +kernel
theorem d1_21 : decode prog_109_method_1_code 21 = .ok (.aload_n 0, 1) := by decide +kernel
theorem d1_22 : decode prog_109_method_1_code 22 = .ok (.bipush 64, 2) := by decide +kernel
theorem d1_24 : decode prog_109_method_1_code 24 = .ok (.putfield 20, 3) := by decide +kernel
theorem d1_27 : decode prog_109_method_1_code 27 = .ok (.return_, 1) := by decide +kernel
theorem d3_0 : decode prog_109_method_3_code 0 = .ok (.iload_n 1, 1) := by decide +kernel
theorem d3_1 : decode prog_109_method_3_code 1 = .ok (.aload_n 0, 1) := by decide +kernel
theorem d3_2 : decode prog_109_method_3_code 2 = .ok (.getfield 17, 3) := by decide +kernel
theorem d3_5 : decode prog_109_method_3_code 5 = .ok (.if_icmp .le 12, 3) := by decide +kernel
theorem d3_8 : decode prog_109_method_3_code 8 = .ok (.aload_n 0, 1) := by decide +kernel
theorem d3_9 : decode prog_109_method_3_code 9 = .ok (.iload_n 1, 1) := by decide +kernel
theorem d3_10 : decode prog_109_method_3_code 10 = .ok (.i2l, 1) := by decide +kernel
theorem d3_11 : decode prog_109_method_3_code 11 = .ok (.invokestatic 26, 3) := by decide +kernel
theorem d3_14 : decode prog_109_method_3_code 14 = .ok (.invokevirtual 31, 3) := by decide +kernel
theorem d3_17 : decode prog_109_method_3_code 17 = .ok (.aload_n 0, 1) := by decide +kernel
theorem d3_18 : decode prog_109_method_3_code 18 = .ok (.getfield 23, 3) := by decide +kernel
theorem d3_21 : decode prog_109_method_3_code 21 = .ok (.aload_n 0, 1) := by decide +kernel
theorem d3_22 : decode prog_109_method_3_code 22 = .ok (.getfield 20, 3) := by decide +kernel
theorem d3_25 : decode prog_109_method_3_code 25 = .ok (.if_icmp .ne 38, 3) := by decide +kernel
theorem d3_28 : decode prog_109_method_3_code 28 = .ok (.aload_n 0, 1) := by decide +kernel
theorem d3_29 : decode prog_109_method_3_code 29 = .ok (.aload_n 0, 1) := by decide +kernel
theorem d3_30 : decode prog_109_method_3_code 30 = .ok (.getfield 9, 3) := by decide +kernel
theorem d3_33 : decode prog_109_method_3_code 33 = .ok (.iconst 2, 1) := by decide +kernel
theorem d3_34 : decode prog_109_method_3_code 34 = .ok (.aload_n 0, 1) := by decide +kernel
theorem d3_35 : decode prog_109_method_3_code 35 = .ok (.getfield 9, 3) := by decide +kernel
theorem d3_38 : decode prog_109_method_3_code 38 = .ok (.arraylength, 1) := by decide +kernel
theorem d3_39 : decode prog_109_method_3_code 39 = .ok (.imul, 1) := by decide +kernel
theorem d3_40 : decode prog_109_method_3_code 40 = .ok (.invokestatic 35, 3) := by decide +kernel
theorem d3_43 : decode prog_109_method_3_code 43 = .ok (.putfield 9, 3) := by decide +kernel
theorem d3_46 : decode prog_109_method_3_code 46 = .ok (.aload_n 0, 1) := by decide +kernel
theorem d3_47 : decode prog_109_method_3_code 47 = .ok (.aload_n 0, 1) := by decide +kernel
theorem d3_48 : decode prog_109_method_3_code 48 = .ok (.getfield 9, 3) := by decide +kernel
theorem d3_51 : decode prog_109_method_3_code 51 = .ok (.arraylength, 1) := by decide +kernel
theorem d3_52 : decode prog_109_method_3_code 52 = .ok (.bipush 64, 2) := by decide +kernel
theorem d3_54 : decode prog_109_method_3_code 54 = .ok (.imul, 1) := by decide +kernel
theorem d3_55 : decode prog_109_method_3_code 55 = .ok (.aload_n 0, 1) := by decide +kernel
theorem d3_56 : decode prog_109_method_3_code 56 = .ok (.getfield 13, 3) := by decide +kernel
theorem d3_59 : decode prog_109_method_3_code 59 = .ok (.idiv, 1) := by decide +kernel
theorem d3_60 : decode prog_109_method_3_code 60 = .ok (.putfield 20, 3) := by decide +kernel
theorem d3_63 : decode prog_109_method_3_code 63 = .ok (.aload_n 0, 1) := by decide +kernel
theorem d3_64 : decode prog_109_method_3_code 64 = .ok (.getfield 23, 3) := by decide +kernel
theorem d3_67 : decode prog_109_method_3_code 67 = .ok (.i2l, 1) := by decide +kernel
theorem d3_68 : decode prog_109_method_3_code 68 = .ok (.aload_n 0, 1) := by decide +kernel
theorem d3_69 : decode prog_109_method_3_code 69 = .ok (.getfield 13, 3) := by decide +kernel
theorem d3_72 : decode prog_109_method_3_code 72 = .ok (.i2l, 1) := by decide +kernel
theorem d3_73 : decode prog_109_method_3_code 73 = .ok (.lmul, 1) := by decide +kernel
theorem d3_74 : decode prog_109_method_3_code 74 = .ok (.lstore_n 2, 1) := by decide +kernel
theorem d3_75 : decode prog_109_method_3_code 75 = .ok (.lload_n 2, 1) := by decide +kernel
theorem d3_76 : decode prog_109_method_3_code 76 = .ok (.bipush 6, 2) := by decide +kernel
theorem d3_78 : decode prog_109_method_3_code 78 = .ok (.lushr, 1) := by decide +kernel
theorem d3_79 : decode prog_109_method_3_code 79 = .ok (.l2i, 1) := by decide +kernel
theorem d3_80 : decode prog_109_method_3_code 80 = .ok (.istore 4, 2) := by decide +kernel
theorem d3_82 : decode prog_109_method_3_code 82 = .ok (.lload_n 2, 1) := by decide +kernel
theorem d3_83 : decode prog_109_method_3_code 83 = .ok (.l2i, 1) := by decide +kernel
theorem d3_84 : decode prog_109_method_3_code 84 = .ok (.bipush 63, 2) := by decide +kernel
theorem d3_86 : decode prog_109_method_3_code 86 = .ok (.iand, 1) := by decide +kernel
theorem d3_87 : decode prog_109_method_3_code 87 = .ok (.istore 5, 2) := by decide +kernel
theorem d3_89 : decode prog_109_method_3_code 89 = .ok (.aload_n 0, 1) := by decide +kernel
theorem d3_90 : decode prog_109_method_3_code 90 = .ok (.getfield 9, 3) := by decide +kernel
theorem d3_93 : decode prog_109_method_3_code 93 = .ok (.iload 4, 2) := by decide +kernel
theorem d3_95 : decode prog_109_method_3_code 95 = .ok (.dup2, 1) := by decide +kernel
theorem d3_96 : decode prog_109_method_3_code 96 = .ok (.laload, 1) := by decide +kernel
theorem d3_97 : decode prog_109_method_3_code 97 = .ok (.iload_n 1, 1) := by decide +kernel
theorem d3_98 : decode prog_109_method_3_code 98 = .ok (.i2l, 1) := by decide +kernel
theorem d3_99 : decode prog_109_method_3_code 99 = .ok (.iload 5, 2) := by decide +kernel
theorem d3_101 : decode prog_109_method_3_code 101 = .ok (.lshl, 1) := by decide +kernel
theorem d3_102 : decode prog_109_method_3_code 102 = .ok (.lor, 1) := by decide +kernel
theorem d3_103 : decode prog_109_method_3_code 103 = .ok (.lastore, 1) := by decide +kernel
theorem d3_104 : decode prog_109_method_3_code 104 = .ok (.iload 5, 2) := by decide +kernel
theorem d3_106 : decode prog_109_method_3_code 106 = .ok (.aload_n 0, 1) := by decide +kernel
theorem d3_107 : decode prog_109_method_3_code 107 = .ok (.getfield 13, 3) := by decide +kernel
theorem d3_110 : decode prog_109_method_3_code 110 = .ok (.iadd, 1) := by decide +kernel
theorem d3_111 : decode prog_109_method_3_code 111 = .ok (.bipush 64, 2) := by decide +kernel
theorem d3_113 : decode prog_109_method_3_code 113 = .ok (.if_icmp .le 23, 3) := by decide +kernel
theorem d3_116 : decode prog_109_method_3_code 116 = .ok (.aload_n 0, 1) := by decide +kernel
theorem d3_117 : decode prog_109_method_3_code 117 = .ok (.getfield 9, 3) := by decide +kernel
theorem d3_120 : decode prog_109_method_3_code 120 = .ok (.iload 4, 2) := by decide +kernel
theorem d3_122 : decode prog_109_method_3_code 122 = .ok (.iconst 1, 1) := by decide +kernel
theorem d3_123 : decode prog_109_method_3_code 123 = .ok (.iadd, 1) := by decide +kernel
theorem d3_124 : decode prog_109_method_3_code 124 = .ok (.dup2, 1) := by decide +kernel
theorem d3_125 : decode prog_109_method_3_code 125 = .ok (.laload, 1) := by decide +kernel
theorem d3_126 : decode prog_109_method_3_code 126 = .ok (.iload_n 1, 1) := by decide +kernel
theorem d3_127 : decode prog_109_method_3_code 127 = .ok (.i2l, 1) := by decide +kernel
theorem d3_128 : decode prog_109_method_3_code 128 = .ok (.bipush 64, 2) := by decide +kernel
theorem d3_130 : decode prog_109_method_3_code 130 = .ok (.iload 5, 2) := by decide +kernel
theorem d3_132 : decode prog_109_method_3_code 132 = .ok (.isub, 1) := by decide +kernel
theorem d3_133 : decode prog_109_method_3_code 133 = .ok (.lushr, 1) := by decide +kernel
theorem d3_134 : decode prog_109_method_3_code 134 = .ok (.lor, 1) := by decide +kernel
theorem d3_135 : decode prog_109_method_3_code 135 = .ok (.lastore, 1) := by decide +kernel
theorem d3_136 : decode prog_109_method_3_code 136 = .ok (.aload_n 0, 1) := by decide +kernel
theorem d3_137 : decode prog_109_method_3_code 137 = .ok (.dup, 1) := by decide +kernel
theorem d3_138 : decode prog_109_method_3_code 138 = .ok (.getfield 23, 3) := by decide +kernel
theorem d3_141 : decode prog_109_method_3_code 141 = .ok (.iconst 1, 1) := by decide +kernel
theorem d3_142 : decode prog_109_method_3_code 142 = .ok (.iadd, 1) := by decide +kernel
theorem d3_143 : decode prog_109_method_3_code 143 = .ok (.putfield 23, 3) := by decide +kernel
theorem d3_146 : decode prog_109_method_3_code 146 = .ok (.return_, 1) := by decide +kernel
theorem d4_0 : decode prog_29_method_17_code 0 = .ok (.bipush 64, 2) := by decide +kernel
theorem d4_2 : decode prog_29_method_17_code 2 = .ok (.lload_n 0, 1) := by decide +kernel
theorem d4_3 : decode prog_29_method_17_code 3 = .ok (.invokestatic 67, 3) := by decide +kernel
theorem d4_6 : decode prog_29_method_17_code 6 = .ok (.isub, 1) := by decide +kernel
theorem d4_7 : decode prog_29_method_17_code 7 = .ok (.ireturn, 1) := by decide +kernel
theorem d5_0 : decode jdk_35_method_48_code 0 = .ok (.lload_n 0, 1) := by decide +kernel
theorem d5_1 : decode jdk_35_method_48_code 1 = .ok (.bipush 32, 2) := by decide +kernel
theorem d5_3 : decode jdk_35_method_48_code 3 = .ok (.lushr, 1) := by decide +kernel
theorem d5_4 : decode jdk_35_method_48_code 4 = .ok (.l2i, 1) := by decide +kernel
theorem d5_5 : decode jdk_35_method_48_code 5 = .ok (.istore_n 2, 1) := by decide +kernel
theorem d5_6 : decode jdk_35_method_48_code 6 = .ok (.iload_n 2, 1) := by decide +kernel
theorem d5_7 : decode jdk_35_method_48_code 7 = .ok (.ifCond .ne 14, 3) := by decide +kernel
theorem d5_10 : decode jdk_35_method_48_code 10 = .ok (.bipush 32, 2) := by decide +kernel
theorem d5_12 : decode jdk_35_method_48_code 12 = .ok (.lload_n 0, 1) := by decide +kernel
theorem d5_13 : decode jdk_35_method_48_code 13 = .ok (.l2i, 1) := by decide +kernel
theorem d5_14 : decode jdk_35_method_48_code 14 = .ok (.invokestatic 308, 3) := by decide +kernel
theorem d5_17 : decode jdk_35_method_48_code 17 = .ok (.iadd, 1) := by decide +kernel
theorem d5_18 : decode jdk_35_method_48_code 18 = .ok (.goto 7, 3) := by decide +kernel
theorem d5_21 : decode jdk_35_method_48_code 21 = .ok (.iload_n 2, 1) := by decide +kernel
theorem d5_22 : decode jdk_35_method_48_code 22 = .ok (.invokestatic 308, 3) := by decide +kernel
theorem d5_25 : decode jdk_35_method_48_code 25 = .ok (.ireturn, 1) := by decide +kernel
theorem d6_0 : decode jdk_33_method_47_code 0 = .ok (.iload_n 0, 1) := by decide +kernel
theorem d6_1 : decode jdk_33_method_47_code 1 = .ok (.ifCond .gt 14, 3) := by decide +kernel
theorem d6_4 : decode jdk_33_method_47_code 4 = .ok (.iload_n 0, 1) := by decide +kernel
theorem d6_5 : decode jdk_33_method_47_code 5 = .ok (.ifCond .ne 8, 3) := by decide +kernel
theorem d6_8 : decode jdk_33_method_47_code 8 = .ok (.bipush 32, 2) := by decide +kernel
theorem d6_10 : decode jdk_33_method_47_code 10 = .ok (.goto 4, 3) := by decide +kernel
theorem d6_13 : decode jdk_33_method_47_code 13 = .ok (.iconst 0, 1) := by decide +kernel
theorem d6_14 : decode jdk_33_method_47_code 14 = .ok (.ireturn, 1) := by decide +kernel
theorem d6_15 : decode jdk_33_method_47_code 15 = .ok (.bipush 31, 2) := by decide +kernel
theorem d6_17 : decode jdk_33_method_47_code 17 = .ok (.istore_n 1, 1) := by decide +kernel
theorem d6_18 : decode jdk_33_method_47_code 18 = .ok (.iload_n 0, 1) := by decide +kernel
theorem d6_19 : decode jdk_33_method_47_code 19 = .ok (.ldc_w 264, 3) := by decide +kernel
theorem d6_22 : decode jdk_33_method_47_code 22 = .ok (.if_icmp .lt 11, 3) := by decide +kernel
theorem d6_25 : decode jdk_33_method_47_code 25 = .ok (.iinc 1 (-16), 3) := by decide +kernel
theorem d6_28 : decode jdk_33_method_47_code 28 = .ok (.iload_n 0, 1) := by decide +kernel
theorem d6_29 : decode jdk_33_method_47_code 29 = .ok (.bipush 16, 2) := by decide +kernel
theorem d6_31 : decode jdk_33_method_47_code 31 = .ok (.iushr, 1) := by decide +kernel
theorem d6_32 : decode jdk_33_method_47_code 32 = .ok (.istore_n 0, 1) := by decide +kernel
theorem d6_33 : decode jdk_33_method_47_code 33 = .ok (.iload_n 0, 1) := by decide +kernel
theorem d6_34 : decode jdk_33_method_47_code 34 = .ok (.sipush 256, 3) := by decide +kernel
theorem d6_37 : decode jdk_33_method_47_code 37 = .ok (.if_icmp .lt 11, 3) := by decide +kernel
theorem d6_40 : decode jdk_33_method_47_code 40 = .ok (.iinc 1 (-8), 3) := by decide +kernel
theorem d6_43 : decode jdk_33_method_47_code 43 = .ok (.iload_n 0, 1) := by decide +kernel
theorem d6_44 : decode jdk_33_method_47_code 44 = .ok (.bipush 8, 2) := by decide +kernel
theorem d6_46 : decode jdk_33_method_47_code 46 = .ok (.iushr, 1) := by decide +kernel
theorem d6_47 : decode jdk_33_method_47_code 47 = .ok (.istore_n 0, 1) := by decide +kernel
theorem d6_48 : decode jdk_33_method_47_code 48 = .ok (.iload_n 0, 1) := by decide +kernel
theorem d6_49 : decode jdk_33_method_47_code 49 = .ok (.bipush 16, 2) := by decide +kernel
theorem d6_51 : decode jdk_33_method_47_code 51 = .ok (.if_icmp .lt 10, 3) := by decide +kernel
theorem d6_54 : decode jdk_33_method_47_code 54 = .ok (.iinc 1 (-4), 3) := by decide +kernel
theorem d6_57 : decode jdk_33_method_47_code 57 = .ok (.iload_n 0, 1) := by decide +kernel
theorem d6_58 : decode jdk_33_method_47_code 58 = .ok (.iconst 4, 1) := by decide +kernel
theorem d6_59 : decode jdk_33_method_47_code 59 = .ok (.iushr, 1) := by decide +kernel
theorem d6_60 : decode jdk_33_method_47_code 60 = .ok (.istore_n 0, 1) := by decide +kernel
theorem d6_61 : decode jdk_33_method_47_code 61 = .ok (.iload_n 0, 1) := by decide +kernel
theorem d6_62 : decode jdk_33_method_47_code 62 = .ok (.iconst 4, 1) := by decide +kernel
theorem d6_63 : decode jdk_33_method_47_code 63 = .ok (.if_icmp .lt 10, 3) := by decide +kernel
theorem d6_66 : decode jdk_33_method_47_code 66 = .ok (.iinc 1 (-2), 3) := by decide +kernel
theorem d6_69 : decode jdk_33_method_47_code 69 = .ok (.iload_n 0, 1) := by decide +kernel
theorem d6_70 : decode jdk_33_method_47_code 70 = .ok (.iconst 2, 1) := by decide +kernel
theorem d6_71 : decode jdk_33_method_47_code 71 = .ok (.iushr, 1) := by decide +kernel
theorem d6_72 : decode jdk_33_method_47_code 72 = .ok (.istore_n 0, 1) := by decide +kernel
theorem d6_73 : decode jdk_33_method_47_code 73 = .ok (.iload_n 1, 1) := by decide +kernel
theorem d6_74 : decode jdk_33_method_47_code 74 = .ok (.iload_n 0, 1) := by decide +kernel
theorem d6_75 : decode jdk_33_method_47_code 75 = .ok (.iconst 1, 1) := by decide +kernel
theorem d6_76 : decode jdk_33_method_47_code 76 = .ok (.iushr, 1) := by decide +kernel
theorem d6_77 : decode jdk_33_method_47_code 77 = .ok (.isub, 1) := by decide +kernel
theorem d6_78 : decode jdk_33_method_47_code 78 = .ok (.ireturn, 1) := by decide +kernel
theorem d7_0 : decode prog_109_method_7_code 0 = .ok (.new 1, 3) := by decide +kernel
theorem d7_3 : decode prog_109_method_7_code 3 = .ok (.dup, 1) := by decide +kernel
theorem d7_4 : decode prog_109_method_7_code 4 = .ok (.invokespecial 51, 3) := by decide +kernel
theorem d7_7 : decode prog_109_method_7_code 7 = .ok (.astore_n 2, 1) := by decide +kernel
theorem d7_8 : decode prog_109_method_7_code 8 = .ok (.aload_n 2, 1) := by decide +kernel
theorem d7_9 : decode prog_109_method_7_code 9 = .ok (.aload_n 0, 1) := by decide +kernel
theorem d7_10 : decode prog_109_method_7_code 10 = .ok (.getfield 9, 3) := by decide +kernel
theorem d7_13 : decode prog_109_method_7_code 13 = .ok (.arraylength, 1) := by decide +kernel
theorem d7_14 : decode prog_109_method_7_code 14 = .ok (.aload_n 0, 1) := by decide +kernel
theorem d7_15 : decode prog_109_method_7_code 15 = .ok (.getfield 23, 3) := by decide +kernel
theorem d7_18 : decode prog_109_method_7_code 18 = .ok (.i2l, 1) := by decide +kernel
theorem d7_19 : decode prog_109_method_7_code 19 = .ok (.iload_n 1, 1) := by decide +kernel
theorem d7_20 : decode prog_109_method_7_code 20 = .ok (.i2l, 1) := by decide +kernel
theorem d7_21 : decode prog_109_method_7_code 21 = .ok (.lmul, 1) := by decide +kernel
theorem d7_22 : decode prog_109_method_7_code 22 = .ok (.bipush 6, 2) := by decide +kernel
theorem d7_24 : decode prog_109_method_7_code 24 = .ok (.lushr, 1) := by decide +kernel
theorem d7_25 : decode prog_109_method_7_code 25 = .ok (.l2i, 1) := by decide +kernel
theorem d7_26 : decode prog_109_method_7_code 26 = .ok (.iconst 1, 1) := by decide +kernel
theorem d7_27 : decode prog_109_method_7_code 27 = .ok (.iadd, 1) := by decide +kernel
theorem d7_28 : decode prog_109_method_7_code 28 = .ok (.invokestatic 52, 3) := by decide +kernel
theorem d7_31 : decode prog_109_method_7_code 31 = .ok (.newarray .long, 2) := by decide +kernel
theorem d7_33 : decode prog_109_method_7_code 33 = .ok (.putfield 9, 3) := by decide +kernel
theorem d7_36 : decode prog_109_method_7_code 36 = .ok (.aload_n 2, 1) := by decide +kernel
theorem d7_37 : decode prog_109_method_7_code 37 = .ok (.iload_n 1, 1) := by decide +kernel
theorem d7_38 : decode prog_109_method_7_code 38 = .ok (.putfield 13, 3) := by decide +kernel
theorem d7_41 : decode prog_109_method_7_code 41 = .ok (.aload_n 2, 1) := by decide +kernel
theorem d7_42 : decode prog_109_method_7_code 42 = .ok (.lconst 1, 1) := by decide +kernel
theorem d7_43 : decode prog_109_method_7_code 43 = .ok (.iload_n 1, 1) := by decide +kernel
theorem d7_44 : decode prog_109_method_7_code 44 = .ok (.lshl, 1) := by decide +kernel
theorem d7_45 : decode prog_109_method_7_code 45 = .ok (.lconst 1, 1) := by decide +kernel
theorem d7_46 : decode prog_109_method_7_code 46 = .ok (.lsub, 1) := by decide +kernel
theorem d7_47 : decode prog_109_method_7_code 47 = .ok (.l2i, 1) := by decide +kernel
theorem d7_48 : decode prog_109_method_7_code 48 = .ok (.putfield 17, 3) := by decide +kernel
theorem d7_51 : decode prog_109_method_7_code 51 = .ok (.aload_n 2, 1) := by decide +kernel
theorem d7_52 : decode prog_109_method_7_code 52 = .ok (.aload_n 2, 1) := by decide +kernel
theorem d7_53 : decode prog_109_method_7_code 53 = .ok (.getfield 9, 3) := by decide +kernel
theorem d7_56 : decode prog_109_method_7_code 56 = .ok (.arraylength, 1) := by decide +kernel
theorem d7_57 : decode prog_109_method_7_code 57 = .ok (.bipush 64, 2) := by decide +kernel
theorem d7_59 : decode prog_109_method_7_code 59 = .ok (.imul, 1) := by decide +kernel
theorem d7_60 : decode prog_109_method_7_code 60 = .ok (.iload_n 1, 1) := by decide +kernel
theorem d7_61 : decode prog_109_method_7_code 61 = .ok (.idiv, 1) := by decide +kernel
theorem d7_62 : decode prog_109_method_7_code 62 = .ok (.putfield 20, 3) := by decide +kernel
theorem d7_65 : decode prog_109_method_7_code 65 = .ok (.iconst 0, 1) := by decide +kernel
theorem d7_66 : decode prog_109_method_7_code 66 = .ok (.istore_n 3, 1) := by decide +kernel
theorem d7_67 : decode prog_109_method_7_code 67 = .ok (.iload_n 3, 1) := by decide +kernel
theorem d7_68 : decode prog_109_method_7_code 68 = .ok (.aload_n 0, 1) := by decide +kernel
theorem d7_69 : decode prog_109_method_7_code 69 = .ok (.getfield 23, 3) := by decide +kernel
theorem d7_72 : decode prog_109_method_7_code 72 = .ok (.if_icmp .ge 18, 3) := by decide +kernel
theorem d7_75 : decode prog_109_method_7_code 75 = .ok (.aload_n 2, 1) := by decide +kernel
theorem d7_76 : decode prog_109_method_7_code 76 = .ok (.aload_n 0, 1) := by decide +kernel
theorem d7_77 : decode prog_109_method_7_code 77 = .ok (.iload_n 3, 1) := by decide +kernel
theorem d7_78 : decode prog_109_method_7_code 78 = .ok (.invokevirtual 58, 3) := by decide +kernel
theorem d7_81 : decode prog_109_method_7_code 81 = .ok (.invokevirtual 62, 3) := by decide +kernel
theorem d7_84 : decode prog_109_method_7_code 84 = .ok (.iinc 3 1, 3) := by decide +kernel
theorem d7_87 : decode prog_109_method_7_code 87 = .ok (.goto (-20), 3) := by decide +kernel
theorem d7_90 : decode prog_109_method_7_code 90 = .ok (.aload_n 0, 1) := by decide +kernel
theorem d7_91 : decode prog_109_method_7_code 91 = .ok (.aload_n 2, 1) := by decide +kernel
theorem d7_92 : decode prog_109_method_7_code 92 = .ok (.getfield 9, 3) := by decide +kernel
theorem d7_95 : decode prog_109_method_7_code 95 = .ok (.putfield 9, 3) := by decide +kernel
theorem d7_98 : decode prog_109_method_7_code 98 = .ok (.aload_n 0, 1) := by decide +kernel
theorem d7_99 : decode prog_109_method_7_code 99 = .ok (.iload_n 1, 1) := by decide +kernel
theorem d7_100 : decode prog_109_method_7_code 100 = .ok (.putfield 13, 3) := by decide +kernel
theorem d7_103 : decode prog_109_method_7_code 103 = .ok (.aload_n 0, 1) := by decide +kernel
theorem d7_104 : decode prog_109_method_7_code 104 = .ok (.aload_n 2, 1) := by decide +kernel
theorem d7_105 : decode prog_109_method_7_code 105 = .ok (.getfield 17, 3) := by decide +kernel
theorem d7_108 : decode prog_109_method_7_code 108 = .ok (.putfield 17, 3) := by decide +kernel
theorem d7_111 : decode prog_109_method_7_code 111 = .ok (.aload_n 0, 1) := by decide +kernel
theorem d7_112 : decode prog_109_method_7_code 112 = .ok (.aload_n 2, 1) := by decide +kernel
theorem d7_113 : decode prog_109_method_7_code 113 = .ok (.getfield 20, 3) := by decide +kernel
theorem d7_116 : decode prog_109_method_7_code 116 = .ok (.putfield 20, 3) := by decide +kernel
theorem d7_119 : decode prog_109_method_7_code 119 = .ok (.return_, 1) := by decide +kernel
theorem d8_0 : decode jdk_29_method_65_code 0 = .ok (.iload_n 0, 1) := by decide +kernel
theorem d8_1 : decode jdk_29_method_65_code 1 = .ok (.iload_n 1, 1) := by decide +kernel
theorem d8_2 : decode jdk_29_method_65_code 2 = .ok (.if_icmp .lt 7, 3) := by decide +kernel
theorem d8_5 : decode jdk_29_method_65_code 5 = .ok (.iload_n 0, 1) := by decide +kernel
theorem d8_6 : decode jdk_29_method_65_code 6 = .ok (.goto 4, 3) := by decide +kernel
theorem d8_9 : decode jdk_29_method_65_code 9 = .ok (.iload_n 1, 1) := by decide +kernel
theorem d8_10 : decode jdk_29_method_65_code 10 = .ok (.ireturn, 1) := by decide +kernel
theorem d9_0 : decode prog_109_method_4_code 0 = .ok (.iload_n 1, 1) := by decide +kernel
theorem d9_1 : decode prog_109_method_4_code 1 = .ok (.i2l, 1) := by decide +kernel
theorem d9_2 : decode prog_109_method_4_code 2 = .ok (.aload_n 0, 1) := by decide +kernel
theorem d9_3 : decode prog_109_method_4_code 3 = .ok (.getfield 13, 3) := by decide +kernel
theorem d9_6 : decode prog_109_method_4_code 6 = .ok (.i2l, 1) := by decide +kernel
theorem d9_7 : decode prog_109_method_4_code 7 = .ok (.lmul, 1) := by decide +kernel
theorem d9_8 : decode prog_109_method_4_code 8 = .ok (.lstore_n 2, 1) := by decide +kernel
theorem d9_9 : decode prog_109_method_4_code 9 = .ok (.lload_n 2, 1) := by decide +kernel
theorem d9_10 : decode prog_109_method_4_code 10 = .ok (.bipush 6, 2) := by decide +kernel
theorem d9_12 : decode prog_109_method_4_code 12 = .ok (.lushr, 1) := by decide +kernel
theorem d9_13 : decode prog_109_method_4_code 13 = .ok (.l2i, 1) := by decide +kernel
theorem d9_14 : decode prog_109_method_4_code 14 = .ok (.istore 4, 2) := by decide +kernel
theorem d9_16 : decode prog_109_method_4_code 16 = .ok (.lload_n 2, 1) := by decide +kernel
theorem d9_17 : decode prog_109_method_4_code 17 = .ok (.l2i, 1) := by decide +kernel
theorem d9_18 : decode prog_109_method_4_code 18 = .ok (.bipush 63, 2) := by decide +kernel
theorem d9_20 : decode prog_109_method_4_code 20 = .ok (.iand, 1) := by decide +kernel
theorem d9_21 : decode prog_109_method_4_code 21 = .ok (.istore 5, 2) := by decide +kernel
theorem d9_23 : decode prog_109_method_4_code 23 = .ok (.aload_n 0, 1) := by decide +kernel
theorem d9_24 : decode prog_109_method_4_code 24 = .ok (.getfield 9, 3) := by decide +kernel
theorem d9_27 : decode prog_109_method_4_code 27 = .ok (.iload 4, 2) := by decide +kernel
theorem d9_29 : decode prog_109_method_4_code 29 = .ok (.laload, 1) := by decide +kernel
theorem d9_30 : decode prog_109_method_4_code 30 = .ok (.iload 5, 2) := by decide +kernel
theorem d9_32 : decode prog_109_method_4_code 32 = .ok (.lushr, 1) := by decide +kernel
theorem d9_33 : decode prog_109_method_4_code 33 = .ok (.lstore 6, 2) := by decide +kernel
theorem d9_35 : decode prog_109_method_4_code 35 = .ok (.iload 5, 2) := by decide +kernel
theorem d9_37 : decode prog_109_method_4_code 37 = .ok (.aload_n 0, 1) := by decide +kernel
theorem d9_38 : decode prog_109_method_4_code 38 = .ok (.getfield 13, 3) := by decide +kernel
theorem d9_41 : decode prog_109_method_4_code 41 = .ok (.iadd, 1) := by decide +kernel
theorem d9_42 : decode prog_109_method_4_code 42 = .ok (.bipush 64, 2) := by decide +kernel
theorem d9_44 : decode prog_109_method_4_code 44 = .ok (.if_icmp .le 23, 3) := by decide +kernel
theorem d9_47 : decode prog_109_method_4_code 47 = .ok (.lload 6, 2) := by decide +kernel
theorem d9_49 : decode prog_109_method_4_code 49 = .ok (.aload_n 0, 1) := by decide +kernel
theorem d9_50 : decode prog_109_method_4_code 50 = .ok (.getfield 9, 3) := by decide +kernel
theorem d9_53 : decode prog_109_method_4_code 53 = .ok (.iload 4, 2) := by decide +kernel
theorem d9_55 : decode prog_109_method_4_code 55 = .ok (.iconst 1, 1) := by decide +kernel
theorem d9_56 : decode prog_109_method_4_code 56 = .ok (.iadd, 1) := by decide +kernel
theorem d9_57 : decode prog_109_method_4_code 57 = .ok (.laload, 1) := by decide +kernel
theorem d9_58 : decode prog_109_method_4_code 58 = .ok (.bipush 64, 2) := by decide +kernel
theorem d9_60 : decode prog_109_method_4_code 60 = .ok (.iload 5, 2) := by decide +kernel
theorem d9_62 : decode prog_109_method_4_code 62 = .ok (.isub, 1) := by decide +kernel
theorem d9_63 : decode prog_109_method_4_code 63 = .ok (.lshl, 1) := by decide +kernel
theorem d9_64 : decode prog_109_method_4_code 64 = .ok (.lor, 1) := by decide +kernel
theorem d9_65 : decode prog_109_method_4_code 65 = .ok (.lstore 6, 2) := by decide +kernel
theorem d9_67 : decode prog_109_method_4_code 67 = .ok (.lload 6, 2) := by decide +kernel
theorem d9_69 : decode prog_109_method_4_code 69 = .ok (.l2i, 1) := by decide +kernel
theorem d9_70 : decode prog_109_method_4_code 70 = .ok (.aload_n 0, 1) := by decide +kernel
theorem d9_71 : decode prog_109_method_4_code 71 = .ok (.getfield 17, 3) := by decide +kernel
theorem d9_74 : decode prog_109_method_4_code 74 = .ok (.iand, 1) := by decide +kernel
theorem d9_75 : decode prog_109_method_4_code 75 = .ok (.ireturn, 1) := by decide +kernel
theorem d10_0 : decode prog_109_method_2_code 0 = .ok (.aload_n 0, 1) := by decide +kernel
theorem d10_1 : decode prog_109_method_2_code 1 = .ok (.getfield 23, 3) := by decide +kernel
theorem d10_4 : decode prog_109_method_2_code 4 = .ok (.ireturn, 1) := by decide +kernel
theorem d11_0 : decode jdk_65_method_124_code 0 = .ok (.iload_n 1, 1) := by decide +kernel
theorem d11_1 : decode jdk_65_method_124_code 1 = .ok (.aload_n 0, 1) := by decide +kernel
theorem d11_2 : decode jdk_65_method_124_code 2 = .ok (.arraylength, 1) := by decide +kernel
theorem d11_3 : decode jdk_65_method_124_code 3 = .ok (.if_icmp .ne 11, 3) := by decide +kernel
theorem d11_14 : decode jdk_65_method_124_code 14 = .ok (.iload_n 1, 1) := by decide +kernel
theorem d11_15 : decode jdk_65_method_124_code 15 = .ok (.newarray .long, 2) := by decide +kernel
theorem d11_17 : decode jdk_65_method_124_code 17 = .ok (.astore_n 2, 1) := by decide +kernel
theorem d11_18 : decode jdk_65_method_124_code 18 = .ok (.aload_n 0, 1) := by decide +kernel
theorem d11_19 : decode jdk_65_method_124_code 19 = .ok (.iconst 0, 1) := by decide +kernel
theorem d11_20 : decode jdk_65_method_124_code 20 = .ok (.aload_n 2, 1) := by decide +kernel
theorem d11_21 : decode jdk_65_method_124_code 21 = .ok (.iconst 0, 1) := by decide +kernel
theorem d11_22 : decode jdk_65_method_124_code 22 = .ok (.aload_n 0, 1) := by decide +kernel
theorem d11_23 : decode jdk_65_method_124_code 23 = .ok (.arraylength, 1) := by decide +kernel
theorem d11_24 : decode jdk_65_method_124_code 24 = .ok (.iload_n 1, 1) := by decide +kernel
theorem d11_25 : decode jdk_65_method_124_code 25 = .ok (.invokestatic 304, 3) := by decide +kernel
theorem d11_28 : decode jdk_65_method_124_code 28 = .ok (.invokestatic 150, 3) := by decide +kernel
theorem d11_31 : decode jdk_65_method_124_code 31 = .ok (.aload_n 2, 1) := by decide +kernel
theorem d11_32 : decode jdk_65_method_124_code 32 = .ok (.areturn, 1) := by decide +kernel
theorem d12_0 : decode jdk_29_method_69_code 0 = .ok (.iload_n 0, 1) := by decide +kernel
theorem d12_1 : decode jdk_29_method_69_code 1 = .ok (.iload_n 1, 1) := by decide +kernel
theorem d12_2 : decode jdk_29_method_69_code 2 = .ok (.if_icmp .gt 7, 3) := by decide +kernel
theorem d12_5 : decode jdk_29_method_69_code 5 = .ok (.iload_n 0, 1) := by decide +kernel
theorem d12_6 : decode jdk_29_method_69_code 6 = .ok (.goto 4, 3) := by decide +kernel
theorem d12_9 : decode jdk_29_method_69_code 9 = .ok (.iload_n 1, 1) := by decide +kernel
theorem d12_10 : decode jdk_29_method_69_code 10 = .ok (.ireturn, 1) := by decide +kernel
theorem pd0 : parseMethodDescriptor "(I)I" = some ⟨[.int], some .int⟩ := by decide +kernel
theorem pd1 : parseMethodDescriptor "(J)I" = some ⟨[.long], some .int⟩ := by decide +kernel
theorem pd2 : parseMethodDescriptor "(II)I" = some ⟨[.int, .int], some .int⟩ := by decide +kernel
theorem pd3 : parseMethodDescriptor "([JI)[J" = some ⟨[(.array .long), .int], some (.array .long)⟩ := by decide +kernel
theorem pd4 : parseMethodDescriptor "()V" = some ⟨[], none⟩ := by decide +kernel
theorem pd5 : parseMethodDescriptor "(I)V" = some ⟨[.int], none⟩ := by decide +kernel
theorem pd6 : parseMethodDescriptor "()I" = some ⟨[], some .int⟩ := by decide +kernel
def Pk (Z : State) (h : Heap) (a : Addr) (v0 v1 v2 v3 v4 : Value) : Prop := Exa Z h a "com/example/varve/varve/parquet/PackedNumbers" ∧ Fld Z h a "com/example/varve/varve/parquet/PackedNumbers" "words" "[J" v0 ∧ Fld Z h a "com/example/varve/varve/parquet/PackedNumbers" "width" "I" v1 ∧ Fld Z h a "com/example/varve/varve/parquet/PackedNumbers" "greatest" "I" v2 ∧ Fld Z h a "com/example/varve/varve/parquet/PackedNumbers" "room" "I" v3 ∧ Fld Z h a "com/example/varve/varve/parquet/PackedNumbers" "count" "I" v4
theorem Pk.exa {Z : State} {h : Heap} {a : Addr} {v0 v1 v2 v3 v4 : Value} (O : Pk Z h a v0 v1 v2 v3 v4) : Exa Z h a "com/example/varve/varve/parquet/PackedNumbers" := O.1
theorem Pk.lt {Z : State} {h : Heap} {a : Addr} {v0 v1 v2 v3 v4 : Value} (O : Pk Z h a v0 v1 v2 v3 v4) : a < h.size := O.1.lt
theorem Pk.ext {Z : State} {h h' : Heap} {a : Addr} {v0 v1 v2 v3 v4 : Value} (O : Pk Z h a v0 v1 v2 v3 v4) (X : Ext h h') : Pk Z h' a v0 v1 v2 v3 v4 := by
  obtain ⟨E, F0, F1, F2, F3, F4⟩ := O; exact ⟨E.ext X, F0.ext X, F1.ext X, F2.ext X, F3.ext X, F4.ext X⟩
theorem Pk.keep {Z : State} {h h' : Heap} {a : Addr} {ws : List Addr} {v0 v1 v2 v3 v4 : Value} (O : Pk Z h a v0 v1 v2 v3 v4) (K : Keep h h' ws) (q : a ∉ ws) : Pk Z h' a v0 v1 v2 v3 v4 := by
  obtain ⟨E, F0, F1, F2, F3, F4⟩ := O; exact ⟨E.keep K, F0.keep K q, F1.keep K q, F2.keep K q, F3.keep K q, F4.keep K q⟩
theorem Pk.get_words {Z : State} {h : Heap} {a : Addr} {v0 v1 v2 v3 v4 : Value} (O : Pk Z h a v0 v1 v2 v3 v4) : Fld Z h a "com/example/varve/varve/parquet/PackedNumbers" "words" "[J" v0 := by
  obtain ⟨E, F0, F1, F2, F3, F4⟩ := O; exact F0
theorem Pk.put_words {a0 : Array Value} {Z : State} (hw : ∀ d ∈ tables_1, d.before a0 Z = true) {h h' : Heap} {a : Addr} {v0 v1 v2 v3 v4 w : Value} (O : Pk Z h a v0 v1 v2 v3 v4) (W : Wr h h' a (Jvm.RoadKit.slotOf Z "com/example/varve/varve/parquet/PackedNumbers" "words" "[J") w) : Pk Z h' a w v1 v2 v3 v4 := by
  obtain ⟨E, F0, F1, F2, F3, F4⟩ := O; exact ⟨E.wr W, F0.same W, F1.other W (Or.inr (slot_ne (Or.inl (tw14 hw)) (Or.inl (tw12 hw)) (by decide) (t := .int) (t' := (.array .long)) (by decide) (by decide))), F2.other W (Or.inr (slot_ne (Or.inl (tw16 hw)) (Or.inl (tw12 hw)) (by decide) (t := .int) (t' := (.array .long)) (by decide) (by decide))), F3.other W (Or.inr (slot_ne (Or.inl (tw18 hw)) (Or.inl (tw12 hw)) (by decide) (t := .int) (t' := (.array .long)) (by decide) (by decide))), F4.other W (Or.inr (slot_ne (Or.inl (tw25 hw)) (Or.inl (tw12 hw)) (by decide) (t := .int) (t' := (.array .long)) (by decide) (by decide)))⟩
theorem Pk.get_width {Z : State} {h : Heap} {a : Addr} {v0 v1 v2 v3 v4 : Value} (O : Pk Z h a v0 v1 v2 v3 v4) : Fld Z h a "com/example/varve/varve/parquet/PackedNumbers" "width" "I" v1 := by
  obtain ⟨E, F0, F1, F2, F3, F4⟩ := O; exact F1
theorem Pk.put_width {a0 : Array Value} {Z : State} (hw : ∀ d ∈ tables_1, d.before a0 Z = true) {h h' : Heap} {a : Addr} {v0 v1 v2 v3 v4 w : Value} (O : Pk Z h a v0 v1 v2 v3 v4) (W : Wr h h' a (Jvm.RoadKit.slotOf Z "com/example/varve/varve/parquet/PackedNumbers" "width" "I") w) : Pk Z h' a v0 w v2 v3 v4 := by
  obtain ⟨E, F0, F1, F2, F3, F4⟩ := O; exact ⟨E.wr W, F0.other W (Or.inr (slot_ne (Or.inl (tw12 hw)) (Or.inl (tw14 hw)) (by decide) (t := (.array .long)) (t' := .int) (by decide) (by decide))), F1.same W, F2.other W (Or.inr (slot_ne (Or.inl (tw16 hw)) (Or.inl (tw14 hw)) (by decide) (t := .int) (t' := .int) (by decide) (by decide))), F3.other W (Or.inr (slot_ne (Or.inl (tw18 hw)) (Or.inl (tw14 hw)) (by decide) (t := .int) (t' := .int) (by decide) (by decide))), F4.other W (Or.inr (slot_ne (Or.inl (tw25 hw)) (Or.inl (tw14 hw)) (by decide) (t := .int) (t' := .int) (by decide) (by decide)))⟩
theorem Pk.get_greatest {Z : State} {h : Heap} {a : Addr} {v0 v1 v2 v3 v4 : Value} (O : Pk Z h a v0 v1 v2 v3 v4) : Fld Z h a "com/example/varve/varve/parquet/PackedNumbers" "greatest" "I" v2 := by
  obtain ⟨E, F0, F1, F2, F3, F4⟩ := O; exact F2
theorem Pk.put_greatest {a0 : Array Value} {Z : State} (hw : ∀ d ∈ tables_1, d.before a0 Z = true) {h h' : Heap} {a : Addr} {v0 v1 v2 v3 v4 w : Value} (O : Pk Z h a v0 v1 v2 v3 v4) (W : Wr h h' a (Jvm.RoadKit.slotOf Z "com/example/varve/varve/parquet/PackedNumbers" "greatest" "I") w) : Pk Z h' a v0 v1 w v3 v4 := by
  obtain ⟨E, F0, F1, F2, F3, F4⟩ := O; exact ⟨E.wr W, F0.other W (Or.inr (slot_ne (Or.inl (tw12 hw)) (Or.inl (tw16 hw)) (by decide) (t := (.array .long)) (t' := .int) (by decide) (by decide))), F1.other W (Or.inr (slot_ne (Or.inl (tw14 hw)) (Or.inl (tw16 hw)) (by decide) (t := .int) (t' := .int) (by decide) (by decide))), F2.same W, F3.other W (Or.inr (slot_ne (Or.inl (tw18 hw)) (Or.inl (tw16 hw)) (by decide) (t := .int) (t' := .int) (by decide) (by decide))), F4.other W (Or.inr (slot_ne (Or.inl (tw25 hw)) (Or.inl (tw16 hw)) (by decide) (t := .int) (t' := .int) (by decide) (by decide)))⟩
theorem Pk.get_room {Z : State} {h : Heap} {a : Addr} {v0 v1 v2 v3 v4 : Value} (O : Pk Z h a v0 v1 v2 v3 v4) : Fld Z h a "com/example/varve/varve/parquet/PackedNumbers" "room" "I" v3 := by
  obtain ⟨E, F0, F1, F2, F3, F4⟩ := O; exact F3
theorem Pk.put_room {a0 : Array Value} {Z : State} (hw : ∀ d ∈ tables_1, d.before a0 Z = true) {h h' : Heap} {a : Addr} {v0 v1 v2 v3 v4 w : Value} (O : Pk Z h a v0 v1 v2 v3 v4) (W : Wr h h' a (Jvm.RoadKit.slotOf Z "com/example/varve/varve/parquet/PackedNumbers" "room" "I") w) : Pk Z h' a v0 v1 v2 w v4 := by
  obtain ⟨E, F0, F1, F2, F3, F4⟩ := O; exact ⟨E.wr W, F0.other W (Or.inr (slot_ne (Or.inl (tw12 hw)) (Or.inl (tw18 hw)) (by decide) (t := (.array .long)) (t' := .int) (by decide) (by decide))), F1.other W (Or.inr (slot_ne (Or.inl (tw14 hw)) (Or.inl (tw18 hw)) (by decide) (t := .int) (t' := .int) (by decide) (by decide))), F2.other W (Or.inr (slot_ne (Or.inl (tw16 hw)) (Or.inl (tw18 hw)) (by decide) (t := .int) (t' := .int) (by decide) (by decide))), F3.same W, F4.other W (Or.inr (slot_ne (Or.inl (tw25 hw)) (Or.inl (tw18 hw)) (by decide) (t := .int) (t' := .int) (by decide) (by decide)))⟩
theorem Pk.get_count {Z : State} {h : Heap} {a : Addr} {v0 v1 v2 v3 v4 : Value} (O : Pk Z h a v0 v1 v2 v3 v4) : Fld Z h a "com/example/varve/varve/parquet/PackedNumbers" "count" "I" v4 := by
  obtain ⟨E, F0, F1, F2, F3, F4⟩ := O; exact F4
theorem Pk.put_count {a0 : Array Value} {Z : State} (hw : ∀ d ∈ tables_1, d.before a0 Z = true) {h h' : Heap} {a : Addr} {v0 v1 v2 v3 v4 w : Value} (O : Pk Z h a v0 v1 v2 v3 v4) (W : Wr h h' a (Jvm.RoadKit.slotOf Z "com/example/varve/varve/parquet/PackedNumbers" "count" "I") w) : Pk Z h' a v0 v1 v2 v3 w := by
  obtain ⟨E, F0, F1, F2, F3, F4⟩ := O; exact ⟨E.wr W, F0.other W (Or.inr (slot_ne (Or.inl (tw12 hw)) (Or.inl (tw25 hw)) (by decide) (t := (.array .long)) (t' := .int) (by decide) (by decide))), F1.other W (Or.inr (slot_ne (Or.inl (tw14 hw)) (Or.inl (tw25 hw)) (by decide) (t := .int) (t' := .int) (by decide) (by decide))), F2.other W (Or.inr (slot_ne (Or.inl (tw16 hw)) (Or.inl (tw25 hw)) (by decide) (t := .int) (t' := .int) (by decide) (by decide))), F3.other W (Or.inr (slot_ne (Or.inl (tw18 hw)) (Or.inl (tw25 hw)) (by decide) (t := .int) (t' := .int) (by decide) (by decide))), F4.same W⟩
def fMax (u : Int32) (v : Int32) : Int32 :=
  if u < v then
    v
  else
    u
set_option maxRecDepth 65536 in
set_option maxHeartbeats 4000000 in
theorem ct_fMax (l : Launch) (Z : State) (a0 : Array Value) (hw : ∀ d ∈ tables_1, d.before a0 Z = true) (u : Int32) (v : Int32) (h0 : Heap) (n0 : Nat) (Z0 : n0 ≤ h0.size) :
    Ct l Z (⟨"java/lang/Math", "max", "(II)I"⟩ : MethodName) jdk_29_method_65_code 2 (some .int) ({ frames := 0, cells := 0, slots := 0, locals := 0 } : Room) #[(.int u), (.int v)] h0 n0 (fun r_ h_ => r_ = some (.int (fMax u v)) ∧ h_ = h0) := by
  refine Ct.intro (Jvm.Free.JP.mathPlain rfl (by decide +kernel)) Z0 ?_
  intro p e s m below meth c T X
  refine WP.cast (g' := (mkF m 0 #[.val (.int u), .val (.int v)] [])) (by first | (simp [entryFrame, mkF, argsToLocals, Value.category]; done) | rfl) ?_
  refine w_iloadN X d8_0 rfl (pc' := 1) rfl ?_
  refine w_iloadN X d8_1 rfl (pc' := 2) rfl ?_
  refine w_icmp_lt X d8_2 (by decide) (p1 := 9) (by decide) (p2 := 5) rfl (fun c2 => ?_) (fun c2 => ?_)
  · -- c2 taken
    refine w_iloadN X d8_9 rfl (pc' := 10) rfl ?_
    exact w_retI X rfl d8_10 (by decide) (by decide) ⟨by rw [fMax, if_pos c2], rfl⟩
  · -- c2 not taken
    refine w_iloadN X d8_5 rfl (pc' := 6) rfl ?_
    refine w_goto X d8_6 (by decide) (pc' := 10) (by decide) ?_
    exact w_retI X rfl d8_10 (by decide) (by decide) ⟨by rw [fMax, if_neg c2], rfl⟩
def fMin (u : Int32) (v : Int32) : Int32 :=
  if v < u then
    v
  else
    u
set_option maxRecDepth 65536 in
set_option maxHeartbeats 4000000 in
theorem ct_fMin (l : Launch) (Z : State) (a0 : Array Value) (hw : ∀ d ∈ tables_1, d.before a0 Z = true) (u : Int32) (v : Int32) (h0 : Heap) (n0 : Nat) (Z0 : n0 ≤ h0.size) :
    Ct l Z (⟨"java/lang/Math", "min", "(II)I"⟩ : MethodName) jdk_29_method_69_code 2 (some .int) ({ frames := 0, cells := 0, slots := 0, locals := 0 } : Room) #[(.int u), (.int v)] h0 n0 (fun r_ h_ => r_ = some (.int (fMin u v)) ∧ h_ = h0) := by
  refine Ct.intro (Jvm.Free.JP.mathPlain rfl (by decide +kernel)) Z0 ?_
  intro p e s m below meth c T X
  refine WP.cast (g' := (mkF m 0 #[.val (.int u), .val (.int v)] [])) (by first | (simp [entryFrame, mkF, argsToLocals, Value.category]; done) | rfl) ?_
  refine w_iloadN X d12_0 rfl (pc' := 1) rfl ?_
  refine w_iloadN X d12_1 rfl (pc' := 2) rfl ?_
  refine w_icmp_gt X d12_2 (by decide) (p1 := 9) (by decide) (p2 := 5) rfl (fun c2 => ?_) (fun c2 => ?_)
  · -- c2 taken
    refine w_iloadN X d12_9 rfl (pc' := 10) rfl ?_
    exact w_retI X rfl d12_10 (by decide) (by decide) ⟨by rw [fMin, if_pos c2], rfl⟩
  · -- c2 not taken
    refine w_iloadN X d12_5 rfl (pc' := 6) rfl ?_
    refine w_goto X d12_6 (by decide) (pc' := 10) (by decide) ?_
    exact w_retI X rfl d12_10 (by decide) (by decide) ⟨by rw [fMin, if_neg c2], rfl⟩
def fNlz (v : Int32) : Int32 :=
  if (0 : Int32) < v then
    if v < (65536 : Int32) then
      if v < (256 : Int32) then
        if v < (16 : Int32) then
          if v < (4 : Int32) then
            ((31 : Int32) - ((v).toUInt32 >>> ((1 : Int32) &&& 31).toUInt32).toInt32)
          else
            ((29 : Int32) - ((((v).toUInt32 >>> ((2 : Int32) &&& 31).toUInt32).toInt32).toUInt32 >>> ((1 : Int32) &&& 31).toUInt32).toInt32)
        else
          if ((v).toUInt32 >>> ((4 : Int32) &&& 31).toUInt32).toInt32 < (4 : Int32) then
            ((27 : Int32) - ((((v).toUInt32 >>> ((4 : Int32) &&& 31).toUInt32).toInt32).toUInt32 >>> ((1 : Int32) &&& 31).toUInt32).toInt32)
          else
            ((25 : Int32) - ((((((v).toUInt32 >>> ((4 : Int32) &&& 31).toUInt32).toInt32).toUInt32 >>> ((2 : Int32) &&& 31).toUInt32).toInt32).toUInt32 >>> ((1 : Int32) &&& 31).toUInt32).toInt32)
      else
        if ((v).toUInt32 >>> ((8 : Int32) &&& 31).toUInt32).toInt32 < (16 : Int32) then
          if ((v).toUInt32 >>> ((8 : Int32) &&& 31).toUInt32).toInt32 < (4 : Int32) then
            ((23 : Int32) - ((((v).toUInt32 >>> ((8 : Int32) &&& 31).toUInt32).toInt32).toUInt32 >>> ((1 : Int32) &&& 31).toUInt32).toInt32)
          else
            ((21 : Int32) - ((((((v).toUInt32 >>> ((8 : Int32) &&& 31).toUInt32).toInt32).toUInt32 >>> ((2 : Int32) &&& 31).toUInt32).toInt32).toUInt32 >>> ((1 : Int32) &&& 31).toUInt32).toInt32)
        else
          if ((((v).toUInt32 >>> ((8 : Int32) &&& 31).toUInt32).toInt32).toUInt32 >>> ((4 : Int32) &&& 31).toUInt32).toInt32 < (4 : Int32) then
            ((19 : Int32) - ((((((v).toUInt32 >>> ((8 : Int32) &&& 31).toUInt32).toInt32).toUInt32 >>> ((4 : Int32) &&& 31).toUInt32).toInt32).toUInt32 >>> ((1 : Int32) &&& 31).toUInt32).toInt32)
          else
            ((17 : Int32) - ((((((((v).toUInt32 >>> ((8 : Int32) &&& 31).toUInt32).toInt32).toUInt32 >>> ((4 : Int32) &&& 31).toUInt32).toInt32).toUInt32 >>> ((2 : Int32) &&& 31).toUInt32).toInt32).toUInt32 >>> ((1 : Int32) &&& 31).toUInt32).toInt32)
    else
      if ((v).toUInt32 >>> ((16 : Int32) &&& 31).toUInt32).toInt32 < (256 : Int32) then
        if ((v).toUInt32 >>> ((16 : Int32) &&& 31).toUInt32).toInt32 < (16 : Int32) then
          if ((v).toUInt32 >>> ((16 : Int32) &&& 31).toUInt32).toInt32 < (4 : Int32) then
            ((15 : Int32) - ((((v).toUInt32 >>> ((16 : Int32) &&& 31).toUInt32).toInt32).toUInt32 >>> ((1 : Int32) &&& 31).toUInt32).toInt32)
          else
            ((13 : Int32) - ((((((v).toUInt32 >>> ((16 : Int32) &&& 31).toUInt32).toInt32).toUInt32 >>> ((2 : Int32) &&& 31).toUInt32).toInt32).toUInt32 >>> ((1 : Int32) &&& 31).toUInt32).toInt32)
        else
          if ((((v).toUInt32 >>> ((16 : Int32) &&& 31).toUInt32).toInt32).toUInt32 >>> ((4 : Int32) &&& 31).toUInt32).toInt32 < (4 : Int32) then
            ((11 : Int32) - ((((((v).toUInt32 >>> ((16 : Int32) &&& 31).toUInt32).toInt32).toUInt32 >>> ((4 : Int32) &&& 31).toUInt32).toInt32).toUInt32 >>> ((1 : Int32) &&& 31).toUInt32).toInt32)
          else
            ((9 : Int32) - ((((((((v).toUInt32 >>> ((16 : Int32) &&& 31).toUInt32).toInt32).toUInt32 >>> ((4 : Int32) &&& 31).toUInt32).toInt32).toUInt32 >>> ((2 : Int32) &&& 31).toUInt32).toInt32).toUInt32 >>> ((1 : Int32) &&& 31).toUInt32).toInt32)
      else
        if ((((v).toUInt32 >>> ((16 : Int32) &&& 31).toUInt32).toInt32).toUInt32 >>> ((8 : Int32) &&& 31).toUInt32).toInt32 < (16 : Int32) then
          if ((((v).toUInt32 >>> ((16 : Int32) &&& 31).toUInt32).toInt32).toUInt32 >>> ((8 : Int32) &&& 31).toUInt32).toInt32 < (4 : Int32) then
            ((7 : Int32) - ((((((v).toUInt32 >>> ((16 : Int32) &&& 31).toUInt32).toInt32).toUInt32 >>> ((8 : Int32) &&& 31).toUInt32).toInt32).toUInt32 >>> ((1 : Int32) &&& 31).toUInt32).toInt32)
          else
            ((5 : Int32) - ((((((((v).toUInt32 >>> ((16 : Int32) &&& 31).toUInt32).toInt32).toUInt32 >>> ((8 : Int32) &&& 31).toUInt32).toInt32).toUInt32 >>> ((2 : Int32) &&& 31).toUInt32).toInt32).toUInt32 >>> ((1 : Int32) &&& 31).toUInt32).toInt32)
        else
          if ((((((v).toUInt32 >>> ((16 : Int32) &&& 31).toUInt32).toInt32).toUInt32 >>> ((8 : Int32) &&& 31).toUInt32).toInt32).toUInt32 >>> ((4 : Int32) &&& 31).toUInt32).toInt32 < (4 : Int32) then
            ((3 : Int32) - ((((((((v).toUInt32 >>> ((16 : Int32) &&& 31).toUInt32).toInt32).toUInt32 >>> ((8 : Int32) &&& 31).toUInt32).toInt32).toUInt32 >>> ((4 : Int32) &&& 31).toUInt32).toInt32).toUInt32 >>> ((1 : Int32) &&& 31).toUInt32).toInt32)
          else
            ((1 : Int32) - ((((((((((v).toUInt32 >>> ((16 : Int32) &&& 31).toUInt32).toInt32).toUInt32 >>> ((8 : Int32) &&& 31).toUInt32).toInt32).toUInt32 >>> ((4 : Int32) &&& 31).toUInt32).toInt32).toUInt32 >>> ((2 : Int32) &&& 31).toUInt32).toInt32).toUInt32 >>> ((1 : Int32) &&& 31).toUInt32).toInt32)
  else
    if v = (0 : Int32) then
      (32 : Int32)
    else
      (0 : Int32)
set_option maxRecDepth 65536 in
set_option maxHeartbeats 4000000 in
theorem ct_fNlz (l : Launch) (Z : State) (a0 : Array Value) (hw : ∀ d ∈ tables_1, d.before a0 Z = true) (v : Int32) (h0 : Heap) (n0 : Nat) (Z0 : n0 ≤ h0.size) :
    Ct l Z (⟨"java/lang/Integer", "numberOfLeadingZeros", "(I)I"⟩ : MethodName) jdk_33_method_47_code 2 (some .int) ({ frames := 0, cells := 0, slots := 0, locals := 0 } : Room) #[(.int v)] h0 n0 (fun r_ h_ => r_ = some (.int (fNlz v)) ∧ h_ = h0) := by
  refine Ct.intro (plainFor_of_name (by first | (simp [plainName, overriddenIn]; done) | decide +kernel)) Z0 ?_
  intro p e s m below meth c T X
  refine WP.cast (g' := (mkF m 0 #[.val (.int v), .unset] [])) (by first | (simp [entryFrame, mkF, argsToLocals, Value.category]; done) | rfl) ?_
  refine w_iloadN X d6_0 rfl (pc' := 1) rfl ?_
  refine w_if_gt X d6_1 (by decide) (p1 := 15) (by decide) (p2 := 4) rfl (fun c1 => ?_) (fun c1 => ?_)
  · -- c1 taken
    refine w_bipush X d6_15 (v := (31 : Int32)) (by decide) (pc' := 17) rfl ?_
    refine w_istoreN X d6_17 (L' := #[.val (.int v), .val (.int (31 : Int32))]) rfl (pc' := 18) rfl ?_
    refine w_iloadN X d6_18 rfl (pc' := 19) rfl ?_
    refine w_ldcWI X d6_19 (tw38 hw) (pc' := 22) rfl ?_
    refine w_icmp_lt X d6_22 (by decide) (p1 := 33) (by decide) (p2 := 25) rfl (fun c22 => ?_) (fun c22 => ?_)
    · -- c22 taken
      refine w_iloadN X d6_33 rfl (pc' := 34) rfl ?_
      refine w_sipush X d6_34 (v := (256 : Int32)) (by decide) (pc' := 37) rfl ?_
      refine w_icmp_lt X d6_37 (by decide) (p1 := 48) (by decide) (p2 := 40) rfl (fun c37 => ?_) (fun c37 => ?_)
      · -- c37 taken
        refine w_iloadN X d6_48 rfl (pc' := 49) rfl ?_
        refine w_bipush X d6_49 (v := (16 : Int32)) (by decide) (pc' := 51) rfl ?_
        refine w_icmp_lt X d6_51 (by decide) (p1 := 61) (by decide) (p2 := 54) rfl (fun c51 => ?_) (fun c51 => ?_)
        · -- c51 taken
          refine w_iloadN X d6_61 rfl (pc' := 62) rfl ?_
          refine w_iconst X d6_62 (v := (4 : Int32)) (by decide) (pc' := 63) rfl ?_
          refine w_icmp_lt X d6_63 (by decide) (p1 := 73) (by decide) (p2 := 66) rfl (fun c63 => ?_) (fun c63 => ?_)
          · -- c63 taken
            refine w_iloadN X d6_73 rfl (pc' := 74) rfl ?_
            refine w_iloadN X d6_74 rfl (pc' := 75) rfl ?_
            refine w_iconst X d6_75 (v := (1 : Int32)) (by decide) (pc' := 76) rfl ?_
            refine w_iushr X d6_76 (pc' := 77) rfl ?_
            refine w_isub X d6_77 (pc' := 78) rfl ?_
            exact w_retI X rfl d6_78 (by decide) (by decide) ⟨by rw [fNlz, if_pos c1, if_pos c22, if_pos c37, if_pos c51, if_pos c63], rfl⟩
          · -- c63 not taken
            refine w_iinc X d6_66 rfl (v' := (29 : Int32)) (by first | rfl | decide) (L' := #[.val (.int v), .val (.int (29 : Int32))]) rfl (pc' := 69) rfl ?_
            refine w_iloadN X d6_69 rfl (pc' := 70) rfl ?_
            refine w_iconst X d6_70 (v := (2 : Int32)) (by decide) (pc' := 71) rfl ?_
            refine w_iushr X d6_71 (pc' := 72) rfl ?_
            refine w_istoreN X d6_72 (L' := #[.val (.int ((v).toUInt32 >>> ((2 : Int32) &&& 31).toUInt32).toInt32), .val (.int (29 : Int32))]) rfl (pc' := 73) rfl ?_
            refine w_iloadN X d6_73 rfl (pc' := 74) rfl ?_
            refine w_iloadN X d6_74 rfl (pc' := 75) rfl ?_
            refine w_iconst X d6_75 (v := (1 : Int32)) (by decide) (pc' := 76) rfl ?_
            refine w_iushr X d6_76 (pc' := 77) rfl ?_
            refine w_isub X d6_77 (pc' := 78) rfl ?_
            exact w_retI X rfl d6_78 (by decide) (by decide) ⟨by rw [fNlz, if_pos c1, if_pos c22, if_pos c37, if_pos c51, if_neg c63], rfl⟩
        · -- c51 not taken
          refine w_iinc X d6_54 rfl (v' := (27 : Int32)) (by first | rfl | decide) (L' := #[.val (.int v), .val (.int (27 : Int32))]) rfl (pc' := 57) rfl ?_
          refine w_iloadN X d6_57 rfl (pc' := 58) rfl ?_
          refine w_iconst X d6_58 (v := (4 : Int32)) (by decide) (pc' := 59) rfl ?_
          refine w_iushr X d6_59 (pc' := 60) rfl ?_
          refine w_istoreN X d6_60 (L' := #[.val (.int ((v).toUInt32 >>> ((4 : Int32) &&& 31).toUInt32).toInt32), .val (.int (27 : Int32))]) rfl (pc' := 61) rfl ?_
          refine w_iloadN X d6_61 rfl (pc' := 62) rfl ?_
          refine w_iconst X d6_62 (v := (4 : Int32)) (by decide) (pc' := 63) rfl ?_
          refine w_icmp_lt X d6_63 (by decide) (p1 := 73) (by decide) (p2 := 66) rfl (fun c63 => ?_) (fun c63 => ?_)
          · -- c63 taken
            refine w_iloadN X d6_73 rfl (pc' := 74) rfl ?_
            refine w_iloadN X d6_74 rfl (pc' := 75) rfl ?_
            refine w_iconst X d6_75 (v := (1 : Int32)) (by decide) (pc' := 76) rfl ?_
            refine w_iushr X d6_76 (pc' := 77) rfl ?_
            refine w_isub X d6_77 (pc' := 78) rfl ?_
            exact w_retI X rfl d6_78 (by decide) (by decide) ⟨by rw [fNlz, if_pos c1, if_pos c22, if_pos c37, if_neg c51, if_pos c63], rfl⟩
          · -- c63 not taken
            refine w_iinc X d6_66 rfl (v' := (25 : Int32)) (by first | rfl | decide) (L' := #[.val (.int ((v).toUInt32 >>> ((4 : Int32) &&& 31).toUInt32).toInt32), .val (.int (25 : Int32))]) rfl (pc' := 69) rfl ?_
            refine w_iloadN X d6_69 rfl (pc' := 70) rfl ?_
            refine w_iconst X d6_70 (v := (2 : Int32)) (by decide) (pc' := 71) rfl ?_
            refine w_iushr X d6_71 (pc' := 72) rfl ?_
            refine w_istoreN X d6_72 (L' := #[.val (.int ((((v).toUInt32 >>> ((4 : Int32) &&& 31).toUInt32).toInt32).toUInt32 >>> ((2 : Int32) &&& 31).toUInt32).toInt32), .val (.int (25 : Int32))]) rfl (pc' := 73) rfl ?_
            refine w_iloadN X d6_73 rfl (pc' := 74) rfl ?_
            refine w_iloadN X d6_74 rfl (pc' := 75) rfl ?_
            refine w_iconst X d6_75 (v := (1 : Int32)) (by decide) (pc' := 76) rfl ?_
            refine w_iushr X d6_76 (pc' := 77) rfl ?_
            refine w_isub X d6_77 (pc' := 78) rfl ?_
            exact w_retI X rfl d6_78 (by decide) (by decide) ⟨by rw [fNlz, if_pos c1, if_pos c22, if_pos c37, if_neg c51, if_neg c63], rfl⟩
      · -- c37 not taken
        refine w_iinc X d6_40 rfl (v' := (23 : Int32)) (by first | rfl | decide) (L' := #[.val (.int v), .val (.int (23 : Int32))]) rfl (pc' := 43) rfl ?_
        refine w_iloadN X d6_43 rfl (pc' := 44) rfl ?_
        refine w_bipush X d6_44 (v := (8 : Int32)) (by decide) (pc' := 46) rfl ?_
        refine w_iushr X d6_46 (pc' := 47) rfl ?_
        refine w_istoreN X d6_47 (L' := #[.val (.int ((v).toUInt32 >>> ((8 : Int32) &&& 31).toUInt32).toInt32), .val (.int (23 : Int32))]) rfl (pc' := 48) rfl ?_
        refine w_iloadN X d6_48 rfl (pc' := 49) rfl ?_
        refine w_bipush X d6_49 (v := (16 : Int32)) (by decide) (pc' := 51) rfl ?_
        refine w_icmp_lt X d6_51 (by decide) (p1 := 61) (by decide) (p2 := 54) rfl (fun c51 => ?_) (fun c51 => ?_)
        · -- c51 taken
          refine w_iloadN X d6_61 rfl (pc' := 62) rfl ?_
          refine w_iconst X d6_62 (v := (4 : Int32)) (by decide) (pc' := 63) rfl ?_
          refine w_icmp_lt X d6_63 (by decide) (p1 := 73) (by decide) (p2 := 66) rfl (fun c63 => ?_) (fun c63 => ?_)
          · -- c63 taken
            refine w_iloadN X d6_73 rfl (pc' := 74) rfl ?_
            refine w_iloadN X d6_74 rfl (pc' := 75) rfl ?_
            refine w_iconst X d6_75 (v := (1 : Int32)) (by decide) (pc' := 76) rfl ?_
            refine w_iushr X d6_76 (pc' := 77) rfl ?_
            refine w_isub X d6_77 (pc' := 78) rfl ?_
            exact w_retI X rfl d6_78 (by decide) (by decide) ⟨by rw [fNlz, if_pos c1, if_pos c22, if_neg c37, if_pos c51, if_pos c63], rfl⟩
          · -- c63 not taken
            refine w_iinc X d6_66 rfl (v' := (21 : Int32)) (by first | rfl | decide) (L' := #[.val (.int ((v).toUInt32 >>> ((8 : Int32) &&& 31).toUInt32).toInt32), .val (.int (21 : Int32))]) rfl (pc' := 69) rfl ?_
            refine w_iloadN X d6_69 rfl (pc' := 70) rfl ?_
            refine w_iconst X d6_70 (v := (2 : Int32)) (by decide) (pc' := 71) rfl ?_
            refine w_iushr X d6_71 (pc' := 72) rfl ?_
            refine w_istoreN X d6_72 (L' := #[.val (.int ((((v).toUInt32 >>> ((8 : Int32) &&& 31).toUInt32).toInt32).toUInt32 >>> ((2 : Int32) &&& 31).toUInt32).toInt32), .val (.int (21 : Int32))]) rfl (pc' := 73) rfl ?_
            refine w_iloadN X d6_73 rfl (pc' := 74) rfl ?_
            refine w_iloadN X d6_74 rfl (pc' := 75) rfl ?_
            refine w_iconst X d6_75 (v := (1 : Int32)) (by decide) (pc' := 76) rfl ?_
            refine w_iushr X d6_76 (pc' := 77) rfl ?_
            refine w_isub X d6_77 (pc' := 78) rfl ?_
            exact w_retI X rfl d6_78 (by decide) (by decide) ⟨by rw [fNlz, if_pos c1, if_pos c22, if_neg c37, if_pos c51, if_neg c63], rfl⟩
        · -- c51 not taken
          refine w_iinc X d6_54 rfl (v' := (19 : Int32)) (by first | rfl | decide) (L' := #[.val (.int ((v).toUInt32 >>> ((8 : Int32) &&& 31).toUInt32).toInt32), .val (.int (19 : Int32))]) rfl (pc' := 57) rfl ?_
          refine w_iloadN X d6_57 rfl (pc' := 58) rfl ?_
          refine w_iconst X d6_58 (v := (4 : Int32)) (by decide) (pc' := 59) rfl ?_
          refine w_iushr X d6_59 (pc' := 60) rfl ?_
          refine w_istoreN X d6_60 (L' := #[.val (.int ((((v).toUInt32 >>> ((8 : Int32) &&& 31).toUInt32).toInt32).toUInt32 >>> ((4 : Int32) &&& 31).toUInt32).toInt32), .val (.int (19 : Int32))]) rfl (pc' := 61) rfl ?_
          refine w_iloadN X d6_61 rfl (pc' := 62) rfl ?_
          refine w_iconst X d6_62 (v := (4 : Int32)) (by decide) (pc' := 63) rfl ?_
          refine w_icmp_lt X d6_63 (by decide) (p1 := 73) (by decide) (p2 := 66) rfl (fun c63 => ?_) (fun c63 => ?_)
          · -- c63 taken
            refine w_iloadN X d6_73 rfl (pc' := 74) rfl ?_
            refine w_iloadN X d6_74 rfl (pc' := 75) rfl ?_
            refine w_iconst X d6_75 (v := (1 : Int32)) (by decide) (pc' := 76) rfl ?_
            refine w_iushr X d6_76 (pc' := 77) rfl ?_
            refine w_isub X d6_77 (pc' := 78) rfl ?_
            exact w_retI X rfl d6_78 (by decide) (by decide) ⟨by rw [fNlz, if_pos c1, if_pos c22, if_neg c37, if_neg c51, if_pos c63], rfl⟩
          · -- c63 not taken
            refine w_iinc X d6_66 rfl (v' := (17 : Int32)) (by first | rfl | decide) (L' := #[.val (.int ((((v).toUInt32 >>> ((8 : Int32) &&& 31).toUInt32).toInt32).toUInt32 >>> ((4 : Int32) &&& 31).toUInt32).toInt32), .val (.int (17 : Int32))]) rfl (pc' := 69) rfl ?_
            refine w_iloadN X d6_69 rfl (pc' := 70) rfl ?_
            refine w_iconst X d6_70 (v := (2 : Int32)) (by decide) (pc' := 71) rfl ?_
            refine w_iushr X d6_71 (pc' := 72) rfl ?_
            refine w_istoreN X d6_72 (L' := #[.val (.int ((((((v).toUInt32 >>> ((8 : Int32) &&& 31).toUInt32).toInt32).toUInt32 >>> ((4 : Int32) &&& 31).toUInt32).toInt32).toUInt32 >>> ((2 : Int32) &&& 31).toUInt32).toInt32), .val (.int (17 : Int32))]) rfl (pc' := 73) rfl ?_
            refine w_iloadN X d6_73 rfl (pc' := 74) rfl ?_
            refine w_iloadN X d6_74 rfl (pc' := 75) rfl ?_
            refine w_iconst X d6_75 (v := (1 : Int32)) (by decide) (pc' := 76) rfl ?_
            refine w_iushr X d6_76 (pc' := 77) rfl ?_
            refine w_isub X d6_77 (pc' := 78) rfl ?_
            exact w_retI X rfl d6_78 (by decide) (by decide) ⟨by rw [fNlz, if_pos c1, if_pos c22, if_neg c37, if_neg c51, if_neg c63], rfl⟩
    · -- c22 not taken
      refine w_iinc X d6_25 rfl (v' := (15 : Int32)) (by first | rfl | decide) (L' := #[.val (.int v), .val (.int (15 : Int32))]) rfl (pc' := 28) rfl ?_
      refine w_iloadN X d6_28 rfl (pc' := 29) rfl ?_
      refine w_bipush X d6_29 (v := (16 : Int32)) (by decide) (pc' := 31) rfl ?_
      refine w_iushr X d6_31 (pc' := 32) rfl ?_
      refine w_istoreN X d6_32 (L' := #[.val (.int ((v).toUInt32 >>> ((16 : Int32) &&& 31).toUInt32).toInt32), .val (.int (15 : Int32))]) rfl (pc' := 33) rfl ?_
      refine w_iloadN X d6_33 rfl (pc' := 34) rfl ?_
      refine w_sipush X d6_34 (v := (256 : Int32)) (by decide) (pc' := 37) rfl ?_
      refine w_icmp_lt X d6_37 (by decide) (p1 := 48) (by decide) (p2 := 40) rfl (fun c37 => ?_) (fun c37 => ?_)
      · -- c37 taken
        refine w_iloadN X d6_48 rfl (pc' := 49) rfl ?_
        refine w_bipush X d6_49 (v := (16 : Int32)) (by decide) (pc' := 51) rfl ?_
        refine w_icmp_lt X d6_51 (by decide) (p1 := 61) (by decide) (p2 := 54) rfl (fun c51 => ?_) (fun c51 => ?_)
        · -- c51 taken
          refine w_iloadN X d6_61 rfl (pc' := 62) rfl ?_
          refine w_iconst X d6_62 (v := (4 : Int32)) (by decide) (pc' := 63) rfl ?_
          refine w_icmp_lt X d6_63 (by decide) (p1 := 73) (by decide) (p2 := 66) rfl (fun c63 => ?_) (fun c63 => ?_)
          · -- c63 taken
            refine w_iloadN X d6_73 rfl (pc' := 74) rfl ?_
            refine w_iloadN X d6_74 rfl (pc' := 75) rfl ?_
            refine w_iconst X d6_75 (v := (1 : Int32)) (by decide) (pc' := 76) rfl ?_
            refine w_iushr X d6_76 (pc' := 77) rfl ?_
            refine w_isub X d6_77 (pc' := 78) rfl ?_
            exact w_retI X rfl d6_78 (by decide) (by decide) ⟨by rw [fNlz, if_pos c1, if_neg c22, if_pos c37, if_pos c51, if_pos c63], rfl⟩
          · -- c63 not taken
            refine w_iinc X d6_66 rfl (v' := (13 : Int32)) (by first | rfl | decide) (L' := #[.val (.int ((v).toUInt32 >>> ((16 : Int32) &&& 31).toUInt32).toInt32), .val (.int (13 : Int32))]) rfl (pc' := 69) rfl ?_
            refine w_iloadN X d6_69 rfl (pc' := 70) rfl ?_
            refine w_iconst X d6_70 (v := (2 : Int32)) (by decide) (pc' := 71) rfl ?_
            refine w_iushr X d6_71 (pc' := 72) rfl ?_
            refine w_istoreN X d6_72 (L' := #[.val (.int ((((v).toUInt32 >>> ((16 : Int32) &&& 31).toUInt32).toInt32).toUInt32 >>> ((2 : Int32) &&& 31).toUInt32).toInt32), .val (.int (13 : Int32))]) rfl (pc' := 73) rfl ?_
            refine w_iloadN X d6_73 rfl (pc' := 74) rfl ?_
            refine w_iloadN X d6_74 rfl (pc' := 75) rfl ?_
            refine w_iconst X d6_75 (v := (1 : Int32)) (by decide) (pc' := 76) rfl ?_
            refine w_iushr X d6_76 (pc' := 77) rfl ?_
            refine w_isub X d6_77 (pc' := 78) rfl ?_
            exact w_retI X rfl d6_78 (by decide) (by decide) ⟨by rw [fNlz, if_pos c1, if_neg c22, if_pos c37, if_pos c51, if_neg c63], rfl⟩
        · -- c51 not taken
          refine w_iinc X d6_54 rfl (v' := (11 : Int32)) (by first | rfl | decide) (L' := #[.val (.int ((v).toUInt32 >>> ((16 : Int32) &&& 31).toUInt32).toInt32), .val (.int (11 : Int32))]) rfl (pc' := 57) rfl ?_
          refine w_iloadN X d6_57 rfl (pc' := 58) rfl ?_
          refine w_iconst X d6_58 (v := (4 : Int32)) (by decide) (pc' := 59) rfl ?_
          refine w_iushr X d6_59 (pc' := 60) rfl ?_
          refine w_istoreN X d6_60 (L' := #[.val (.int ((((v).toUInt32 >>> ((16 : Int32) &&& 31).toUInt32).toInt32).toUInt32 >>> ((4 : Int32) &&& 31).toUInt32).toInt32), .val (.int (11 : Int32))]) rfl (pc' := 61) rfl ?_
          refine w_iloadN X d6_61 rfl (pc' := 62) rfl ?_
          refine w_iconst X d6_62 (v := (4 : Int32)) (by decide) (pc' := 63) rfl ?_
          refine w_icmp_lt X d6_63 (by decide) (p1 := 73) (by decide) (p2 := 66) rfl (fun c63 => ?_) (fun c63 => ?_)
          · -- c63 taken
            refine w_iloadN X d6_73 rfl (pc' := 74) rfl ?_
            refine w_iloadN X d6_74 rfl (pc' := 75) rfl ?_
            refine w_iconst X d6_75 (v := (1 : Int32)) (by decide) (pc' := 76) rfl ?_
            refine w_iushr X d6_76 (pc' := 77) rfl ?_
            refine w_isub X d6_77 (pc' := 78) rfl ?_
            exact w_retI X rfl d6_78 (by decide) (by decide) ⟨by rw [fNlz, if_pos c1, if_neg c22, if_pos c37, if_neg c51, if_pos c63], rfl⟩
          · -- c63 not taken
            refine w_iinc X d6_66 rfl (v' := (9 : Int32)) (by first | rfl | decide) (L' := #[.val (.int ((((v).toUInt32 >>> ((16 : Int32) &&& 31).toUInt32).toInt32).toUInt32 >>> ((4 : Int32) &&& 31).toUInt32).toInt32), .val (.int (9 : Int32))]) rfl (pc' := 69) rfl ?_
            refine w_iloadN X d6_69 rfl (pc' := 70) rfl ?_
            refine w_iconst X d6_70 (v := (2 : Int32)) (by decide) (pc' := 71) rfl ?_
            refine w_iushr X d6_71 (pc' := 72) rfl ?_
            refine w_istoreN X d6_72 (L' := #[.val (.int ((((((v).toUInt32 >>> ((16 : Int32) &&& 31).toUInt32).toInt32).toUInt32 >>> ((4 : Int32) &&& 31).toUInt32).toInt32).toUInt32 >>> ((2 : Int32) &&& 31).toUInt32).toInt32), .val (.int (9 : Int32))]) rfl (pc' := 73) rfl ?_
            refine w_iloadN X d6_73 rfl (pc' := 74) rfl ?_
            refine w_iloadN X d6_74 rfl (pc' := 75) rfl ?_
            refine w_iconst X d6_75 (v := (1 : Int32)) (by decide) (pc' := 76) rfl ?_
            refine w_iushr X d6_76 (pc' := 77) rfl ?_
            refine w_isub X d6_77 (pc' := 78) rfl ?_
            exact w_retI X rfl d6_78 (by decide) (by decide) ⟨by rw [fNlz, if_pos c1, if_neg c22, if_pos c37, if_neg c51, if_neg c63], rfl⟩
      · -- c37 not taken
        refine w_iinc X d6_40 rfl (v' := (7 : Int32)) (by first | rfl | decide) (L' := #[.val (.int ((v).toUInt32 >>> ((16 : Int32) &&& 31).toUInt32).toInt32), .val (.int (7 : Int32))]) rfl (pc' := 43) rfl ?_
        refine w_iloadN X d6_43 rfl (pc' := 44) rfl ?_
        refine w_bipush X d6_44 (v := (8 : Int32)) (by decide) (pc' := 46) rfl ?_
        refine w_iushr X d6_46 (pc' := 47) rfl ?_
        refine w_istoreN X d6_47 (L' := #[.val (.int ((((v).toUInt32 >>> ((16 : Int32) &&& 31).toUInt32).toInt32).toUInt32 >>> ((8 : Int32) &&& 31).toUInt32).toInt32), .val (.int (7 : Int32))]) rfl (pc' := 48) rfl ?_
        refine w_iloadN X d6_48 rfl (pc' := 49) rfl ?_
        refine w_bipush X d6_49 (v := (16 : Int32)) (by decide) (pc' := 51) rfl ?_
        refine w_icmp_lt X d6_51 (by decide) (p1 := 61) (by decide) (p2 := 54) rfl (fun c51 => ?_) (fun c51 => ?_)
        · -- c51 taken
          refine w_iloadN X d6_61 rfl (pc' := 62) rfl ?_
          refine w_iconst X d6_62 (v := (4 : Int32)) (by decide) (pc' := 63) rfl ?_
          refine w_icmp_lt X d6_63 (by decide) (p1 := 73) (by decide) (p2 := 66) rfl (fun c63 => ?_) (fun c63 => ?_)
          · -- c63 taken
            refine w_iloadN X d6_73 rfl (pc' := 74) rfl ?_
            refine w_iloadN X d6_74 rfl (pc' := 75) rfl ?_
            refine w_iconst X d6_75 (v := (1 : Int32)) (by decide) (pc' := 76) rfl ?_
            refine w_iushr X d6_76 (pc' := 77) rfl ?_
            refine w_isub X d6_77 (pc' := 78) rfl ?_
            exact w_retI X rfl d6_78 (by decide) (by decide) ⟨by rw [fNlz, if_pos c1, if_neg c22, if_neg c37, if_pos c51, if_pos c63], rfl⟩
          · -- c63 not taken
            refine w_iinc X d6_66 rfl (v' := (5 : Int32)) (by first | rfl | decide) (L' := #[.val (.int ((((v).toUInt32 >>> ((16 : Int32) &&& 31).toUInt32).toInt32).toUInt32 >>> ((8 : Int32) &&& 31).toUInt32).toInt32), .val (.int (5 : Int32))]) rfl (pc' := 69) rfl ?_
            refine w_iloadN X d6_69 rfl (pc' := 70) rfl ?_
            refine w_iconst X d6_70 (v := (2 : Int32)) (by decide) (pc' := 71) rfl ?_
            refine w_iushr X d6_71 (pc' := 72) rfl ?_
            refine w_istoreN X d6_72 (L' := #[.val (.int ((((((v).toUInt32 >>> ((16 : Int32) &&& 31).toUInt32).toInt32).toUInt32 >>> ((8 : Int32) &&& 31).toUInt32).toInt32).toUInt32 >>> ((2 : Int32) &&& 31).toUInt32).toInt32), .val (.int (5 : Int32))]) rfl (pc' := 73) rfl ?_
            refine w_iloadN X d6_73 rfl (pc' := 74) rfl ?_
            refine w_iloadN X d6_74 rfl (pc' := 75) rfl ?_
            refine w_iconst X d6_75 (v := (1 : Int32)) (by decide) (pc' := 76) rfl ?_
            refine w_iushr X d6_76 (pc' := 77) rfl ?_
            refine w_isub X d6_77 (pc' := 78) rfl ?_
            exact w_retI X rfl d6_78 (by decide) (by decide) ⟨by rw [fNlz, if_pos c1, if_neg c22, if_neg c37, if_pos c51, if_neg c63], rfl⟩
        · -- c51 not taken
          refine w_iinc X d6_54 rfl (v' := (3 : Int32)) (by first | rfl | decide) (L' := #[.val (.int ((((v).toUInt32 >>> ((16 : Int32) &&& 31).toUInt32).toInt32).toUInt32 >>> ((8 : Int32) &&& 31).toUInt32).toInt32), .val (.int (3 : Int32))]) rfl (pc' := 57) rfl ?_
          refine w_iloadN X d6_57 rfl (pc' := 58) rfl ?_
          refine w_iconst X d6_58 (v := (4 : Int32)) (by decide) (pc' := 59) rfl ?_
          refine w_iushr X d6_59 (pc' := 60) rfl ?_
          refine w_istoreN X d6_60 (L' := #[.val (.int ((((((v).toUInt32 >>> ((16 : Int32) &&& 31).toUInt32).toInt32).toUInt32 >>> ((8 : Int32) &&& 31).toUInt32).toInt32).toUInt32 >>> ((4 : Int32) &&& 31).toUInt32).toInt32), .val (.int (3 : Int32))]) rfl (pc' := 61) rfl ?_
          refine w_iloadN X d6_61 rfl (pc' := 62) rfl ?_
          refine w_iconst X d6_62 (v := (4 : Int32)) (by decide) (pc' := 63) rfl ?_
          refine w_icmp_lt X d6_63 (by decide) (p1 := 73) (by decide) (p2 := 66) rfl (fun c63 => ?_) (fun c63 => ?_)
          · -- c63 taken
            refine w_iloadN X d6_73 rfl (pc' := 74) rfl ?_
            refine w_iloadN X d6_74 rfl (pc' := 75) rfl ?_
            refine w_iconst X d6_75 (v := (1 : Int32)) (by decide) (pc' := 76) rfl ?_
            refine w_iushr X d6_76 (pc' := 77) rfl ?_
            refine w_isub X d6_77 (pc' := 78) rfl ?_
            exact w_retI X rfl d6_78 (by decide) (by decide) ⟨by rw [fNlz, if_pos c1, if_neg c22, if_neg c37, if_neg c51, if_pos c63], rfl⟩
          · -- c63 not taken
            refine w_iinc X d6_66 rfl (v' := (1 : Int32)) (by first | rfl | decide) (L' := #[.val (.int ((((((v).toUInt32 >>> ((16 : Int32) &&& 31).toUInt32).toInt32).toUInt32 >>> ((8 : Int32) &&& 31).toUInt32).toInt32).toUInt32 >>> ((4 : Int32) &&& 31).toUInt32).toInt32), .val (.int (1 : Int32))]) rfl (pc' := 69) rfl ?_
            refine w_iloadN X d6_69 rfl (pc' := 70) rfl ?_
            refine w_iconst X d6_70 (v := (2 : Int32)) (by decide) (pc' := 71) rfl ?_
            refine w_iushr X d6_71 (pc' := 72) rfl ?_
            refine w_istoreN X d6_72 (L' := #[.val (.int ((((((((v).toUInt32 >>> ((16 : Int32) &&& 31).toUInt32).toInt32).toUInt32 >>> ((8 : Int32) &&& 31).toUInt32).toInt32).toUInt32 >>> ((4 : Int32) &&& 31).toUInt32).toInt32).toUInt32 >>> ((2 : Int32) &&& 31).toUInt32).toInt32), .val (.int (1 : Int32))]) rfl (pc' := 73) rfl ?_
            refine w_iloadN X d6_73 rfl (pc' := 74) rfl ?_
            refine w_iloadN X d6_74 rfl (pc' := 75) rfl ?_
            refine w_iconst X d6_75 (v := (1 : Int32)) (by decide) (pc' := 76) rfl ?_
            refine w_iushr X d6_76 (pc' := 77) rfl ?_
            refine w_isub X d6_77 (pc' := 78) rfl ?_
            exact w_retI X rfl d6_78 (by decide) (by decide) ⟨by rw [fNlz, if_pos c1, if_neg c22, if_neg c37, if_neg c51, if_neg c63], rfl⟩
  · -- c1 not taken
    refine w_iloadN X d6_4 rfl (pc' := 5) rfl ?_
    refine w_if_ne X d6_5 (by decide) (p1 := 13) (by decide) (p2 := 8) rfl (fun c5 => ?_) (fun c5 => ?_)
    · -- c5 taken
      refine w_iconst X d6_13 (v := (0 : Int32)) (by decide) (pc' := 14) rfl ?_
      exact w_retI X rfl d6_14 (by decide) (by decide) ⟨by rw [fNlz, if_neg c1, if_neg c5], rfl⟩
    · -- c5 not taken
      refine w_bipush X d6_8 (v := (32 : Int32)) (by decide) (pc' := 10) rfl ?_
      refine w_goto X d6_10 (by decide) (pc' := 14) (by decide) ?_
      exact w_retI X rfl d6_14 (by decide) (by decide) ⟨by rw [fNlz, if_neg c1, if_pos c5], rfl⟩
def fLnz (v : Int64) : Int32 :=
  if (((v).toUInt64 >>> ((32 : Int32) &&& 0x3f).toInt64.toUInt64).toInt64).toInt32 = (0 : Int32) then
    ((32 : Int32) + (fNlz ((v).toInt32)))
  else
    (fNlz ((((v).toUInt64 >>> ((32 : Int32) &&& 0x3f).toInt64.toUInt64).toInt64).toInt32))
set_option maxRecDepth 65536 in
set_option maxHeartbeats 4000000 in
theorem ct_fLnz (l : Launch) (Z : State) (a0 : Array Value) (hw : ∀ d ∈ tables_1, d.before a0 Z = true) (v : Int64) (h0 : Heap) (n0 : Nat) (Z0 : n0 ≤ h0.size) :
    Ct l Z (⟨"java/lang/Long", "numberOfLeadingZeros", "(J)I"⟩ : MethodName) jdk_35_method_48_code 3 (some .int) ({ frames := 1, cells := 0, slots := 0, locals := 14 } : Room) #[(.long v)] h0 n0 (fun r_ h_ => r_ = some (.int (fLnz v)) ∧ h_ = h0) := by
  refine Ct.intro (plainFor_of_name (by first | (simp [plainName, overriddenIn]; done) | decide +kernel)) Z0 ?_
  intro p e s m below meth c T X
  refine WP.cast (g' := (mkF m 0 #[.val (.long v), .second, .unset] [])) (by first | (simp [entryFrame, mkF, argsToLocals, Value.category]; done) | rfl) ?_
  refine w_lloadN X d5_0 rfl (pc' := 1) rfl ?_
  refine w_bipush X d5_1 (v := (32 : Int32)) (by decide) (pc' := 3) rfl ?_
  refine w_lushr X d5_3 (pc' := 4) rfl ?_
  refine w_l2i X d5_4 (pc' := 5) rfl ?_
  refine w_istoreN X d5_5 (L' := #[.val (.long v), .second, .val (.int (((v).toUInt64 >>> ((32 : Int32) &&& 0x3f).toInt64.toUInt64).toInt64).toInt32)]) rfl (pc' := 6) rfl ?_
  refine w_iloadN X d5_6 rfl (pc' := 7) rfl ?_
  refine w_if_ne X d5_7 (by decide) (p1 := 21) (by decide) (p2 := 10) rfl (fun c7 => ?_) (fun c7 => ?_)
  · -- c7 taken
    refine w_iloadN X d5_21 rfl (pc' := 22) rfl ?_
    refine w_callS X [(.int (((v).toUInt64 >>> ((32 : Int32) &&& 0x3f).toInt64.toUInt64).toInt64).toInt32)] [] 0 (tw34 hw) (tw35 hw) (tw36 hw) (tw37 hw) (ct_fNlz l Z a0 hw ((((v).toUInt64 >>> ((32 : Int32) &&& 0x3f).toInt64.toUInt64).toInt64).toInt32) h0 n0 Z0) d5_22 pd0 rfl (by decide) rfl rfl rfl (by decide) (by decide) (by decide) (by decide) (pc' := 25) rfl ?_
    intro T h1 v X hQ; obtain ⟨rfl, hz1⟩ := hQ; replace hz1 := hz1.symm; subst hz1
    show WP _ _ _ _ _ _ _ _ _ (mkF m 25 #[.val (.long v), .second, .val (.int (((v).toUInt64 >>> ((32 : Int32) &&& 0x3f).toInt64.toUInt64).toInt64).toInt32)] [(.int (fNlz ((((v).toUInt64 >>> ((32 : Int32) &&& 0x3f).toInt64.toUInt64).toInt64).toInt32)))])
    exact w_retI X rfl d5_25 (by decide) (by decide) ⟨by rw [fLnz, if_neg c7], rfl⟩
  · -- c7 not taken
    refine w_bipush X d5_10 (v := (32 : Int32)) (by decide) (pc' := 12) rfl ?_
    refine w_lloadN X d5_12 rfl (pc' := 13) rfl ?_
    refine w_l2i X d5_13 (pc' := 14) rfl ?_
    refine w_callS X [(.int (v).toInt32)] [(.int (32 : Int32))] 1 (tw34 hw) (tw35 hw) (tw36 hw) (tw37 hw) (ct_fNlz l Z a0 hw ((v).toInt32) h0 n0 Z0) d5_14 pd0 rfl (by decide) rfl rfl rfl (by decide) (by decide) (by decide) (by decide) (pc' := 17) rfl ?_
    intro T h1 v X hQ; obtain ⟨rfl, hz1⟩ := hQ; replace hz1 := hz1.symm; subst hz1
    show WP _ _ _ _ _ _ _ _ _ (mkF m 17 #[.val (.long v), .second, .val (.int (((v).toUInt64 >>> ((32 : Int32) &&& 0x3f).toInt64.toUInt64).toInt64).toInt32)] [(.int (fNlz ((v).toInt32))), (.int (32 : Int32))])
    refine w_iadd X d5_17 (pc' := 18) rfl ?_
    refine w_goto X d5_18 (by decide) (pc' := 25) (by decide) ?_
    exact w_retI X rfl d5_25 (by decide) (by decide) ⟨by rw [fLnz, if_pos c7], rfl⟩
def fWid (v : Int64) : Int32 :=
  ((64 : Int32) - (fLnz v))
set_option maxRecDepth 65536 in
set_option maxHeartbeats 4000000 in
theorem ct_fWid (l : Launch) (Z : State) (a0 : Array Value) (hw : ∀ d ∈ tables_1, d.before a0 Z = true) (v : Int64) (h0 : Heap) (n0 : Nat) (Z0 : n0 ≤ h0.size) :
    Ct l Z (⟨"com/example/varve/varve/column/ByteOutput", "width", "(J)I"⟩ : MethodName) prog_29_method_17_code 2 (some .int) ({ frames := 2, cells := 0, slots := 0, locals := 29 } : Room) #[(.long v)] h0 n0 (fun r_ h_ => r_ = some (.int (fWid v)) ∧ h_ = h0) := by
  refine Ct.intro (plainFor_of_name (by first | (simp [plainName, overriddenIn]; done) | decide +kernel)) Z0 ?_
  intro p e s m below meth c T X
  refine WP.cast (g' := (mkF m 0 #[.val (.long v), .second] [])) (by first | (simp [entryFrame, mkF, argsToLocals, Value.category]; done) | rfl) ?_
  refine w_bipush X d4_0 (v := (64 : Int32)) (by decide) (pc' := 2) rfl ?_
  refine w_lloadN X d4_2 rfl (pc' := 3) rfl ?_
  refine w_callS X [(.long v)] [(.int (64 : Int32))] 1 (tw30 hw) (tw31 hw) (tw32 hw) (tw33 hw) (ct_fLnz l Z a0 hw v h0 n0 Z0) d4_3 pd1 rfl (by decide) rfl rfl rfl (by decide) (by decide) (by decide) (by decide) (pc' := 6) rfl ?_
  intro T h1 v X hQ; obtain ⟨rfl, hz1⟩ := hQ; replace hz1 := hz1.symm; subst hz1
  show WP _ _ _ _ _ _ _ _ _ (mkF m 6 #[.val (.long v), .second] [(.int (fLnz v)), (.int (64 : Int32))])
  refine w_isub X d4_6 (pc' := 7) rfl ?_
  exact w_retI X rfl d4_7 (by decide) (by decide) ⟨by rw [fWid], rfl⟩
theorem bit_shl (q : Int32) (w : Int64) : ((w <<< (q &&& 0x3f).toInt64)).toBitVec = w.toBitVec <<< (q.toBitVec.toNat % 64) := by
  have h := sm64 q (q.toBitVec.toNat % 64) rfl
  rw [Int64.toBitVec_shiftLeft, h.1, BitVec.shiftLeft_eq', smod64 _ h.2]
theorem bit_shr (q : Int32) (w : Int64) : ((w.toUInt64 >>> (q &&& 0x3f).toInt64.toUInt64).toInt64).toBitVec = w.toBitVec >>> (q.toBitVec.toNat % 64) := by
  have h := sm64 q (q.toBitVec.toNat % 64) rfl
  show w.toBitVec >>> ((q &&& 0x3f).toInt64.toBitVec % 64#64) = _
  rw [h.1, BitVec.ushiftRight_eq']
  congr 1
  rw [BitVec.toNat_umod]
  have := h.2
  simp only [BitVec.toNat_ofNat]
  rw [show (2 : Nat) ^ 64 = 18446744073709551616 from rfl, show (64 % 18446744073709551616 : Nat) = 64 from rfl]
  omega
theorem bit_and (w : Int64) (q : Int32) : ((w &&& ((1 : Int64) <<< (q &&& 0x3f).toInt64)) = 0) ↔ w.toBitVec.getLsbD (q.toBitVec.toNat % 64) = false := by
  rw [← Int64.toBitVec_inj, Int64.toBitVec_and, bit_shl]
  have hk : q.toBitVec.toNat % 64 < 64 := Nat.mod_lt _ (by decide)
  generalize q.toBitVec.toNat % 64 = k at *
  show w.toBitVec &&& (1#64 <<< k) = 0#64 ↔ _
  rw [← BitVec.twoPow_eq, BitVec.and_twoPow]
  by_cases h : w.toBitVec.getLsbD k
  · simp only [h, if_true]
    constructor
    · intro e
      have e2 := congrArg (fun z => BitVec.getLsbD z k) e
      simp [BitVec.getLsbD_twoPow, hk] at e2
    · intro e; cases e
  · simp [h]
theorem bit_one (w : Int64) (q : Int32) : (((w.toUInt64 >>> (q &&& 0x3f).toInt64.toUInt64).toInt64 &&& (1 : Int64)) = 1) ↔ w.toBitVec.getLsbD (q.toBitVec.toNat % 64) = true := by
  rw [← Int64.toBitVec_inj, Int64.toBitVec_and, bit_shr]
  generalize q.toBitVec.toNat % 64 = k at *
  show (w.toBitVec >>> k) &&& 1#64 = 1#64 ↔ _
  constructor
  · intro e
    have e2 := congrArg (fun z => BitVec.getLsbD z 0) e
    simpa using e2
  · intro e
    apply BitVec.eq_of_getLsbD_eq
    intro i hi
    simp only [BitVec.getLsbD_and, BitVec.getLsbD_ushiftRight, BitVec.getLsbD_one]
    by_cases hz : i = 0
    · subst hz; simp [e]
    · simp [hz]
def bitAt (g : Nat → Int64) (k : Nat) : Bool := (g (k / 64)).toBitVec.getLsbD (k % 64)
def Rp (g : Nat → Int64) (len W cnt : Nat) (xs : Nat → Int32) : Prop :=
  (∀ i, i < cnt → ∀ j, j < W → bitAt g (i * W + j) = (xs i).toBitVec.getLsbD j) ∧ (∀ k, cnt * W ≤ k → k < 64 * len → bitAt g k = false) ∧ ∀ i, i < cnt → 0 ≤ (xs i).toInt ∧ (xs i).toInt < 2 ^ W
/-- what is said of the numbers packed, without the heap -/
def PP (g : Nat → Int64) (len W cnt : Nat) (xs : Nat → Int32) : Prop := Rp g len W cnt xs ∧ (len = 1 ∨ len = 2) ∧ 1 ≤ W ∧ W ≤ 31 ∧ cnt ≤ 64 * len / W ∧ cnt ≤ 4
def upd (xs : Nat → Int32) (k : Nat) (v : Int32) : Nat → Int32 := fun i => if i = k then v else xs i
theorem nn_toNat {x : Int32} (h : 0 ≤ x.toInt) : (x.toBitVec.toNat : Int) = x.toInt := by
  have := x.toBitVec.isLt
  have e := BitVec.toInt_eq_toNat_cond x.toBitVec
  rw [Int32.toInt_toBitVec] at e
  split at e <;> omega
theorem hi_bits {x : Int32} {W j : Nat} (h : 0 ≤ x.toInt) (h2 : x.toInt < 2 ^ W) (hj : W ≤ j) : x.toBitVec.getLsbD j = false := by
  rw [← BitVec.testBit_toNat]
  apply Nat.testBit_lt_two_pow
  have h3 := nn_toNat h
  have h4 : (2 : Nat) ^ W ≤ 2 ^ j := Nat.pow_le_pow_right (by decide) hj
  have h5 : x.toBitVec.toNat < 2 ^ W := by
    have : (x.toBitVec.toNat : Int) < ((2 ^ W : Nat) : Int) := by rw [h3]; simpa using h2
    exact Int.ofNat_lt.mp this
  omega
theorem sext {x : Int32} (h : 0 ≤ x.toInt) (j : Nat) : x.toInt64.toBitVec.getLsbD j = x.toBitVec.getLsbD j := by
  rw [Int32.toBitVec_toInt64, BitVec.getLsbD_signExtend]
  have hm : x.toBitVec.msb = false := by
    rw [BitVec.msb_eq_false_iff_two_mul_lt]
    have := nn_toNat h; have := x.toInt_lt; omega
  by_cases c1 : j < 32
  · simp [c1, show j < 64 by omega]
  · rw [BitVec.getLsbD_of_ge _ _ (by omega : 32 ≤ j)]
    simp [c1, hm]
theorem add_pos {cnt W k : Nat} (R1 : k < cnt * W) : k < (cnt + 1) * W := by rw [Nat.succ_mul]; omega
theorem Rp.add {g g' : Nat → Int64} {len W cnt : Nat} {xs : Nat → Int32} {v : Int32} (R : Rp g len W cnt xs) (hv : 0 ≤ v.toInt ∧ v.toInt < 2 ^ W)
    (hg : ∀ k, k < 64 * len → bitAt g' k = (bitAt g k || (decide (cnt * W ≤ k) && v.toBitVec.getLsbD (k - cnt * W)))) (hfit : (cnt + 1) * W ≤ 64 * len) : Rp g' len W (cnt + 1) (upd xs cnt v) := by
  rw [Nat.succ_mul] at hfit
  refine ⟨fun i hi j hj => ?_, fun k h1 h2 => ?_, fun i hi => ?_⟩
  · by_cases e : i = cnt
    · subst e
      rw [hg _ (by omega), R.2.1 _ (by omega) (by omega)]
      simp [upd]
    · have h3 : (i + 1) * W ≤ cnt * W := Nat.mul_le_mul_right _ (by omega)
      rw [Nat.succ_mul] at h3
      rw [hg _ (by omega), R.1 i (by omega) j hj]
      simp [upd, e, show ¬ cnt * W ≤ i * W + j by omega]
  · rw [Nat.succ_mul] at h1
    rw [hg _ h2, R.2.1 _ (by omega) h2, hi_bits hv.1 hv.2 (by omega)]
    simp
  · by_cases e : i = cnt
    · subst e; simp [upd, hv]
    · simp only [upd, e, if_false]; exact R.2.2 i (by omega)
theorem Rp.congr {g : Nat → Int64} {len W cnt : Nat} {xs ys : Nat → Int32} (R : Rp g len W cnt xs) (h : ∀ i, i < cnt → xs i = ys i) : Rp g len W cnt ys :=
  ⟨fun i hi j hj => by rw [← h i hi]; exact R.1 i hi j hj, R.2.1, fun i hi => by rw [← h i hi]; exact R.2.2 i hi⟩
theorem PP.congr {g : Nat → Int64} {len W cnt : Nat} {xs ys : Nat → Int32} (R : PP g len W cnt xs) (h : ∀ i, i < cnt → xs i = ys i) : PP g len W cnt ys := ⟨R.1.congr h, R.2⟩
theorem Rp.grow {g g' : Nat → Int64} {W cnt : Nat} {xs : Nat → Int32} (R : Rp g 1 W cnt xs) (hc : cnt * W ≤ 64) (h0 : g' 0 = g 0) (h1 : g' 1 = 0) : Rp g' 2 W cnt xs := by
  have q : ∀ k, k < 64 → bitAt g' k = bitAt g k := fun k hk => by unfold bitAt; rw [show k / 64 = 0 by omega, h0]
  refine ⟨fun i hi j hj => ?_, fun k h2 h3 => ?_, R.2.2⟩
  · have h4 : (i + 1) * W ≤ cnt * W := Nat.mul_le_mul_right _ (by omega)
    rw [Nat.succ_mul] at h4
    rw [q _ (by omega)]; exact R.1 i hi j hj
  · by_cases c : k < 64
    · rw [q _ c]; exact R.2.1 k h2 (by omega)
    · unfold bitAt; rw [show k / 64 = 1 by omega, h1]
      show (0#64).getLsbD _ = false
      simp
theorem Rp.zero {len W : Nat} {xs : Nat → Int32} : Rp (fun _ => 0) len W 0 xs :=
  ⟨fun i hi => absurd hi (Nat.not_lt_zero i), fun k _ _ => by unfold bitAt; show (0#64).getLsbD _ = false; simp, fun i hi => absurd hi (Nat.not_lt_zero i)⟩
theorem put1 {w : Int64} {v sh : Int32} {s j : Nat} (hv : 0 ≤ v.toInt) (hs : sh.toInt = s) (hs2 : s < 64) (hj : j < 64) : (w ||| (v.toInt64 <<< (sh &&& 0x3f).toInt64)).toBitVec.getLsbD j = (w.toBitVec.getLsbD j || (decide (s ≤ j) && v.toBitVec.getLsbD (j - s))) := by
  rw [Int64.toBitVec_or, bit_shl, BitVec.getLsbD_or, BitVec.getLsbD_shiftLeft, sext hv]
  have e : sh.toBitVec.toNat % 64 = s := by have := nn_toNat (x := sh) (by omega); omega
  rw [e]
  congr 1
  by_cases c : s ≤ j
  · simp [c, hj, show ¬ j < s by omega]
  · simp [c, show j < s by omega]
theorem put2 {w : Int64} {v sh : Int32} {s j : Nat} (hv : 0 ≤ v.toInt) (hs : sh.toInt = s) (hs1 : 0 < s) (hs2 : s < 64) : (w ||| ((v.toInt64.toUInt64 >>> ((64 - sh) &&& 0x3f).toInt64.toUInt64).toInt64)).toBitVec.getLsbD j = (w.toBitVec.getLsbD j || v.toBitVec.getLsbD (64 - s + j)) := by
  rw [Int64.toBitVec_or, bit_shr, BitVec.getLsbD_or, BitVec.getLsbD_ushiftRight, sext hv]
  have h1 := c_isub 64 sh; have r := rng32 (64 - sh)
  rw [show (64 : Int32).toInt = 64 from rfl] at h1
  have e : (64 - sh).toBitVec.toNat % 64 = 64 - s := by have := nn_toNat (x := 64 - sh) (by omega); omega
  rw [e]
theorem bits1 {g : Nat → Int64} {cnt W kw s : Nat} {v sh : Int32} (hpos : cnt * W = 64 * kw + s) (hs2 : s < 64) (hfit : s + W ≤ 64) (hv : 0 ≤ v.toInt ∧ v.toInt < 2 ^ W) (hs : sh.toInt = s) (k : Nat) :
    bitAt (fun q => if q = kw then (g kw ||| (v.toInt64 <<< (sh &&& 0x3f).toInt64)) else g q) k = (bitAt g k || (decide (cnt * W ≤ k) && v.toBitVec.getLsbD (k - cnt * W))) := by
  unfold bitAt
  dsimp only
  by_cases c : k / 64 = kw
  · rw [if_pos c, put1 hv.1 hs hs2 (Nat.mod_lt _ (by decide)), c]
    congr 2
    · simp only [decide_eq_decide]; omega
    · congr 1; omega
  · rw [if_neg c]
    by_cases d : cnt * W ≤ k
    · rw [hi_bits hv.1 hv.2 (show W ≤ k - cnt * W by omega)]; simp
    · simp [d]
theorem bits2 {g : Nat → Int64} {cnt W kw s : Nat} {v sh : Int32} (hpos : cnt * W = 64 * kw + s) (hs1 : 0 < s) (hs2 : s < 64) (hW : W ≤ 31) (hv : 0 ≤ v.toInt ∧ v.toInt < 2 ^ W) (hs : sh.toInt = s) (k : Nat) :
    bitAt (fun q => if q = kw + 1 then (g (kw + 1) ||| ((v.toInt64.toUInt64 >>> ((64 - sh) &&& 0x3f).toInt64.toUInt64).toInt64)) else (if q = kw then (g kw ||| (v.toInt64 <<< (sh &&& 0x3f).toInt64)) else g q)) k = (bitAt g k || (decide (cnt * W ≤ k) && v.toBitVec.getLsbD (k - cnt * W))) := by
  unfold bitAt
  dsimp only
  by_cases c : k / 64 = kw + 1
  · rw [if_pos c, put2 hv.1 hs hs1 hs2, c]
    congr 1
    rw [show decide (cnt * W ≤ k) = true by simp; omega, Bool.true_and]
    congr 1; omega
  · rw [if_neg c]
    by_cases c2 : k / 64 = kw
    · rw [if_pos c2, put1 hv.1 hs hs2 (Nat.mod_lt _ (by decide)), c2]
      congr 2
      · simp only [decide_eq_decide]; omega
      · congr 1; omega
    · rw [if_neg c2]
      by_cases d : cnt * W ≤ k
      · rw [hi_bits hv.1 hv.2 (show W ≤ k - cnt * W by omega)]; simp
      · simp [d]
theorem ofN {k : Nat} (h : k < 2147483648) : (Int32.ofNat k).toInt = k := Int32.toInt_ofNat_small (by omega)
theorem pos_ok {ix : Int32} {bt : Int64} {wd sh : Int32} {k W : Nat} (hx : ix.toInt = k) (hk : k ≤ 4) (hW : W ≤ 31) (h1 : bt = ix.toInt64 * (Int32.ofNat W).toInt64) (h2 : wd = ((bt.toUInt64 >>> ((6 : Int32) &&& 0x3f).toInt64.toUInt64).toInt64).toInt32) (h3 : sh = bt.toInt32 &&& 63) :
    wd.toInt = (k * W / 64 : Nat) ∧ sh.toInt = (k * W % 64 : Nat) := by
  have e1 := c_lmul ix.toInt64 (Int32.ofNat W).toInt64
  rw [← h1, c_i2l, c_i2l, hx, ofN (by omega)] at e1
  have hb : k * W ≤ 4 * 31 := Nat.mul_le_mul hk hW
  have r1 := rng64 bt
  have e2 : bt.toInt = (k * W : Nat) := by
    rw [Int.natCast_mul]
    have t1 : (k : Int) * W ≤ 4 * 31 := by exact_mod_cast hb
    have t2 : 0 ≤ (k : Int) * W := by exact_mod_cast Nat.zero_le (k * W)
    generalize (k : Int) * W = t at *
    omega
  have e3 := c_lushr bt 6 6 (by decide) (by decide)
  rw [e2, show ((2 ^ 6 : Nat) : Int) = 64 from rfl] at e3
  have e4 := c_l2i ((bt.toUInt64 >>> ((6 : Int32) &&& 0x3f).toInt64.toUInt64).toInt64)
  rw [← h2, e3] at e4
  have e5 := c_mask bt.toInt32 63 6 (by decide) (by decide)
  rw [← h3, show ((2 ^ 6 : Nat) : Int) = 64 from rfl] at e5
  have e6 := c_l2i bt
  have r2 := rng32 wd; have r3 := rng32 bt.toInt32
  generalize k * W = kW at *
  omega
theorem gr_bit {W j : Nat} (hW : W ≤ 31) : (Int32.ofNat (2 ^ W - 1)).toBitVec.getLsbD j = decide (j < W) := by
  show (BitVec.ofNat 32 (2 ^ W - 1)).getLsbD j = _
  have hp : (2 : Nat) ^ W ≤ 2 ^ 31 := Nat.pow_le_pow_right (by decide) hW
  rw [← BitVec.testBit_toNat, BitVec.toNat_ofNat, Nat.mod_eq_of_lt (by omega), Nat.testBit_two_pow_sub_one]
theorem get1 {g : Nat → Int64} {len W cnt k kw s : Nat} {xs : Nat → Int32} {sh : Int32} (R : Rp g len W cnt xs) (hk : k < cnt) (hW : W ≤ 31) (hpos : k * W = 64 * kw + s) (hs2 : s < 64) (hfit : s + W ≤ 64) (hs : sh.toInt = s) :
    (((g kw).toUInt64 >>> (sh &&& 0x3f).toInt64.toUInt64).toInt64).toInt32 &&& (Int32.ofNat (2 ^ W - 1)) = xs k := by
  apply Int32.toBitVec_inj.mp
  apply BitVec.eq_of_getLsbD_eq
  intro j hj
  rw [Int32.toBitVec_and, BitVec.getLsbD_and, gr_bit hW, Int64.toBitVec_toInt32, BitVec.getLsbD_signExtend, bit_shr, BitVec.getLsbD_ushiftRight]
  have e : sh.toBitVec.toNat % 64 = s := by have := nn_toNat (x := sh) (by omega); omega
  have hx := R.2.2 k hk
  by_cases c : j < W
  · have h1 := R.1 k hk j c
    unfold bitAt at h1
    rw [show (k * W + j) / 64 = kw by omega, show (k * W + j) % 64 = s + j by omega] at h1
    rw [e, h1]; simp [c, hj, show j < 64 by omega]
  · rw [hi_bits hx.1 hx.2 (by omega)]; simp [c]
theorem get2 {g : Nat → Int64} {len W cnt k kw s : Nat} {xs : Nat → Int32} {sh : Int32} (R : Rp g len W cnt xs) (hk : k < cnt) (hW : W ≤ 31) (hpos : k * W = 64 * kw + s) (hs1 : 0 < s) (hs2 : s < 64) (hs : sh.toInt = s) :
    ((((g kw).toUInt64 >>> (sh &&& 0x3f).toInt64.toUInt64).toInt64) ||| (g (kw + 1) <<< ((64 - sh) &&& 0x3f).toInt64)).toInt32 &&& (Int32.ofNat (2 ^ W - 1)) = xs k := by
  apply Int32.toBitVec_inj.mp
  apply BitVec.eq_of_getLsbD_eq
  intro j hj
  rw [Int32.toBitVec_and, BitVec.getLsbD_and, gr_bit hW, Int64.toBitVec_toInt32, BitVec.getLsbD_signExtend, Int64.toBitVec_or, BitVec.getLsbD_or, bit_shr, BitVec.getLsbD_ushiftRight, bit_shl, BitVec.getLsbD_shiftLeft]
  have e : sh.toBitVec.toNat % 64 = s := by have := nn_toNat (x := sh) (by omega); omega
  have h1 := c_isub 64 sh; have r := rng32 (64 - sh)
  rw [show (64 : Int32).toInt = 64 from rfl] at h1
  have e2 : (64 - sh).toBitVec.toNat % 64 = 64 - s := by have := nn_toNat (x := 64 - sh) (by omega); omega
  have hx := R.2.2 k hk
  rw [e, e2]
  by_cases c : j < W
  · have h1 := R.1 k hk j c
    unfold bitAt at h1
    by_cases d : s + j < 64
    · rw [show (k * W + j) / 64 = kw by omega, show (k * W + j) % 64 = s + j by omega] at h1
      rw [h1]; simp [c, hj, show j < 64 by omega, show j < 64 - s by omega]
    · rw [show (k * W + j) / 64 = kw + 1 by omega, show (k * W + j) % 64 = j - (64 - s) by omega] at h1
      rw [h1, BitVec.getLsbD_of_ge _ (s + j) (by omega)]; simp [c, hj, show j < 64 by omega, show ¬ j < 64 - s by omega]
  · rw [hi_bits hx.1 hx.2 (by omega)]; simp [c]
theorem cap_ok {g : Nat → Int64} {len W cnt : Nat} {xs : Nat → Int32} (P : PP g len W cnt xs) : cnt * W ≤ 64 * len := by
  have h1 := P.2.2.2.2.1
  have h2 := Nat.div_mul_le_self (64 * len) W
  have h3 := Nat.mul_le_mul_right W h1
  omega
theorem get_fit {g : Nat → Int64} {len W cnt k : Nat} {xs : Nat → Int32} (P : PP g len W cnt xs) (hk : k < cnt) : k * W + W ≤ 64 * len := by
  have h1 := cap_ok P
  have h2 : (k + 1) * W ≤ cnt * W := Nat.mul_le_mul_right _ (by omega)
  rw [Nat.succ_mul] at h2; omega
theorem get_lt {g : Nat → Int64} {len W cnt k : Nat} {xs : Nat → Int32} (P : PP g len W cnt xs) (hk : k < cnt) : k * W / 64 < len := by
  have h1 := get_fit P hk; have := P.2.2.1; omega
theorem sum_of {sh : Int32} {s W : Nat} (hs : sh.toInt = s) (hs2 : s < 64) (hW : W ≤ 31) : (sh + Int32.ofNat W).toInt = s + W := by
  have h1 := c_iadd sh (Int32.ofNat W); have r := rng32 (sh + Int32.ofNat W)
  rw [hs, ofN (by omega)] at h1; omega
theorem sh_big {sh : Int32} {q W : Nat} (hs : sh.toInt = (q % 64 : Nat)) (hW : W ≤ 31) (c : (64 : Int32) < sh + Int32.ofNat W) : 64 < q % 64 + W ∧ 0 < q % 64 := by
  rw [Int32.lt_iff_toInt_lt, sum_of hs (Nat.mod_lt _ (by decide)) hW, show (64 : Int32).toInt = 64 from rfl] at c
  omega
theorem sh_small {sh : Int32} {q W : Nat} (hs : sh.toInt = (q % 64 : Nat)) (hW : W ≤ 31) (c : ¬ (64 : Int32) < sh + Int32.ofNat W) : q % 64 + W ≤ 64 := by
  rw [Int32.lt_iff_toInt_lt, sum_of hs (Nat.mod_lt _ (by decide)) hW, show (64 : Int32).toInt = 64 from rfl] at c
  omega
theorem sh_pos {g : Nat → Int64} {len W cnt q : Nat} {xs : Nat → Int32} {sh : Int32} (P : PP g len W cnt xs) (hs : sh.toInt = (q % 64 : Nat)) (c : (64 : Int32) < sh + Int32.ofNat W) : 0 < q % 64 := (sh_big hs P.2.2.2.1 c).2
theorem sh_fit {g : Nat → Int64} {len W cnt q : Nat} {xs : Nat → Int32} {sh : Int32} (P : PP g len W cnt xs) (hs : sh.toInt = (q % 64 : Nat)) (c : ¬ (64 : Int32) < sh + Int32.ofNat W) : q % 64 + W ≤ 64 := sh_small hs P.2.2.2.1 c
theorem wd1' {wd : Int32} {k : Nat} (h : wd.toInt = k) (hk : k < 1000) : (wd + 1).toInt = (k + 1 : Nat) := by
  have h1 := c_iadd wd 1; have r := rng32 (wd + 1)
  rw [show (1 : Int32).toInt = 1 from rfl] at h1; omega
theorem wd1 {g : Nat → Int64} {len W cnt k : Nat} {xs : Nat → Int32} {wd : Int32} (h : wd.toInt = k) (hk : k < len) (P : PP g len W cnt xs) : (wd + 1).toInt = (k + 1 : Nat) := wd1' h (by have := P.2.1; omega)
theorem get_lt2 {g : Nat → Int64} {len W cnt k : Nat} {xs : Nat → Int32} {sh : Int32} (P : PP g len W cnt xs) (hk : k < cnt) (hs : sh.toInt = (k * W % 64 : Nat)) (c : (64 : Int32) < sh + Int32.ofNat W) : k * W / 64 + 1 < len := by
  have h1 := get_fit P hk; have h2 := sh_big hs P.2.2.2.1 c; have h3 := Nat.div_add_mod (k * W) 64; omega
theorem ofN_inj {i j : Nat} (hi : i < 2147483648) (hj : j < 2147483648) (h : Int32.ofNat i = Int32.ofNat j) : i = j := by
  have := congrArg Int32.toInt h; rw [ofN hi, ofN hj] at this; omega
theorem room_lt {len W : Nat} (hl : len = 1 ∨ len = 2) (hW : 1 ≤ W) : 64 * len / W ≤ 128 := by
  have := Nat.div_le_self (64 * len) W; omega
theorem room_ge {W : Nat} (hW1 : 1 ≤ W) (hW : W ≤ 31) : 4 ≤ 64 * 2 / W := (Nat.le_div_iff_mul_le (by omega)).mpr (by omega)
theorem len_one {g : Nat → Int64} {len W cnt : Nat} {xs : Nat → Int32} (P : PP g len W cnt xs) (hc : cnt ≤ 3) (c : Int32.ofNat cnt = Int32.ofNat (64 * len / W)) : len = 1 := by
  have h1 := room_lt P.2.1 P.2.2.1
  have h2 := ofN_inj (by omega) (by omega) c
  rcases P.2.1 with q | q
  · exact q
  · subst q; have := room_ge P.2.2.1 P.2.2.2.1; omega
theorem fit1 {g : Nat → Int64} {len W cnt : Nat} {xs : Nat → Int32} (P : PP g len W cnt xs) (hc : cnt ≤ 3) (c : ¬ Int32.ofNat cnt = Int32.ofNat (64 * len / W)) : (cnt + 1) * W ≤ 64 * len := by
  have h1 : ¬ cnt = 64 * len / W := fun q => c (by rw [← q])
  have h2 := P.2.2.2.2.1
  have h3 := P.2.2.1
  exact (Nat.le_div_iff_mul_le (by omega)).mp (by omega)
theorem fit2 {cnt W : Nat} (hc : cnt ≤ 3) (hW : W ≤ 31) : (cnt + 1) * W ≤ 64 * 2 := by
  have := Nat.mul_le_mul (show cnt + 1 ≤ 4 by omega) hW; omega
theorem grow_ok {g g' : Nat → Int64} {W cnt : Nat} {xs : Nat → Int32} (P : PP g 1 W cnt xs) (hc : cnt ≤ 3) (h0 : g' 0 = g 0) (h1 : g' 1 = 0) : PP g' 2 W cnt xs :=
  ⟨P.1.grow (by have := cap_ok P; omega) h0 h1, Or.inr rfl, P.2.2.1, P.2.2.2.1, by have := room_ge P.2.2.1 P.2.2.2.1; omega, by omega⟩
theorem ofN_ne {W : Nat} (h1 : 1 ≤ W) (h2 : W ≤ 31) : Int32.ofNat W ≠ 0 := fun q => by
  have := congrArg Int32.toInt q; rw [ofN (by omega), show (0 : Int32).toInt = 0 from rfl] at this; omega
theorem div_of {x : Int32} {n W : Nat} (hx : x.toInt = n) (hn : n < 2147483648) (h1 : 1 ≤ W) (h2 : W ≤ 31) : x / Int32.ofNat W = Int32.ofNat (n / W) := by
  apply Int32.toInt_inj.mp
  have q : Int32.ofNat W ≠ -1 := fun q => by
    have := congrArg Int32.toInt q; rw [ofN (by omega), show (-1 : Int32).toInt = -1 from rfl] at this; omega
  rw [(c_idiv x (Int32.ofNat W) W (ofN (by omega)) q).1 (by omega), hx, ofN (by have := Nat.div_le_self n W; omega)]
  rfl
theorem room_eq {rr : Int32} {W : Nat} (h : rr = ((2 : Int32) * (64 : Int32)) / Int32.ofNat W) (h1 : 1 ≤ W) (h2 : W ≤ 31) : rr = Int32.ofNat (64 * 2 / W) := by
  rw [h]; exact div_of (n := 128) (by decide) (by decide) h1 h2
theorem room_eq2 {rr : Int32} {lb W : Nat} (h : rr = ((Int32.ofNat lb) * (64 : Int32)) / Int32.ofNat W) (hl : lb = 1 ∨ lb = 2) (h1 : 1 ≤ W) (h2 : W ≤ 31) : rr = Int32.ofNat (64 * lb / W) := by
  rw [h]; refine div_of ?_ (by omega) h1 h2
  rcases hl with rfl | rfl <;> decide
theorem succ_eq {cc : Int32} {cnt : Nat} (h : cc = Int32.ofNat cnt + 1) (hc : cnt < 1000) : cc = Int32.ofNat (cnt + 1) := by
  apply Int32.toInt_inj.mp
  have h1 := c_iadd (Int32.ofNat cnt) 1; have r := rng32 cc
  rw [← h, ofN (by omega), show (1 : Int32).toInt = 1 from rfl] at h1
  rw [ofN (by omega)]; omega
theorem pow31 {W : Nat} (hW : W ≤ 31) : 1 ≤ 2 ^ W ∧ 2 ^ W ≤ 2147483648 := ⟨Nat.one_le_two_pow, by have := Nat.pow_le_pow_right (n := 2) (by decide) hW; omega⟩
theorem gr_int {W : Nat} (hW : W ≤ 31) : (Int32.ofNat (2 ^ W - 1)).toInt = (2 : Int) ^ W - 1 := by
  have h := pow31 hW
  rw [ofN (by omega)]
  have e : ((2 ^ W : Nat) : Int) = (2 : Int) ^ W := by simp
  rw [← e]; omega
theorem le_gr {v : Int32} {W : Nat} (hv : 0 ≤ v.toInt ∧ v.toInt < 2 ^ W) (hW : W ≤ 31) : ¬ Int32.ofNat (2 ^ W - 1) < v := by
  rw [Int32.lt_iff_toInt_lt, gr_int hW]; omega
theorem lt_gr {v : Int32} {W : Nat} (c : ¬ Int32.ofNat (2 ^ W - 1) < v) (hW : W ≤ 31) : v.toInt < 2 ^ W := by
  rw [Int32.lt_iff_toInt_lt, gr_int hW] at c; omega
theorem pos_of {v : Int32} {W : Nat} (c : Int32.ofNat (2 ^ W - 1) < v) (hW : W ≤ 31) : 0 < v.toInt := by
  rw [Int32.lt_iff_toInt_lt, gr_int hW] at c
  have h := (pow31 hW).1
  have e : ((2 ^ W : Nat) : Int) = (2 : Int) ^ W := by simp
  omega
theorem pow_le {v : Int32} {W W2 : Nat} (c : Int32.ofNat (2 ^ W - 1) < v) (hW : W ≤ 31) (h2 : v.toInt < 2 ^ W2) : W ≤ W2 := by
  rw [Int32.lt_iff_toInt_lt, gr_int hW] at c
  apply Nat.le_of_not_lt; intro h3
  have h4 := Nat.pow_le_pow_right (n := 2) (by decide) (Nat.le_of_lt h3)
  have e1 : ((2 ^ W : Nat) : Int) = (2 : Int) ^ W := by simp
  have e2 : ((2 ^ W2 : Nat) : Int) = (2 : Int) ^ W2 := by simp
  omega
theorem ne_or {x u v : Addr} {n : Nat} (h : v = u ∨ n ≤ v) (h1 : x ≠ u) (h2 : x < n) : x ≠ v := by
  rcases h with rfl | h
  · exact h1
  · exact Nat.ne_of_lt (Nat.lt_of_lt_of_le h2 h)
theorem sz_or {u v n k : Nat} (h : v = u ∨ n ≤ v) (h1 : k ≤ u) (h2 : k ≤ n) : k ≤ v := by
  rcases h with rfl | h <;> omega
theorem upd_self (xs : Nat → Int32) (k i : Nat) : upd xs k (xs k) i = xs i := by
  unfold upd; split
  · next h => rw [h]
  · rfl
theorem wide_ok {g : Nat → Int64} {len W cnt Y k : Nat} {xs : Nat → Int32} (P : PP g len W cnt xs) (h : W ≤ Y) (hk : k < cnt) : 0 ≤ (xs k).toInt ∧ (xs k).toInt < 2 ^ Y := by
  have h1 := P.1.2.2 k hk
  have h2 := Nat.pow_le_pow_right (n := 2) (by decide) h
  have e1 : ((2 ^ W : Nat) : Int) = (2 : Int) ^ W := by simp
  have e2 : ((2 ^ Y : Nat) : Int) = (2 : Int) ^ Y := by simp
  omega
theorem nnx {x0 a : Int32} (h : x0 = a &&& 2147483647) : 0 ≤ x0.toInt := by
  have h1 := c_mask a 2147483647 31 (by decide) (by decide)
  rw [← h] at h1; omega
theorem nonneg {mz : Int32} {n : Nat} (h : mz.toInt = n) : ¬ mz < 0 := by
  rw [Int32.lt_iff_toInt_lt, h, show (0 : Int32).toInt = 0 from rfl]; omega
theorem le2 {mz : Int32} {n : Nat} (h : mz.toInt = n) (h2 : n = 1 ∨ n = 2) : mz.toNatClampNeg ≤ 2 := by
  rw [nat_at h]; omega
theorem gr_ok {gg : Int32} {Y : Nat} (h : gg = (((1 : Int64) <<< ((Int32.ofNat Y) &&& 0x3f).toInt64) - (1 : Int64)).toInt32) (hY : Y ≤ 31) : gg = Int32.ofNat (2 ^ Y - 1) := by
  have hs : ∀ y : Fin 32, (((1 : Int64) <<< ((Int32.ofNat y) &&& 0x3f).toInt64) - (1 : Int64)).toInt32 = Int32.ofNat (2 ^ y.val - 1) := by decide +kernel
  rw [h]; exact hs ⟨Y, by omega⟩
theorem max_ok {mz : Int32} {len Y c : Nat} (h : mz = fMax (Int32.ofNat len) (((((Int32.ofNat c).toInt64 * (Int32.ofNat Y).toInt64).toUInt64 >>> ((6 : Int32) &&& 0x3f).toInt64.toUInt64).toInt64).toInt32 + (1 : Int32))) (hc : c ≤ 3) (hY : Y ≤ 31) (hl : len = 1 ∨ len = 2) : ∃ lb : Nat, mz.toInt = lb ∧ (lb = 1 ∨ lb = 2) ∧ True := by
  obtain ⟨e1, -⟩ := pos_ok (ix := Int32.ofNat c) (k := c) (W := Y) (ofN (by omega)) (by omega) hY rfl rfl rfl
  have e2 := wd1' e1 (by have := Nat.mul_le_mul hc hY; omega)
  have h3 := Nat.mul_le_mul hc hY
  have e3 : (Int32.ofNat len).toInt = len := ofN (by omega)
  rw [fMax] at h
  split at h
  · exact ⟨_, by rw [h]; exact e2, by omega, trivial⟩
  · next q =>
    rw [Int32.lt_iff_toInt_lt, e2, e3] at q
    exact ⟨len, by rw [h, e3], hl, trivial⟩
theorem us {x : Int32} (n : Int32) (k : Nat) (hk : n.toBitVec.toNat % 32 = k) (h0 : 0 < k) (hx : 0 ≤ x.toInt) : ((x.toUInt32 >>> (n &&& 31).toUInt32).toInt32).toInt = x.toInt / (2 ^ k : Nat) := by
  rw [c_iushr x n k hk h0, Int.emod_eq_of_lt hx (by have := x.toInt_lt; omega)]
set_option maxHeartbeats 4000000 in
theorem nlz_ok {v : Int32} (hv : 0 < v.toInt) : ∃ W2 : Nat, 1 ≤ W2 ∧ W2 ≤ 31 ∧ v.toInt < 2 ^ W2 ∧ (fNlz v).toInt = 32 - W2 := by
  have hb := v.toInt_lt
  have hp : (0 : Int32) < v := by rw [Int32.lt_iff_toInt_lt]; exact hv
  unfold fNlz
  rw [if_pos hp]
  by_cases c1 : v < (65536 : Int32)
  · rw [if_pos c1]; rw [Int32.lt_iff_toInt_lt, show (65536 : Int32).toInt = 65536 from rfl] at c1
    by_cases c2 : v < (256 : Int32)
    · rw [if_pos c2]; rw [Int32.lt_iff_toInt_lt, show (256 : Int32).toInt = 256 from rfl] at c2
      by_cases c3 : v < (16 : Int32)
      · rw [if_pos c3]; rw [Int32.lt_iff_toInt_lt, show (16 : Int32).toInt = 16 from rfl] at c3
        by_cases c4 : v < (4 : Int32)
        · rw [if_pos c4]; rw [Int32.lt_iff_toInt_lt, show (4 : Int32).toInt = 4 from rfl] at c4
          have hl := us (x := v) 1 1 (by decide) (by decide) (by omega)
          rw [show ((2 ^ 1 : Nat) : Int) = 2 from rfl] at hl
          have hs := c_isub (31 : Int32) (((v).toUInt32 >>> ((1 : Int32) &&& 31).toUInt32).toInt32)
          rw [show (31 : Int32).toInt = 31 from rfl] at hs
          have hr := rng32 ((31 : Int32) - (((v).toUInt32 >>> ((1 : Int32) &&& 31).toUInt32).toInt32))
          by_cases q : (v).toInt < 2
          · exact ⟨1, by decide, by decide, by rw [show (2 : Int) ^ 1 = 2 from rfl]; omega, by omega⟩
          · exact ⟨2, by decide, by decide, by rw [show (2 : Int) ^ 2 = 4 from rfl]; omega, by omega⟩
        · rw [if_neg c4]; rw [Int32.lt_iff_toInt_lt, show (4 : Int32).toInt = 4 from rfl] at c4
          have h5 := us (x := v) 2 2 (by decide) (by decide) (by omega)
          rw [show ((2 ^ 2 : Nat) : Int) = 4 from rfl] at h5
          have hl := us (x := ((v).toUInt32 >>> ((2 : Int32) &&& 31).toUInt32).toInt32) 1 1 (by decide) (by decide) (by omega)
          rw [show ((2 ^ 1 : Nat) : Int) = 2 from rfl] at hl
          have hs := c_isub (29 : Int32) (((((v).toUInt32 >>> ((2 : Int32) &&& 31).toUInt32).toInt32).toUInt32 >>> ((1 : Int32) &&& 31).toUInt32).toInt32)
          rw [show (29 : Int32).toInt = 29 from rfl] at hs
          have hr := rng32 ((29 : Int32) - (((((v).toUInt32 >>> ((2 : Int32) &&& 31).toUInt32).toInt32).toUInt32 >>> ((1 : Int32) &&& 31).toUInt32).toInt32))
          by_cases q : (((v).toUInt32 >>> ((2 : Int32) &&& 31).toUInt32).toInt32).toInt < 2
          · exact ⟨3, by decide, by decide, by rw [show (2 : Int) ^ 3 = 8 from rfl]; omega, by omega⟩
          · exact ⟨4, by decide, by decide, by rw [show (2 : Int) ^ 4 = 16 from rfl]; omega, by omega⟩
      · rw [if_neg c3]; rw [Int32.lt_iff_toInt_lt, show (16 : Int32).toInt = 16 from rfl] at c3
        have h6 := us (x := v) 4 4 (by decide) (by decide) (by omega)
        rw [show ((2 ^ 4 : Nat) : Int) = 16 from rfl] at h6
        by_cases c7 : ((v).toUInt32 >>> ((4 : Int32) &&& 31).toUInt32).toInt32 < (4 : Int32)
        · rw [if_pos c7]; rw [Int32.lt_iff_toInt_lt, show (4 : Int32).toInt = 4 from rfl] at c7
          have hl := us (x := ((v).toUInt32 >>> ((4 : Int32) &&& 31).toUInt32).toInt32) 1 1 (by decide) (by decide) (by omega)
          rw [show ((2 ^ 1 : Nat) : Int) = 2 from rfl] at hl
          have hs := c_isub (27 : Int32) (((((v).toUInt32 >>> ((4 : Int32) &&& 31).toUInt32).toInt32).toUInt32 >>> ((1 : Int32) &&& 31).toUInt32).toInt32)
          rw [show (27 : Int32).toInt = 27 from rfl] at hs
          have hr := rng32 ((27 : Int32) - (((((v).toUInt32 >>> ((4 : Int32) &&& 31).toUInt32).toInt32).toUInt32 >>> ((1 : Int32) &&& 31).toUInt32).toInt32))
          by_cases q : (((v).toUInt32 >>> ((4 : Int32) &&& 31).toUInt32).toInt32).toInt < 2
          · exact ⟨5, by decide, by decide, by rw [show (2 : Int) ^ 5 = 32 from rfl]; omega, by omega⟩
          · exact ⟨6, by decide, by decide, by rw [show (2 : Int) ^ 6 = 64 from rfl]; omega, by omega⟩
        · rw [if_neg c7]; rw [Int32.lt_iff_toInt_lt, show (4 : Int32).toInt = 4 from rfl] at c7
          have h8 := us (x := ((v).toUInt32 >>> ((4 : Int32) &&& 31).toUInt32).toInt32) 2 2 (by decide) (by decide) (by omega)
          rw [show ((2 ^ 2 : Nat) : Int) = 4 from rfl] at h8
          have hl := us (x := ((((v).toUInt32 >>> ((4 : Int32) &&& 31).toUInt32).toInt32).toUInt32 >>> ((2 : Int32) &&& 31).toUInt32).toInt32) 1 1 (by decide) (by decide) (by omega)
          rw [show ((2 ^ 1 : Nat) : Int) = 2 from rfl] at hl
          have hs := c_isub (25 : Int32) (((((((v).toUInt32 >>> ((4 : Int32) &&& 31).toUInt32).toInt32).toUInt32 >>> ((2 : Int32) &&& 31).toUInt32).toInt32).toUInt32 >>> ((1 : Int32) &&& 31).toUInt32).toInt32)
          rw [show (25 : Int32).toInt = 25 from rfl] at hs
          have hr := rng32 ((25 : Int32) - (((((((v).toUInt32 >>> ((4 : Int32) &&& 31).toUInt32).toInt32).toUInt32 >>> ((2 : Int32) &&& 31).toUInt32).toInt32).toUInt32 >>> ((1 : Int32) &&& 31).toUInt32).toInt32))
          by_cases q : (((((v).toUInt32 >>> ((4 : Int32) &&& 31).toUInt32).toInt32).toUInt32 >>> ((2 : Int32) &&& 31).toUInt32).toInt32).toInt < 2
          · exact ⟨7, by decide, by decide, by rw [show (2 : Int) ^ 7 = 128 from rfl]; omega, by omega⟩
          · exact ⟨8, by decide, by decide, by rw [show (2 : Int) ^ 8 = 256 from rfl]; omega, by omega⟩
    · rw [if_neg c2]; rw [Int32.lt_iff_toInt_lt, show (256 : Int32).toInt = 256 from rfl] at c2
      have h9 := us (x := v) 8 8 (by decide) (by decide) (by omega)
      rw [show ((2 ^ 8 : Nat) : Int) = 256 from rfl] at h9
      by_cases c10 : ((v).toUInt32 >>> ((8 : Int32) &&& 31).toUInt32).toInt32 < (16 : Int32)
      · rw [if_pos c10]; rw [Int32.lt_iff_toInt_lt, show (16 : Int32).toInt = 16 from rfl] at c10
        by_cases c11 : ((v).toUInt32 >>> ((8 : Int32) &&& 31).toUInt32).toInt32 < (4 : Int32)
        · rw [if_pos c11]; rw [Int32.lt_iff_toInt_lt, show (4 : Int32).toInt = 4 from rfl] at c11
          have hl := us (x := ((v).toUInt32 >>> ((8 : Int32) &&& 31).toUInt32).toInt32) 1 1 (by decide) (by decide) (by omega)
          rw [show ((2 ^ 1 : Nat) : Int) = 2 from rfl] at hl
          have hs := c_isub (23 : Int32) (((((v).toUInt32 >>> ((8 : Int32) &&& 31).toUInt32).toInt32).toUInt32 >>> ((1 : Int32) &&& 31).toUInt32).toInt32)
          rw [show (23 : Int32).toInt = 23 from rfl] at hs
          have hr := rng32 ((23 : Int32) - (((((v).toUInt32 >>> ((8 : Int32) &&& 31).toUInt32).toInt32).toUInt32 >>> ((1 : Int32) &&& 31).toUInt32).toInt32))
          by_cases q : (((v).toUInt32 >>> ((8 : Int32) &&& 31).toUInt32).toInt32).toInt < 2
          · exact ⟨9, by decide, by decide, by rw [show (2 : Int) ^ 9 = 512 from rfl]; omega, by omega⟩
          · exact ⟨10, by decide, by decide, by rw [show (2 : Int) ^ 10 = 1024 from rfl]; omega, by omega⟩
        · rw [if_neg c11]; rw [Int32.lt_iff_toInt_lt, show (4 : Int32).toInt = 4 from rfl] at c11
          have h12 := us (x := ((v).toUInt32 >>> ((8 : Int32) &&& 31).toUInt32).toInt32) 2 2 (by decide) (by decide) (by omega)
          rw [show ((2 ^ 2 : Nat) : Int) = 4 from rfl] at h12
          have hl := us (x := ((((v).toUInt32 >>> ((8 : Int32) &&& 31).toUInt32).toInt32).toUInt32 >>> ((2 : Int32) &&& 31).toUInt32).toInt32) 1 1 (by decide) (by decide) (by omega)
          rw [show ((2 ^ 1 : Nat) : Int) = 2 from rfl] at hl
          have hs := c_isub (21 : Int32) (((((((v).toUInt32 >>> ((8 : Int32) &&& 31).toUInt32).toInt32).toUInt32 >>> ((2 : Int32) &&& 31).toUInt32).toInt32).toUInt32 >>> ((1 : Int32) &&& 31).toUInt32).toInt32)
          rw [show (21 : Int32).toInt = 21 from rfl] at hs
          have hr := rng32 ((21 : Int32) - (((((((v).toUInt32 >>> ((8 : Int32) &&& 31).toUInt32).toInt32).toUInt32 >>> ((2 : Int32) &&& 31).toUInt32).toInt32).toUInt32 >>> ((1 : Int32) &&& 31).toUInt32).toInt32))
          by_cases q : (((((v).toUInt32 >>> ((8 : Int32) &&& 31).toUInt32).toInt32).toUInt32 >>> ((2 : Int32) &&& 31).toUInt32).toInt32).toInt < 2
          · exact ⟨11, by decide, by decide, by rw [show (2 : Int) ^ 11 = 2048 from rfl]; omega, by omega⟩
          · exact ⟨12, by decide, by decide, by rw [show (2 : Int) ^ 12 = 4096 from rfl]; omega, by omega⟩
      · rw [if_neg c10]; rw [Int32.lt_iff_toInt_lt, show (16 : Int32).toInt = 16 from rfl] at c10
        have h13 := us (x := ((v).toUInt32 >>> ((8 : Int32) &&& 31).toUInt32).toInt32) 4 4 (by decide) (by decide) (by omega)
        rw [show ((2 ^ 4 : Nat) : Int) = 16 from rfl] at h13
        by_cases c14 : ((((v).toUInt32 >>> ((8 : Int32) &&& 31).toUInt32).toInt32).toUInt32 >>> ((4 : Int32) &&& 31).toUInt32).toInt32 < (4 : Int32)
        · rw [if_pos c14]; rw [Int32.lt_iff_toInt_lt, show (4 : Int32).toInt = 4 from rfl] at c14
          have hl := us (x := ((((v).toUInt32 >>> ((8 : Int32) &&& 31).toUInt32).toInt32).toUInt32 >>> ((4 : Int32) &&& 31).toUInt32).toInt32) 1 1 (by decide) (by decide) (by omega)
          rw [show ((2 ^ 1 : Nat) : Int) = 2 from rfl] at hl
          have hs := c_isub (19 : Int32) (((((((v).toUInt32 >>> ((8 : Int32) &&& 31).toUInt32).toInt32).toUInt32 >>> ((4 : Int32) &&& 31).toUInt32).toInt32).toUInt32 >>> ((1 : Int32) &&& 31).toUInt32).toInt32)
          rw [show (19 : Int32).toInt = 19 from rfl] at hs
          have hr := rng32 ((19 : Int32) - (((((((v).toUInt32 >>> ((8 : Int32) &&& 31).toUInt32).toInt32).toUInt32 >>> ((4 : Int32) &&& 31).toUInt32).toInt32).toUInt32 >>> ((1 : Int32) &&& 31).toUInt32).toInt32))
          by_cases q : (((((v).toUInt32 >>> ((8 : Int32) &&& 31).toUInt32).toInt32).toUInt32 >>> ((4 : Int32) &&& 31).toUInt32).toInt32).toInt < 2
          · exact ⟨13, by decide, by decide, by rw [show (2 : Int) ^ 13 = 8192 from rfl]; omega, by omega⟩
          · exact ⟨14, by decide, by decide, by rw [show (2 : Int) ^ 14 = 16384 from rfl]; omega, by omega⟩
        · rw [if_neg c14]; rw [Int32.lt_iff_toInt_lt, show (4 : Int32).toInt = 4 from rfl] at c14
          have h15 := us (x := ((((v).toUInt32 >>> ((8 : Int32) &&& 31).toUInt32).toInt32).toUInt32 >>> ((4 : Int32) &&& 31).toUInt32).toInt32) 2 2 (by decide) (by decide) (by omega)
          rw [show ((2 ^ 2 : Nat) : Int) = 4 from rfl] at h15
          have hl := us (x := ((((((v).toUInt32 >>> ((8 : Int32) &&& 31).toUInt32).toInt32).toUInt32 >>> ((4 : Int32) &&& 31).toUInt32).toInt32).toUInt32 >>> ((2 : Int32) &&& 31).toUInt32).toInt32) 1 1 (by decide) (by decide) (by omega)
          rw [show ((2 ^ 1 : Nat) : Int) = 2 from rfl] at hl
          have hs := c_isub (17 : Int32) (((((((((v).toUInt32 >>> ((8 : Int32) &&& 31).toUInt32).toInt32).toUInt32 >>> ((4 : Int32) &&& 31).toUInt32).toInt32).toUInt32 >>> ((2 : Int32) &&& 31).toUInt32).toInt32).toUInt32 >>> ((1 : Int32) &&& 31).toUInt32).toInt32)
          rw [show (17 : Int32).toInt = 17 from rfl] at hs
          have hr := rng32 ((17 : Int32) - (((((((((v).toUInt32 >>> ((8 : Int32) &&& 31).toUInt32).toInt32).toUInt32 >>> ((4 : Int32) &&& 31).toUInt32).toInt32).toUInt32 >>> ((2 : Int32) &&& 31).toUInt32).toInt32).toUInt32 >>> ((1 : Int32) &&& 31).toUInt32).toInt32))
          by_cases q : (((((((v).toUInt32 >>> ((8 : Int32) &&& 31).toUInt32).toInt32).toUInt32 >>> ((4 : Int32) &&& 31).toUInt32).toInt32).toUInt32 >>> ((2 : Int32) &&& 31).toUInt32).toInt32).toInt < 2
          · exact ⟨15, by decide, by decide, by rw [show (2 : Int) ^ 15 = 32768 from rfl]; omega, by omega⟩
          · exact ⟨16, by decide, by decide, by rw [show (2 : Int) ^ 16 = 65536 from rfl]; omega, by omega⟩
  · rw [if_neg c1]; rw [Int32.lt_iff_toInt_lt, show (65536 : Int32).toInt = 65536 from rfl] at c1
    have h16 := us (x := v) 16 16 (by decide) (by decide) (by omega)
    rw [show ((2 ^ 16 : Nat) : Int) = 65536 from rfl] at h16
    by_cases c17 : ((v).toUInt32 >>> ((16 : Int32) &&& 31).toUInt32).toInt32 < (256 : Int32)
    · rw [if_pos c17]; rw [Int32.lt_iff_toInt_lt, show (256 : Int32).toInt = 256 from rfl] at c17
      by_cases c18 : ((v).toUInt32 >>> ((16 : Int32) &&& 31).toUInt32).toInt32 < (16 : Int32)
      · rw [if_pos c18]; rw [Int32.lt_iff_toInt_lt, show (16 : Int32).toInt = 16 from rfl] at c18
        by_cases c19 : ((v).toUInt32 >>> ((16 : Int32) &&& 31).toUInt32).toInt32 < (4 : Int32)
        · rw [if_pos c19]; rw [Int32.lt_iff_toInt_lt, show (4 : Int32).toInt = 4 from rfl] at c19
          have hl := us (x := ((v).toUInt32 >>> ((16 : Int32) &&& 31).toUInt32).toInt32) 1 1 (by decide) (by decide) (by omega)
          rw [show ((2 ^ 1 : Nat) : Int) = 2 from rfl] at hl
          have hs := c_isub (15 : Int32) (((((v).toUInt32 >>> ((16 : Int32) &&& 31).toUInt32).toInt32).toUInt32 >>> ((1 : Int32) &&& 31).toUInt32).toInt32)
          rw [show (15 : Int32).toInt = 15 from rfl] at hs
          have hr := rng32 ((15 : Int32) - (((((v).toUInt32 >>> ((16 : Int32) &&& 31).toUInt32).toInt32).toUInt32 >>> ((1 : Int32) &&& 31).toUInt32).toInt32))
          by_cases q : (((v).toUInt32 >>> ((16 : Int32) &&& 31).toUInt32).toInt32).toInt < 2
          · exact ⟨17, by decide, by decide, by rw [show (2 : Int) ^ 17 = 131072 from rfl]; omega, by omega⟩
          · exact ⟨18, by decide, by decide, by rw [show (2 : Int) ^ 18 = 262144 from rfl]; omega, by omega⟩
        · rw [if_neg c19]; rw [Int32.lt_iff_toInt_lt, show (4 : Int32).toInt = 4 from rfl] at c19
          have h20 := us (x := ((v).toUInt32 >>> ((16 : Int32) &&& 31).toUInt32).toInt32) 2 2 (by decide) (by decide) (by omega)
          rw [show ((2 ^ 2 : Nat) : Int) = 4 from rfl] at h20
          have hl := us (x := ((((v).toUInt32 >>> ((16 : Int32) &&& 31).toUInt32).toInt32).toUInt32 >>> ((2 : Int32) &&& 31).toUInt32).toInt32) 1 1 (by decide) (by decide) (by omega)
          rw [show ((2 ^ 1 : Nat) : Int) = 2 from rfl] at hl
          have hs := c_isub (13 : Int32) (((((((v).toUInt32 >>> ((16 : Int32) &&& 31).toUInt32).toInt32).toUInt32 >>> ((2 : Int32) &&& 31).toUInt32).toInt32).toUInt32 >>> ((1 : Int32) &&& 31).toUInt32).toInt32)
          rw [show (13 : Int32).toInt = 13 from rfl] at hs
          have hr := rng32 ((13 : Int32) - (((((((v).toUInt32 >>> ((16 : Int32) &&& 31).toUInt32).toInt32).toUInt32 >>> ((2 : Int32) &&& 31).toUInt32).toInt32).toUInt32 >>> ((1 : Int32) &&& 31).toUInt32).toInt32))
          by_cases q : (((((v).toUInt32 >>> ((16 : Int32) &&& 31).toUInt32).toInt32).toUInt32 >>> ((2 : Int32) &&& 31).toUInt32).toInt32).toInt < 2
          · exact ⟨19, by decide, by decide, by rw [show (2 : Int) ^ 19 = 524288 from rfl]; omega, by omega⟩
          · exact ⟨20, by decide, by decide, by rw [show (2 : Int) ^ 20 = 1048576 from rfl]; omega, by omega⟩
      · rw [if_neg c18]; rw [Int32.lt_iff_toInt_lt, show (16 : Int32).toInt = 16 from rfl] at c18
        have h21 := us (x := ((v).toUInt32 >>> ((16 : Int32) &&& 31).toUInt32).toInt32) 4 4 (by decide) (by decide) (by omega)
        rw [show ((2 ^ 4 : Nat) : Int) = 16 from rfl] at h21
        by_cases c22 : ((((v).toUInt32 >>> ((16 : Int32) &&& 31).toUInt32).toInt32).toUInt32 >>> ((4 : Int32) &&& 31).toUInt32).toInt32 < (4 : Int32)
        · rw [if_pos c22]; rw [Int32.lt_iff_toInt_lt, show (4 : Int32).toInt = 4 from rfl] at c22
          have hl := us (x := ((((v).toUInt32 >>> ((16 : Int32) &&& 31).toUInt32).toInt32).toUInt32 >>> ((4 : Int32) &&& 31).toUInt32).toInt32) 1 1 (by decide) (by decide) (by omega)
          rw [show ((2 ^ 1 : Nat) : Int) = 2 from rfl] at hl
          have hs := c_isub (11 : Int32) (((((((v).toUInt32 >>> ((16 : Int32) &&& 31).toUInt32).toInt32).toUInt32 >>> ((4 : Int32) &&& 31).toUInt32).toInt32).toUInt32 >>> ((1 : Int32) &&& 31).toUInt32).toInt32)
          rw [show (11 : Int32).toInt = 11 from rfl] at hs
          have hr := rng32 ((11 : Int32) - (((((((v).toUInt32 >>> ((16 : Int32) &&& 31).toUInt32).toInt32).toUInt32 >>> ((4 : Int32) &&& 31).toUInt32).toInt32).toUInt32 >>> ((1 : Int32) &&& 31).toUInt32).toInt32))
          by_cases q : (((((v).toUInt32 >>> ((16 : Int32) &&& 31).toUInt32).toInt32).toUInt32 >>> ((4 : Int32) &&& 31).toUInt32).toInt32).toInt < 2
          · exact ⟨21, by decide, by decide, by rw [show (2 : Int) ^ 21 = 2097152 from rfl]; omega, by omega⟩
          · exact ⟨22, by decide, by decide, by rw [show (2 : Int) ^ 22 = 4194304 from rfl]; omega, by omega⟩
        · rw [if_neg c22]; rw [Int32.lt_iff_toInt_lt, show (4 : Int32).toInt = 4 from rfl] at c22
          have h23 := us (x := ((((v).toUInt32 >>> ((16 : Int32) &&& 31).toUInt32).toInt32).toUInt32 >>> ((4 : Int32) &&& 31).toUInt32).toInt32) 2 2 (by decide) (by decide) (by omega)
          rw [show ((2 ^ 2 : Nat) : Int) = 4 from rfl] at h23
          have hl := us (x := ((((((v).toUInt32 >>> ((16 : Int32) &&& 31).toUInt32).toInt32).toUInt32 >>> ((4 : Int32) &&& 31).toUInt32).toInt32).toUInt32 >>> ((2 : Int32) &&& 31).toUInt32).toInt32) 1 1 (by decide) (by decide) (by omega)
          rw [show ((2 ^ 1 : Nat) : Int) = 2 from rfl] at hl
          have hs := c_isub (9 : Int32) (((((((((v).toUInt32 >>> ((16 : Int32) &&& 31).toUInt32).toInt32).toUInt32 >>> ((4 : Int32) &&& 31).toUInt32).toInt32).toUInt32 >>> ((2 : Int32) &&& 31).toUInt32).toInt32).toUInt32 >>> ((1 : Int32) &&& 31).toUInt32).toInt32)
          rw [show (9 : Int32).toInt = 9 from rfl] at hs
          have hr := rng32 ((9 : Int32) - (((((((((v).toUInt32 >>> ((16 : Int32) &&& 31).toUInt32).toInt32).toUInt32 >>> ((4 : Int32) &&& 31).toUInt32).toInt32).toUInt32 >>> ((2 : Int32) &&& 31).toUInt32).toInt32).toUInt32 >>> ((1 : Int32) &&& 31).toUInt32).toInt32))
          by_cases q : (((((((v).toUInt32 >>> ((16 : Int32) &&& 31).toUInt32).toInt32).toUInt32 >>> ((4 : Int32) &&& 31).toUInt32).toInt32).toUInt32 >>> ((2 : Int32) &&& 31).toUInt32).toInt32).toInt < 2
          · exact ⟨23, by decide, by decide, by rw [show (2 : Int) ^ 23 = 8388608 from rfl]; omega, by omega⟩
          · exact ⟨24, by decide, by decide, by rw [show (2 : Int) ^ 24 = 16777216 from rfl]; omega, by omega⟩
    · rw [if_neg c17]; rw [Int32.lt_iff_toInt_lt, show (256 : Int32).toInt = 256 from rfl] at c17
      have h24 := us (x := ((v).toUInt32 >>> ((16 : Int32) &&& 31).toUInt32).toInt32) 8 8 (by decide) (by decide) (by omega)
      rw [show ((2 ^ 8 : Nat) : Int) = 256 from rfl] at h24
      by_cases c25 : ((((v).toUInt32 >>> ((16 : Int32) &&& 31).toUInt32).toInt32).toUInt32 >>> ((8 : Int32) &&& 31).toUInt32).toInt32 < (16 : Int32)
      · rw [if_pos c25]; rw [Int32.lt_iff_toInt_lt, show (16 : Int32).toInt = 16 from rfl] at c25
        by_cases c26 : ((((v).toUInt32 >>> ((16 : Int32) &&& 31).toUInt32).toInt32).toUInt32 >>> ((8 : Int32) &&& 31).toUInt32).toInt32 < (4 : Int32)
        · rw [if_pos c26]; rw [Int32.lt_iff_toInt_lt, show (4 : Int32).toInt = 4 from rfl] at c26
          have hl := us (x := ((((v).toUInt32 >>> ((16 : Int32) &&& 31).toUInt32).toInt32).toUInt32 >>> ((8 : Int32) &&& 31).toUInt32).toInt32) 1 1 (by decide) (by decide) (by omega)
          rw [show ((2 ^ 1 : Nat) : Int) = 2 from rfl] at hl
          have hs := c_isub (7 : Int32) (((((((v).toUInt32 >>> ((16 : Int32) &&& 31).toUInt32).toInt32).toUInt32 >>> ((8 : Int32) &&& 31).toUInt32).toInt32).toUInt32 >>> ((1 : Int32) &&& 31).toUInt32).toInt32)
          rw [show (7 : Int32).toInt = 7 from rfl] at hs
          have hr := rng32 ((7 : Int32) - (((((((v).toUInt32 >>> ((16 : Int32) &&& 31).toUInt32).toInt32).toUInt32 >>> ((8 : Int32) &&& 31).toUInt32).toInt32).toUInt32 >>> ((1 : Int32) &&& 31).toUInt32).toInt32))
          by_cases q : (((((v).toUInt32 >>> ((16 : Int32) &&& 31).toUInt32).toInt32).toUInt32 >>> ((8 : Int32) &&& 31).toUInt32).toInt32).toInt < 2
          · exact ⟨25, by decide, by decide, by rw [show (2 : Int) ^ 25 = 33554432 from rfl]; omega, by omega⟩
          · exact ⟨26, by decide, by decide, by rw [show (2 : Int) ^ 26 = 67108864 from rfl]; omega, by omega⟩
        · rw [if_neg c26]; rw [Int32.lt_iff_toInt_lt, show (4 : Int32).toInt = 4 from rfl] at c26
          have h27 := us (x := ((((v).toUInt32 >>> ((16 : Int32) &&& 31).toUInt32).toInt32).toUInt32 >>> ((8 : Int32) &&& 31).toUInt32).toInt32) 2 2 (by decide) (by decide) (by omega)
          rw [show ((2 ^ 2 : Nat) : Int) = 4 from rfl] at h27
          have hl := us (x := ((((((v).toUInt32 >>> ((16 : Int32) &&& 31).toUInt32).toInt32).toUInt32 >>> ((8 : Int32) &&& 31).toUInt32).toInt32).toUInt32 >>> ((2 : Int32) &&& 31).toUInt32).toInt32) 1 1 (by decide) (by decide) (by omega)
          rw [show ((2 ^ 1 : Nat) : Int) = 2 from rfl] at hl
          have hs := c_isub (5 : Int32) (((((((((v).toUInt32 >>> ((16 : Int32) &&& 31).toUInt32).toInt32).toUInt32 >>> ((8 : Int32) &&& 31).toUInt32).toInt32).toUInt32 >>> ((2 : Int32) &&& 31).toUInt32).toInt32).toUInt32 >>> ((1 : Int32) &&& 31).toUInt32).toInt32)
          rw [show (5 : Int32).toInt = 5 from rfl] at hs
          have hr := rng32 ((5 : Int32) - (((((((((v).toUInt32 >>> ((16 : Int32) &&& 31).toUInt32).toInt32).toUInt32 >>> ((8 : Int32) &&& 31).toUInt32).toInt32).toUInt32 >>> ((2 : Int32) &&& 31).toUInt32).toInt32).toUInt32 >>> ((1 : Int32) &&& 31).toUInt32).toInt32))
          by_cases q : (((((((v).toUInt32 >>> ((16 : Int32) &&& 31).toUInt32).toInt32).toUInt32 >>> ((8 : Int32) &&& 31).toUInt32).toInt32).toUInt32 >>> ((2 : Int32) &&& 31).toUInt32).toInt32).toInt < 2
          · exact ⟨27, by decide, by decide, by rw [show (2 : Int) ^ 27 = 134217728 from rfl]; omega, by omega⟩
          · exact ⟨28, by decide, by decide, by rw [show (2 : Int) ^ 28 = 268435456 from rfl]; omega, by omega⟩
      · rw [if_neg c25]; rw [Int32.lt_iff_toInt_lt, show (16 : Int32).toInt = 16 from rfl] at c25
        have h28 := us (x := ((((v).toUInt32 >>> ((16 : Int32) &&& 31).toUInt32).toInt32).toUInt32 >>> ((8 : Int32) &&& 31).toUInt32).toInt32) 4 4 (by decide) (by decide) (by omega)
        rw [show ((2 ^ 4 : Nat) : Int) = 16 from rfl] at h28
        by_cases c29 : ((((((v).toUInt32 >>> ((16 : Int32) &&& 31).toUInt32).toInt32).toUInt32 >>> ((8 : Int32) &&& 31).toUInt32).toInt32).toUInt32 >>> ((4 : Int32) &&& 31).toUInt32).toInt32 < (4 : Int32)
        · rw [if_pos c29]; rw [Int32.lt_iff_toInt_lt, show (4 : Int32).toInt = 4 from rfl] at c29
          have hl := us (x := ((((((v).toUInt32 >>> ((16 : Int32) &&& 31).toUInt32).toInt32).toUInt32 >>> ((8 : Int32) &&& 31).toUInt32).toInt32).toUInt32 >>> ((4 : Int32) &&& 31).toUInt32).toInt32) 1 1 (by decide) (by decide) (by omega)
          rw [show ((2 ^ 1 : Nat) : Int) = 2 from rfl] at hl
          have hs := c_isub (3 : Int32) (((((((((v).toUInt32 >>> ((16 : Int32) &&& 31).toUInt32).toInt32).toUInt32 >>> ((8 : Int32) &&& 31).toUInt32).toInt32).toUInt32 >>> ((4 : Int32) &&& 31).toUInt32).toInt32).toUInt32 >>> ((1 : Int32) &&& 31).toUInt32).toInt32)
          rw [show (3 : Int32).toInt = 3 from rfl] at hs
          have hr := rng32 ((3 : Int32) - (((((((((v).toUInt32 >>> ((16 : Int32) &&& 31).toUInt32).toInt32).toUInt32 >>> ((8 : Int32) &&& 31).toUInt32).toInt32).toUInt32 >>> ((4 : Int32) &&& 31).toUInt32).toInt32).toUInt32 >>> ((1 : Int32) &&& 31).toUInt32).toInt32))
          by_cases q : (((((((v).toUInt32 >>> ((16 : Int32) &&& 31).toUInt32).toInt32).toUInt32 >>> ((8 : Int32) &&& 31).toUInt32).toInt32).toUInt32 >>> ((4 : Int32) &&& 31).toUInt32).toInt32).toInt < 2
          · exact ⟨29, by decide, by decide, by rw [show (2 : Int) ^ 29 = 536870912 from rfl]; omega, by omega⟩
          · exact ⟨30, by decide, by decide, by rw [show (2 : Int) ^ 30 = 1073741824 from rfl]; omega, by omega⟩
        · rw [if_neg c29]; rw [Int32.lt_iff_toInt_lt, show (4 : Int32).toInt = 4 from rfl] at c29
          have h30 := us (x := ((((((v).toUInt32 >>> ((16 : Int32) &&& 31).toUInt32).toInt32).toUInt32 >>> ((8 : Int32) &&& 31).toUInt32).toInt32).toUInt32 >>> ((4 : Int32) &&& 31).toUInt32).toInt32) 2 2 (by decide) (by decide) (by omega)
          rw [show ((2 ^ 2 : Nat) : Int) = 4 from rfl] at h30
          have hl := us (x := ((((((((v).toUInt32 >>> ((16 : Int32) &&& 31).toUInt32).toInt32).toUInt32 >>> ((8 : Int32) &&& 31).toUInt32).toInt32).toUInt32 >>> ((4 : Int32) &&& 31).toUInt32).toInt32).toUInt32 >>> ((2 : Int32) &&& 31).toUInt32).toInt32) 1 1 (by decide) (by decide) (by omega)
          rw [show ((2 ^ 1 : Nat) : Int) = 2 from rfl] at hl
          have hs := c_isub (1 : Int32) (((((((((((v).toUInt32 >>> ((16 : Int32) &&& 31).toUInt32).toInt32).toUInt32 >>> ((8 : Int32) &&& 31).toUInt32).toInt32).toUInt32 >>> ((4 : Int32) &&& 31).toUInt32).toInt32).toUInt32 >>> ((2 : Int32) &&& 31).toUInt32).toInt32).toUInt32 >>> ((1 : Int32) &&& 31).toUInt32).toInt32)
          rw [show (1 : Int32).toInt = 1 from rfl] at hs
          have hr := rng32 ((1 : Int32) - (((((((((((v).toUInt32 >>> ((16 : Int32) &&& 31).toUInt32).toInt32).toUInt32 >>> ((8 : Int32) &&& 31).toUInt32).toInt32).toUInt32 >>> ((4 : Int32) &&& 31).toUInt32).toInt32).toUInt32 >>> ((2 : Int32) &&& 31).toUInt32).toInt32).toUInt32 >>> ((1 : Int32) &&& 31).toUInt32).toInt32))
          by_cases q : (((((((((v).toUInt32 >>> ((16 : Int32) &&& 31).toUInt32).toInt32).toUInt32 >>> ((8 : Int32) &&& 31).toUInt32).toInt32).toUInt32 >>> ((4 : Int32) &&& 31).toUInt32).toInt32).toUInt32 >>> ((2 : Int32) &&& 31).toUInt32).toInt32).toInt < 2
          · exact ⟨31, by decide, by decide, by rw [show (2 : Int) ^ 31 = 2147483648 from rfl]; omega, by omega⟩
          · exfalso; omega
theorem wid_ok {wz v : Int32} (h : wz = fWid v.toInt64) (hv : 0 < v.toInt) : ∃ W2 : Nat, 1 ≤ W2 ∧ W2 ≤ 31 ∧ v.toInt < 2 ^ W2 ∧ wz = Int32.ofNat W2 := by
  obtain ⟨W2, h1, h2, h3, h4⟩ := nlz_ok hv
  refine ⟨W2, h1, h2, h3, Int32.toInt_inj.mp ?_⟩
  have e1 : v.toInt64.toInt32 = v := Int32.toInt_inj.mp (by have := c_l2i v.toInt64; have := c_i2l v; have := rng32 v.toInt64.toInt32; have := rng32 v; omega)
  have hs := c_lushr v.toInt64 32 32 (by decide) (by decide)
  have r0 := rng32 v
  rw [c_i2l, show ((2 ^ 32 : Nat) : Int) = 4294967296 from rfl] at hs
  have e2 : ((v.toInt64.toUInt64 >>> ((32 : Int32) &&& 0x3f).toInt64.toUInt64).toInt64).toInt32 = 0 := by
    apply Int32.toInt_inj.mp
    have q := c_l2i ((v.toInt64.toUInt64 >>> ((32 : Int32) &&& 0x3f).toInt64.toUInt64).toInt64)
    rw [hs] at q
    have r := rng32 ((v.toInt64.toUInt64 >>> ((32 : Int32) &&& 0x3f).toInt64.toUInt64).toInt64).toInt32
    rw [show (0 : Int32).toInt = 0 from rfl]
    omega
  rw [h, fWid, fLnz, if_pos e2, e1]
  have a1 := c_iadd 32 (fNlz v); have a2 := c_isub 64 (32 + fNlz v)
  have r1 := rng32 (32 + fNlz v); have r2 := rng32 (64 - (32 + fNlz v))
  rw [show (32 : Int32).toInt = 32 from rfl] at a1
  rw [show (64 : Int32).toInt = 64 from rfl] at a2
  rw [ofN (by omega)]
  omega

set_option maxRecDepth 65536 in
set_option maxHeartbeats 4000000 in
theorem ct_init (l : Launch) (Z : State) (a0 : Array Value) (hw : ∀ d ∈ tables_1, d.before a0 Z = true) (a : Addr) (h0 : Heap) (n0 : Nat) (Z0 : n0 ≤ h0.size) (ga : n0 ≤ a) (O : Pk Z h0 a .null (.int 0) (.int 0) (.int 0) (.int 0)) :
    Ct l Z (⟨"com/example/varve/varve/parquet/PackedNumbers", "<init>", "()V"⟩ : MethodName) prog_109_method_1_code 1 none ({ frames := 1, cells := 1, slots := 1, locals := 12 } : Room) #[(.ref a)] h0 n0 (fun r h => r = none ∧ ∃ u, Keep h0 h [a] ∧ Pk Z h a (.ref u) (.int 1) (.int 1) (.int 64) (.int 0) ∧ AJ Z h u 1 (fun _ => 0) ∧ h0.size ≤ u ∧ n0 ≤ u) := by
  refine Ct.intro (plainFor_of_name (by first | (simp [plainName, overriddenIn]; done) | decide +kernel)) Z0 ?_
  intro p e s m below meth c T X
  refine WP.cast (g' := (mkF m 0 #[.val (.ref a)] [])) (by first | (simp [entryFrame, mkF, argsToLocals, Value.category]; done) | rfl) ?_
  have K := Keep.refl h0 [a]
  refine w_aloadN X d1_0 rfl rfl (pc' := 1) rfl ?_
  refine w_initO X (tw7 hw) (tw8 hw) (tw9 hw) d1_1 rfl (by decide) rfl (by decide) (pc' := 4) rfl ?_; intro T X
  refine w_aloadN X d1_4 rfl rfl (pc' := 5) rfl ?_
  refine w_iconst X d1_5 (v := (1 : Int32)) (by decide) (pc' := 6) rfl ?_
  refine w_newarray X (aty := .long) 1 (tw10 hw) d1_6 (by decide) (by decide) (by decide) (by decide) (by decide) (pc' := 8) rfl ?_; intro T h1 b1 cA1 X eq1 ga1 E1 A1
  have ne2 : a ≠ b1 := Nat.ne_of_lt (Nat.lt_of_lt_of_eq O.lt eq1.symm)
  have O3 := O.ext E1
  have sz4 : h0.size ≤ b1 := Nat.le_trans K.1 (Nat.le_of_eq eq1.symm)
  have K5 := K.ext E1
  have O6 : AJ Z h1 b1 1 (fun _ => 0) := AJ.new A1 (by decide)
  refine w_putF X (tw11 hw) O3.get_words O3.exa (Or.inl (tw12 hw)) (tw2 hw) ga d1_8 (ty := (.array .long)) (v' := (.ref b1)) (by decide) rfl rfl (pc' := 11) rfl ?_; intro T h7 X W8
  have O10 := O3.put_words hw W8
  have K9 := Keep.of_wr W8
  have O11 := O6.keep K9 (ninS (Ne.symm ne2) nin0)
  have K12 := K5.wr W8 (Or.inl (by simp))
  show WP _ _ _ _ _ _ _ _ _ (mkF m 11 #[.val (.ref a)] [])
  refine w_aloadN X d1_11 rfl rfl (pc' := 12) rfl ?_
  refine w_iconst X d1_12 (v := (1 : Int32)) (by decide) (pc' := 13) rfl ?_
  refine w_putF X (tw13 hw) O10.get_width O10.exa (Or.inl (tw14 hw)) (tw2 hw) ga d1_13 (ty := .int) (v' := (.int (1 : Int32))) (by decide) rfl rfl (pc' := 16) rfl ?_; intro T h13 X W14
  have O16 := O10.put_width hw W14
  have K15 := Keep.of_wr W14
  have O17 := O11.keep K15 (ninS (Ne.symm ne2) nin0)
  have K18 := K12.wr W14 (Or.inl (by simp))
  show WP _ _ _ _ _ _ _ _ _ (mkF m 16 #[.val (.ref a)] [])
  refine w_aloadN X d1_16 rfl rfl (pc' := 17) rfl ?_
  refine w_iconst X d1_17 (v := (1 : Int32)) (by decide) (pc' := 18) rfl ?_
  refine w_putF X (tw15 hw) O16.get_greatest O16.exa (Or.inl (tw16 hw)) (tw2 hw) ga d1_18 (ty := .int) (v' := (.int (1 : Int32))) (by decide) rfl rfl (pc' := 21) rfl ?_; intro T h19 X W20
  have O22 := O16.put_greatest hw W20
  have K21 := Keep.of_wr W20
  have O23 := O17.keep K21 (ninS (Ne.symm ne2) nin0)
  have K24 := K18.wr W20 (Or.inl (by simp))
  show WP _ _ _ _ _ _ _ _ _ (mkF m 21 #[.val (.ref a)] [])
  refine w_aloadN X d1_21 rfl rfl (pc' := 22) rfl ?_
  refine w_bipush X d1_22 (v := (64 : Int32)) (by decide) (pc' := 24) rfl ?_
  refine w_putF X (tw17 hw) O22.get_room O22.exa (Or.inl (tw18 hw)) (tw2 hw) ga d1_24 (ty := .int) (v' := (.int (64 : Int32))) (by decide) rfl rfl (pc' := 27) rfl ?_; intro T h25 X W26
  have O28 := O22.put_room hw W26
  have K27 := Keep.of_wr W26
  have O29 := O23.keep K27 (ninS (Ne.symm ne2) nin0)
  have K30 := K24.wr W26 (Or.inl (by simp))
  show WP _ _ _ _ _ _ _ _ _ (mkF m 27 #[.val (.ref a)] [])
  exact w_retV X rfl d1_27 (by decide) (by decide) ⟨rfl, b1, K30, O28, O29, sz4, ga1⟩
set_option maxRecDepth 65536 in
set_option maxHeartbeats 4000000 in
theorem ct_size (l : Launch) (Z : State) (a0 : Array Value) (hw : ∀ d ∈ tables_1, d.before a0 Z = true) (a u : Addr) (wi gr ro ct : Int32) (h0 : Heap) (n0 : Nat) (Z0 : n0 ≤ h0.size) (O : Pk Z h0 a (.ref u) (.int wi) (.int gr) (.int ro) (.int ct)) :
    Ct l Z (⟨"com/example/varve/varve/parquet/PackedNumbers", "size", "()I"⟩ : MethodName) prog_109_method_2_code 1 (some .int) ({ frames := 0, cells := 0, slots := 0, locals := 0 } : Room) #[(.ref a)] h0 n0 (fun r h => r = some (.int ct) ∧ h = h0) := by
  refine Ct.intro (plainFor_of_name (by first | (simp [plainName, overriddenIn]; done) | decide +kernel)) Z0 ?_
  intro p e s m below meth c T X
  refine WP.cast (g' := (mkF m 0 #[.val (.ref a)] [])) (by first | (simp [entryFrame, mkF, argsToLocals, Value.category]; done) | rfl) ?_
  refine w_aloadN X d10_0 rfl rfl (pc' := 1) rfl ?_
  refine w_getF X (tw24 hw) O.get_count d10_1 (pc' := 4) rfl ?_; intro T X
  exact w_retI X rfl d10_4 (by decide) (by decide) ⟨rfl, rfl⟩
set_option maxRecDepth 65536 in
set_option maxHeartbeats 4000000 in
theorem ct_copy (l : Launch) (Z : State) (a0 : Array Value) (hw : ∀ d ∈ tables_1, d.before a0 Z = true) (u : Addr) (g : Nat → Int64) (h0 : Heap) (n0 : Nat) (Z0 : n0 ≤ h0.size) (V : AJ Z h0 u 1 g) :
    Ct l Z (⟨"java/util/Arrays", "copyOf", "([JI)[J"⟩ : MethodName) jdk_65_method_124_code 3 (some (.array .long)) ({ frames := 1, cells := 1, slots := 2, locals := 20 } : Room) #[(.ref u), (.int (2 : Int32))] h0 n0 (fun r h => ∃ b, r = some (.ref b) ∧ Keep h0 h [] ∧ AJ Z h b 2 (fun z => if 0 ≤ z ∧ z < 0 + 1 then g (z - 0 + 0) else (fun _ => 0) z) ∧ h0.size ≤ b ∧ n0 ≤ b) := by
  refine Ct.intro (plainFor_of_name (by first | (simp [plainName, overriddenIn]; done) | decide +kernel)) Z0 ?_
  intro p e s m below meth c T X
  refine WP.cast (g' := (mkF m 0 #[.val (.ref u), .val (.int (2 : Int32)), .unset] [])) (by first | (simp [entryFrame, mkF, argsToLocals, Value.category]; done) | rfl) ?_
  have K := Keep.refl h0 []
  refine w_iloadN X d11_0 rfl (pc' := 1) rfl ?_
  refine w_aloadN X d11_1 rfl rfl (pc' := 2) rfl ?_
  refine w_arraylength X V d11_2 (z := (1 : Int32)) (by decide) (pc' := 3) rfl ?_
  refine w_icmp_ne X d11_3 (by decide) (p1 := 14) (by decide) (p2 := 6) rfl (fun c3 => ?_) (fun c3 => False.elim (absurd c3 (by decide)))
  refine w_iloadN X d11_14 rfl (pc' := 15) rfl ?_
  refine w_newarray X (aty := .long) 2 (tw10 hw) d11_15 (by decide) (by decide) (by decide) (by decide) (by decide) (pc' := 17) rfl ?_; intro T h1 b1 cA1 X eq1 ga1 E1 A1
  have ne2 : u ≠ b1 := Nat.ne_of_lt (Nat.lt_of_lt_of_eq V.lt eq1.symm)
  have O3 := V.ext E1
  have sz4 : h0.size ≤ b1 := Nat.le_trans K.1 (Nat.le_of_eq eq1.symm)
  have K5 := K.ext E1
  have O6 : AJ Z h1 b1 2 (fun _ => 0) := AJ.new A1 (by decide)
  refine w_astoreN X d11_17 (L' := #[.val (.ref u), .val (.int (2 : Int32)), .val (.ref b1)]) rfl rfl (pc' := 18) rfl ?_
  refine w_aloadN X d11_18 rfl rfl (pc' := 19) rfl ?_
  refine w_iconst X d11_19 (v := (0 : Int32)) (by decide) (pc' := 20) rfl ?_
  refine w_aloadN X d11_20 rfl rfl (pc' := 21) rfl ?_
  refine w_iconst X d11_21 (v := (0 : Int32)) (by decide) (pc' := 22) rfl ?_
  refine w_aloadN X d11_22 rfl rfl (pc' := 23) rfl ?_
  refine w_arraylength X O3 d11_23 (z := (1 : Int32)) (by decide) (pc' := 24) rfl ?_
  refine w_iloadN X d11_24 rfl (pc' := 25) rfl ?_
  refine w_callS X [(.int (1 : Int32)), (.int (2 : Int32))] [(.int (0 : Int32)), (.ref b1), (.int (0 : Int32)), (.ref u)] 4 (tw65 hw) (tw66 hw) (tw47 hw) (tw67 hw) (ct_fMin l Z a0 hw (1 : Int32) (2 : Int32) h1 n0 X.n0le) d11_25 pd2 rfl (by decide) rfl rfl rfl (by decide) (by decide) (by decide) (by decide) (pc' := 28) rfl ?_
  intro T hz v X hQ
  obtain ⟨rfl, hz1⟩ := hQ; replace hz1 := hz1.symm; subst hz1
  show WP _ _ _ _ _ _ _ _ _ (mkF m 28 #[.val (.ref u), .val (.int (2 : Int32)), .val (.ref b1)] [(.int (fMin (1 : Int32) (2 : Int32))), (.int (0 : Int32)), (.ref b1), (.int (0 : Int32)), (.ref u)])
  refine w_acJ X (i := 0) (j := 0) (q := 1) (tw68 hw) (tw71 hw) (tw69 hw) (tw70 hw) O3 O6 (by decide) (by decide) (by decide) (by decide) (by decide) ga1 d11_28 rfl (by decide) rfl (by decide) (pc' := 31) rfl ?_; intro T h7 X K8 O9
  have O10 := O3.keep K8 (ninS ne2 nin0)
  have K11 := K5.trans K8 (allS (Or.inr sz4) all0)
  show WP _ _ _ _ _ _ _ _ _ (mkF m 31 #[.val (.ref u), .val (.int (2 : Int32)), .val (.ref b1)] [])
  refine w_aloadN X d11_31 rfl rfl (pc' := 32) rfl ?_
  exact w_retA X rfl rfl rfl d11_32 (by decide) (by decide) ⟨b1, rfl, K11, O9, sz4, ga1⟩
set_option maxRecDepth 65536 in
set_option maxHeartbeats 4000000 in
theorem ct_get (l : Launch) (Z : State) (a0 : Array Value) (hw : ∀ d ∈ tables_1, d.before a0 Z = true) (a u : Addr) (ix : Int32) (len W cnt k : Nat) (g : Nat → Int64) (xs : Nat → Int32) (h0 : Heap) (n0 : Nat) (Z0 : n0 ≤ h0.size) (O : Pk Z h0 a (.ref u) (.int (Int32.ofNat W)) (.int (Int32.ofNat (2 ^ W - 1))) (.int (Int32.ofNat (64 * len / W))) (.int (Int32.ofNat cnt))) (V : AJ Z h0 u len g) (P : PP g len W cnt xs) (hx : ix.toInt = k) (hk : k < cnt) :
    Ct l Z (⟨"com/example/varve/varve/parquet/PackedNumbers", "get", "(I)I"⟩ : MethodName) prog_109_method_4_code 8 (some .int) ({ frames := 0, cells := 0, slots := 0, locals := 0 } : Room) #[(.ref a), (.int ix)] h0 n0 (fun r h => r = some (.int (xs k)) ∧ h = h0) := by
  refine Ct.intro (plainFor_of_name (by first | (simp [plainName, overriddenIn]; done) | decide +kernel)) Z0 ?_
  intro p e s m below meth c T X
  refine WP.cast (g' := (mkF m 0 #[.val (.ref a), .val (.int ix), .unset, .unset, .unset, .unset, .unset, .unset] [])) (by first | (simp [entryFrame, mkF, argsToLocals, Value.category]; done) | rfl) ?_
  refine w_iloadN X d9_0 rfl (pc' := 1) rfl ?_
  refine w_i2l X d9_1 (pc' := 2) rfl ?_
  refine w_aloadN X d9_2 rfl rfl (pc' := 3) rfl ?_
  refine w_getF X (tw13 hw) O.get_width d9_3 (pc' := 6) rfl ?_; intro T X
  refine w_i2l X d9_6 (pc' := 7) rfl ?_
  refine w_lmul X d9_7 (pc' := 8) rfl ?_
  refine w_nameJ ?_; intro bt h_bt
  refine w_lstoreN X d9_8 (L' := #[.val (.ref a), .val (.int ix), .val (.long bt), .second, .unset, .unset, .unset, .unset]) rfl (pc' := 9) rfl ?_
  refine w_lloadN X d9_9 rfl (pc' := 10) rfl ?_
  refine w_bipush X d9_10 (v := (6 : Int32)) (by decide) (pc' := 12) rfl ?_
  refine w_lushr X d9_12 (pc' := 13) rfl ?_
  refine w_l2i X d9_13 (pc' := 14) rfl ?_
  refine w_nameI ?_; intro wd h_wd
  refine w_istore X d9_14 (L' := #[.val (.ref a), .val (.int ix), .val (.long bt), .second, .val (.int wd), .unset, .unset, .unset]) rfl (pc' := 16) rfl ?_
  refine w_lloadN X d9_16 rfl (pc' := 17) rfl ?_
  refine w_l2i X d9_17 (pc' := 18) rfl ?_
  refine w_bipush X d9_18 (v := (63 : Int32)) (by decide) (pc' := 20) rfl ?_
  refine w_iand X d9_20 (pc' := 21) rfl ?_
  refine w_nameI ?_; intro sh h_sh
  refine w_istore X d9_21 (L' := #[.val (.ref a), .val (.int ix), .val (.long bt), .second, .val (.int wd), .val (.int sh), .unset, .unset]) rfl (pc' := 23) rfl ?_
  obtain ⟨hwd, hsh⟩ := pos_ok hx (by have := P.2.2.2.2.2; omega) P.2.2.2.1 h_bt h_wd h_sh
  have hfit := get_fit P hk
  have hms := Nat.div_add_mod (k * W) 64
  refine w_aloadN X d9_23 rfl rfl (pc' := 24) rfl ?_
  refine w_getF X (tw11 hw) O.get_words d9_24 (pc' := 27) rfl ?_; intro T X
  refine w_iload X d9_27 rfl (pc' := 29) rfl ?_
  refine w_laload X (i := (k * W / 64)) V d9_29 hwd (get_lt P hk) rfl (pc' := 30) rfl ?_
  refine w_iload X d9_30 rfl (pc' := 32) rfl ?_
  refine w_lushr X d9_32 (pc' := 33) rfl ?_
  refine w_lstore X d9_33 (L' := #[.val (.ref a), .val (.int ix), .val (.long bt), .second, .val (.int wd), .val (.int sh), .val (.long (((g (k * W / 64))).toUInt64 >>> (sh &&& 0x3f).toInt64.toUInt64).toInt64), .second]) rfl (pc' := 35) rfl ?_
  refine w_iload X d9_35 rfl (pc' := 37) rfl ?_
  refine w_aloadN X d9_37 rfl rfl (pc' := 38) rfl ?_
  refine w_getF X (tw13 hw) O.get_width d9_38 (pc' := 41) rfl ?_; intro T X
  refine w_iadd X d9_41 (pc' := 42) rfl ?_
  refine w_bipush X d9_42 (v := (64 : Int32)) (by decide) (pc' := 44) rfl ?_
  refine w_icmp_le X d9_44 (by decide) (p1 := 67) (by decide) (p2 := 47) rfl (fun c44 => ?_) (fun c44 => ?_)
  · -- c44 taken
    refine w_lload X d9_67 rfl (pc' := 69) rfl ?_
    refine w_l2i X d9_69 (pc' := 70) rfl ?_
    refine w_aloadN X d9_70 rfl rfl (pc' := 71) rfl ?_
    refine w_getF X (tw15 hw) O.get_greatest d9_71 (pc' := 74) rfl ?_; intro T X
    refine w_iand X d9_74 (pc' := 75) rfl ?_
    refine w_retI X rfl d9_75 (by decide) (by decide) ⟨?_, rfl⟩
    rw [get1 P.1 hk P.2.2.2.1 hms.symm (Nat.mod_lt _ (by decide)) (sh_fit P hsh c44) hsh]
  · -- c44 not taken
    refine w_lload X d9_47 rfl (pc' := 49) rfl ?_
    refine w_aloadN X d9_49 rfl rfl (pc' := 50) rfl ?_
    refine w_getF X (tw11 hw) O.get_words d9_50 (pc' := 53) rfl ?_; intro T X
    refine w_iload X d9_53 rfl (pc' := 55) rfl ?_
    refine w_iconst X d9_55 (v := (1 : Int32)) (by decide) (pc' := 56) rfl ?_
    refine w_iadd X d9_56 (pc' := 57) rfl ?_
    refine w_laload X (i := (k * W / 64 + 1)) V d9_57 (wd1 hwd (get_lt P hk) P) (get_lt2 P hk hsh c44) rfl (pc' := 58) rfl ?_
    refine w_bipush X d9_58 (v := (64 : Int32)) (by decide) (pc' := 60) rfl ?_
    refine w_iload X d9_60 rfl (pc' := 62) rfl ?_
    refine w_isub X d9_62 (pc' := 63) rfl ?_
    refine w_lshl X d9_63 (pc' := 64) rfl ?_
    refine w_lor X d9_64 (pc' := 65) rfl ?_
    refine w_lstore X d9_65 (L' := #[.val (.ref a), .val (.int ix), .val (.long bt), .second, .val (.int wd), .val (.int sh), .val (.long ((((g (k * W / 64))).toUInt64 >>> (sh &&& 0x3f).toInt64.toUInt64).toInt64 ||| ((g (k * W / 64 + 1)) <<< (((64 : Int32) - sh) &&& 0x3f).toInt64))), .second]) rfl (pc' := 67) rfl ?_
    refine w_lload X d9_67 rfl (pc' := 69) rfl ?_
    refine w_l2i X d9_69 (pc' := 70) rfl ?_
    refine w_aloadN X d9_70 rfl rfl (pc' := 71) rfl ?_
    refine w_getF X (tw15 hw) O.get_greatest d9_71 (pc' := 74) rfl ?_; intro T X
    refine w_iand X d9_74 (pc' := 75) rfl ?_
    refine w_retI X rfl d9_75 (by decide) (by decide) ⟨?_, rfl⟩
    rw [get2 P.1 hk P.2.2.2.1 hms.symm (sh_pos P hsh c44) (Nat.mod_lt _ (by decide)) hsh]
set_option maxRecDepth 65536 in
set_option maxHeartbeats 4000000 in
theorem ct_add0 (l : Launch) (Z : State) (a0 : Array Value) (hw : ∀ d ∈ tables_1, d.before a0 Z = true) (a u : Addr) (v : Int32) (len W cnt : Nat) (g : Nat → Int64) (xs : Nat → Int32) (h0 : Heap) (n0 : Nat) (Z0 : n0 ≤ h0.size) (ga : n0 ≤ a) (gu : n0 ≤ u) (hau : a ≠ u) (O : Pk Z h0 a (.ref u) (.int (Int32.ofNat W)) (.int (Int32.ofNat (2 ^ W - 1))) (.int (Int32.ofNat (64 * len / W))) (.int (Int32.ofNat cnt))) (V : AJ Z h0 u len g) (P : PP g len W cnt xs) (hc : cnt ≤ 3) (hv2 : 0 ≤ v.toInt ∧ v.toInt < 2 ^ W) :
    Ct l Z (⟨"com/example/varve/varve/parquet/PackedNumbers", "add", "(I)V"⟩ : MethodName) prog_109_method_3_code 6 none ({ frames := 2, cells := 1, slots := 2, locals := 40 } : Room) #[(.ref a), (.int v)] h0 n0 (fun r h => r = none ∧ ∃ (u2 : Addr) (len2 W2 : Nat) (g2 : Nat → Int64), Keep h0 h [a, u] ∧ Pk Z h a (.ref u2) (.int (Int32.ofNat W2)) (.int (Int32.ofNat (2 ^ W2 - 1))) (.int (Int32.ofNat (64 * len2 / W2))) (.int (Int32.ofNat (cnt + 1))) ∧ AJ Z h u2 len2 g2 ∧ PP g2 len2 W2 (cnt + 1) (upd xs cnt v) ∧ n0 ≤ u2 ∧ (u2 = u ∨ h0.size ≤ u2) ∧ W2 = W) := by
  refine Ct.intro (plainFor_of_name (by first | (simp [plainName, overriddenIn]; done) | decide +kernel)) Z0 ?_
  intro p e s m below meth c T X
  refine WP.cast (g' := (mkF m 0 #[.val (.ref a), .val (.int v), .unset, .unset, .unset, .unset] [])) (by first | (simp [entryFrame, mkF, argsToLocals, Value.category]; done) | rfl) ?_
  have K := Keep.refl h0 [a, u]
  refine w_iloadN X d3_0 rfl (pc' := 1) rfl ?_
  refine w_aloadN X d3_1 rfl rfl (pc' := 2) rfl ?_
  refine w_getF X (tw15 hw) O.get_greatest d3_2 (pc' := 5) rfl ?_; intro T X
  refine w_icmp_le X d3_5 (by decide) (p1 := 17) (by decide) (p2 := 8) rfl (fun c5 => ?_) (fun c5 => False.elim (absurd c5 (le_gr hv2 P.2.2.2.1)))
  refine w_aloadN X d3_17 rfl rfl (pc' := 18) rfl ?_
  refine w_getF X (tw24 hw) O.get_count d3_18 (pc' := 21) rfl ?_; intro T X
  refine w_aloadN X d3_21 rfl rfl (pc' := 22) rfl ?_
  refine w_getF X (tw17 hw) O.get_room d3_22 (pc' := 25) rfl ?_; intro T X
  refine w_icmp_ne X d3_25 (by decide) (p1 := 63) (by decide) (p2 := 28) rfl (fun c25 => ?_) (fun c25 => ?_)
  · -- c25 taken
    have hfit : (cnt + 1) * W ≤ 64 * len := fit1 P hc c25
    have hms := Nat.div_add_mod (cnt * W) 64
    have hsm : (cnt + 1) * W = cnt * W + W := Nat.succ_mul cnt W
    refine w_aloadN X d3_63 rfl rfl (pc' := 64) rfl ?_
    refine w_getF X (tw24 hw) O.get_count d3_64 (pc' := 67) rfl ?_; intro T X
    refine w_i2l X d3_67 (pc' := 68) rfl ?_
    refine w_aloadN X d3_68 rfl rfl (pc' := 69) rfl ?_
    refine w_getF X (tw13 hw) O.get_width d3_69 (pc' := 72) rfl ?_; intro T X
    refine w_i2l X d3_72 (pc' := 73) rfl ?_
    refine w_lmul X d3_73 (pc' := 74) rfl ?_
    refine w_nameJ ?_; intro bt h_bt
    refine w_lstoreN X d3_74 (L' := #[.val (.ref a), .val (.int v), .val (.long bt), .second, .unset, .unset]) rfl (pc' := 75) rfl ?_
    refine w_lloadN X d3_75 rfl (pc' := 76) rfl ?_
    refine w_bipush X d3_76 (v := (6 : Int32)) (by decide) (pc' := 78) rfl ?_
    refine w_lushr X d3_78 (pc' := 79) rfl ?_
    refine w_l2i X d3_79 (pc' := 80) rfl ?_
    refine w_nameI ?_; intro wd h_wd
    refine w_istore X d3_80 (L' := #[.val (.ref a), .val (.int v), .val (.long bt), .second, .val (.int wd), .unset]) rfl (pc' := 82) rfl ?_
    refine w_lloadN X d3_82 rfl (pc' := 83) rfl ?_
    refine w_l2i X d3_83 (pc' := 84) rfl ?_
    refine w_bipush X d3_84 (v := (63 : Int32)) (by decide) (pc' := 86) rfl ?_
    refine w_iand X d3_86 (pc' := 87) rfl ?_
    refine w_nameI ?_; intro sh h_sh
    refine w_istore X d3_87 (L' := #[.val (.ref a), .val (.int v), .val (.long bt), .second, .val (.int wd), .val (.int sh)]) rfl (pc' := 89) rfl ?_
    obtain ⟨hwd, hsh⟩ := pos_ok (ofN (by omega)) (by omega) P.2.2.2.1 h_bt h_wd h_sh
    have hW1 := P.2.2.1
    have hW2 := P.2.2.2.1
    refine w_aloadN X d3_89 rfl rfl (pc' := 90) rfl ?_
    refine w_getF X (tw11 hw) O.get_words d3_90 (pc' := 93) rfl ?_; intro T X
    refine w_iload X d3_93 rfl (pc' := 95) rfl ?_
    refine w_dup2 X d3_95 (pc' := 96) rfl ?_
    refine w_laload X (i := (cnt * W / 64)) V d3_96 hwd (by omega) rfl (pc' := 97) rfl ?_
    refine w_iloadN X d3_97 rfl (pc' := 98) rfl ?_
    refine w_i2l X d3_98 (pc' := 99) rfl ?_
    refine w_iload X d3_99 rfl (pc' := 101) rfl ?_
    refine w_lshl X d3_101 (pc' := 102) rfl ?_
    refine w_lor X d3_102 (pc' := 103) rfl ?_
    refine w_lastore X (i := (cnt * W / 64)) (x' := ((g (cnt * W / 64)) ||| ((v).toInt64 <<< (sh &&& 0x3f).toInt64))) V gu d3_103 hwd (by omega) rfl (pc' := 104) rfl ?_; intro T h1 X K2 O3
    have O4 := O.keep K2 (ninS hau nin0)
    have K5 := K.trans K2 (allS (Or.inl (by simp)) all0)
    refine w_iload X d3_104 rfl (pc' := 106) rfl ?_
    refine w_aloadN X d3_106 rfl rfl (pc' := 107) rfl ?_
    refine w_getF X (tw13 hw) O4.get_width d3_107 (pc' := 110) rfl ?_; intro T X
    refine w_iadd X d3_110 (pc' := 111) rfl ?_
    refine w_bipush X d3_111 (v := (64 : Int32)) (by decide) (pc' := 113) rfl ?_
    refine w_icmp_le X d3_113 (by decide) (p1 := 136) (by decide) (p2 := 116) rfl (fun c113 => ?_) (fun c113 => ?_)
    · -- c113 taken
      refine w_aloadN X d3_136 rfl rfl (pc' := 137) rfl ?_
      refine w_dup X d3_137 rfl (pc' := 138) rfl ?_
      refine w_getF X (tw24 hw) O4.get_count d3_138 (pc' := 141) rfl ?_; intro T X
      refine w_iconst X d3_141 (v := (1 : Int32)) (by decide) (pc' := 142) rfl ?_
      refine w_iadd X d3_142 (pc' := 143) rfl ?_
      refine w_nameI ?_; intro cc h_cc
      obtain rfl : cc = (Int32.ofNat (cnt + 1)) := succ_eq h_cc (by omega)
      refine w_putF X (tw24 hw) O4.get_count O4.exa (Or.inl (tw25 hw)) (tw2 hw) ga d3_143 (ty := .int) (v' := (.int (Int32.ofNat (cnt + 1)))) (by decide) rfl rfl (pc' := 146) rfl ?_; intro T h6 X W7
      have O9 := O4.put_count hw W7
      have K8 := Keep.of_wr W7
      have O10 := O3.keep K8 (ninS (Ne.symm hau) nin0)
      have K11 := K5.wr W7 (Or.inl (by simp))
      show WP _ _ _ _ _ _ _ _ _ (mkF m 146 #[.val (.ref a), .val (.int v), .val (.long bt), .second, .val (.int wd), .val (.int sh)] [])
      refine w_retV X rfl d3_146 (by decide) (by decide) ⟨rfl, u, len, W, _, K11, O9, O10, ⟨P.1.add hv2 (fun k _ => bits1 hms.symm (Nat.mod_lt _ (by decide)) (by have := sh_small hsh hW2 c113; omega) hv2 hsh k) hfit, P.2.1, hW1, hW2, ?_, by omega⟩, gu, Or.inl rfl, rfl⟩
      exact (Nat.le_div_iff_mul_le (by omega)).mpr hfit
    · -- c113 not taken
      refine w_aloadN X d3_116 rfl rfl (pc' := 117) rfl ?_
      refine w_getF X (tw11 hw) O4.get_words d3_117 (pc' := 120) rfl ?_; intro T X
      refine w_iload X d3_120 rfl (pc' := 122) rfl ?_
      refine w_iconst X d3_122 (v := (1 : Int32)) (by decide) (pc' := 123) rfl ?_
      refine w_iadd X d3_123 (pc' := 124) rfl ?_
      refine w_dup2 X d3_124 (pc' := 125) rfl ?_
      refine w_laload X (i := (cnt * W / 64 + 1)) (v := (g (cnt * W / 64 + 1))) O3 d3_125 (wd1' hwd (by have := P.2.1; omega)) (by have := sh_big hsh hW2 c113; omega) (if_neg (by omega)) (pc' := 126) rfl ?_
      refine w_iloadN X d3_126 rfl (pc' := 127) rfl ?_
      refine w_i2l X d3_127 (pc' := 128) rfl ?_
      refine w_bipush X d3_128 (v := (64 : Int32)) (by decide) (pc' := 130) rfl ?_
      refine w_iload X d3_130 rfl (pc' := 132) rfl ?_
      refine w_isub X d3_132 (pc' := 133) rfl ?_
      refine w_lushr X d3_133 (pc' := 134) rfl ?_
      refine w_lor X d3_134 (pc' := 135) rfl ?_
      refine w_lastore X (i := (cnt * W / 64 + 1)) (x' := ((g (cnt * W / 64 + 1)) ||| (((v).toInt64).toUInt64 >>> (((64 : Int32) - sh) &&& 0x3f).toInt64.toUInt64).toInt64)) O3 gu d3_135 (wd1' hwd (by have := P.2.1; omega)) (by have := sh_big hsh hW2 c113; omega) rfl (pc' := 136) rfl ?_; intro T h12 X K13 O14
      have O15 := O4.keep K13 (ninS hau nin0)
      have K16 := K5.trans K13 (allS (Or.inl (by simp)) all0)
      refine w_aloadN X d3_136 rfl rfl (pc' := 137) rfl ?_
      refine w_dup X d3_137 rfl (pc' := 138) rfl ?_
      refine w_getF X (tw24 hw) O15.get_count d3_138 (pc' := 141) rfl ?_; intro T X
      refine w_iconst X d3_141 (v := (1 : Int32)) (by decide) (pc' := 142) rfl ?_
      refine w_iadd X d3_142 (pc' := 143) rfl ?_
      refine w_nameI ?_; intro cc h_cc
      obtain rfl : cc = (Int32.ofNat (cnt + 1)) := succ_eq h_cc (by omega)
      refine w_putF X (tw24 hw) O15.get_count O15.exa (Or.inl (tw25 hw)) (tw2 hw) ga d3_143 (ty := .int) (v' := (.int (Int32.ofNat (cnt + 1)))) (by decide) rfl rfl (pc' := 146) rfl ?_; intro T h17 X W18
      have O20 := O15.put_count hw W18
      have K19 := Keep.of_wr W18
      have O21 := O14.keep K19 (ninS (Ne.symm hau) nin0)
      have K22 := K16.wr W18 (Or.inl (by simp))
      show WP _ _ _ _ _ _ _ _ _ (mkF m 146 #[.val (.ref a), .val (.int v), .val (.long bt), .second, .val (.int wd), .val (.int sh)] [])
      refine w_retV X rfl d3_146 (by decide) (by decide) ⟨rfl, u, len, W, _, K22, O20, O21, ⟨P.1.add hv2 (fun k _ => bits2 hms.symm (by have := sh_big hsh hW2 c113; omega) (Nat.mod_lt _ (by decide)) hW2 hv2 hsh k) hfit, P.2.1, hW1, hW2, ?_, by omega⟩, gu, Or.inl rfl, rfl⟩
      exact (Nat.le_div_iff_mul_le (by omega)).mpr hfit
  · -- c25 not taken
    obtain rfl : len = 1 := len_one P hc c25
    refine w_aloadN X d3_28 rfl rfl (pc' := 29) rfl ?_
    refine w_aloadN X d3_29 rfl rfl (pc' := 30) rfl ?_
    refine w_getF X (tw11 hw) O.get_words d3_30 (pc' := 33) rfl ?_; intro T X
    refine w_iconst X d3_33 (v := (2 : Int32)) (by decide) (pc' := 34) rfl ?_
    refine w_aloadN X d3_34 rfl rfl (pc' := 35) rfl ?_
    refine w_getF X (tw11 hw) O.get_words d3_35 (pc' := 38) rfl ?_; intro T X
    refine w_arraylength X V d3_38 (z := (1 : Int32)) (by decide) (pc' := 39) rfl ?_
    refine w_imul X d3_39 (pc' := 40) rfl ?_
    refine w_nameI ?_; intro tw h_tw
    obtain rfl : tw = (2 : Int32) := by rw [h_tw]; decide
    refine w_callS X [(.ref u), (.int (2 : Int32))] [(.ref a)] 1 (tw61 hw) (tw62 hw) (tw63 hw) (tw64 hw) (ct_copy l Z a0 hw u g h0 n0 X.n0le V) d3_40 pd3 rfl (by decide) rfl rfl rfl (by decide) (by decide) (by decide) (by decide) (pc' := 43) rfl ?_
    intro T h23 v X hQ
    obtain ⟨bc, rfl, K24, Vc, szc, gc⟩ := hQ
    have O25 := O.keep K24 nin0
    have O26 := V.keep K24 nin0
    have K27 := K.trans K24 (by simp)
    have ne_a_bc : a ≠ bc := Nat.ne_of_lt (Nat.lt_of_lt_of_le O.lt szc)
    have ne_u_bc : u ≠ bc := Nat.ne_of_lt (Nat.lt_of_lt_of_le V.lt szc)
    generalize hgq : (fun z => if 0 ≤ z ∧ z < 0 + 1 then g (z - 0 + 0) else (fun _ => 0) z) = gq at Vc
    have Vc : AJ Z h23 bc 2 gq := Vc
    have szc0 := Nat.le_trans K.1 szc
    show WP _ _ _ _ _ _ _ _ _ (mkF m 43 #[.val (.ref a), .val (.int v), .unset, .unset, .unset, .unset] [(.ref bc), (.ref a)])
    have P2 : PP gq 2 W cnt xs := grow_ok P hc (by rw [← hgq]; rfl) (by rw [← hgq]; rfl)
    refine w_putF X (tw11 hw) O25.get_words O25.exa (Or.inl (tw12 hw)) (tw2 hw) ga d3_43 (ty := (.array .long)) (v' := (.ref bc)) (by decide) rfl rfl (pc' := 46) rfl ?_; intro T h28 X W29
    have O31 := O25.put_words hw W29
    have K30 := Keep.of_wr W29
    have O32 := O26.keep K30 (ninS (Ne.symm hau) nin0)
    have O33 := Vc.keep K30 (ninS (Ne.symm ne_a_bc) nin0)
    have K34 := K27.wr W29 (Or.inl (by simp))
    show WP _ _ _ _ _ _ _ _ _ (mkF m 46 #[.val (.ref a), .val (.int v), .unset, .unset, .unset, .unset] [])
    refine w_aloadN X d3_46 rfl rfl (pc' := 47) rfl ?_
    refine w_aloadN X d3_47 rfl rfl (pc' := 48) rfl ?_
    refine w_getF X (tw11 hw) O31.get_words d3_48 (pc' := 51) rfl ?_; intro T X
    refine w_arraylength X O33 d3_51 (z := (2 : Int32)) (by decide) (pc' := 52) rfl ?_
    refine w_bipush X d3_52 (v := (64 : Int32)) (by decide) (pc' := 54) rfl ?_
    refine w_imul X d3_54 (pc' := 55) rfl ?_
    refine w_aloadN X d3_55 rfl rfl (pc' := 56) rfl ?_
    refine w_getF X (tw13 hw) O31.get_width d3_56 (pc' := 59) rfl ?_; intro T X
    refine w_idiv X d3_59 (ofN_ne P.2.2.1 P.2.2.2.1) (pc' := 60) rfl ?_
    refine w_nameI ?_; intro rr h_rr
    obtain rfl : rr = (Int32.ofNat (64 * 2 / W)) := room_eq h_rr P2.2.2.1 P2.2.2.2.1
    refine w_putF X (tw17 hw) O31.get_room O31.exa (Or.inl (tw18 hw)) (tw2 hw) ga d3_60 (ty := .int) (v' := (.int (Int32.ofNat (64 * 2 / W)))) (by decide) rfl rfl (pc' := 63) rfl ?_; intro T h35 X W36
    have O38 := O31.put_room hw W36
    have K37 := Keep.of_wr W36
    have O39 := O32.keep K37 (ninS (Ne.symm hau) nin0)
    have O40 := O33.keep K37 (ninS (Ne.symm ne_a_bc) nin0)
    have K41 := K34.wr W36 (Or.inl (by simp))
    show WP _ _ _ _ _ _ _ _ _ (mkF m 63 #[.val (.ref a), .val (.int v), .unset, .unset, .unset, .unset] [])
    have hfit : (cnt + 1) * W ≤ 64 * 2 := fit2 hc P2.2.2.2.1
    have hms := Nat.div_add_mod (cnt * W) 64
    have hsm : (cnt + 1) * W = cnt * W + W := Nat.succ_mul cnt W
    refine w_aloadN X d3_63 rfl rfl (pc' := 64) rfl ?_
    refine w_getF X (tw24 hw) O38.get_count d3_64 (pc' := 67) rfl ?_; intro T X
    refine w_i2l X d3_67 (pc' := 68) rfl ?_
    refine w_aloadN X d3_68 rfl rfl (pc' := 69) rfl ?_
    refine w_getF X (tw13 hw) O38.get_width d3_69 (pc' := 72) rfl ?_; intro T X
    refine w_i2l X d3_72 (pc' := 73) rfl ?_
    refine w_lmul X d3_73 (pc' := 74) rfl ?_
    refine w_nameJ ?_; intro bt h_bt
    refine w_lstoreN X d3_74 (L' := #[.val (.ref a), .val (.int v), .val (.long bt), .second, .unset, .unset]) rfl (pc' := 75) rfl ?_
    refine w_lloadN X d3_75 rfl (pc' := 76) rfl ?_
    refine w_bipush X d3_76 (v := (6 : Int32)) (by decide) (pc' := 78) rfl ?_
    refine w_lushr X d3_78 (pc' := 79) rfl ?_
    refine w_l2i X d3_79 (pc' := 80) rfl ?_
    refine w_nameI ?_; intro wd h_wd
    refine w_istore X d3_80 (L' := #[.val (.ref a), .val (.int v), .val (.long bt), .second, .val (.int wd), .unset]) rfl (pc' := 82) rfl ?_
    refine w_lloadN X d3_82 rfl (pc' := 83) rfl ?_
    refine w_l2i X d3_83 (pc' := 84) rfl ?_
    refine w_bipush X d3_84 (v := (63 : Int32)) (by decide) (pc' := 86) rfl ?_
    refine w_iand X d3_86 (pc' := 87) rfl ?_
    refine w_nameI ?_; intro sh h_sh
    refine w_istore X d3_87 (L' := #[.val (.ref a), .val (.int v), .val (.long bt), .second, .val (.int wd), .val (.int sh)]) rfl (pc' := 89) rfl ?_
    obtain ⟨hwd, hsh⟩ := pos_ok (ofN (by omega)) (by omega) P2.2.2.2.1 h_bt h_wd h_sh
    have hW1 := P2.2.2.1
    have hW2 := P2.2.2.2.1
    refine w_aloadN X d3_89 rfl rfl (pc' := 90) rfl ?_
    refine w_getF X (tw11 hw) O38.get_words d3_90 (pc' := 93) rfl ?_; intro T X
    refine w_iload X d3_93 rfl (pc' := 95) rfl ?_
    refine w_dup2 X d3_95 (pc' := 96) rfl ?_
    refine w_laload X (i := (cnt * W / 64)) O40 d3_96 hwd (by omega) rfl (pc' := 97) rfl ?_
    refine w_iloadN X d3_97 rfl (pc' := 98) rfl ?_
    refine w_i2l X d3_98 (pc' := 99) rfl ?_
    refine w_iload X d3_99 rfl (pc' := 101) rfl ?_
    refine w_lshl X d3_101 (pc' := 102) rfl ?_
    refine w_lor X d3_102 (pc' := 103) rfl ?_
    refine w_lastore X (i := (cnt * W / 64)) (x' := ((gq (cnt * W / 64)) ||| ((v).toInt64 <<< (sh &&& 0x3f).toInt64))) O40 gc d3_103 hwd (by omega) rfl (pc' := 104) rfl ?_; intro T h42 X K43 O44
    have O45 := O38.keep K43 (ninS ne_a_bc nin0)
    have O46 := O39.keep K43 (ninS ne_u_bc nin0)
    have K47 := K41.trans K43 (allS (Or.inr szc0) all0)
    refine w_iload X d3_104 rfl (pc' := 106) rfl ?_
    refine w_aloadN X d3_106 rfl rfl (pc' := 107) rfl ?_
    refine w_getF X (tw13 hw) O45.get_width d3_107 (pc' := 110) rfl ?_; intro T X
    refine w_iadd X d3_110 (pc' := 111) rfl ?_
    refine w_bipush X d3_111 (v := (64 : Int32)) (by decide) (pc' := 113) rfl ?_
    refine w_icmp_le X d3_113 (by decide) (p1 := 136) (by decide) (p2 := 116) rfl (fun c113 => ?_) (fun c113 => ?_)
    · -- c113 taken
      refine w_aloadN X d3_136 rfl rfl (pc' := 137) rfl ?_
      refine w_dup X d3_137 rfl (pc' := 138) rfl ?_
      refine w_getF X (tw24 hw) O45.get_count d3_138 (pc' := 141) rfl ?_; intro T X
      refine w_iconst X d3_141 (v := (1 : Int32)) (by decide) (pc' := 142) rfl ?_
      refine w_iadd X d3_142 (pc' := 143) rfl ?_
      refine w_nameI ?_; intro cc h_cc
      obtain rfl : cc = (Int32.ofNat (cnt + 1)) := succ_eq h_cc (by omega)
      refine w_putF X (tw24 hw) O45.get_count O45.exa (Or.inl (tw25 hw)) (tw2 hw) ga d3_143 (ty := .int) (v' := (.int (Int32.ofNat (cnt + 1)))) (by decide) rfl rfl (pc' := 146) rfl ?_; intro T h48 X W49
      have O51 := O45.put_count hw W49
      have K50 := Keep.of_wr W49
      have O52 := O46.keep K50 (ninS (Ne.symm hau) nin0)
      have O53 := O44.keep K50 (ninS (Ne.symm ne_a_bc) nin0)
      have K54 := K47.wr W49 (Or.inl (by simp))
      show WP _ _ _ _ _ _ _ _ _ (mkF m 146 #[.val (.ref a), .val (.int v), .val (.long bt), .second, .val (.int wd), .val (.int sh)] [])
      refine w_retV X rfl d3_146 (by decide) (by decide) ⟨rfl, bc, 2, W, _, K54, O51, O53, ⟨P2.1.add hv2 (fun k _ => bits1 hms.symm (Nat.mod_lt _ (by decide)) (by have := sh_small hsh hW2 c113; omega) hv2 hsh k) hfit, P2.2.1, hW1, hW2, ?_, by omega⟩, gc, Or.inr szc0, rfl⟩
      exact (Nat.le_div_iff_mul_le (by omega)).mpr hfit
    · -- c113 not taken
      refine w_aloadN X d3_116 rfl rfl (pc' := 117) rfl ?_
      refine w_getF X (tw11 hw) O45.get_words d3_117 (pc' := 120) rfl ?_; intro T X
      refine w_iload X d3_120 rfl (pc' := 122) rfl ?_
      refine w_iconst X d3_122 (v := (1 : Int32)) (by decide) (pc' := 123) rfl ?_
      refine w_iadd X d3_123 (pc' := 124) rfl ?_
      refine w_dup2 X d3_124 (pc' := 125) rfl ?_
      refine w_laload X (i := (cnt * W / 64 + 1)) (v := (gq (cnt * W / 64 + 1))) O44 d3_125 (wd1' hwd (by have := P2.2.1; omega)) (by have := sh_big hsh hW2 c113; omega) (if_neg (by omega)) (pc' := 126) rfl ?_
      refine w_iloadN X d3_126 rfl (pc' := 127) rfl ?_
      refine w_i2l X d3_127 (pc' := 128) rfl ?_
      refine w_bipush X d3_128 (v := (64 : Int32)) (by decide) (pc' := 130) rfl ?_
      refine w_iload X d3_130 rfl (pc' := 132) rfl ?_
      refine w_isub X d3_132 (pc' := 133) rfl ?_
      refine w_lushr X d3_133 (pc' := 134) rfl ?_
      refine w_lor X d3_134 (pc' := 135) rfl ?_
      refine w_lastore X (i := (cnt * W / 64 + 1)) (x' := ((gq (cnt * W / 64 + 1)) ||| (((v).toInt64).toUInt64 >>> (((64 : Int32) - sh) &&& 0x3f).toInt64.toUInt64).toInt64)) O44 gc d3_135 (wd1' hwd (by have := P2.2.1; omega)) (by have := sh_big hsh hW2 c113; omega) rfl (pc' := 136) rfl ?_; intro T h55 X K56 O57
      have O58 := O45.keep K56 (ninS ne_a_bc nin0)
      have O59 := O46.keep K56 (ninS ne_u_bc nin0)
      have K60 := K47.trans K56 (allS (Or.inr szc0) all0)
      refine w_aloadN X d3_136 rfl rfl (pc' := 137) rfl ?_
      refine w_dup X d3_137 rfl (pc' := 138) rfl ?_
      refine w_getF X (tw24 hw) O58.get_count d3_138 (pc' := 141) rfl ?_; intro T X
      refine w_iconst X d3_141 (v := (1 : Int32)) (by decide) (pc' := 142) rfl ?_
      refine w_iadd X d3_142 (pc' := 143) rfl ?_
      refine w_nameI ?_; intro cc h_cc
      obtain rfl : cc = (Int32.ofNat (cnt + 1)) := succ_eq h_cc (by omega)
      refine w_putF X (tw24 hw) O58.get_count O58.exa (Or.inl (tw25 hw)) (tw2 hw) ga d3_143 (ty := .int) (v' := (.int (Int32.ofNat (cnt + 1)))) (by decide) rfl rfl (pc' := 146) rfl ?_; intro T h61 X W62
      have O64 := O58.put_count hw W62
      have K63 := Keep.of_wr W62
      have O65 := O59.keep K63 (ninS (Ne.symm hau) nin0)
      have O66 := O57.keep K63 (ninS (Ne.symm ne_a_bc) nin0)
      have K67 := K60.wr W62 (Or.inl (by simp))
      show WP _ _ _ _ _ _ _ _ _ (mkF m 146 #[.val (.ref a), .val (.int v), .val (.long bt), .second, .val (.int wd), .val (.int sh)] [])
      refine w_retV X rfl d3_146 (by decide) (by decide) ⟨rfl, bc, 2, W, _, K67, O64, O66, ⟨P2.1.add hv2 (fun k _ => bits2 hms.symm (by have := sh_big hsh hW2 c113; omega) (Nat.mod_lt _ (by decide)) hW2 hv2 hsh k) hfit, P2.2.1, hW1, hW2, ?_, by omega⟩, gc, Or.inr szc0, rfl⟩
      exact (Nat.le_div_iff_mul_le (by omega)).mpr hfit
set_option maxRecDepth 65536 in
set_option maxHeartbeats 4000000 in
theorem ct_widen (l : Launch) (Z : State) (a0 : Array Value) (hw : ∀ d ∈ tables_1, d.before a0 Z = true) (a u : Addr) (len W cnt Y : Nat) (g : Nat → Int64) (xs : Nat → Int32) (h0 : Heap) (n0 : Nat) (Z0 : n0 ≤ h0.size) (ga : n0 ≤ a) (gu : n0 ≤ u) (hau : a ≠ u) (O : Pk Z h0 a (.ref u) (.int (Int32.ofNat W)) (.int (Int32.ofNat (2 ^ W - 1))) (.int (Int32.ofNat (64 * len / W))) (.int (Int32.ofNat cnt))) (V : AJ Z h0 u len g) (P : PP g len W cnt xs) (hc : cnt ≤ 3) (hY0 : 1 ≤ Y) (hY1 : W ≤ Y) (hY2 : Y ≤ 31) :
    Ct l Z (⟨"com/example/varve/varve/parquet/PackedNumbers", "widen", "(I)V"⟩ : MethodName) prog_109_method_7_code 4 none ({ frames := 3, cells := 6, slots := 14, locals := 60 } : Room) #[(.ref a), (.int (Int32.ofNat Y))] h0 n0 (fun r h => r = none ∧ ∃ (u2 : Addr) (len2 : Nat) (g2 : Nat → Int64), Keep h0 h [a] ∧ Pk Z h a (.ref u2) (.int (Int32.ofNat Y)) (.int (Int32.ofNat (2 ^ Y - 1))) (.int (Int32.ofNat (64 * len2 / Y))) (.int (Int32.ofNat cnt)) ∧ AJ Z h u2 len2 g2 ∧ PP g2 len2 Y cnt xs ∧ n0 ≤ u2 ∧ h0.size ≤ u2) := by
  refine Ct.intro (plainFor_of_name (by first | (simp [plainName, overriddenIn]; done) | decide +kernel)) Z0 ?_
  intro p e s m below meth c T X
  refine WP.cast (g' := (mkF m 0 #[.val (.ref a), .val (.int (Int32.ofNat Y)), .unset, .unset] [])) (by first | (simp [entryFrame, mkF, argsToLocals, Value.category]; done) | rfl) ?_
  have hcs : cnt = 0 ∨ cnt = 1 ∨ cnt = 2 ∨ cnt = 3 := by omega
  rcases hcs with rfl | rfl | rfl | rfl
  · -- 0 numbers
    have O : Pk Z h0 a (.ref u) (.int (Int32.ofNat W)) (.int (Int32.ofNat (2 ^ W - 1))) (.int (Int32.ofNat (64 * len / W))) (.int (0 : Int32)) := O
    have K := Keep.refl h0 [a]
    refine w_new X (tw43 hw) (tw2 hw) (tw3 hw) d7_0 (by decide) (by decide) (pc' := 3) rfl ?_; intro T h1 b1 X eq1 ga1 E1 A1 D1
    have ne2 : a ≠ b1 := Nat.ne_of_lt (Nat.lt_of_lt_of_eq O.lt eq1.symm)
    have ne3 : u ≠ b1 := Nat.ne_of_lt (Nat.lt_of_lt_of_eq V.lt eq1.symm)
    have O4 := O.ext E1
    have O5 := V.ext E1
    have sz6 : h0.size ≤ b1 := Nat.le_trans K.1 (Nat.le_of_eq eq1.symm)
    have K7 := K.ext E1
    have O8 : Pk Z h1 b1 .null (.int (0 : Int32)) (.int (0 : Int32)) (.int (0 : Int32)) (.int (0 : Int32)) := ⟨A1, D1 (Or.inl (tw12 hw)) (ty := (.array .long)) (by decide), D1 (Or.inl (tw14 hw)) (ty := .int) (by decide), D1 (Or.inl (tw16 hw)) (ty := .int) (by decide), D1 (Or.inl (tw18 hw)) (ty := .int) (by decide), D1 (Or.inl (tw25 hw)) (ty := .int) (by decide)⟩
    refine w_dup X d7_3 rfl (pc' := 4) rfl ?_
    refine w_callC X [] [(.ref b1)] 1 rfl (tw44 hw) (tw5 hw) (tw3 hw) (tw6 hw) (ct_init l Z a0 hw b1 h1 n0 X.n0le ga1 O8) d7_4 pd4 rfl (by decide) rfl rfl rfl (by decide) (by decide) (by decide) (by decide) (pc' := 7) rfl ?_
    intro T h9 v X hQ
    obtain ⟨rfl, ui, K10, Oi, Vi, szi, gi⟩ := hQ
    have O11 := O4.keep K10 (ninS ne2 nin0)
    have O12 := O5.keep K10 (ninS ne3 nin0)
    have K13 := K7.trans K10 (by simp [sz6])
    show WP _ _ _ _ _ _ _ _ _ (mkF m 7 #[.val (.ref a), .val (.int (Int32.ofNat Y)), .unset, .unset] [(.ref b1)])
    refine w_astoreN X d7_7 (L' := #[.val (.ref a), .val (.int (Int32.ofNat Y)), .val (.ref b1), .unset]) rfl rfl (pc' := 8) rfl ?_
    refine w_aloadN X d7_8 rfl rfl (pc' := 9) rfl ?_
    refine w_aloadN X d7_9 rfl rfl (pc' := 10) rfl ?_
    refine w_getF X (tw11 hw) O11.get_words d7_10 (pc' := 13) rfl ?_; intro T X
    refine w_arraylength X O12 d7_13 (z := (Int32.ofNat len)) rfl (pc' := 14) rfl ?_
    refine w_aloadN X d7_14 rfl rfl (pc' := 15) rfl ?_
    refine w_getF X (tw24 hw) O11.get_count d7_15 (pc' := 18) rfl ?_; intro T X
    refine w_i2l X d7_18 (pc' := 19) rfl ?_
    refine w_iloadN X d7_19 rfl (pc' := 20) rfl ?_
    refine w_i2l X d7_20 (pc' := 21) rfl ?_
    refine w_lmul X d7_21 (pc' := 22) rfl ?_
    refine w_bipush X d7_22 (v := (6 : Int32)) (by decide) (pc' := 24) rfl ?_
    refine w_lushr X d7_24 (pc' := 25) rfl ?_
    refine w_l2i X d7_25 (pc' := 26) rfl ?_
    refine w_iconst X d7_26 (v := (1 : Int32)) (by decide) (pc' := 27) rfl ?_
    refine w_iadd X d7_27 (pc' := 28) rfl ?_
    refine w_callS X [(.int (Int32.ofNat len)), (.int (((((((0 : Int32)).toInt64 * ((Int32.ofNat Y)).toInt64)).toUInt64 >>> ((6 : Int32) &&& 0x3f).toInt64.toUInt64).toInt64).toInt32 + (1 : Int32)))] [(.ref b1)] 1 (tw45 hw) (tw46 hw) (tw47 hw) (tw48 hw) (ct_fMax l Z a0 hw (Int32.ofNat len) (((((((0 : Int32)).toInt64 * ((Int32.ofNat Y)).toInt64)).toUInt64 >>> ((6 : Int32) &&& 0x3f).toInt64.toUInt64).toInt64).toInt32 + (1 : Int32)) h9 n0 X.n0le) d7_28 pd2 rfl (by decide) rfl rfl rfl (by decide) (by decide) (by decide) (by decide) (pc' := 31) rfl ?_
    intro T hz v X hQ
    obtain ⟨rfl, hz1⟩ := hQ; replace hz1 := hz1.symm; subst hz1
    show WP _ _ _ _ _ _ _ _ _ (mkF m 31 #[.val (.ref a), .val (.int (Int32.ofNat Y)), .val (.ref b1), .unset] [(.int (fMax (Int32.ofNat len) (((((((0 : Int32)).toInt64 * ((Int32.ofNat Y)).toInt64)).toUInt64 >>> ((6 : Int32) &&& 0x3f).toInt64.toUInt64).toInt64).toInt32 + (1 : Int32)))), (.ref b1)])
    refine w_nameI ?_; intro mz h_mz
    obtain ⟨lb, hmz, hlb, hlc⟩ := max_ok (c := 0) h_mz (by decide) hY2 P.2.1
    refine w_newarray X (aty := .long) 2 (tw10 hw) d7_31 (nonneg hmz) (le2 hmz hlb) (by decide) (by decide) (by decide) (pc' := 33) rfl ?_; intro T h14 b14 cA14 X eq14 ga14 E14 A14
    have ne15 : a ≠ b14 := Nat.ne_of_lt (Nat.lt_of_lt_of_eq O11.lt eq14.symm)
    have ne16 : u ≠ b14 := Nat.ne_of_lt (Nat.lt_of_lt_of_eq O12.lt eq14.symm)
    have ne17 : b1 ≠ b14 := Nat.ne_of_lt (Nat.lt_of_lt_of_eq Oi.lt eq14.symm)
    have O18 := O11.ext E14
    have O19 := O12.ext E14
    have O20 := Oi.ext E14
    have sz21 : h0.size ≤ b14 := Nat.le_trans K13.1 (Nat.le_of_eq eq14.symm)
    have K22 := K13.ext E14
    have O23 : AJ Z h14 b14 lb (fun _ => 0) := AJ.new A14 hmz
    refine w_putF X (tw11 hw) O20.get_words O20.exa (Or.inl (tw12 hw)) (tw2 hw) ga1 d7_33 (ty := (.array .long)) (v' := (.ref b14)) (by decide) rfl rfl (pc' := 36) rfl ?_; intro T h24 X W25
    have O27 := O20.put_words hw W25
    have K26 := Keep.of_wr W25
    have O28 := O18.keep K26 (ninS ne2 nin0)
    have O29 := O19.keep K26 (ninS ne3 nin0)
    have O30 := O23.keep K26 (ninS (Ne.symm ne17) nin0)
    have K31 := K22.wr W25 (Or.inr sz6)
    show WP _ _ _ _ _ _ _ _ _ (mkF m 36 #[.val (.ref a), .val (.int (Int32.ofNat Y)), .val (.ref b1), .unset] [])
    refine w_aloadN X d7_36 rfl rfl (pc' := 37) rfl ?_
    refine w_iloadN X d7_37 rfl (pc' := 38) rfl ?_
    refine w_putF X (tw13 hw) O27.get_width O27.exa (Or.inl (tw14 hw)) (tw2 hw) ga1 d7_38 (ty := .int) (v' := (.int (Int32.ofNat Y))) (by decide) rfl rfl (pc' := 41) rfl ?_; intro T h32 X W33
    have O35 := O27.put_width hw W33
    have K34 := Keep.of_wr W33
    have O36 := O28.keep K34 (ninS ne2 nin0)
    have O37 := O29.keep K34 (ninS ne3 nin0)
    have O38 := O30.keep K34 (ninS (Ne.symm ne17) nin0)
    have K39 := K31.wr W33 (Or.inr sz6)
    show WP _ _ _ _ _ _ _ _ _ (mkF m 41 #[.val (.ref a), .val (.int (Int32.ofNat Y)), .val (.ref b1), .unset] [])
    refine w_aloadN X d7_41 rfl rfl (pc' := 42) rfl ?_
    refine w_lconst X d7_42 (v := (1 : Int64)) (by decide) (pc' := 43) rfl ?_
    refine w_iloadN X d7_43 rfl (pc' := 44) rfl ?_
    refine w_lshl X d7_44 (pc' := 45) rfl ?_
    refine w_lconst X d7_45 (v := (1 : Int64)) (by decide) (pc' := 46) rfl ?_
    refine w_lsub X d7_46 (pc' := 47) rfl ?_
    refine w_l2i X d7_47 (pc' := 48) rfl ?_
    refine w_nameI ?_; intro gg h_gg
    obtain rfl : gg = (Int32.ofNat (2 ^ Y - 1)) := gr_ok h_gg hY2
    refine w_putF X (tw15 hw) O35.get_greatest O35.exa (Or.inl (tw16 hw)) (tw2 hw) ga1 d7_48 (ty := .int) (v' := (.int (Int32.ofNat (2 ^ Y - 1)))) (by decide) rfl rfl (pc' := 51) rfl ?_; intro T h40 X W41
    have O43 := O35.put_greatest hw W41
    have K42 := Keep.of_wr W41
    have O44 := O36.keep K42 (ninS ne2 nin0)
    have O45 := O37.keep K42 (ninS ne3 nin0)
    have O46 := O38.keep K42 (ninS (Ne.symm ne17) nin0)
    have K47 := K39.wr W41 (Or.inr sz6)
    show WP _ _ _ _ _ _ _ _ _ (mkF m 51 #[.val (.ref a), .val (.int (Int32.ofNat Y)), .val (.ref b1), .unset] [])
    refine w_aloadN X d7_51 rfl rfl (pc' := 52) rfl ?_
    refine w_aloadN X d7_52 rfl rfl (pc' := 53) rfl ?_
    refine w_getF X (tw11 hw) O43.get_words d7_53 (pc' := 56) rfl ?_; intro T X
    refine w_arraylength X O46 d7_56 (z := (Int32.ofNat lb)) rfl (pc' := 57) rfl ?_
    refine w_bipush X d7_57 (v := (64 : Int32)) (by decide) (pc' := 59) rfl ?_
    refine w_imul X d7_59 (pc' := 60) rfl ?_
    refine w_iloadN X d7_60 rfl (pc' := 61) rfl ?_
    refine w_idiv X d7_61 (ofN_ne hY0 hY2) (pc' := 62) rfl ?_
    refine w_nameI ?_; intro rr h_rr
    obtain rfl : rr = (Int32.ofNat (64 * lb / Y)) := room_eq2 h_rr hlb hY0 hY2
    refine w_putF X (tw17 hw) O43.get_room O43.exa (Or.inl (tw18 hw)) (tw2 hw) ga1 d7_62 (ty := .int) (v' := (.int (Int32.ofNat (64 * lb / Y)))) (by decide) rfl rfl (pc' := 65) rfl ?_; intro T h48 X W49
    have O51 := O43.put_room hw W49
    have K50 := Keep.of_wr W49
    have O52 := O44.keep K50 (ninS ne2 nin0)
    have O53 := O45.keep K50 (ninS ne3 nin0)
    have O54 := O46.keep K50 (ninS (Ne.symm ne17) nin0)
    have K55 := K47.wr W49 (Or.inr sz6)
    show WP _ _ _ _ _ _ _ _ _ (mkF m 65 #[.val (.ref a), .val (.int (Int32.ofNat Y)), .val (.ref b1), .unset] [])
    have PB : PP (fun _ => 0) lb Y 0 xs := ⟨Rp.zero, hlb, hY0, hY2, Nat.zero_le _, by decide⟩
    have O56 : Pk Z h48 b1 (.ref b14) (.int (Int32.ofNat Y)) (.int (Int32.ofNat (2 ^ Y - 1))) (.int (Int32.ofNat (64 * lb / Y))) (.int (0 : Int32)) := O51
    refine w_iconst X d7_65 (v := (0 : Int32)) (by decide) (pc' := 66) rfl ?_
    refine w_istoreN X d7_66 (L' := #[.val (.ref a), .val (.int (Int32.ofNat Y)), .val (.ref b1), .val (.int (0 : Int32))]) rfl (pc' := 67) rfl ?_
    refine w_iloadN X d7_67 rfl (pc' := 68) rfl ?_
    refine w_aloadN X d7_68 rfl rfl (pc' := 69) rfl ?_
    refine w_getF X (tw24 hw) O52.get_count d7_69 (pc' := 72) rfl ?_; intro T X
    refine w_icmp_ge X d7_72 (by decide) (p1 := 90) (by decide) (p2 := 75) rfl (fun c72 => ?_) (fun c72 => False.elim (absurd c72 (by decide)))
    refine w_aloadN X d7_90 rfl rfl (pc' := 91) rfl ?_
    refine w_aloadN X d7_91 rfl rfl (pc' := 92) rfl ?_
    refine w_getF X (tw11 hw) O56.get_words d7_92 (pc' := 95) rfl ?_; intro T X
    refine w_putF X (tw11 hw) O52.get_words O52.exa (Or.inl (tw12 hw)) (tw2 hw) ga d7_95 (ty := (.array .long)) (v' := (.ref b14)) (by decide) rfl rfl (pc' := 98) rfl ?_; intro T h57 X W58
    have O60 := O52.put_words hw W58
    have K59 := Keep.of_wr W58
    have O61 := O53.keep K59 (ninS (Ne.symm hau) nin0)
    have O62 := O56.keep K59 (ninS (Ne.symm ne2) nin0)
    have O63 := O54.keep K59 (ninS (Ne.symm ne15) nin0)
    have K64 := K55.wr W58 (Or.inl (by simp))
    show WP _ _ _ _ _ _ _ _ _ (mkF m 98 #[.val (.ref a), .val (.int (Int32.ofNat Y)), .val (.ref b1), .val (.int (0 : Int32))] [])
    refine w_aloadN X d7_98 rfl rfl (pc' := 99) rfl ?_
    refine w_iloadN X d7_99 rfl (pc' := 100) rfl ?_
    refine w_putF X (tw13 hw) O60.get_width O60.exa (Or.inl (tw14 hw)) (tw2 hw) ga d7_100 (ty := .int) (v' := (.int (Int32.ofNat Y))) (by decide) rfl rfl (pc' := 103) rfl ?_; intro T h65 X W66
    have O68 := O60.put_width hw W66
    have K67 := Keep.of_wr W66
    have O69 := O61.keep K67 (ninS (Ne.symm hau) nin0)
    have O70 := O62.keep K67 (ninS (Ne.symm ne2) nin0)
    have O71 := O63.keep K67 (ninS (Ne.symm ne15) nin0)
    have K72 := K64.wr W66 (Or.inl (by simp))
    show WP _ _ _ _ _ _ _ _ _ (mkF m 103 #[.val (.ref a), .val (.int (Int32.ofNat Y)), .val (.ref b1), .val (.int (0 : Int32))] [])
    refine w_aloadN X d7_103 rfl rfl (pc' := 104) rfl ?_
    refine w_aloadN X d7_104 rfl rfl (pc' := 105) rfl ?_
    refine w_getF X (tw15 hw) O70.get_greatest d7_105 (pc' := 108) rfl ?_; intro T X
    refine w_putF X (tw15 hw) O68.get_greatest O68.exa (Or.inl (tw16 hw)) (tw2 hw) ga d7_108 (ty := .int) (v' := (.int (Int32.ofNat (2 ^ Y - 1)))) (by decide) rfl rfl (pc' := 111) rfl ?_; intro T h73 X W74
    have O76 := O68.put_greatest hw W74
    have K75 := Keep.of_wr W74
    have O77 := O69.keep K75 (ninS (Ne.symm hau) nin0)
    have O78 := O70.keep K75 (ninS (Ne.symm ne2) nin0)
    have O79 := O71.keep K75 (ninS (Ne.symm ne15) nin0)
    have K80 := K72.wr W74 (Or.inl (by simp))
    show WP _ _ _ _ _ _ _ _ _ (mkF m 111 #[.val (.ref a), .val (.int (Int32.ofNat Y)), .val (.ref b1), .val (.int (0 : Int32))] [])
    refine w_aloadN X d7_111 rfl rfl (pc' := 112) rfl ?_
    refine w_aloadN X d7_112 rfl rfl (pc' := 113) rfl ?_
    refine w_getF X (tw17 hw) O78.get_room d7_113 (pc' := 116) rfl ?_; intro T X
    refine w_putF X (tw17 hw) O76.get_room O76.exa (Or.inl (tw18 hw)) (tw2 hw) ga d7_116 (ty := .int) (v' := (.int (Int32.ofNat (64 * lb / Y)))) (by decide) rfl rfl (pc' := 119) rfl ?_; intro T h81 X W82
    have O84 := O76.put_room hw W82
    have K83 := Keep.of_wr W82
    have O85 := O77.keep K83 (ninS (Ne.symm hau) nin0)
    have O86 := O78.keep K83 (ninS (Ne.symm ne2) nin0)
    have O87 := O79.keep K83 (ninS (Ne.symm ne15) nin0)
    have K88 := K80.wr W82 (Or.inl (by simp))
    show WP _ _ _ _ _ _ _ _ _ (mkF m 119 #[.val (.ref a), .val (.int (Int32.ofNat Y)), .val (.ref b1), .val (.int (0 : Int32))] [])
    exact w_retV X rfl d7_119 (by decide) (by decide) ⟨rfl, b14, lb, (fun _ => 0), K88, O84, O87, PB, ga14, sz21⟩
  · -- 1 numbers
    have O : Pk Z h0 a (.ref u) (.int (Int32.ofNat W)) (.int (Int32.ofNat (2 ^ W - 1))) (.int (Int32.ofNat (64 * len / W))) (.int (1 : Int32)) := O
    have K := Keep.refl h0 [a]
    refine w_new X (tw43 hw) (tw2 hw) (tw3 hw) d7_0 (by decide) (by decide) (pc' := 3) rfl ?_; intro T h101 b101 X eq101 ga101 E101 A101 D101
    have ne102 : a ≠ b101 := Nat.ne_of_lt (Nat.lt_of_lt_of_eq O.lt eq101.symm)
    have ne103 : u ≠ b101 := Nat.ne_of_lt (Nat.lt_of_lt_of_eq V.lt eq101.symm)
    have O104 := O.ext E101
    have O105 := V.ext E101
    have sz106 : h0.size ≤ b101 := Nat.le_trans K.1 (Nat.le_of_eq eq101.symm)
    have K107 := K.ext E101
    have O108 : Pk Z h101 b101 .null (.int (0 : Int32)) (.int (0 : Int32)) (.int (0 : Int32)) (.int (0 : Int32)) := ⟨A101, D101 (Or.inl (tw12 hw)) (ty := (.array .long)) (by decide), D101 (Or.inl (tw14 hw)) (ty := .int) (by decide), D101 (Or.inl (tw16 hw)) (ty := .int) (by decide), D101 (Or.inl (tw18 hw)) (ty := .int) (by decide), D101 (Or.inl (tw25 hw)) (ty := .int) (by decide)⟩
    refine w_dup X d7_3 rfl (pc' := 4) rfl ?_
    refine w_callC X [] [(.ref b101)] 1 rfl (tw44 hw) (tw5 hw) (tw3 hw) (tw6 hw) (ct_init l Z a0 hw b101 h101 n0 X.n0le ga101 O108) d7_4 pd4 rfl (by decide) rfl rfl rfl (by decide) (by decide) (by decide) (by decide) (pc' := 7) rfl ?_
    intro T h109 v X hQ
    obtain ⟨rfl, ui, K110, Oi, Vi, szi, gi⟩ := hQ
    have O111 := O104.keep K110 (ninS ne102 nin0)
    have O112 := O105.keep K110 (ninS ne103 nin0)
    have K113 := K107.trans K110 (by simp [sz106])
    show WP _ _ _ _ _ _ _ _ _ (mkF m 7 #[.val (.ref a), .val (.int (Int32.ofNat Y)), .unset, .unset] [(.ref b101)])
    refine w_astoreN X d7_7 (L' := #[.val (.ref a), .val (.int (Int32.ofNat Y)), .val (.ref b101), .unset]) rfl rfl (pc' := 8) rfl ?_
    refine w_aloadN X d7_8 rfl rfl (pc' := 9) rfl ?_
    refine w_aloadN X d7_9 rfl rfl (pc' := 10) rfl ?_
    refine w_getF X (tw11 hw) O111.get_words d7_10 (pc' := 13) rfl ?_; intro T X
    refine w_arraylength X O112 d7_13 (z := (Int32.ofNat len)) rfl (pc' := 14) rfl ?_
    refine w_aloadN X d7_14 rfl rfl (pc' := 15) rfl ?_
    refine w_getF X (tw24 hw) O111.get_count d7_15 (pc' := 18) rfl ?_; intro T X
    refine w_i2l X d7_18 (pc' := 19) rfl ?_
    refine w_iloadN X d7_19 rfl (pc' := 20) rfl ?_
    refine w_i2l X d7_20 (pc' := 21) rfl ?_
    refine w_lmul X d7_21 (pc' := 22) rfl ?_
    refine w_bipush X d7_22 (v := (6 : Int32)) (by decide) (pc' := 24) rfl ?_
    refine w_lushr X d7_24 (pc' := 25) rfl ?_
    refine w_l2i X d7_25 (pc' := 26) rfl ?_
    refine w_iconst X d7_26 (v := (1 : Int32)) (by decide) (pc' := 27) rfl ?_
    refine w_iadd X d7_27 (pc' := 28) rfl ?_
    refine w_callS X [(.int (Int32.ofNat len)), (.int (((((((1 : Int32)).toInt64 * ((Int32.ofNat Y)).toInt64)).toUInt64 >>> ((6 : Int32) &&& 0x3f).toInt64.toUInt64).toInt64).toInt32 + (1 : Int32)))] [(.ref b101)] 1 (tw45 hw) (tw46 hw) (tw47 hw) (tw48 hw) (ct_fMax l Z a0 hw (Int32.ofNat len) (((((((1 : Int32)).toInt64 * ((Int32.ofNat Y)).toInt64)).toUInt64 >>> ((6 : Int32) &&& 0x3f).toInt64.toUInt64).toInt64).toInt32 + (1 : Int32)) h109 n0 X.n0le) d7_28 pd2 rfl (by decide) rfl rfl rfl (by decide) (by decide) (by decide) (by decide) (pc' := 31) rfl ?_
    intro T hz v X hQ
    obtain ⟨rfl, hz1⟩ := hQ; replace hz1 := hz1.symm; subst hz1
    show WP _ _ _ _ _ _ _ _ _ (mkF m 31 #[.val (.ref a), .val (.int (Int32.ofNat Y)), .val (.ref b101), .unset] [(.int (fMax (Int32.ofNat len) (((((((1 : Int32)).toInt64 * ((Int32.ofNat Y)).toInt64)).toUInt64 >>> ((6 : Int32) &&& 0x3f).toInt64.toUInt64).toInt64).toInt32 + (1 : Int32)))), (.ref b101)])
    refine w_nameI ?_; intro mz h_mz
    obtain ⟨lb, hmz, hlb, hlc⟩ := max_ok (c := 1) h_mz (by decide) hY2 P.2.1
    refine w_newarray X (aty := .long) 2 (tw10 hw) d7_31 (nonneg hmz) (le2 hmz hlb) (by decide) (by decide) (by decide) (pc' := 33) rfl ?_; intro T h114 b114 cA114 X eq114 ga114 E114 A114
    have ne115 : a ≠ b114 := Nat.ne_of_lt (Nat.lt_of_lt_of_eq O111.lt eq114.symm)
    have ne116 : u ≠ b114 := Nat.ne_of_lt (Nat.lt_of_lt_of_eq O112.lt eq114.symm)
    have ne117 : b101 ≠ b114 := Nat.ne_of_lt (Nat.lt_of_lt_of_eq Oi.lt eq114.symm)
    have O118 := O111.ext E114
    have O119 := O112.ext E114
    have O120 := Oi.ext E114
    have sz121 : h0.size ≤ b114 := Nat.le_trans K113.1 (Nat.le_of_eq eq114.symm)
    have K122 := K113.ext E114
    have O123 : AJ Z h114 b114 lb (fun _ => 0) := AJ.new A114 hmz
    refine w_putF X (tw11 hw) O120.get_words O120.exa (Or.inl (tw12 hw)) (tw2 hw) ga101 d7_33 (ty := (.array .long)) (v' := (.ref b114)) (by decide) rfl rfl (pc' := 36) rfl ?_; intro T h124 X W125
    have O127 := O120.put_words hw W125
    have K126 := Keep.of_wr W125
    have O128 := O118.keep K126 (ninS ne102 nin0)
    have O129 := O119.keep K126 (ninS ne103 nin0)
    have O130 := O123.keep K126 (ninS (Ne.symm ne117) nin0)
    have K131 := K122.wr W125 (Or.inr sz106)
    show WP _ _ _ _ _ _ _ _ _ (mkF m 36 #[.val (.ref a), .val (.int (Int32.ofNat Y)), .val (.ref b101), .unset] [])
    refine w_aloadN X d7_36 rfl rfl (pc' := 37) rfl ?_
    refine w_iloadN X d7_37 rfl (pc' := 38) rfl ?_
    refine w_putF X (tw13 hw) O127.get_width O127.exa (Or.inl (tw14 hw)) (tw2 hw) ga101 d7_38 (ty := .int) (v' := (.int (Int32.ofNat Y))) (by decide) rfl rfl (pc' := 41) rfl ?_; intro T h132 X W133
    have O135 := O127.put_width hw W133
    have K134 := Keep.of_wr W133
    have O136 := O128.keep K134 (ninS ne102 nin0)
    have O137 := O129.keep K134 (ninS ne103 nin0)
    have O138 := O130.keep K134 (ninS (Ne.symm ne117) nin0)
    have K139 := K131.wr W133 (Or.inr sz106)
    show WP _ _ _ _ _ _ _ _ _ (mkF m 41 #[.val (.ref a), .val (.int (Int32.ofNat Y)), .val (.ref b101), .unset] [])
    refine w_aloadN X d7_41 rfl rfl (pc' := 42) rfl ?_
    refine w_lconst X d7_42 (v := (1 : Int64)) (by decide) (pc' := 43) rfl ?_
    refine w_iloadN X d7_43 rfl (pc' := 44) rfl ?_
    refine w_lshl X d7_44 (pc' := 45) rfl ?_
    refine w_lconst X d7_45 (v := (1 : Int64)) (by decide) (pc' := 46) rfl ?_
    refine w_lsub X d7_46 (pc' := 47) rfl ?_
    refine w_l2i X d7_47 (pc' := 48) rfl ?_
    refine w_nameI ?_; intro gg h_gg
    obtain rfl : gg = (Int32.ofNat (2 ^ Y - 1)) := gr_ok h_gg hY2
    refine w_putF X (tw15 hw) O135.get_greatest O135.exa (Or.inl (tw16 hw)) (tw2 hw) ga101 d7_48 (ty := .int) (v' := (.int (Int32.ofNat (2 ^ Y - 1)))) (by decide) rfl rfl (pc' := 51) rfl ?_; intro T h140 X W141
    have O143 := O135.put_greatest hw W141
    have K142 := Keep.of_wr W141
    have O144 := O136.keep K142 (ninS ne102 nin0)
    have O145 := O137.keep K142 (ninS ne103 nin0)
    have O146 := O138.keep K142 (ninS (Ne.symm ne117) nin0)
    have K147 := K139.wr W141 (Or.inr sz106)
    show WP _ _ _ _ _ _ _ _ _ (mkF m 51 #[.val (.ref a), .val (.int (Int32.ofNat Y)), .val (.ref b101), .unset] [])
    refine w_aloadN X d7_51 rfl rfl (pc' := 52) rfl ?_
    refine w_aloadN X d7_52 rfl rfl (pc' := 53) rfl ?_
    refine w_getF X (tw11 hw) O143.get_words d7_53 (pc' := 56) rfl ?_; intro T X
    refine w_arraylength X O146 d7_56 (z := (Int32.ofNat lb)) rfl (pc' := 57) rfl ?_
    refine w_bipush X d7_57 (v := (64 : Int32)) (by decide) (pc' := 59) rfl ?_
    refine w_imul X d7_59 (pc' := 60) rfl ?_
    refine w_iloadN X d7_60 rfl (pc' := 61) rfl ?_
    refine w_idiv X d7_61 (ofN_ne hY0 hY2) (pc' := 62) rfl ?_
    refine w_nameI ?_; intro rr h_rr
    obtain rfl : rr = (Int32.ofNat (64 * lb / Y)) := room_eq2 h_rr hlb hY0 hY2
    refine w_putF X (tw17 hw) O143.get_room O143.exa (Or.inl (tw18 hw)) (tw2 hw) ga101 d7_62 (ty := .int) (v' := (.int (Int32.ofNat (64 * lb / Y)))) (by decide) rfl rfl (pc' := 65) rfl ?_; intro T h148 X W149
    have O151 := O143.put_room hw W149
    have K150 := Keep.of_wr W149
    have O152 := O144.keep K150 (ninS ne102 nin0)
    have O153 := O145.keep K150 (ninS ne103 nin0)
    have O154 := O146.keep K150 (ninS (Ne.symm ne117) nin0)
    have K155 := K147.wr W149 (Or.inr sz106)
    show WP _ _ _ _ _ _ _ _ _ (mkF m 65 #[.val (.ref a), .val (.int (Int32.ofNat Y)), .val (.ref b101), .unset] [])
    have PB : PP (fun _ => 0) lb Y 0 xs := ⟨Rp.zero, hlb, hY0, hY2, Nat.zero_le _, by decide⟩
    have O156 : Pk Z h148 b101 (.ref b114) (.int (Int32.ofNat Y)) (.int (Int32.ofNat (2 ^ Y - 1))) (.int (Int32.ofNat (64 * lb / Y))) (.int (0 : Int32)) := O151
    refine w_iconst X d7_65 (v := (0 : Int32)) (by decide) (pc' := 66) rfl ?_
    refine w_istoreN X d7_66 (L' := #[.val (.ref a), .val (.int (Int32.ofNat Y)), .val (.ref b101), .val (.int (0 : Int32))]) rfl (pc' := 67) rfl ?_
    refine w_iloadN X d7_67 rfl (pc' := 68) rfl ?_
    refine w_aloadN X d7_68 rfl rfl (pc' := 69) rfl ?_
    refine w_getF X (tw24 hw) O152.get_count d7_69 (pc' := 72) rfl ?_; intro T X
    refine w_icmp_ge X d7_72 (by decide) (p1 := 90) (by decide) (p2 := 75) rfl (fun c72 => False.elim (absurd c72 (by decide))) (fun c72 => ?_)
    refine w_aloadN X d7_75 rfl rfl (pc' := 76) rfl ?_
    refine w_aloadN X d7_76 rfl rfl (pc' := 77) rfl ?_
    refine w_iloadN X d7_77 rfl (pc' := 78) rfl ?_
    refine w_callV X [(.int (0 : Int32))] [(.ref b101)] 1 (tw49 hw) (tw50 hw) (tw52 hw) (tw51 hw) (tw3 hw) (tw53 hw) O152.exa (ct_get l Z a0 hw a u (0 : Int32) len W 1 0 g xs h148 n0 X.n0le O152 O153 P (by decide) (by decide)) d7_78 pd0 rfl (by decide) rfl rfl rfl (by decide) (by decide) (by decide) (by decide) (pc' := 81) rfl ?_
    intro T hz v X hQ
    obtain ⟨rfl, hz1⟩ := hQ; replace hz1 := hz1.symm; subst hz1
    show WP _ _ _ _ _ _ _ _ _ (mkF m 81 #[.val (.ref a), .val (.int (Int32.ofNat Y)), .val (.ref b101), .val (.int (0 : Int32))] [(.int (xs 0)), (.ref b101)])
    refine w_callV X [(.int (xs 0))] [] 0 (tw54 hw) (tw20 hw) (tw22 hw) (tw21 hw) (tw3 hw) (tw23 hw) O156.exa (ct_add0 l Z a0 hw b101 b114 (xs 0) lb Y 0 (fun _ => 0) xs h148 n0 X.n0le ga101 ga114 ne117 O156 O154 PB (by decide) (wide_ok P hY1 (by decide))) d7_81 pd5 rfl (by decide) rfl rfl rfl (by decide) (by decide) (by decide) (by decide) (pc' := 84) rfl ?_
    intro T h158 v X hQ
    obtain ⟨rfl, uq157, lq157, wq157, gq157, K159, Oq157, Vq157, Pq157, gu157, hu157, hwq157⟩ := hQ
    have O160 := O152.keep K159 (ninS ne102 (ninS ne115 nin0))
    have O161 := O153.keep K159 (ninS ne103 (ninS ne116 nin0))
    have K162 := K155.trans K159 (by simp [sz106, sz121])
    show WP _ _ _ _ _ _ _ _ _ (mkF m 84 #[.val (.ref a), .val (.int (Int32.ofNat Y)), .val (.ref b101), .val (.int (0 : Int32))] [])
    replace hwq157 := hwq157.symm; subst hwq157
    have Pq157 := Pq157.congr (ys := xs) (fun i hi => upd_self xs 0 i)
    have Oq157 : Pk Z h158 b101 (.ref uq157) (.int (Int32.ofNat Y)) (.int (Int32.ofNat (2 ^ Y - 1))) (.int (Int32.ofNat (64 * lq157 / Y))) (.int (1 : Int32)) := Oq157
    have ne_a_uq157 : a ≠ uq157 := ne_or hu157 ne115 O152.lt
    have ne_u_uq157 : u ≠ uq157 := ne_or hu157 ne116 O153.lt
    have ne_b101_uq157 : b101 ≠ uq157 := ne_or hu157 ne117 O156.lt
    have szq157 := sz_or hu157 sz121 K155.1
    refine w_iinc X d7_84 rfl (v' := (1 : Int32)) (by first | rfl | decide) (L' := #[.val (.ref a), .val (.int (Int32.ofNat Y)), .val (.ref b101), .val (.int (1 : Int32))]) rfl (pc' := 87) rfl ?_
    refine w_goto X d7_87 (by decide) (pc' := 67) (by decide) ?_
    refine w_iloadN X d7_67 rfl (pc' := 68) rfl ?_
    refine w_aloadN X d7_68 rfl rfl (pc' := 69) rfl ?_
    refine w_getF X (tw24 hw) O160.get_count d7_69 (pc' := 72) rfl ?_; intro T X
    refine w_icmp_ge X d7_72 (by decide) (p1 := 90) (by decide) (p2 := 75) rfl (fun c72_2 => ?_) (fun c72_2 => False.elim (absurd c72_2 (by decide)))
    refine w_aloadN X d7_90 rfl rfl (pc' := 91) rfl ?_
    refine w_aloadN X d7_91 rfl rfl (pc' := 92) rfl ?_
    refine w_getF X (tw11 hw) Oq157.get_words d7_92 (pc' := 95) rfl ?_; intro T X
    refine w_putF X (tw11 hw) O160.get_words O160.exa (Or.inl (tw12 hw)) (tw2 hw) ga d7_95 (ty := (.array .long)) (v' := (.ref uq157)) (by decide) rfl rfl (pc' := 98) rfl ?_; intro T h163 X W164
    have O166 := O160.put_words hw W164
    have K165 := Keep.of_wr W164
    have O167 := O161.keep K165 (ninS (Ne.symm hau) nin0)
    have O168 := Oq157.keep K165 (ninS (Ne.symm ne102) nin0)
    have O169 := Vq157.keep K165 (ninS (Ne.symm ne_a_uq157) nin0)
    have K170 := K162.wr W164 (Or.inl (by simp))
    show WP _ _ _ _ _ _ _ _ _ (mkF m 98 #[.val (.ref a), .val (.int (Int32.ofNat Y)), .val (.ref b101), .val (.int (1 : Int32))] [])
    refine w_aloadN X d7_98 rfl rfl (pc' := 99) rfl ?_
    refine w_iloadN X d7_99 rfl (pc' := 100) rfl ?_
    refine w_putF X (tw13 hw) O166.get_width O166.exa (Or.inl (tw14 hw)) (tw2 hw) ga d7_100 (ty := .int) (v' := (.int (Int32.ofNat Y))) (by decide) rfl rfl (pc' := 103) rfl ?_; intro T h171 X W172
    have O174 := O166.put_width hw W172
    have K173 := Keep.of_wr W172
    have O175 := O167.keep K173 (ninS (Ne.symm hau) nin0)
    have O176 := O168.keep K173 (ninS (Ne.symm ne102) nin0)
    have O177 := O169.keep K173 (ninS (Ne.symm ne_a_uq157) nin0)
    have K178 := K170.wr W172 (Or.inl (by simp))
    show WP _ _ _ _ _ _ _ _ _ (mkF m 103 #[.val (.ref a), .val (.int (Int32.ofNat Y)), .val (.ref b101), .val (.int (1 : Int32))] [])
    refine w_aloadN X d7_103 rfl rfl (pc' := 104) rfl ?_
    refine w_aloadN X d7_104 rfl rfl (pc' := 105) rfl ?_
    refine w_getF X (tw15 hw) O176.get_greatest d7_105 (pc' := 108) rfl ?_; intro T X
    refine w_putF X (tw15 hw) O174.get_greatest O174.exa (Or.inl (tw16 hw)) (tw2 hw) ga d7_108 (ty := .int) (v' := (.int (Int32.ofNat (2 ^ Y - 1)))) (by decide) rfl rfl (pc' := 111) rfl ?_; intro T h179 X W180
    have O182 := O174.put_greatest hw W180
    have K181 := Keep.of_wr W180
    have O183 := O175.keep K181 (ninS (Ne.symm hau) nin0)
    have O184 := O176.keep K181 (ninS (Ne.symm ne102) nin0)
    have O185 := O177.keep K181 (ninS (Ne.symm ne_a_uq157) nin0)
    have K186 := K178.wr W180 (Or.inl (by simp))
    show WP _ _ _ _ _ _ _ _ _ (mkF m 111 #[.val (.ref a), .val (.int (Int32.ofNat Y)), .val (.ref b101), .val (.int (1 : Int32))] [])
    refine w_aloadN X d7_111 rfl rfl (pc' := 112) rfl ?_
    refine w_aloadN X d7_112 rfl rfl (pc' := 113) rfl ?_
    refine w_getF X (tw17 hw) O184.get_room d7_113 (pc' := 116) rfl ?_; intro T X
    refine w_putF X (tw17 hw) O182.get_room O182.exa (Or.inl (tw18 hw)) (tw2 hw) ga d7_116 (ty := .int) (v' := (.int (Int32.ofNat (64 * lq157 / Y)))) (by decide) rfl rfl (pc' := 119) rfl ?_; intro T h187 X W188
    have O190 := O182.put_room hw W188
    have K189 := Keep.of_wr W188
    have O191 := O183.keep K189 (ninS (Ne.symm hau) nin0)
    have O192 := O184.keep K189 (ninS (Ne.symm ne102) nin0)
    have O193 := O185.keep K189 (ninS (Ne.symm ne_a_uq157) nin0)
    have K194 := K186.wr W188 (Or.inl (by simp))
    show WP _ _ _ _ _ _ _ _ _ (mkF m 119 #[.val (.ref a), .val (.int (Int32.ofNat Y)), .val (.ref b101), .val (.int (1 : Int32))] [])
    exact w_retV X rfl d7_119 (by decide) (by decide) ⟨rfl, uq157, lq157, gq157, K194, O190, O193, Pq157, gu157, szq157⟩
  · -- 2 numbers
    have O : Pk Z h0 a (.ref u) (.int (Int32.ofNat W)) (.int (Int32.ofNat (2 ^ W - 1))) (.int (Int32.ofNat (64 * len / W))) (.int (2 : Int32)) := O
    have K := Keep.refl h0 [a]
    refine w_new X (tw43 hw) (tw2 hw) (tw3 hw) d7_0 (by decide) (by decide) (pc' := 3) rfl ?_; intro T h201 b201 X eq201 ga201 E201 A201 D201
    have ne202 : a ≠ b201 := Nat.ne_of_lt (Nat.lt_of_lt_of_eq O.lt eq201.symm)
    have ne203 : u ≠ b201 := Nat.ne_of_lt (Nat.lt_of_lt_of_eq V.lt eq201.symm)
    have O204 := O.ext E201
    have O205 := V.ext E201
    have sz206 : h0.size ≤ b201 := Nat.le_trans K.1 (Nat.le_of_eq eq201.symm)
    have K207 := K.ext E201
    have O208 : Pk Z h201 b201 .null (.int (0 : Int32)) (.int (0 : Int32)) (.int (0 : Int32)) (.int (0 : Int32)) := ⟨A201, D201 (Or.inl (tw12 hw)) (ty := (.array .long)) (by decide), D201 (Or.inl (tw14 hw)) (ty := .int) (by decide), D201 (Or.inl (tw16 hw)) (ty := .int) (by decide), D201 (Or.inl (tw18 hw)) (ty := .int) (by decide), D201 (Or.inl (tw25 hw)) (ty := .int) (by decide)⟩
    refine w_dup X d7_3 rfl (pc' := 4) rfl ?_
    refine w_callC X [] [(.ref b201)] 1 rfl (tw44 hw) (tw5 hw) (tw3 hw) (tw6 hw) (ct_init l Z a0 hw b201 h201 n0 X.n0le ga201 O208) d7_4 pd4 rfl (by decide) rfl rfl rfl (by decide) (by decide) (by decide) (by decide) (pc' := 7) rfl ?_
    intro T h209 v X hQ
    obtain ⟨rfl, ui, K210, Oi, Vi, szi, gi⟩ := hQ
    have O211 := O204.keep K210 (ninS ne202 nin0)
    have O212 := O205.keep K210 (ninS ne203 nin0)
    have K213 := K207.trans K210 (by simp [sz206])
    show WP _ _ _ _ _ _ _ _ _ (mkF m 7 #[.val (.ref a), .val (.int (Int32.ofNat Y)), .unset, .unset] [(.ref b201)])
    refine w_astoreN X d7_7 (L' := #[.val (.ref a), .val (.int (Int32.ofNat Y)), .val (.ref b201), .unset]) rfl rfl (pc' := 8) rfl ?_
    refine w_aloadN X d7_8 rfl rfl (pc' := 9) rfl ?_
    refine w_aloadN X d7_9 rfl rfl (pc' := 10) rfl ?_
    refine w_getF X (tw11 hw) O211.get_words d7_10 (pc' := 13) rfl ?_; intro T X
    refine w_arraylength X O212 d7_13 (z := (Int32.ofNat len)) rfl (pc' := 14) rfl ?_
    refine w_aloadN X d7_14 rfl rfl (pc' := 15) rfl ?_
    refine w_getF X (tw24 hw) O211.get_count d7_15 (pc' := 18) rfl ?_; intro T X
    refine w_i2l X d7_18 (pc' := 19) rfl ?_
    refine w_iloadN X d7_19 rfl (pc' := 20) rfl ?_
    refine w_i2l X d7_20 (pc' := 21) rfl ?_
    refine w_lmul X d7_21 (pc' := 22) rfl ?_
    refine w_bipush X d7_22 (v := (6 : Int32)) (by decide) (pc' := 24) rfl ?_
    refine w_lushr X d7_24 (pc' := 25) rfl ?_
    refine w_l2i X d7_25 (pc' := 26) rfl ?_
    refine w_iconst X d7_26 (v := (1 : Int32)) (by decide) (pc' := 27) rfl ?_
    refine w_iadd X d7_27 (pc' := 28) rfl ?_
    refine w_callS X [(.int (Int32.ofNat len)), (.int (((((((2 : Int32)).toInt64 * ((Int32.ofNat Y)).toInt64)).toUInt64 >>> ((6 : Int32) &&& 0x3f).toInt64.toUInt64).toInt64).toInt32 + (1 : Int32)))] [(.ref b201)] 1 (tw45 hw) (tw46 hw) (tw47 hw) (tw48 hw) (ct_fMax l Z a0 hw (Int32.ofNat len) (((((((2 : Int32)).toInt64 * ((Int32.ofNat Y)).toInt64)).toUInt64 >>> ((6 : Int32) &&& 0x3f).toInt64.toUInt64).toInt64).toInt32 + (1 : Int32)) h209 n0 X.n0le) d7_28 pd2 rfl (by decide) rfl rfl rfl (by decide) (by decide) (by decide) (by decide) (pc' := 31) rfl ?_
    intro T hz v X hQ
    obtain ⟨rfl, hz1⟩ := hQ; replace hz1 := hz1.symm; subst hz1
    show WP _ _ _ _ _ _ _ _ _ (mkF m 31 #[.val (.ref a), .val (.int (Int32.ofNat Y)), .val (.ref b201), .unset] [(.int (fMax (Int32.ofNat len) (((((((2 : Int32)).toInt64 * ((Int32.ofNat Y)).toInt64)).toUInt64 >>> ((6 : Int32) &&& 0x3f).toInt64.toUInt64).toInt64).toInt32 + (1 : Int32)))), (.ref b201)])
    refine w_nameI ?_; intro mz h_mz
    obtain ⟨lb, hmz, hlb, hlc⟩ := max_ok (c := 2) h_mz (by decide) hY2 P.2.1
    refine w_newarray X (aty := .long) 2 (tw10 hw) d7_31 (nonneg hmz) (le2 hmz hlb) (by decide) (by decide) (by decide) (pc' := 33) rfl ?_; intro T h214 b214 cA214 X eq214 ga214 E214 A214
    have ne215 : a ≠ b214 := Nat.ne_of_lt (Nat.lt_of_lt_of_eq O211.lt eq214.symm)
    have ne216 : u ≠ b214 := Nat.ne_of_lt (Nat.lt_of_lt_of_eq O212.lt eq214.symm)
    have ne217 : b201 ≠ b214 := Nat.ne_of_lt (Nat.lt_of_lt_of_eq Oi.lt eq214.symm)
    have O218 := O211.ext E214
    have O219 := O212.ext E214
    have O220 := Oi.ext E214
    have sz221 : h0.size ≤ b214 := Nat.le_trans K213.1 (Nat.le_of_eq eq214.symm)
    have K222 := K213.ext E214
    have O223 : AJ Z h214 b214 lb (fun _ => 0) := AJ.new A214 hmz
    refine w_putF X (tw11 hw) O220.get_words O220.exa (Or.inl (tw12 hw)) (tw2 hw) ga201 d7_33 (ty := (.array .long)) (v' := (.ref b214)) (by decide) rfl rfl (pc' := 36) rfl ?_; intro T h224 X W225
    have O227 := O220.put_words hw W225
    have K226 := Keep.of_wr W225
    have O228 := O218.keep K226 (ninS ne202 nin0)
    have O229 := O219.keep K226 (ninS ne203 nin0)
    have O230 := O223.keep K226 (ninS (Ne.symm ne217) nin0)
    have K231 := K222.wr W225 (Or.inr sz206)
    show WP _ _ _ _ _ _ _ _ _ (mkF m 36 #[.val (.ref a), .val (.int (Int32.ofNat Y)), .val (.ref b201), .unset] [])
    refine w_aloadN X d7_36 rfl rfl (pc' := 37) rfl ?_
    refine w_iloadN X d7_37 rfl (pc' := 38) rfl ?_
    refine w_putF X (tw13 hw) O227.get_width O227.exa (Or.inl (tw14 hw)) (tw2 hw) ga201 d7_38 (ty := .int) (v' := (.int (Int32.ofNat Y))) (by decide) rfl rfl (pc' := 41) rfl ?_; intro T h232 X W233
    have O235 := O227.put_width hw W233
    have K234 := Keep.of_wr W233
    have O236 := O228.keep K234 (ninS ne202 nin0)
    have O237 := O229.keep K234 (ninS ne203 nin0)
    have O238 := O230.keep K234 (ninS (Ne.symm ne217) nin0)
    have K239 := K231.wr W233 (Or.inr sz206)
    show WP _ _ _ _ _ _ _ _ _ (mkF m 41 #[.val (.ref a), .val (.int (Int32.ofNat Y)), .val (.ref b201), .unset] [])
    refine w_aloadN X d7_41 rfl rfl (pc' := 42) rfl ?_
    refine w_lconst X d7_42 (v := (1 : Int64)) (by decide) (pc' := 43) rfl ?_
    refine w_iloadN X d7_43 rfl (pc' := 44) rfl ?_
    refine w_lshl X d7_44 (pc' := 45) rfl ?_
    refine w_lconst X d7_45 (v := (1 : Int64)) (by decide) (pc' := 46) rfl ?_
    refine w_lsub X d7_46 (pc' := 47) rfl ?_
    refine w_l2i X d7_47 (pc' := 48) rfl ?_
    refine w_nameI ?_; intro gg h_gg
    obtain rfl : gg = (Int32.ofNat (2 ^ Y - 1)) := gr_ok h_gg hY2
    refine w_putF X (tw15 hw) O235.get_greatest O235.exa (Or.inl (tw16 hw)) (tw2 hw) ga201 d7_48 (ty := .int) (v' := (.int (Int32.ofNat (2 ^ Y - 1)))) (by decide) rfl rfl (pc' := 51) rfl ?_; intro T h240 X W241
    have O243 := O235.put_greatest hw W241
    have K242 := Keep.of_wr W241
    have O244 := O236.keep K242 (ninS ne202 nin0)
    have O245 := O237.keep K242 (ninS ne203 nin0)
    have O246 := O238.keep K242 (ninS (Ne.symm ne217) nin0)
    have K247 := K239.wr W241 (Or.inr sz206)
    show WP _ _ _ _ _ _ _ _ _ (mkF m 51 #[.val (.ref a), .val (.int (Int32.ofNat Y)), .val (.ref b201), .unset] [])
    refine w_aloadN X d7_51 rfl rfl (pc' := 52) rfl ?_
    refine w_aloadN X d7_52 rfl rfl (pc' := 53) rfl ?_
    refine w_getF X (tw11 hw) O243.get_words d7_53 (pc' := 56) rfl ?_; intro T X
    refine w_arraylength X O246 d7_56 (z := (Int32.ofNat lb)) rfl (pc' := 57) rfl ?_
    refine w_bipush X d7_57 (v := (64 : Int32)) (by decide) (pc' := 59) rfl ?_
    refine w_imul X d7_59 (pc' := 60) rfl ?_
    refine w_iloadN X d7_60 rfl (pc' := 61) rfl ?_
    refine w_idiv X d7_61 (ofN_ne hY0 hY2) (pc' := 62) rfl ?_
    refine w_nameI ?_; intro rr h_rr
    obtain rfl : rr = (Int32.ofNat (64 * lb / Y)) := room_eq2 h_rr hlb hY0 hY2
    refine w_putF X (tw17 hw) O243.get_room O243.exa (Or.inl (tw18 hw)) (tw2 hw) ga201 d7_62 (ty := .int) (v' := (.int (Int32.ofNat (64 * lb / Y)))) (by decide) rfl rfl (pc' := 65) rfl ?_; intro T h248 X W249
    have O251 := O243.put_room hw W249
    have K250 := Keep.of_wr W249
    have O252 := O244.keep K250 (ninS ne202 nin0)
    have O253 := O245.keep K250 (ninS ne203 nin0)
    have O254 := O246.keep K250 (ninS (Ne.symm ne217) nin0)
    have K255 := K247.wr W249 (Or.inr sz206)
    show WP _ _ _ _ _ _ _ _ _ (mkF m 65 #[.val (.ref a), .val (.int (Int32.ofNat Y)), .val (.ref b201), .unset] [])
    have PB : PP (fun _ => 0) lb Y 0 xs := ⟨Rp.zero, hlb, hY0, hY2, Nat.zero_le _, by decide⟩
    have O256 : Pk Z h248 b201 (.ref b214) (.int (Int32.ofNat Y)) (.int (Int32.ofNat (2 ^ Y - 1))) (.int (Int32.ofNat (64 * lb / Y))) (.int (0 : Int32)) := O251
    refine w_iconst X d7_65 (v := (0 : Int32)) (by decide) (pc' := 66) rfl ?_
    refine w_istoreN X d7_66 (L' := #[.val (.ref a), .val (.int (Int32.ofNat Y)), .val (.ref b201), .val (.int (0 : Int32))]) rfl (pc' := 67) rfl ?_
    refine w_iloadN X d7_67 rfl (pc' := 68) rfl ?_
    refine w_aloadN X d7_68 rfl rfl (pc' := 69) rfl ?_
    refine w_getF X (tw24 hw) O252.get_count d7_69 (pc' := 72) rfl ?_; intro T X
    refine w_icmp_ge X d7_72 (by decide) (p1 := 90) (by decide) (p2 := 75) rfl (fun c72 => False.elim (absurd c72 (by decide))) (fun c72 => ?_)
    refine w_aloadN X d7_75 rfl rfl (pc' := 76) rfl ?_
    refine w_aloadN X d7_76 rfl rfl (pc' := 77) rfl ?_
    refine w_iloadN X d7_77 rfl (pc' := 78) rfl ?_
    refine w_callV X [(.int (0 : Int32))] [(.ref b201)] 1 (tw49 hw) (tw50 hw) (tw52 hw) (tw51 hw) (tw3 hw) (tw53 hw) O252.exa (ct_get l Z a0 hw a u (0 : Int32) len W 2 0 g xs h248 n0 X.n0le O252 O253 P (by decide) (by decide)) d7_78 pd0 rfl (by decide) rfl rfl rfl (by decide) (by decide) (by decide) (by decide) (pc' := 81) rfl ?_
    intro T hz v X hQ
    obtain ⟨rfl, hz1⟩ := hQ; replace hz1 := hz1.symm; subst hz1
    show WP _ _ _ _ _ _ _ _ _ (mkF m 81 #[.val (.ref a), .val (.int (Int32.ofNat Y)), .val (.ref b201), .val (.int (0 : Int32))] [(.int (xs 0)), (.ref b201)])
    refine w_callV X [(.int (xs 0))] [] 0 (tw54 hw) (tw20 hw) (tw22 hw) (tw21 hw) (tw3 hw) (tw23 hw) O256.exa (ct_add0 l Z a0 hw b201 b214 (xs 0) lb Y 0 (fun _ => 0) xs h248 n0 X.n0le ga201 ga214 ne217 O256 O254 PB (by decide) (wide_ok P hY1 (by decide))) d7_81 pd5 rfl (by decide) rfl rfl rfl (by decide) (by decide) (by decide) (by decide) (pc' := 84) rfl ?_
    intro T h258 v X hQ
    obtain ⟨rfl, uq257, lq257, wq257, gq257, K259, Oq257, Vq257, Pq257, gu257, hu257, hwq257⟩ := hQ
    have O260 := O252.keep K259 (ninS ne202 (ninS ne215 nin0))
    have O261 := O253.keep K259 (ninS ne203 (ninS ne216 nin0))
    have K262 := K255.trans K259 (by simp [sz206, sz221])
    show WP _ _ _ _ _ _ _ _ _ (mkF m 84 #[.val (.ref a), .val (.int (Int32.ofNat Y)), .val (.ref b201), .val (.int (0 : Int32))] [])
    replace hwq257 := hwq257.symm; subst hwq257
    have Pq257 := Pq257.congr (ys := xs) (fun i hi => upd_self xs 0 i)
    have Oq257 : Pk Z h258 b201 (.ref uq257) (.int (Int32.ofNat Y)) (.int (Int32.ofNat (2 ^ Y - 1))) (.int (Int32.ofNat (64 * lq257 / Y))) (.int (1 : Int32)) := Oq257
    have ne_a_uq257 : a ≠ uq257 := ne_or hu257 ne215 O252.lt
    have ne_u_uq257 : u ≠ uq257 := ne_or hu257 ne216 O253.lt
    have ne_b201_uq257 : b201 ≠ uq257 := ne_or hu257 ne217 O256.lt
    have szq257 := sz_or hu257 sz221 K255.1
    refine w_iinc X d7_84 rfl (v' := (1 : Int32)) (by first | rfl | decide) (L' := #[.val (.ref a), .val (.int (Int32.ofNat Y)), .val (.ref b201), .val (.int (1 : Int32))]) rfl (pc' := 87) rfl ?_
    refine w_goto X d7_87 (by decide) (pc' := 67) (by decide) ?_
    refine w_iloadN X d7_67 rfl (pc' := 68) rfl ?_
    refine w_aloadN X d7_68 rfl rfl (pc' := 69) rfl ?_
    refine w_getF X (tw24 hw) O260.get_count d7_69 (pc' := 72) rfl ?_; intro T X
    refine w_icmp_ge X d7_72 (by decide) (p1 := 90) (by decide) (p2 := 75) rfl (fun c72_2 => False.elim (absurd c72_2 (by decide))) (fun c72_2 => ?_)
    refine w_aloadN X d7_75 rfl rfl (pc' := 76) rfl ?_
    refine w_aloadN X d7_76 rfl rfl (pc' := 77) rfl ?_
    refine w_iloadN X d7_77 rfl (pc' := 78) rfl ?_
    refine w_callV X [(.int (1 : Int32))] [(.ref b201)] 1 (tw49 hw) (tw50 hw) (tw52 hw) (tw51 hw) (tw3 hw) (tw53 hw) O260.exa (ct_get l Z a0 hw a u (1 : Int32) len W 2 1 g xs h258 n0 X.n0le O260 O261 P (by decide) (by decide)) d7_78 pd0 rfl (by decide) rfl rfl rfl (by decide) (by decide) (by decide) (by decide) (pc' := 81) rfl ?_
    intro T hz v X hQ
    obtain ⟨rfl, hz1⟩ := hQ; replace hz1 := hz1.symm; subst hz1
    show WP _ _ _ _ _ _ _ _ _ (mkF m 81 #[.val (.ref a), .val (.int (Int32.ofNat Y)), .val (.ref b201), .val (.int (1 : Int32))] [(.int (xs 1)), (.ref b201)])
    refine w_callV X [(.int (xs 1))] [] 0 (tw54 hw) (tw20 hw) (tw22 hw) (tw21 hw) (tw3 hw) (tw23 hw) Oq257.exa (ct_add0 l Z a0 hw b201 uq257 (xs 1) lq257 Y 1 gq257 xs h258 n0 X.n0le ga201 gu257 ne_b201_uq257 Oq257 Vq257 Pq257 (by decide) (wide_ok P hY1 (by decide))) d7_81 pd5 rfl (by decide) rfl rfl rfl (by decide) (by decide) (by decide) (by decide) (pc' := 84) rfl ?_
    intro T h264 v X hQ
    obtain ⟨rfl, uq263, lq263, wq263, gq263, K265, Oq263, Vq263, Pq263, gu263, hu263, hwq263⟩ := hQ
    have O266 := O260.keep K265 (ninS ne202 (ninS ne_a_uq257 nin0))
    have O267 := O261.keep K265 (ninS ne203 (ninS ne_u_uq257 nin0))
    have K268 := K262.trans K265 (by simp [sz206, szq257])
    show WP _ _ _ _ _ _ _ _ _ (mkF m 84 #[.val (.ref a), .val (.int (Int32.ofNat Y)), .val (.ref b201), .val (.int (1 : Int32))] [])
    replace hwq263 := hwq263.symm; subst hwq263
    have Pq263 := Pq263.congr (ys := xs) (fun i hi => upd_self xs 1 i)
    have Oq263 : Pk Z h264 b201 (.ref uq263) (.int (Int32.ofNat Y)) (.int (Int32.ofNat (2 ^ Y - 1))) (.int (Int32.ofNat (64 * lq263 / Y))) (.int (2 : Int32)) := Oq263
    have ne_a_uq263 : a ≠ uq263 := ne_or hu263 ne_a_uq257 O260.lt
    have ne_u_uq263 : u ≠ uq263 := ne_or hu263 ne_u_uq257 O261.lt
    have ne_b201_uq263 : b201 ≠ uq263 := ne_or hu263 ne_b201_uq257 Oq257.lt
    have szq263 := sz_or hu263 szq257 K262.1
    refine w_iinc X d7_84 rfl (v' := (2 : Int32)) (by first | rfl | decide) (L' := #[.val (.ref a), .val (.int (Int32.ofNat Y)), .val (.ref b201), .val (.int (2 : Int32))]) rfl (pc' := 87) rfl ?_
    refine w_goto X d7_87 (by decide) (pc' := 67) (by decide) ?_
    refine w_iloadN X d7_67 rfl (pc' := 68) rfl ?_
    refine w_aloadN X d7_68 rfl rfl (pc' := 69) rfl ?_
    refine w_getF X (tw24 hw) O266.get_count d7_69 (pc' := 72) rfl ?_; intro T X
    refine w_icmp_ge X d7_72 (by decide) (p1 := 90) (by decide) (p2 := 75) rfl (fun c72_3 => ?_) (fun c72_3 => False.elim (absurd c72_3 (by decide)))
    refine w_aloadN X d7_90 rfl rfl (pc' := 91) rfl ?_
    refine w_aloadN X d7_91 rfl rfl (pc' := 92) rfl ?_
    refine w_getF X (tw11 hw) Oq263.get_words d7_92 (pc' := 95) rfl ?_; intro T X
    refine w_putF X (tw11 hw) O266.get_words O266.exa (Or.inl (tw12 hw)) (tw2 hw) ga d7_95 (ty := (.array .long)) (v' := (.ref uq263)) (by decide) rfl rfl (pc' := 98) rfl ?_; intro T h269 X W270
    have O272 := O266.put_words hw W270
    have K271 := Keep.of_wr W270
    have O273 := O267.keep K271 (ninS (Ne.symm hau) nin0)
    have O274 := Oq263.keep K271 (ninS (Ne.symm ne202) nin0)
    have O275 := Vq263.keep K271 (ninS (Ne.symm ne_a_uq263) nin0)
    have K276 := K268.wr W270 (Or.inl (by simp))
    show WP _ _ _ _ _ _ _ _ _ (mkF m 98 #[.val (.ref a), .val (.int (Int32.ofNat Y)), .val (.ref b201), .val (.int (2 : Int32))] [])
    refine w_aloadN X d7_98 rfl rfl (pc' := 99) rfl ?_
    refine w_iloadN X d7_99 rfl (pc' := 100) rfl ?_
    refine w_putF X (tw13 hw) O272.get_width O272.exa (Or.inl (tw14 hw)) (tw2 hw) ga d7_100 (ty := .int) (v' := (.int (Int32.ofNat Y))) (by decide) rfl rfl (pc' := 103) rfl ?_; intro T h277 X W278
    have O280 := O272.put_width hw W278
    have K279 := Keep.of_wr W278
    have O281 := O273.keep K279 (ninS (Ne.symm hau) nin0)
    have O282 := O274.keep K279 (ninS (Ne.symm ne202) nin0)
    have O283 := O275.keep K279 (ninS (Ne.symm ne_a_uq263) nin0)
    have K284 := K276.wr W278 (Or.inl (by simp))
    show WP _ _ _ _ _ _ _ _ _ (mkF m 103 #[.val (.ref a), .val (.int (Int32.ofNat Y)), .val (.ref b201), .val (.int (2 : Int32))] [])
    refine w_aloadN X d7_103 rfl rfl (pc' := 104) rfl ?_
    refine w_aloadN X d7_104 rfl rfl (pc' := 105) rfl ?_
    refine w_getF X (tw15 hw) O282.get_greatest d7_105 (pc' := 108) rfl ?_; intro T X
    refine w_putF X (tw15 hw) O280.get_greatest O280.exa (Or.inl (tw16 hw)) (tw2 hw) ga d7_108 (ty := .int) (v' := (.int (Int32.ofNat (2 ^ Y - 1)))) (by decide) rfl rfl (pc' := 111) rfl ?_; intro T h285 X W286
    have O288 := O280.put_greatest hw W286
    have K287 := Keep.of_wr W286
    have O289 := O281.keep K287 (ninS (Ne.symm hau) nin0)
    have O290 := O282.keep K287 (ninS (Ne.symm ne202) nin0)
    have O291 := O283.keep K287 (ninS (Ne.symm ne_a_uq263) nin0)
    have K292 := K284.wr W286 (Or.inl (by simp))
    show WP _ _ _ _ _ _ _ _ _ (mkF m 111 #[.val (.ref a), .val (.int (Int32.ofNat Y)), .val (.ref b201), .val (.int (2 : Int32))] [])
    refine w_aloadN X d7_111 rfl rfl (pc' := 112) rfl ?_
    refine w_aloadN X d7_112 rfl rfl (pc' := 113) rfl ?_
    refine w_getF X (tw17 hw) O290.get_room d7_113 (pc' := 116) rfl ?_; intro T X
    refine w_putF X (tw17 hw) O288.get_room O288.exa (Or.inl (tw18 hw)) (tw2 hw) ga d7_116 (ty := .int) (v' := (.int (Int32.ofNat (64 * lq263 / Y)))) (by decide) rfl rfl (pc' := 119) rfl ?_; intro T h293 X W294
    have O296 := O288.put_room hw W294
    have K295 := Keep.of_wr W294
    have O297 := O289.keep K295 (ninS (Ne.symm hau) nin0)
    have O298 := O290.keep K295 (ninS (Ne.symm ne202) nin0)
    have O299 := O291.keep K295 (ninS (Ne.symm ne_a_uq263) nin0)
    have K300 := K292.wr W294 (Or.inl (by simp))
    show WP _ _ _ _ _ _ _ _ _ (mkF m 119 #[.val (.ref a), .val (.int (Int32.ofNat Y)), .val (.ref b201), .val (.int (2 : Int32))] [])
    exact w_retV X rfl d7_119 (by decide) (by decide) ⟨rfl, uq263, lq263, gq263, K300, O296, O299, Pq263, gu263, szq263⟩
  · -- 3 numbers
    have O : Pk Z h0 a (.ref u) (.int (Int32.ofNat W)) (.int (Int32.ofNat (2 ^ W - 1))) (.int (Int32.ofNat (64 * len / W))) (.int (3 : Int32)) := O
    have K := Keep.refl h0 [a]
    refine w_new X (tw43 hw) (tw2 hw) (tw3 hw) d7_0 (by decide) (by decide) (pc' := 3) rfl ?_; intro T h301 b301 X eq301 ga301 E301 A301 D301
    have ne302 : a ≠ b301 := Nat.ne_of_lt (Nat.lt_of_lt_of_eq O.lt eq301.symm)
    have ne303 : u ≠ b301 := Nat.ne_of_lt (Nat.lt_of_lt_of_eq V.lt eq301.symm)
    have O304 := O.ext E301
    have O305 := V.ext E301
    have sz306 : h0.size ≤ b301 := Nat.le_trans K.1 (Nat.le_of_eq eq301.symm)
    have K307 := K.ext E301
    have O308 : Pk Z h301 b301 .null (.int (0 : Int32)) (.int (0 : Int32)) (.int (0 : Int32)) (.int (0 : Int32)) := ⟨A301, D301 (Or.inl (tw12 hw)) (ty := (.array .long)) (by decide), D301 (Or.inl (tw14 hw)) (ty := .int) (by decide), D301 (Or.inl (tw16 hw)) (ty := .int) (by decide), D301 (Or.inl (tw18 hw)) (ty := .int) (by decide), D301 (Or.inl (tw25 hw)) (ty := .int) (by decide)⟩
    refine w_dup X d7_3 rfl (pc' := 4) rfl ?_
    refine w_callC X [] [(.ref b301)] 1 rfl (tw44 hw) (tw5 hw) (tw3 hw) (tw6 hw) (ct_init l Z a0 hw b301 h301 n0 X.n0le ga301 O308) d7_4 pd4 rfl (by decide) rfl rfl rfl (by decide) (by decide) (by decide) (by decide) (pc' := 7) rfl ?_
    intro T h309 v X hQ
    obtain ⟨rfl, ui, K310, Oi, Vi, szi, gi⟩ := hQ
    have O311 := O304.keep K310 (ninS ne302 nin0)
    have O312 := O305.keep K310 (ninS ne303 nin0)
    have K313 := K307.trans K310 (by simp [sz306])
    show WP _ _ _ _ _ _ _ _ _ (mkF m 7 #[.val (.ref a), .val (.int (Int32.ofNat Y)), .unset, .unset] [(.ref b301)])
    refine w_astoreN X d7_7 (L' := #[.val (.ref a), .val (.int (Int32.ofNat Y)), .val (.ref b301), .unset]) rfl rfl (pc' := 8) rfl ?_
    refine w_aloadN X d7_8 rfl rfl (pc' := 9) rfl ?_
    refine w_aloadN X d7_9 rfl rfl (pc' := 10) rfl ?_
    refine w_getF X (tw11 hw) O311.get_words d7_10 (pc' := 13) rfl ?_; intro T X
    refine w_arraylength X O312 d7_13 (z := (Int32.ofNat len)) rfl (pc' := 14) rfl ?_
    refine w_aloadN X d7_14 rfl rfl (pc' := 15) rfl ?_
    refine w_getF X (tw24 hw) O311.get_count d7_15 (pc' := 18) rfl ?_; intro T X
    refine w_i2l X d7_18 (pc' := 19) rfl ?_
    refine w_iloadN X d7_19 rfl (pc' := 20) rfl ?_
    refine w_i2l X d7_20 (pc' := 21) rfl ?_
    refine w_lmul X d7_21 (pc' := 22) rfl ?_
    refine w_bipush X d7_22 (v := (6 : Int32)) (by decide) (pc' := 24) rfl ?_
    refine w_lushr X d7_24 (pc' := 25) rfl ?_
    refine w_l2i X d7_25 (pc' := 26) rfl ?_
    refine w_iconst X d7_26 (v := (1 : Int32)) (by decide) (pc' := 27) rfl ?_
    refine w_iadd X d7_27 (pc' := 28) rfl ?_
    refine w_callS X [(.int (Int32.ofNat len)), (.int (((((((3 : Int32)).toInt64 * ((Int32.ofNat Y)).toInt64)).toUInt64 >>> ((6 : Int32) &&& 0x3f).toInt64.toUInt64).toInt64).toInt32 + (1 : Int32)))] [(.ref b301)] 1 (tw45 hw) (tw46 hw) (tw47 hw) (tw48 hw) (ct_fMax l Z a0 hw (Int32.ofNat len) (((((((3 : Int32)).toInt64 * ((Int32.ofNat Y)).toInt64)).toUInt64 >>> ((6 : Int32) &&& 0x3f).toInt64.toUInt64).toInt64).toInt32 + (1 : Int32)) h309 n0 X.n0le) d7_28 pd2 rfl (by decide) rfl rfl rfl (by decide) (by decide) (by decide) (by decide) (pc' := 31) rfl ?_
    intro T hz v X hQ
    obtain ⟨rfl, hz1⟩ := hQ; replace hz1 := hz1.symm; subst hz1
    show WP _ _ _ _ _ _ _ _ _ (mkF m 31 #[.val (.ref a), .val (.int (Int32.ofNat Y)), .val (.ref b301), .unset] [(.int (fMax (Int32.ofNat len) (((((((3 : Int32)).toInt64 * ((Int32.ofNat Y)).toInt64)).toUInt64 >>> ((6 : Int32) &&& 0x3f).toInt64.toUInt64).toInt64).toInt32 + (1 : Int32)))), (.ref b301)])
    refine w_nameI ?_; intro mz h_mz
    obtain ⟨lb, hmz, hlb, hlc⟩ := max_ok (c := 3) h_mz (by decide) hY2 P.2.1
    refine w_newarray X (aty := .long) 2 (tw10 hw) d7_31 (nonneg hmz) (le2 hmz hlb) (by decide) (by decide) (by decide) (pc' := 33) rfl ?_; intro T h314 b314 cA314 X eq314 ga314 E314 A314
    have ne315 : a ≠ b314 := Nat.ne_of_lt (Nat.lt_of_lt_of_eq O311.lt eq314.symm)
    have ne316 : u ≠ b314 := Nat.ne_of_lt (Nat.lt_of_lt_of_eq O312.lt eq314.symm)
    have ne317 : b301 ≠ b314 := Nat.ne_of_lt (Nat.lt_of_lt_of_eq Oi.lt eq314.symm)
    have O318 := O311.ext E314
    have O319 := O312.ext E314
    have O320 := Oi.ext E314
    have sz321 : h0.size ≤ b314 := Nat.le_trans K313.1 (Nat.le_of_eq eq314.symm)
    have K322 := K313.ext E314
    have O323 : AJ Z h314 b314 lb (fun _ => 0) := AJ.new A314 hmz
    refine w_putF X (tw11 hw) O320.get_words O320.exa (Or.inl (tw12 hw)) (tw2 hw) ga301 d7_33 (ty := (.array .long)) (v' := (.ref b314)) (by decide) rfl rfl (pc' := 36) rfl ?_; intro T h324 X W325
    have O327 := O320.put_words hw W325
    have K326 := Keep.of_wr W325
    have O328 := O318.keep K326 (ninS ne302 nin0)
    have O329 := O319.keep K326 (ninS ne303 nin0)
    have O330 := O323.keep K326 (ninS (Ne.symm ne317) nin0)
    have K331 := K322.wr W325 (Or.inr sz306)
    show WP _ _ _ _ _ _ _ _ _ (mkF m 36 #[.val (.ref a), .val (.int (Int32.ofNat Y)), .val (.ref b301), .unset] [])
    refine w_aloadN X d7_36 rfl rfl (pc' := 37) rfl ?_
    refine w_iloadN X d7_37 rfl (pc' := 38) rfl ?_
    refine w_putF X (tw13 hw) O327.get_width O327.exa (Or.inl (tw14 hw)) (tw2 hw) ga301 d7_38 (ty := .int) (v' := (.int (Int32.ofNat Y))) (by decide) rfl rfl (pc' := 41) rfl ?_; intro T h332 X W333
    have O335 := O327.put_width hw W333
    have K334 := Keep.of_wr W333
    have O336 := O328.keep K334 (ninS ne302 nin0)
    have O337 := O329.keep K334 (ninS ne303 nin0)
    have O338 := O330.keep K334 (ninS (Ne.symm ne317) nin0)
    have K339 := K331.wr W333 (Or.inr sz306)
    show WP _ _ _ _ _ _ _ _ _ (mkF m 41 #[.val (.ref a), .val (.int (Int32.ofNat Y)), .val (.ref b301), .unset] [])
    refine w_aloadN X d7_41 rfl rfl (pc' := 42) rfl ?_
    refine w_lconst X d7_42 (v := (1 : Int64)) (by decide) (pc' := 43) rfl ?_
    refine w_iloadN X d7_43 rfl (pc' := 44) rfl ?_
    refine w_lshl X d7_44 (pc' := 45) rfl ?_
    refine w_lconst X d7_45 (v := (1 : Int64)) (by decide) (pc' := 46) rfl ?_
    refine w_lsub X d7_46 (pc' := 47) rfl ?_
    refine w_l2i X d7_47 (pc' := 48) rfl ?_
    refine w_nameI ?_; intro gg h_gg
    obtain rfl : gg = (Int32.ofNat (2 ^ Y - 1)) := gr_ok h_gg hY2
    refine w_putF X (tw15 hw) O335.get_greatest O335.exa (Or.inl (tw16 hw)) (tw2 hw) ga301 d7_48 (ty := .int) (v' := (.int (Int32.ofNat (2 ^ Y - 1)))) (by decide) rfl rfl (pc' := 51) rfl ?_; intro T h340 X W341
    have O343 := O335.put_greatest hw W341
    have K342 := Keep.of_wr W341
    have O344 := O336.keep K342 (ninS ne302 nin0)
    have O345 := O337.keep K342 (ninS ne303 nin0)
    have O346 := O338.keep K342 (ninS (Ne.symm ne317) nin0)
    have K347 := K339.wr W341 (Or.inr sz306)
    show WP _ _ _ _ _ _ _ _ _ (mkF m 51 #[.val (.ref a), .val (.int (Int32.ofNat Y)), .val (.ref b301), .unset] [])
    refine w_aloadN X d7_51 rfl rfl (pc' := 52) rfl ?_
    refine w_aloadN X d7_52 rfl rfl (pc' := 53) rfl ?_
    refine w_getF X (tw11 hw) O343.get_words d7_53 (pc' := 56) rfl ?_; intro T X
    refine w_arraylength X O346 d7_56 (z := (Int32.ofNat lb)) rfl (pc' := 57) rfl ?_
    refine w_bipush X d7_57 (v := (64 : Int32)) (by decide) (pc' := 59) rfl ?_
    refine w_imul X d7_59 (pc' := 60) rfl ?_
    refine w_iloadN X d7_60 rfl (pc' := 61) rfl ?_
    refine w_idiv X d7_61 (ofN_ne hY0 hY2) (pc' := 62) rfl ?_
    refine w_nameI ?_; intro rr h_rr
    obtain rfl : rr = (Int32.ofNat (64 * lb / Y)) := room_eq2 h_rr hlb hY0 hY2
    refine w_putF X (tw17 hw) O343.get_room O343.exa (Or.inl (tw18 hw)) (tw2 hw) ga301 d7_62 (ty := .int) (v' := (.int (Int32.ofNat (64 * lb / Y)))) (by decide) rfl rfl (pc' := 65) rfl ?_; intro T h348 X W349
    have O351 := O343.put_room hw W349
    have K350 := Keep.of_wr W349
    have O352 := O344.keep K350 (ninS ne302 nin0)
    have O353 := O345.keep K350 (ninS ne303 nin0)
    have O354 := O346.keep K350 (ninS (Ne.symm ne317) nin0)
    have K355 := K347.wr W349 (Or.inr sz306)
    show WP _ _ _ _ _ _ _ _ _ (mkF m 65 #[.val (.ref a), .val (.int (Int32.ofNat Y)), .val (.ref b301), .unset] [])
    have PB : PP (fun _ => 0) lb Y 0 xs := ⟨Rp.zero, hlb, hY0, hY2, Nat.zero_le _, by decide⟩
    have O356 : Pk Z h348 b301 (.ref b314) (.int (Int32.ofNat Y)) (.int (Int32.ofNat (2 ^ Y - 1))) (.int (Int32.ofNat (64 * lb / Y))) (.int (0 : Int32)) := O351
    refine w_iconst X d7_65 (v := (0 : Int32)) (by decide) (pc' := 66) rfl ?_
    refine w_istoreN X d7_66 (L' := #[.val (.ref a), .val (.int (Int32.ofNat Y)), .val (.ref b301), .val (.int (0 : Int32))]) rfl (pc' := 67) rfl ?_
    refine w_iloadN X d7_67 rfl (pc' := 68) rfl ?_
    refine w_aloadN X d7_68 rfl rfl (pc' := 69) rfl ?_
    refine w_getF X (tw24 hw) O352.get_count d7_69 (pc' := 72) rfl ?_; intro T X
    refine w_icmp_ge X d7_72 (by decide) (p1 := 90) (by decide) (p2 := 75) rfl (fun c72 => False.elim (absurd c72 (by decide))) (fun c72 => ?_)
    refine w_aloadN X d7_75 rfl rfl (pc' := 76) rfl ?_
    refine w_aloadN X d7_76 rfl rfl (pc' := 77) rfl ?_
    refine w_iloadN X d7_77 rfl (pc' := 78) rfl ?_
    refine w_callV X [(.int (0 : Int32))] [(.ref b301)] 1 (tw49 hw) (tw50 hw) (tw52 hw) (tw51 hw) (tw3 hw) (tw53 hw) O352.exa (ct_get l Z a0 hw a u (0 : Int32) len W 3 0 g xs h348 n0 X.n0le O352 O353 P (by decide) (by decide)) d7_78 pd0 rfl (by decide) rfl rfl rfl (by decide) (by decide) (by decide) (by decide) (pc' := 81) rfl ?_
    intro T hz v X hQ
    obtain ⟨rfl, hz1⟩ := hQ; replace hz1 := hz1.symm; subst hz1
    show WP _ _ _ _ _ _ _ _ _ (mkF m 81 #[.val (.ref a), .val (.int (Int32.ofNat Y)), .val (.ref b301), .val (.int (0 : Int32))] [(.int (xs 0)), (.ref b301)])
    refine w_callV X [(.int (xs 0))] [] 0 (tw54 hw) (tw20 hw) (tw22 hw) (tw21 hw) (tw3 hw) (tw23 hw) O356.exa (ct_add0 l Z a0 hw b301 b314 (xs 0) lb Y 0 (fun _ => 0) xs h348 n0 X.n0le ga301 ga314 ne317 O356 O354 PB (by decide) (wide_ok P hY1 (by decide))) d7_81 pd5 rfl (by decide) rfl rfl rfl (by decide) (by decide) (by decide) (by decide) (pc' := 84) rfl ?_
    intro T h358 v X hQ
    obtain ⟨rfl, uq357, lq357, wq357, gq357, K359, Oq357, Vq357, Pq357, gu357, hu357, hwq357⟩ := hQ
    have O360 := O352.keep K359 (ninS ne302 (ninS ne315 nin0))
    have O361 := O353.keep K359 (ninS ne303 (ninS ne316 nin0))
    have K362 := K355.trans K359 (by simp [sz306, sz321])
    show WP _ _ _ _ _ _ _ _ _ (mkF m 84 #[.val (.ref a), .val (.int (Int32.ofNat Y)), .val (.ref b301), .val (.int (0 : Int32))] [])
    replace hwq357 := hwq357.symm; subst hwq357
    have Pq357 := Pq357.congr (ys := xs) (fun i hi => upd_self xs 0 i)
    have Oq357 : Pk Z h358 b301 (.ref uq357) (.int (Int32.ofNat Y)) (.int (Int32.ofNat (2 ^ Y - 1))) (.int (Int32.ofNat (64 * lq357 / Y))) (.int (1 : Int32)) := Oq357
    have ne_a_uq357 : a ≠ uq357 := ne_or hu357 ne315 O352.lt
    have ne_u_uq357 : u ≠ uq357 := ne_or hu357 ne316 O353.lt
    have ne_b301_uq357 : b301 ≠ uq357 := ne_or hu357 ne317 O356.lt
    have szq357 := sz_or hu357 sz321 K355.1
    refine w_iinc X d7_84 rfl (v' := (1 : Int32)) (by first | rfl | decide) (L' := #[.val (.ref a), .val (.int (Int32.ofNat Y)), .val (.ref b301), .val (.int (1 : Int32))]) rfl (pc' := 87) rfl ?_
    refine w_goto X d7_87 (by decide) (pc' := 67) (by decide) ?_
    refine w_iloadN X d7_67 rfl (pc' := 68) rfl ?_
    refine w_aloadN X d7_68 rfl rfl (pc' := 69) rfl ?_
    refine w_getF X (tw24 hw) O360.get_count d7_69 (pc' := 72) rfl ?_; intro T X
    refine w_icmp_ge X d7_72 (by decide) (p1 := 90) (by decide) (p2 := 75) rfl (fun c72_2 => False.elim (absurd c72_2 (by decide))) (fun c72_2 => ?_)
    refine w_aloadN X d7_75 rfl rfl (pc' := 76) rfl ?_
    refine w_aloadN X d7_76 rfl rfl (pc' := 77) rfl ?_
    refine w_iloadN X d7_77 rfl (pc' := 78) rfl ?_
    refine w_callV X [(.int (1 : Int32))] [(.ref b301)] 1 (tw49 hw) (tw50 hw) (tw52 hw) (tw51 hw) (tw3 hw) (tw53 hw) O360.exa (ct_get l Z a0 hw a u (1 : Int32) len W 3 1 g xs h358 n0 X.n0le O360 O361 P (by decide) (by decide)) d7_78 pd0 rfl (by decide) rfl rfl rfl (by decide) (by decide) (by decide) (by decide) (pc' := 81) rfl ?_
    intro T hz v X hQ
    obtain ⟨rfl, hz1⟩ := hQ; replace hz1 := hz1.symm; subst hz1
    show WP _ _ _ _ _ _ _ _ _ (mkF m 81 #[.val (.ref a), .val (.int (Int32.ofNat Y)), .val (.ref b301), .val (.int (1 : Int32))] [(.int (xs 1)), (.ref b301)])
    refine w_callV X [(.int (xs 1))] [] 0 (tw54 hw) (tw20 hw) (tw22 hw) (tw21 hw) (tw3 hw) (tw23 hw) Oq357.exa (ct_add0 l Z a0 hw b301 uq357 (xs 1) lq357 Y 1 gq357 xs h358 n0 X.n0le ga301 gu357 ne_b301_uq357 Oq357 Vq357 Pq357 (by decide) (wide_ok P hY1 (by decide))) d7_81 pd5 rfl (by decide) rfl rfl rfl (by decide) (by decide) (by decide) (by decide) (pc' := 84) rfl ?_
    intro T h364 v X hQ
    obtain ⟨rfl, uq363, lq363, wq363, gq363, K365, Oq363, Vq363, Pq363, gu363, hu363, hwq363⟩ := hQ
    have O366 := O360.keep K365 (ninS ne302 (ninS ne_a_uq357 nin0))
    have O367 := O361.keep K365 (ninS ne303 (ninS ne_u_uq357 nin0))
    have K368 := K362.trans K365 (by simp [sz306, szq357])
    show WP _ _ _ _ _ _ _ _ _ (mkF m 84 #[.val (.ref a), .val (.int (Int32.ofNat Y)), .val (.ref b301), .val (.int (1 : Int32))] [])
    replace hwq363 := hwq363.symm; subst hwq363
    have Pq363 := Pq363.congr (ys := xs) (fun i hi => upd_self xs 1 i)
    have Oq363 : Pk Z h364 b301 (.ref uq363) (.int (Int32.ofNat Y)) (.int (Int32.ofNat (2 ^ Y - 1))) (.int (Int32.ofNat (64 * lq363 / Y))) (.int (2 : Int32)) := Oq363
    have ne_a_uq363 : a ≠ uq363 := ne_or hu363 ne_a_uq357 O360.lt
    have ne_u_uq363 : u ≠ uq363 := ne_or hu363 ne_u_uq357 O361.lt
    have ne_b301_uq363 : b301 ≠ uq363 := ne_or hu363 ne_b301_uq357 Oq357.lt
    have szq363 := sz_or hu363 szq357 K362.1
    refine w_iinc X d7_84 rfl (v' := (2 : Int32)) (by first | rfl | decide) (L' := #[.val (.ref a), .val (.int (Int32.ofNat Y)), .val (.ref b301), .val (.int (2 : Int32))]) rfl (pc' := 87) rfl ?_
    refine w_goto X d7_87 (by decide) (pc' := 67) (by decide) ?_
    refine w_iloadN X d7_67 rfl (pc' := 68) rfl ?_
    refine w_aloadN X d7_68 rfl rfl (pc' := 69) rfl ?_
    refine w_getF X (tw24 hw) O366.get_count d7_69 (pc' := 72) rfl ?_; intro T X
    refine w_icmp_ge X d7_72 (by decide) (p1 := 90) (by decide) (p2 := 75) rfl (fun c72_3 => False.elim (absurd c72_3 (by decide))) (fun c72_3 => ?_)
    refine w_aloadN X d7_75 rfl rfl (pc' := 76) rfl ?_
    refine w_aloadN X d7_76 rfl rfl (pc' := 77) rfl ?_
    refine w_iloadN X d7_77 rfl (pc' := 78) rfl ?_
    refine w_callV X [(.int (2 : Int32))] [(.ref b301)] 1 (tw49 hw) (tw50 hw) (tw52 hw) (tw51 hw) (tw3 hw) (tw53 hw) O366.exa (ct_get l Z a0 hw a u (2 : Int32) len W 3 2 g xs h364 n0 X.n0le O366 O367 P (by decide) (by decide)) d7_78 pd0 rfl (by decide) rfl rfl rfl (by decide) (by decide) (by decide) (by decide) (pc' := 81) rfl ?_
    intro T hz v X hQ
    obtain ⟨rfl, hz1⟩ := hQ; replace hz1 := hz1.symm; subst hz1
    show WP _ _ _ _ _ _ _ _ _ (mkF m 81 #[.val (.ref a), .val (.int (Int32.ofNat Y)), .val (.ref b301), .val (.int (2 : Int32))] [(.int (xs 2)), (.ref b301)])
    refine w_callV X [(.int (xs 2))] [] 0 (tw54 hw) (tw20 hw) (tw22 hw) (tw21 hw) (tw3 hw) (tw23 hw) Oq363.exa (ct_add0 l Z a0 hw b301 uq363 (xs 2) lq363 Y 2 gq363 xs h364 n0 X.n0le ga301 gu363 ne_b301_uq363 Oq363 Vq363 Pq363 (by decide) (wide_ok P hY1 (by decide))) d7_81 pd5 rfl (by decide) rfl rfl rfl (by decide) (by decide) (by decide) (by decide) (pc' := 84) rfl ?_
    intro T h370 v X hQ
    obtain ⟨rfl, uq369, lq369, wq369, gq369, K371, Oq369, Vq369, Pq369, gu369, hu369, hwq369⟩ := hQ
    have O372 := O366.keep K371 (ninS ne302 (ninS ne_a_uq363 nin0))
    have O373 := O367.keep K371 (ninS ne303 (ninS ne_u_uq363 nin0))
    have K374 := K368.trans K371 (by simp [sz306, szq363])
    show WP _ _ _ _ _ _ _ _ _ (mkF m 84 #[.val (.ref a), .val (.int (Int32.ofNat Y)), .val (.ref b301), .val (.int (2 : Int32))] [])
    replace hwq369 := hwq369.symm; subst hwq369
    have Pq369 := Pq369.congr (ys := xs) (fun i hi => upd_self xs 2 i)
    have Oq369 : Pk Z h370 b301 (.ref uq369) (.int (Int32.ofNat Y)) (.int (Int32.ofNat (2 ^ Y - 1))) (.int (Int32.ofNat (64 * lq369 / Y))) (.int (3 : Int32)) := Oq369
    have ne_a_uq369 : a ≠ uq369 := ne_or hu369 ne_a_uq363 O366.lt
    have ne_u_uq369 : u ≠ uq369 := ne_or hu369 ne_u_uq363 O367.lt
    have ne_b301_uq369 : b301 ≠ uq369 := ne_or hu369 ne_b301_uq363 Oq363.lt
    have szq369 := sz_or hu369 szq363 K368.1
    refine w_iinc X d7_84 rfl (v' := (3 : Int32)) (by first | rfl | decide) (L' := #[.val (.ref a), .val (.int (Int32.ofNat Y)), .val (.ref b301), .val (.int (3 : Int32))]) rfl (pc' := 87) rfl ?_
    refine w_goto X d7_87 (by decide) (pc' := 67) (by decide) ?_
    refine w_iloadN X d7_67 rfl (pc' := 68) rfl ?_
    refine w_aloadN X d7_68 rfl rfl (pc' := 69) rfl ?_
    refine w_getF X (tw24 hw) O372.get_count d7_69 (pc' := 72) rfl ?_; intro T X
    refine w_icmp_ge X d7_72 (by decide) (p1 := 90) (by decide) (p2 := 75) rfl (fun c72_4 => ?_) (fun c72_4 => False.elim (absurd c72_4 (by decide)))
    refine w_aloadN X d7_90 rfl rfl (pc' := 91) rfl ?_
    refine w_aloadN X d7_91 rfl rfl (pc' := 92) rfl ?_
    refine w_getF X (tw11 hw) Oq369.get_words d7_92 (pc' := 95) rfl ?_; intro T X
    refine w_putF X (tw11 hw) O372.get_words O372.exa (Or.inl (tw12 hw)) (tw2 hw) ga d7_95 (ty := (.array .long)) (v' := (.ref uq369)) (by decide) rfl rfl (pc' := 98) rfl ?_; intro T h375 X W376
    have O378 := O372.put_words hw W376
    have K377 := Keep.of_wr W376
    have O379 := O373.keep K377 (ninS (Ne.symm hau) nin0)
    have O380 := Oq369.keep K377 (ninS (Ne.symm ne302) nin0)
    have O381 := Vq369.keep K377 (ninS (Ne.symm ne_a_uq369) nin0)
    have K382 := K374.wr W376 (Or.inl (by simp))
    show WP _ _ _ _ _ _ _ _ _ (mkF m 98 #[.val (.ref a), .val (.int (Int32.ofNat Y)), .val (.ref b301), .val (.int (3 : Int32))] [])
    refine w_aloadN X d7_98 rfl rfl (pc' := 99) rfl ?_
    refine w_iloadN X d7_99 rfl (pc' := 100) rfl ?_
    refine w_putF X (tw13 hw) O378.get_width O378.exa (Or.inl (tw14 hw)) (tw2 hw) ga d7_100 (ty := .int) (v' := (.int (Int32.ofNat Y))) (by decide) rfl rfl (pc' := 103) rfl ?_; intro T h383 X W384
    have O386 := O378.put_width hw W384
    have K385 := Keep.of_wr W384
    have O387 := O379.keep K385 (ninS (Ne.symm hau) nin0)
    have O388 := O380.keep K385 (ninS (Ne.symm ne302) nin0)
    have O389 := O381.keep K385 (ninS (Ne.symm ne_a_uq369) nin0)
    have K390 := K382.wr W384 (Or.inl (by simp))
    show WP _ _ _ _ _ _ _ _ _ (mkF m 103 #[.val (.ref a), .val (.int (Int32.ofNat Y)), .val (.ref b301), .val (.int (3 : Int32))] [])
    refine w_aloadN X d7_103 rfl rfl (pc' := 104) rfl ?_
    refine w_aloadN X d7_104 rfl rfl (pc' := 105) rfl ?_
    refine w_getF X (tw15 hw) O388.get_greatest d7_105 (pc' := 108) rfl ?_; intro T X
    refine w_putF X (tw15 hw) O386.get_greatest O386.exa (Or.inl (tw16 hw)) (tw2 hw) ga d7_108 (ty := .int) (v' := (.int (Int32.ofNat (2 ^ Y - 1)))) (by decide) rfl rfl (pc' := 111) rfl ?_; intro T h391 X W392
    have O394 := O386.put_greatest hw W392
    have K393 := Keep.of_wr W392
    have O395 := O387.keep K393 (ninS (Ne.symm hau) nin0)
    have O396 := O388.keep K393 (ninS (Ne.symm ne302) nin0)
    have O397 := O389.keep K393 (ninS (Ne.symm ne_a_uq369) nin0)
    have K398 := K390.wr W392 (Or.inl (by simp))
    show WP _ _ _ _ _ _ _ _ _ (mkF m 111 #[.val (.ref a), .val (.int (Int32.ofNat Y)), .val (.ref b301), .val (.int (3 : Int32))] [])
    refine w_aloadN X d7_111 rfl rfl (pc' := 112) rfl ?_
    refine w_aloadN X d7_112 rfl rfl (pc' := 113) rfl ?_
    refine w_getF X (tw17 hw) O396.get_room d7_113 (pc' := 116) rfl ?_; intro T X
    refine w_putF X (tw17 hw) O394.get_room O394.exa (Or.inl (tw18 hw)) (tw2 hw) ga d7_116 (ty := .int) (v' := (.int (Int32.ofNat (64 * lq369 / Y)))) (by decide) rfl rfl (pc' := 119) rfl ?_; intro T h399 X W400
    have O402 := O394.put_room hw W400
    have K401 := Keep.of_wr W400
    have O403 := O395.keep K401 (ninS (Ne.symm hau) nin0)
    have O404 := O396.keep K401 (ninS (Ne.symm ne302) nin0)
    have O405 := O397.keep K401 (ninS (Ne.symm ne_a_uq369) nin0)
    have K406 := K398.wr W400 (Or.inl (by simp))
    show WP _ _ _ _ _ _ _ _ _ (mkF m 119 #[.val (.ref a), .val (.int (Int32.ofNat Y)), .val (.ref b301), .val (.int (3 : Int32))] [])
    exact w_retV X rfl d7_119 (by decide) (by decide) ⟨rfl, uq369, lq369, gq369, K406, O402, O405, Pq369, gu369, szq369⟩
set_option maxRecDepth 65536 in
set_option maxHeartbeats 4000000 in
theorem ct_add (l : Launch) (Z : State) (a0 : Array Value) (hw : ∀ d ∈ tables_1, d.before a0 Z = true) (a u : Addr) (v : Int32) (len W cnt : Nat) (g : Nat → Int64) (xs : Nat → Int32) (h0 : Heap) (n0 : Nat) (Z0 : n0 ≤ h0.size) (ga : n0 ≤ a) (gu : n0 ≤ u) (hau : a ≠ u) (O : Pk Z h0 a (.ref u) (.int (Int32.ofNat W)) (.int (Int32.ofNat (2 ^ W - 1))) (.int (Int32.ofNat (64 * len / W))) (.int (Int32.ofNat cnt))) (V : AJ Z h0 u len g) (P : PP g len W cnt xs) (hc : cnt ≤ 3) (hv : 0 ≤ v.toInt) :
    Ct l Z (⟨"com/example/varve/varve/parquet/PackedNumbers", "add", "(I)V"⟩ : MethodName) prog_109_method_3_code 6 none ({ frames := 4, cells := 7, slots := 16, locals := 80 } : Room) #[(.ref a), (.int v)] h0 n0 (fun r h => r = none ∧ ∃ (u2 : Addr) (len2 W2 : Nat) (g2 : Nat → Int64), Keep h0 h [a, u] ∧ Pk Z h a (.ref u2) (.int (Int32.ofNat W2)) (.int (Int32.ofNat (2 ^ W2 - 1))) (.int (Int32.ofNat (64 * len2 / W2))) (.int (Int32.ofNat (cnt + 1))) ∧ AJ Z h u2 len2 g2 ∧ PP g2 len2 W2 (cnt + 1) (upd xs cnt v) ∧ n0 ≤ u2 ∧ (u2 = u ∨ h0.size ≤ u2)) := by
  refine Ct.intro (plainFor_of_name (by first | (simp [plainName, overriddenIn]; done) | decide +kernel)) Z0 ?_
  intro p e s m below meth c T X
  refine WP.cast (g' := (mkF m 0 #[.val (.ref a), .val (.int v), .unset, .unset, .unset, .unset] [])) (by first | (simp [entryFrame, mkF, argsToLocals, Value.category]; done) | rfl) ?_
  have K := Keep.refl h0 [a, u]
  refine w_iloadN X d3_0 rfl (pc' := 1) rfl ?_
  refine w_aloadN X d3_1 rfl rfl (pc' := 2) rfl ?_
  refine w_getF X (tw15 hw) O.get_greatest d3_2 (pc' := 5) rfl ?_; intro T X
  refine w_icmp_le X d3_5 (by decide) (p1 := 17) (by decide) (p2 := 8) rfl (fun c5 => ?_) (fun c5 => ?_)
  · -- c5 taken
    have hv2 : 0 ≤ v.toInt ∧ v.toInt < 2 ^ W := ⟨hv, lt_gr c5 P.2.2.2.1⟩
    refine w_aloadN X d3_17 rfl rfl (pc' := 18) rfl ?_
    refine w_getF X (tw24 hw) O.get_count d3_18 (pc' := 21) rfl ?_; intro T X
    refine w_aloadN X d3_21 rfl rfl (pc' := 22) rfl ?_
    refine w_getF X (tw17 hw) O.get_room d3_22 (pc' := 25) rfl ?_; intro T X
    refine w_icmp_ne X d3_25 (by decide) (p1 := 63) (by decide) (p2 := 28) rfl (fun c25 => ?_) (fun c25 => ?_)
    · -- c25 taken
      have hfit : (cnt + 1) * W ≤ 64 * len := fit1 P hc c25
      have hms := Nat.div_add_mod (cnt * W) 64
      have hsm : (cnt + 1) * W = cnt * W + W := Nat.succ_mul cnt W
      refine w_aloadN X d3_63 rfl rfl (pc' := 64) rfl ?_
      refine w_getF X (tw24 hw) O.get_count d3_64 (pc' := 67) rfl ?_; intro T X
      refine w_i2l X d3_67 (pc' := 68) rfl ?_
      refine w_aloadN X d3_68 rfl rfl (pc' := 69) rfl ?_
      refine w_getF X (tw13 hw) O.get_width d3_69 (pc' := 72) rfl ?_; intro T X
      refine w_i2l X d3_72 (pc' := 73) rfl ?_
      refine w_lmul X d3_73 (pc' := 74) rfl ?_
      refine w_nameJ ?_; intro bt h_bt
      refine w_lstoreN X d3_74 (L' := #[.val (.ref a), .val (.int v), .val (.long bt), .second, .unset, .unset]) rfl (pc' := 75) rfl ?_
      refine w_lloadN X d3_75 rfl (pc' := 76) rfl ?_
      refine w_bipush X d3_76 (v := (6 : Int32)) (by decide) (pc' := 78) rfl ?_
      refine w_lushr X d3_78 (pc' := 79) rfl ?_
      refine w_l2i X d3_79 (pc' := 80) rfl ?_
      refine w_nameI ?_; intro wd h_wd
      refine w_istore X d3_80 (L' := #[.val (.ref a), .val (.int v), .val (.long bt), .second, .val (.int wd), .unset]) rfl (pc' := 82) rfl ?_
      refine w_lloadN X d3_82 rfl (pc' := 83) rfl ?_
      refine w_l2i X d3_83 (pc' := 84) rfl ?_
      refine w_bipush X d3_84 (v := (63 : Int32)) (by decide) (pc' := 86) rfl ?_
      refine w_iand X d3_86 (pc' := 87) rfl ?_
      refine w_nameI ?_; intro sh h_sh
      refine w_istore X d3_87 (L' := #[.val (.ref a), .val (.int v), .val (.long bt), .second, .val (.int wd), .val (.int sh)]) rfl (pc' := 89) rfl ?_
      obtain ⟨hwd, hsh⟩ := pos_ok (ofN (by omega)) (by omega) P.2.2.2.1 h_bt h_wd h_sh
      have hW1 := P.2.2.1
      have hW2 := P.2.2.2.1
      refine w_aloadN X d3_89 rfl rfl (pc' := 90) rfl ?_
      refine w_getF X (tw11 hw) O.get_words d3_90 (pc' := 93) rfl ?_; intro T X
      refine w_iload X d3_93 rfl (pc' := 95) rfl ?_
      refine w_dup2 X d3_95 (pc' := 96) rfl ?_
      refine w_laload X (i := (cnt * W / 64)) V d3_96 hwd (by omega) rfl (pc' := 97) rfl ?_
      refine w_iloadN X d3_97 rfl (pc' := 98) rfl ?_
      refine w_i2l X d3_98 (pc' := 99) rfl ?_
      refine w_iload X d3_99 rfl (pc' := 101) rfl ?_
      refine w_lshl X d3_101 (pc' := 102) rfl ?_
      refine w_lor X d3_102 (pc' := 103) rfl ?_
      refine w_lastore X (i := (cnt * W / 64)) (x' := ((g (cnt * W / 64)) ||| ((v).toInt64 <<< (sh &&& 0x3f).toInt64))) V gu d3_103 hwd (by omega) rfl (pc' := 104) rfl ?_; intro T h1 X K2 O3
      have O4 := O.keep K2 (ninS hau nin0)
      have K5 := K.trans K2 (allS (Or.inl (by simp)) all0)
      refine w_iload X d3_104 rfl (pc' := 106) rfl ?_
      refine w_aloadN X d3_106 rfl rfl (pc' := 107) rfl ?_
      refine w_getF X (tw13 hw) O4.get_width d3_107 (pc' := 110) rfl ?_; intro T X
      refine w_iadd X d3_110 (pc' := 111) rfl ?_
      refine w_bipush X d3_111 (v := (64 : Int32)) (by decide) (pc' := 113) rfl ?_
      refine w_icmp_le X d3_113 (by decide) (p1 := 136) (by decide) (p2 := 116) rfl (fun c113 => ?_) (fun c113 => ?_)
      · -- c113 taken
        refine w_aloadN X d3_136 rfl rfl (pc' := 137) rfl ?_
        refine w_dup X d3_137 rfl (pc' := 138) rfl ?_
        refine w_getF X (tw24 hw) O4.get_count d3_138 (pc' := 141) rfl ?_; intro T X
        refine w_iconst X d3_141 (v := (1 : Int32)) (by decide) (pc' := 142) rfl ?_
        refine w_iadd X d3_142 (pc' := 143) rfl ?_
        refine w_nameI ?_; intro cc h_cc
        obtain rfl : cc = (Int32.ofNat (cnt + 1)) := succ_eq h_cc (by omega)
        refine w_putF X (tw24 hw) O4.get_count O4.exa (Or.inl (tw25 hw)) (tw2 hw) ga d3_143 (ty := .int) (v' := (.int (Int32.ofNat (cnt + 1)))) (by decide) rfl rfl (pc' := 146) rfl ?_; intro T h6 X W7
        have O9 := O4.put_count hw W7
        have K8 := Keep.of_wr W7
        have O10 := O3.keep K8 (ninS (Ne.symm hau) nin0)
        have K11 := K5.wr W7 (Or.inl (by simp))
        show WP _ _ _ _ _ _ _ _ _ (mkF m 146 #[.val (.ref a), .val (.int v), .val (.long bt), .second, .val (.int wd), .val (.int sh)] [])
        refine w_retV X rfl d3_146 (by decide) (by decide) ⟨rfl, u, len, W, _, K11, O9, O10, ⟨P.1.add hv2 (fun k _ => bits1 hms.symm (Nat.mod_lt _ (by decide)) (by have := sh_small hsh hW2 c113; omega) hv2 hsh k) hfit, P.2.1, hW1, hW2, ?_, by omega⟩, gu, Or.inl rfl⟩
        exact (Nat.le_div_iff_mul_le (by omega)).mpr hfit
      · -- c113 not taken
        refine w_aloadN X d3_116 rfl rfl (pc' := 117) rfl ?_
        refine w_getF X (tw11 hw) O4.get_words d3_117 (pc' := 120) rfl ?_; intro T X
        refine w_iload X d3_120 rfl (pc' := 122) rfl ?_
        refine w_iconst X d3_122 (v := (1 : Int32)) (by decide) (pc' := 123) rfl ?_
        refine w_iadd X d3_123 (pc' := 124) rfl ?_
        refine w_dup2 X d3_124 (pc' := 125) rfl ?_
        refine w_laload X (i := (cnt * W / 64 + 1)) (v := (g (cnt * W / 64 + 1))) O3 d3_125 (wd1' hwd (by have := P.2.1; omega)) (by have := sh_big hsh hW2 c113; omega) (if_neg (by omega)) (pc' := 126) rfl ?_
        refine w_iloadN X d3_126 rfl (pc' := 127) rfl ?_
        refine w_i2l X d3_127 (pc' := 128) rfl ?_
        refine w_bipush X d3_128 (v := (64 : Int32)) (by decide) (pc' := 130) rfl ?_
        refine w_iload X d3_130 rfl (pc' := 132) rfl ?_
        refine w_isub X d3_132 (pc' := 133) rfl ?_
        refine w_lushr X d3_133 (pc' := 134) rfl ?_
        refine w_lor X d3_134 (pc' := 135) rfl ?_
        refine w_lastore X (i := (cnt * W / 64 + 1)) (x' := ((g (cnt * W / 64 + 1)) ||| (((v).toInt64).toUInt64 >>> (((64 : Int32) - sh) &&& 0x3f).toInt64.toUInt64).toInt64)) O3 gu d3_135 (wd1' hwd (by have := P.2.1; omega)) (by have := sh_big hsh hW2 c113; omega) rfl (pc' := 136) rfl ?_; intro T h12 X K13 O14
        have O15 := O4.keep K13 (ninS hau nin0)
        have K16 := K5.trans K13 (allS (Or.inl (by simp)) all0)
        refine w_aloadN X d3_136 rfl rfl (pc' := 137) rfl ?_
        refine w_dup X d3_137 rfl (pc' := 138) rfl ?_
        refine w_getF X (tw24 hw) O15.get_count d3_138 (pc' := 141) rfl ?_; intro T X
        refine w_iconst X d3_141 (v := (1 : Int32)) (by decide) (pc' := 142) rfl ?_
        refine w_iadd X d3_142 (pc' := 143) rfl ?_
        refine w_nameI ?_; intro cc h_cc
        obtain rfl : cc = (Int32.ofNat (cnt + 1)) := succ_eq h_cc (by omega)
        refine w_putF X (tw24 hw) O15.get_count O15.exa (Or.inl (tw25 hw)) (tw2 hw) ga d3_143 (ty := .int) (v' := (.int (Int32.ofNat (cnt + 1)))) (by decide) rfl rfl (pc' := 146) rfl ?_; intro T h17 X W18
        have O20 := O15.put_count hw W18
        have K19 := Keep.of_wr W18
        have O21 := O14.keep K19 (ninS (Ne.symm hau) nin0)
        have K22 := K16.wr W18 (Or.inl (by simp))
        show WP _ _ _ _ _ _ _ _ _ (mkF m 146 #[.val (.ref a), .val (.int v), .val (.long bt), .second, .val (.int wd), .val (.int sh)] [])
        refine w_retV X rfl d3_146 (by decide) (by decide) ⟨rfl, u, len, W, _, K22, O20, O21, ⟨P.1.add hv2 (fun k _ => bits2 hms.symm (by have := sh_big hsh hW2 c113; omega) (Nat.mod_lt _ (by decide)) hW2 hv2 hsh k) hfit, P.2.1, hW1, hW2, ?_, by omega⟩, gu, Or.inl rfl⟩
        exact (Nat.le_div_iff_mul_le (by omega)).mpr hfit
    · -- c25 not taken
      obtain rfl : len = 1 := len_one P hc c25
      refine w_aloadN X d3_28 rfl rfl (pc' := 29) rfl ?_
      refine w_aloadN X d3_29 rfl rfl (pc' := 30) rfl ?_
      refine w_getF X (tw11 hw) O.get_words d3_30 (pc' := 33) rfl ?_; intro T X
      refine w_iconst X d3_33 (v := (2 : Int32)) (by decide) (pc' := 34) rfl ?_
      refine w_aloadN X d3_34 rfl rfl (pc' := 35) rfl ?_
      refine w_getF X (tw11 hw) O.get_words d3_35 (pc' := 38) rfl ?_; intro T X
      refine w_arraylength X V d3_38 (z := (1 : Int32)) (by decide) (pc' := 39) rfl ?_
      refine w_imul X d3_39 (pc' := 40) rfl ?_
      refine w_nameI ?_; intro tw h_tw
      obtain rfl : tw = (2 : Int32) := by rw [h_tw]; decide
      refine w_callS X [(.ref u), (.int (2 : Int32))] [(.ref a)] 1 (tw61 hw) (tw62 hw) (tw63 hw) (tw64 hw) (ct_copy l Z a0 hw u g h0 n0 X.n0le V) d3_40 pd3 rfl (by decide) rfl rfl rfl (by decide) (by decide) (by decide) (by decide) (pc' := 43) rfl ?_
      intro T h23 v X hQ
      obtain ⟨bc, rfl, K24, Vc, szc, gc⟩ := hQ
      have O25 := O.keep K24 nin0
      have O26 := V.keep K24 nin0
      have K27 := K.trans K24 (by simp)
      have ne_a_bc : a ≠ bc := Nat.ne_of_lt (Nat.lt_of_lt_of_le O.lt szc)
      have ne_u_bc : u ≠ bc := Nat.ne_of_lt (Nat.lt_of_lt_of_le V.lt szc)
      generalize hgq : (fun z => if 0 ≤ z ∧ z < 0 + 1 then g (z - 0 + 0) else (fun _ => 0) z) = gq at Vc
      have Vc : AJ Z h23 bc 2 gq := Vc
      have szc0 := Nat.le_trans K.1 szc
      show WP _ _ _ _ _ _ _ _ _ (mkF m 43 #[.val (.ref a), .val (.int v), .unset, .unset, .unset, .unset] [(.ref bc), (.ref a)])
      have P2 : PP gq 2 W cnt xs := grow_ok P hc (by rw [← hgq]; rfl) (by rw [← hgq]; rfl)
      refine w_putF X (tw11 hw) O25.get_words O25.exa (Or.inl (tw12 hw)) (tw2 hw) ga d3_43 (ty := (.array .long)) (v' := (.ref bc)) (by decide) rfl rfl (pc' := 46) rfl ?_; intro T h28 X W29
      have O31 := O25.put_words hw W29
      have K30 := Keep.of_wr W29
      have O32 := O26.keep K30 (ninS (Ne.symm hau) nin0)
      have O33 := Vc.keep K30 (ninS (Ne.symm ne_a_bc) nin0)
      have K34 := K27.wr W29 (Or.inl (by simp))
      show WP _ _ _ _ _ _ _ _ _ (mkF m 46 #[.val (.ref a), .val (.int v), .unset, .unset, .unset, .unset] [])
      refine w_aloadN X d3_46 rfl rfl (pc' := 47) rfl ?_
      refine w_aloadN X d3_47 rfl rfl (pc' := 48) rfl ?_
      refine w_getF X (tw11 hw) O31.get_words d3_48 (pc' := 51) rfl ?_; intro T X
      refine w_arraylength X O33 d3_51 (z := (2 : Int32)) (by decide) (pc' := 52) rfl ?_
      refine w_bipush X d3_52 (v := (64 : Int32)) (by decide) (pc' := 54) rfl ?_
      refine w_imul X d3_54 (pc' := 55) rfl ?_
      refine w_aloadN X d3_55 rfl rfl (pc' := 56) rfl ?_
      refine w_getF X (tw13 hw) O31.get_width d3_56 (pc' := 59) rfl ?_; intro T X
      refine w_idiv X d3_59 (ofN_ne P.2.2.1 P.2.2.2.1) (pc' := 60) rfl ?_
      refine w_nameI ?_; intro rr h_rr
      obtain rfl : rr = (Int32.ofNat (64 * 2 / W)) := room_eq h_rr P2.2.2.1 P2.2.2.2.1
      refine w_putF X (tw17 hw) O31.get_room O31.exa (Or.inl (tw18 hw)) (tw2 hw) ga d3_60 (ty := .int) (v' := (.int (Int32.ofNat (64 * 2 / W)))) (by decide) rfl rfl (pc' := 63) rfl ?_; intro T h35 X W36
      have O38 := O31.put_room hw W36
      have K37 := Keep.of_wr W36
      have O39 := O32.keep K37 (ninS (Ne.symm hau) nin0)
      have O40 := O33.keep K37 (ninS (Ne.symm ne_a_bc) nin0)
      have K41 := K34.wr W36 (Or.inl (by simp))
      show WP _ _ _ _ _ _ _ _ _ (mkF m 63 #[.val (.ref a), .val (.int v), .unset, .unset, .unset, .unset] [])
      have hfit : (cnt + 1) * W ≤ 64 * 2 := fit2 hc P2.2.2.2.1
      have hms := Nat.div_add_mod (cnt * W) 64
      have hsm : (cnt + 1) * W = cnt * W + W := Nat.succ_mul cnt W
      refine w_aloadN X d3_63 rfl rfl (pc' := 64) rfl ?_
      refine w_getF X (tw24 hw) O38.get_count d3_64 (pc' := 67) rfl ?_; intro T X
      refine w_i2l X d3_67 (pc' := 68) rfl ?_
      refine w_aloadN X d3_68 rfl rfl (pc' := 69) rfl ?_
      refine w_getF X (tw13 hw) O38.get_width d3_69 (pc' := 72) rfl ?_; intro T X
      refine w_i2l X d3_72 (pc' := 73) rfl ?_
      refine w_lmul X d3_73 (pc' := 74) rfl ?_
      refine w_nameJ ?_; intro bt h_bt
      refine w_lstoreN X d3_74 (L' := #[.val (.ref a), .val (.int v), .val (.long bt), .second, .unset, .unset]) rfl (pc' := 75) rfl ?_
      refine w_lloadN X d3_75 rfl (pc' := 76) rfl ?_
      refine w_bipush X d3_76 (v := (6 : Int32)) (by decide) (pc' := 78) rfl ?_
      refine w_lushr X d3_78 (pc' := 79) rfl ?_
      refine w_l2i X d3_79 (pc' := 80) rfl ?_
      refine w_nameI ?_; intro wd h_wd
      refine w_istore X d3_80 (L' := #[.val (.ref a), .val (.int v), .val (.long bt), .second, .val (.int wd), .unset]) rfl (pc' := 82) rfl ?_
      refine w_lloadN X d3_82 rfl (pc' := 83) rfl ?_
      refine w_l2i X d3_83 (pc' := 84) rfl ?_
      refine w_bipush X d3_84 (v := (63 : Int32)) (by decide) (pc' := 86) rfl ?_
      refine w_iand X d3_86 (pc' := 87) rfl ?_
      refine w_nameI ?_; intro sh h_sh
      refine w_istore X d3_87 (L' := #[.val (.ref a), .val (.int v), .val (.long bt), .second, .val (.int wd), .val (.int sh)]) rfl (pc' := 89) rfl ?_
      obtain ⟨hwd, hsh⟩ := pos_ok (ofN (by omega)) (by omega) P2.2.2.2.1 h_bt h_wd h_sh
      have hW1 := P2.2.2.1
      have hW2 := P2.2.2.2.1
      refine w_aloadN X d3_89 rfl rfl (pc' := 90) rfl ?_
      refine w_getF X (tw11 hw) O38.get_words d3_90 (pc' := 93) rfl ?_; intro T X
      refine w_iload X d3_93 rfl (pc' := 95) rfl ?_
      refine w_dup2 X d3_95 (pc' := 96) rfl ?_
      refine w_laload X (i := (cnt * W / 64)) O40 d3_96 hwd (by omega) rfl (pc' := 97) rfl ?_
      refine w_iloadN X d3_97 rfl (pc' := 98) rfl ?_
      refine w_i2l X d3_98 (pc' := 99) rfl ?_
      refine w_iload X d3_99 rfl (pc' := 101) rfl ?_
      refine w_lshl X d3_101 (pc' := 102) rfl ?_
      refine w_lor X d3_102 (pc' := 103) rfl ?_
      refine w_lastore X (i := (cnt * W / 64)) (x' := ((gq (cnt * W / 64)) ||| ((v).toInt64 <<< (sh &&& 0x3f).toInt64))) O40 gc d3_103 hwd (by omega) rfl (pc' := 104) rfl ?_; intro T h42 X K43 O44
      have O45 := O38.keep K43 (ninS ne_a_bc nin0)
      have O46 := O39.keep K43 (ninS ne_u_bc nin0)
      have K47 := K41.trans K43 (allS (Or.inr szc0) all0)
      refine w_iload X d3_104 rfl (pc' := 106) rfl ?_
      refine w_aloadN X d3_106 rfl rfl (pc' := 107) rfl ?_
      refine w_getF X (tw13 hw) O45.get_width d3_107 (pc' := 110) rfl ?_; intro T X
      refine w_iadd X d3_110 (pc' := 111) rfl ?_
      refine w_bipush X d3_111 (v := (64 : Int32)) (by decide) (pc' := 113) rfl ?_
      refine w_icmp_le X d3_113 (by decide) (p1 := 136) (by decide) (p2 := 116) rfl (fun c113 => ?_) (fun c113 => ?_)
      · -- c113 taken
        refine w_aloadN X d3_136 rfl rfl (pc' := 137) rfl ?_
        refine w_dup X d3_137 rfl (pc' := 138) rfl ?_
        refine w_getF X (tw24 hw) O45.get_count d3_138 (pc' := 141) rfl ?_; intro T X
        refine w_iconst X d3_141 (v := (1 : Int32)) (by decide) (pc' := 142) rfl ?_
        refine w_iadd X d3_142 (pc' := 143) rfl ?_
        refine w_nameI ?_; intro cc h_cc
        obtain rfl : cc = (Int32.ofNat (cnt + 1)) := succ_eq h_cc (by omega)
        refine w_putF X (tw24 hw) O45.get_count O45.exa (Or.inl (tw25 hw)) (tw2 hw) ga d3_143 (ty := .int) (v' := (.int (Int32.ofNat (cnt + 1)))) (by decide) rfl rfl (pc' := 146) rfl ?_; intro T h48 X W49
        have O51 := O45.put_count hw W49
        have K50 := Keep.of_wr W49
        have O52 := O46.keep K50 (ninS (Ne.symm hau) nin0)
        have O53 := O44.keep K50 (ninS (Ne.symm ne_a_bc) nin0)
        have K54 := K47.wr W49 (Or.inl (by simp))
        show WP _ _ _ _ _ _ _ _ _ (mkF m 146 #[.val (.ref a), .val (.int v), .val (.long bt), .second, .val (.int wd), .val (.int sh)] [])
        refine w_retV X rfl d3_146 (by decide) (by decide) ⟨rfl, bc, 2, W, _, K54, O51, O53, ⟨P2.1.add hv2 (fun k _ => bits1 hms.symm (Nat.mod_lt _ (by decide)) (by have := sh_small hsh hW2 c113; omega) hv2 hsh k) hfit, P2.2.1, hW1, hW2, ?_, by omega⟩, gc, Or.inr szc0⟩
        exact (Nat.le_div_iff_mul_le (by omega)).mpr hfit
      · -- c113 not taken
        refine w_aloadN X d3_116 rfl rfl (pc' := 117) rfl ?_
        refine w_getF X (tw11 hw) O45.get_words d3_117 (pc' := 120) rfl ?_; intro T X
        refine w_iload X d3_120 rfl (pc' := 122) rfl ?_
        refine w_iconst X d3_122 (v := (1 : Int32)) (by decide) (pc' := 123) rfl ?_
        refine w_iadd X d3_123 (pc' := 124) rfl ?_
        refine w_dup2 X d3_124 (pc' := 125) rfl ?_
        refine w_laload X (i := (cnt * W / 64 + 1)) (v := (gq (cnt * W / 64 + 1))) O44 d3_125 (wd1' hwd (by have := P2.2.1; omega)) (by have := sh_big hsh hW2 c113; omega) (if_neg (by omega)) (pc' := 126) rfl ?_
        refine w_iloadN X d3_126 rfl (pc' := 127) rfl ?_
        refine w_i2l X d3_127 (pc' := 128) rfl ?_
        refine w_bipush X d3_128 (v := (64 : Int32)) (by decide) (pc' := 130) rfl ?_
        refine w_iload X d3_130 rfl (pc' := 132) rfl ?_
        refine w_isub X d3_132 (pc' := 133) rfl ?_
        refine w_lushr X d3_133 (pc' := 134) rfl ?_
        refine w_lor X d3_134 (pc' := 135) rfl ?_
        refine w_lastore X (i := (cnt * W / 64 + 1)) (x' := ((gq (cnt * W / 64 + 1)) ||| (((v).toInt64).toUInt64 >>> (((64 : Int32) - sh) &&& 0x3f).toInt64.toUInt64).toInt64)) O44 gc d3_135 (wd1' hwd (by have := P2.2.1; omega)) (by have := sh_big hsh hW2 c113; omega) rfl (pc' := 136) rfl ?_; intro T h55 X K56 O57
        have O58 := O45.keep K56 (ninS ne_a_bc nin0)
        have O59 := O46.keep K56 (ninS ne_u_bc nin0)
        have K60 := K47.trans K56 (allS (Or.inr szc0) all0)
        refine w_aloadN X d3_136 rfl rfl (pc' := 137) rfl ?_
        refine w_dup X d3_137 rfl (pc' := 138) rfl ?_
        refine w_getF X (tw24 hw) O58.get_count d3_138 (pc' := 141) rfl ?_; intro T X
        refine w_iconst X d3_141 (v := (1 : Int32)) (by decide) (pc' := 142) rfl ?_
        refine w_iadd X d3_142 (pc' := 143) rfl ?_
        refine w_nameI ?_; intro cc h_cc
        obtain rfl : cc = (Int32.ofNat (cnt + 1)) := succ_eq h_cc (by omega)
        refine w_putF X (tw24 hw) O58.get_count O58.exa (Or.inl (tw25 hw)) (tw2 hw) ga d3_143 (ty := .int) (v' := (.int (Int32.ofNat (cnt + 1)))) (by decide) rfl rfl (pc' := 146) rfl ?_; intro T h61 X W62
        have O64 := O58.put_count hw W62
        have K63 := Keep.of_wr W62
        have O65 := O59.keep K63 (ninS (Ne.symm hau) nin0)
        have O66 := O57.keep K63 (ninS (Ne.symm ne_a_bc) nin0)
        have K67 := K60.wr W62 (Or.inl (by simp))
        show WP _ _ _ _ _ _ _ _ _ (mkF m 146 #[.val (.ref a), .val (.int v), .val (.long bt), .second, .val (.int wd), .val (.int sh)] [])
        refine w_retV X rfl d3_146 (by decide) (by decide) ⟨rfl, bc, 2, W, _, K67, O64, O66, ⟨P2.1.add hv2 (fun k _ => bits2 hms.symm (by have := sh_big hsh hW2 c113; omega) (Nat.mod_lt _ (by decide)) hW2 hv2 hsh k) hfit, P2.2.1, hW1, hW2, ?_, by omega⟩, gc, Or.inr szc0⟩
        exact (Nat.le_div_iff_mul_le (by omega)).mpr hfit
  · -- c5 not taken
    refine w_aloadN X d3_8 rfl rfl (pc' := 9) rfl ?_
    refine w_iloadN X d3_9 rfl (pc' := 10) rfl ?_
    refine w_i2l X d3_10 (pc' := 11) rfl ?_
    refine w_callS X [(.long (v).toInt64)] [(.ref a)] 1 (tw26 hw) (tw27 hw) (tw28 hw) (tw29 hw) (ct_fWid l Z a0 hw ((v).toInt64) h0 n0 X.n0le) d3_11 pd1 rfl (by decide) rfl rfl rfl (by decide) (by decide) (by decide) (by decide) (pc' := 14) rfl ?_
    intro T hz v X hQ
    obtain ⟨rfl, hz1⟩ := hQ; replace hz1 := hz1.symm; subst hz1
    show WP _ _ _ _ _ _ _ _ _ (mkF m 14 #[.val (.ref a), .val (.int v), .unset, .unset, .unset, .unset] [(.int (fWid ((v).toInt64))), (.ref a)])
    refine w_nameI ?_; intro wz h_wz
    obtain ⟨W2, hW20, hW22, hvW2, rfl⟩ := wid_ok h_wz (pos_of c5 P.2.2.2.1)
    have hWW := pow_le c5 P.2.2.2.1 hvW2
    refine w_callP X (z0 := (⟨"com/example/varve/varve/parquet/PackedNumbers", "add", "(I)V"⟩ : MethodName)) [(.int (Int32.ofNat W2))] [] 0 (tw39 hw) (tw40 hw) (tw41 hw) (tw22 hw) rfl (tw3 hw) (tw42 hw) O.exa (ct_widen l Z a0 hw a u len W cnt W2 g xs h0 n0 X.n0le ga gu hau O V P hc hW20 hWW hW22) d3_14 pd5 rfl (by decide) rfl rfl rfl (by decide) (by decide) (by decide) (by decide) (pc' := 17) rfl ?_
    intro T h68 v X hQ
    obtain ⟨rfl, u2, l2, g2, K69, O2, V2, P2w, gu2, hu2⟩ := hQ
    have O70 := V.keep K69 (ninS (Ne.symm hau) nin0)
    have K71 := K.trans K69 (by simp)
    show WP _ _ _ _ _ _ _ _ _ (mkF m 17 #[.val (.ref a), .val (.int v), .unset, .unset, .unset, .unset] [])
    have ne_a_u2 : a ≠ u2 := Nat.ne_of_lt (Nat.lt_of_lt_of_le O.lt hu2)
    have ne_u_u2 : u ≠ u2 := Nat.ne_of_lt (Nat.lt_of_lt_of_le V.lt hu2)
    have szu2 := Nat.le_trans K.1 hu2
    have hv2 : 0 ≤ v.toInt ∧ v.toInt < 2 ^ W2 := ⟨hv, hvW2⟩
    refine w_aloadN X d3_17 rfl rfl (pc' := 18) rfl ?_
    refine w_getF X (tw24 hw) O2.get_count d3_18 (pc' := 21) rfl ?_; intro T X
    refine w_aloadN X d3_21 rfl rfl (pc' := 22) rfl ?_
    refine w_getF X (tw17 hw) O2.get_room d3_22 (pc' := 25) rfl ?_; intro T X
    refine w_icmp_ne X d3_25 (by decide) (p1 := 63) (by decide) (p2 := 28) rfl (fun c25 => ?_) (fun c25 => ?_)
    · -- c25 taken
      have hfit : (cnt + 1) * W2 ≤ 64 * l2 := fit1 P2w hc c25
      have hms := Nat.div_add_mod (cnt * W2) 64
      have hsm : (cnt + 1) * W2 = cnt * W2 + W2 := Nat.succ_mul cnt W2
      refine w_aloadN X d3_63 rfl rfl (pc' := 64) rfl ?_
      refine w_getF X (tw24 hw) O2.get_count d3_64 (pc' := 67) rfl ?_; intro T X
      refine w_i2l X d3_67 (pc' := 68) rfl ?_
      refine w_aloadN X d3_68 rfl rfl (pc' := 69) rfl ?_
      refine w_getF X (tw13 hw) O2.get_width d3_69 (pc' := 72) rfl ?_; intro T X
      refine w_i2l X d3_72 (pc' := 73) rfl ?_
      refine w_lmul X d3_73 (pc' := 74) rfl ?_
      refine w_nameJ ?_; intro bt h_bt
      refine w_lstoreN X d3_74 (L' := #[.val (.ref a), .val (.int v), .val (.long bt), .second, .unset, .unset]) rfl (pc' := 75) rfl ?_
      refine w_lloadN X d3_75 rfl (pc' := 76) rfl ?_
      refine w_bipush X d3_76 (v := (6 : Int32)) (by decide) (pc' := 78) rfl ?_
      refine w_lushr X d3_78 (pc' := 79) rfl ?_
      refine w_l2i X d3_79 (pc' := 80) rfl ?_
      refine w_nameI ?_; intro wd h_wd
      refine w_istore X d3_80 (L' := #[.val (.ref a), .val (.int v), .val (.long bt), .second, .val (.int wd), .unset]) rfl (pc' := 82) rfl ?_
      refine w_lloadN X d3_82 rfl (pc' := 83) rfl ?_
      refine w_l2i X d3_83 (pc' := 84) rfl ?_
      refine w_bipush X d3_84 (v := (63 : Int32)) (by decide) (pc' := 86) rfl ?_
      refine w_iand X d3_86 (pc' := 87) rfl ?_
      refine w_nameI ?_; intro sh h_sh
      refine w_istore X d3_87 (L' := #[.val (.ref a), .val (.int v), .val (.long bt), .second, .val (.int wd), .val (.int sh)]) rfl (pc' := 89) rfl ?_
      obtain ⟨hwd, hsh⟩ := pos_ok (ofN (by omega)) (by omega) P2w.2.2.2.1 h_bt h_wd h_sh
      have hW1 := P2w.2.2.1
      have hW2 := P2w.2.2.2.1
      refine w_aloadN X d3_89 rfl rfl (pc' := 90) rfl ?_
      refine w_getF X (tw11 hw) O2.get_words d3_90 (pc' := 93) rfl ?_; intro T X
      refine w_iload X d3_93 rfl (pc' := 95) rfl ?_
      refine w_dup2 X d3_95 (pc' := 96) rfl ?_
      refine w_laload X (i := (cnt * W2 / 64)) V2 d3_96 hwd (by omega) rfl (pc' := 97) rfl ?_
      refine w_iloadN X d3_97 rfl (pc' := 98) rfl ?_
      refine w_i2l X d3_98 (pc' := 99) rfl ?_
      refine w_iload X d3_99 rfl (pc' := 101) rfl ?_
      refine w_lshl X d3_101 (pc' := 102) rfl ?_
      refine w_lor X d3_102 (pc' := 103) rfl ?_
      refine w_lastore X (i := (cnt * W2 / 64)) (x' := ((g2 (cnt * W2 / 64)) ||| ((v).toInt64 <<< (sh &&& 0x3f).toInt64))) V2 gu2 d3_103 hwd (by omega) rfl (pc' := 104) rfl ?_; intro T h72 X K73 O74
      have O75 := O2.keep K73 (ninS ne_a_u2 nin0)
      have O76 := O70.keep K73 (ninS ne_u_u2 nin0)
      have K77 := K71.trans K73 (allS (Or.inr szu2) all0)
      refine w_iload X d3_104 rfl (pc' := 106) rfl ?_
      refine w_aloadN X d3_106 rfl rfl (pc' := 107) rfl ?_
      refine w_getF X (tw13 hw) O75.get_width d3_107 (pc' := 110) rfl ?_; intro T X
      refine w_iadd X d3_110 (pc' := 111) rfl ?_
      refine w_bipush X d3_111 (v := (64 : Int32)) (by decide) (pc' := 113) rfl ?_
      refine w_icmp_le X d3_113 (by decide) (p1 := 136) (by decide) (p2 := 116) rfl (fun c113 => ?_) (fun c113 => ?_)
      · -- c113 taken
        refine w_aloadN X d3_136 rfl rfl (pc' := 137) rfl ?_
        refine w_dup X d3_137 rfl (pc' := 138) rfl ?_
        refine w_getF X (tw24 hw) O75.get_count d3_138 (pc' := 141) rfl ?_; intro T X
        refine w_iconst X d3_141 (v := (1 : Int32)) (by decide) (pc' := 142) rfl ?_
        refine w_iadd X d3_142 (pc' := 143) rfl ?_
        refine w_nameI ?_; intro cc h_cc
        obtain rfl : cc = (Int32.ofNat (cnt + 1)) := succ_eq h_cc (by omega)
        refine w_putF X (tw24 hw) O75.get_count O75.exa (Or.inl (tw25 hw)) (tw2 hw) ga d3_143 (ty := .int) (v' := (.int (Int32.ofNat (cnt + 1)))) (by decide) rfl rfl (pc' := 146) rfl ?_; intro T h78 X W79
        have O81 := O75.put_count hw W79
        have K80 := Keep.of_wr W79
        have O82 := O76.keep K80 (ninS (Ne.symm hau) nin0)
        have O83 := O74.keep K80 (ninS (Ne.symm ne_a_u2) nin0)
        have K84 := K77.wr W79 (Or.inl (by simp))
        show WP _ _ _ _ _ _ _ _ _ (mkF m 146 #[.val (.ref a), .val (.int v), .val (.long bt), .second, .val (.int wd), .val (.int sh)] [])
        refine w_retV X rfl d3_146 (by decide) (by decide) ⟨rfl, u2, l2, W2, _, K84, O81, O83, ⟨P2w.1.add hv2 (fun k _ => bits1 hms.symm (Nat.mod_lt _ (by decide)) (by have := sh_small hsh hW2 c113; omega) hv2 hsh k) hfit, P2w.2.1, hW1, hW2, ?_, by omega⟩, gu2, Or.inr szu2⟩
        exact (Nat.le_div_iff_mul_le (by omega)).mpr hfit
      · -- c113 not taken
        refine w_aloadN X d3_116 rfl rfl (pc' := 117) rfl ?_
        refine w_getF X (tw11 hw) O75.get_words d3_117 (pc' := 120) rfl ?_; intro T X
        refine w_iload X d3_120 rfl (pc' := 122) rfl ?_
        refine w_iconst X d3_122 (v := (1 : Int32)) (by decide) (pc' := 123) rfl ?_
        refine w_iadd X d3_123 (pc' := 124) rfl ?_
        refine w_dup2 X d3_124 (pc' := 125) rfl ?_
        refine w_laload X (i := (cnt * W2 / 64 + 1)) (v := (g2 (cnt * W2 / 64 + 1))) O74 d3_125 (wd1' hwd (by have := P2w.2.1; omega)) (by have := sh_big hsh hW2 c113; omega) (if_neg (by omega)) (pc' := 126) rfl ?_
        refine w_iloadN X d3_126 rfl (pc' := 127) rfl ?_
        refine w_i2l X d3_127 (pc' := 128) rfl ?_
        refine w_bipush X d3_128 (v := (64 : Int32)) (by decide) (pc' := 130) rfl ?_
        refine w_iload X d3_130 rfl (pc' := 132) rfl ?_
        refine w_isub X d3_132 (pc' := 133) rfl ?_
        refine w_lushr X d3_133 (pc' := 134) rfl ?_
        refine w_lor X d3_134 (pc' := 135) rfl ?_
        refine w_lastore X (i := (cnt * W2 / 64 + 1)) (x' := ((g2 (cnt * W2 / 64 + 1)) ||| (((v).toInt64).toUInt64 >>> (((64 : Int32) - sh) &&& 0x3f).toInt64.toUInt64).toInt64)) O74 gu2 d3_135 (wd1' hwd (by have := P2w.2.1; omega)) (by have := sh_big hsh hW2 c113; omega) rfl (pc' := 136) rfl ?_; intro T h85 X K86 O87
        have O88 := O75.keep K86 (ninS ne_a_u2 nin0)
        have O89 := O76.keep K86 (ninS ne_u_u2 nin0)
        have K90 := K77.trans K86 (allS (Or.inr szu2) all0)
        refine w_aloadN X d3_136 rfl rfl (pc' := 137) rfl ?_
        refine w_dup X d3_137 rfl (pc' := 138) rfl ?_
        refine w_getF X (tw24 hw) O88.get_count d3_138 (pc' := 141) rfl ?_; intro T X
        refine w_iconst X d3_141 (v := (1 : Int32)) (by decide) (pc' := 142) rfl ?_
        refine w_iadd X d3_142 (pc' := 143) rfl ?_
        refine w_nameI ?_; intro cc h_cc
        obtain rfl : cc = (Int32.ofNat (cnt + 1)) := succ_eq h_cc (by omega)
        refine w_putF X (tw24 hw) O88.get_count O88.exa (Or.inl (tw25 hw)) (tw2 hw) ga d3_143 (ty := .int) (v' := (.int (Int32.ofNat (cnt + 1)))) (by decide) rfl rfl (pc' := 146) rfl ?_; intro T h91 X W92
        have O94 := O88.put_count hw W92
        have K93 := Keep.of_wr W92
        have O95 := O89.keep K93 (ninS (Ne.symm hau) nin0)
        have O96 := O87.keep K93 (ninS (Ne.symm ne_a_u2) nin0)
        have K97 := K90.wr W92 (Or.inl (by simp))
        show WP _ _ _ _ _ _ _ _ _ (mkF m 146 #[.val (.ref a), .val (.int v), .val (.long bt), .second, .val (.int wd), .val (.int sh)] [])
        refine w_retV X rfl d3_146 (by decide) (by decide) ⟨rfl, u2, l2, W2, _, K97, O94, O96, ⟨P2w.1.add hv2 (fun k _ => bits2 hms.symm (by have := sh_big hsh hW2 c113; omega) (Nat.mod_lt _ (by decide)) hW2 hv2 hsh k) hfit, P2w.2.1, hW1, hW2, ?_, by omega⟩, gu2, Or.inr szu2⟩
        exact (Nat.le_div_iff_mul_le (by omega)).mpr hfit
    · -- c25 not taken
      obtain rfl : l2 = 1 := len_one P2w hc c25
      refine w_aloadN X d3_28 rfl rfl (pc' := 29) rfl ?_
      refine w_aloadN X d3_29 rfl rfl (pc' := 30) rfl ?_
      refine w_getF X (tw11 hw) O2.get_words d3_30 (pc' := 33) rfl ?_; intro T X
      refine w_iconst X d3_33 (v := (2 : Int32)) (by decide) (pc' := 34) rfl ?_
      refine w_aloadN X d3_34 rfl rfl (pc' := 35) rfl ?_
      refine w_getF X (tw11 hw) O2.get_words d3_35 (pc' := 38) rfl ?_; intro T X
      refine w_arraylength X V2 d3_38 (z := (1 : Int32)) (by decide) (pc' := 39) rfl ?_
      refine w_imul X d3_39 (pc' := 40) rfl ?_
      refine w_nameI ?_; intro tw h_tw
      obtain rfl : tw = (2 : Int32) := by rw [h_tw]; decide
      refine w_callS X [(.ref u2), (.int (2 : Int32))] [(.ref a)] 1 (tw61 hw) (tw62 hw) (tw63 hw) (tw64 hw) (ct_copy l Z a0 hw u2 g2 h68 n0 X.n0le V2) d3_40 pd3 rfl (by decide) rfl rfl rfl (by decide) (by decide) (by decide) (by decide) (pc' := 43) rfl ?_
      intro T h98 v X hQ
      obtain ⟨bc, rfl, K99, Vc, szc, gc⟩ := hQ
      have O100 := O2.keep K99 nin0
      have O101 := O70.keep K99 nin0
      have O102 := V2.keep K99 nin0
      have K103 := K71.trans K99 (by simp)
      have ne_a_bc : a ≠ bc := Nat.ne_of_lt (Nat.lt_of_lt_of_le O2.lt szc)
      have ne_u_bc : u ≠ bc := Nat.ne_of_lt (Nat.lt_of_lt_of_le O70.lt szc)
      have ne_u2_bc : u2 ≠ bc := Nat.ne_of_lt (Nat.lt_of_lt_of_le V2.lt szc)
      generalize hgq : (fun z => if 0 ≤ z ∧ z < 0 + 1 then g2 (z - 0 + 0) else (fun _ => 0) z) = gq at Vc
      have Vc : AJ Z h98 bc 2 gq := Vc
      have szc0 := Nat.le_trans K71.1 szc
      show WP _ _ _ _ _ _ _ _ _ (mkF m 43 #[.val (.ref a), .val (.int v), .unset, .unset, .unset, .unset] [(.ref bc), (.ref a)])
      have P2 : PP gq 2 W2 cnt xs := grow_ok P2w hc (by rw [← hgq]; rfl) (by rw [← hgq]; rfl)
      refine w_putF X (tw11 hw) O100.get_words O100.exa (Or.inl (tw12 hw)) (tw2 hw) ga d3_43 (ty := (.array .long)) (v' := (.ref bc)) (by decide) rfl rfl (pc' := 46) rfl ?_; intro T h104 X W105
      have O107 := O100.put_words hw W105
      have K106 := Keep.of_wr W105
      have O108 := O101.keep K106 (ninS (Ne.symm hau) nin0)
      have O109 := O102.keep K106 (ninS (Ne.symm ne_a_u2) nin0)
      have O110 := Vc.keep K106 (ninS (Ne.symm ne_a_bc) nin0)
      have K111 := K103.wr W105 (Or.inl (by simp))
      show WP _ _ _ _ _ _ _ _ _ (mkF m 46 #[.val (.ref a), .val (.int v), .unset, .unset, .unset, .unset] [])
      refine w_aloadN X d3_46 rfl rfl (pc' := 47) rfl ?_
      refine w_aloadN X d3_47 rfl rfl (pc' := 48) rfl ?_
      refine w_getF X (tw11 hw) O107.get_words d3_48 (pc' := 51) rfl ?_; intro T X
      refine w_arraylength X O110 d3_51 (z := (2 : Int32)) (by decide) (pc' := 52) rfl ?_
      refine w_bipush X d3_52 (v := (64 : Int32)) (by decide) (pc' := 54) rfl ?_
      refine w_imul X d3_54 (pc' := 55) rfl ?_
      refine w_aloadN X d3_55 rfl rfl (pc' := 56) rfl ?_
      refine w_getF X (tw13 hw) O107.get_width d3_56 (pc' := 59) rfl ?_; intro T X
      refine w_idiv X d3_59 (ofN_ne P2w.2.2.1 P2w.2.2.2.1) (pc' := 60) rfl ?_
      refine w_nameI ?_; intro rr h_rr
      obtain rfl : rr = (Int32.ofNat (64 * 2 / W2)) := room_eq h_rr P2.2.2.1 P2.2.2.2.1
      refine w_putF X (tw17 hw) O107.get_room O107.exa (Or.inl (tw18 hw)) (tw2 hw) ga d3_60 (ty := .int) (v' := (.int (Int32.ofNat (64 * 2 / W2)))) (by decide) rfl rfl (pc' := 63) rfl ?_; intro T h112 X W113
      have O115 := O107.put_room hw W113
      have K114 := Keep.of_wr W113
      have O116 := O108.keep K114 (ninS (Ne.symm hau) nin0)
      have O117 := O109.keep K114 (ninS (Ne.symm ne_a_u2) nin0)
      have O118 := O110.keep K114 (ninS (Ne.symm ne_a_bc) nin0)
      have K119 := K111.wr W113 (Or.inl (by simp))
      show WP _ _ _ _ _ _ _ _ _ (mkF m 63 #[.val (.ref a), .val (.int v), .unset, .unset, .unset, .unset] [])
      have hfit : (cnt + 1) * W2 ≤ 64 * 2 := fit2 hc P2.2.2.2.1
      have hms := Nat.div_add_mod (cnt * W2) 64
      have hsm : (cnt + 1) * W2 = cnt * W2 + W2 := Nat.succ_mul cnt W2
      refine w_aloadN X d3_63 rfl rfl (pc' := 64) rfl ?_
      refine w_getF X (tw24 hw) O115.get_count d3_64 (pc' := 67) rfl ?_; intro T X
      refine w_i2l X d3_67 (pc' := 68) rfl ?_
      refine w_aloadN X d3_68 rfl rfl (pc' := 69) rfl ?_
      refine w_getF X (tw13 hw) O115.get_width d3_69 (pc' := 72) rfl ?_; intro T X
      refine w_i2l X d3_72 (pc' := 73) rfl ?_
      refine w_lmul X d3_73 (pc' := 74) rfl ?_
      refine w_nameJ ?_; intro bt h_bt
      refine w_lstoreN X d3_74 (L' := #[.val (.ref a), .val (.int v), .val (.long bt), .second, .unset, .unset]) rfl (pc' := 75) rfl ?_
      refine w_lloadN X d3_75 rfl (pc' := 76) rfl ?_
      refine w_bipush X d3_76 (v := (6 : Int32)) (by decide) (pc' := 78) rfl ?_
      refine w_lushr X d3_78 (pc' := 79) rfl ?_
      refine w_l2i X d3_79 (pc' := 80) rfl ?_
      refine w_nameI ?_; intro wd h_wd
      refine w_istore X d3_80 (L' := #[.val (.ref a), .val (.int v), .val (.long bt), .second, .val (.int wd), .unset]) rfl (pc' := 82) rfl ?_
      refine w_lloadN X d3_82 rfl (pc' := 83) rfl ?_
      refine w_l2i X d3_83 (pc' := 84) rfl ?_
      refine w_bipush X d3_84 (v := (63 : Int32)) (by decide) (pc' := 86) rfl ?_
      refine w_iand X d3_86 (pc' := 87) rfl ?_
      refine w_nameI ?_; intro sh h_sh
      refine w_istore X d3_87 (L' := #[.val (.ref a), .val (.int v), .val (.long bt), .second, .val (.int wd), .val (.int sh)]) rfl (pc' := 89) rfl ?_
      obtain ⟨hwd, hsh⟩ := pos_ok (ofN (by omega)) (by omega) P2.2.2.2.1 h_bt h_wd h_sh
      have hW1 := P2.2.2.1
      have hW2 := P2.2.2.2.1
      refine w_aloadN X d3_89 rfl rfl (pc' := 90) rfl ?_
      refine w_getF X (tw11 hw) O115.get_words d3_90 (pc' := 93) rfl ?_; intro T X
      refine w_iload X d3_93 rfl (pc' := 95) rfl ?_
      refine w_dup2 X d3_95 (pc' := 96) rfl ?_
      refine w_laload X (i := (cnt * W2 / 64)) O118 d3_96 hwd (by omega) rfl (pc' := 97) rfl ?_
      refine w_iloadN X d3_97 rfl (pc' := 98) rfl ?_
      refine w_i2l X d3_98 (pc' := 99) rfl ?_
      refine w_iload X d3_99 rfl (pc' := 101) rfl ?_
      refine w_lshl X d3_101 (pc' := 102) rfl ?_
      refine w_lor X d3_102 (pc' := 103) rfl ?_
      refine w_lastore X (i := (cnt * W2 / 64)) (x' := ((gq (cnt * W2 / 64)) ||| ((v).toInt64 <<< (sh &&& 0x3f).toInt64))) O118 gc d3_103 hwd (by omega) rfl (pc' := 104) rfl ?_; intro T h120 X K121 O122
      have O123 := O115.keep K121 (ninS ne_a_bc nin0)
      have O124 := O116.keep K121 (ninS ne_u_bc nin0)
      have O125 := O117.keep K121 (ninS ne_u2_bc nin0)
      have K126 := K119.trans K121 (allS (Or.inr szc0) all0)
      refine w_iload X d3_104 rfl (pc' := 106) rfl ?_
      refine w_aloadN X d3_106 rfl rfl (pc' := 107) rfl ?_
      refine w_getF X (tw13 hw) O123.get_width d3_107 (pc' := 110) rfl ?_; intro T X
      refine w_iadd X d3_110 (pc' := 111) rfl ?_
      refine w_bipush X d3_111 (v := (64 : Int32)) (by decide) (pc' := 113) rfl ?_
      refine w_icmp_le X d3_113 (by decide) (p1 := 136) (by decide) (p2 := 116) rfl (fun c113 => ?_) (fun c113 => ?_)
      · -- c113 taken
        refine w_aloadN X d3_136 rfl rfl (pc' := 137) rfl ?_
        refine w_dup X d3_137 rfl (pc' := 138) rfl ?_
        refine w_getF X (tw24 hw) O123.get_count d3_138 (pc' := 141) rfl ?_; intro T X
        refine w_iconst X d3_141 (v := (1 : Int32)) (by decide) (pc' := 142) rfl ?_
        refine w_iadd X d3_142 (pc' := 143) rfl ?_
        refine w_nameI ?_; intro cc h_cc
        obtain rfl : cc = (Int32.ofNat (cnt + 1)) := succ_eq h_cc (by omega)
        refine w_putF X (tw24 hw) O123.get_count O123.exa (Or.inl (tw25 hw)) (tw2 hw) ga d3_143 (ty := .int) (v' := (.int (Int32.ofNat (cnt + 1)))) (by decide) rfl rfl (pc' := 146) rfl ?_; intro T h127 X W128
        have O130 := O123.put_count hw W128
        have K129 := Keep.of_wr W128
        have O131 := O124.keep K129 (ninS (Ne.symm hau) nin0)
        have O132 := O125.keep K129 (ninS (Ne.symm ne_a_u2) nin0)
        have O133 := O122.keep K129 (ninS (Ne.symm ne_a_bc) nin0)
        have K134 := K126.wr W128 (Or.inl (by simp))
        show WP _ _ _ _ _ _ _ _ _ (mkF m 146 #[.val (.ref a), .val (.int v), .val (.long bt), .second, .val (.int wd), .val (.int sh)] [])
        refine w_retV X rfl d3_146 (by decide) (by decide) ⟨rfl, bc, 2, W2, _, K134, O130, O133, ⟨P2.1.add hv2 (fun k _ => bits1 hms.symm (Nat.mod_lt _ (by decide)) (by have := sh_small hsh hW2 c113; omega) hv2 hsh k) hfit, P2.2.1, hW1, hW2, ?_, by omega⟩, gc, Or.inr szc0⟩
        exact (Nat.le_div_iff_mul_le (by omega)).mpr hfit
      · -- c113 not taken
        refine w_aloadN X d3_116 rfl rfl (pc' := 117) rfl ?_
        refine w_getF X (tw11 hw) O123.get_words d3_117 (pc' := 120) rfl ?_; intro T X
        refine w_iload X d3_120 rfl (pc' := 122) rfl ?_
        refine w_iconst X d3_122 (v := (1 : Int32)) (by decide) (pc' := 123) rfl ?_
        refine w_iadd X d3_123 (pc' := 124) rfl ?_
        refine w_dup2 X d3_124 (pc' := 125) rfl ?_
        refine w_laload X (i := (cnt * W2 / 64 + 1)) (v := (gq (cnt * W2 / 64 + 1))) O122 d3_125 (wd1' hwd (by have := P2.2.1; omega)) (by have := sh_big hsh hW2 c113; omega) (if_neg (by omega)) (pc' := 126) rfl ?_
        refine w_iloadN X d3_126 rfl (pc' := 127) rfl ?_
        refine w_i2l X d3_127 (pc' := 128) rfl ?_
        refine w_bipush X d3_128 (v := (64 : Int32)) (by decide) (pc' := 130) rfl ?_
        refine w_iload X d3_130 rfl (pc' := 132) rfl ?_
        refine w_isub X d3_132 (pc' := 133) rfl ?_
        refine w_lushr X d3_133 (pc' := 134) rfl ?_
        refine w_lor X d3_134 (pc' := 135) rfl ?_
        refine w_lastore X (i := (cnt * W2 / 64 + 1)) (x' := ((gq (cnt * W2 / 64 + 1)) ||| (((v).toInt64).toUInt64 >>> (((64 : Int32) - sh) &&& 0x3f).toInt64.toUInt64).toInt64)) O122 gc d3_135 (wd1' hwd (by have := P2.2.1; omega)) (by have := sh_big hsh hW2 c113; omega) rfl (pc' := 136) rfl ?_; intro T h135 X K136 O137
        have O138 := O123.keep K136 (ninS ne_a_bc nin0)
        have O139 := O124.keep K136 (ninS ne_u_bc nin0)
        have O140 := O125.keep K136 (ninS ne_u2_bc nin0)
        have K141 := K126.trans K136 (allS (Or.inr szc0) all0)
        refine w_aloadN X d3_136 rfl rfl (pc' := 137) rfl ?_
        refine w_dup X d3_137 rfl (pc' := 138) rfl ?_
        refine w_getF X (tw24 hw) O138.get_count d3_138 (pc' := 141) rfl ?_; intro T X
        refine w_iconst X d3_141 (v := (1 : Int32)) (by decide) (pc' := 142) rfl ?_
        refine w_iadd X d3_142 (pc' := 143) rfl ?_
        refine w_nameI ?_; intro cc h_cc
        obtain rfl : cc = (Int32.ofNat (cnt + 1)) := succ_eq h_cc (by omega)
        refine w_putF X (tw24 hw) O138.get_count O138.exa (Or.inl (tw25 hw)) (tw2 hw) ga d3_143 (ty := .int) (v' := (.int (Int32.ofNat (cnt + 1)))) (by decide) rfl rfl (pc' := 146) rfl ?_; intro T h142 X W143
        have O145 := O138.put_count hw W143
        have K144 := Keep.of_wr W143
        have O146 := O139.keep K144 (ninS (Ne.symm hau) nin0)
        have O147 := O140.keep K144 (ninS (Ne.symm ne_a_u2) nin0)
        have O148 := O137.keep K144 (ninS (Ne.symm ne_a_bc) nin0)
        have K149 := K141.wr W143 (Or.inl (by simp))
        show WP _ _ _ _ _ _ _ _ _ (mkF m 146 #[.val (.ref a), .val (.int v), .val (.long bt), .second, .val (.int wd), .val (.int sh)] [])
        refine w_retV X rfl d3_146 (by decide) (by decide) ⟨rfl, bc, 2, W2, _, K149, O145, O148, ⟨P2.1.add hv2 (fun k _ => bits2 hms.symm (by have := sh_big hsh hW2 c113; omega) (Nat.mod_lt _ (by decide)) hW2 hv2 hsh k) hfit, P2.2.1, hW1, hW2, ?_, by omega⟩, gc, Or.inr szc0⟩
        exact (Nat.le_div_iff_mul_le (by omega)).mpr hfit
set_option maxRecDepth 65536 in
set_option maxHeartbeats 4000000 in
theorem ct_law (l : Launch) (Z : State) (a0 : Array Value) (hw : ∀ d ∈ tables_1, d.before a0 Z = true) (a b d f : Int32) (h0 : Heap) (n0 : Nat) (Z0 : n0 ≤ h0.size) :
    Ct l Z x code maxLocals ret room_1 #[(.int a), (.int b), (.int d), (.int f)] h0 n0 (fun r _ => r = some (.int 1)) := by
  refine Ct.intro (plainFor_of_name (by first | (simp [plainName, overriddenIn, x]; done) | decide +kernel)) Z0 ?_
  intro p e s m below meth c T X
  refine WP.cast (g' := (mkF m 0 #[.val (.int a), .val (.int b), .val (.int d), .val (.int f), .unset, .unset, .unset, .unset, .unset, .unset, .unset, .unset, .unset, .unset] [])) (by first | (simp [entryFrame, mkF, argsToLocals, Value.category, maxLocals]; done) | rfl) ?_
  refine w_iloadN X at_0 rfl (pc' := 1) rfl ?_
  refine w_ldcI X at_1 (tw0 hw) (pc' := 3) rfl ?_
  refine w_iand X at_3 (pc' := 4) rfl ?_
  refine w_nameI ?_; intro x0 h_x0
  refine w_istore X at_4 (L' := #[.val (.int a), .val (.int b), .val (.int d), .val (.int f), .val (.int x0), .unset, .unset, .unset, .unset, .unset, .unset, .unset, .unset, .unset]) rfl (pc' := 6) rfl ?_
  refine w_iloadN X at_6 rfl (pc' := 7) rfl ?_
  refine w_ldcI X at_7 (tw0 hw) (pc' := 9) rfl ?_
  refine w_iand X at_9 (pc' := 10) rfl ?_
  refine w_nameI ?_; intro x1 h_x1
  refine w_istore X at_10 (L' := #[.val (.int a), .val (.int b), .val (.int d), .val (.int f), .val (.int x0), .val (.int x1), .unset, .unset, .unset, .unset, .unset, .unset, .unset, .unset]) rfl (pc' := 12) rfl ?_
  refine w_iloadN X at_12 rfl (pc' := 13) rfl ?_
  refine w_ldcI X at_13 (tw0 hw) (pc' := 15) rfl ?_
  refine w_iand X at_15 (pc' := 16) rfl ?_
  refine w_nameI ?_; intro x2 h_x2
  refine w_istore X at_16 (L' := #[.val (.int a), .val (.int b), .val (.int d), .val (.int f), .val (.int x0), .val (.int x1), .val (.int x2), .unset, .unset, .unset, .unset, .unset, .unset, .unset]) rfl (pc' := 18) rfl ?_
  refine w_iloadN X at_18 rfl (pc' := 19) rfl ?_
  refine w_ldcI X at_19 (tw0 hw) (pc' := 21) rfl ?_
  refine w_iand X at_21 (pc' := 22) rfl ?_
  refine w_nameI ?_; intro x3 h_x3
  refine w_istore X at_22 (L' := #[.val (.int a), .val (.int b), .val (.int d), .val (.int f), .val (.int x0), .val (.int x1), .val (.int x2), .val (.int x3), .unset, .unset, .unset, .unset, .unset, .unset]) rfl (pc' := 24) rfl ?_
  refine w_new X (tw1 hw) (tw2 hw) (tw3 hw) at_24 (by decide) (by decide) (pc' := 27) rfl ?_; intro T h1 b1 X eq1 ga1 E1 A1 D1
  have O2 : Pk Z h1 b1 .null (.int (0 : Int32)) (.int (0 : Int32)) (.int (0 : Int32)) (.int (0 : Int32)) := ⟨A1, D1 (Or.inl (tw12 hw)) (ty := (.array .long)) (by decide), D1 (Or.inl (tw14 hw)) (ty := .int) (by decide), D1 (Or.inl (tw16 hw)) (ty := .int) (by decide), D1 (Or.inl (tw18 hw)) (ty := .int) (by decide), D1 (Or.inl (tw25 hw)) (ty := .int) (by decide)⟩
  refine w_dup X at_27 rfl (pc' := 28) rfl ?_
  have O_b := O2
  refine w_callC X [] [(.ref b1)] 1 rfl (tw4 hw) (tw5 hw) (tw3 hw) (tw6 hw) (ct_init l Z a0 hw b1 h1 n0 X.n0le ga1 O2) at_28 pd4 rfl (by decide) rfl rfl rfl (by decide) (by decide) (by decide) (by decide) (pc' := 31) rfl ?_
  intro T h3 v X hQ
  obtain ⟨rfl, ui, K4, Oi, Vi, szi, gi⟩ := hQ
  show WP _ _ _ _ _ _ _ _ _ (mkF m 31 #[.val (.int a), .val (.int b), .val (.int d), .val (.int f), .val (.int x0), .val (.int x1), .val (.int x2), .val (.int x3), .unset, .unset, .unset, .unset, .unset, .unset] [(.ref b1)])
  have Oi : Pk Z h3 b1 (.ref ui) (.int (Int32.ofNat 1)) (.int (Int32.ofNat (2 ^ 1 - 1))) (.int (Int32.ofNat (64 * 1 / 1))) (.int (Int32.ofNat 0)) := Oi
  have Pi : PP (fun _ => 0) 1 1 0 (fun _ => 0) := ⟨Rp.zero, Or.inl rfl, by decide, by decide, Nat.zero_le _, by decide⟩
  have ne_i : b1 ≠ ui := Nat.ne_of_lt (Nat.lt_of_lt_of_le O_b.lt szi)
  refine w_astore X at_31 (L' := #[.val (.int a), .val (.int b), .val (.int d), .val (.int f), .val (.int x0), .val (.int x1), .val (.int x2), .val (.int x3), .val (.ref b1), .unset, .unset, .unset, .unset, .unset]) rfl rfl (pc' := 33) rfl ?_
  refine w_aload X at_33 rfl rfl (pc' := 35) rfl ?_
  refine w_iload X at_35 rfl (pc' := 37) rfl ?_
  refine w_callV X [(.int x0)] [] 0 (tw19 hw) (tw20 hw) (tw22 hw) (tw21 hw) (tw3 hw) (tw23 hw) Oi.exa (ct_add l Z a0 hw b1 ui x0 1 1 0 (fun _ => 0) (fun _ => 0) h3 n0 X.n0le ga1 gi ne_i Oi Vi Pi (by decide) (nnx h_x0)) at_37 pd5 rfl (by decide) rfl rfl rfl (by decide) (by decide) (by decide) (by decide) (pc' := 40) rfl ?_
  intro T h6 v X hQ
  obtain ⟨rfl, uq5, lq5, wq5, gq5, K7, Oq5, Vq5, Pq5, gu5, hu5⟩ := hQ
  show WP _ _ _ _ _ _ _ _ _ (mkF m 40 #[.val (.int a), .val (.int b), .val (.int d), .val (.int f), .val (.int x0), .val (.int x1), .val (.int x2), .val (.int x3), .val (.ref b1), .unset, .unset, .unset, .unset, .unset] [])
  have ne_b1_uq5 : b1 ≠ uq5 := ne_or hu5 ne_i Oi.lt
  refine w_aload X at_40 rfl rfl (pc' := 42) rfl ?_
  refine w_iload X at_42 rfl (pc' := 44) rfl ?_
  refine w_callV X [(.int x1)] [] 0 (tw19 hw) (tw20 hw) (tw22 hw) (tw21 hw) (tw3 hw) (tw23 hw) Oq5.exa (ct_add l Z a0 hw b1 uq5 x1 lq5 wq5 (0 + 1) gq5 (upd (fun _ => 0) 0 x0) h6 n0 X.n0le ga1 gu5 ne_b1_uq5 Oq5 Vq5 Pq5 (by decide) (nnx h_x1)) at_44 pd5 rfl (by decide) rfl rfl rfl (by decide) (by decide) (by decide) (by decide) (pc' := 47) rfl ?_
  intro T h9 v X hQ
  obtain ⟨rfl, uq8, lq8, wq8, gq8, K10, Oq8, Vq8, Pq8, gu8, hu8⟩ := hQ
  show WP _ _ _ _ _ _ _ _ _ (mkF m 47 #[.val (.int a), .val (.int b), .val (.int d), .val (.int f), .val (.int x0), .val (.int x1), .val (.int x2), .val (.int x3), .val (.ref b1), .unset, .unset, .unset, .unset, .unset] [])
  have ne_b1_uq8 : b1 ≠ uq8 := ne_or hu8 ne_b1_uq5 Oq5.lt
  refine w_aload X at_47 rfl rfl (pc' := 49) rfl ?_
  refine w_iload X at_49 rfl (pc' := 51) rfl ?_
  refine w_callV X [(.int x2)] [] 0 (tw19 hw) (tw20 hw) (tw22 hw) (tw21 hw) (tw3 hw) (tw23 hw) Oq8.exa (ct_add l Z a0 hw b1 uq8 x2 lq8 wq8 (0 + 1 + 1) gq8 (upd (upd (fun _ => 0) 0 x0) (0 + 1) x1) h9 n0 X.n0le ga1 gu8 ne_b1_uq8 Oq8 Vq8 Pq8 (by decide) (nnx h_x2)) at_51 pd5 rfl (by decide) rfl rfl rfl (by decide) (by decide) (by decide) (by decide) (pc' := 54) rfl ?_
  intro T h12 v X hQ
  obtain ⟨rfl, uq11, lq11, wq11, gq11, K13, Oq11, Vq11, Pq11, gu11, hu11⟩ := hQ
  show WP _ _ _ _ _ _ _ _ _ (mkF m 54 #[.val (.int a), .val (.int b), .val (.int d), .val (.int f), .val (.int x0), .val (.int x1), .val (.int x2), .val (.int x3), .val (.ref b1), .unset, .unset, .unset, .unset, .unset] [])
  have ne_b1_uq11 : b1 ≠ uq11 := ne_or hu11 ne_b1_uq8 Oq8.lt
  refine w_aload X at_54 rfl rfl (pc' := 56) rfl ?_
  refine w_iload X at_56 rfl (pc' := 58) rfl ?_
  refine w_callV X [(.int x3)] [] 0 (tw19 hw) (tw20 hw) (tw22 hw) (tw21 hw) (tw3 hw) (tw23 hw) Oq11.exa (ct_add l Z a0 hw b1 uq11 x3 lq11 wq11 (0 + 1 + 1 + 1) gq11 (upd (upd (upd (fun _ => 0) 0 x0) (0 + 1) x1) (0 + 1 + 1) x2) h12 n0 X.n0le ga1 gu11 ne_b1_uq11 Oq11 Vq11 Pq11 (by decide) (nnx h_x3)) at_58 pd5 rfl (by decide) rfl rfl rfl (by decide) (by decide) (by decide) (by decide) (pc' := 61) rfl ?_
  intro T h15 v X hQ
  obtain ⟨rfl, uq14, lq14, wq14, gq14, K16, Oq14, Vq14, Pq14, gu14, hu14⟩ := hQ
  show WP _ _ _ _ _ _ _ _ _ (mkF m 61 #[.val (.int a), .val (.int b), .val (.int d), .val (.int f), .val (.int x0), .val (.int x1), .val (.int x2), .val (.int x3), .val (.ref b1), .unset, .unset, .unset, .unset, .unset] [])
  have ne_b1_uq14 : b1 ≠ uq14 := ne_or hu14 ne_b1_uq11 Oq11.lt
  refine w_aload X at_61 rfl rfl (pc' := 63) rfl ?_
  refine w_callV X [] [] 0 (tw55 hw) (tw56 hw) (tw58 hw) (tw57 hw) (tw3 hw) (tw59 hw) Oq14.exa (ct_size l Z a0 hw b1 uq14 (Int32.ofNat wq14) (Int32.ofNat (2 ^ wq14 - 1)) (Int32.ofNat (64 * lq14 / wq14)) (Int32.ofNat (0 + 1 + 1 + 1 + 1)) h15 n0 X.n0le Oq14) at_63 pd6 rfl (by decide) rfl rfl rfl (by decide) (by decide) (by decide) (by decide) (pc' := 66) rfl ?_
  intro T hz v X hQ
  obtain ⟨rfl, hz1⟩ := hQ; replace hz1 := hz1.symm; subst hz1
  show WP _ _ _ _ _ _ _ _ _ (mkF m 66 #[.val (.int a), .val (.int b), .val (.int d), .val (.int f), .val (.int x0), .val (.int x1), .val (.int x2), .val (.int x3), .val (.ref b1), .unset, .unset, .unset, .unset, .unset] [(.int (Int32.ofNat (0 + 1 + 1 + 1 + 1)))])
  refine w_iconst X at_66 (v := (4 : Int32)) (by decide) (pc' := 67) rfl ?_
  refine w_icmp_ne X at_67 (by decide) (p1 := 74) (by decide) (p2 := 70) rfl (fun c67 => False.elim (c67 (by first | rfl | decide))) (fun c67 => ?_)
  refine w_iconst X at_70 (v := (1 : Int32)) (by decide) (pc' := 71) rfl ?_
  refine w_goto X at_71 (by decide) (pc' := 75) (by decide) ?_
  refine w_istore X at_75 (L' := #[.val (.int a), .val (.int b), .val (.int d), .val (.int f), .val (.int x0), .val (.int x1), .val (.int x2), .val (.int x3), .val (.ref b1), .val (.int (1 : Int32)), .unset, .unset, .unset, .unset]) rfl (pc' := 77) rfl ?_
  refine w_aload X at_77 rfl rfl (pc' := 79) rfl ?_
  refine w_iconst X at_79 (v := (0 : Int32)) (by decide) (pc' := 80) rfl ?_
  refine w_callV X [(.int (0 : Int32))] [] 0 (tw60 hw) (tw50 hw) (tw52 hw) (tw51 hw) (tw3 hw) (tw53 hw) Oq14.exa (ct_get l Z a0 hw b1 uq14 (0 : Int32) lq14 wq14 (0 + 1 + 1 + 1 + 1) 0 gq14 (upd (upd (upd (upd (fun _ => 0) 0 x0) (0 + 1) x1) (0 + 1 + 1) x2) (0 + 1 + 1 + 1) x3) h15 n0 X.n0le Oq14 Vq14 Pq14 (by decide) (by decide)) at_80 pd0 rfl (by decide) rfl rfl rfl (by decide) (by decide) (by decide) (by decide) (pc' := 83) rfl ?_
  intro T hz v X hQ
  obtain ⟨rfl, hz1⟩ := hQ; replace hz1 := hz1.symm; subst hz1
  show WP _ _ _ _ _ _ _ _ _ (mkF m 83 #[.val (.int a), .val (.int b), .val (.int d), .val (.int f), .val (.int x0), .val (.int x1), .val (.int x2), .val (.int x3), .val (.ref b1), .val (.int (1 : Int32)), .unset, .unset, .unset, .unset] [(.int ((upd (upd (upd (upd (fun _ => 0) 0 x0) (0 + 1) x1) (0 + 1 + 1) x2) (0 + 1 + 1 + 1) x3) 0))])
  refine w_istore X at_83 (L' := #[.val (.int a), .val (.int b), .val (.int d), .val (.int f), .val (.int x0), .val (.int x1), .val (.int x2), .val (.int x3), .val (.ref b1), .val (.int (1 : Int32)), .val (.int ((upd (upd (upd (upd (fun _ => 0) 0 x0) (0 + 1) x1) (0 + 1 + 1) x2) (0 + 1 + 1 + 1) x3) 0)), .unset, .unset, .unset]) rfl (pc' := 85) rfl ?_
  refine w_aload X at_85 rfl rfl (pc' := 87) rfl ?_
  refine w_iconst X at_87 (v := (1 : Int32)) (by decide) (pc' := 88) rfl ?_
  refine w_callV X [(.int (1 : Int32))] [] 0 (tw60 hw) (tw50 hw) (tw52 hw) (tw51 hw) (tw3 hw) (tw53 hw) Oq14.exa (ct_get l Z a0 hw b1 uq14 (1 : Int32) lq14 wq14 (0 + 1 + 1 + 1 + 1) 1 gq14 (upd (upd (upd (upd (fun _ => 0) 0 x0) (0 + 1) x1) (0 + 1 + 1) x2) (0 + 1 + 1 + 1) x3) h15 n0 X.n0le Oq14 Vq14 Pq14 (by decide) (by decide)) at_88 pd0 rfl (by decide) rfl rfl rfl (by decide) (by decide) (by decide) (by decide) (pc' := 91) rfl ?_
  intro T hz v X hQ
  obtain ⟨rfl, hz1⟩ := hQ; replace hz1 := hz1.symm; subst hz1
  show WP _ _ _ _ _ _ _ _ _ (mkF m 91 #[.val (.int a), .val (.int b), .val (.int d), .val (.int f), .val (.int x0), .val (.int x1), .val (.int x2), .val (.int x3), .val (.ref b1), .val (.int (1 : Int32)), .val (.int ((upd (upd (upd (upd (fun _ => 0) 0 x0) (0 + 1) x1) (0 + 1 + 1) x2) (0 + 1 + 1 + 1) x3) 0)), .unset, .unset, .unset] [(.int ((upd (upd (upd (upd (fun _ => 0) 0 x0) (0 + 1) x1) (0 + 1 + 1) x2) (0 + 1 + 1 + 1) x3) 1))])
  refine w_istore X at_91 (L' := #[.val (.int a), .val (.int b), .val (.int d), .val (.int f), .val (.int x0), .val (.int x1), .val (.int x2), .val (.int x3), .val (.ref b1), .val (.int (1 : Int32)), .val (.int ((upd (upd (upd (upd (fun _ => 0) 0 x0) (0 + 1) x1) (0 + 1 + 1) x2) (0 + 1 + 1 + 1) x3) 0)), .val (.int ((upd (upd (upd (upd (fun _ => 0) 0 x0) (0 + 1) x1) (0 + 1 + 1) x2) (0 + 1 + 1 + 1) x3) 1)), .unset, .unset]) rfl (pc' := 93) rfl ?_
  refine w_aload X at_93 rfl rfl (pc' := 95) rfl ?_
  refine w_iconst X at_95 (v := (2 : Int32)) (by decide) (pc' := 96) rfl ?_
  refine w_callV X [(.int (2 : Int32))] [] 0 (tw60 hw) (tw50 hw) (tw52 hw) (tw51 hw) (tw3 hw) (tw53 hw) Oq14.exa (ct_get l Z a0 hw b1 uq14 (2 : Int32) lq14 wq14 (0 + 1 + 1 + 1 + 1) 2 gq14 (upd (upd (upd (upd (fun _ => 0) 0 x0) (0 + 1) x1) (0 + 1 + 1) x2) (0 + 1 + 1 + 1) x3) h15 n0 X.n0le Oq14 Vq14 Pq14 (by decide) (by decide)) at_96 pd0 rfl (by decide) rfl rfl rfl (by decide) (by decide) (by decide) (by decide) (pc' := 99) rfl ?_
  intro T hz v X hQ
  obtain ⟨rfl, hz1⟩ := hQ; replace hz1 := hz1.symm; subst hz1
  show WP _ _ _ _ _ _ _ _ _ (mkF m 99 #[.val (.int a), .val (.int b), .val (.int d), .val (.int f), .val (.int x0), .val (.int x1), .val (.int x2), .val (.int x3), .val (.ref b1), .val (.int (1 : Int32)), .val (.int ((upd (upd (upd (upd (fun _ => 0) 0 x0) (0 + 1) x1) (0 + 1 + 1) x2) (0 + 1 + 1 + 1) x3) 0)), .val (.int ((upd (upd (upd (upd (fun _ => 0) 0 x0) (0 + 1) x1) (0 + 1 + 1) x2) (0 + 1 + 1 + 1) x3) 1)), .unset, .unset] [(.int ((upd (upd (upd (upd (fun _ => 0) 0 x0) (0 + 1) x1) (0 + 1 + 1) x2) (0 + 1 + 1 + 1) x3) 2))])
  refine w_istore X at_99 (L' := #[.val (.int a), .val (.int b), .val (.int d), .val (.int f), .val (.int x0), .val (.int x1), .val (.int x2), .val (.int x3), .val (.ref b1), .val (.int (1 : Int32)), .val (.int ((upd (upd (upd (upd (fun _ => 0) 0 x0) (0 + 1) x1) (0 + 1 + 1) x2) (0 + 1 + 1 + 1) x3) 0)), .val (.int ((upd (upd (upd (upd (fun _ => 0) 0 x0) (0 + 1) x1) (0 + 1 + 1) x2) (0 + 1 + 1 + 1) x3) 1)), .val (.int ((upd (upd (upd (upd (fun _ => 0) 0 x0) (0 + 1) x1) (0 + 1 + 1) x2) (0 + 1 + 1 + 1) x3) 2)), .unset]) rfl (pc' := 101) rfl ?_
  refine w_aload X at_101 rfl rfl (pc' := 103) rfl ?_
  refine w_iconst X at_103 (v := (3 : Int32)) (by decide) (pc' := 104) rfl ?_
  refine w_callV X [(.int (3 : Int32))] [] 0 (tw60 hw) (tw50 hw) (tw52 hw) (tw51 hw) (tw3 hw) (tw53 hw) Oq14.exa (ct_get l Z a0 hw b1 uq14 (3 : Int32) lq14 wq14 (0 + 1 + 1 + 1 + 1) 3 gq14 (upd (upd (upd (upd (fun _ => 0) 0 x0) (0 + 1) x1) (0 + 1 + 1) x2) (0 + 1 + 1 + 1) x3) h15 n0 X.n0le Oq14 Vq14 Pq14 (by decide) (by decide)) at_104 pd0 rfl (by decide) rfl rfl rfl (by decide) (by decide) (by decide) (by decide) (pc' := 107) rfl ?_
  intro T hz v X hQ
  obtain ⟨rfl, hz1⟩ := hQ; replace hz1 := hz1.symm; subst hz1
  show WP _ _ _ _ _ _ _ _ _ (mkF m 107 #[.val (.int a), .val (.int b), .val (.int d), .val (.int f), .val (.int x0), .val (.int x1), .val (.int x2), .val (.int x3), .val (.ref b1), .val (.int (1 : Int32)), .val (.int ((upd (upd (upd (upd (fun _ => 0) 0 x0) (0 + 1) x1) (0 + 1 + 1) x2) (0 + 1 + 1 + 1) x3) 0)), .val (.int ((upd (upd (upd (upd (fun _ => 0) 0 x0) (0 + 1) x1) (0 + 1 + 1) x2) (0 + 1 + 1 + 1) x3) 1)), .val (.int ((upd (upd (upd (upd (fun _ => 0) 0 x0) (0 + 1) x1) (0 + 1 + 1) x2) (0 + 1 + 1 + 1) x3) 2)), .unset] [(.int ((upd (upd (upd (upd (fun _ => 0) 0 x0) (0 + 1) x1) (0 + 1 + 1) x2) (0 + 1 + 1 + 1) x3) 3))])
  refine w_istore X at_107 (L' := #[.val (.int a), .val (.int b), .val (.int d), .val (.int f), .val (.int x0), .val (.int x1), .val (.int x2), .val (.int x3), .val (.ref b1), .val (.int (1 : Int32)), .val (.int ((upd (upd (upd (upd (fun _ => 0) 0 x0) (0 + 1) x1) (0 + 1 + 1) x2) (0 + 1 + 1 + 1) x3) 0)), .val (.int ((upd (upd (upd (upd (fun _ => 0) 0 x0) (0 + 1) x1) (0 + 1 + 1) x2) (0 + 1 + 1 + 1) x3) 1)), .val (.int ((upd (upd (upd (upd (fun _ => 0) 0 x0) (0 + 1) x1) (0 + 1 + 1) x2) (0 + 1 + 1 + 1) x3) 2)), .val (.int ((upd (upd (upd (upd (fun _ => 0) 0 x0) (0 + 1) x1) (0 + 1 + 1) x2) (0 + 1 + 1 + 1) x3) 3))]) rfl (pc' := 109) rfl ?_
  refine w_iload X at_109 rfl (pc' := 111) rfl ?_
  refine w_if_eq X at_111 (by decide) (p1 := 146) (by decide) (p2 := 114) rfl (fun c111 => False.elim (absurd c111 (by decide))) (fun c111 => ?_)
  refine w_iload X at_114 rfl (pc' := 116) rfl ?_
  refine w_iload X at_116 rfl (pc' := 118) rfl ?_
  refine w_icmp_ne X at_118 (by decide) (p1 := 146) (by decide) (p2 := 121) rfl (fun c118 => False.elim (c118 (by first | rfl | decide))) (fun c118 => ?_)
  refine w_iload X at_121 rfl (pc' := 123) rfl ?_
  refine w_iload X at_123 rfl (pc' := 125) rfl ?_
  refine w_icmp_ne X at_125 (by decide) (p1 := 146) (by decide) (p2 := 128) rfl (fun c125 => False.elim (c125 (by first | rfl | decide))) (fun c125 => ?_)
  refine w_iload X at_128 rfl (pc' := 130) rfl ?_
  refine w_iload X at_130 rfl (pc' := 132) rfl ?_
  refine w_icmp_ne X at_132 (by decide) (p1 := 146) (by decide) (p2 := 135) rfl (fun c132 => False.elim (c132 (by first | rfl | decide))) (fun c132 => ?_)
  refine w_iload X at_135 rfl (pc' := 137) rfl ?_
  refine w_iload X at_137 rfl (pc' := 139) rfl ?_
  refine w_icmp_ne X at_139 (by decide) (p1 := 146) (by decide) (p2 := 142) rfl (fun c139 => False.elim (c139 (by first | rfl | decide))) (fun c139 => ?_)
  refine w_iconst X at_142 (v := (1 : Int32)) (by decide) (pc' := 143) rfl ?_
  refine w_goto X at_143 (by decide) (pc' := 147) (by decide) ?_
  exact w_retZ X rfl at_147 (by decide) (by decide) (by decide) rfl
set_option maxRecDepth 65536 in
set_option maxHeartbeats 4000000 in
theorem comes_1 {Post : Tables → Env → Array Value → State → Outcome → State → Prop} (hpost : ∀ tb e args s v u, (limb_1_1.after args s (.returned v) u = true ∧ limb_1_2.after args s (.returned v) u = true ∧ True) → FrameEnd s (.returned v) u (Jvm.fieldLocs frame_1_writes args s ++ Jvm.arrayLocs frame_1_arrays args s ++ Jvm.staticLocs frame_1_statics s) 40 192 → Post tb e args s (.returned v) u) :
    ArmFor flags0 classFile x code maxLocals ret World_1 tables_1 room_1 Calls_1 rest_1 Pre_1 Post := by
  intro l hfl _ _ p e ha hc hk s m args below hf hA hF happ hP
  obtain ⟨hcalls, hrest, hpre⟩ := hP
  obtain ⟨-, -, -, hnamed, -, -, -, hat⟩ := (Spec.applies_iff hf).mp happ
  obtain ⟨hg, hn⟩ := and_e (Cond.before_iff.mp (show (Jvm.Cond.and given_1 narrow_1).before args s = true from hpre))
  obtain ⟨g1a, g1b⟩ := and_e hg
  obtain ⟨g2a, g2b⟩ := and_e g1b
  obtain ⟨g3a, g3b⟩ := and_e g2b
  obtain ⟨g4a, g4b⟩ := and_e g3b
  obtain ⟨w0, w1, w2, w3, rfl⟩ : ∃ w0 w1 w2 w3 : Value, args = #[w0, w1, w2, w3] := by
    have hs : args.size = 4 := by simpa [Cond.value, given_1] using g1a
    obtain ⟨L⟩ := args
    match L, hs with
    | [w0, w1, w2, w3], _ => exact ⟨w0, w1, w2, w3, rfl⟩
  have hw := fun d (hd : d ∈ tables_1) => atoms_spec (ws := Jvm.Cond.code x code maxLocals ret :: tables_1) hat d (List.mem_cons_of_mem _ hd)
  obtain ⟨i0, ei0⟩ := is_v g2a
  obtain rfl : w0 = (.int i0) := Option.some.inj ei0
  obtain ⟨i1, ei1⟩ := is_v g3a
  obtain rfl : w1 = (.int i1) := Option.some.inj ei1
  obtain ⟨i2, ei2⟩ := is_v g4a
  obtain rfl : w2 = (.int i2) := Option.some.inj ei2
  obtain ⟨i3, ei3⟩ := is_v g4b
  obtain rfl : w3 = (.int i3) := Option.some.inj ei3
  obtain ⟨n, o, h1, h2, h3, _, L, rfl, ⟨rfl, N⟩, hq⟩ := ct_law l s _ hw i0 i1 i2 i3 s.heap s.heap.size (Nat.le_refl _) tables_1 p e ha hc hk s m _ below hf ((Spec.applies_iff_loose hf).mp happ).1 ⟨rfl, State.Warmed39.refl s, rfl⟩ trivial
  exact ⟨n, _, h1, h2, h3, hpost _ _ _ _ _ _ ⟨Cond.after_iff.mpr rfl, Cond.after_iff.mpr (eq_i res_at (Term.int_eval (1)) rfl), trivial⟩ ⟨hq.1, hq.2.1, (hq.2.2.sift fun y hy => Or.inr (N y hy)).mono (by decide) (by decide)⟩⟩
theorem main_1_1 : Claimed_1_1 := comes_1 fun _ _ _ _ _ _ h hF => ⟨h.1, hF⟩
theorem main_1_2 : Claimed_1_2 := comes_1 fun _ _ _ _ _ _ h hF => ⟨h.2.1, hF⟩
end Jvm.Pilot.@@N@@
namespace Jvm.Pilot.@@N@@
open Jvm Jvm.ClassFile Sem Op Lib Jvm.Free Jvm.Stand Jvm.Pilot.@@N@@.Jvm.D
/-! MADE BY PROGRAM (witnessworld.py) out of the Statement's table words and the real class files: 21 classes; the members and pool entries that the words name. The judged class is class 1, her method 1. -/
namespace start1
open Jvm.ClassFile
def u (s : String) : CpInfo := .utf8 (stringToUtf16 s)
/-- a pool by its gaps: so many unusable entries, then the entry; so many at the end -/
def gap : Nat → List CpInfo → List CpInfo
  | 0, r => r
  | n + 1, r => .unusable :: gap n r
def poolList (es : List (Nat × CpInfo)) (last : Nat) : List CpInfo := es.foldr (fun e r => gap e.1 (e.2 :: r)) (gap last [])
def pool (es : List (Nat × CpInfo)) (last : Nat) : Array CpInfo := ⟨poolList es last⟩
def fileOf (pool : Array CpInfo) (this : Nat) (attrs : Array Attribute := #[]) (ms : Array MethodInfo := #[]) (fl : Nat := 33) (sup : Nat := 0) (ifs : Array Nat := #[]) (fds : Array FieldInfo := #[]) : ClassFile where
  minorVersion := 0
  majorVersion := 65
  constantPool := pool
  accessFlags := fl
  thisClass := this
  superClass := sup
  interfaces := ifs
  fields := fds
  methods := ms
  attributes := attrs
def plain (name : String) (sup : Option ClassId) : Class where
  name := name
  kind := .ordinary
  loader := none
  accessFlags := 33
  super := sup
  interfaces := #[]
  cf := none
  fields := #[]
  methods := #[]
  instanceTypes := #[]
  staticTypes := #[]
  resolved := #[]
  callSites := []
  init := .initialized
  statics := none
  mirror := none

def pool0 : Array CpInfo := pool [(5, u "<init>"), (0, u "()V"), (1, .class_ 10), (1, u "java/lang/Object")] 113

def k0c0 : Code := { maxStack := 0, maxLocals := 1, code := object_method_1_code, exceptionTable := #[], attributes := #[] }
def k0m0 : Method := { name := "<init>", desc := "()V", sig := { parameters := [], returnType := none }, accessFlags := 1, code := some k0c0 }
/-- java/lang/Object -/
def k0 : Class := { plain "java/lang/Object" none with
  accessFlags := 33
  interfaces := #[]
  cf := some (fileOf pool0 8 #[] #[{ accessFlags := 1, nameIndex := 5, descriptorIndex := 6, attributes := #[] }] 33 0 #[] #[])
  fields := #[]
  methods := #[k0m0]
  instanceTypes := #[]
  staticTypes := #[]
  resolved := Array.replicate 124 none
  statics := none }

def pool1 : Array CpInfo := pool [(2, .class_ 4), (0, .nameAndType 5 6), (0, u "java/lang/Object"), (0, u "<init>"), (0, u "()V"), (0, .integer 2147483647), (0, .class_ 9), (0, u "com/example/varve/varve/parquet/PackedNumbers"), (0, .methodref 8 3), (0, .methodref 8 12), (0, .nameAndType 13 14), (0, u "add"), (0, u "(I)V"), (0, .methodref 8 16), (0, .nameAndType 17 18), (0, u "size"), (0, u "()I"), (0, .methodref 8 20), (0, .nameAndType 21 22), (0, u "get"), (0, u "(I)I"), (0, .class_ 24), (0, u "com/example/varve/varve/parquet/PackedNumbersGetPinLaw"), (2, u "law"), (0, u "(IIII)Z")] 3

def k1m0 : Method := { name := "<init>", desc := "()V", sig := { parameters := [], returnType := none }, accessFlags := 1, code := none }
def k1c1 : Code := { maxStack := 2, maxLocals := 14, code := code, exceptionTable := #[], attributes := #[] }
def k1m1 : Method := { name := "law", desc := "(IIII)Z", sig := { parameters := [.int, .int, .int, .int], returnType := some .boolean }, accessFlags := 9, code := some k1c1 }
/-- com/example/varve/varve/parquet/PackedNumbersGetPinLaw -/
def k1 : Class := { plain "com/example/varve/varve/parquet/PackedNumbersGetPinLaw" (some 0) with
  accessFlags := 49
  interfaces := #[]
  cf := some (fileOf pool1 23 #[] #[{ accessFlags := 1, nameIndex := 5, descriptorIndex := 6, attributes := #[] }, { accessFlags := 9, nameIndex := 27, descriptorIndex := 28, attributes := #[] }] 49 2 #[] #[])
  fields := #[]
  methods := #[k1m0, k1m1]
  instanceTypes := #[]
  staticTypes := #[]
  resolved := Array.replicate 32 none
  statics := none }

def pool2 : Array CpInfo := pool [(1, .class_ 2), (0, u "com/example/varve/varve/parquet/PackedNumbers"), (0, .methodref 4 5), (0, .class_ 6), (0, .nameAndType 7 8), (0, u "java/lang/Object"), (0, u "<init>"), (0, u "()V"), (0, .fieldref 1 10), (0, .nameAndType 11 12), (0, u "words"), (0, u "[J"), (0, .fieldref 1 14), (0, .nameAndType 15 16), (0, u "width"), (0, u "I"), (0, .fieldref 1 18), (0, .nameAndType 19 16), (0, u "greatest"), (0, .fieldref 1 21), (0, .nameAndType 22 16), (0, u "room"), (0, .fieldref 1 24), (0, .nameAndType 25 16), (0, u "count"), (0, .methodref 27 28), (0, .class_ 29), (0, .nameAndType 15 30), (0, u "com/example/varve/varve/column/ByteOutput"), (0, u "(J)I"), (0, .methodref 1 32), (0, .nameAndType 33 34), (0, u "widen"), (0, u "(I)V"), (0, .methodref 36 37), (0, .class_ 38), (0, .nameAndType 39 40), (0, u "java/util/Arrays"), (0, u "copyOf"), (0, u "([JI)[J"), (10, .methodref 1 5), (0, .methodref 53 54), (0, .class_ 55), (0, .nameAndType 56 57), (0, u "java/lang/Math"), (0, u "max"), (0, u "(II)I"), (0, .methodref 1 59), (0, .nameAndType 60 61), (0, u "get"), (0, u "(I)I"), (0, .methodref 1 63), (0, .nameAndType 64 34), (0, u "add"), (0, u "WORD_SHIFT"), (2, u "WORD_BITS"), (3, u "size"), (0, u "()I")] 6

def k2c0 : Code := { maxStack := 2, maxLocals := 1, code := prog_109_method_1_code, exceptionTable := #[], attributes := #[] }
def k2m0 : Method := { name := "<init>", desc := "()V", sig := { parameters := [], returnType := none }, accessFlags := 0, code := some k2c0 }
def k2c1 : Code := { maxStack := 1, maxLocals := 1, code := prog_109_method_2_code, exceptionTable := #[], attributes := #[] }
def k2m1 : Method := { name := "size", desc := "()I", sig := { parameters := [], returnType := some .int }, accessFlags := 0, code := some k2c1 }
def k2c2 : Code := { maxStack := 8, maxLocals := 6, code := prog_109_method_3_code, exceptionTable := #[], attributes := #[] }
def k2m2 : Method := { name := "add", desc := "(I)V", sig := { parameters := [.int], returnType := none }, accessFlags := 0, code := some k2c2 }
def k2c3 : Code := { maxStack := 6, maxLocals := 8, code := prog_109_method_4_code, exceptionTable := #[], attributes := #[] }
def k2m3 : Method := { name := "get", desc := "(I)I", sig := { parameters := [.int], returnType := some .int }, accessFlags := 0, code := some k2c3 }
def k2c4 : Code := { maxStack := 6, maxLocals := 4, code := prog_109_method_7_code, exceptionTable := #[], attributes := #[] }
def k2m4 : Method := { name := "widen", desc := "(I)V", sig := { parameters := [.int], returnType := none }, accessFlags := 2, code := some k2c4 }
/-- com/example/varve/varve/parquet/PackedNumbers -/
def k2 : Class := { plain "com/example/varve/varve/parquet/PackedNumbers" (some 0) with
  accessFlags := 48
  interfaces := #[]
  cf := some (fileOf pool2 1 #[] #[{ accessFlags := 0, nameIndex := 7, descriptorIndex := 8, attributes := #[] }, { accessFlags := 0, nameIndex := 72, descriptorIndex := 73, attributes := #[] }, { accessFlags := 0, nameIndex := 64, descriptorIndex := 34, attributes := #[] }, { accessFlags := 0, nameIndex := 60, descriptorIndex := 61, attributes := #[] }, { accessFlags := 2, nameIndex := 33, descriptorIndex := 34, attributes := #[] }] 48 4 #[] #[{ accessFlags := 26, nameIndex := 65, descriptorIndex := 16, attributes := #[] }, { accessFlags := 26, nameIndex := 68, descriptorIndex := 16, attributes := #[] }, { accessFlags := 2, nameIndex := 11, descriptorIndex := 12, attributes := #[] }, { accessFlags := 2, nameIndex := 15, descriptorIndex := 16, attributes := #[] }, { accessFlags := 2, nameIndex := 19, descriptorIndex := 16, attributes := #[] }, { accessFlags := 2, nameIndex := 25, descriptorIndex := 16, attributes := #[] }, { accessFlags := 2, nameIndex := 22, descriptorIndex := 16, attributes := #[] }])
  fields := #[{ name := "WORD_SHIFT", type := .int, accessFlags := 26, slot := 0, constantValue := 0 }, { name := "WORD_BITS", type := .int, accessFlags := 26, slot := 1, constantValue := 0 }, { name := "words", type := (.array .long), accessFlags := 2, slot := 0, constantValue := 0 }, { name := "width", type := .int, accessFlags := 2, slot := 1, constantValue := 0 }, { name := "greatest", type := .int, accessFlags := 2, slot := 2, constantValue := 0 }, { name := "count", type := .int, accessFlags := 2, slot := 3, constantValue := 0 }, { name := "room", type := .int, accessFlags := 2, slot := 4, constantValue := 0 }]
  methods := #[k2m0, k2m1, k2m2, k2m3, k2m4]
  instanceTypes := #[(.array .long), .int, .int, .int, .int]
  staticTypes := #[.int, .int]
  resolved := Array.replicate 80 none
  statics := none }

def pool3 : Array CpInfo := pool [(2, .class_ 4), (1, u "com/example/varve/varve/column/ByteOutput"), (0, u "<init>"), (2, .class_ 10), (1, u "java/lang/Object"), (0, u "()V"), (2, u "bytes"), (0, u "[B"), (2, u "length"), (0, u "I"), (17, u "(J)I"), (11, .class_ 50), (0, u "java/lang/Long"), (16, .methodref 49 68), (0, .nameAndType 69 37), (0, u "numberOfLeadingZeros"), (38, u "width")] 2

def k3m0 : Method := { name := "<init>", desc := "()V", sig := { parameters := [], returnType := none }, accessFlags := 1, code := none }
def k3c1 : Code := { maxStack := 3, maxLocals := 2, code := prog_29_method_17_code, exceptionTable := #[], attributes := #[] }
def k3m1 : Method := { name := "width", desc := "(J)I", sig := { parameters := [.long], returnType := some .int }, accessFlags := 9, code := some k3c1 }
/-- com/example/varve/varve/column/ByteOutput -/
def k3 : Class := { plain "com/example/varve/varve/column/ByteOutput" (some 0) with
  accessFlags := 49
  interfaces := #[]
  cf := some (fileOf pool3 2 #[] #[{ accessFlags := 1, nameIndex := 5, descriptorIndex := 11, attributes := #[] }, { accessFlags := 9, nameIndex := 108, descriptorIndex := 37, attributes := #[] }] 49 8 #[] #[{ accessFlags := 2, nameIndex := 14, descriptorIndex := 15, attributes := #[] }, { accessFlags := 2, nameIndex := 18, descriptorIndex := 19, attributes := #[] }])
  fields := #[{ name := "bytes", type := (.array .byte), accessFlags := 2, slot := 0, constantValue := 0 }, { name := "length", type := .int, accessFlags := 2, slot := 1, constantValue := 0 }]
  methods := #[k3m0, k3m1]
  instanceTypes := #[(.array .byte), .int]
  staticTypes := #[]
  resolved := Array.replicate 111 none
  statics := none }

def pool4 : Array CpInfo := pool [(1, .class_ 2), (0, u "java/io/Serializable"), (0, .class_ 4), (0, u "java/lang/Object")] 2

/-- java/io/Serializable -/
def k4 : Class := { plain "java/io/Serializable" (some 0) with
  accessFlags := 1537
  interfaces := #[]
  cf := some (fileOf pool4 1 #[] #[] 1537 3 #[] #[])
  fields := #[]
  methods := #[]
  instanceTypes := #[]
  staticTypes := #[]
  resolved := Array.replicate 7 none
  statics := none }

def pool5 : Array CpInfo := pool [(2, .class_ 4), (1, u "java/lang/Object"), (0, u "<init>"), (0, u "()V"), (1, .class_ 10), (1, u "java/lang/Number"), (2, .class_ 14), (0, u "java/io/Serializable"), (0, u "serialVersionUID"), (0, u "J")] 20

def k5m0 : Method := { name := "<init>", desc := "()V", sig := { parameters := [], returnType := none }, accessFlags := 1, code := none }
/-- java/lang/Number -/
def k5 : Class := { plain "java/lang/Number" (some 0) with
  accessFlags := 1057
  interfaces := #[4]
  cf := some (fileOf pool5 8 #[] #[{ accessFlags := 1, nameIndex := 5, descriptorIndex := 6, attributes := #[] }] 1057 2 #[13] #[{ accessFlags := 26, nameIndex := 15, descriptorIndex := 16, attributes := #[] }])
  fields := #[{ name := "serialVersionUID", type := .long, accessFlags := 26, slot := 0, constantValue := 0 }]
  methods := #[k5m0]
  instanceTypes := #[]
  staticTypes := #[.long]
  resolved := Array.replicate 37 none
  statics := none }

def pool6 : Array CpInfo := pool [(1, .class_ 2), (0, u "java/lang/Comparable"), (0, .class_ 4), (0, u "java/lang/Object")] 7

/-- java/lang/Comparable -/
def k6 : Class := { plain "java/lang/Comparable" (some 0) with
  accessFlags := 1537
  interfaces := #[]
  cf := some (fileOf pool6 1 #[] #[] 1537 3 #[] #[])
  fields := #[]
  methods := #[]
  instanceTypes := #[]
  staticTypes := #[]
  resolved := Array.replicate 12 none
  statics := none }

def pool7 : Array CpInfo := pool [(1, .class_ 2), (0, u "java/lang/constant/Constable"), (0, .class_ 4), (0, u "java/lang/Object")] 6

/-- java/lang/constant/Constable -/
def k7 : Class := { plain "java/lang/constant/Constable" (some 0) with
  accessFlags := 1537
  interfaces := #[]
  cf := some (fileOf pool7 1 #[] #[] 1537 3 #[] #[])
  fields := #[]
  methods := #[]
  instanceTypes := #[]
  staticTypes := #[]
  resolved := Array.replicate 11 none
  statics := none }

def pool8 : Array CpInfo := pool [(1, .class_ 2), (0, u "java/lang/constant/ConstantDesc"), (0, .class_ 4), (0, u "java/lang/Object")] 32

/-- java/lang/constant/ConstantDesc -/
def k8 : Class := { plain "java/lang/constant/ConstantDesc" (some 0) with
  accessFlags := 1537
  interfaces := #[]
  cf := some (fileOf pool8 1 #[] #[] 1537 3 #[] #[])
  fields := #[]
  methods := #[]
  instanceTypes := #[]
  staticTypes := #[]
  resolved := Array.replicate 37 none
  statics := none }

def pool9 : Array CpInfo := pool [(1, .class_ 2), (0, u "java/lang/Long"), (15, .class_ 20), (1, u "java/lang/Integer"), (79, u "numberOfLeadingZeros"), (0, u "(J)I"), (133, .class_ 237), (1, u "java/lang/Long$LongCache"), (33, .class_ 272), (0, u "java/lang/Number"), (2, u "value"), (0, u "J"), (31, .methodref 18 309), (0, .nameAndType 100 310), (0, u "(I)I"), (50, u "TYPE"), (0, u "Ljava/lang/Class;"), (0, .class_ 364), (0, u "java/lang/Comparable"), (0, .class_ 366), (0, u "java/lang/constant/Constable"), (0, .class_ 368), (0, u "java/lang/constant/ConstantDesc"), (0, u "MIN_VALUE"), (1, u "MAX_VALUE"), (4, u "SIZE"), (0, u "I"), (1, u "BYTES"), (1, u "serialVersionUID")] 142

def k9c0 : Code := { maxStack := 3, maxLocals := 3, code := jdk_35_method_48_code, exceptionTable := #[], attributes := #[] }
def k9m0 : Method := { name := "numberOfLeadingZeros", desc := "(J)I", sig := { parameters := [.long], returnType := some .int }, accessFlags := 9, code := some k9c0 }
/-- java/lang/Long -/
def k9 : Class := { plain "java/lang/Long" (some 5) with
  accessFlags := 49
  interfaces := #[6, 7, 8]
  cf := some (fileOf pool9 1 #[.nestMembers #[235]] #[{ accessFlags := 9, nameIndex := 100, descriptorIndex := 101, attributes := #[] }] 49 271 #[363, 365, 367] #[{ accessFlags := 25, nameIndex := 369, descriptorIndex := 276, attributes := #[] }, { accessFlags := 25, nameIndex := 371, descriptorIndex := 276, attributes := #[] }, { accessFlags := 25, nameIndex := 361, descriptorIndex := 362, attributes := #[] }, { accessFlags := 18, nameIndex := 275, descriptorIndex := 276, attributes := #[] }, { accessFlags := 25, nameIndex := 376, descriptorIndex := 377, attributes := #[] }, { accessFlags := 25, nameIndex := 379, descriptorIndex := 377, attributes := #[] }, { accessFlags := 26, nameIndex := 381, descriptorIndex := 276, attributes := #[] }])
  fields := #[{ name := "MIN_VALUE", type := .long, accessFlags := 25, slot := 0, constantValue := 0 }, { name := "MAX_VALUE", type := .long, accessFlags := 25, slot := 1, constantValue := 0 }, { name := "TYPE", type := (.object "java/lang/Class"), accessFlags := 25, slot := 2, constantValue := 0 }, { name := "value", type := .long, accessFlags := 18, slot := 0, constantValue := 0 }, { name := "SIZE", type := .int, accessFlags := 25, slot := 3, constantValue := 0 }, { name := "BYTES", type := .int, accessFlags := 25, slot := 4, constantValue := 0 }, { name := "serialVersionUID", type := .long, accessFlags := 26, slot := 5, constantValue := 0 }]
  methods := #[k9m0]
  instanceTypes := #[.long]
  staticTypes := #[.long, .long, (.object "java/lang/Class"), .int, .int, .long]
  resolved := Array.replicate 524 none
  statics := none }

def pool10 : Array CpInfo := pool [(1, .class_ 2), (0, u "java/lang/Integer"), (16, u "digits"), (0, u "[C"), (32, u "numberOfLeadingZeros"), (0, u "(I)I"), (30, u "DigitOnes"), (0, u "[B"), (2, u "DigitTens"), (99, .class_ 190), (0, u "java/lang/Integer$IntegerCache"), (3, u "I"), (8, .class_ 204), (0, u "java/lang/Number"), (2, u "value"), (56, .integer 65536), (37, u "TYPE"), (0, u "Ljava/lang/Class;"), (0, .class_ 305), (0, u "java/lang/Comparable"), (0, .class_ 307), (0, u "java/lang/constant/Constable"), (0, .class_ 309), (0, u "java/lang/constant/ConstantDesc"), (0, u "MIN_VALUE"), (1, u "MAX_VALUE"), (3, u "SIZE"), (1, u "BYTES"), (1, u "serialVersionUID"), (0, u "J")] 131

def k10c0 : Code := { maxStack := 3, maxLocals := 2, code := jdk_33_method_47_code, exceptionTable := #[], attributes := #[] }
def k10m0 : Method := { name := "numberOfLeadingZeros", desc := "(I)I", sig := { parameters := [.int], returnType := some .int }, accessFlags := 9, code := some k10c0 }
/-- java/lang/Integer -/
def k10 : Class := { plain "java/lang/Integer" (some 5) with
  accessFlags := 49
  interfaces := #[6, 7, 8]
  cf := some (fileOf pool10 1 #[.nestMembers #[189]] #[{ accessFlags := 9, nameIndex := 53, descriptorIndex := 54, attributes := #[] }] 49 203 #[304, 306, 308] #[{ accessFlags := 25, nameIndex := 310, descriptorIndex := 194, attributes := #[] }, { accessFlags := 25, nameIndex := 312, descriptorIndex := 194, attributes := #[] }, { accessFlags := 25, nameIndex := 302, descriptorIndex := 303, attributes := #[] }, { accessFlags := 24, nameIndex := 19, descriptorIndex := 20, attributes := #[] }, { accessFlags := 24, nameIndex := 89, descriptorIndex := 86, attributes := #[] }, { accessFlags := 24, nameIndex := 85, descriptorIndex := 86, attributes := #[] }, { accessFlags := 18, nameIndex := 207, descriptorIndex := 194, attributes := #[] }, { accessFlags := 25, nameIndex := 316, descriptorIndex := 194, attributes := #[] }, { accessFlags := 25, nameIndex := 318, descriptorIndex := 194, attributes := #[] }, { accessFlags := 26, nameIndex := 320, descriptorIndex := 321, attributes := #[] }])
  fields := #[{ name := "MIN_VALUE", type := .int, accessFlags := 25, slot := 0, constantValue := 0 }, { name := "MAX_VALUE", type := .int, accessFlags := 25, slot := 1, constantValue := 0 }, { name := "TYPE", type := (.object "java/lang/Class"), accessFlags := 25, slot := 2, constantValue := 0 }, { name := "digits", type := (.array .char), accessFlags := 24, slot := 3, constantValue := 0 }, { name := "DigitTens", type := (.array .byte), accessFlags := 24, slot := 4, constantValue := 0 }, { name := "DigitOnes", type := (.array .byte), accessFlags := 24, slot := 5, constantValue := 0 }, { name := "value", type := .int, accessFlags := 18, slot := 0, constantValue := 0 }, { name := "SIZE", type := .int, accessFlags := 25, slot := 6, constantValue := 0 }, { name := "BYTES", type := .int, accessFlags := 25, slot := 7, constantValue := 0 }, { name := "serialVersionUID", type := .long, accessFlags := 26, slot := 8, constantValue := 0 }]
  methods := #[k10m0]
  instanceTypes := #[.int]
  staticTypes := #[.int, .int, (.object "java/lang/Class"), (.array .char), (.array .byte), (.array .byte), .int, .int, .long]
  resolved := Array.replicate 453 none
  statics := none }

def pool11 : Array CpInfo := pool [(1, .class_ 2), (0, u "java/lang/Math"), (1, .class_ 6), (1, u "java/lang/Object"), (0, u "<init>"), (0, u "()V"), (89, .class_ 100), (1, u "java/lang/Math$RandomNumberGeneratorHolder"), (71, u "negativeZeroFloatBits"), (0, u "J"), (2, u "negativeZeroDoubleBits"), (21, u "max"), (2, u "min"), (43, u "$assertionsDisabled"), (0, u "Z"), (88, u "(II)I"), (2, u "twoToTheDoubleScaleDown"), (0, u "D"), (4, u "twoToTheDoubleScaleUp"), (9, u "E"), (3, u "PI"), (2, u "TAU"), (2, u "DEGREES_TO_RADIANS"), (0, u "RADIANS_TO_DEGREES")] 94

def k11m0 : Method := { name := "<init>", desc := "()V", sig := { parameters := [], returnType := none }, accessFlags := 2, code := none }
def k11c1 : Code := { maxStack := 2, maxLocals := 2, code := jdk_29_method_65_code, exceptionTable := #[], attributes := #[] }
def k11m1 : Method := { name := "max", desc := "(II)I", sig := { parameters := [.int, .int], returnType := some .int }, accessFlags := 9, code := some k11c1 }
def k11c2 : Code := { maxStack := 2, maxLocals := 2, code := jdk_29_method_69_code, exceptionTable := #[], attributes := #[] }
def k11m2 : Method := { name := "min", desc := "(II)I", sig := { parameters := [.int, .int], returnType := some .int }, accessFlags := 9, code := some k11c2 }
/-- java/lang/Math -/
def k11 : Class := { plain "java/lang/Math" (some 0) with
  accessFlags := 49
  interfaces := #[]
  cf := some (fileOf pool11 1 #[.nestMembers #[98]] #[{ accessFlags := 2, nameIndex := 7, descriptorIndex := 8, attributes := #[] }, { accessFlags := 9, nameIndex := 198, descriptorIndex := 335, attributes := #[] }, { accessFlags := 9, nameIndex := 201, descriptorIndex := 335, attributes := #[] }] 49 4 #[] #[{ accessFlags := 25, nameIndex := 354, descriptorIndex := 339, attributes := #[] }, { accessFlags := 25, nameIndex := 358, descriptorIndex := 339, attributes := #[] }, { accessFlags := 25, nameIndex := 361, descriptorIndex := 339, attributes := #[] }, { accessFlags := 26, nameIndex := 364, descriptorIndex := 339, attributes := #[] }, { accessFlags := 26, nameIndex := 365, descriptorIndex := 339, attributes := #[] }, { accessFlags := 26, nameIndex := 172, descriptorIndex := 173, attributes := #[] }, { accessFlags := 26, nameIndex := 176, descriptorIndex := 173, attributes := #[] }, { accessFlags := 8, nameIndex := 344, descriptorIndex := 339, attributes := #[] }, { accessFlags := 8, nameIndex := 338, descriptorIndex := 339, attributes := #[] }, { accessFlags := 4120, nameIndex := 245, descriptorIndex := 246, attributes := #[] }])
  fields := #[{ name := "E", type := .double, accessFlags := 25, slot := 0, constantValue := 0 }, { name := "PI", type := .double, accessFlags := 25, slot := 1, constantValue := 0 }, { name := "TAU", type := .double, accessFlags := 25, slot := 2, constantValue := 0 }, { name := "DEGREES_TO_RADIANS", type := .double, accessFlags := 26, slot := 3, constantValue := 0 }, { name := "RADIANS_TO_DEGREES", type := .double, accessFlags := 26, slot := 4, constantValue := 0 }, { name := "negativeZeroFloatBits", type := .long, accessFlags := 26, slot := 5, constantValue := 0 }, { name := "negativeZeroDoubleBits", type := .long, accessFlags := 26, slot := 6, constantValue := 0 }, { name := "twoToTheDoubleScaleUp", type := .double, accessFlags := 8, slot := 7, constantValue := 0 }, { name := "twoToTheDoubleScaleDown", type := .double, accessFlags := 8, slot := 8, constantValue := 0 }, { name := "$assertionsDisabled", type := .boolean, accessFlags := 4120, slot := 9, constantValue := 0 }]
  methods := #[k11m0, k11m1, k11m2]
  instanceTypes := #[]
  staticTypes := #[.double, .double, .double, .double, .double, .long, .long, .double, .double, .boolean]
  resolved := Array.replicate 460 none
  statics := none }

def pool12 : Array CpInfo := pool [(2, .class_ 4), (1, u "java/lang/Object"), (0, u "<init>"), (0, u "()V"), (7, .class_ 16), (1, u "java/util/Arrays"), (57, .class_ 76), (1, u "java/util/Arrays$NaturalOrder"), (36, .class_ 115), (1, u "java/util/Arrays$LegacyMergeSort"), (1, u "Z"), (32, .methodref 151 152), (0, .class_ 153), (0, .nameAndType 154 155), (0, u "java/lang/System"), (0, u "arraycopy"), (0, u "(Ljava/lang/Object;ILjava/lang/Object;II)V"), (146, u "copyOf"), (1, .methodref 305 306), (0, .class_ 307), (0, .nameAndType 308 309), (0, u "java/lang/Math"), (0, u "min"), (0, u "(II)I"), (65, .class_ 376), (0, u "java/util/Arrays$ArrayList"), (68, u "$assertionsDisabled"), (269, u "MIN_ARRAY_SORT_GRAN"), (0, u "I"), (2, u "INSERTIONSORT_THRESHOLD"), (152, u "([JI)[J"), (102, .class_ 976), (0, u "java/util/Arrays$ArrayItr")] 52

def k12m0 : Method := { name := "<init>", desc := "()V", sig := { parameters := [], returnType := none }, accessFlags := 2, code := none }
def k12c1 : Code := { maxStack := 6, maxLocals := 3, code := jdk_65_method_124_code, exceptionTable := #[], attributes := #[] }
def k12m1 : Method := { name := "copyOf", desc := "([JI)[J", sig := { parameters := [(.array .long), .int], returnType := some (.array .long) }, accessFlags := 9, code := some k12c1 }
/-- java/util/Arrays -/
def k12 : Class := { plain "java/util/Arrays" (some 0) with
  accessFlags := 49
  interfaces := #[]
  cf := some (fileOf pool12 14 #[.nestMembers #[975, 375, 113, 74]] #[{ accessFlags := 2, nameIndex := 5, descriptorIndex := 6, attributes := #[] }, { accessFlags := 9, nameIndex := 302, descriptorIndex := 872, attributes := #[] }] 49 2 #[] #[{ accessFlags := 26, nameIndex := 715, descriptorIndex := 716, attributes := #[] }, { accessFlags := 26, nameIndex := 719, descriptorIndex := 716, attributes := #[] }, { accessFlags := 4120, nameIndex := 445, descriptorIndex := 117, attributes := #[] }])
  fields := #[{ name := "MIN_ARRAY_SORT_GRAN", type := .int, accessFlags := 26, slot := 0, constantValue := 0 }, { name := "INSERTIONSORT_THRESHOLD", type := .int, accessFlags := 26, slot := 1, constantValue := 0 }, { name := "$assertionsDisabled", type := .boolean, accessFlags := 4120, slot := 2, constantValue := 0 }]
  methods := #[k12m0, k12m1]
  instanceTypes := #[]
  staticTypes := #[.int, .int, .boolean]
  resolved := Array.replicate 1029 none
  statics := none }

def pool13 : Array CpInfo := pool [(2, .class_ 4), (1, u "java/lang/Object"), (0, u "<init>"), (0, u "()V"), (1, .class_ 10), (1, u "java/lang/System"), (0, u "allowSecurityManager"), (0, u "I"), (16, u "cons"), (0, u "Ljava/io/Console;"), (77, .class_ 110), (1, u "java/lang/System$CallersHolder"), (43, u "initialErrStream"), (0, u "Ljava/io/PrintStream;"), (19, u "security"), (0, u "Ljava/lang/SecurityManager;"), (31, .class_ 209), (0, u "java/lang/System$1"), (7, u "props"), (0, u "Ljava/util/Properties;"), (2, u "lineSeparator"), (0, u "Ljava/lang/String;"), (96, .class_ 321), (1, u "java/lang/System$LoggerFinder"), (5, .class_ 328), (0, u "java/lang/System$Logger"), (67, u "err"), (2, u "out"), (91, u "notSupportedJnuEncoding"), (15, u "in"), (17, u "initialIn"), (0, u "Ljava/io/InputStream;"), (35, u "bootLayer"), (0, u "Ljava/lang/ModuleLayer;"), (99, .class_ 664), (0, u "java/lang/System$2"), (9, u "NEVER"), (2, u "MAYBE"), (49, u "arraycopy"), (0, u "(Ljava/lang/Object;ILjava/lang/Object;II)V"), (72, .class_ 802), (0, u "java/lang/System$Logger$Level")] 31

def k13m0 : Method := { name := "<init>", desc := "()V", sig := { parameters := [], returnType := none }, accessFlags := 2, code := none }
def k13m1 : Method := { name := "arraycopy", desc := "(Ljava/lang/Object;ILjava/lang/Object;II)V", sig := { parameters := [(.object "java/lang/Object"), .int, (.object "java/lang/Object"), .int, .int], returnType := none }, accessFlags := 265, code := none }
/-- java/lang/System -/
def k13 : Class := { plain "java/lang/System" (some 0) with
  accessFlags := 49
  interfaces := #[]
  cf := some (fileOf pool13 8 #[.nestMembers #[319, 327, 801, 108, 663, 208]] #[{ accessFlags := 2, nameIndex := 5, descriptorIndex := 6, attributes := #[] }, { accessFlags := 265, nameIndex := 727, descriptorIndex := 728, attributes := #[] }] 49 2 #[] #[{ accessFlags := 25, nameIndex := 507, descriptorIndex := 526, attributes := #[] }, { accessFlags := 25, nameIndex := 399, descriptorIndex := 155, attributes := #[] }, { accessFlags := 25, nameIndex := 396, descriptorIndex := 155, attributes := #[] }, { accessFlags := 10, nameIndex := 525, descriptorIndex := 526, attributes := #[] }, { accessFlags := 26, nameIndex := 674, descriptorIndex := 12, attributes := #[] }, { accessFlags := 26, nameIndex := 677, descriptorIndex := 12, attributes := #[] }, { accessFlags := 10, nameIndex := 11, descriptorIndex := 12, attributes := #[] }, { accessFlags := 74, nameIndex := 175, descriptorIndex := 176, attributes := #[] }, { accessFlags := 10, nameIndex := 491, descriptorIndex := 222, attributes := #[] }, { accessFlags := 74, nameIndex := 29, descriptorIndex := 30, attributes := #[] }, { accessFlags := 74, nameIndex := 154, descriptorIndex := 155, attributes := #[] }, { accessFlags := 10, nameIndex := 217, descriptorIndex := 218, attributes := #[] }, { accessFlags := 10, nameIndex := 221, descriptorIndex := 222, attributes := #[] }, { accessFlags := 8, nameIndex := 562, descriptorIndex := 563, attributes := #[] }])
  fields := #[{ name := "in", type := (.object "java/io/InputStream"), accessFlags := 25, slot := 0, constantValue := 0 }, { name := "out", type := (.object "java/io/PrintStream"), accessFlags := 25, slot := 1, constantValue := 0 }, { name := "err", type := (.object "java/io/PrintStream"), accessFlags := 25, slot := 2, constantValue := 0 }, { name := "initialIn", type := (.object "java/io/InputStream"), accessFlags := 10, slot := 3, constantValue := 0 }, { name := "NEVER", type := .int, accessFlags := 26, slot := 4, constantValue := 0 }, { name := "MAYBE", type := .int, accessFlags := 26, slot := 5, constantValue := 0 }, { name := "allowSecurityManager", type := .int, accessFlags := 10, slot := 6, constantValue := 0 }, { name := "security", type := (.object "java/lang/SecurityManager"), accessFlags := 74, slot := 7, constantValue := 0 }, { name := "notSupportedJnuEncoding", type := (.object "java/lang/String"), accessFlags := 10, slot := 8, constantValue := 0 }, { name := "cons", type := (.object "java/io/Console"), accessFlags := 74, slot := 9, constantValue := 0 }, { name := "initialErrStream", type := (.object "java/io/PrintStream"), accessFlags := 74, slot := 10, constantValue := 0 }, { name := "props", type := (.object "java/util/Properties"), accessFlags := 10, slot := 11, constantValue := 0 }, { name := "lineSeparator", type := (.object "java/lang/String"), accessFlags := 10, slot := 12, constantValue := 0 }, { name := "bootLayer", type := (.object "java/lang/ModuleLayer"), accessFlags := 8, slot := 13, constantValue := 0 }]
  methods := #[k13m0, k13m1]
  instanceTypes := #[]
  staticTypes := #[(.object "java/io/InputStream"), (.object "java/io/PrintStream"), (.object "java/io/PrintStream"), (.object "java/io/InputStream"), .int, .int, .int, (.object "java/lang/SecurityManager"), (.object "java/lang/String"), (.object "java/io/Console"), (.object "java/io/PrintStream"), (.object "java/util/Properties"), (.object "java/lang/String"), (.object "java/lang/ModuleLayer")]
  resolved := Array.replicate 834 none
  statics := none }

def pool14 : Array CpInfo := pool [(1, u "java/lang/Cloneable"), (0, .class_ 1), (0, u "java/lang/Object"), (0, .class_ 3)] 3

/-- java/lang/Cloneable -/
def k14 : Class := { plain "java/lang/Cloneable" (some 0) with
  accessFlags := 1537
  interfaces := #[]
  cf := some (fileOf pool14 2 #[] #[] 1537 4 #[] #[])
  fields := #[]
  methods := #[]
  instanceTypes := #[]
  staticTypes := #[]
  resolved := Array.replicate 8 none
  statics := none }

/-- the primitive byte -/
def k15 : Class := { plain "byte" none with kind := .primitive 'B', accessFlags := 0x411 }
/-- [B -/
def k16 : Class := { plain "[B" (some 0) with kind := .array 15 .byte, interfaces := #[14, 4], accessFlags := 1041 }

/-- the primitive int -/
def k17 : Class := { plain "int" none with kind := .primitive 'I', accessFlags := 0x411 }
/-- [I -/
def k18 : Class := { plain "[I" (some 0) with kind := .array 17 .int, interfaces := #[14, 4], accessFlags := 1041 }

/-- the primitive long -/
def k19 : Class := { plain "long" none with kind := .primitive 'J', accessFlags := 0x411 }
/-- [J -/
def k20 : Class := { plain "[J" (some 0) with kind := .array 19 .long, interfaces := #[14, 4], accessFlags := 1041 }

def heap : Heap := #[]
def classes : Array Class := #[k0, k1, k2, k3, k4, k5, k6, k7, k8, k9, k10, k11, k12, k13, k14, k15, k16, k17, k18, k19, k20]
def interned : List (Array UInt16 × Addr) := []
def slotsUsed : Nat := 0
def theMethod : MethodId := ⟨1, 1⟩
def args0 : Array Value := #[.int 5, .int 700, .int 9, .int 3]
def aboutOver (below : List Frame) : State where
  vm := { classes := classes, interned := interned.toArray }
  heap := heap
  slotsUsed := slotsUsed
  threads := #[{ frames := .invoking theMethod args0 :: below }]
def below0 : List Frame := [.native { method := ⟨0, 0⟩, args := #[] }]
def about1 : State := aboutOver below0
def p0 : Program := .bare "" "" ""
def e0 : Env := launch0.env 0 0 0
theorem w_frames : about1.frames = Frame.invoking theMethod args0 :: below0 := rfl
set_option maxRecDepth 65536 in
theorem w_args : argsFit about1.vm theMethod args0 = true := by decide +kernel
set_option maxRecDepth 65536 in
theorem w_heap : heapFits about1 = true := by decide +kernel
set_option maxRecDepth 65536 in
theorem w_runnable : about1.curStatus? = some .runnable := by decide +kernel
set_option maxRecDepth 65536 in
theorem w_alone : about1.alone = true := by decide +kernel
set_option maxRecDepth 65536 in
theorem w_named : about1.methodNamed? x = some theMethod := by decide +kernel
set_option maxRecDepth 65536 in
theorem w_hears : about1.hears theMethod below0 = true := by decide +kernel
set_option maxRecDepth 65536 in
theorem w_ripe : about1.ripe theMethod args0 below0 = true := by decide +kernel
theorem w_running : about1.status = .running := rfl
set_option maxRecDepth 65536 in
theorem w_room : about1.hasRoom e0.platform room_1 = true :=
  launch0.hasRoom_least _ room_1 (by decide +kernel) (by decide +kernel) (by decide +kernel) (by decide +kernel) (by decide +kernel) (by decide +kernel)
theorem allAtoms_all (ts : List Jvm.Cond) (a : Array Jvm.Value) (st : Jvm.State) : (allAtoms ts).before a st = ts.all (fun c => c.before a st) := by
  induction ts with
  | nil => rfl
  | cons c t ih =>
    show (Jvm.Cond.and c (allAtoms t)).before a st = _
    rw [Jvm.Cond.before_and, ih, List.all_cons]
def words1 : List Jvm.Cond := Jvm.Cond.code x code maxLocals ret :: tables_1
/-- a 'code' word, met by the world's own term for the bytes: nothing is compared byte by byte -/
theorem code_word {y : MethodName} {bytes : ByteArray} {mx : Nat} {rt : Option FieldType} {a : Array Value} {s : State} {m : MethodId} {meth : Method} {c : Code} (h1 : s.methodNamed? y = some m) (h2 : s.vm.method? m = some meth) (h3 : meth.code = some c) (h4 : c.code = bytes)
    (h5 : (c.maxLocals == mx && c.exceptionTable.isEmpty && decide (c.maxStack ≤ mostOperands) && decide (meth.sig.returnType = rt) && !meth.locks && decide (parseMethodDescriptor y.desc = some meth.sig)) = true) : (Jvm.Cond.code y bytes mx rt).before a s = true := by
  simp only [Bool.and_eq_true, beq_iff_eq, Bool.not_eq_true', decide_eq_true_eq] at h5
  obtain ⟨⟨⟨⟨⟨g1, g2⟩, g3⟩, g4⟩, g5⟩, g6⟩ := h5
  simp [Cond.before, Cond.holds, Cond.value, h1, h2, h3, h4, g1, g2, g3, g4, g5, g6]
def isCode : Jvm.Cond → Bool
  | .code _ _ _ _ => true
  | _ => false
theorem all_split {L : List Jvm.Cond} {P : Jvm.Cond → Bool} (h1 : L.all (fun c => isCode c || P c) = true) (h2 : ∀ c ∈ L.filter isCode, P c = true) : L.all P = true := by
  refine List.all_eq_true.mpr fun c hc => ?_
  have h := List.all_eq_true.mp h1 c hc
  rcases Bool.eq_false_or_eq_true (isCode c) with hi | hi
  · exact h2 c (List.mem_filter.mpr ⟨hc, hi⟩)
  · simpa [hi] using h
set_option maxRecDepth 65536 in
theorem w_c0 : (Jvm.Cond.code x code maxLocals ret).before args0 about1 = true := code_word (m := ⟨1, 1⟩) (meth := k1m1) (c := k1c1) (by decide +kernel) rfl rfl rfl (by decide +kernel)
set_option maxRecDepth 65536 in
theorem w_c1 : (Jvm.Cond.code ({ cls := "com/example/varve/varve/parquet/PackedNumbers", name := "<init>", desc := "()V" } : Jvm.MethodName) prog_109_method_1_code (1 : Nat) (Option.none : Option Jvm.ClassFile.FieldType)).before args0 about1 = true := code_word (m := ⟨2, 0⟩) (meth := k2m0) (c := k2c0) (by decide +kernel) rfl rfl rfl (by decide +kernel)
set_option maxRecDepth 65536 in
theorem w_c2 : (Jvm.Cond.code ({ cls := "java/lang/Object", name := "<init>", desc := "()V" } : Jvm.MethodName) object_method_1_code (1 : Nat) (Option.none : Option Jvm.ClassFile.FieldType)).before args0 about1 = true := code_word (m := ⟨0, 0⟩) (meth := k0m0) (c := k0c0) (by decide +kernel) rfl rfl rfl (by decide +kernel)
set_option maxRecDepth 65536 in
theorem w_c3 : (Jvm.Cond.code ({ cls := "com/example/varve/varve/parquet/PackedNumbers", name := "add", desc := "(I)V" } : Jvm.MethodName) prog_109_method_3_code (6 : Nat) (Option.none : Option Jvm.ClassFile.FieldType)).before args0 about1 = true := code_word (m := ⟨2, 2⟩) (meth := k2m2) (c := k2c2) (by decide +kernel) rfl rfl rfl (by decide +kernel)
set_option maxRecDepth 65536 in
theorem w_c4 : (Jvm.Cond.code ({ cls := "com/example/varve/varve/column/ByteOutput", name := "width", desc := "(J)I" } : Jvm.MethodName) prog_29_method_17_code (2 : Nat) (Option.some Jvm.ClassFile.FieldType.int)).before args0 about1 = true := code_word (m := ⟨3, 1⟩) (meth := k3m1) (c := k3c1) (by decide +kernel) rfl rfl rfl (by decide +kernel)
set_option maxRecDepth 65536 in
theorem w_c5 : (Jvm.Cond.code ({ cls := "java/lang/Long", name := "numberOfLeadingZeros", desc := "(J)I" } : Jvm.MethodName) jdk_35_method_48_code (3 : Nat) (Option.some Jvm.ClassFile.FieldType.int)).before args0 about1 = true := code_word (m := ⟨9, 0⟩) (meth := k9m0) (c := k9c0) (by decide +kernel) rfl rfl rfl (by decide +kernel)
set_option maxRecDepth 65536 in
theorem w_c6 : (Jvm.Cond.code ({ cls := "java/lang/Integer", name := "numberOfLeadingZeros", desc := "(I)I" } : Jvm.MethodName) jdk_33_method_47_code (2 : Nat) (Option.some Jvm.ClassFile.FieldType.int)).before args0 about1 = true := code_word (m := ⟨10, 0⟩) (meth := k10m0) (c := k10c0) (by decide +kernel) rfl rfl rfl (by decide +kernel)
set_option maxRecDepth 65536 in
theorem w_c7 : (Jvm.Cond.code ({ cls := "com/example/varve/varve/parquet/PackedNumbers", name := "widen", desc := "(I)V" } : Jvm.MethodName) prog_109_method_7_code (4 : Nat) (Option.none : Option Jvm.ClassFile.FieldType)).before args0 about1 = true := code_word (m := ⟨2, 4⟩) (meth := k2m4) (c := k2c4) (by decide +kernel) rfl rfl rfl (by decide +kernel)
set_option maxRecDepth 65536 in
theorem w_c8 : (Jvm.Cond.code ({ cls := "java/lang/Math", name := "max", desc := "(II)I" } : Jvm.MethodName) jdk_29_method_65_code (2 : Nat) (Option.some Jvm.ClassFile.FieldType.int)).before args0 about1 = true := code_word (m := ⟨11, 1⟩) (meth := k11m1) (c := k11c1) (by decide +kernel) rfl rfl rfl (by decide +kernel)
set_option maxRecDepth 65536 in
theorem w_c9 : (Jvm.Cond.code ({ cls := "com/example/varve/varve/parquet/PackedNumbers", name := "get", desc := "(I)I" } : Jvm.MethodName) prog_109_method_4_code (8 : Nat) (Option.some Jvm.ClassFile.FieldType.int)).before args0 about1 = true := code_word (m := ⟨2, 3⟩) (meth := k2m3) (c := k2c3) (by decide +kernel) rfl rfl rfl (by decide +kernel)
set_option maxRecDepth 65536 in
theorem w_c10 : (Jvm.Cond.code ({ cls := "com/example/varve/varve/parquet/PackedNumbers", name := "size", desc := "()I" } : Jvm.MethodName) prog_109_method_2_code (1 : Nat) (Option.some Jvm.ClassFile.FieldType.int)).before args0 about1 = true := code_word (m := ⟨2, 1⟩) (meth := k2m1) (c := k2c1) (by decide +kernel) rfl rfl rfl (by decide +kernel)
set_option maxRecDepth 65536 in
theorem w_c11 : (Jvm.Cond.code ({ cls := "java/util/Arrays", name := "copyOf", desc := "([JI)[J" } : Jvm.MethodName) jdk_65_method_124_code (3 : Nat) (Option.some (Jvm.ClassFile.FieldType.array Jvm.ClassFile.FieldType.long))).before args0 about1 = true := code_word (m := ⟨12, 1⟩) (meth := k12m1) (c := k12c1) (by decide +kernel) rfl rfl rfl (by decide +kernel)
set_option maxRecDepth 65536 in
theorem w_c12 : (Jvm.Cond.code ({ cls := "java/lang/Math", name := "min", desc := "(II)I" } : Jvm.MethodName) jdk_29_method_69_code (2 : Nat) (Option.some Jvm.ClassFile.FieldType.int)).before args0 about1 = true := code_word (m := ⟨11, 2⟩) (meth := k11m2) (c := k11c2) (by decide +kernel) rfl rfl rfl (by decide +kernel)
def codes1 : List Jvm.Cond := [Jvm.Cond.code x code maxLocals ret, Jvm.Cond.code ({ cls := "com/example/varve/varve/parquet/PackedNumbers", name := "<init>", desc := "()V" } : Jvm.MethodName) prog_109_method_1_code (1 : Nat) (Option.none : Option Jvm.ClassFile.FieldType), Jvm.Cond.code ({ cls := "java/lang/Object", name := "<init>", desc := "()V" } : Jvm.MethodName) object_method_1_code (1 : Nat) (Option.none : Option Jvm.ClassFile.FieldType), Jvm.Cond.code ({ cls := "com/example/varve/varve/parquet/PackedNumbers", name := "add", desc := "(I)V" } : Jvm.MethodName) prog_109_method_3_code (6 : Nat) (Option.none : Option Jvm.ClassFile.FieldType), Jvm.Cond.code ({ cls := "com/example/varve/varve/column/ByteOutput", name := "width", desc := "(J)I" } : Jvm.MethodName) prog_29_method_17_code (2 : Nat) (Option.some Jvm.ClassFile.FieldType.int), Jvm.Cond.code ({ cls := "java/lang/Long", name := "numberOfLeadingZeros", desc := "(J)I" } : Jvm.MethodName) jdk_35_method_48_code (3 : Nat) (Option.some Jvm.ClassFile.FieldType.int), Jvm.Cond.code ({ cls := "java/lang/Integer", name := "numberOfLeadingZeros", desc := "(I)I" } : Jvm.MethodName) jdk_33_method_47_code (2 : Nat) (Option.some Jvm.ClassFile.FieldType.int), Jvm.Cond.code ({ cls := "com/example/varve/varve/parquet/PackedNumbers", name := "widen", desc := "(I)V" } : Jvm.MethodName) prog_109_method_7_code (4 : Nat) (Option.none : Option Jvm.ClassFile.FieldType), Jvm.Cond.code ({ cls := "java/lang/Math", name := "max", desc := "(II)I" } : Jvm.MethodName) jdk_29_method_65_code (2 : Nat) (Option.some Jvm.ClassFile.FieldType.int), Jvm.Cond.code ({ cls := "com/example/varve/varve/parquet/PackedNumbers", name := "get", desc := "(I)I" } : Jvm.MethodName) prog_109_method_4_code (8 : Nat) (Option.some Jvm.ClassFile.FieldType.int), Jvm.Cond.code ({ cls := "com/example/varve/varve/parquet/PackedNumbers", name := "size", desc := "()I" } : Jvm.MethodName) prog_109_method_2_code (1 : Nat) (Option.some Jvm.ClassFile.FieldType.int), Jvm.Cond.code ({ cls := "java/util/Arrays", name := "copyOf", desc := "([JI)[J" } : Jvm.MethodName) jdk_65_method_124_code (3 : Nat) (Option.some (Jvm.ClassFile.FieldType.array Jvm.ClassFile.FieldType.long)), Jvm.Cond.code ({ cls := "java/lang/Math", name := "min", desc := "(II)I" } : Jvm.MethodName) jdk_29_method_69_code (2 : Nat) (Option.some Jvm.ClassFile.FieldType.int)]
set_option maxRecDepth 65536 in
theorem codes_eq : words1.filter isCode = codes1 := rfl
theorem w_codes : ∀ c ∈ words1.filter isCode, c.before args0 about1 = true := by
  rw [codes_eq]
  intro c hc
  simp only [codes1, List.mem_cons, List.not_mem_nil, or_false] at hc
  rcases hc with rfl | rfl | rfl | rfl | rfl | rfl | rfl | rfl | rfl | rfl | rfl | rfl | rfl
  · exact w_c0
  · exact w_c1
  · exact w_c2
  · exact w_c3
  · exact w_c4
  · exact w_c5
  · exact w_c6
  · exact w_c7
  · exact w_c8
  · exact w_c9
  · exact w_c10
  · exact w_c11
  · exact w_c12
set_option maxRecDepth 65536 in
theorem w_t1 : (words1.take 24).all (fun c => isCode c || c.before args0 about1) = true := by decide +kernel
set_option maxRecDepth 65536 in
theorem w_t2 : ((words1.drop 24).take 24).all (fun c => isCode c || c.before args0 about1) = true := by decide +kernel
set_option maxRecDepth 65536 in
theorem w_t3 : (((words1.drop 24).drop 24).take 24).all (fun c => isCode c || c.before args0 about1) = true := by decide +kernel
set_option maxRecDepth 65536 in
theorem w_t4 : (((words1.drop 24).drop 24).drop 24).all (fun c => isCode c || c.before args0 about1) = true := by decide +kernel
theorem w_tables : (allAtoms (Jvm.Cond.code x code maxLocals ret :: tables_1)).before args0 about1 = true := by
  rw [allAtoms_all]
  show words1.all (fun c => c.before args0 about1) = true
  refine all_split ?_ w_codes
  rw [← List.take_append_drop 24 words1, List.all_append, w_t1, ← List.take_append_drop 24 (words1.drop 24), List.all_append, w_t2, ← List.take_append_drop 24 ((words1.drop 24).drop 24), List.all_append, w_t3, w_t4]
  rfl
set_option maxRecDepth 65536 in
theorem w_case : (Jvm.Cond.and given_1 narrow_1).before args0 about1 = true := by decide +kernel
theorem w_applies : (headSpec (Jvm.Cond.code x code maxLocals ret :: tables_1) room_1).applies x e0.platform about1 = true :=
  (Spec.applies_iff w_frames).mpr ⟨w_running, w_runnable, w_alone, w_named, w_hears, w_ripe, w_room, w_tables⟩
theorem atStart : AtStart classFile x code maxLocals ret World_1 tables_1 room_1 Calls_1 rest_1 Pre_1 launch0 p0 e0 about1 theMethod args0 below0 :=
  ⟨lists_1, trivial, launch0.admits_env _ _ _, launch0.least_env, fairChoices_fair.cas, fairChoices_fair.clock, w_frames, w_args, w_heap, w_applies, trivial, trivial, w_case⟩
end start1
theorem witness_1 : WitnessClaimed_1 := ⟨start1.p0, start1.e0, start1.about1, start1.theMethod, start1.args0, start1.below0, start1.atStart⟩
end Jvm.Pilot.@@N@@
