import JvmDerived
import JvmDerived.Pilot.@@N@@Statement
import JvmDerived.Pilot.@@N@@Code
set_option linter.unusedVariables false
set_option linter.unusedSimpArgs false
namespace Jvm.Own
open Jvm Jvm.ClassFile Sem Op Lib Jvm.Free Jvm.Stand Jvm.LawKit Jvm.RoadKit Bundle
/-- where the run stands inside a body: what is fixed, the heap, the room used -/
def St (p : Program) (l : Launch) (e : Env) (R : Room) (s : State) (m : MethodId) (args : Array Value) (below : List Frame) (meth : Method) (c : Code) (Z : State) (n0 : Nat) (y : MethodName) (code : ByteArray) (maxL : Nat) (ret : Option FieldType) (T : State) (h : Heap) (cells slots : Nat) : Prop :=
  (p.tables.exec = Jvm.exec ∧ Z.Warmed39 s.vm ∧ c.code = code ∧ c.maxLocals = maxL ∧ s.vm.findClass y.cls = some m.cls ∧ meth.name = y.name ∧ meth.sig.returnType = ret ∧ meth.locks = false ∧ n0 ≤ s.heap.size) ∧ T.heap = h ∧ ∃ locs, Stand p l e R s m args below meth c T locs cells slots ∧ Fr n0 locs
/-- from here the body comes to its end with Q -/
def WP (p : Program) (e : Env) (below : List Frame) (s : State) (n0 k n : Nat) (Q : Option Value → Heap → Prop) (T : State) (g : JFrame) : Prop :=
  ∃ s₂ o, Steps p.tables e below (T.setTop g) s₂ ∧ s₂.status = .running ∧ Ended s₂ below o ∧ ∃ v L, o = .returned v ∧ (Q v s₂.heap ∧ Fr n0 L) ∧ FrameEnd s o s₂ L k n
/-- a body's contract -/
def Ct (l : Launch) (Z : State) (y : MethodName) (code : ByteArray) (maxL : Nat) (ret : Option FieldType) (rm : Room) (as : Array Value) (h0 : Heap) (n0 : Nat) (Q : Option Value → Heap → Prop) : Prop :=
  ∀ ws, MetFree l y (head1 (Jvm.Cond.code y code maxL ret :: ws) rm) (fun a U => a = as ∧ Z.Warmed39 U.vm ∧ U.heap = h0) (fun _ _ _ _ _ => True) (fun _ U o U' => ∃ v L, o = .returned v ∧ (Q v U'.heap ∧ Fr n0 L) ∧ FrameEnd U o U' L rm.cells rm.slots)
section Steps
variable {p : Program} {l : Launch} {e : Env} {R : Room} {s : State} {m : MethodId} {args : Array Value} {below : List Frame} {meth : Method} {c : Code} {Z : State} {n0 : Nat} {y : MethodName} {code : ByteArray} {maxL : Nat} {ret : Option FieldType} {T : State} {h : Heap} {cells slots k n : Nat} {Q : Option Value → Heap → Prop} {pc pc' : Nat} {Ls : Array Slot} {S : List Value} {a0 : Array Value}
theorem WP.step {T' : State} {g g' : JFrame} (w : WP p e below s n0 k n Q T' g') (st : ∀ t, Steps p.tables e below (T'.setTop g') t → Steps p.tables e below (T.setTop g) t) : WP p e below s n0 k n Q T g := by
  obtain ⟨s₂, o, h1, r⟩ := w; exact ⟨s₂, o, st _ h1, r⟩
theorem WP.trans {T' : State} {g g' : JFrame} (w : WP p e below s n0 k n Q T' g') (st : Steps p.tables e below (T.setTop g) (T'.setTop g')) : WP p e below s n0 k n Q T g := by
  obtain ⟨s₂, o, h1, r⟩ := w; exact ⟨s₂, o, st.trans h1, r⟩
theorem WP.imp {Q' : Option Value → Heap → Prop} {g : JFrame} (w : WP p e below s n0 k n Q' T g) (hq : ∀ v h, Q' v h → Q v h) : WP p e below s n0 k n Q T g := by
  obtain ⟨s₂, o, h1, h2, h3, v, L, h4, ⟨h5, h6⟩, h7⟩ := w; exact ⟨s₂, o, h1, h2, h3, v, L, h4, ⟨hq _ _ h5, h6⟩, h7⟩
theorem WP.cast {g g' : JFrame} (q : g = g') (w : WP p e below s n0 k n Q T g') : WP p e below s n0 k n Q T g := q ▸ w
theorem Ct.imp {as : Array Value} {rm : Room} {Q' : Option Value → Heap → Prop} (ct : Ct l Z y code maxL ret rm as h n0 Q') (hq : ∀ v h, Q' v h → Q v h) : Ct l Z y code maxL ret rm as h n0 Q := by
  intro ws p e ha hc hk s m args below hf happ hP hK
  obtain ⟨n, o, h1, h2, h3, v, L, h4, ⟨h5, h6⟩, h7⟩ := ct ws p e ha hc hk s m args below hf happ hP hK
  exact ⟨n, o, h1, h2, h3, v, L, h4, ⟨hq _ _ h5, h6⟩, h7⟩
theorem Ct.intro {rm : Room} {as : Array Value} {h0 : Heap} (hpl : plainFor y = true) (Z0 : n0 ≤ h0.size)
    (body : ∀ p e s m below meth c T, St p l e rm s m as below meth c Z n0 y code maxL ret T h0 0 0 → WP p e below s n0 rm.cells rm.slots Q T (entryFrame m as maxL)) : Ct l Z y code maxL ret rm as h0 n0 Q := by
  intro ws
  refine MetFree.of_bodySF hpl hisR ?_
  intro p e s m args below meth c s₁ Bd hml0 hP hK
  obtain ⟨rfl, hZ, hh⟩ := hP
  exact body p e s m below meth c s₁ ⟨⟨Bd.exec, hZ, Bd.bytes, hml0, findClass_of_methodNamed Bd.named, (name_of_methodNamed Bd.named Bd.method).1, Bd.returns, BodyLoose.notSynchronized Bd, hh ▸ Z0⟩, by rw [← hh, Bd.state]; rfl, [], Stand.of_body Bd, Fr.nil n0⟩
theorem St.n0le (X : St p l e R s m args below meth c Z n0 y code maxL ret T h cells slots) : n0 ≤ h.size := by
  obtain ⟨⟨-, -, -, -, -, -, -, -, h0⟩, hT, locs, X, -⟩ := X
  have q : s.heap.size ≤ T.heap.size := X.same.2.1
  rw [hT] at q; exact Nat.le_trans h0 q
theorem St.mono (X : St p l e R s m args below meth c Z n0 y code maxL ret T h cells slots) {cells' slots' : Nat} (hc : cells ≤ cells') (hs : slots ≤ slots') : St p l e R s m args below meth c Z n0 y code maxL ret T h cells' slots' := by
  obtain ⟨h0, hT, locs, X, N⟩ := X
  exact ⟨h0, hT, locs, ⟨X.admits, X.cas, X.clock, X.frames, X.room, X.hears, X.method, X.code, X.here, X.tail, X.warmed, X.limits, X.bytes, X.same.mono hc hs⟩, N⟩
theorem w_nameI {v : Int32} (w : ∀ z, z = v → WP p e below s n0 k n Q T (mkF m pc Ls (.int z :: S))) : WP p e below s n0 k n Q T (mkF m pc Ls (.int v :: S)) := w v rfl
theorem w_nameJ {v : Int64} (w : ∀ z, z = v → WP p e below s n0 k n Q T (mkF m pc Ls (.long z :: S))) : WP p e below s n0 k n Q T (mkF m pc Ls (.long v :: S)) := w v rfl
theorem w_nameR {v : Addr} (w : ∀ z, z = v → WP p e below s n0 k n Q T (mkF m pc Ls (.ref z :: S))) : WP p e below s n0 k n Q T (mkF m pc Ls (.ref v :: S)) := w v rfl
theorem w_iload (X : St p l e R s m args below meth c Z n0 y code maxL ret T h cells slots) {i : Nat} {v : Int32} (hd : decode code pc = .ok (.iload i, 2)) (hl : Ls[i]? = some (.val (.int v))) (hp : pc' = pc + 2) (w : WP p e below s n0 k n Q T (mkF m pc' Ls (.int v :: S))) : WP p e below s n0 k n Q T (mkF m pc Ls (S)) := by
  obtain ⟨⟨hx, hZ, hby, hml, hown, hnm, hret, hlk, h00⟩, hT, locs, X, N⟩ := X
  subst hp
  exact w.step fun t kk => XS.iload X.here hx rfl (hb hby hd) hl kk
theorem w_iloadN (X : St p l e R s m args below meth c Z n0 y code maxL ret T h cells slots) {i : Fin 4} {v : Int32} (hd : decode code pc = .ok (.iload_n i, 1)) (hl : Ls[i.val]? = some (.val (.int v))) (hp : pc' = pc + 1) (w : WP p e below s n0 k n Q T (mkF m pc' Ls (.int v :: S))) : WP p e below s n0 k n Q T (mkF m pc Ls (S)) := by
  obtain ⟨⟨hx, hZ, hby, hml, hown, hnm, hret, hlk, h00⟩, hT, locs, X, N⟩ := X
  subst hp
  exact w.step fun t kk => XS.iloadN X.here hx rfl (hb hby hd) hl kk
theorem w_lload (X : St p l e R s m args below meth c Z n0 y code maxL ret T h cells slots) {i : Nat} {v : Int64} (hd : decode code pc = .ok (.lload i, 2)) (hl : Ls[i]? = some (.val (.long v))) (hp : pc' = pc + 2) (w : WP p e below s n0 k n Q T (mkF m pc' Ls (.long v :: S))) : WP p e below s n0 k n Q T (mkF m pc Ls (S)) := by
  obtain ⟨⟨hx, hZ, hby, hml, hown, hnm, hret, hlk, h00⟩, hT, locs, X, N⟩ := X
  subst hp
  exact w.step fun t kk => XS.lload X.here hx rfl (hb hby hd) hl kk
theorem w_lloadN (X : St p l e R s m args below meth c Z n0 y code maxL ret T h cells slots) {i : Fin 4} {v : Int64} (hd : decode code pc = .ok (.lload_n i, 1)) (hl : Ls[i.val]? = some (.val (.long v))) (hp : pc' = pc + 1) (w : WP p e below s n0 k n Q T (mkF m pc' Ls (.long v :: S))) : WP p e below s n0 k n Q T (mkF m pc Ls (S)) := by
  obtain ⟨⟨hx, hZ, hby, hml, hown, hnm, hret, hlk, h00⟩, hT, locs, X, N⟩ := X
  subst hp
  exact w.step fun t kk => XS.lloadN X.here hx rfl (hb hby hd) hl kk
theorem w_aload (X : St p l e R s m args below meth c Z n0 y code maxL ret T h cells slots) {i : Nat} {v : Value} (hd : decode code pc = .ok (.aload i, 2)) (hl : Ls[i]? = some (.val v)) (hv : v.isRef = true) (hp : pc' = pc + 2) (w : WP p e below s n0 k n Q T (mkF m pc' Ls (v :: S))) : WP p e below s n0 k n Q T (mkF m pc Ls (S)) := by
  obtain ⟨⟨hx, hZ, hby, hml, hown, hnm, hret, hlk, h00⟩, hT, locs, X, N⟩ := X
  subst hp
  exact w.step fun t kk => XS.aload X.here hx rfl (hb hby hd) hl hv kk
theorem w_aloadN (X : St p l e R s m args below meth c Z n0 y code maxL ret T h cells slots) {i : Fin 4} {v : Value} (hd : decode code pc = .ok (.aload_n i, 1)) (hl : Ls[i.val]? = some (.val v)) (hv : v.isRef = true) (hp : pc' = pc + 1) (w : WP p e below s n0 k n Q T (mkF m pc' Ls (v :: S))) : WP p e below s n0 k n Q T (mkF m pc Ls (S)) := by
  obtain ⟨⟨hx, hZ, hby, hml, hown, hnm, hret, hlk, h00⟩, hT, locs, X, N⟩ := X
  subst hp
  exact w.step fun t kk => XS.aloadN X.here hx rfl (hb hby hd) hl hv kk
theorem w_istore (X : St p l e R s m args below meth c Z n0 y code maxL ret T h cells slots) {i : Nat} {v : Int32} {L' : Array Slot} (hd : decode code pc = .ok (.istore i, 2)) (hl : storeLocals Ls i (.int v) = some L') (hp : pc' = pc + 2) (w : WP p e below s n0 k n Q T (mkF m pc' L' (S))) : WP p e below s n0 k n Q T (mkF m pc Ls (.int v :: S)) := by
  obtain ⟨⟨hx, hZ, hby, hml, hown, hnm, hret, hlk, h00⟩, hT, locs, X, N⟩ := X
  subst hp
  exact w.step fun t kk => XS.istore X.here hx rfl (hb hby hd) rfl hl kk
theorem w_istoreN (X : St p l e R s m args below meth c Z n0 y code maxL ret T h cells slots) {i : Fin 4} {v : Int32} {L' : Array Slot} (hd : decode code pc = .ok (.istore_n i, 1)) (hl : storeLocals Ls i.val (.int v) = some L') (hp : pc' = pc + 1) (w : WP p e below s n0 k n Q T (mkF m pc' L' (S))) : WP p e below s n0 k n Q T (mkF m pc Ls (.int v :: S)) := by
  obtain ⟨⟨hx, hZ, hby, hml, hown, hnm, hret, hlk, h00⟩, hT, locs, X, N⟩ := X
  subst hp
  exact w.step fun t kk => XS.istoreN X.here hx rfl (hb hby hd) rfl hl kk
theorem w_lstore (X : St p l e R s m args below meth c Z n0 y code maxL ret T h cells slots) {i : Nat} {v : Int64} {L' : Array Slot} (hd : decode code pc = .ok (.lstore i, 2)) (hl : storeLocals Ls i (.long v) = some L') (hp : pc' = pc + 2) (w : WP p e below s n0 k n Q T (mkF m pc' L' (S))) : WP p e below s n0 k n Q T (mkF m pc Ls (.long v :: S)) := by
  obtain ⟨⟨hx, hZ, hby, hml, hown, hnm, hret, hlk, h00⟩, hT, locs, X, N⟩ := X
  subst hp
  exact w.step fun t kk => XS.lstore X.here hx rfl (hb hby hd) rfl hl kk
theorem w_lstoreN (X : St p l e R s m args below meth c Z n0 y code maxL ret T h cells slots) {i : Fin 4} {v : Int64} {L' : Array Slot} (hd : decode code pc = .ok (.lstore_n i, 1)) (hl : storeLocals Ls i.val (.long v) = some L') (hp : pc' = pc + 1) (w : WP p e below s n0 k n Q T (mkF m pc' L' (S))) : WP p e below s n0 k n Q T (mkF m pc Ls (.long v :: S)) := by
  obtain ⟨⟨hx, hZ, hby, hml, hown, hnm, hret, hlk, h00⟩, hT, locs, X, N⟩ := X
  subst hp
  exact w.step fun t kk => XS.lstoreN X.here hx rfl (hb hby hd) rfl hl kk
theorem w_astore (X : St p l e R s m args below meth c Z n0 y code maxL ret T h cells slots) {i : Nat} {v : Value} {L' : Array Slot} (hd : decode code pc = .ok (.astore i, 2)) (hv : v.isRef = true) (hl : storeLocals Ls i v = some L') (hp : pc' = pc + 2) (w : WP p e below s n0 k n Q T (mkF m pc' L' (S))) : WP p e below s n0 k n Q T (mkF m pc Ls (v :: S)) := by
  obtain ⟨⟨hx, hZ, hby, hml, hown, hnm, hret, hlk, h00⟩, hT, locs, X, N⟩ := X
  subst hp
  exact w.step fun t kk => XS.astore X.here hx rfl (hb hby hd) rfl hv hl kk
theorem w_astoreN (X : St p l e R s m args below meth c Z n0 y code maxL ret T h cells slots) {i : Fin 4} {v : Value} {L' : Array Slot} (hd : decode code pc = .ok (.astore_n i, 1)) (hv : v.isRef = true) (hl : storeLocals Ls i.val v = some L') (hp : pc' = pc + 1) (w : WP p e below s n0 k n Q T (mkF m pc' L' (S))) : WP p e below s n0 k n Q T (mkF m pc Ls (v :: S)) := by
  obtain ⟨⟨hx, hZ, hby, hml, hown, hnm, hret, hlk, h00⟩, hT, locs, X, N⟩ := X
  subst hp
  exact w.step fun t kk => XS.astoreN X.here hx rfl (hb hby hd) rfl hv hl kk
theorem w_iinc (X : St p l e R s m args below meth c Z n0 y code maxL ret T h cells slots) {i : Nat} {d : Int} {v v' : Int32} {L' : Array Slot} (hd : decode code pc = .ok (.iinc i d, 3)) (hl : Ls[i]? = some (.val (.int v))) (hv : v + Int32.ofInt d = v') (hl' : storeLocals Ls i (.int v') = some L') (hp : pc' = pc + 3) (w : WP p e below s n0 k n Q T (mkF m pc' L' (S))) : WP p e below s n0 k n Q T (mkF m pc Ls (S)) := by
  obtain ⟨⟨hx, hZ, hby, hml, hown, hnm, hret, hlk, h00⟩, hT, locs, X, N⟩ := X
  subst hp hv
  exact w.step fun t kk => XS.iinc X.here hx rfl (hb hby hd) hl hl' kk
theorem w_iconst (X : St p l e R s m args below meth c Z n0 y code maxL ret T h cells slots) {i : Int} {v : Int32} (hd : decode code pc = .ok (.iconst i, 1)) (hv : Int32.ofInt i = v) (hp : pc' = pc + 1) (w : WP p e below s n0 k n Q T (mkF m pc' Ls (.int v :: S))) : WP p e below s n0 k n Q T (mkF m pc Ls (S)) := by
  obtain ⟨⟨hx, hZ, hby, hml, hown, hnm, hret, hlk, h00⟩, hT, locs, X, N⟩ := X
  subst hp hv
  exact w.step fun t kk => XS.iconst X.here hx rfl (hb hby hd) kk
theorem w_bipush (X : St p l e R s m args below meth c Z n0 y code maxL ret T h cells slots) {i : Int} {v : Int32} (hd : decode code pc = .ok (.bipush i, 2)) (hv : (Int8.ofInt i).toInt32 = v) (hp : pc' = pc + 2) (w : WP p e below s n0 k n Q T (mkF m pc' Ls (.int v :: S))) : WP p e below s n0 k n Q T (mkF m pc Ls (S)) := by
  obtain ⟨⟨hx, hZ, hby, hml, hown, hnm, hret, hlk, h00⟩, hT, locs, X, N⟩ := X
  subst hp hv
  exact w.step fun t kk => XS.bipush X.here hx rfl (hb hby hd) kk
theorem w_sipush (X : St p l e R s m args below meth c Z n0 y code maxL ret T h cells slots) {i : Int} {v : Int32} (hd : decode code pc = .ok (.sipush i, 3)) (hv : (Int16.ofInt i).toInt32 = v) (hp : pc' = pc + 3) (w : WP p e below s n0 k n Q T (mkF m pc' Ls (.int v :: S))) : WP p e below s n0 k n Q T (mkF m pc Ls (S)) := by
  obtain ⟨⟨hx, hZ, hby, hml, hown, hnm, hret, hlk, h00⟩, hT, locs, X, N⟩ := X
  subst hp hv
  exact w.step fun t kk => XS.sipush X.here hx rfl (hb hby hd) kk
theorem w_lconst (X : St p l e R s m args below meth c Z n0 y code maxL ret T h cells slots) {i : Fin 2} {v : Int64} (hd : decode code pc = .ok (.lconst i, 1)) (hv : Int64.ofNat i = v) (hp : pc' = pc + 1) (w : WP p e below s n0 k n Q T (mkF m pc' Ls (.long v :: S))) : WP p e below s n0 k n Q T (mkF m pc Ls (S)) := by
  obtain ⟨⟨hx, hZ, hby, hml, hown, hnm, hret, hlk, h00⟩, hT, locs, X, N⟩ := X
  subst hp hv
  exact w.step fun t kk => XS.lconst X.here hx rfl (hb hby hd) kk
theorem w_aconst_null (X : St p l e R s m args below meth c Z n0 y code maxL ret T h cells slots)  (hd : decode code pc = .ok (.aconst_null, 1)) (hp : pc' = pc + 1) (w : WP p e below s n0 k n Q T (mkF m pc' Ls (.null :: S))) : WP p e below s n0 k n Q T (mkF m pc Ls (S)) := by
  obtain ⟨⟨hx, hZ, hby, hml, hown, hnm, hret, hlk, h00⟩, hT, locs, X, N⟩ := X
  subst hp
  exact w.step fun t kk => XS.aconstNull X.here hx rfl (hb hby hd) kk
theorem w_ldcI (X : St p l e R s m args below meth c Z n0 y code maxL ret T h cells slots) {i : Nat} {v : Int32} (hd : decode code pc = .ok (.ldc i, 2)) (wc : (Jvm.Cond.constant y.cls i v).before a0 Z = true) (hp : pc' = pc + 2) (w : WP p e below s n0 k n Q T (mkF m pc' Ls (.int v :: S))) : WP p e below s n0 k n Q T (mkF m pc Ls (S)) := by
  obtain ⟨⟨hx, hZ, hby, hml, hown, hnm, hret, hlk, h00⟩, hT, locs, X, N⟩ := X
  subst hp
  exact w.step fun t kk => X.ldcInt hx hown (mvT (d := Jvm.Cond.constant y.cls i v) hZ wc) (g := mkF m pc Ls S) rfl (hb hby hd) t kk
theorem w_ldcWI (X : St p l e R s m args below meth c Z n0 y code maxL ret T h cells slots) {i : Nat} {v : Int32} (hd : decode code pc = .ok (.ldc_w i, 3)) (wc : (Jvm.Cond.constant y.cls i v).before a0 Z = true) (hp : pc' = pc + 3) (w : WP p e below s n0 k n Q T (mkF m pc' Ls (.int v :: S))) : WP p e below s n0 k n Q T (mkF m pc Ls (S)) := by
  obtain ⟨⟨hx, hZ, hby, hml, hown, hnm, hret, hlk, h00⟩, hT, locs, X, N⟩ := X
  subst hp
  exact w.step fun t kk => X.ldcwInt hx hown (mvT (d := Jvm.Cond.constant y.cls i v) hZ wc) (g := mkF m pc Ls S) rfl (hb hby hd) t kk
theorem w_ldcJ (X : St p l e R s m args below meth c Z n0 y code maxL ret T h cells slots) {i : Nat} {v : Int64} (hd : decode code pc = .ok (.ldc2_w i, 3)) (wc : (Jvm.Cond.constantLong y.cls i v).before a0 Z = true) (hp : pc' = pc + 3) (w : WP p e below s n0 k n Q T (mkF m pc' Ls (.long v :: S))) : WP p e below s n0 k n Q T (mkF m pc Ls (S)) := by
  obtain ⟨⟨hx, hZ, hby, hml, hown, hnm, hret, hlk, h00⟩, hT, locs, X, N⟩ := X
  subst hp
  exact w.step fun t kk => X.ldc2Long hx hown (mvT (d := Jvm.Cond.constantLong y.cls i v) hZ wc) (g := mkF m pc Ls S) rfl (hb hby hd) t kk
theorem w_iadd (X : St p l e R s m args below meth c Z n0 y code maxL ret T h cells slots) {x z : Int32} (hd : decode code pc = .ok (.iadd, 1)) (hp : pc' = pc + 1) (w : WP p e below s n0 k n Q T (mkF m pc' Ls (.int (x + z) :: S))) : WP p e below s n0 k n Q T (mkF m pc Ls (.int z :: .int x :: S)) := by
  obtain ⟨⟨hx, hZ, hby, hml, hown, hnm, hret, hlk, h00⟩, hT, locs, X, N⟩ := X
  subst hp
  exact w.step fun t kk => XS.iadd X.here hx rfl (hb hby hd) rfl kk
theorem w_ladd (X : St p l e R s m args below meth c Z n0 y code maxL ret T h cells slots) {x z : Int64} (hd : decode code pc = .ok (.ladd, 1)) (hp : pc' = pc + 1) (w : WP p e below s n0 k n Q T (mkF m pc' Ls (.long (x + z) :: S))) : WP p e below s n0 k n Q T (mkF m pc Ls (.long z :: .long x :: S)) := by
  obtain ⟨⟨hx, hZ, hby, hml, hown, hnm, hret, hlk, h00⟩, hT, locs, X, N⟩ := X
  subst hp
  exact w.step fun t kk => XS.ladd X.here hx rfl (hb hby hd) rfl kk
theorem w_isub (X : St p l e R s m args below meth c Z n0 y code maxL ret T h cells slots) {x z : Int32} (hd : decode code pc = .ok (.isub, 1)) (hp : pc' = pc + 1) (w : WP p e below s n0 k n Q T (mkF m pc' Ls (.int (x - z) :: S))) : WP p e below s n0 k n Q T (mkF m pc Ls (.int z :: .int x :: S)) := by
  obtain ⟨⟨hx, hZ, hby, hml, hown, hnm, hret, hlk, h00⟩, hT, locs, X, N⟩ := X
  subst hp
  exact w.step fun t kk => XS.isub X.here hx rfl (hb hby hd) rfl kk
theorem w_lsub (X : St p l e R s m args below meth c Z n0 y code maxL ret T h cells slots) {x z : Int64} (hd : decode code pc = .ok (.lsub, 1)) (hp : pc' = pc + 1) (w : WP p e below s n0 k n Q T (mkF m pc' Ls (.long (x - z) :: S))) : WP p e below s n0 k n Q T (mkF m pc Ls (.long z :: .long x :: S)) := by
  obtain ⟨⟨hx, hZ, hby, hml, hown, hnm, hret, hlk, h00⟩, hT, locs, X, N⟩ := X
  subst hp
  exact w.step fun t kk => XS.lsub X.here hx rfl (hb hby hd) rfl kk
theorem w_imul (X : St p l e R s m args below meth c Z n0 y code maxL ret T h cells slots) {x z : Int32} (hd : decode code pc = .ok (.imul, 1)) (hp : pc' = pc + 1) (w : WP p e below s n0 k n Q T (mkF m pc' Ls (.int (x * z) :: S))) : WP p e below s n0 k n Q T (mkF m pc Ls (.int z :: .int x :: S)) := by
  obtain ⟨⟨hx, hZ, hby, hml, hown, hnm, hret, hlk, h00⟩, hT, locs, X, N⟩ := X
  subst hp
  exact w.step fun t kk => XS.imul X.here hx rfl (hb hby hd) rfl kk
theorem w_lmul (X : St p l e R s m args below meth c Z n0 y code maxL ret T h cells slots) {x z : Int64} (hd : decode code pc = .ok (.lmul, 1)) (hp : pc' = pc + 1) (w : WP p e below s n0 k n Q T (mkF m pc' Ls (.long (x * z) :: S))) : WP p e below s n0 k n Q T (mkF m pc Ls (.long z :: .long x :: S)) := by
  obtain ⟨⟨hx, hZ, hby, hml, hown, hnm, hret, hlk, h00⟩, hT, locs, X, N⟩ := X
  subst hp
  exact w.step fun t kk => XS.lmul X.here hx rfl (hb hby hd) rfl kk
theorem w_iand (X : St p l e R s m args below meth c Z n0 y code maxL ret T h cells slots) {x z : Int32} (hd : decode code pc = .ok (.iand, 1)) (hp : pc' = pc + 1) (w : WP p e below s n0 k n Q T (mkF m pc' Ls (.int (x &&& z) :: S))) : WP p e below s n0 k n Q T (mkF m pc Ls (.int z :: .int x :: S)) := by
  obtain ⟨⟨hx, hZ, hby, hml, hown, hnm, hret, hlk, h00⟩, hT, locs, X, N⟩ := X
  subst hp
  exact w.step fun t kk => XS.iand X.here hx rfl (hb hby hd) rfl kk
theorem w_land (X : St p l e R s m args below meth c Z n0 y code maxL ret T h cells slots) {x z : Int64} (hd : decode code pc = .ok (.land, 1)) (hp : pc' = pc + 1) (w : WP p e below s n0 k n Q T (mkF m pc' Ls (.long (x &&& z) :: S))) : WP p e below s n0 k n Q T (mkF m pc Ls (.long z :: .long x :: S)) := by
  obtain ⟨⟨hx, hZ, hby, hml, hown, hnm, hret, hlk, h00⟩, hT, locs, X, N⟩ := X
  subst hp
  exact w.step fun t kk => XS.land X.here hx rfl (hb hby hd) rfl kk
theorem w_ior (X : St p l e R s m args below meth c Z n0 y code maxL ret T h cells slots) {x z : Int32} (hd : decode code pc = .ok (.ior, 1)) (hp : pc' = pc + 1) (w : WP p e below s n0 k n Q T (mkF m pc' Ls (.int (x ||| z) :: S))) : WP p e below s n0 k n Q T (mkF m pc Ls (.int z :: .int x :: S)) := by
  obtain ⟨⟨hx, hZ, hby, hml, hown, hnm, hret, hlk, h00⟩, hT, locs, X, N⟩ := X
  subst hp
  exact w.step fun t kk => XS.ior X.here hx rfl (hb hby hd) rfl kk
theorem w_lor (X : St p l e R s m args below meth c Z n0 y code maxL ret T h cells slots) {x z : Int64} (hd : decode code pc = .ok (.lor, 1)) (hp : pc' = pc + 1) (w : WP p e below s n0 k n Q T (mkF m pc' Ls (.long (x ||| z) :: S))) : WP p e below s n0 k n Q T (mkF m pc Ls (.long z :: .long x :: S)) := by
  obtain ⟨⟨hx, hZ, hby, hml, hown, hnm, hret, hlk, h00⟩, hT, locs, X, N⟩ := X
  subst hp
  exact w.step fun t kk => XS.lor X.here hx rfl (hb hby hd) rfl kk
theorem w_ixor (X : St p l e R s m args below meth c Z n0 y code maxL ret T h cells slots) {x z : Int32} (hd : decode code pc = .ok (.ixor, 1)) (hp : pc' = pc + 1) (w : WP p e below s n0 k n Q T (mkF m pc' Ls (.int (x ^^^ z) :: S))) : WP p e below s n0 k n Q T (mkF m pc Ls (.int z :: .int x :: S)) := by
  obtain ⟨⟨hx, hZ, hby, hml, hown, hnm, hret, hlk, h00⟩, hT, locs, X, N⟩ := X
  subst hp
  exact w.step fun t kk => XS.ixor X.here hx rfl (hb hby hd) rfl kk
theorem w_lxor (X : St p l e R s m args below meth c Z n0 y code maxL ret T h cells slots) {x z : Int64} (hd : decode code pc = .ok (.lxor, 1)) (hp : pc' = pc + 1) (w : WP p e below s n0 k n Q T (mkF m pc' Ls (.long (x ^^^ z) :: S))) : WP p e below s n0 k n Q T (mkF m pc Ls (.long z :: .long x :: S)) := by
  obtain ⟨⟨hx, hZ, hby, hml, hown, hnm, hret, hlk, h00⟩, hT, locs, X, N⟩ := X
  subst hp
  exact w.step fun t kk => XS.lxor X.here hx rfl (hb hby hd) rfl kk
theorem w_ineg (X : St p l e R s m args below meth c Z n0 y code maxL ret T h cells slots) {x : Int32} (hd : decode code pc = .ok (.ineg, 1)) (hp : pc' = pc + 1) (w : WP p e below s n0 k n Q T (mkF m pc' Ls (.int (-x) :: S))) : WP p e below s n0 k n Q T (mkF m pc Ls (.int x :: S)) := by
  obtain ⟨⟨hx, hZ, hby, hml, hown, hnm, hret, hlk, h00⟩, hT, locs, X, N⟩ := X
  subst hp
  exact w.step fun t kk => XS.ineg X.here hx rfl (hb hby hd) rfl kk
theorem w_lneg (X : St p l e R s m args below meth c Z n0 y code maxL ret T h cells slots) {x : Int64} (hd : decode code pc = .ok (.lneg, 1)) (hp : pc' = pc + 1) (w : WP p e below s n0 k n Q T (mkF m pc' Ls (.long (-x) :: S))) : WP p e below s n0 k n Q T (mkF m pc Ls (.long x :: S)) := by
  obtain ⟨⟨hx, hZ, hby, hml, hown, hnm, hret, hlk, h00⟩, hT, locs, X, N⟩ := X
  subst hp
  exact w.step fun t kk => XS.lneg X.here hx rfl (hb hby hd) rfl kk
theorem w_idiv (X : St p l e R s m args below meth c Z n0 y code maxL ret T h cells slots) {x z : Int32} (hd : decode code pc = .ok (.idiv, 1)) (hz : z ≠ 0) (hp : pc' = pc + 1) (w : WP p e below s n0 k n Q T (mkF m pc' Ls (.int (x / z) :: S))) : WP p e below s n0 k n Q T (mkF m pc Ls (.int z :: .int x :: S)) := by
  obtain ⟨⟨hx, hZ, hby, hml, hown, hnm, hret, hlk, h00⟩, hT, locs, X, N⟩ := X
  subst hp
  exact w.step fun t kk => XS.idiv X.here hx rfl (hb hby hd) rfl hz kk
theorem w_irem (X : St p l e R s m args below meth c Z n0 y code maxL ret T h cells slots) {x z : Int32} (hd : decode code pc = .ok (.irem, 1)) (hz : z ≠ 0) (hp : pc' = pc + 1) (w : WP p e below s n0 k n Q T (mkF m pc' Ls (.int (x % z) :: S))) : WP p e below s n0 k n Q T (mkF m pc Ls (.int z :: .int x :: S)) := by
  obtain ⟨⟨hx, hZ, hby, hml, hown, hnm, hret, hlk, h00⟩, hT, locs, X, N⟩ := X
  subst hp
  exact w.step fun t kk => iremM X hx rfl (hb hby hd) rfl hz kk
theorem w_ldiv (X : St p l e R s m args below meth c Z n0 y code maxL ret T h cells slots) {x z : Int64} (hd : decode code pc = .ok (.ldiv, 1)) (hz : z ≠ 0) (hp : pc' = pc + 1) (w : WP p e below s n0 k n Q T (mkF m pc' Ls (.long (x / z) :: S))) : WP p e below s n0 k n Q T (mkF m pc Ls (.long z :: .long x :: S)) := by
  obtain ⟨⟨hx, hZ, hby, hml, hown, hnm, hret, hlk, h00⟩, hT, locs, X, N⟩ := X
  subst hp
  exact w.step fun t kk => XS.ldiv X.here hx rfl (hb hby hd) rfl hz kk
theorem w_lrem (X : St p l e R s m args below meth c Z n0 y code maxL ret T h cells slots) {x z : Int64} (hd : decode code pc = .ok (.lrem, 1)) (hz : z ≠ 0) (hp : pc' = pc + 1) (w : WP p e below s n0 k n Q T (mkF m pc' Ls (.long (x % z) :: S))) : WP p e below s n0 k n Q T (mkF m pc Ls (.long z :: .long x :: S)) := by
  obtain ⟨⟨hx, hZ, hby, hml, hown, hnm, hret, hlk, h00⟩, hT, locs, X, N⟩ := X
  subst hp
  exact w.step fun t kk => XS.lrem X.here hx rfl (hb hby hd) rfl hz (by rw [lrem_mod]; exact kk)
theorem w_ishl (X : St p l e R s m args below meth c Z n0 y code maxL ret T h cells slots) {x z : Int32} (hd : decode code pc = .ok (.ishl, 1)) (hp : pc' = pc + 1) (w : WP p e below s n0 k n Q T (mkF m pc' Ls (.int (x <<< (z &&& 31)) :: S))) : WP p e below s n0 k n Q T (mkF m pc Ls (.int z :: .int x :: S)) := by
  obtain ⟨⟨hx, hZ, hby, hml, hown, hnm, hret, hlk, h00⟩, hT, locs, X, N⟩ := X
  subst hp
  exact w.step fun t kk => XS.ishl X.here hx rfl (hb hby hd) rfl kk
theorem w_ishr (X : St p l e R s m args below meth c Z n0 y code maxL ret T h cells slots) {x z : Int32} (hd : decode code pc = .ok (.ishr, 1)) (hp : pc' = pc + 1) (w : WP p e below s n0 k n Q T (mkF m pc' Ls (.int (x >>> (z &&& 31)) :: S))) : WP p e below s n0 k n Q T (mkF m pc Ls (.int z :: .int x :: S)) := by
  obtain ⟨⟨hx, hZ, hby, hml, hown, hnm, hret, hlk, h00⟩, hT, locs, X, N⟩ := X
  subst hp
  exact w.step fun t kk => XS.ishr X.here hx rfl (hb hby hd) rfl kk
theorem w_iushr (X : St p l e R s m args below meth c Z n0 y code maxL ret T h cells slots) {x z : Int32} (hd : decode code pc = .ok (.iushr, 1)) (hp : pc' = pc + 1) (w : WP p e below s n0 k n Q T (mkF m pc' Ls (.int ((x.toUInt32 >>> (z &&& 31).toUInt32).toInt32) :: S))) : WP p e below s n0 k n Q T (mkF m pc Ls (.int z :: .int x :: S)) := by
  obtain ⟨⟨hx, hZ, hby, hml, hown, hnm, hret, hlk, h00⟩, hT, locs, X, N⟩ := X
  subst hp
  exact w.step fun t kk => XS.iushr X.here hx rfl (hb hby hd) rfl kk
theorem w_lshl (X : St p l e R s m args below meth c Z n0 y code maxL ret T h cells slots) {x : Int64} {z : Int32} (hd : decode code pc = .ok (.lshl, 1)) (hp : pc' = pc + 1) (w : WP p e below s n0 k n Q T (mkF m pc' Ls (.long (x <<< (z &&& 0x3f).toInt64) :: S))) : WP p e below s n0 k n Q T (mkF m pc Ls (.int z :: .long x :: S)) := by
  obtain ⟨⟨hx, hZ, hby, hml, hown, hnm, hret, hlk, h00⟩, hT, locs, X, N⟩ := X
  subst hp
  exact w.step fun t kk => XS.lshl X.here hx rfl (hb hby hd) rfl kk
theorem w_lshr (X : St p l e R s m args below meth c Z n0 y code maxL ret T h cells slots) {x : Int64} {z : Int32} (hd : decode code pc = .ok (.lshr, 1)) (hp : pc' = pc + 1) (w : WP p e below s n0 k n Q T (mkF m pc' Ls (.long (x >>> (z &&& 0x3f).toInt64) :: S))) : WP p e below s n0 k n Q T (mkF m pc Ls (.int z :: .long x :: S)) := by
  obtain ⟨⟨hx, hZ, hby, hml, hown, hnm, hret, hlk, h00⟩, hT, locs, X, N⟩ := X
  subst hp
  exact w.step fun t kk => XS.lshr X.here hx rfl (hb hby hd) rfl kk
theorem w_lushr (X : St p l e R s m args below meth c Z n0 y code maxL ret T h cells slots) {x : Int64} {z : Int32} (hd : decode code pc = .ok (.lushr, 1)) (hp : pc' = pc + 1) (w : WP p e below s n0 k n Q T (mkF m pc' Ls (.long ((x.toUInt64 >>> (z &&& 0x3f).toInt64.toUInt64).toInt64) :: S))) : WP p e below s n0 k n Q T (mkF m pc Ls (.int z :: .long x :: S)) := by
  obtain ⟨⟨hx, hZ, hby, hml, hown, hnm, hret, hlk, h00⟩, hT, locs, X, N⟩ := X
  subst hp
  exact w.step fun t kk => XS.lushr X.here hx rfl (hb hby hd) rfl kk
theorem w_i2b (X : St p l e R s m args below meth c Z n0 y code maxL ret T h cells slots) {x : Int32} (hd : decode code pc = .ok (.i2b, 1)) (hp : pc' = pc + 1) (w : WP p e below s n0 k n Q T (mkF m pc' Ls (.int x.toInt8.toInt32 :: S))) : WP p e below s n0 k n Q T (mkF m pc Ls (.int x :: S)) := by
  obtain ⟨⟨hx, hZ, hby, hml, hown, hnm, hret, hlk, h00⟩, hT, locs, X, N⟩ := X
  subst hp
  exact w.step fun t kk => XS.i2b X.here hx rfl (hb hby hd) rfl kk
theorem w_i2c (X : St p l e R s m args below meth c Z n0 y code maxL ret T h cells slots) {x : Int32} (hd : decode code pc = .ok (.i2c, 1)) (hp : pc' = pc + 1) (w : WP p e below s n0 k n Q T (mkF m pc' Ls (.int x.toUInt32.toUInt16.toUInt32.toInt32 :: S))) : WP p e below s n0 k n Q T (mkF m pc Ls (.int x :: S)) := by
  obtain ⟨⟨hx, hZ, hby, hml, hown, hnm, hret, hlk, h00⟩, hT, locs, X, N⟩ := X
  subst hp
  exact w.step fun t kk => XS.i2c X.here hx rfl (hb hby hd) rfl kk
theorem w_i2s (X : St p l e R s m args below meth c Z n0 y code maxL ret T h cells slots) {x : Int32} (hd : decode code pc = .ok (.i2s, 1)) (hp : pc' = pc + 1) (w : WP p e below s n0 k n Q T (mkF m pc' Ls (.int x.toInt16.toInt32 :: S))) : WP p e below s n0 k n Q T (mkF m pc Ls (.int x :: S)) := by
  obtain ⟨⟨hx, hZ, hby, hml, hown, hnm, hret, hlk, h00⟩, hT, locs, X, N⟩ := X
  subst hp
  exact w.step fun t kk => XS.i2s X.here hx rfl (hb hby hd) rfl kk
theorem w_i2l (X : St p l e R s m args below meth c Z n0 y code maxL ret T h cells slots) {x : Int32} (hd : decode code pc = .ok (.i2l, 1)) (hp : pc' = pc + 1) (w : WP p e below s n0 k n Q T (mkF m pc' Ls (.long x.toInt64 :: S))) : WP p e below s n0 k n Q T (mkF m pc Ls (.int x :: S)) := by
  obtain ⟨⟨hx, hZ, hby, hml, hown, hnm, hret, hlk, h00⟩, hT, locs, X, N⟩ := X
  subst hp
  exact w.step fun t kk => XS.i2l X.here hx rfl (hb hby hd) rfl kk
theorem w_l2i (X : St p l e R s m args below meth c Z n0 y code maxL ret T h cells slots) {x : Int64} (hd : decode code pc = .ok (.l2i, 1)) (hp : pc' = pc + 1) (w : WP p e below s n0 k n Q T (mkF m pc' Ls (.int x.toInt32 :: S))) : WP p e below s n0 k n Q T (mkF m pc Ls (.long x :: S)) := by
  obtain ⟨⟨hx, hZ, hby, hml, hown, hnm, hret, hlk, h00⟩, hT, locs, X, N⟩ := X
  subst hp
  exact w.step fun t kk => XS.l2i X.here hx rfl (hb hby hd) rfl kk
theorem w_lcmp (X : St p l e R s m args below meth c Z n0 y code maxL ret T h cells slots) {x z : Int64} (hd : decode code pc = .ok (.lcmp, 1)) (hp : pc' = pc + 1) (w : WP p e below s n0 k n Q T (mkF m pc' Ls (.int (lcmpW x z) :: S))) : WP p e below s n0 k n Q T (mkF m pc Ls (.long z :: .long x :: S)) := by
  obtain ⟨⟨hx, hZ, hby, hml, hown, hnm, hret, hlk, h00⟩, hT, locs, X, N⟩ := X
  subst hp
  exact w.step fun t kk => XS.lcmp X.here hx rfl (hb hby hd) rfl kk
theorem w_dup (X : St p l e R s m args below meth c Z n0 y code maxL ret T h cells slots) {v : Value} (hd : decode code pc = .ok (.dup, 1)) (hv : v.category = 1) (hp : pc' = pc + 1) (w : WP p e below s n0 k n Q T (mkF m pc' Ls (v :: v :: S))) : WP p e below s n0 k n Q T (mkF m pc Ls (v :: S)) := by
  obtain ⟨⟨hx, hZ, hby, hml, hown, hnm, hret, hlk, h00⟩, hT, locs, X, N⟩ := X
  subst hp
  exact w.step fun t kk => XS.dup X.here hx rfl (hb hby hd) rfl hv kk
theorem w_pop (X : St p l e R s m args below meth c Z n0 y code maxL ret T h cells slots) {v : Value} (hd : decode code pc = .ok (.pop, 1)) (hv : v.category = 1) (hp : pc' = pc + 1) (w : WP p e below s n0 k n Q T (mkF m pc' Ls (S))) : WP p e below s n0 k n Q T (mkF m pc Ls (v :: S)) := by
  obtain ⟨⟨hx, hZ, hby, hml, hown, hnm, hret, hlk, h00⟩, hT, locs, X, N⟩ := X
  subst hp
  exact w.step fun t kk => XS.pop X.here hx rfl (hb hby hd) rfl hv kk
theorem w_dup_x1 (X : St p l e R s m args below meth c Z n0 y code maxL ret T h cells slots) {v u : Value} (hd : decode code pc = .ok (.dup_x1, 1)) (hv : v.category = 1) (hu : u.category = 1) (hp : pc' = pc + 1) (w : WP p e below s n0 k n Q T (mkF m pc' Ls (v :: u :: v :: S))) : WP p e below s n0 k n Q T (mkF m pc Ls (v :: u :: S)) := by
  obtain ⟨⟨hx, hZ, hby, hml, hown, hnm, hret, hlk, h00⟩, hT, locs, X, N⟩ := X
  subst hp
  exact w.step fun t kk => XS.dupX1 X.here hx rfl (hb hby hd) rfl hv hu kk
theorem w_dup2 (X : St p l e R s m args below meth c Z n0 y code maxL ret T h cells slots) {j : Int32} {a : Addr} (hd : decode code pc = .ok (.dup2, 1)) (hp : pc' = pc + 1) (w : WP p e below s n0 k n Q T (mkF m pc' Ls (.int j :: .ref a :: .int j :: .ref a :: S))) : WP p e below s n0 k n Q T (mkF m pc Ls (.int j :: .ref a :: S)) := by
  obtain ⟨⟨hx, hZ, hby, hml, hown, hnm, hret, hlk, h00⟩, hT, locs, X, N⟩ := X
  subst hp
  refine w.step fun t kk => ?_
  have hd' := hb hby hd
  jvm_step X.here [X.here.top, hx, hd', Value.category]
  exact kk
theorem w_goto (X : St p l e R s m args below meth c Z n0 y code maxL ret T h cells slots) {o : Int} (hd : decode code pc = .ok (.goto o, 3)) (ho : 0 ≤ (pc : Int) + o) (hp : ((pc : Int) + o).toNat = pc') (w : WP p e below s n0 k n Q T (mkF m pc' Ls S)) : WP p e below s n0 k n Q T (mkF m pc Ls S) := by
  obtain ⟨⟨hx, hZ, hby, hml, hown, hnm, hret, hlk, h00⟩, hT, locs, X, N⟩ := X
  exact w.step fun t kk => XS.goto X.here hx rfl rfl (hb hby hd) ho hp kk
theorem w_icmp_lt (X : St p l e R s m args below meth c Z n0 y code maxL ret T h cells slots) {o : Int} {x z : Int32} {p1 p2 : Nat} (hd : decode code pc = .ok (.if_icmp .lt o, 3)) (ho : 0 ≤ (pc : Int) + o) (h1 : ((pc : Int) + o).toNat = p1) (h2 : p2 = pc + 3) (wt : x < z → WP p e below s n0 k n Q T (mkF m p1 Ls S)) (wf : ¬ x < z → WP p e below s n0 k n Q T (mkF m p2 Ls S)) : WP p e below s n0 k n Q T (mkF m pc Ls (.int z :: .int x :: S)) := by
  obtain ⟨⟨hx, hZ, hby, hml, hown, hnm, hret, hlk, h00⟩, hT, locs, X, N⟩ := X
  subst h2
  by_cases q0 : x < z
  · have q := q0
    exact (wt q).step fun t kk => XS.icmpYes X.here hx rfl rfl (hb hby hd) rfl (tlt q).1 ho h1 kk
  · have q := q0
    exact (wf q).step fun t kk => XS.icmpNo X.here hx rfl (hb hby hd) rfl (flt q).1 kk
theorem w_if_lt (X : St p l e R s m args below meth c Z n0 y code maxL ret T h cells slots) {o : Int} {x : Int32} {p1 p2 : Nat} (hd : decode code pc = .ok (.ifCond .lt o, 3)) (ho : 0 ≤ (pc : Int) + o) (h1 : ((pc : Int) + o).toNat = p1) (h2 : p2 = pc + 3) (wt : x < (0 : Int32) → WP p e below s n0 k n Q T (mkF m p1 Ls S)) (wf : ¬ x < (0 : Int32) → WP p e below s n0 k n Q T (mkF m p2 Ls S)) : WP p e below s n0 k n Q T (mkF m pc Ls (.int x :: S)) := by
  obtain ⟨⟨hx, hZ, hby, hml, hown, hnm, hret, hlk, h00⟩, hT, locs, X, N⟩ := X
  subst h2
  by_cases q0 : x < (0 : Int32)
  · have q := q0
    exact (wt q).step fun t kk => XS.ifYes X.here hx rfl rfl (hb hby hd) rfl ((if0 _ _).trans (tlt q).1) ho h1 kk
  · have q := q0
    exact (wf q).step fun t kk => XS.ifNo X.here hx rfl (hb hby hd) rfl ((if0 _ _).trans (flt q).1) kk
theorem w_lcmp_lt (X : St p l e R s m args below meth c Z n0 y code maxL ret T h cells slots) {o : Int} {x z : Int64} {p0 p1 p2 : Nat} (hd0 : decode code pc = .ok (.lcmp, 1)) (h0 : p0 = pc + 1) (hd : decode code p0 = .ok (.ifCond .lt o, 3)) (ho : 0 ≤ (p0 : Int) + o) (h1 : ((p0 : Int) + o).toNat = p1) (h2 : p2 = p0 + 3) (wt : x < z → WP p e below s n0 k n Q T (mkF m p1 Ls S)) (wf : ¬ x < z → WP p e below s n0 k n Q T (mkF m p2 Ls S)) : WP p e below s n0 k n Q T (mkF m pc Ls (.long z :: .long x :: S)) :=
  w_lcmp X hd0 h0 (w_if_lt X hd ho h1 h2 (fun q => wt ((lw_lt _ _).mp q)) (fun q => wf (fun u => q ((lw_lt _ _).mpr u))))
theorem w_icmp_ge (X : St p l e R s m args below meth c Z n0 y code maxL ret T h cells slots) {o : Int} {x z : Int32} {p1 p2 : Nat} (hd : decode code pc = .ok (.if_icmp .ge o, 3)) (ho : 0 ≤ (pc : Int) + o) (h1 : ((pc : Int) + o).toNat = p1) (h2 : p2 = pc + 3) (wt : ¬ x < z → WP p e below s n0 k n Q T (mkF m p1 Ls S)) (wf : x < z → WP p e below s n0 k n Q T (mkF m p2 Ls S)) : WP p e below s n0 k n Q T (mkF m pc Ls (.int z :: .int x :: S)) := by
  obtain ⟨⟨hx, hZ, hby, hml, hown, hnm, hret, hlk, h00⟩, hT, locs, X, N⟩ := X
  subst h2
  by_cases q0 : x < z
  · have q := q0
    exact (wf q).step fun t kk => XS.icmpNo X.here hx rfl (hb hby hd) rfl (tlt q).2.1 kk
  · have q := q0
    exact (wt q).step fun t kk => XS.icmpYes X.here hx rfl rfl (hb hby hd) rfl (flt q).2.1 ho h1 kk
theorem w_if_ge (X : St p l e R s m args below meth c Z n0 y code maxL ret T h cells slots) {o : Int} {x : Int32} {p1 p2 : Nat} (hd : decode code pc = .ok (.ifCond .ge o, 3)) (ho : 0 ≤ (pc : Int) + o) (h1 : ((pc : Int) + o).toNat = p1) (h2 : p2 = pc + 3) (wt : ¬ x < (0 : Int32) → WP p e below s n0 k n Q T (mkF m p1 Ls S)) (wf : x < (0 : Int32) → WP p e below s n0 k n Q T (mkF m p2 Ls S)) : WP p e below s n0 k n Q T (mkF m pc Ls (.int x :: S)) := by
  obtain ⟨⟨hx, hZ, hby, hml, hown, hnm, hret, hlk, h00⟩, hT, locs, X, N⟩ := X
  subst h2
  by_cases q0 : x < (0 : Int32)
  · have q := q0
    exact (wf q).step fun t kk => XS.ifNo X.here hx rfl (hb hby hd) rfl ((if0 _ _).trans (tlt q).2.1) kk
  · have q := q0
    exact (wt q).step fun t kk => XS.ifYes X.here hx rfl rfl (hb hby hd) rfl ((if0 _ _).trans (flt q).2.1) ho h1 kk
theorem w_lcmp_ge (X : St p l e R s m args below meth c Z n0 y code maxL ret T h cells slots) {o : Int} {x z : Int64} {p0 p1 p2 : Nat} (hd0 : decode code pc = .ok (.lcmp, 1)) (h0 : p0 = pc + 1) (hd : decode code p0 = .ok (.ifCond .ge o, 3)) (ho : 0 ≤ (p0 : Int) + o) (h1 : ((p0 : Int) + o).toNat = p1) (h2 : p2 = p0 + 3) (wt : ¬ x < z → WP p e below s n0 k n Q T (mkF m p1 Ls S)) (wf : x < z → WP p e below s n0 k n Q T (mkF m p2 Ls S)) : WP p e below s n0 k n Q T (mkF m pc Ls (.long z :: .long x :: S)) :=
  w_lcmp X hd0 h0 (w_if_ge X hd ho h1 h2 (fun q => wt (fun u => q ((lw_lt _ _).mpr u))) (fun q => wf ((lw_lt _ _).mp q)))
theorem w_icmp_gt (X : St p l e R s m args below meth c Z n0 y code maxL ret T h cells slots) {o : Int} {x z : Int32} {p1 p2 : Nat} (hd : decode code pc = .ok (.if_icmp .gt o, 3)) (ho : 0 ≤ (pc : Int) + o) (h1 : ((pc : Int) + o).toNat = p1) (h2 : p2 = pc + 3) (wt : z < x → WP p e below s n0 k n Q T (mkF m p1 Ls S)) (wf : ¬ z < x → WP p e below s n0 k n Q T (mkF m p2 Ls S)) : WP p e below s n0 k n Q T (mkF m pc Ls (.int z :: .int x :: S)) := by
  obtain ⟨⟨hx, hZ, hby, hml, hown, hnm, hret, hlk, h00⟩, hT, locs, X, N⟩ := X
  subst h2
  by_cases q0 : z < x
  · have q := q0
    exact (wt q).step fun t kk => XS.icmpYes X.here hx rfl rfl (hb hby hd) rfl (tlt q).2.2.1 ho h1 kk
  · have q := q0
    exact (wf q).step fun t kk => XS.icmpNo X.here hx rfl (hb hby hd) rfl (flt q).2.2.1 kk
theorem w_if_gt (X : St p l e R s m args below meth c Z n0 y code maxL ret T h cells slots) {o : Int} {x : Int32} {p1 p2 : Nat} (hd : decode code pc = .ok (.ifCond .gt o, 3)) (ho : 0 ≤ (pc : Int) + o) (h1 : ((pc : Int) + o).toNat = p1) (h2 : p2 = pc + 3) (wt : (0 : Int32) < x → WP p e below s n0 k n Q T (mkF m p1 Ls S)) (wf : ¬ (0 : Int32) < x → WP p e below s n0 k n Q T (mkF m p2 Ls S)) : WP p e below s n0 k n Q T (mkF m pc Ls (.int x :: S)) := by
  obtain ⟨⟨hx, hZ, hby, hml, hown, hnm, hret, hlk, h00⟩, hT, locs, X, N⟩ := X
  subst h2
  by_cases q0 : (0 : Int32) < x
  · have q := q0
    exact (wt q).step fun t kk => XS.ifYes X.here hx rfl rfl (hb hby hd) rfl ((if0 _ _).trans (tlt q).2.2.1) ho h1 kk
  · have q := q0
    exact (wf q).step fun t kk => XS.ifNo X.here hx rfl (hb hby hd) rfl ((if0 _ _).trans (flt q).2.2.1) kk
theorem w_lcmp_gt (X : St p l e R s m args below meth c Z n0 y code maxL ret T h cells slots) {o : Int} {x z : Int64} {p0 p1 p2 : Nat} (hd0 : decode code pc = .ok (.lcmp, 1)) (h0 : p0 = pc + 1) (hd : decode code p0 = .ok (.ifCond .gt o, 3)) (ho : 0 ≤ (p0 : Int) + o) (h1 : ((p0 : Int) + o).toNat = p1) (h2 : p2 = p0 + 3) (wt : z < x → WP p e below s n0 k n Q T (mkF m p1 Ls S)) (wf : ¬ z < x → WP p e below s n0 k n Q T (mkF m p2 Ls S)) : WP p e below s n0 k n Q T (mkF m pc Ls (.long z :: .long x :: S)) :=
  w_lcmp X hd0 h0 (w_if_gt X hd ho h1 h2 (fun q => wt ((lw_gt _ _).mp q)) (fun q => wf (fun u => q ((lw_gt _ _).mpr u))))
theorem w_icmp_le (X : St p l e R s m args below meth c Z n0 y code maxL ret T h cells slots) {o : Int} {x z : Int32} {p1 p2 : Nat} (hd : decode code pc = .ok (.if_icmp .le o, 3)) (ho : 0 ≤ (pc : Int) + o) (h1 : ((pc : Int) + o).toNat = p1) (h2 : p2 = pc + 3) (wt : ¬ z < x → WP p e below s n0 k n Q T (mkF m p1 Ls S)) (wf : z < x → WP p e below s n0 k n Q T (mkF m p2 Ls S)) : WP p e below s n0 k n Q T (mkF m pc Ls (.int z :: .int x :: S)) := by
  obtain ⟨⟨hx, hZ, hby, hml, hown, hnm, hret, hlk, h00⟩, hT, locs, X, N⟩ := X
  subst h2
  by_cases q0 : z < x
  · have q := q0
    exact (wf q).step fun t kk => XS.icmpNo X.here hx rfl (hb hby hd) rfl (tlt q).2.2.2 kk
  · have q := q0
    exact (wt q).step fun t kk => XS.icmpYes X.here hx rfl rfl (hb hby hd) rfl (flt q).2.2.2 ho h1 kk
theorem w_if_le (X : St p l e R s m args below meth c Z n0 y code maxL ret T h cells slots) {o : Int} {x : Int32} {p1 p2 : Nat} (hd : decode code pc = .ok (.ifCond .le o, 3)) (ho : 0 ≤ (pc : Int) + o) (h1 : ((pc : Int) + o).toNat = p1) (h2 : p2 = pc + 3) (wt : ¬ (0 : Int32) < x → WP p e below s n0 k n Q T (mkF m p1 Ls S)) (wf : (0 : Int32) < x → WP p e below s n0 k n Q T (mkF m p2 Ls S)) : WP p e below s n0 k n Q T (mkF m pc Ls (.int x :: S)) := by
  obtain ⟨⟨hx, hZ, hby, hml, hown, hnm, hret, hlk, h00⟩, hT, locs, X, N⟩ := X
  subst h2
  by_cases q0 : (0 : Int32) < x
  · have q := q0
    exact (wf q).step fun t kk => XS.ifNo X.here hx rfl (hb hby hd) rfl ((if0 _ _).trans (tlt q).2.2.2) kk
  · have q := q0
    exact (wt q).step fun t kk => XS.ifYes X.here hx rfl rfl (hb hby hd) rfl ((if0 _ _).trans (flt q).2.2.2) ho h1 kk
theorem w_lcmp_le (X : St p l e R s m args below meth c Z n0 y code maxL ret T h cells slots) {o : Int} {x z : Int64} {p0 p1 p2 : Nat} (hd0 : decode code pc = .ok (.lcmp, 1)) (h0 : p0 = pc + 1) (hd : decode code p0 = .ok (.ifCond .le o, 3)) (ho : 0 ≤ (p0 : Int) + o) (h1 : ((p0 : Int) + o).toNat = p1) (h2 : p2 = p0 + 3) (wt : ¬ z < x → WP p e below s n0 k n Q T (mkF m p1 Ls S)) (wf : z < x → WP p e below s n0 k n Q T (mkF m p2 Ls S)) : WP p e below s n0 k n Q T (mkF m pc Ls (.long z :: .long x :: S)) :=
  w_lcmp X hd0 h0 (w_if_le X hd ho h1 h2 (fun q => wt (fun u => q ((lw_gt _ _).mpr u))) (fun q => wf ((lw_gt _ _).mp q)))
theorem w_icmp_eq (X : St p l e R s m args below meth c Z n0 y code maxL ret T h cells slots) {o : Int} {x z : Int32} {p1 p2 : Nat} (hd : decode code pc = .ok (.if_icmp .eq o, 3)) (ho : 0 ≤ (pc : Int) + o) (h1 : ((pc : Int) + o).toNat = p1) (h2 : p2 = pc + 3) (wt : x = z → WP p e below s n0 k n Q T (mkF m p1 Ls S)) (wf : ¬ x = z → WP p e below s n0 k n Q T (mkF m p2 Ls S)) : WP p e below s n0 k n Q T (mkF m pc Ls (.int z :: .int x :: S)) := by
  obtain ⟨⟨hx, hZ, hby, hml, hown, hnm, hret, hlk, h00⟩, hT, locs, X, N⟩ := X
  subst h2
  by_cases q0 : x = z
  · have q := q0
    exact (wt q).step fun t kk => XS.icmpYes X.here hx rfl rfl (hb hby hd) rfl (teq q).1 ho h1 kk
  · have q := q0
    exact (wf q).step fun t kk => XS.icmpNo X.here hx rfl (hb hby hd) rfl (feq q).1 kk
theorem w_if_eq (X : St p l e R s m args below meth c Z n0 y code maxL ret T h cells slots) {o : Int} {x : Int32} {p1 p2 : Nat} (hd : decode code pc = .ok (.ifCond .eq o, 3)) (ho : 0 ≤ (pc : Int) + o) (h1 : ((pc : Int) + o).toNat = p1) (h2 : p2 = pc + 3) (wt : x = (0 : Int32) → WP p e below s n0 k n Q T (mkF m p1 Ls S)) (wf : ¬ x = (0 : Int32) → WP p e below s n0 k n Q T (mkF m p2 Ls S)) : WP p e below s n0 k n Q T (mkF m pc Ls (.int x :: S)) := by
  obtain ⟨⟨hx, hZ, hby, hml, hown, hnm, hret, hlk, h00⟩, hT, locs, X, N⟩ := X
  subst h2
  by_cases q0 : x = (0 : Int32)
  · have q := q0
    exact (wt q).step fun t kk => XS.ifYes X.here hx rfl rfl (hb hby hd) rfl ((if0 _ _).trans (teq q).1) ho h1 kk
  · have q := q0
    exact (wf q).step fun t kk => XS.ifNo X.here hx rfl (hb hby hd) rfl ((if0 _ _).trans (feq q).1) kk
theorem w_lcmp_eq (X : St p l e R s m args below meth c Z n0 y code maxL ret T h cells slots) {o : Int} {x z : Int64} {p0 p1 p2 : Nat} (hd0 : decode code pc = .ok (.lcmp, 1)) (h0 : p0 = pc + 1) (hd : decode code p0 = .ok (.ifCond .eq o, 3)) (ho : 0 ≤ (p0 : Int) + o) (h1 : ((p0 : Int) + o).toNat = p1) (h2 : p2 = p0 + 3) (wt : x = z → WP p e below s n0 k n Q T (mkF m p1 Ls S)) (wf : ¬ x = z → WP p e below s n0 k n Q T (mkF m p2 Ls S)) : WP p e below s n0 k n Q T (mkF m pc Ls (.long z :: .long x :: S)) :=
  w_lcmp X hd0 h0 (w_if_eq X hd ho h1 h2 (fun q => wt ((lw_eq _ _).mp q)) (fun q => wf (fun u => q ((lw_eq _ _).mpr u))))
theorem w_icmp_ne (X : St p l e R s m args below meth c Z n0 y code maxL ret T h cells slots) {o : Int} {x z : Int32} {p1 p2 : Nat} (hd : decode code pc = .ok (.if_icmp .ne o, 3)) (ho : 0 ≤ (pc : Int) + o) (h1 : ((pc : Int) + o).toNat = p1) (h2 : p2 = pc + 3) (wt : ¬ x = z → WP p e below s n0 k n Q T (mkF m p1 Ls S)) (wf : x = z → WP p e below s n0 k n Q T (mkF m p2 Ls S)) : WP p e below s n0 k n Q T (mkF m pc Ls (.int z :: .int x :: S)) := by
  obtain ⟨⟨hx, hZ, hby, hml, hown, hnm, hret, hlk, h00⟩, hT, locs, X, N⟩ := X
  subst h2
  by_cases q0 : x = z
  · have q := q0
    exact (wf q).step fun t kk => XS.icmpNo X.here hx rfl (hb hby hd) rfl (teq q).2 kk
  · have q := q0
    exact (wt q).step fun t kk => XS.icmpYes X.here hx rfl rfl (hb hby hd) rfl (feq q).2 ho h1 kk
theorem w_if_ne (X : St p l e R s m args below meth c Z n0 y code maxL ret T h cells slots) {o : Int} {x : Int32} {p1 p2 : Nat} (hd : decode code pc = .ok (.ifCond .ne o, 3)) (ho : 0 ≤ (pc : Int) + o) (h1 : ((pc : Int) + o).toNat = p1) (h2 : p2 = pc + 3) (wt : ¬ x = (0 : Int32) → WP p e below s n0 k n Q T (mkF m p1 Ls S)) (wf : x = (0 : Int32) → WP p e below s n0 k n Q T (mkF m p2 Ls S)) : WP p e below s n0 k n Q T (mkF m pc Ls (.int x :: S)) := by
  obtain ⟨⟨hx, hZ, hby, hml, hown, hnm, hret, hlk, h00⟩, hT, locs, X, N⟩ := X
  subst h2
  by_cases q0 : x = (0 : Int32)
  · have q := q0
    exact (wf q).step fun t kk => XS.ifNo X.here hx rfl (hb hby hd) rfl ((if0 _ _).trans (teq q).2) kk
  · have q := q0
    exact (wt q).step fun t kk => XS.ifYes X.here hx rfl rfl (hb hby hd) rfl ((if0 _ _).trans (feq q).2) ho h1 kk
theorem w_lcmp_ne (X : St p l e R s m args below meth c Z n0 y code maxL ret T h cells slots) {o : Int} {x z : Int64} {p0 p1 p2 : Nat} (hd0 : decode code pc = .ok (.lcmp, 1)) (h0 : p0 = pc + 1) (hd : decode code p0 = .ok (.ifCond .ne o, 3)) (ho : 0 ≤ (p0 : Int) + o) (h1 : ((p0 : Int) + o).toNat = p1) (h2 : p2 = p0 + 3) (wt : ¬ x = z → WP p e below s n0 k n Q T (mkF m p1 Ls S)) (wf : x = z → WP p e below s n0 k n Q T (mkF m p2 Ls S)) : WP p e below s n0 k n Q T (mkF m pc Ls (.long z :: .long x :: S)) :=
  w_lcmp X hd0 h0 (w_if_ne X hd ho h1 h2 (fun q => wt (fun u => q ((lw_eq _ _).mpr u))) (fun q => wf ((lw_eq _ _).mp q)))
theorem w_ifnull_ref (X : St p l e R s m args below meth c Z n0 y code maxL ret T h cells slots) {o : Int} {a : Addr} (hd : decode code pc = .ok (.ifnull o, 3)) (hp : pc' = pc + 3) (w : WP p e below s n0 k n Q T (mkF m pc' Ls S)) : WP p e below s n0 k n Q T (mkF m pc Ls (.ref a :: S)) := by
  obtain ⟨⟨hx, hZ, hby, hml, hown, hnm, hret, hlk, h00⟩, hT, locs, X, N⟩ := X
  subst hp
  exact w.step fun t kk => XS.ifnullNo X.here hx rfl (hb hby hd) rfl kk
theorem w_end (X : St p l e R s m args below meth c Z n0 y code maxL ret T h cells slots) {g : JFrame} {v : Option Value} (hv : ret = none → v = none) (hk : cells ≤ k) (hn : slots ≤ n) (hq : Q v h)
    (st : ∀ (locs : List Loc) (fs : List Frame), p.tables.exec = Jvm.exec → c.code = code → meth.sig.returnType = ret → Stand p l e R s m args below meth c T locs cells slots → (∀ (f : JFrame) (acts : List Action), f.method = m → f.locked = none → f.entered = [] → (doReturn e (T.setTop f) acts v).1 = T.setFrames fs) → Steps p.tables e below (T.setTop g) (T.setFrames fs)) : WP p e below s n0 k n Q T g := by
  obtain ⟨⟨hx, hZ, hby, hml, hown, hnm, hret, hlk, h00⟩, hT, locs, X, N⟩ := X
  obtain ⟨fs, hr, hrun, hended, hW, hsame⟩ := X.leave (v := v) (fun q => hv (hret ▸ q)) hlk
  refine ⟨_, _, st locs fs hx hby hret X hr, hrun, hended, _, _, rfl, ⟨?_, N⟩, ⟨_, rfl⟩, hW, hsame.mono hk hn⟩
  show Q v T.heap
  rw [hT]; exact hq
theorem w_retI (X : St p l e R s m args below meth c Z n0 y code maxL ret T h cells slots) {z : Int32} (hr : ret = some .int) (hd : decode code pc = .ok (.ireturn, 1)) (hk : cells ≤ k) (hn : slots ≤ n) (hq : Q (some (.int z)) h) : WP p e below s n0 k n Q T (mkF m pc Ls (.int z :: S)) :=
  w_end X (v := some (.int z)) (fun q => by rw [hr] at q; cases q) hk hn hq fun locs fs hx hby hret X hl => retOut X hx (hret.trans hr) rfl (Or.inl ⟨rfl, Or.inl rfl, z, rfl⟩) (hb hby hd) hl
theorem w_retJ (X : St p l e R s m args below meth c Z n0 y code maxL ret T h cells slots) {z : Int64} (hr : ret = some .long) (hd : decode code pc = .ok (.lreturn, 1)) (hk : cells ≤ k) (hn : slots ≤ n) (hq : Q (some (.long z)) h) : WP p e below s n0 k n Q T (mkF m pc Ls (.long z :: S)) :=
  w_end X (v := some (.long z)) (fun q => by rw [hr] at q; cases q) hk hn hq fun locs fs hx hby hret X hl => retOut X hx (hret.trans hr) rfl (Or.inr (Or.inl ⟨rfl, rfl, z, rfl⟩)) (hb hby hd) hl
theorem w_retA (X : St p l e R s m args below meth c Z n0 y code maxL ret T h cells slots) {a : Addr} {t : FieldType} (hr : ret = some t) (ht : t.isReference = true) (hnn : narrow t (.ref a) = .ref a) (hd : decode code pc = .ok (.areturn, 1)) (hk : cells ≤ k) (hn : slots ≤ n) (hq : Q (some (.ref a)) h) : WP p e below s n0 k n Q T (mkF m pc Ls (.ref a :: S)) :=
  w_end X (v := some (.ref a)) (fun q => by rw [hr] at q; cases q) hk hn hq fun locs fs hx hby hret X hl => retOut X hx (hret.trans hr) hnn (Or.inr (Or.inr (Or.inr (Or.inr ⟨rfl, ht, rfl⟩)))) (hb hby hd) hl
theorem w_retN (X : St p l e R s m args below meth c Z n0 y code maxL ret T h cells slots) {z z' : Int32} {t : FieldType} (hr : ret = some t) (ht : t = .boolean ∨ t = .byte ∨ t = .char ∨ t = .short) (hd : decode code pc = .ok (.ireturn, 1)) (hz : nar t z = z') (hk : cells ≤ k) (hn : slots ≤ n) (hq : Q (some (.int z')) h) : WP p e below s n0 k n Q T (mkF m pc Ls (.int z :: S)) :=
  w_end X (v := some (.int z')) (fun q => by rw [hr] at q; cases q) hk hn hq fun locs fs hx hby hret X hl => retN X hx (hret.trans hr) ht (hb hby hd) (by rw [hz]; exact hl)
theorem w_retZ (X : St p l e R s m args below meth c Z n0 y code maxL ret T h cells slots) {z : Int32} (hr : ret = some .boolean) (hd : decode code pc = .ok (.ireturn, 1)) (hz : z &&& 1 = z) (hk : cells ≤ k) (hn : slots ≤ n) (hq : Q (some (.int z)) h) : WP p e below s n0 k n Q T (mkF m pc Ls (.int z :: S)) :=
  w_retN X hr (Or.inl rfl) hd hz hk hn hq
theorem w_retV (X : St p l e R s m args below meth c Z n0 y code maxL ret T h cells slots) (hr : ret = none) (hd : decode code pc = .ok (.return_, 1)) (hk : cells ≤ k) (hn : slots ≤ n) (hq : Q none h) : WP p e below s n0 k n Q T (mkF m pc Ls []) :=
  w_end X (v := none) (fun _ => rfl) hk hn hq fun locs fs hx hby hret X hl => X.returnOut hx (hret.trans hr) (hb hby hd) hl
theorem St.of_back (X : St p l e R s m args below meth c Z n0 y code maxL ret T h cells slots) {locs : List Loc} (N : Fr n0 locs) {T' : State} {L' : List Loc} {cells' slots' : Nat} (X' : Stand p l e R s m args below meth c T' (locs ++ L') cells' slots') (N' : Fr n0 L') : St p l e R s m args below meth c Z n0 y code maxL ret T' T'.heap cells' slots' :=
  ⟨X.1, rfl, _, X', N.app N'⟩
theorem w_callS (X : St p l e R s m args below meth c Z n0 y code maxL ret T h cells slots) {z : MethodName} {idx : Nat} {code' : ByteArray} {maxL' : Nat} {ret' : Option FieldType} {rm : Room} (argsL rest : List Value) {Q' : Option Value → Heap → Prop} {ps : List FieldType} {r : Option FieldType} (W : Nat)
    (wl : (Jvm.Cond.methodLink y.cls idx z).before a0 Z = true) (wt : (Jvm.Cond.static z).before a0 Z = true) (wi : (Jvm.Cond.initialized z.cls).before a0 Z = true) (wc : (Jvm.Cond.code z code' maxL' ret').before a0 Z = true)
    (ct : Ct l Z z code' maxL' ret' rm argsL.toArray h n0 Q') (hd : decode code pc = .ok (.invokestatic idx, 3)) (pd : parseMethodDescriptor z.desc = some ⟨ps, r⟩) (hlen : argsL.length = ps.length) (hy : z.cls ≠ "java/lang/invoke/MethodHandle" ∧ z.cls ≠ "java/lang/invoke/VarHandle")
    (hsz : Ls.size = maxL) (hS : S = argsL.reverse ++ rest) (hW : (rest.map fun v => v.category).sum = W) (hfr : rm.frames + 1 ≤ R.frames) (hlo : W + (maxL' + 11) + rm.locals ≤ R.locals) (hc : cells + rm.cells ≤ R.cells) (hs : slots + rm.slots ≤ R.slots) (hp : pc' = pc + 3)
    (w : ∀ T' h' v, St p l e R s m args below meth c Z n0 y code maxL ret T' h' (cells + rm.cells) (slots + rm.slots) → Q' v h' → WP p e below s n0 k n Q T' (mkF m pc' Ls (v.toList ++ rest))) : WP p e below s n0 k n Q T (mkF m pc Ls S) := by
  have X1 := X
  obtain ⟨⟨hx, hZ, hby, hml, hown, hnm, hret, hlk, h00⟩, hT, locs, X, N⟩ := X
  subst hp hS
  obtain ⟨v, _, ⟨T', L', k', n'⟩, -, X', ⟨Lc, hQ, l1, y1, z1⟩, st⟩ := Jvm.LawKit.callS X hx (y := z) hown (mvT hZ wl) (mvT hZ wt) (mvT hZ wi) (mvT hZ wc) hy (backOf (W := W) (Q := fun v h L => Q' v h ∧ Fr n0 L) (ct []) hZ wc wi hfr hlo) (g := mkF m pc Ls (argsL.reverse ++ rest)) rfl (hsz.trans hml.symm) (argsL := argsL) (rest := rest) (lenOf pd hlen) rfl (by show 2 * 0 + _ ≤ _; omega) (hb hby hd) (fun _ _ => ⟨rfl, hT, hc, hs⟩)
  dsimp only [Pt.U, Pt.locs, Pt.cells, Pt.slots] at X' l1 y1 z1 st hQ
  subst l1 y1 z1
  exact (w T' T'.heap v (X1.of_back N X' hQ.2) hQ.1).step fun t kk => st t kk
theorem w_callV (X : St p l e R s m args below meth c Z n0 y code maxL ret T h cells slots) {z : MethodName} {C : String} {idx : Nat} {code' : ByteArray} {maxL' : Nat} {ret' : Option FieldType} {rm : Room} {a : Addr} (argsL rest : List Value) {Q' : Option Value → Heap → Prop} {ps : List FieldType} {r : Option FieldType} (W : Nat)
    (wl : (Jvm.Cond.methodLink y.cls idx z).before a0 Z = true) (wdc : (Jvm.Cond.declares z).before a0 Z = true) (wsel : (Jvm.Cond.selects C z z).before a0 Z = true) (wt : (Jvm.Cond.instanceMethod z).before a0 Z = true) (wi : (Jvm.Cond.initialized z.cls).before a0 Z = true) (wc : (Jvm.Cond.code z code' maxL' ret').before a0 Z = true)
    (E : Exa Z h a C) (ct : Ct l Z z code' maxL' ret' rm (.ref a :: argsL).toArray h n0 Q') (hd : decode code pc = .ok (.invokevirtual idx, 3)) (pd : parseMethodDescriptor z.desc = some ⟨ps, r⟩) (hlen : argsL.length = ps.length) (hy : z.cls ≠ "java/lang/invoke/MethodHandle" ∧ z.cls ≠ "java/lang/invoke/VarHandle")
    (hsz : Ls.size = maxL) (hS : S = argsL.reverse ++ .ref a :: rest) (hW : (rest.map fun v => v.category).sum = W) (hfr : rm.frames + 1 ≤ R.frames) (hlo : W + (maxL' + 11) + rm.locals ≤ R.locals) (hc : cells + rm.cells ≤ R.cells) (hs : slots + rm.slots ≤ R.slots) (hp : pc' = pc + 3)
    (w : ∀ T' h' v, St p l e R s m args below meth c Z n0 y code maxL ret T' h' (cells + rm.cells) (slots + rm.slots) → Q' v h' → WP p e below s n0 k n Q T' (mkF m pc' Ls (v.toList ++ rest))) : WP p e below s n0 k n Q T (mkF m pc Ls S) := by
  have X1 := X
  obtain ⟨⟨hx, hZ, hby, hml, hown, hnm, hret, hlk, h00⟩, hT, locs, X, N⟩ := X
  subst hp hS
  obtain ⟨cq, kq, qa, qb, qc⟩ := isOf hZ hT E
  obtain ⟨v, _, ⟨T', L', k', n'⟩, -, X', ⟨Lc, hQ, l1, y1, z1⟩, st⟩ := X.virtualBack hx (y := z) (z := z) hown (mvT hZ wl) (mvT hZ wdc) (notFace_of_selects (args := #[]) (mvT hZ wsel)) (mvT hZ wsel) (mvT hZ wt) hy (backOf (W := W) (Q := fun v h L => Q' v h ∧ Fr n0 L) (ct []) hZ wc wi hfr hlo) qa qc (g := mkF m pc Ls (argsL.reverse ++ .ref a :: rest)) rfl (hsz.trans hml.symm) (Steps.refl _) (argsL := argsL) (rest := rest) (lenOf pd hlen) rfl (by show 2 * 0 + _ ≤ _; omega) (hb hby hd) (fun _ _ => ⟨rfl, hT, hc, hs⟩)
  dsimp only [Pt.U, Pt.locs, Pt.cells, Pt.slots] at X' l1 y1 z1 st hQ
  subst l1 y1 z1
  exact (w T' T'.heap v (X1.of_back N X' hQ.2) hQ.1).trans st
theorem w_callC (X : St p l e R s m args below meth c Z n0 y code maxL ret T h cells slots) {z : MethodName} {idx : Nat} {code' : ByteArray} {maxL' : Nat} {rm : Room} {a : Addr} (argsL rest : List Value) {Q' : Option Value → Heap → Prop} {ps : List FieldType} {r : Option FieldType} (W : Nat)
    (hi : z.name = "<init>") (wl : (Jvm.Cond.methodLink y.cls idx z).before a0 Z = true) (wt : (Jvm.Cond.instanceMethod z).before a0 Z = true) (wi : (Jvm.Cond.initialized z.cls).before a0 Z = true) (wc : (Jvm.Cond.code z code' maxL' none).before a0 Z = true)
    (ct : Ct l Z z code' maxL' none rm (.ref a :: argsL).toArray h n0 Q') (hd : decode code pc = .ok (.invokespecial idx, 3)) (pd : parseMethodDescriptor z.desc = some ⟨ps, r⟩) (hlen : argsL.length = ps.length) (hy : z.cls ≠ "java/lang/invoke/MethodHandle" ∧ z.cls ≠ "java/lang/invoke/VarHandle")
    (hsz : Ls.size = maxL) (hS : S = argsL.reverse ++ .ref a :: rest) (hW : (rest.map fun v => v.category).sum = W) (hfr : rm.frames + 1 ≤ R.frames) (hlo : W + (maxL' + 11) + rm.locals ≤ R.locals) (hc : cells + rm.cells ≤ R.cells) (hs : slots + rm.slots ≤ R.slots) (hp : pc' = pc + 3)
    (w : ∀ T' h' v, St p l e R s m args below meth c Z n0 y code maxL ret T' h' (cells + rm.cells) (slots + rm.slots) → Q' v h' → WP p e below s n0 k n Q T' (mkF m pc' Ls (v.toList ++ rest))) : WP p e below s n0 k n Q T (mkF m pc Ls S) := by
  have X1 := X
  obtain ⟨⟨hx, hZ, hby, hml, hown, hnm, hret, hlk, h00⟩, hT, locs, X, N⟩ := X
  subst hp hS
  obtain ⟨v, _, ⟨T', L', k', n'⟩, -, X', ⟨Lc, hQ, l1, y1, z1⟩, st⟩ := X.specialBack hx (y := z) hi hown (mvT hZ wl) (mvT hZ wt) (mvT hZ wc) hy (backOf (W := W) (Q := fun v h L => Q' v h ∧ Fr n0 L) (ct []) hZ wc wi hfr hlo) (g := mkF m pc Ls (argsL.reverse ++ .ref a :: rest)) rfl (hsz.trans hml.symm) (Steps.refl _) (a := a) (argsL := argsL) (rest := rest) (lenOf pd hlen) rfl (by show 2 * 0 + _ ≤ _; omega) (hb hby hd) (fun _ _ => ⟨rfl, hT, hc, hs⟩)
  dsimp only [Pt.U, Pt.locs, Pt.cells, Pt.slots] at X' l1 y1 z1 st hQ
  subst l1 y1 z1
  exact (w T' T'.heap v (X1.of_back N X' hQ.2) hQ.1).trans st
theorem w_callP (X : St p l e R s m args below meth c Z n0 y code maxL ret T h cells slots) {z z0 : MethodName} {idx : Nat} {code' : ByteArray} {maxL' : Nat} {ret' : Option FieldType} {rm : Room} {a : Addr} (argsL rest : List Value) {Q' : Option Value → Heap → Prop} {ps : List FieldType} {r : Option FieldType} (W : Nat)
    (wl : (Jvm.Cond.methodLink y.cls idx z).before a0 Z = true) (wt : (Jvm.Cond.instanceMethod z).before a0 Z = true) (wp : (Jvm.Cond.privateMethod z).before a0 Z = true) (wsel : (Jvm.Cond.selects z0.cls z0 z0).before a0 Z = true) (h0 : z0.cls = z.cls) (wi : (Jvm.Cond.initialized z.cls).before a0 Z = true) (wc : (Jvm.Cond.code z code' maxL' ret').before a0 Z = true)
    (E : Exa Z h a z.cls) (ct : Ct l Z z code' maxL' ret' rm (.ref a :: argsL).toArray h n0 Q') (hd : decode code pc = .ok (.invokevirtual idx, 3)) (pd : parseMethodDescriptor z.desc = some ⟨ps, r⟩) (hlen : argsL.length = ps.length) (hy : z.cls ≠ "java/lang/invoke/MethodHandle" ∧ z.cls ≠ "java/lang/invoke/VarHandle")
    (hsz : Ls.size = maxL) (hS : S = argsL.reverse ++ .ref a :: rest) (hW : (rest.map fun v => v.category).sum = W) (hfr : rm.frames + 1 ≤ R.frames) (hlo : W + (maxL' + 11) + rm.locals ≤ R.locals) (hc : cells + rm.cells ≤ R.cells) (hs : slots + rm.slots ≤ R.slots) (hp : pc' = pc + 3)
    (w : ∀ T' h' v, St p l e R s m args below meth c Z n0 y code maxL ret T' h' (cells + rm.cells) (slots + rm.slots) → Q' v h' → WP p e below s n0 k n Q T' (mkF m pc' Ls (v.toList ++ rest))) : WP p e below s n0 k n Q T (mkF m pc Ls S) := by
  have X1 := X
  obtain ⟨⟨hx, hZ, hby, hml, hown, hnm, hret, hlk, h00⟩, hT, locs, X, N⟩ := X
  subst hp hS
  obtain ⟨cq, q, q'⟩ := E.cell
  obtain ⟨c2, r2, m2, e1, e2, e3, e4, kP, hkP, hkPi⟩ := Cond.selects_spec (mvT (args := args) hZ wsel)
  have e5 : s.vm.findClass z.cls = some m2.cls := h0 ▸ findClass_of_methodNamed e3
  have hpr : s.PrivateAt z := Cond.privateMethod_at (mvP hZ wp (args := args))
  have hsel : (Jvm.Cond.selects z.cls z z).before args s = true := selects_self_of_private e5 hkP hkPi hpr (mvT hZ wt) hy
  obtain ⟨v, _, ⟨T', L', k', n'⟩, -, X', ⟨Lc, hQ, l1, y1, z1⟩, st⟩ := X.privateBack hx (y := z) hown (mvT hZ wl) (mvT hZ wt) hsel hpr (mvT hZ wc) hy (backOf (W := W) (Q := fun v h L => Q' v h ∧ Fr n0 L) (ct []) hZ wc wi hfr hlo) (g := mkF m pc Ls (argsL.reverse ++ .ref a :: rest)) rfl (hsz.trans hml.symm) (Steps.refl _) (a := a) (by rw [hT]; exact q) q' (argsL := argsL) (rest := rest) (lenOf pd hlen) rfl (by show 2 * 0 + _ ≤ _; omega) (hb hby hd) (fun _ _ => ⟨rfl, hT, hc, hs⟩)
  dsimp only [Pt.U, Pt.locs, Pt.cells, Pt.slots] at X' l1 y1 z1 st hQ
  subst l1 y1 z1
  exact (w T' T'.heap v (X1.of_back N X' hQ.2) hQ.1).trans st
theorem w_initO (X : St p l e R s m args below meth c Z n0 y code maxL ret T h cells slots) {idx : Nat} {a : Addr} {W : Nat} (w1 : (Jvm.Cond.methodLink y.cls idx Lib.objectInit).before a0 Z = true) (w2 : (Jvm.Cond.instanceMethod Lib.objectInit).before a0 Z = true) (w3 : (Jvm.Cond.code Lib.objectInit ⟨#[0xb1]⟩ 1 none).before a0 Z = true)
    (hd : decode code pc = .ok (.invokespecial idx, 3)) (hsz : Ls.size = maxL) (hf : 1 ≤ R.frames) (hW : (S.map fun v => v.category).sum = W) (hl : W + 12 ≤ R.locals) (hp : pc' = pc + 3)
    (w : ∀ T', St p l e R s m args below meth c Z n0 y code maxL ret T' h cells slots → WP p e below s n0 k n Q T' (mkF m pc' Ls S)) : WP p e below s n0 k n Q T (mkF m pc Ls (.ref a :: S)) := by
  have X1 := X
  obtain ⟨⟨hx, hZ, hby, hml, hown, hnm, hret, hlk, h00⟩, hT, locs, X, N⟩ := X
  subst hp
  obtain ⟨T', X', e', st⟩ := initO X hx hZ hown w1 w2 w3 hT (g := mkF m pc Ls (.ref a :: S)) rfl (hsz.trans hml.symm) rfl (hb hby hd) hf (W := W) (by show 2 * 0 + _ ≤ _; omega) hl
  exact (w T' ⟨X1.1, e', locs, X', N⟩).step st
theorem w_getF (X : St p l e R s m args below meth c Z n0 y code maxL ret T h cells slots) {idx : Nat} {O nm d : String} {a : Addr} {v : Value} (wl : (Jvm.Cond.fieldLink y.cls idx O nm d).before a0 Z = true) (F : Fld Z h a O nm d v) (hd : decode code pc = .ok (.getfield idx, 3)) (hp : pc' = pc + 3)
    (w : ∀ T', St p l e R s m args below meth c Z n0 y code maxL ret T' h cells slots → WP p e below s n0 k n Q T' (mkF m pc' Ls (v :: S))) : WP p e below s n0 k n Q T (mkF m pc Ls (.ref a :: S)) := by
  have X1 := X
  obtain ⟨⟨hx, hZ, hby, hml, hown, hnm, hret, hlk, h00⟩, hT, locs, X, N⟩ := X
  subst hp
  obtain ⟨T', X', e', st⟩ := getF X hx hZ hown (host := "") (Or.inl wl) Via.refl hT F (g := mkF m pc Ls (.ref a :: S)) rfl rfl (hb hby hd)
  exact (w T' ⟨X1.1, e', locs, X', N⟩).step st
theorem w_putF (X : St p l e R s m args below meth c Z n0 y code maxL ret T h cells slots) {idx kk : Nat} {O nm d C : String} {ty : FieldType} {a : Addr} {v v' old : Value} (wl : (Jvm.Cond.fieldLink y.cls idx O nm d).before a0 Z = true) (F : Fld Z h a O nm d old) (E : Exa Z h a C) (L : (Jvm.Cond.lays C O nm d).before a0 Z = true ∨ ((Jvm.Cond.laysFinal C O nm d).before a0 Z = true ∧ y.cls = O ∧ y.name = "<init>")) (wi : (Jvm.Cond.instantiable C kk).before a0 Z = true) (ga : n0 ≤ a)
    (hd : decode code pc = .ok (.putfield idx, 3)) (hty : parseFieldDescriptor d = some ty) (hv : narrow ty v = v') (hf : fits ty v' = true) (hp : pc' = pc + 3)
    (w : ∀ T' h', St p l e R s m args below meth c Z n0 y code maxL ret T' h' cells slots → Wr h h' a (Jvm.RoadKit.slotOf Z O nm d) v' → WP p e below s n0 k n Q T' (mkF m pc' Ls S)) : WP p e below s n0 k n Q T (mkF m pc Ls (v :: .ref a :: S)) := by
  have X1 := X
  obtain ⟨⟨hx, hZ, hby, hml, hown, hnm, hret, hlk, h00⟩, hT, locs, X, N⟩ := X
  subst hp
  obtain ⟨T', h', X', e', W', st⟩ := putFN X hx hZ hown wl Via.refl hT F E (L.imp id fun q => ⟨q.1, q.2.1, hnm.trans q.2.2⟩) wi hty hv hf (g := mkF m pc Ls (v :: .ref a :: S)) rfl rfl (hb hby hd)
  exact (w T' h' ⟨X1.1, e', _, X', Fr.snoc X' N ga⟩ W').step st
theorem w_new (X : St p l e R s m args below meth c Z n0 y code maxL ret T h cells slots) {idx nn : Nat} {C : String} (wl : (Jvm.Cond.classLink y.cls idx C).before a0 Z = true) (wi : (Jvm.Cond.instantiable C nn).before a0 Z = true) (wz : (Jvm.Cond.initialized C).before a0 Z = true) (hd : decode code pc = .ok (.new idx, 3)) (hc : cells + 1 ≤ R.cells) (hl : slots + nn ≤ R.slots) (hp : pc' = pc + 3)
    (w : ∀ T' h' a, St p l e R s m args below meth c Z n0 y code maxL ret T' h' (cells + 1) (slots + nn) → a = h.size → n0 ≤ a → Ext h h' → Exa Z h' a C → (∀ {O f d : String} {ty : FieldType}, Laid Z a0 C O f d → parseFieldDescriptor d = some ty → Fld Z h' a O f d (defaultValue ty)) → WP p e below s n0 k n Q T' (mkF m pc' Ls (.ref a :: S))) : WP p e below s n0 k n Q T (mkF m pc Ls S) := by
  have X1 := X
  obtain ⟨⟨hx, hZ, hby, hml, hown, hnm, hret, hlk, h00⟩, hT, locs, X, N⟩ := X
  subst hp
  obtain ⟨T', h', X', e', E', A', D', -, st⟩ := newO X hx hZ hown wl wi wz hT (g := mkF m pc Ls S) rfl (hb hby hd) hc hl
  exact (w T' h' h.size ⟨X1.1, e', _, X', N⟩ rfl X1.n0le E' A' D').step st
theorem w_newarray (X : St p l e R s m args below meth c Z n0 y code maxL ret T h cells slots) {aty : ArrayType} {sz : Int32} (cap : Nat) (wa : (Jvm.Cond.arrayClass (newarray.typeOf aty)).before a0 Z = true) (hd : decode code pc = .ok (.newarray aty, 2)) (hz : ¬ sz < 0) (hcap : sz.toNatClampNeg ≤ cap) (hbig : cap * 8 ≤ 536870912) (hc : cells + 1 ≤ R.cells) (hl : slots + cap ≤ R.slots) (hp : pc' = pc + 2)
    (w : ∀ T' h' a cA, St p l e R s m args below meth c Z n0 y code maxL ret T' h' (cells + 1) (slots + cap) → a = h.size → n0 ≤ a → Ext h h' → Arr Z h' a (newA cA (newarray.typeOf aty) sz) (newarray.typeOf aty) → WP p e below s n0 k n Q T' (mkF m pc' Ls (.ref a :: S))) : WP p e below s n0 k n Q T (mkF m pc Ls (.int sz :: S)) := by
  have X1 := X
  obtain ⟨⟨hx, hZ, hby, hml, hown, hnm, hret, hlk, h00⟩, hT, locs, X, N⟩ := X
  subst hp
  obtain ⟨T', h', cA, X', e', E', A', st⟩ := newP X hx hZ wa hT (g := mkF m pc Ls (.int sz :: S)) rfl (hb hby hd) rfl hz hcap hbig hc hl
  exact (w T' h' h.size cA ⟨X1.1, e', _, X', N⟩ rfl X1.n0le E' A').step st
/-- the array at a: its kind, its length, what stands at each place -/
def AV (Z : State) (h : Heap) (a : Addr) (ty : FieldType) (n : Nat) (f : Nat → Value) : Prop := ∃ c : Cell, Arr Z h a c ty ∧ c.slots.size = n ∧ n < 2 ^ 31 ∧ ∀ i, i < n → c.slots[i]? = some (f i)
theorem AV.ext {a : Addr} {ty : FieldType} {n : Nat} {f : Nat → Value} {h' : Heap} (A : AV Z h a ty n f) (E : Ext h h') : AV Z h' a ty n f := by
  obtain ⟨c, A, r⟩ := A; exact ⟨c, A.ext E, r⟩
theorem AV.keep {a : Addr} {ty : FieldType} {n : Nat} {f : Nat → Value} {h' : Heap} {ws : List Addr} (A : AV Z h a ty n f) (K : Keep h h' ws) (q : a ∉ ws) : AV Z h' a ty n f := by
  obtain ⟨c, A, r⟩ := A; exact ⟨c, ⟨K.2.1 a c A.1 q, A.2⟩, r⟩
theorem AV.lt {a : Addr} {ty : FieldType} {n : Nat} {f : Nat → Value} (A : AV Z h a ty n f) : a < h.size := by
  obtain ⟨c, A, r⟩ := A; exact A.lt
theorem AV.len {a : Addr} {ty : FieldType} {n : Nat} {f : Nat → Value} (A : AV Z h a ty n f) : n < 2 ^ 31 := by
  obtain ⟨c, A, r⟩ := A; exact r.2.1
theorem AV.congr {a : Addr} {ty : FieldType} {n : Nat} {f g : Nat → Value} (A : AV Z h a ty n f) (q : ∀ i, i < n → f i = g i) : AV Z h a ty n g := by
  obtain ⟨c, A, r1, r2, r3⟩ := A; exact ⟨c, A, r1, r2, fun i hi => by rw [← q i hi]; exact r3 i hi⟩
theorem AV.new {a : Addr} {ty : FieldType} {sz : Int32} {cA : ClassId} {n : Nat} (A : Arr Z h a (newA cA ty sz) ty) (hn : sz.toInt = n) : AV Z h a ty n (fun _ => defaultValue ty) := by
  have q1 : sz.toNatClampNeg = n := by simp only [Int32.toNatClampNeg, hn]; omega
  have q2 := Int32.toInt_lt sz
  refine ⟨_, A, by rw [sz_new, q1], by omega, fun i hi => ?_⟩
  simp [newA, q1, hi]
theorem nat_at {j : Int32} {i : Nat} (hi : j.toInt = i) : j.toNatClampNeg = i := by simp only [Int32.toNatClampNeg, hi]; omega
theorem in_at {j : Int32} {i sz n : Nat} (hi : j.toInt = i) (hz : sz = n) (hlt : i < n) : ¬ (j < 0 ∨ sz ≤ j.toNatClampNeg) := by
  rw [nat_at hi, Int32.lt_iff_toInt_lt, hi]; simp only [Int32.reduceToInt]; omega
theorem AV.set {a : Addr} {ty : FieldType} {n i : Nat} {f : Nat → Value} {h' : Heap} {v : Value} (A : AV Z h a ty n f) (W : Wr h h' a i v) : AV Z h' a ty n (fun q => if q = i then v else f q) := by
  obtain ⟨c, A, r1, r2, r3⟩ := A
  obtain ⟨cell, w1, w2, w3, w4⟩ := id W
  have e1 : cell = c := by have := w1.symm.trans A.1; exact Option.some.inj this
  subst e1
  refine ⟨_, A.same W, by rw [sz_set]; exact r1, r2, fun q hq => ?_⟩
  by_cases e : q = i
  · subst e; simp [Cell.setSlot, w3]
  · have e' : ¬ i = q := fun u => e u.symm
    simp only [e, if_false, Cell.setSlot]
    rw [Array.getElem?_setIfInBounds_ne e']; exact r3 q hq
abbrev AI (Z : State) (h : Heap) (a : Addr) (ty : FieldType) (n : Nat) (g : Nat → Int32) : Prop := AV Z h a ty n (fun q => .int (g q))
abbrev AJ (Z : State) (h : Heap) (a : Addr) (n : Nat) (g : Nat → Int64) : Prop := AV Z h a .long n (fun q => .long (g q))
theorem AI.new {a : Addr} {ty : FieldType} {sz : Int32} {cA : ClassId} {n : Nat} (A : Arr Z h a (newA cA ty sz) ty) (hn : sz.toInt = n) (hd : defaultValue ty = .int 0) : AI Z h a ty n (fun _ => 0) := by
  have q := AV.new A hn; rw [hd] at q; exact q
theorem AJ.new {a : Addr} {sz : Int32} {cA : ClassId} {n : Nat} (A : Arr Z h a (newA cA .long sz) .long) (hn : sz.toInt = n) : AJ Z h a n (fun _ => 0) := AV.new A hn
theorem AI.set {a : Addr} {ty : FieldType} {n i : Nat} {g : Nat → Int32} {h' : Heap} {x : Int32} (A : AI Z h a ty n g) (W : Wr h h' a i (.int x)) : AI Z h' a ty n (fun q => if q = i then x else g q) :=
  (AV.set A W).congr fun q _ => by by_cases e : q = i <;> simp [e]
theorem AJ.set {a : Addr} {n i : Nat} {g : Nat → Int64} {h' : Heap} {x : Int64} (A : AJ Z h a n g) (W : Wr h h' a i (.long x)) : AJ Z h' a n (fun q => if q = i then x else g q) :=
  (AV.set A W).congr fun q _ => by by_cases e : q = i <;> simp [e]
theorem AI.congr {a : Addr} {ty : FieldType} {n : Nat} {f g : Nat → Int32} (A : AI Z h a ty n f) (q : ∀ i, i < n → f i = g i) : AI Z h a ty n g := AV.congr A fun i hi => by rw [q i hi]
theorem AJ.congr {a : Addr} {n : Nat} {f g : Nat → Int64} (A : AJ Z h a n f) (q : ∀ i, i < n → f i = g i) : AJ Z h a n g := AV.congr A fun i hi => by rw [q i hi]
theorem w_iaload (X : St p l e R s m args below meth c Z n0 y code maxL ret T h cells slots) {a : Addr} {N : Nat} {g : Nat → Int32} {j : Int32} {i : Nat} {v : Int32} (A : AI Z h a .int N g) (hd : decode code pc = .ok (.iaload, 1)) (hi : j.toInt = i) (hlt : i < N) (hv : g i = v) (hp : pc' = pc + 1) (w : WP p e below s n0 k n Q T (mkF m pc' Ls (.int v :: S))) : WP p e below s n0 k n Q T (mkF m pc Ls (.int j :: .ref a :: S)) := by
  obtain ⟨⟨hx, hZ, hby, hml, hown, hnm, hret, hlk, h00⟩, hT, locs, X, N⟩ := X
  subst hp hv
  obtain ⟨cl, A, r1, r2, r3⟩ := A
  exact w.step fun t kk => X.iaload hx (j := j) (v := .int (g i)) (by rw [hT]; exact A.1) (State.isArrayOf_alike hZ.alike A.2.1) A.2.2 (in_at hi r1 hlt) (by rw [nat_at hi]; exact r3 i hlt) (g := mkF m pc Ls (.int j :: .ref a :: S)) rfl rfl (hb hby hd) t kk
theorem w_laload (X : St p l e R s m args below meth c Z n0 y code maxL ret T h cells slots) {a : Addr} {N : Nat} {g : Nat → Int64} {j : Int32} {i : Nat} {v : Int64} (A : AJ Z h a N g) (hd : decode code pc = .ok (.laload, 1)) (hi : j.toInt = i) (hlt : i < N) (hv : g i = v) (hp : pc' = pc + 1) (w : WP p e below s n0 k n Q T (mkF m pc' Ls (.long v :: S))) : WP p e below s n0 k n Q T (mkF m pc Ls (.int j :: .ref a :: S)) := by
  obtain ⟨⟨hx, hZ, hby, hml, hown, hnm, hret, hlk, h00⟩, hT, locs, X, N⟩ := X
  subst hp hv
  obtain ⟨cl, A, r1, r2, r3⟩ := A
  exact w.step fun t kk => X.laload hx (j := j) (v := .long (g i)) (by rw [hT]; exact A.1) (State.isArrayOf_alike hZ.alike A.2.1) A.2.2 (in_at hi r1 hlt) (by rw [nat_at hi]; exact r3 i hlt) (g := mkF m pc Ls (.int j :: .ref a :: S)) rfl rfl (hb hby hd) t kk
theorem w_caload (X : St p l e R s m args below meth c Z n0 y code maxL ret T h cells slots) {a : Addr} {N : Nat} {g : Nat → Int32} {j : Int32} {i : Nat} {v : Int32} (A : AI Z h a .char N g) (hd : decode code pc = .ok (.caload, 1)) (hi : j.toInt = i) (hlt : i < N) (hv : g i = v) (hp : pc' = pc + 1) (w : WP p e below s n0 k n Q T (mkF m pc' Ls (.int v :: S))) : WP p e below s n0 k n Q T (mkF m pc Ls (.int j :: .ref a :: S)) := by
  obtain ⟨⟨hx, hZ, hby, hml, hown, hnm, hret, hlk, h00⟩, hT, locs, X, N⟩ := X
  subst hp hv
  obtain ⟨cl, A, r1, r2, r3⟩ := A
  exact w.step fun t kk => X.caload hx (j := j) (v := .int (g i)) (by rw [hT]; exact A.1) (State.isArrayOf_alike hZ.alike A.2.1) A.2.2 (in_at hi r1 hlt) (by rw [nat_at hi]; exact r3 i hlt) (g := mkF m pc Ls (.int j :: .ref a :: S)) rfl rfl (hb hby hd) t kk
theorem w_baload (X : St p l e R s m args below meth c Z n0 y code maxL ret T h cells slots) {a : Addr} {N : Nat} {g : Nat → Int32} {j : Int32} {i : Nat} {v : Int32} (A : AI Z h a .byte N g) (hd : decode code pc = .ok (.baload, 1)) (hi : j.toInt = i) (hlt : i < N) (hv : g i = v) (hp : pc' = pc + 1) (w : WP p e below s n0 k n Q T (mkF m pc' Ls (.int v :: S))) : WP p e below s n0 k n Q T (mkF m pc Ls (.int j :: .ref a :: S)) := by
  obtain ⟨⟨hx, hZ, hby, hml, hown, hnm, hret, hlk, h00⟩, hT, locs, X, N⟩ := X
  subst hp hv
  obtain ⟨cl, A, r1, r2, r3⟩ := A
  exact w.step fun t kk => X.baloadBytes hx (j := j) (v := .int (g i)) (by rw [hT]; exact A.1) (State.isArrayOf_alike hZ.alike A.2.1) A.2.2 (in_at hi r1 hlt) (by rw [nat_at hi]; exact r3 i hlt) (g := mkF m pc Ls (.int j :: .ref a :: S)) rfl rfl (hb hby hd) t kk
theorem w_arraylength (X : St p l e R s m args below meth c Z n0 y code maxL ret T h cells slots) {a : Addr} {ty : FieldType} {N : Nat} {f : Nat → Value} {z : Int32} (A : AV Z h a ty N f) (hd : decode code pc = .ok (.arraylength, 1)) (hz : N.toInt32 = z) (hp : pc' = pc + 1) (w : WP p e below s n0 k n Q T (mkF m pc' Ls (.int z :: S))) : WP p e below s n0 k n Q T (mkF m pc Ls (.ref a :: S)) := by
  obtain ⟨⟨hx, hZ, hby, hml, hown, hnm, hret, hlk, h00⟩, hT, locs, X, N⟩ := X
  subst hp hz
  obtain ⟨cl, A, r1, r2, r3⟩ := A
  refine w.step fun t kk => X.arraylength hx (by rw [hT]; exact A.1) (State.isArrayOf_alike hZ.alike A.2.1) (g := mkF m pc Ls (.ref a :: S)) rfl rfl (hb hby hd) t ?_
  rw [r1]; exact kk
theorem w_iastore (X : St p l e R s m args below meth c Z n0 y code maxL ret T h cells slots) {a : Addr} {N : Nat} {g : Nat → Int32} {j : Int32} {i : Nat} {x x' : Int32} (A : AI Z h a .int N g) (ga : n0 ≤ a) (hd : decode code pc = .ok (.iastore, 1)) (hi : j.toInt = i) (hlt : i < N) (hx' : x = x') (hp : pc' = pc + 1) (w : ∀ T' h', St p l e R s m args below meth c Z n0 y code maxL ret T' h' cells slots → Keep h h' [a] → AI Z h' a .int N (fun q => if q = i then x' else g q) → WP p e below s n0 k n Q T' (mkF m pc' Ls S)) : WP p e below s n0 k n Q T (mkF m pc Ls (.int x :: .int j :: .ref a :: S)) := by
  have X1 := X
  have A1 := A
  obtain ⟨⟨hx, hZ, hby, hml, hown, hnm, hret, hlk, h00⟩, hT, locs, X, N⟩ := X
  subst hp hx'
  obtain ⟨cl, A, r1, r2, r3⟩ := A
  obtain ⟨T', h', X', e', W', st⟩ := stI X hx hZ hT A (j := j) (x := x) (in_at hi r1 hlt) (g := mkF m pc Ls (.int x :: .int j :: .ref a :: S)) rfl rfl (hb hby hd)
  have N' := Fr.snoc X' N ga
  rw [nat_at hi] at W'
  exact (w T' h' ⟨X1.1, e', _, X', N'⟩ (Keep.of_wr W') (AI.set A1 W')).step st
theorem w_lastore (X : St p l e R s m args below meth c Z n0 y code maxL ret T h cells slots) {a : Addr} {N : Nat} {g : Nat → Int64} {j : Int32} {i : Nat} {x x' : Int64} (A : AJ Z h a N g) (ga : n0 ≤ a) (hd : decode code pc = .ok (.lastore, 1)) (hi : j.toInt = i) (hlt : i < N) (hx' : x = x') (hp : pc' = pc + 1) (w : ∀ T' h', St p l e R s m args below meth c Z n0 y code maxL ret T' h' cells slots → Keep h h' [a] → AJ Z h' a N (fun q => if q = i then x' else g q) → WP p e below s n0 k n Q T' (mkF m pc' Ls S)) : WP p e below s n0 k n Q T (mkF m pc Ls (.long x :: .int j :: .ref a :: S)) := by
  have X1 := X
  have A1 := A
  obtain ⟨⟨hx, hZ, hby, hml, hown, hnm, hret, hlk, h00⟩, hT, locs, X, N⟩ := X
  subst hp hx'
  obtain ⟨cl, A, r1, r2, r3⟩ := A
  obtain ⟨T', h', X', e', W', st⟩ := stJ X hx hZ hT A (j := j) (x := x) (in_at hi r1 hlt) (g := mkF m pc Ls (.long x :: .int j :: .ref a :: S)) rfl rfl (hb hby hd)
  have N' := Fr.snoc X' N ga
  rw [nat_at hi] at W'
  exact (w T' h' ⟨X1.1, e', _, X', N'⟩ (Keep.of_wr W') (AJ.set A1 W')).step st
theorem w_castore (X : St p l e R s m args below meth c Z n0 y code maxL ret T h cells slots) {a : Addr} {N : Nat} {g : Nat → Int32} {j : Int32} {i : Nat} {x x' : Int32} (A : AI Z h a .char N g) (ga : n0 ≤ a) (hd : decode code pc = .ok (.castore, 1)) (hi : j.toInt = i) (hlt : i < N) (hx' : nar .char x = x') (hp : pc' = pc + 1) (w : ∀ T' h', St p l e R s m args below meth c Z n0 y code maxL ret T' h' cells slots → Keep h h' [a] → AI Z h' a .char N (fun q => if q = i then x' else g q) → WP p e below s n0 k n Q T' (mkF m pc' Ls S)) : WP p e below s n0 k n Q T (mkF m pc Ls (.int x :: .int j :: .ref a :: S)) := by
  have X1 := X
  have A1 := A
  obtain ⟨⟨hx, hZ, hby, hml, hown, hnm, hret, hlk, h00⟩, hT, locs, X, N⟩ := X
  subst hp hx'
  obtain ⟨cl, A, r1, r2, r3⟩ := A
  obtain ⟨T', h', X', e', W', st⟩ := stC X hx hZ hT A (j := j) (x := x) (in_at hi r1 hlt) (g := mkF m pc Ls (.int x :: .int j :: .ref a :: S)) rfl rfl (hb hby hd)
  have N' := Fr.snoc X' N ga
  rw [nat_at hi] at W'
  exact (w T' h' ⟨X1.1, e', _, X', N'⟩ (Keep.of_wr W') (AI.set A1 W')).step st
theorem w_bastore (X : St p l e R s m args below meth c Z n0 y code maxL ret T h cells slots) {a : Addr} {N : Nat} {g : Nat → Int32} {j : Int32} {i : Nat} {x x' : Int32} (A : AI Z h a .byte N g) (ga : n0 ≤ a) (hd : decode code pc = .ok (.bastore, 1)) (hi : j.toInt = i) (hlt : i < N) (hx' : nar .byte x = x') (hp : pc' = pc + 1) (w : ∀ T' h', St p l e R s m args below meth c Z n0 y code maxL ret T' h' cells slots → Keep h h' [a] → AI Z h' a .byte N (fun q => if q = i then x' else g q) → WP p e below s n0 k n Q T' (mkF m pc' Ls S)) : WP p e below s n0 k n Q T (mkF m pc Ls (.int x :: .int j :: .ref a :: S)) := by
  have X1 := X
  have A1 := A
  obtain ⟨⟨hx, hZ, hby, hml, hown, hnm, hret, hlk, h00⟩, hT, locs, X, N⟩ := X
  subst hp hx'
  obtain ⟨cl, A, r1, r2, r3⟩ := A
  obtain ⟨T', h', X', e', W', st⟩ := stB X hx hZ hT A (j := j) (x := x) (in_at hi r1 hlt) (g := mkF m pc Ls (.int x :: .int j :: .ref a :: S)) rfl rfl (hb hby hd)
  have N' := Fr.snoc X' N ga
  rw [nat_at hi] at W'
  exact (w T' h' ⟨X1.1, e', _, X', N'⟩ (Keep.of_wr W') (AI.set A1 W')).step st
end Steps
end Jvm.Own
namespace Jvm.Pilot.@@N@@
open Jvm Jvm.ClassFile Sem Op Lib Jvm.Free Jvm.Stand Jvm.LawKit Jvm.RoadKit Bundle Jvm.Own Jvm.Pilot.@@N@@.Jvm.D
theorem tw0 {a0 : Array Value} {Z : State} (hw : ∀ d ∈ tables_1, d.before a0 Z = true) : (Jvm.Cond.classLink "com/example/weft/weft/net/FetchCountRoundPinLaw" (8 : Nat) "com/example/weft/weft/net/Fetch").before a0 Z = true := hw _ (List.mem_of_getElem? (i := 0) rfl)
theorem tw1 {a0 : Array Value} {Z : State} (hw : ∀ d ∈ tables_1, d.before a0 Z = true) : (Jvm.Cond.instantiable "com/example/weft/weft/net/Fetch" (4 : Nat)).before a0 Z = true := hw _ (List.mem_of_getElem? (i := 1) rfl)
theorem tw2 {a0 : Array Value} {Z : State} (hw : ∀ d ∈ tables_1, d.before a0 Z = true) : (Jvm.Cond.initialized "com/example/weft/weft/net/Fetch").before a0 Z = true := hw _ (List.mem_of_getElem? (i := 2) rfl)
theorem tw3 {a0 : Array Value} {Z : State} (hw : ∀ d ∈ tables_1, d.before a0 Z = true) : (Jvm.Cond.methodLink "com/example/weft/weft/net/FetchCountRoundPinLaw" (16 : Nat) ({ cls := "com/example/weft/weft/net/Fetch", name := "<init>", desc := "(I)V" } : Jvm.MethodName)).before a0 Z = true := hw _ (List.mem_of_getElem? (i := 3) rfl)
theorem tw4 {a0 : Array Value} {Z : State} (hw : ∀ d ∈ tables_1, d.before a0 Z = true) : (Jvm.Cond.instanceMethod ({ cls := "com/example/weft/weft/net/Fetch", name := "<init>", desc := "(I)V" } : Jvm.MethodName)).before a0 Z = true := hw _ (List.mem_of_getElem? (i := 4) rfl)
theorem tw5 {a0 : Array Value} {Z : State} (hw : ∀ d ∈ tables_1, d.before a0 Z = true) : (Jvm.Cond.code ({ cls := "com/example/weft/weft/net/Fetch", name := "<init>", desc := "(I)V" } : Jvm.MethodName) prog_92_method_1_code (2 : Nat) (Option.none : Option Jvm.ClassFile.FieldType)).before a0 Z = true := hw _ (List.mem_of_getElem? (i := 5) rfl)
theorem tw6 {a0 : Array Value} {Z : State} (hw : ∀ d ∈ tables_1, d.before a0 Z = true) : (Jvm.Cond.methodLink "com/example/weft/weft/net/Fetch" (1 : Nat) ({ cls := "java/lang/Object", name := "<init>", desc := "()V" } : Jvm.MethodName)).before a0 Z = true := hw _ (List.mem_of_getElem? (i := 6) rfl)
theorem tw7 {a0 : Array Value} {Z : State} (hw : ∀ d ∈ tables_1, d.before a0 Z = true) : (Jvm.Cond.instanceMethod ({ cls := "java/lang/Object", name := "<init>", desc := "()V" } : Jvm.MethodName)).before a0 Z = true := hw _ (List.mem_of_getElem? (i := 7) rfl)
theorem tw8 {a0 : Array Value} {Z : State} (hw : ∀ d ∈ tables_1, d.before a0 Z = true) : (Jvm.Cond.code ({ cls := "java/lang/Object", name := "<init>", desc := "()V" } : Jvm.MethodName) object_method_1_code (1 : Nat) (Option.none : Option Jvm.ClassFile.FieldType)).before a0 Z = true := hw _ (List.mem_of_getElem? (i := 8) rfl)
theorem tw9 {a0 : Array Value} {Z : State} (hw : ∀ d ∈ tables_1, d.before a0 Z = true) : (Jvm.Cond.fieldLink "com/example/weft/weft/net/Fetch" (7 : Nat) "com/example/weft/weft/net/Fetch" "from" "I").before a0 Z = true := hw _ (List.mem_of_getElem? (i := 9) rfl)
theorem tw10 {a0 : Array Value} {Z : State} (hw : ∀ d ∈ tables_1, d.before a0 Z = true) : (Jvm.Cond.laysFinal "com/example/weft/weft/net/Fetch" "com/example/weft/weft/net/Fetch" "from" "I").before a0 Z = true := hw _ (List.mem_of_getElem? (i := 10) rfl)
theorem tw11 {a0 : Array Value} {Z : State} (hw : ∀ d ∈ tables_1, d.before a0 Z = true) : (Jvm.Cond.methodLink "com/example/weft/weft/net/FetchCountRoundPinLaw" (19 : Nat) ({ cls := "com/example/weft/weft/net/Fetch", name := "from", desc := "()I" } : Jvm.MethodName)).before a0 Z = true := hw _ (List.mem_of_getElem? (i := 11) rfl)
theorem tw12 {a0 : Array Value} {Z : State} (hw : ∀ d ∈ tables_1, d.before a0 Z = true) : (Jvm.Cond.declares ({ cls := "com/example/weft/weft/net/Fetch", name := "from", desc := "()I" } : Jvm.MethodName)).before a0 Z = true := hw _ (List.mem_of_getElem? (i := 12) rfl)
theorem tw13 {a0 : Array Value} {Z : State} (hw : ∀ d ∈ tables_1, d.before a0 Z = true) : (Jvm.Cond.instanceMethod ({ cls := "com/example/weft/weft/net/Fetch", name := "from", desc := "()I" } : Jvm.MethodName)).before a0 Z = true := hw _ (List.mem_of_getElem? (i := 13) rfl)
theorem tw14 {a0 : Array Value} {Z : State} (hw : ∀ d ∈ tables_1, d.before a0 Z = true) : (Jvm.Cond.selects "com/example/weft/weft/net/Fetch" ({ cls := "com/example/weft/weft/net/Fetch", name := "from", desc := "()I" } : Jvm.MethodName) ({ cls := "com/example/weft/weft/net/Fetch", name := "from", desc := "()I" } : Jvm.MethodName)).before a0 Z = true := hw _ (List.mem_of_getElem? (i := 14) rfl)
theorem tw15 {a0 : Array Value} {Z : State} (hw : ∀ d ∈ tables_1, d.before a0 Z = true) : (Jvm.Cond.code ({ cls := "com/example/weft/weft/net/Fetch", name := "from", desc := "()I" } : Jvm.MethodName) prog_92_method_2_code (1 : Nat) (Option.some Jvm.ClassFile.FieldType.int)).before a0 Z = true := hw _ (List.mem_of_getElem? (i := 15) rfl)
theorem tw16 {a0 : Array Value} {Z : State} (hw : ∀ d ∈ tables_1, d.before a0 Z = true) : (Jvm.Cond.methodLink "com/example/weft/weft/net/FetchCountRoundPinLaw" (23 : Nat) ({ cls := "com/example/weft/weft/net/FetchCountRoundPinLaw", name := "call", desc := "(Lcom/example/weft/weft/net/Fetch;II)Z" } : Jvm.MethodName)).before a0 Z = true := hw _ (List.mem_of_getElem? (i := 16) rfl)
theorem tw17 {a0 : Array Value} {Z : State} (hw : ∀ d ∈ tables_1, d.before a0 Z = true) : (Jvm.Cond.static ({ cls := "com/example/weft/weft/net/FetchCountRoundPinLaw", name := "call", desc := "(Lcom/example/weft/weft/net/Fetch;II)Z" } : Jvm.MethodName)).before a0 Z = true := hw _ (List.mem_of_getElem? (i := 17) rfl)
theorem tw18 {a0 : Array Value} {Z : State} (hw : ∀ d ∈ tables_1, d.before a0 Z = true) : (Jvm.Cond.initialized "com/example/weft/weft/net/FetchCountRoundPinLaw").before a0 Z = true := hw _ (List.mem_of_getElem? (i := 18) rfl)
theorem tw19 {a0 : Array Value} {Z : State} (hw : ∀ d ∈ tables_1, d.before a0 Z = true) : (Jvm.Cond.code ({ cls := "com/example/weft/weft/net/FetchCountRoundPinLaw", name := "call", desc := "(Lcom/example/weft/weft/net/Fetch;II)Z" } : Jvm.MethodName) method_2_code (4 : Nat) (Option.some Jvm.ClassFile.FieldType.boolean)).before a0 Z = true := hw _ (List.mem_of_getElem? (i := 19) rfl)
theorem tw20 {a0 : Array Value} {Z : State} (hw : ∀ d ∈ tables_1, d.before a0 Z = true) : (Jvm.Cond.methodLink "com/example/weft/weft/net/FetchCountRoundPinLaw" (12 : Nat) ({ cls := "com/example/weft/weft/net/Fetch", name := "countRound", desc := "()Z" } : Jvm.MethodName)).before a0 Z = true := hw _ (List.mem_of_getElem? (i := 20) rfl)
theorem tw21 {a0 : Array Value} {Z : State} (hw : ∀ d ∈ tables_1, d.before a0 Z = true) : (Jvm.Cond.declares ({ cls := "com/example/weft/weft/net/Fetch", name := "countRound", desc := "()Z" } : Jvm.MethodName)).before a0 Z = true := hw _ (List.mem_of_getElem? (i := 21) rfl)
theorem tw22 {a0 : Array Value} {Z : State} (hw : ∀ d ∈ tables_1, d.before a0 Z = true) : (Jvm.Cond.instanceMethod ({ cls := "com/example/weft/weft/net/Fetch", name := "countRound", desc := "()Z" } : Jvm.MethodName)).before a0 Z = true := hw _ (List.mem_of_getElem? (i := 22) rfl)
theorem tw23 {a0 : Array Value} {Z : State} (hw : ∀ d ∈ tables_1, d.before a0 Z = true) : (Jvm.Cond.selects "com/example/weft/weft/net/Fetch" ({ cls := "com/example/weft/weft/net/Fetch", name := "countRound", desc := "()Z" } : Jvm.MethodName) ({ cls := "com/example/weft/weft/net/Fetch", name := "countRound", desc := "()Z" } : Jvm.MethodName)).before a0 Z = true := hw _ (List.mem_of_getElem? (i := 23) rfl)
theorem tw24 {a0 : Array Value} {Z : State} (hw : ∀ d ∈ tables_1, d.before a0 Z = true) : (Jvm.Cond.code ({ cls := "com/example/weft/weft/net/Fetch", name := "countRound", desc := "()Z" } : Jvm.MethodName) prog_92_method_5_code (1 : Nat) (Option.some Jvm.ClassFile.FieldType.boolean)).before a0 Z = true := hw _ (List.mem_of_getElem? (i := 24) rfl)
theorem tw25 {a0 : Array Value} {Z : State} (hw : ∀ d ∈ tables_1, d.before a0 Z = true) : (Jvm.Cond.fieldLink "com/example/weft/weft/net/Fetch" (17 : Nat) "com/example/weft/weft/net/Fetch" "overdue" "Z").before a0 Z = true := hw _ (List.mem_of_getElem? (i := 25) rfl)
theorem tw26 {a0 : Array Value} {Z : State} (hw : ∀ d ∈ tables_1, d.before a0 Z = true) : (Jvm.Cond.lays "com/example/weft/weft/net/Fetch" "com/example/weft/weft/net/Fetch" "overdue" "Z").before a0 Z = true := hw _ (List.mem_of_getElem? (i := 26) rfl)
theorem tw27 {a0 : Array Value} {Z : State} (hw : ∀ d ∈ tables_1, d.before a0 Z = true) : (Jvm.Cond.fieldLink "com/example/weft/weft/net/Fetch" (20 : Nat) "com/example/weft/weft/net/Fetch" "rounds" "I").before a0 Z = true := hw _ (List.mem_of_getElem? (i := 27) rfl)
theorem tw28 {a0 : Array Value} {Z : State} (hw : ∀ d ∈ tables_1, d.before a0 Z = true) : (Jvm.Cond.lays "com/example/weft/weft/net/Fetch" "com/example/weft/weft/net/Fetch" "rounds" "I").before a0 Z = true := hw _ (List.mem_of_getElem? (i := 28) rfl)
theorem tw29 {a0 : Array Value} {Z : State} (hw : ∀ d ∈ tables_1, d.before a0 Z = true) : (Jvm.Cond.fieldLink "com/example/weft/weft/net/Fetch" (13 : Nat) "com/example/weft/weft/net/Fetch" "answering" "Z").before a0 Z = true := hw _ (List.mem_of_getElem? (i := 29) rfl)
theorem tw30 {a0 : Array Value} {Z : State} (hw : ∀ d ∈ tables_1, d.before a0 Z = true) : (Jvm.Cond.lays "com/example/weft/weft/net/Fetch" "com/example/weft/weft/net/Fetch" "answering" "Z").before a0 Z = true := hw _ (List.mem_of_getElem? (i := 30) rfl)
theorem tw31 {a0 : Array Value} {Z : State} (hw : ∀ d ∈ tables_1, d.before a0 Z = true) : (Jvm.Cond.methodLink "com/example/weft/weft/net/FetchCountRoundPinLaw" (7 : Nat) ({ cls := "com/example/weft/weft/net/Fetch", name := "recordBegun", desc := "()V" } : Jvm.MethodName)).before a0 Z = true := hw _ (List.mem_of_getElem? (i := 31) rfl)
theorem tw32 {a0 : Array Value} {Z : State} (hw : ∀ d ∈ tables_1, d.before a0 Z = true) : (Jvm.Cond.declares ({ cls := "com/example/weft/weft/net/Fetch", name := "recordBegun", desc := "()V" } : Jvm.MethodName)).before a0 Z = true := hw _ (List.mem_of_getElem? (i := 32) rfl)
theorem tw33 {a0 : Array Value} {Z : State} (hw : ∀ d ∈ tables_1, d.before a0 Z = true) : (Jvm.Cond.instanceMethod ({ cls := "com/example/weft/weft/net/Fetch", name := "recordBegun", desc := "()V" } : Jvm.MethodName)).before a0 Z = true := hw _ (List.mem_of_getElem? (i := 33) rfl)
theorem tw34 {a0 : Array Value} {Z : State} (hw : ∀ d ∈ tables_1, d.before a0 Z = true) : (Jvm.Cond.selects "com/example/weft/weft/net/Fetch" ({ cls := "com/example/weft/weft/net/Fetch", name := "recordBegun", desc := "()V" } : Jvm.MethodName) ({ cls := "com/example/weft/weft/net/Fetch", name := "recordBegun", desc := "()V" } : Jvm.MethodName)).before a0 Z = true := hw _ (List.mem_of_getElem? (i := 34) rfl)
theorem tw35 {a0 : Array Value} {Z : State} (hw : ∀ d ∈ tables_1, d.before a0 Z = true) : (Jvm.Cond.code ({ cls := "com/example/weft/weft/net/Fetch", name := "recordBegun", desc := "()V" } : Jvm.MethodName) prog_92_method_3_code (1 : Nat) (Option.none : Option Jvm.ClassFile.FieldType)).before a0 Z = true := hw _ (List.mem_of_getElem? (i := 35) rfl)
theorem tw36 {a0 : Array Value} {Z : State} (hw : ∀ d ∈ tables_1, d.before a0 Z = true) : (Jvm.Cond.methodLink "com/example/weft/weft/net/FetchCountRoundPinLaw" (29 : Nat) ({ cls := "com/example/weft/weft/net/Fetch", name := "setsAside", desc := "()Z" } : Jvm.MethodName)).before a0 Z = true := hw _ (List.mem_of_getElem? (i := 36) rfl)
theorem tw37 {a0 : Array Value} {Z : State} (hw : ∀ d ∈ tables_1, d.before a0 Z = true) : (Jvm.Cond.declares ({ cls := "com/example/weft/weft/net/Fetch", name := "setsAside", desc := "()Z" } : Jvm.MethodName)).before a0 Z = true := hw _ (List.mem_of_getElem? (i := 37) rfl)
theorem tw38 {a0 : Array Value} {Z : State} (hw : ∀ d ∈ tables_1, d.before a0 Z = true) : (Jvm.Cond.instanceMethod ({ cls := "com/example/weft/weft/net/Fetch", name := "setsAside", desc := "()Z" } : Jvm.MethodName)).before a0 Z = true := hw _ (List.mem_of_getElem? (i := 38) rfl)
theorem tw39 {a0 : Array Value} {Z : State} (hw : ∀ d ∈ tables_1, d.before a0 Z = true) : (Jvm.Cond.selects "com/example/weft/weft/net/Fetch" ({ cls := "com/example/weft/weft/net/Fetch", name := "setsAside", desc := "()Z" } : Jvm.MethodName) ({ cls := "com/example/weft/weft/net/Fetch", name := "setsAside", desc := "()Z" } : Jvm.MethodName)).before a0 Z = true := hw _ (List.mem_of_getElem? (i := 39) rfl)
theorem tw40 {a0 : Array Value} {Z : State} (hw : ∀ d ∈ tables_1, d.before a0 Z = true) : (Jvm.Cond.code ({ cls := "com/example/weft/weft/net/Fetch", name := "setsAside", desc := "()Z" } : Jvm.MethodName) prog_92_method_4_code (1 : Nat) (Option.some Jvm.ClassFile.FieldType.boolean)).before a0 Z = true := hw _ (List.mem_of_getElem? (i := 40) rfl)
theorem d1_0 : decode prog_92_method_1_code 0 = .ok (.aload_n 0, 1) := by decide +kernel
theorem d1_1 : decode prog_92_method_1_code 1 = .ok (.invokespecial 1, 3) := by decide +kernel
theorem d1_4 : decode prog_92_method_1_code 4 = .ok (.aload_n 0, 1) := by decide +kernel
theorem d1_5 : decode prog_92_method_1_code 5 = .ok (.iload_n 1, 1) := by decide +kernel
theorem d1_6 : decode prog_92_method_1_code 6 = .ok (.putfield 7, 3) := by decide +kernel
theorem d1_9 : decode prog_92_method_1_code 9 = .ok (.return_, 1) := by decide +kernel
theorem d3_0 : decode prog_92_method_2_code 0 = .ok (.aload_n 0, 1) := by decide +kernel
theorem d3_1 : decode prog_92_method_2_code 1 = .ok (.getfield 7, 3) := by decide +kernel
theorem d3_4 : decode prog_92_method_2_code 4 = .ok (.ireturn, 1) := by decide +kernel
theorem d4_0 : decode method_2_code 0 = .ok (.iload_n 2, 1) := by decide +kernel
theorem d4_1 : decode method_2_code 1 = .ok (.iload_n 1, 1) := by decide +kernel
theorem d4_2 : decode method_2_code 2 = .ok (.iconst 1, 1) := by decide +kernel
theorem d4_3 : decode method_2_code 3 = .ok (.isub, 1) := by decide +kernel
theorem d4_4 : decode method_2_code 4 = .ok (.if_icmp .ne 7, 3) := by decide +kernel
theorem d4_7 : decode method_2_code 7 = .ok (.aload_n 0, 1) := by decide +kernel
theorem d4_8 : decode method_2_code 8 = .ok (.invokevirtual 7, 3) := by decide +kernel
theorem d4_11 : decode method_2_code 11 = .ok (.iload_n 1, 1) := by decide +kernel
theorem d4_12 : decode method_2_code 12 = .ok (.bipush 6, 2) := by decide +kernel
theorem d4_14 : decode method_2_code 14 = .ok (.if_icmp .ne 13, 3) := by decide +kernel
theorem d4_17 : decode method_2_code 17 = .ok (.iload_n 2, 1) := by decide +kernel
theorem d4_18 : decode method_2_code 18 = .ok (.bipush 6, 2) := by decide +kernel
theorem d4_20 : decode method_2_code 20 = .ok (.if_icmp .lt 7, 3) := by decide +kernel
theorem d4_23 : decode method_2_code 23 = .ok (.iconst 1, 1) := by decide +kernel
theorem d4_24 : decode method_2_code 24 = .ok (.goto 4, 3) := by decide +kernel
theorem d4_27 : decode method_2_code 27 = .ok (.iconst 0, 1) := by decide +kernel
theorem d4_28 : decode method_2_code 28 = .ok (.istore_n 3, 1) := by decide +kernel
theorem d4_29 : decode method_2_code 29 = .ok (.aload_n 0, 1) := by decide +kernel
theorem d4_30 : decode method_2_code 30 = .ok (.invokevirtual 12, 3) := by decide +kernel
theorem d4_33 : decode method_2_code 33 = .ok (.iload_n 3, 1) := by decide +kernel
theorem d4_34 : decode method_2_code 34 = .ok (.if_icmp .ne 7, 3) := by decide +kernel
theorem d4_37 : decode method_2_code 37 = .ok (.iconst 1, 1) := by decide +kernel
theorem d4_38 : decode method_2_code 38 = .ok (.goto 4, 3) := by decide +kernel
theorem d4_41 : decode method_2_code 41 = .ok (.iconst 0, 1) := by decide +kernel
theorem d4_42 : decode method_2_code 42 = .ok (.ireturn, 1) := by decide +kernel
theorem d5_0 : decode prog_92_method_5_code 0 = .ok (.aload_n 0, 1) := by decide +kernel
theorem d5_1 : decode prog_92_method_5_code 1 = .ok (.getfield 17, 3) := by decide +kernel
theorem d5_4 : decode prog_92_method_5_code 4 = .ok (.ifCond .eq 5, 3) := by decide +kernel
theorem d5_7 : decode prog_92_method_5_code 7 = .ok (.iconst 0, 1) := by decide +kernel
theorem d5_8 : decode prog_92_method_5_code 8 = .ok (.ireturn, 1) := by decide +kernel
theorem d5_9 : decode prog_92_method_5_code 9 = .ok (.aload_n 0, 1) := by decide +kernel
theorem d5_10 : decode prog_92_method_5_code 10 = .ok (.dup, 1) := by decide +kernel
theorem d5_11 : decode prog_92_method_5_code 11 = .ok (.getfield 20, 3) := by decide +kernel
theorem d5_14 : decode prog_92_method_5_code 14 = .ok (.iconst 1, 1) := by decide +kernel
theorem d5_15 : decode prog_92_method_5_code 15 = .ok (.iadd, 1) := by decide +kernel
theorem d5_16 : decode prog_92_method_5_code 16 = .ok (.putfield 20, 3) := by decide +kernel
theorem d5_19 : decode prog_92_method_5_code 19 = .ok (.aload_n 0, 1) := by decide +kernel
theorem d5_20 : decode prog_92_method_5_code 20 = .ok (.aload_n 0, 1) := by decide +kernel
theorem d5_21 : decode prog_92_method_5_code 21 = .ok (.getfield 20, 3) := by decide +kernel
theorem d5_24 : decode prog_92_method_5_code 24 = .ok (.aload_n 0, 1) := by decide +kernel
theorem d5_25 : decode prog_92_method_5_code 25 = .ok (.getfield 13, 3) := by decide +kernel
theorem d5_28 : decode prog_92_method_5_code 28 = .ok (.ifCond .eq 8, 3) := by decide +kernel
theorem d5_31 : decode prog_92_method_5_code 31 = .ok (.bipush 60, 2) := by decide +kernel
theorem d5_33 : decode prog_92_method_5_code 33 = .ok (.goto 4, 3) := by decide +kernel
theorem d5_36 : decode prog_92_method_5_code 36 = .ok (.iconst 5, 1) := by decide +kernel
theorem d5_37 : decode prog_92_method_5_code 37 = .ok (.if_icmp .le 7, 3) := by decide +kernel
theorem d5_40 : decode prog_92_method_5_code 40 = .ok (.iconst 1, 1) := by decide +kernel
theorem d5_41 : decode prog_92_method_5_code 41 = .ok (.goto 4, 3) := by decide +kernel
theorem d5_44 : decode prog_92_method_5_code 44 = .ok (.iconst 0, 1) := by decide +kernel
theorem d5_45 : decode prog_92_method_5_code 45 = .ok (.putfield 17, 3) := by decide +kernel
theorem d5_48 : decode prog_92_method_5_code 48 = .ok (.aload_n 0, 1) := by decide +kernel
theorem d5_49 : decode prog_92_method_5_code 49 = .ok (.getfield 17, 3) := by decide +kernel
theorem d5_52 : decode prog_92_method_5_code 52 = .ok (.ireturn, 1) := by decide +kernel
theorem d6_0 : decode prog_92_method_3_code 0 = .ok (.aload_n 0, 1) := by decide +kernel
theorem d6_1 : decode prog_92_method_3_code 1 = .ok (.iconst 1, 1) := by decide +kernel
theorem d6_2 : decode prog_92_method_3_code 2 = .ok (.putfield 13, 3) := by decide +kernel
theorem d6_5 : decode prog_92_method_3_code 5 = .ok (.return_, 1) := by decide +kernel
theorem d7_0 : decode prog_92_method_4_code 0 = .ok (.aload_n 0, 1) := by decide +kernel
theorem d7_1 : decode prog_92_method_4_code 1 = .ok (.getfield 17, 3) := by decide +kernel
theorem d7_4 : decode prog_92_method_4_code 4 = .ok (.ifCond .ne 7, 3) := by decide +kernel
theorem d7_7 : decode prog_92_method_4_code 7 = .ok (.iconst 1, 1) := by decide +kernel
theorem d7_8 : decode prog_92_method_4_code 8 = .ok (.goto 4, 3) := by decide +kernel
theorem d7_11 : decode prog_92_method_4_code 11 = .ok (.iconst 0, 1) := by decide +kernel
theorem d7_12 : decode prog_92_method_4_code 12 = .ok (.ireturn, 1) := by decide +kernel
theorem pd0 : parseMethodDescriptor "()Z" = some ⟨[], some .boolean⟩ := by decide +kernel
theorem pd1 : parseMethodDescriptor "()V" = some ⟨[], none⟩ := by decide +kernel
theorem pd2 : parseMethodDescriptor "(I)V" = some ⟨[.int], none⟩ := by decide +kernel
theorem pd3 : parseMethodDescriptor "()I" = some ⟨[], some .int⟩ := by decide +kernel
theorem pd4 : parseMethodDescriptor "(Lcom/example/weft/weft/net/Fetch;II)Z" = some ⟨[(.object "com/example/weft/weft/net/Fetch"), .int, .int], some .boolean⟩ := by decide +kernel
def Fe (Z : State) (h : Heap) (a : Addr) (v0 v1 v2 v3 : Value) : Prop := Exa Z h a "com/example/weft/weft/net/Fetch" ∧ Fld Z h a "com/example/weft/weft/net/Fetch" "from" "I" v0 ∧ Fld Z h a "com/example/weft/weft/net/Fetch" "overdue" "Z" v1 ∧ Fld Z h a "com/example/weft/weft/net/Fetch" "rounds" "I" v2 ∧ Fld Z h a "com/example/weft/weft/net/Fetch" "answering" "Z" v3
theorem Fe.exa {Z : State} {h : Heap} {a : Addr} {v0 v1 v2 v3 : Value} (O : Fe Z h a v0 v1 v2 v3) : Exa Z h a "com/example/weft/weft/net/Fetch" := O.1
theorem Fe.lt {Z : State} {h : Heap} {a : Addr} {v0 v1 v2 v3 : Value} (O : Fe Z h a v0 v1 v2 v3) : a < h.size := O.1.lt
theorem Fe.ext {Z : State} {h h' : Heap} {a : Addr} {v0 v1 v2 v3 : Value} (O : Fe Z h a v0 v1 v2 v3) (X : Ext h h') : Fe Z h' a v0 v1 v2 v3 := by
  obtain ⟨E, F0, F1, F2, F3⟩ := O; exact ⟨E.ext X, F0.ext X, F1.ext X, F2.ext X, F3.ext X⟩
theorem Fe.keep {Z : State} {h h' : Heap} {a : Addr} {ws : List Addr} {v0 v1 v2 v3 : Value} (O : Fe Z h a v0 v1 v2 v3) (K : Keep h h' ws) (q : a ∉ ws) : Fe Z h' a v0 v1 v2 v3 := by
  obtain ⟨E, F0, F1, F2, F3⟩ := O; exact ⟨E.keep K, F0.keep K q, F1.keep K q, F2.keep K q, F3.keep K q⟩
theorem Fe.get_from {Z : State} {h : Heap} {a : Addr} {v0 v1 v2 v3 : Value} (O : Fe Z h a v0 v1 v2 v3) : Fld Z h a "com/example/weft/weft/net/Fetch" "from" "I" v0 := by
  obtain ⟨E, F0, F1, F2, F3⟩ := O; exact F0
theorem Fe.put_from {a0 : Array Value} {Z : State} (hw : ∀ d ∈ tables_1, d.before a0 Z = true) {h h' : Heap} {a : Addr} {v0 v1 v2 v3 w : Value} (O : Fe Z h a v0 v1 v2 v3) (W : Wr h h' a (Jvm.RoadKit.slotOf Z "com/example/weft/weft/net/Fetch" "from" "I") w) : Fe Z h' a w v1 v2 v3 := by
  obtain ⟨E, F0, F1, F2, F3⟩ := O; exact ⟨E.wr W, F0.same W, F1.other W (Or.inr (slot_ne (Or.inl (tw26 hw)) (Or.inr (tw10 hw)) (by decide) (t := .boolean) (t' := .int) (by decide) (by decide))), F2.other W (Or.inr (slot_ne (Or.inl (tw28 hw)) (Or.inr (tw10 hw)) (by decide) (t := .int) (t' := .int) (by decide) (by decide))), F3.other W (Or.inr (slot_ne (Or.inl (tw30 hw)) (Or.inr (tw10 hw)) (by decide) (t := .boolean) (t' := .int) (by decide) (by decide)))⟩
theorem Fe.get_overdue {Z : State} {h : Heap} {a : Addr} {v0 v1 v2 v3 : Value} (O : Fe Z h a v0 v1 v2 v3) : Fld Z h a "com/example/weft/weft/net/Fetch" "overdue" "Z" v1 := by
  obtain ⟨E, F0, F1, F2, F3⟩ := O; exact F1
theorem Fe.put_overdue {a0 : Array Value} {Z : State} (hw : ∀ d ∈ tables_1, d.before a0 Z = true) {h h' : Heap} {a : Addr} {v0 v1 v2 v3 w : Value} (O : Fe Z h a v0 v1 v2 v3) (W : Wr h h' a (Jvm.RoadKit.slotOf Z "com/example/weft/weft/net/Fetch" "overdue" "Z") w) : Fe Z h' a v0 w v2 v3 := by
  obtain ⟨E, F0, F1, F2, F3⟩ := O; exact ⟨E.wr W, F0.other W (Or.inr (slot_ne (Or.inr (tw10 hw)) (Or.inl (tw26 hw)) (by decide) (t := .int) (t' := .boolean) (by decide) (by decide))), F1.same W, F2.other W (Or.inr (slot_ne (Or.inl (tw28 hw)) (Or.inl (tw26 hw)) (by decide) (t := .int) (t' := .boolean) (by decide) (by decide))), F3.other W (Or.inr (slot_ne (Or.inl (tw30 hw)) (Or.inl (tw26 hw)) (by decide) (t := .boolean) (t' := .boolean) (by decide) (by decide)))⟩
theorem Fe.get_rounds {Z : State} {h : Heap} {a : Addr} {v0 v1 v2 v3 : Value} (O : Fe Z h a v0 v1 v2 v3) : Fld Z h a "com/example/weft/weft/net/Fetch" "rounds" "I" v2 := by
  obtain ⟨E, F0, F1, F2, F3⟩ := O; exact F2
theorem Fe.put_rounds {a0 : Array Value} {Z : State} (hw : ∀ d ∈ tables_1, d.before a0 Z = true) {h h' : Heap} {a : Addr} {v0 v1 v2 v3 w : Value} (O : Fe Z h a v0 v1 v2 v3) (W : Wr h h' a (Jvm.RoadKit.slotOf Z "com/example/weft/weft/net/Fetch" "rounds" "I") w) : Fe Z h' a v0 v1 w v3 := by
  obtain ⟨E, F0, F1, F2, F3⟩ := O; exact ⟨E.wr W, F0.other W (Or.inr (slot_ne (Or.inr (tw10 hw)) (Or.inl (tw28 hw)) (by decide) (t := .int) (t' := .int) (by decide) (by decide))), F1.other W (Or.inr (slot_ne (Or.inl (tw26 hw)) (Or.inl (tw28 hw)) (by decide) (t := .boolean) (t' := .int) (by decide) (by decide))), F2.same W, F3.other W (Or.inr (slot_ne (Or.inl (tw30 hw)) (Or.inl (tw28 hw)) (by decide) (t := .boolean) (t' := .int) (by decide) (by decide)))⟩
theorem Fe.get_answering {Z : State} {h : Heap} {a : Addr} {v0 v1 v2 v3 : Value} (O : Fe Z h a v0 v1 v2 v3) : Fld Z h a "com/example/weft/weft/net/Fetch" "answering" "Z" v3 := by
  obtain ⟨E, F0, F1, F2, F3⟩ := O; exact F3
theorem Fe.put_answering {a0 : Array Value} {Z : State} (hw : ∀ d ∈ tables_1, d.before a0 Z = true) {h h' : Heap} {a : Addr} {v0 v1 v2 v3 w : Value} (O : Fe Z h a v0 v1 v2 v3) (W : Wr h h' a (Jvm.RoadKit.slotOf Z "com/example/weft/weft/net/Fetch" "answering" "Z") w) : Fe Z h' a v0 v1 v2 w := by
  obtain ⟨E, F0, F1, F2, F3⟩ := O; exact ⟨E.wr W, F0.other W (Or.inr (slot_ne (Or.inr (tw10 hw)) (Or.inl (tw30 hw)) (by decide) (t := .int) (t' := .boolean) (by decide) (by decide))), F1.other W (Or.inr (slot_ne (Or.inl (tw26 hw)) (Or.inl (tw30 hw)) (by decide) (t := .boolean) (t' := .boolean) (by decide) (by decide))), F2.other W (Or.inr (slot_ne (Or.inl (tw28 hw)) (Or.inl (tw30 hw)) (by decide) (t := .int) (t' := .boolean) (by decide) (by decide))), F3.same W⟩
set_option maxRecDepth 65536 in
set_option maxHeartbeats 4000000 in
theorem ct_init (l : Launch) (Z : State) (a0 : Array Value) (hw : ∀ d ∈ tables_1, d.before a0 Z = true) (a : Addr) (v : Int32) (h0 : Heap) (n0 : Nat) (Z0 : n0 ≤ h0.size) (ga : n0 ≤ a) (O : Fe Z h0 a (.int 0) (.int 0) (.int 0) (.int 0)) :
    Ct l Z (⟨"com/example/weft/weft/net/Fetch", "<init>", "(I)V"⟩ : MethodName) prog_92_method_1_code 2 none ({ frames := 1, cells := 0, slots := 0, locals := 12 } : Room) #[(.ref a), (.int v)] h0 n0 (fun r h => r = none ∧ Keep h0 h [a] ∧ Fe Z h a (.int v) (.int 0) (.int 0) (.int 0)) := by
  refine Ct.intro (plainFor_of_name (by first | (simp [plainName, overriddenIn]; done) | decide +kernel)) Z0 ?_
  intro p e s m below meth c T X
  refine WP.cast (g' := (mkF m 0 #[.val (.ref a), .val (.int v)] [])) (by first | rfl | (simp [entryFrame, mkF, argsToLocals, Value.category]; done)) ?_
  have K := Keep.refl h0 [a]
  refine w_aloadN X d1_0 rfl rfl (pc' := 1) rfl ?_
  refine w_initO X (tw6 hw) (tw7 hw) (tw8 hw) d1_1 rfl (by decide) rfl (by decide) (pc' := 4) rfl ?_; intro T X
  refine w_aloadN X d1_4 rfl rfl (pc' := 5) rfl ?_
  refine w_iloadN X d1_5 rfl (pc' := 6) rfl ?_
  refine w_putF X (tw9 hw) O.get_from O.exa (Or.inr ⟨(tw10 hw), rfl, rfl⟩) (tw1 hw) ga d1_6 (ty := .int) (v' := (.int v)) (by decide) rfl rfl (pc' := 9) rfl ?_; intro T h1 X W2
  have O4 := O.put_from hw W2
  have K3 := Keep.of_wr W2
  have K5 := K.wr W2 (Or.inl (by simp))
  show WP _ _ _ _ _ _ _ _ _ (mkF m 9 #[.val (.ref a), .val (.int v)] [])
  exact w_retV X rfl d1_9 (by decide) (by decide) ⟨rfl, K5, O4⟩
set_option maxRecDepth 65536 in
set_option maxHeartbeats 4000000 in
theorem ct_from (l : Launch) (Z : State) (a0 : Array Value) (hw : ∀ d ∈ tables_1, d.before a0 Z = true) (a : Addr) (f ov ro an : Int32) (h0 : Heap) (n0 : Nat) (Z0 : n0 ≤ h0.size) (ga : n0 ≤ a) (O : Fe Z h0 a (.int f) (.int ov) (.int ro) (.int an)) :
    Ct l Z (⟨"com/example/weft/weft/net/Fetch", "from", "()I"⟩ : MethodName) prog_92_method_2_code 1 (some .int) ({ frames := 0, cells := 0, slots := 0, locals := 0 } : Room) #[(.ref a)] h0 n0 (fun r h => r = some (.int f) ∧ h = h0) := by
  refine Ct.intro (plainFor_of_name (by first | (simp [plainName, overriddenIn]; done) | decide +kernel)) Z0 ?_
  intro p e s m below meth c T X
  refine WP.cast (g' := (mkF m 0 #[.val (.ref a)] [])) (by first | rfl | (simp [entryFrame, mkF, argsToLocals, Value.category]; done)) ?_
  refine w_aloadN X d3_0 rfl rfl (pc' := 1) rfl ?_
  refine w_getF X (tw9 hw) O.get_from d3_1 (pc' := 4) rfl ?_; intro T X
  exact w_retI X rfl d3_4 (by decide) (by decide) ⟨rfl, rfl⟩
set_option maxRecDepth 65536 in
set_option maxHeartbeats 4000000 in
theorem ct_rec (l : Launch) (Z : State) (a0 : Array Value) (hw : ∀ d ∈ tables_1, d.before a0 Z = true) (a : Addr) (f ov ro an : Int32) (h0 : Heap) (n0 : Nat) (Z0 : n0 ≤ h0.size) (ga : n0 ≤ a) (O : Fe Z h0 a (.int f) (.int ov) (.int ro) (.int an)) :
    Ct l Z (⟨"com/example/weft/weft/net/Fetch", "recordBegun", "()V"⟩ : MethodName) prog_92_method_3_code 1 none ({ frames := 0, cells := 0, slots := 0, locals := 0 } : Room) #[(.ref a)] h0 n0 (fun r h => r = none ∧ Keep h0 h [a] ∧ Fe Z h a (.int f) (.int ov) (.int ro) (.int 1)) := by
  refine Ct.intro (plainFor_of_name (by first | (simp [plainName, overriddenIn]; done) | decide +kernel)) Z0 ?_
  intro p e s m below meth c T X
  refine WP.cast (g' := (mkF m 0 #[.val (.ref a)] [])) (by first | rfl | (simp [entryFrame, mkF, argsToLocals, Value.category]; done)) ?_
  have K := Keep.refl h0 [a]
  refine w_aloadN X d6_0 rfl rfl (pc' := 1) rfl ?_
  refine w_iconst X d6_1 (v := (1 : Int32)) (by decide) (pc' := 2) rfl ?_
  refine w_putF X (tw29 hw) O.get_answering O.exa (Or.inl (tw30 hw)) (tw1 hw) ga d6_2 (ty := .boolean) (v' := (.int (1 : Int32))) (by decide) rfl rfl (pc' := 5) rfl ?_; intro T h1 X W2
  have O4 := O.put_answering hw W2
  have K3 := Keep.of_wr W2
  have K5 := K.wr W2 (Or.inl (by simp))
  show WP _ _ _ _ _ _ _ _ _ (mkF m 5 #[.val (.ref a)] [])
  exact w_retV X rfl d6_5 (by decide) (by decide) ⟨rfl, K5, O4⟩
def saR (ov : Int32) : Int32 := if ov = 0 then 1 else 0
set_option maxRecDepth 65536 in
set_option maxHeartbeats 4000000 in
theorem ct_set (l : Launch) (Z : State) (a0 : Array Value) (hw : ∀ d ∈ tables_1, d.before a0 Z = true) (a : Addr) (f ov ro an : Int32) (h0 : Heap) (n0 : Nat) (Z0 : n0 ≤ h0.size) (ga : n0 ≤ a) (O : Fe Z h0 a (.int f) (.int ov) (.int ro) (.int an)) :
    Ct l Z (⟨"com/example/weft/weft/net/Fetch", "setsAside", "()Z"⟩ : MethodName) prog_92_method_4_code 1 (some .boolean) ({ frames := 0, cells := 0, slots := 0, locals := 0 } : Room) #[(.ref a)] h0 n0 (fun r h => r = some (.int (saR ov)) ∧ h = h0) := by
  refine Ct.intro (plainFor_of_name (by first | (simp [plainName, overriddenIn]; done) | decide +kernel)) Z0 ?_
  intro p e s m below meth c T X
  refine WP.cast (g' := (mkF m 0 #[.val (.ref a)] [])) (by first | rfl | (simp [entryFrame, mkF, argsToLocals, Value.category]; done)) ?_
  refine w_aloadN X d7_0 rfl rfl (pc' := 1) rfl ?_
  refine w_getF X (tw25 hw) O.get_overdue d7_1 (pc' := 4) rfl ?_; intro T X
  refine w_if_ne X d7_4 (by decide) (p1 := 11) (by decide) (p2 := 7) rfl (fun c4 => ?_) (fun c4 => ?_)
  · -- c4 taken
    refine w_iconst X d7_11 (v := (0 : Int32)) (by decide) (pc' := 12) rfl ?_
    exact w_retZ X rfl d7_12 (by decide) (by decide) (by decide) ⟨by simp only [saR, if_neg c4], rfl⟩
  · -- c4 not taken
    refine w_iconst X d7_7 (v := (1 : Int32)) (by decide) (pc' := 8) rfl ?_
    refine w_goto X d7_8 (by decide) (pc' := 12) (by decide) ?_
    exact w_retZ X rfl d7_12 (by decide) (by decide) (by decide) ⟨by simp only [saR, if_pos c4], rfl⟩
def crO (ov ro an : Int32) : Int32 := if ov = 0 then (if an = 0 then (if 5 < ro + 1 then 1 else 0) else (if 60 < ro + 1 then 1 else 0)) else ov
def crN (ov ro : Int32) : Int32 := if ov = 0 then ro + 1 else ro
def crR (ov ro an : Int32) : Int32 := if ov = 0 then crO ov ro an else 0
set_option maxRecDepth 65536 in
set_option maxHeartbeats 4000000 in
theorem ct_cr (l : Launch) (Z : State) (a0 : Array Value) (hw : ∀ d ∈ tables_1, d.before a0 Z = true) (a : Addr) (f ov ro an : Int32) (h0 : Heap) (n0 : Nat) (Z0 : n0 ≤ h0.size) (ga : n0 ≤ a) (O : Fe Z h0 a (.int f) (.int ov) (.int ro) (.int an)) :
    Ct l Z (⟨"com/example/weft/weft/net/Fetch", "countRound", "()Z"⟩ : MethodName) prog_92_method_5_code 1 (some .boolean) ({ frames := 0, cells := 0, slots := 0, locals := 0 } : Room) #[(.ref a)] h0 n0 (fun r h => r = some (.int (crR ov ro an)) ∧ Keep h0 h [a] ∧ Fe Z h a (.int f) (.int (crO ov ro an)) (.int (crN ov ro)) (.int an)) := by
  refine Ct.intro (plainFor_of_name (by first | (simp [plainName, overriddenIn]; done) | decide +kernel)) Z0 ?_
  intro p e s m below meth c T X
  refine WP.cast (g' := (mkF m 0 #[.val (.ref a)] [])) (by first | rfl | (simp [entryFrame, mkF, argsToLocals, Value.category]; done)) ?_
  have K := Keep.refl h0 [a]
  refine w_aloadN X d5_0 rfl rfl (pc' := 1) rfl ?_
  refine w_getF X (tw25 hw) O.get_overdue d5_1 (pc' := 4) rfl ?_; intro T X
  refine w_if_eq X d5_4 (by decide) (p1 := 9) (by decide) (p2 := 7) rfl (fun c4 => ?_) (fun c4 => ?_)
  · -- c4 taken
    refine w_aloadN X d5_9 rfl rfl (pc' := 10) rfl ?_
    refine w_dup X d5_10 rfl (pc' := 11) rfl ?_
    refine w_getF X (tw27 hw) O.get_rounds d5_11 (pc' := 14) rfl ?_; intro T X
    refine w_iconst X d5_14 (v := (1 : Int32)) (by decide) (pc' := 15) rfl ?_
    refine w_iadd X d5_15 (pc' := 16) rfl ?_
    refine w_putF X (tw27 hw) O.get_rounds O.exa (Or.inl (tw28 hw)) (tw1 hw) ga d5_16 (ty := .int) (v' := (.int (ro + (1 : Int32)))) (by decide) rfl rfl (pc' := 19) rfl ?_; intro T h1 X W2
    have O4 := O.put_rounds hw W2
    have K3 := Keep.of_wr W2
    have K5 := K.wr W2 (Or.inl (by simp))
    show WP _ _ _ _ _ _ _ _ _ (mkF m 19 #[.val (.ref a)] [])
    refine w_aloadN X d5_19 rfl rfl (pc' := 20) rfl ?_
    refine w_aloadN X d5_20 rfl rfl (pc' := 21) rfl ?_
    refine w_getF X (tw27 hw) O4.get_rounds d5_21 (pc' := 24) rfl ?_; intro T X
    refine w_aloadN X d5_24 rfl rfl (pc' := 25) rfl ?_
    refine w_getF X (tw29 hw) O4.get_answering d5_25 (pc' := 28) rfl ?_; intro T X
    refine w_if_eq X d5_28 (by decide) (p1 := 36) (by decide) (p2 := 31) rfl (fun c28 => ?_) (fun c28 => ?_)
    · -- c28 taken
      refine w_iconst X d5_36 (v := (5 : Int32)) (by decide) (pc' := 37) rfl ?_
      refine w_icmp_le X d5_37 (by decide) (p1 := 44) (by decide) (p2 := 40) rfl (fun c37 => ?_) (fun c37 => ?_)
      · -- c37 taken
        refine w_iconst X d5_44 (v := (0 : Int32)) (by decide) (pc' := 45) rfl ?_
        refine w_putF X (tw25 hw) O4.get_overdue O4.exa (Or.inl (tw26 hw)) (tw1 hw) ga d5_45 (ty := .boolean) (v' := (.int (0 : Int32))) (by decide) rfl rfl (pc' := 48) rfl ?_; intro T h6 X W7
        have O9 := O4.put_overdue hw W7
        have K8 := Keep.of_wr W7
        have K10 := K5.wr W7 (Or.inl (by simp))
        show WP _ _ _ _ _ _ _ _ _ (mkF m 48 #[.val (.ref a)] [])
        refine w_aloadN X d5_48 rfl rfl (pc' := 49) rfl ?_
        refine w_getF X (tw25 hw) O9.get_overdue d5_49 (pc' := 52) rfl ?_; intro T X
        exact w_retZ X rfl d5_52 (by decide) (by decide) (by decide) ⟨by simp only [crR, crO, if_pos c4, if_pos c28, if_neg c37], K10, by simp only [crO, crN, if_pos c4, if_pos c28, if_neg c37]; exact O9⟩
      · -- c37 not taken
        refine w_iconst X d5_40 (v := (1 : Int32)) (by decide) (pc' := 41) rfl ?_
        refine w_goto X d5_41 (by decide) (pc' := 45) (by decide) ?_
        refine w_putF X (tw25 hw) O4.get_overdue O4.exa (Or.inl (tw26 hw)) (tw1 hw) ga d5_45 (ty := .boolean) (v' := (.int (1 : Int32))) (by decide) rfl rfl (pc' := 48) rfl ?_; intro T h11 X W12
        have O14 := O4.put_overdue hw W12
        have K13 := Keep.of_wr W12
        have K15 := K5.wr W12 (Or.inl (by simp))
        show WP _ _ _ _ _ _ _ _ _ (mkF m 48 #[.val (.ref a)] [])
        refine w_aloadN X d5_48 rfl rfl (pc' := 49) rfl ?_
        refine w_getF X (tw25 hw) O14.get_overdue d5_49 (pc' := 52) rfl ?_; intro T X
        exact w_retZ X rfl d5_52 (by decide) (by decide) (by decide) ⟨by simp only [crR, crO, if_pos c4, if_pos c28, if_pos c37], K15, by simp only [crO, crN, if_pos c4, if_pos c28, if_pos c37]; exact O14⟩
    · -- c28 not taken
      refine w_bipush X d5_31 (v := (60 : Int32)) (by decide) (pc' := 33) rfl ?_
      refine w_goto X d5_33 (by decide) (pc' := 37) (by decide) ?_
      refine w_icmp_le X d5_37 (by decide) (p1 := 44) (by decide) (p2 := 40) rfl (fun c37 => ?_) (fun c37 => ?_)
      · -- c37 taken
        refine w_iconst X d5_44 (v := (0 : Int32)) (by decide) (pc' := 45) rfl ?_
        refine w_putF X (tw25 hw) O4.get_overdue O4.exa (Or.inl (tw26 hw)) (tw1 hw) ga d5_45 (ty := .boolean) (v' := (.int (0 : Int32))) (by decide) rfl rfl (pc' := 48) rfl ?_; intro T h16 X W17
        have O19 := O4.put_overdue hw W17
        have K18 := Keep.of_wr W17
        have K20 := K5.wr W17 (Or.inl (by simp))
        show WP _ _ _ _ _ _ _ _ _ (mkF m 48 #[.val (.ref a)] [])
        refine w_aloadN X d5_48 rfl rfl (pc' := 49) rfl ?_
        refine w_getF X (tw25 hw) O19.get_overdue d5_49 (pc' := 52) rfl ?_; intro T X
        exact w_retZ X rfl d5_52 (by decide) (by decide) (by decide) ⟨by simp only [crR, crO, if_pos c4, if_neg c28, if_neg c37], K20, by simp only [crO, crN, if_pos c4, if_neg c28, if_neg c37]; exact O19⟩
      · -- c37 not taken
        refine w_iconst X d5_40 (v := (1 : Int32)) (by decide) (pc' := 41) rfl ?_
        refine w_goto X d5_41 (by decide) (pc' := 45) (by decide) ?_
        refine w_putF X (tw25 hw) O4.get_overdue O4.exa (Or.inl (tw26 hw)) (tw1 hw) ga d5_45 (ty := .boolean) (v' := (.int (1 : Int32))) (by decide) rfl rfl (pc' := 48) rfl ?_; intro T h21 X W22
        have O24 := O4.put_overdue hw W22
        have K23 := Keep.of_wr W22
        have K25 := K5.wr W22 (Or.inl (by simp))
        show WP _ _ _ _ _ _ _ _ _ (mkF m 48 #[.val (.ref a)] [])
        refine w_aloadN X d5_48 rfl rfl (pc' := 49) rfl ?_
        refine w_getF X (tw25 hw) O24.get_overdue d5_49 (pc' := 52) rfl ?_; intro T X
        exact w_retZ X rfl d5_52 (by decide) (by decide) (by decide) ⟨by simp only [crR, crO, if_pos c4, if_neg c28, if_pos c37], K25, by simp only [crO, crN, if_pos c4, if_neg c28, if_pos c37]; exact O24⟩
  · -- c4 not taken
    refine w_iconst X d5_7 (v := (0 : Int32)) (by decide) (pc' := 8) rfl ?_
    exact w_retZ X rfl d5_8 (by decide) (by decide) (by decide) ⟨by simp only [crR, crO, if_neg c4], K, by simp only [crO, crN, if_neg c4]; exact O⟩
def cA (an i q : Int32) : Int32 := if q = i - 1 then 1 else an
def cE (i q : Int32) : Int32 := if i = 6 then (if q < 6 then 0 else 1) else 0
def cRes (ov ro an i q : Int32) : Int32 := if crR ov ro (cA an i q) = cE i q then 1 else 0
set_option maxRecDepth 65536 in
set_option maxHeartbeats 4000000 in
theorem ct_call (l : Launch) (Z : State) (a0 : Array Value) (hw : ∀ d ∈ tables_1, d.before a0 Z = true) (a : Addr) (i q : Int32) (f ov ro an : Int32) (h0 : Heap) (n0 : Nat) (Z0 : n0 ≤ h0.size) (ga : n0 ≤ a) (O : Fe Z h0 a (.int f) (.int ov) (.int ro) (.int an)) :
    Ct l Z (⟨"com/example/weft/weft/net/FetchCountRoundPinLaw", "call", "(Lcom/example/weft/weft/net/Fetch;II)Z"⟩ : MethodName) method_2_code 4 (some .boolean) ({ frames := 1, cells := 0, slots := 0, locals := 20 } : Room) #[(.ref a), (.int i), (.int q)] h0 n0 (fun r h => r = some (.int (cRes ov ro an i q)) ∧ Keep h0 h [a] ∧ Fe Z h a (.int f) (.int (crO ov ro (cA an i q))) (.int (crN ov ro)) (.int (cA an i q))) := by
  refine Ct.intro (plainFor_of_name (by first | (simp [plainName, overriddenIn]; done) | decide +kernel)) Z0 ?_
  intro p e s m below meth c T X
  refine WP.cast (g' := (mkF m 0 #[.val (.ref a), .val (.int i), .val (.int q), .unset] [])) (by first | rfl | (simp [entryFrame, mkF, argsToLocals, Value.category]; done)) ?_
  have K := Keep.refl h0 [a]
  refine w_iloadN X d4_0 rfl (pc' := 1) rfl ?_
  refine w_iloadN X d4_1 rfl (pc' := 2) rfl ?_
  refine w_iconst X d4_2 (v := (1 : Int32)) (by decide) (pc' := 3) rfl ?_
  refine w_isub X d4_3 (pc' := 4) rfl ?_
  refine w_icmp_ne X d4_4 (by decide) (p1 := 11) (by decide) (p2 := 7) rfl (fun c4 => ?_) (fun c4 => ?_)
  · -- c4 taken
    refine w_iloadN X d4_11 rfl (pc' := 12) rfl ?_
    refine w_bipush X d4_12 (v := (6 : Int32)) (by decide) (pc' := 14) rfl ?_
    refine w_icmp_ne X d4_14 (by decide) (p1 := 27) (by decide) (p2 := 17) rfl (fun c14 => ?_) (fun c14 => ?_)
    · -- c14 taken
      refine w_iconst X d4_27 (v := (0 : Int32)) (by decide) (pc' := 28) rfl ?_
      refine w_istoreN X d4_28 (L' := #[.val (.ref a), .val (.int i), .val (.int q), .val (.int (0 : Int32))]) rfl (pc' := 29) rfl ?_
      refine w_aloadN X d4_29 rfl rfl (pc' := 30) rfl ?_
      refine w_callV X [] [] 0 (tw20 hw) (tw21 hw) (tw23 hw) (tw22 hw) (tw2 hw) (tw24 hw) O.exa (ct_cr l Z a0 hw a f ov ro an h0 n0 X.n0le ga O) d4_30 pd0 rfl (by decide) rfl rfl rfl (by decide) (by decide) (by decide) (by decide) (pc' := 33) rfl ?_
      intro T h1 v X hQ
      obtain ⟨rfl, K2, O3⟩ := hQ
      have K4 := K.trans K2 (by simp)
      show WP _ _ _ _ _ _ _ _ _ (mkF m 33 #[.val (.ref a), .val (.int i), .val (.int q), .val (.int (0 : Int32))] [(.int (crR ov ro an))])
      refine w_iloadN X d4_33 rfl (pc' := 34) rfl ?_
      refine w_icmp_ne X d4_34 (by decide) (p1 := 41) (by decide) (p2 := 37) rfl (fun c34 => ?_) (fun c34 => ?_)
      · -- c34 taken
        refine w_iconst X d4_41 (v := (0 : Int32)) (by decide) (pc' := 42) rfl ?_
        have eA : cA an i q = an := by simp only [cA, if_neg c4, if_neg c14]
        have eE : cE i q = (0 : Int32) := by simp only [cE, if_neg c4, if_neg c14]
        exact w_retZ X rfl d4_42 (by decide) (by decide) (by decide) ⟨by rw [cRes, eA, eE, if_neg c34], K4, by rw [eA]; exact O3⟩
      · -- c34 not taken
        refine w_iconst X d4_37 (v := (1 : Int32)) (by decide) (pc' := 38) rfl ?_
        refine w_goto X d4_38 (by decide) (pc' := 42) (by decide) ?_
        have eA : cA an i q = an := by simp only [cA, if_neg c4, if_neg c14]
        have eE : cE i q = (0 : Int32) := by simp only [cE, if_neg c4, if_neg c14]
        exact w_retZ X rfl d4_42 (by decide) (by decide) (by decide) ⟨by rw [cRes, eA, eE, if_pos c34], K4, by rw [eA]; exact O3⟩
    · -- c14 not taken
      refine w_iloadN X d4_17 rfl (pc' := 18) rfl ?_
      refine w_bipush X d4_18 (v := (6 : Int32)) (by decide) (pc' := 20) rfl ?_
      refine w_icmp_lt X d4_20 (by decide) (p1 := 27) (by decide) (p2 := 23) rfl (fun c20 => ?_) (fun c20 => ?_)
      · -- c20 taken
        refine w_iconst X d4_27 (v := (0 : Int32)) (by decide) (pc' := 28) rfl ?_
        refine w_istoreN X d4_28 (L' := #[.val (.ref a), .val (.int i), .val (.int q), .val (.int (0 : Int32))]) rfl (pc' := 29) rfl ?_
        refine w_aloadN X d4_29 rfl rfl (pc' := 30) rfl ?_
        refine w_callV X [] [] 0 (tw20 hw) (tw21 hw) (tw23 hw) (tw22 hw) (tw2 hw) (tw24 hw) O.exa (ct_cr l Z a0 hw a f ov ro an h0 n0 X.n0le ga O) d4_30 pd0 rfl (by decide) rfl rfl rfl (by decide) (by decide) (by decide) (by decide) (pc' := 33) rfl ?_
        intro T h5 v X hQ
        obtain ⟨rfl, K6, O7⟩ := hQ
        have K8 := K.trans K6 (by simp)
        show WP _ _ _ _ _ _ _ _ _ (mkF m 33 #[.val (.ref a), .val (.int i), .val (.int q), .val (.int (0 : Int32))] [(.int (crR ov ro an))])
        refine w_iloadN X d4_33 rfl (pc' := 34) rfl ?_
        refine w_icmp_ne X d4_34 (by decide) (p1 := 41) (by decide) (p2 := 37) rfl (fun c34 => ?_) (fun c34 => ?_)
        · -- c34 taken
          refine w_iconst X d4_41 (v := (0 : Int32)) (by decide) (pc' := 42) rfl ?_
          have eA : cA an i q = an := by simp only [cA, if_neg c4, if_pos c14, if_pos c20]
          have eE : cE i q = (0 : Int32) := by simp only [cE, if_neg c4, if_pos c14, if_pos c20]
          exact w_retZ X rfl d4_42 (by decide) (by decide) (by decide) ⟨by rw [cRes, eA, eE, if_neg c34], K8, by rw [eA]; exact O7⟩
        · -- c34 not taken
          refine w_iconst X d4_37 (v := (1 : Int32)) (by decide) (pc' := 38) rfl ?_
          refine w_goto X d4_38 (by decide) (pc' := 42) (by decide) ?_
          have eA : cA an i q = an := by simp only [cA, if_neg c4, if_pos c14, if_pos c20]
          have eE : cE i q = (0 : Int32) := by simp only [cE, if_neg c4, if_pos c14, if_pos c20]
          exact w_retZ X rfl d4_42 (by decide) (by decide) (by decide) ⟨by rw [cRes, eA, eE, if_pos c34], K8, by rw [eA]; exact O7⟩
      · -- c20 not taken
        refine w_iconst X d4_23 (v := (1 : Int32)) (by decide) (pc' := 24) rfl ?_
        refine w_goto X d4_24 (by decide) (pc' := 28) (by decide) ?_
        refine w_istoreN X d4_28 (L' := #[.val (.ref a), .val (.int i), .val (.int q), .val (.int (1 : Int32))]) rfl (pc' := 29) rfl ?_
        refine w_aloadN X d4_29 rfl rfl (pc' := 30) rfl ?_
        refine w_callV X [] [] 0 (tw20 hw) (tw21 hw) (tw23 hw) (tw22 hw) (tw2 hw) (tw24 hw) O.exa (ct_cr l Z a0 hw a f ov ro an h0 n0 X.n0le ga O) d4_30 pd0 rfl (by decide) rfl rfl rfl (by decide) (by decide) (by decide) (by decide) (pc' := 33) rfl ?_
        intro T h9 v X hQ
        obtain ⟨rfl, K10, O11⟩ := hQ
        have K12 := K.trans K10 (by simp)
        show WP _ _ _ _ _ _ _ _ _ (mkF m 33 #[.val (.ref a), .val (.int i), .val (.int q), .val (.int (1 : Int32))] [(.int (crR ov ro an))])
        refine w_iloadN X d4_33 rfl (pc' := 34) rfl ?_
        refine w_icmp_ne X d4_34 (by decide) (p1 := 41) (by decide) (p2 := 37) rfl (fun c34 => ?_) (fun c34 => ?_)
        · -- c34 taken
          refine w_iconst X d4_41 (v := (0 : Int32)) (by decide) (pc' := 42) rfl ?_
          have eA : cA an i q = an := by simp only [cA, if_neg c4, if_pos c14, if_neg c20]
          have eE : cE i q = (1 : Int32) := by simp only [cE, if_neg c4, if_pos c14, if_neg c20]
          exact w_retZ X rfl d4_42 (by decide) (by decide) (by decide) ⟨by rw [cRes, eA, eE, if_neg c34], K12, by rw [eA]; exact O11⟩
        · -- c34 not taken
          refine w_iconst X d4_37 (v := (1 : Int32)) (by decide) (pc' := 38) rfl ?_
          refine w_goto X d4_38 (by decide) (pc' := 42) (by decide) ?_
          have eA : cA an i q = an := by simp only [cA, if_neg c4, if_pos c14, if_neg c20]
          have eE : cE i q = (1 : Int32) := by simp only [cE, if_neg c4, if_pos c14, if_neg c20]
          exact w_retZ X rfl d4_42 (by decide) (by decide) (by decide) ⟨by rw [cRes, eA, eE, if_pos c34], K12, by rw [eA]; exact O11⟩
  · -- c4 not taken
    refine w_aloadN X d4_7 rfl rfl (pc' := 8) rfl ?_
    refine w_callV X [] [] 0 (tw31 hw) (tw32 hw) (tw34 hw) (tw33 hw) (tw2 hw) (tw35 hw) O.exa (ct_rec l Z a0 hw a f ov ro an h0 n0 X.n0le ga O) d4_8 pd1 rfl (by decide) rfl rfl rfl (by decide) (by decide) (by decide) (by decide) (pc' := 11) rfl ?_
    intro T h13 v X hQ
    obtain ⟨rfl, K14, O15⟩ := hQ
    have K16 := K.trans K14 (by simp)
    show WP _ _ _ _ _ _ _ _ _ (mkF m 11 #[.val (.ref a), .val (.int i), .val (.int q), .unset] [])
    refine w_iloadN X d4_11 rfl (pc' := 12) rfl ?_
    refine w_bipush X d4_12 (v := (6 : Int32)) (by decide) (pc' := 14) rfl ?_
    refine w_icmp_ne X d4_14 (by decide) (p1 := 27) (by decide) (p2 := 17) rfl (fun c14 => ?_) (fun c14 => ?_)
    · -- c14 taken
      refine w_iconst X d4_27 (v := (0 : Int32)) (by decide) (pc' := 28) rfl ?_
      refine w_istoreN X d4_28 (L' := #[.val (.ref a), .val (.int i), .val (.int q), .val (.int (0 : Int32))]) rfl (pc' := 29) rfl ?_
      refine w_aloadN X d4_29 rfl rfl (pc' := 30) rfl ?_
      refine w_callV X [] [] 0 (tw20 hw) (tw21 hw) (tw23 hw) (tw22 hw) (tw2 hw) (tw24 hw) O15.exa (ct_cr l Z a0 hw a f ov ro (1 : Int32) h13 n0 X.n0le ga O15) d4_30 pd0 rfl (by decide) rfl rfl rfl (by decide) (by decide) (by decide) (by decide) (pc' := 33) rfl ?_
      intro T h17 v X hQ
      obtain ⟨rfl, K18, O19⟩ := hQ
      have K20 := K16.trans K18 (by simp)
      show WP _ _ _ _ _ _ _ _ _ (mkF m 33 #[.val (.ref a), .val (.int i), .val (.int q), .val (.int (0 : Int32))] [(.int (crR ov ro (1 : Int32)))])
      refine w_iloadN X d4_33 rfl (pc' := 34) rfl ?_
      refine w_icmp_ne X d4_34 (by decide) (p1 := 41) (by decide) (p2 := 37) rfl (fun c34 => ?_) (fun c34 => ?_)
      · -- c34 taken
        refine w_iconst X d4_41 (v := (0 : Int32)) (by decide) (pc' := 42) rfl ?_
        have eA : cA an i q = (1 : Int32) := by simp only [cA, if_pos c4, if_neg c14]
        have eE : cE i q = (0 : Int32) := by simp only [cE, if_pos c4, if_neg c14]
        exact w_retZ X rfl d4_42 (by decide) (by decide) (by decide) ⟨by rw [cRes, eA, eE, if_neg c34], K20, by rw [eA]; exact O19⟩
      · -- c34 not taken
        refine w_iconst X d4_37 (v := (1 : Int32)) (by decide) (pc' := 38) rfl ?_
        refine w_goto X d4_38 (by decide) (pc' := 42) (by decide) ?_
        have eA : cA an i q = (1 : Int32) := by simp only [cA, if_pos c4, if_neg c14]
        have eE : cE i q = (0 : Int32) := by simp only [cE, if_pos c4, if_neg c14]
        exact w_retZ X rfl d4_42 (by decide) (by decide) (by decide) ⟨by rw [cRes, eA, eE, if_pos c34], K20, by rw [eA]; exact O19⟩
    · -- c14 not taken
      refine w_iloadN X d4_17 rfl (pc' := 18) rfl ?_
      refine w_bipush X d4_18 (v := (6 : Int32)) (by decide) (pc' := 20) rfl ?_
      refine w_icmp_lt X d4_20 (by decide) (p1 := 27) (by decide) (p2 := 23) rfl (fun c20 => ?_) (fun c20 => ?_)
      · -- c20 taken
        refine w_iconst X d4_27 (v := (0 : Int32)) (by decide) (pc' := 28) rfl ?_
        refine w_istoreN X d4_28 (L' := #[.val (.ref a), .val (.int i), .val (.int q), .val (.int (0 : Int32))]) rfl (pc' := 29) rfl ?_
        refine w_aloadN X d4_29 rfl rfl (pc' := 30) rfl ?_
        refine w_callV X [] [] 0 (tw20 hw) (tw21 hw) (tw23 hw) (tw22 hw) (tw2 hw) (tw24 hw) O15.exa (ct_cr l Z a0 hw a f ov ro (1 : Int32) h13 n0 X.n0le ga O15) d4_30 pd0 rfl (by decide) rfl rfl rfl (by decide) (by decide) (by decide) (by decide) (pc' := 33) rfl ?_
        intro T h21 v X hQ
        obtain ⟨rfl, K22, O23⟩ := hQ
        have K24 := K16.trans K22 (by simp)
        show WP _ _ _ _ _ _ _ _ _ (mkF m 33 #[.val (.ref a), .val (.int i), .val (.int q), .val (.int (0 : Int32))] [(.int (crR ov ro (1 : Int32)))])
        refine w_iloadN X d4_33 rfl (pc' := 34) rfl ?_
        refine w_icmp_ne X d4_34 (by decide) (p1 := 41) (by decide) (p2 := 37) rfl (fun c34 => ?_) (fun c34 => ?_)
        · -- c34 taken
          refine w_iconst X d4_41 (v := (0 : Int32)) (by decide) (pc' := 42) rfl ?_
          have eA : cA an i q = (1 : Int32) := by simp only [cA, if_pos c4, if_pos c14, if_pos c20]
          have eE : cE i q = (0 : Int32) := by simp only [cE, if_pos c4, if_pos c14, if_pos c20]
          exact w_retZ X rfl d4_42 (by decide) (by decide) (by decide) ⟨by rw [cRes, eA, eE, if_neg c34], K24, by rw [eA]; exact O23⟩
        · -- c34 not taken
          refine w_iconst X d4_37 (v := (1 : Int32)) (by decide) (pc' := 38) rfl ?_
          refine w_goto X d4_38 (by decide) (pc' := 42) (by decide) ?_
          have eA : cA an i q = (1 : Int32) := by simp only [cA, if_pos c4, if_pos c14, if_pos c20]
          have eE : cE i q = (0 : Int32) := by simp only [cE, if_pos c4, if_pos c14, if_pos c20]
          exact w_retZ X rfl d4_42 (by decide) (by decide) (by decide) ⟨by rw [cRes, eA, eE, if_pos c34], K24, by rw [eA]; exact O23⟩
      · -- c20 not taken
        refine w_iconst X d4_23 (v := (1 : Int32)) (by decide) (pc' := 24) rfl ?_
        refine w_goto X d4_24 (by decide) (pc' := 28) (by decide) ?_
        refine w_istoreN X d4_28 (L' := #[.val (.ref a), .val (.int i), .val (.int q), .val (.int (1 : Int32))]) rfl (pc' := 29) rfl ?_
        refine w_aloadN X d4_29 rfl rfl (pc' := 30) rfl ?_
        refine w_callV X [] [] 0 (tw20 hw) (tw21 hw) (tw23 hw) (tw22 hw) (tw2 hw) (tw24 hw) O15.exa (ct_cr l Z a0 hw a f ov ro (1 : Int32) h13 n0 X.n0le ga O15) d4_30 pd0 rfl (by decide) rfl rfl rfl (by decide) (by decide) (by decide) (by decide) (pc' := 33) rfl ?_
        intro T h25 v X hQ
        obtain ⟨rfl, K26, O27⟩ := hQ
        have K28 := K16.trans K26 (by simp)
        show WP _ _ _ _ _ _ _ _ _ (mkF m 33 #[.val (.ref a), .val (.int i), .val (.int q), .val (.int (1 : Int32))] [(.int (crR ov ro (1 : Int32)))])
        refine w_iloadN X d4_33 rfl (pc' := 34) rfl ?_
        refine w_icmp_ne X d4_34 (by decide) (p1 := 41) (by decide) (p2 := 37) rfl (fun c34 => ?_) (fun c34 => ?_)
        · -- c34 taken
          refine w_iconst X d4_41 (v := (0 : Int32)) (by decide) (pc' := 42) rfl ?_
          have eA : cA an i q = (1 : Int32) := by simp only [cA, if_pos c4, if_pos c14, if_neg c20]
          have eE : cE i q = (1 : Int32) := by simp only [cE, if_pos c4, if_pos c14, if_neg c20]
          exact w_retZ X rfl d4_42 (by decide) (by decide) (by decide) ⟨by rw [cRes, eA, eE, if_neg c34], K28, by rw [eA]; exact O27⟩
        · -- c34 not taken
          refine w_iconst X d4_37 (v := (1 : Int32)) (by decide) (pc' := 38) rfl ?_
          refine w_goto X d4_38 (by decide) (pc' := 42) (by decide) ?_
          have eA : cA an i q = (1 : Int32) := by simp only [cA, if_pos c4, if_pos c14, if_neg c20]
          have eE : cE i q = (1 : Int32) := by simp only [cE, if_pos c4, if_pos c14, if_neg c20]
          exact w_retZ X rfl d4_42 (by decide) (by decide) (by decide) ⟨by rw [cRes, eA, eE, if_pos c34], K28, by rw [eA]; exact O27⟩
theorem and7 {q s : Int32} (h : q = s &&& 7) : q = 0 ∨ q = 1 ∨ q = 2 ∨ q = 3 ∨ q = 4 ∨ q = 5 ∨ q = 6 ∨ q = 7 := by
  have h1 := c_mask s 7 3 (by decide) (by decide)
  rw [← h] at h1
  have h2 : q.toInt = 0 ∨ q.toInt = 1 ∨ q.toInt = 2 ∨ q.toInt = 3 ∨ q.toInt = 4 ∨ q.toInt = 5 ∨ q.toInt = 6 ∨ q.toInt = 7 := by omega
  rcases h2 with h2 | h2 | h2 | h2 | h2 | h2 | h2 | h2
  · exact Or.inl (Int32.toInt_inj.mp h2)
  · exact Or.inr (Or.inl (Int32.toInt_inj.mp h2))
  · exact Or.inr (Or.inr (Or.inl (Int32.toInt_inj.mp h2)))
  · exact Or.inr (Or.inr (Or.inr (Or.inl (Int32.toInt_inj.mp h2))))
  · exact Or.inr (Or.inr (Or.inr (Or.inr (Or.inl (Int32.toInt_inj.mp h2)))))
  · exact Or.inr (Or.inr (Or.inr (Or.inr (Or.inr (Or.inl (Int32.toInt_inj.mp h2))))))
  · exact Or.inr (Or.inr (Or.inr (Or.inr (Or.inr (Or.inr (Or.inl (Int32.toInt_inj.mp h2)))))))
  · exact Or.inr (Or.inr (Or.inr (Or.inr (Or.inr (Or.inr (Or.inr (Int32.toInt_inj.mp h2)))))))
set_option maxRecDepth 65536 in
set_option maxHeartbeats 4000000 in
theorem ct_law (l : Launch) (Z : State) (a0 : Array Value) (hw : ∀ d ∈ tables_1, d.before a0 Z = true) (f t : Int32) (h0 : Heap) (n0 : Nat) (Z0 : n0 ≤ h0.size) :
    Ct l Z x code maxLocals ret room_1 #[(.int f), (.int t)] h0 n0 (fun r _ => r = some (.int 1)) := by
  refine Ct.intro (plainFor_of_name (by first | (simp [plainName, overriddenIn, x]; done) | decide +kernel)) Z0 ?_
  intro p e s m below meth c T X
  refine WP.cast (g' := (mkF m 0 #[.val (.int f), .val (.int t), .unset, .unset, .unset] [])) (by first | rfl | (simp [entryFrame, mkF, argsToLocals, Value.category, maxLocals]; done)) ?_
  refine w_iloadN X at_0 rfl (pc' := 1) rfl ?_
  refine w_bipush X at_1 (v := (7 : Int32)) (by decide) (pc' := 3) rfl ?_
  refine w_iand X at_3 (pc' := 4) rfl ?_
  refine w_nameI ?_; intro q h_q
  refine w_istoreN X at_4 (L' := #[.val (.int f), .val (.int t), .val (.int q), .unset, .unset]) rfl (pc' := 5) rfl ?_
  refine w_new X (tw0 hw) (tw1 hw) (tw2 hw) at_5 (by decide) (by decide) (pc' := 8) rfl ?_; intro T h1 b1 X eq1 ga1 E1 A1 D1
  have O2 : Fe Z h1 b1 (.int (0 : Int32)) (.int (0 : Int32)) (.int (0 : Int32)) (.int (0 : Int32)) := ⟨A1, D1 (Or.inr (tw10 hw)) (ty := .int) (by decide), D1 (Or.inl (tw26 hw)) (ty := .boolean) (by decide), D1 (Or.inl (tw28 hw)) (ty := .int) (by decide), D1 (Or.inl (tw30 hw)) (ty := .boolean) (by decide)⟩
  refine w_dup X at_8 rfl (pc' := 9) rfl ?_
  refine w_iloadN X at_9 rfl (pc' := 10) rfl ?_
  refine w_callC X [(.int f)] [(.ref b1)] 1 rfl (tw3 hw) (tw4 hw) (tw2 hw) (tw5 hw) (ct_init l Z a0 hw b1 f h1 n0 X.n0le ga1 O2) at_10 pd2 rfl (by decide) rfl rfl rfl (by decide) (by decide) (by decide) (by decide) (pc' := 13) rfl ?_
  intro T h3 v X hQ
  obtain ⟨rfl, K4, O5⟩ := hQ
  show WP _ _ _ _ _ _ _ _ _ (mkF m 13 #[.val (.int f), .val (.int t), .val (.int q), .unset, .unset] [(.ref b1)])
  refine w_astoreN X at_13 (L' := #[.val (.int f), .val (.int t), .val (.int q), .val (.ref b1), .unset]) rfl rfl (pc' := 14) rfl ?_
  refine w_aloadN X at_14 rfl rfl (pc' := 15) rfl ?_
  refine w_callV X [] [] 0 (tw11 hw) (tw12 hw) (tw14 hw) (tw13 hw) (tw2 hw) (tw15 hw) O5.exa (ct_from l Z a0 hw b1 f (0 : Int32) (0 : Int32) (0 : Int32) h3 n0 X.n0le ga1 O5) at_15 pd3 rfl (by decide) rfl rfl rfl (by decide) (by decide) (by decide) (by decide) (pc' := 18) rfl ?_
  intro T hz v X hQ
  obtain ⟨rfl, hz1⟩ := hQ; replace hz1 := hz1.symm; subst hz1
  show WP _ _ _ _ _ _ _ _ _ (mkF m 18 #[.val (.int f), .val (.int t), .val (.int q), .val (.ref b1), .unset] [(.int f)])
  refine w_iloadN X at_18 rfl (pc' := 19) rfl ?_
  refine w_icmp_ne X at_19 (by decide) (p1 := 26) (by decide) (p2 := 22) rfl (fun c19 => False.elim (c19 rfl)) (fun c19 => ?_)
  refine w_iconst X at_22 (v := (1 : Int32)) (by decide) (pc' := 23) rfl ?_
  refine w_goto X at_23 (by decide) (pc' := 27) (by decide) ?_
  refine w_istore X at_27 (L' := #[.val (.int f), .val (.int t), .val (.int q), .val (.ref b1), .val (.int (1 : Int32))]) rfl (pc' := 29) rfl ?_
  refine w_iload X at_29 rfl (pc' := 31) rfl ?_
  refine w_aloadN X at_31 rfl rfl (pc' := 32) rfl ?_
  refine w_iconst X at_32 (v := (1 : Int32)) (by decide) (pc' := 33) rfl ?_
  refine w_iloadN X at_33 rfl (pc' := 34) rfl ?_
  refine w_callS X [(.ref b1), (.int (1 : Int32)), (.int q)] [(.int (1 : Int32))] 1 (tw16 hw) (tw17 hw) (tw18 hw) (tw19 hw) (ct_call l Z a0 hw b1 (1 : Int32) q f (0 : Int32) (0 : Int32) (0 : Int32) h3 n0 X.n0le ga1 O5) at_34 pd4 rfl (by decide) rfl rfl rfl (by decide) (by decide) (by decide) (by decide) (pc' := 37) rfl ?_
  intro T h6 v X hQ
  obtain ⟨rfl, K7, O8⟩ := hQ
  show WP _ _ _ _ _ _ _ _ _ (mkF m 37 #[.val (.int f), .val (.int t), .val (.int q), .val (.ref b1), .val (.int (1 : Int32))] [(.int (cRes (0 : Int32) (0 : Int32) (0 : Int32) (1 : Int32) q)), (.int (1 : Int32))])
  generalize e_ov9 : (crO (0 : Int32) (0 : Int32) (cA (0 : Int32) (1 : Int32) q)) = ov9 at O8
  generalize e_ro9 : (crN (0 : Int32) (0 : Int32)) = ro9 at O8
  generalize e_an9 : (cA (0 : Int32) (1 : Int32) q) = an9 at O8
  generalize e_r9 : (cRes (0 : Int32) (0 : Int32) (0 : Int32) (1 : Int32) q) = r9
  refine w_iand X at_37 (pc' := 38) rfl ?_
  refine w_istore X at_38 (L' := #[.val (.int f), .val (.int t), .val (.int q), .val (.ref b1), .val (.int ((1 : Int32) &&& r9))]) rfl (pc' := 40) rfl ?_
  refine w_iload X at_40 rfl (pc' := 42) rfl ?_
  refine w_aloadN X at_42 rfl rfl (pc' := 43) rfl ?_
  refine w_iconst X at_43 (v := (2 : Int32)) (by decide) (pc' := 44) rfl ?_
  refine w_iloadN X at_44 rfl (pc' := 45) rfl ?_
  refine w_callS X [(.ref b1), (.int (2 : Int32)), (.int q)] [(.int ((1 : Int32) &&& r9))] 1 (tw16 hw) (tw17 hw) (tw18 hw) (tw19 hw) (ct_call l Z a0 hw b1 (2 : Int32) q f ov9 ro9 an9 h6 n0 X.n0le ga1 O8) at_45 pd4 rfl (by decide) rfl rfl rfl (by decide) (by decide) (by decide) (by decide) (pc' := 48) rfl ?_
  intro T h10 v X hQ
  obtain ⟨rfl, K11, O12⟩ := hQ
  show WP _ _ _ _ _ _ _ _ _ (mkF m 48 #[.val (.int f), .val (.int t), .val (.int q), .val (.ref b1), .val (.int ((1 : Int32) &&& r9))] [(.int (cRes ov9 ro9 an9 (2 : Int32) q)), (.int ((1 : Int32) &&& r9))])
  generalize e_ov13 : (crO ov9 ro9 (cA an9 (2 : Int32) q)) = ov13 at O12
  generalize e_ro13 : (crN ov9 ro9) = ro13 at O12
  generalize e_an13 : (cA an9 (2 : Int32) q) = an13 at O12
  generalize e_r13 : (cRes ov9 ro9 an9 (2 : Int32) q) = r13
  refine w_iand X at_48 (pc' := 49) rfl ?_
  refine w_istore X at_49 (L' := #[.val (.int f), .val (.int t), .val (.int q), .val (.ref b1), .val (.int (((1 : Int32) &&& r9) &&& r13))]) rfl (pc' := 51) rfl ?_
  refine w_iload X at_51 rfl (pc' := 53) rfl ?_
  refine w_aloadN X at_53 rfl rfl (pc' := 54) rfl ?_
  refine w_iconst X at_54 (v := (3 : Int32)) (by decide) (pc' := 55) rfl ?_
  refine w_iloadN X at_55 rfl (pc' := 56) rfl ?_
  refine w_callS X [(.ref b1), (.int (3 : Int32)), (.int q)] [(.int (((1 : Int32) &&& r9) &&& r13))] 1 (tw16 hw) (tw17 hw) (tw18 hw) (tw19 hw) (ct_call l Z a0 hw b1 (3 : Int32) q f ov13 ro13 an13 h10 n0 X.n0le ga1 O12) at_56 pd4 rfl (by decide) rfl rfl rfl (by decide) (by decide) (by decide) (by decide) (pc' := 59) rfl ?_
  intro T h14 v X hQ
  obtain ⟨rfl, K15, O16⟩ := hQ
  show WP _ _ _ _ _ _ _ _ _ (mkF m 59 #[.val (.int f), .val (.int t), .val (.int q), .val (.ref b1), .val (.int (((1 : Int32) &&& r9) &&& r13))] [(.int (cRes ov13 ro13 an13 (3 : Int32) q)), (.int (((1 : Int32) &&& r9) &&& r13))])
  generalize e_ov17 : (crO ov13 ro13 (cA an13 (3 : Int32) q)) = ov17 at O16
  generalize e_ro17 : (crN ov13 ro13) = ro17 at O16
  generalize e_an17 : (cA an13 (3 : Int32) q) = an17 at O16
  generalize e_r17 : (cRes ov13 ro13 an13 (3 : Int32) q) = r17
  refine w_iand X at_59 (pc' := 60) rfl ?_
  refine w_istore X at_60 (L' := #[.val (.int f), .val (.int t), .val (.int q), .val (.ref b1), .val (.int ((((1 : Int32) &&& r9) &&& r13) &&& r17))]) rfl (pc' := 62) rfl ?_
  refine w_iload X at_62 rfl (pc' := 64) rfl ?_
  refine w_aloadN X at_64 rfl rfl (pc' := 65) rfl ?_
  refine w_iconst X at_65 (v := (4 : Int32)) (by decide) (pc' := 66) rfl ?_
  refine w_iloadN X at_66 rfl (pc' := 67) rfl ?_
  refine w_callS X [(.ref b1), (.int (4 : Int32)), (.int q)] [(.int ((((1 : Int32) &&& r9) &&& r13) &&& r17))] 1 (tw16 hw) (tw17 hw) (tw18 hw) (tw19 hw) (ct_call l Z a0 hw b1 (4 : Int32) q f ov17 ro17 an17 h14 n0 X.n0le ga1 O16) at_67 pd4 rfl (by decide) rfl rfl rfl (by decide) (by decide) (by decide) (by decide) (pc' := 70) rfl ?_
  intro T h18 v X hQ
  obtain ⟨rfl, K19, O20⟩ := hQ
  show WP _ _ _ _ _ _ _ _ _ (mkF m 70 #[.val (.int f), .val (.int t), .val (.int q), .val (.ref b1), .val (.int ((((1 : Int32) &&& r9) &&& r13) &&& r17))] [(.int (cRes ov17 ro17 an17 (4 : Int32) q)), (.int ((((1 : Int32) &&& r9) &&& r13) &&& r17))])
  generalize e_ov21 : (crO ov17 ro17 (cA an17 (4 : Int32) q)) = ov21 at O20
  generalize e_ro21 : (crN ov17 ro17) = ro21 at O20
  generalize e_an21 : (cA an17 (4 : Int32) q) = an21 at O20
  generalize e_r21 : (cRes ov17 ro17 an17 (4 : Int32) q) = r21
  refine w_iand X at_70 (pc' := 71) rfl ?_
  refine w_istore X at_71 (L' := #[.val (.int f), .val (.int t), .val (.int q), .val (.ref b1), .val (.int (((((1 : Int32) &&& r9) &&& r13) &&& r17) &&& r21))]) rfl (pc' := 73) rfl ?_
  refine w_iload X at_73 rfl (pc' := 75) rfl ?_
  refine w_aloadN X at_75 rfl rfl (pc' := 76) rfl ?_
  refine w_iconst X at_76 (v := (5 : Int32)) (by decide) (pc' := 77) rfl ?_
  refine w_iloadN X at_77 rfl (pc' := 78) rfl ?_
  refine w_callS X [(.ref b1), (.int (5 : Int32)), (.int q)] [(.int (((((1 : Int32) &&& r9) &&& r13) &&& r17) &&& r21))] 1 (tw16 hw) (tw17 hw) (tw18 hw) (tw19 hw) (ct_call l Z a0 hw b1 (5 : Int32) q f ov21 ro21 an21 h18 n0 X.n0le ga1 O20) at_78 pd4 rfl (by decide) rfl rfl rfl (by decide) (by decide) (by decide) (by decide) (pc' := 81) rfl ?_
  intro T h22 v X hQ
  obtain ⟨rfl, K23, O24⟩ := hQ
  show WP _ _ _ _ _ _ _ _ _ (mkF m 81 #[.val (.int f), .val (.int t), .val (.int q), .val (.ref b1), .val (.int (((((1 : Int32) &&& r9) &&& r13) &&& r17) &&& r21))] [(.int (cRes ov21 ro21 an21 (5 : Int32) q)), (.int (((((1 : Int32) &&& r9) &&& r13) &&& r17) &&& r21))])
  generalize e_ov25 : (crO ov21 ro21 (cA an21 (5 : Int32) q)) = ov25 at O24
  generalize e_ro25 : (crN ov21 ro21) = ro25 at O24
  generalize e_an25 : (cA an21 (5 : Int32) q) = an25 at O24
  generalize e_r25 : (cRes ov21 ro21 an21 (5 : Int32) q) = r25
  refine w_iand X at_81 (pc' := 82) rfl ?_
  refine w_istore X at_82 (L' := #[.val (.int f), .val (.int t), .val (.int q), .val (.ref b1), .val (.int ((((((1 : Int32) &&& r9) &&& r13) &&& r17) &&& r21) &&& r25))]) rfl (pc' := 84) rfl ?_
  refine w_iload X at_84 rfl (pc' := 86) rfl ?_
  refine w_aloadN X at_86 rfl rfl (pc' := 87) rfl ?_
  refine w_bipush X at_87 (v := (6 : Int32)) (by decide) (pc' := 89) rfl ?_
  refine w_iloadN X at_89 rfl (pc' := 90) rfl ?_
  refine w_callS X [(.ref b1), (.int (6 : Int32)), (.int q)] [(.int ((((((1 : Int32) &&& r9) &&& r13) &&& r17) &&& r21) &&& r25))] 1 (tw16 hw) (tw17 hw) (tw18 hw) (tw19 hw) (ct_call l Z a0 hw b1 (6 : Int32) q f ov25 ro25 an25 h22 n0 X.n0le ga1 O24) at_90 pd4 rfl (by decide) rfl rfl rfl (by decide) (by decide) (by decide) (by decide) (pc' := 93) rfl ?_
  intro T h26 v X hQ
  obtain ⟨rfl, K27, O28⟩ := hQ
  show WP _ _ _ _ _ _ _ _ _ (mkF m 93 #[.val (.int f), .val (.int t), .val (.int q), .val (.ref b1), .val (.int ((((((1 : Int32) &&& r9) &&& r13) &&& r17) &&& r21) &&& r25))] [(.int (cRes ov25 ro25 an25 (6 : Int32) q)), (.int ((((((1 : Int32) &&& r9) &&& r13) &&& r17) &&& r21) &&& r25))])
  generalize e_ov29 : (crO ov25 ro25 (cA an25 (6 : Int32) q)) = ov29 at O28
  generalize e_ro29 : (crN ov25 ro25) = ro29 at O28
  generalize e_an29 : (cA an25 (6 : Int32) q) = an29 at O28
  generalize e_r29 : (cRes ov25 ro25 an25 (6 : Int32) q) = r29
  refine w_iand X at_93 (pc' := 94) rfl ?_
  refine w_istore X at_94 (L' := #[.val (.int f), .val (.int t), .val (.int q), .val (.ref b1), .val (.int (((((((1 : Int32) &&& r9) &&& r13) &&& r17) &&& r21) &&& r25) &&& r29))]) rfl (pc' := 96) rfl ?_
  refine w_iload X at_96 rfl (pc' := 98) rfl ?_
  refine w_aloadN X at_98 rfl rfl (pc' := 99) rfl ?_
  refine w_bipush X at_99 (v := (7 : Int32)) (by decide) (pc' := 101) rfl ?_
  refine w_iloadN X at_101 rfl (pc' := 102) rfl ?_
  refine w_callS X [(.ref b1), (.int (7 : Int32)), (.int q)] [(.int (((((((1 : Int32) &&& r9) &&& r13) &&& r17) &&& r21) &&& r25) &&& r29))] 1 (tw16 hw) (tw17 hw) (tw18 hw) (tw19 hw) (ct_call l Z a0 hw b1 (7 : Int32) q f ov29 ro29 an29 h26 n0 X.n0le ga1 O28) at_102 pd4 rfl (by decide) rfl rfl rfl (by decide) (by decide) (by decide) (by decide) (pc' := 105) rfl ?_
  intro T h30 v X hQ
  obtain ⟨rfl, K31, O32⟩ := hQ
  show WP _ _ _ _ _ _ _ _ _ (mkF m 105 #[.val (.int f), .val (.int t), .val (.int q), .val (.ref b1), .val (.int (((((((1 : Int32) &&& r9) &&& r13) &&& r17) &&& r21) &&& r25) &&& r29))] [(.int (cRes ov29 ro29 an29 (7 : Int32) q)), (.int (((((((1 : Int32) &&& r9) &&& r13) &&& r17) &&& r21) &&& r25) &&& r29))])
  generalize e_ov33 : (crO ov29 ro29 (cA an29 (7 : Int32) q)) = ov33 at O32
  generalize e_ro33 : (crN ov29 ro29) = ro33 at O32
  generalize e_an33 : (cA an29 (7 : Int32) q) = an33 at O32
  generalize e_r33 : (cRes ov29 ro29 an29 (7 : Int32) q) = r33
  refine w_iand X at_105 (pc' := 106) rfl ?_
  refine w_istore X at_106 (L' := #[.val (.int f), .val (.int t), .val (.int q), .val (.ref b1), .val (.int ((((((((1 : Int32) &&& r9) &&& r13) &&& r17) &&& r21) &&& r25) &&& r29) &&& r33))]) rfl (pc' := 108) rfl ?_
  refine w_iloadN X at_108 rfl (pc' := 109) rfl ?_
  refine w_bipush X at_109 (v := (7 : Int32)) (by decide) (pc' := 111) rfl ?_
  refine w_icmp_ne X at_111 (by decide) (p1 := 118) (by decide) (p2 := 114) rfl (fun c111 => ?_) (fun c111 => ?_)
  · -- c111 taken
    refine w_iload X at_118 rfl (pc' := 120) rfl ?_
    refine w_aloadN X at_120 rfl rfl (pc' := 121) rfl ?_
    refine w_callV X [] [(.int ((((((((1 : Int32) &&& r9) &&& r13) &&& r17) &&& r21) &&& r25) &&& r29) &&& r33))] 1 (tw36 hw) (tw37 hw) (tw39 hw) (tw38 hw) (tw2 hw) (tw40 hw) O32.exa (ct_set l Z a0 hw b1 f ov33 ro33 an33 h30 n0 X.n0le ga1 O32) at_121 pd0 rfl (by decide) rfl rfl rfl (by decide) (by decide) (by decide) (by decide) (pc' := 124) rfl ?_
    intro T hz v X hQ
    obtain ⟨rfl, hz1⟩ := hQ; replace hz1 := hz1.symm; subst hz1
    show WP _ _ _ _ _ _ _ _ _ (mkF m 124 #[.val (.int f), .val (.int t), .val (.int q), .val (.ref b1), .val (.int ((((((((1 : Int32) &&& r9) &&& r13) &&& r17) &&& r21) &&& r25) &&& r29) &&& r33))] [(.int (saR ov33)), (.int ((((((((1 : Int32) &&& r9) &&& r13) &&& r17) &&& r21) &&& r25) &&& r29) &&& r33))])
    refine w_iloadN X at_124 rfl (pc' := 125) rfl ?_
    refine w_bipush X at_125 (v := (6 : Int32)) (by decide) (pc' := 127) rfl ?_
    refine w_icmp_ge X at_127 (by decide) (p1 := 134) (by decide) (p2 := 130) rfl (fun c127 => ?_) (fun c127 => ?_)
    · -- c127 taken
      refine w_iconst X at_134 (v := (0 : Int32)) (by decide) (pc' := 135) rfl ?_
      refine w_icmp_ne X at_135 (by decide) (p1 := 142) (by decide) (p2 := 138) rfl (fun c135 => ?_) (fun c135 => ?_)
      · -- c135 taken
        refine w_iconst X at_142 (v := (0 : Int32)) (by decide) (pc' := 143) rfl ?_
        refine w_iand X at_143 (pc' := 144) rfl ?_
        refine w_istore X at_144 (L' := #[.val (.int f), .val (.int t), .val (.int q), .val (.ref b1), .val (.int (((((((((1 : Int32) &&& r9) &&& r13) &&& r17) &&& r21) &&& r25) &&& r29) &&& r33) &&& (0 : Int32)))]) rfl (pc' := 146) rfl ?_
        refine w_iload X at_146 rfl (pc' := 148) rfl ?_
        have e1 : (((((((((1 : Int32) &&& r9) &&& r13) &&& r17) &&& r21) &&& r25) &&& r29) &&& r33) &&& (0 : Int32)) = 1 := by
          have hq : q = 0 ∨ q = 1 ∨ q = 2 ∨ q = 3 ∨ q = 4 ∨ q = 5 ∨ q = 6 ∨ q = 7 := and7 h_q
          clear h_q X
          rcases hq with rfl | rfl | rfl | rfl | rfl | rfl | rfl | rfl <;> subst_vars <;> first | decide +kernel | (exfalso; revert c111 c127 c135; decide +kernel)
        rw [e1]
        exact w_retZ X rfl at_148 (by decide) (by decide) (by decide) rfl
      · -- c135 not taken
        refine w_iconst X at_138 (v := (1 : Int32)) (by decide) (pc' := 139) rfl ?_
        refine w_goto X at_139 (by decide) (pc' := 143) (by decide) ?_
        refine w_iand X at_143 (pc' := 144) rfl ?_
        refine w_istore X at_144 (L' := #[.val (.int f), .val (.int t), .val (.int q), .val (.ref b1), .val (.int (((((((((1 : Int32) &&& r9) &&& r13) &&& r17) &&& r21) &&& r25) &&& r29) &&& r33) &&& (1 : Int32)))]) rfl (pc' := 146) rfl ?_
        refine w_iload X at_146 rfl (pc' := 148) rfl ?_
        have e1 : (((((((((1 : Int32) &&& r9) &&& r13) &&& r17) &&& r21) &&& r25) &&& r29) &&& r33) &&& (1 : Int32)) = 1 := by
          have hq : q = 0 ∨ q = 1 ∨ q = 2 ∨ q = 3 ∨ q = 4 ∨ q = 5 ∨ q = 6 ∨ q = 7 := and7 h_q
          clear h_q X
          rcases hq with rfl | rfl | rfl | rfl | rfl | rfl | rfl | rfl <;> subst_vars <;> first | decide +kernel | (exfalso; revert c111 c127 c135; decide +kernel)
        rw [e1]
        exact w_retZ X rfl at_148 (by decide) (by decide) (by decide) rfl
    · -- c127 not taken
      refine w_iconst X at_130 (v := (1 : Int32)) (by decide) (pc' := 131) rfl ?_
      refine w_goto X at_131 (by decide) (pc' := 135) (by decide) ?_
      refine w_icmp_ne X at_135 (by decide) (p1 := 142) (by decide) (p2 := 138) rfl (fun c135 => ?_) (fun c135 => ?_)
      · -- c135 taken
        refine w_iconst X at_142 (v := (0 : Int32)) (by decide) (pc' := 143) rfl ?_
        refine w_iand X at_143 (pc' := 144) rfl ?_
        refine w_istore X at_144 (L' := #[.val (.int f), .val (.int t), .val (.int q), .val (.ref b1), .val (.int (((((((((1 : Int32) &&& r9) &&& r13) &&& r17) &&& r21) &&& r25) &&& r29) &&& r33) &&& (0 : Int32)))]) rfl (pc' := 146) rfl ?_
        refine w_iload X at_146 rfl (pc' := 148) rfl ?_
        have e1 : (((((((((1 : Int32) &&& r9) &&& r13) &&& r17) &&& r21) &&& r25) &&& r29) &&& r33) &&& (0 : Int32)) = 1 := by
          have hq : q = 0 ∨ q = 1 ∨ q = 2 ∨ q = 3 ∨ q = 4 ∨ q = 5 ∨ q = 6 ∨ q = 7 := and7 h_q
          clear h_q X
          rcases hq with rfl | rfl | rfl | rfl | rfl | rfl | rfl | rfl <;> subst_vars <;> first | decide +kernel | (exfalso; revert c111 c127 c135; decide +kernel)
        rw [e1]
        exact w_retZ X rfl at_148 (by decide) (by decide) (by decide) rfl
      · -- c135 not taken
        refine w_iconst X at_138 (v := (1 : Int32)) (by decide) (pc' := 139) rfl ?_
        refine w_goto X at_139 (by decide) (pc' := 143) (by decide) ?_
        refine w_iand X at_143 (pc' := 144) rfl ?_
        refine w_istore X at_144 (L' := #[.val (.int f), .val (.int t), .val (.int q), .val (.ref b1), .val (.int (((((((((1 : Int32) &&& r9) &&& r13) &&& r17) &&& r21) &&& r25) &&& r29) &&& r33) &&& (1 : Int32)))]) rfl (pc' := 146) rfl ?_
        refine w_iload X at_146 rfl (pc' := 148) rfl ?_
        have e1 : (((((((((1 : Int32) &&& r9) &&& r13) &&& r17) &&& r21) &&& r25) &&& r29) &&& r33) &&& (1 : Int32)) = 1 := by
          have hq : q = 0 ∨ q = 1 ∨ q = 2 ∨ q = 3 ∨ q = 4 ∨ q = 5 ∨ q = 6 ∨ q = 7 := and7 h_q
          clear h_q X
          rcases hq with rfl | rfl | rfl | rfl | rfl | rfl | rfl | rfl <;> subst_vars <;> first | decide +kernel | (exfalso; revert c111 c127 c135; decide +kernel)
        rw [e1]
        exact w_retZ X rfl at_148 (by decide) (by decide) (by decide) rfl
  · -- c111 not taken
    refine w_aloadN X at_114 rfl rfl (pc' := 115) rfl ?_
    refine w_callV X [] [] 0 (tw31 hw) (tw32 hw) (tw34 hw) (tw33 hw) (tw2 hw) (tw35 hw) O32.exa (ct_rec l Z a0 hw b1 f ov33 ro33 an33 h30 n0 X.n0le ga1 O32) at_115 pd1 rfl (by decide) rfl rfl rfl (by decide) (by decide) (by decide) (by decide) (pc' := 118) rfl ?_
    intro T h34 v X hQ
    obtain ⟨rfl, K35, O36⟩ := hQ
    show WP _ _ _ _ _ _ _ _ _ (mkF m 118 #[.val (.int f), .val (.int t), .val (.int q), .val (.ref b1), .val (.int ((((((((1 : Int32) &&& r9) &&& r13) &&& r17) &&& r21) &&& r25) &&& r29) &&& r33))] [])
    refine w_iload X at_118 rfl (pc' := 120) rfl ?_
    refine w_aloadN X at_120 rfl rfl (pc' := 121) rfl ?_
    refine w_callV X [] [(.int ((((((((1 : Int32) &&& r9) &&& r13) &&& r17) &&& r21) &&& r25) &&& r29) &&& r33))] 1 (tw36 hw) (tw37 hw) (tw39 hw) (tw38 hw) (tw2 hw) (tw40 hw) O36.exa (ct_set l Z a0 hw b1 f ov33 ro33 (1 : Int32) h34 n0 X.n0le ga1 O36) at_121 pd0 rfl (by decide) rfl rfl rfl (by decide) (by decide) (by decide) (by decide) (pc' := 124) rfl ?_
    intro T hz v X hQ
    obtain ⟨rfl, hz1⟩ := hQ; replace hz1 := hz1.symm; subst hz1
    show WP _ _ _ _ _ _ _ _ _ (mkF m 124 #[.val (.int f), .val (.int t), .val (.int q), .val (.ref b1), .val (.int ((((((((1 : Int32) &&& r9) &&& r13) &&& r17) &&& r21) &&& r25) &&& r29) &&& r33))] [(.int (saR ov33)), (.int ((((((((1 : Int32) &&& r9) &&& r13) &&& r17) &&& r21) &&& r25) &&& r29) &&& r33))])
    refine w_iloadN X at_124 rfl (pc' := 125) rfl ?_
    refine w_bipush X at_125 (v := (6 : Int32)) (by decide) (pc' := 127) rfl ?_
    refine w_icmp_ge X at_127 (by decide) (p1 := 134) (by decide) (p2 := 130) rfl (fun c127 => ?_) (fun c127 => ?_)
    · -- c127 taken
      refine w_iconst X at_134 (v := (0 : Int32)) (by decide) (pc' := 135) rfl ?_
      refine w_icmp_ne X at_135 (by decide) (p1 := 142) (by decide) (p2 := 138) rfl (fun c135 => ?_) (fun c135 => ?_)
      · -- c135 taken
        refine w_iconst X at_142 (v := (0 : Int32)) (by decide) (pc' := 143) rfl ?_
        refine w_iand X at_143 (pc' := 144) rfl ?_
        refine w_istore X at_144 (L' := #[.val (.int f), .val (.int t), .val (.int q), .val (.ref b1), .val (.int (((((((((1 : Int32) &&& r9) &&& r13) &&& r17) &&& r21) &&& r25) &&& r29) &&& r33) &&& (0 : Int32)))]) rfl (pc' := 146) rfl ?_
        refine w_iload X at_146 rfl (pc' := 148) rfl ?_
        have e1 : (((((((((1 : Int32) &&& r9) &&& r13) &&& r17) &&& r21) &&& r25) &&& r29) &&& r33) &&& (0 : Int32)) = 1 := by
          have hq : q = 0 ∨ q = 1 ∨ q = 2 ∨ q = 3 ∨ q = 4 ∨ q = 5 ∨ q = 6 ∨ q = 7 := and7 h_q
          clear h_q X
          rcases hq with rfl | rfl | rfl | rfl | rfl | rfl | rfl | rfl <;> subst_vars <;> first | decide +kernel | (exfalso; revert c111 c127 c135; decide +kernel)
        rw [e1]
        exact w_retZ X rfl at_148 (by decide) (by decide) (by decide) rfl
      · -- c135 not taken
        refine w_iconst X at_138 (v := (1 : Int32)) (by decide) (pc' := 139) rfl ?_
        refine w_goto X at_139 (by decide) (pc' := 143) (by decide) ?_
        refine w_iand X at_143 (pc' := 144) rfl ?_
        refine w_istore X at_144 (L' := #[.val (.int f), .val (.int t), .val (.int q), .val (.ref b1), .val (.int (((((((((1 : Int32) &&& r9) &&& r13) &&& r17) &&& r21) &&& r25) &&& r29) &&& r33) &&& (1 : Int32)))]) rfl (pc' := 146) rfl ?_
        refine w_iload X at_146 rfl (pc' := 148) rfl ?_
        have e1 : (((((((((1 : Int32) &&& r9) &&& r13) &&& r17) &&& r21) &&& r25) &&& r29) &&& r33) &&& (1 : Int32)) = 1 := by
          have hq : q = 0 ∨ q = 1 ∨ q = 2 ∨ q = 3 ∨ q = 4 ∨ q = 5 ∨ q = 6 ∨ q = 7 := and7 h_q
          clear h_q X
          rcases hq with rfl | rfl | rfl | rfl | rfl | rfl | rfl | rfl <;> subst_vars <;> first | decide +kernel | (exfalso; revert c111 c127 c135; decide +kernel)
        rw [e1]
        exact w_retZ X rfl at_148 (by decide) (by decide) (by decide) rfl
    · -- c127 not taken
      refine w_iconst X at_130 (v := (1 : Int32)) (by decide) (pc' := 131) rfl ?_
      refine w_goto X at_131 (by decide) (pc' := 135) (by decide) ?_
      refine w_icmp_ne X at_135 (by decide) (p1 := 142) (by decide) (p2 := 138) rfl (fun c135 => ?_) (fun c135 => ?_)
      · -- c135 taken
        refine w_iconst X at_142 (v := (0 : Int32)) (by decide) (pc' := 143) rfl ?_
        refine w_iand X at_143 (pc' := 144) rfl ?_
        refine w_istore X at_144 (L' := #[.val (.int f), .val (.int t), .val (.int q), .val (.ref b1), .val (.int (((((((((1 : Int32) &&& r9) &&& r13) &&& r17) &&& r21) &&& r25) &&& r29) &&& r33) &&& (0 : Int32)))]) rfl (pc' := 146) rfl ?_
        refine w_iload X at_146 rfl (pc' := 148) rfl ?_
        have e1 : (((((((((1 : Int32) &&& r9) &&& r13) &&& r17) &&& r21) &&& r25) &&& r29) &&& r33) &&& (0 : Int32)) = 1 := by
          have hq : q = 0 ∨ q = 1 ∨ q = 2 ∨ q = 3 ∨ q = 4 ∨ q = 5 ∨ q = 6 ∨ q = 7 := and7 h_q
          clear h_q X
          rcases hq with rfl | rfl | rfl | rfl | rfl | rfl | rfl | rfl <;> subst_vars <;> first | decide +kernel | (exfalso; revert c111 c127 c135; decide +kernel)
        rw [e1]
        exact w_retZ X rfl at_148 (by decide) (by decide) (by decide) rfl
      · -- c135 not taken
        refine w_iconst X at_138 (v := (1 : Int32)) (by decide) (pc' := 139) rfl ?_
        refine w_goto X at_139 (by decide) (pc' := 143) (by decide) ?_
        refine w_iand X at_143 (pc' := 144) rfl ?_
        refine w_istore X at_144 (L' := #[.val (.int f), .val (.int t), .val (.int q), .val (.ref b1), .val (.int (((((((((1 : Int32) &&& r9) &&& r13) &&& r17) &&& r21) &&& r25) &&& r29) &&& r33) &&& (1 : Int32)))]) rfl (pc' := 146) rfl ?_
        refine w_iload X at_146 rfl (pc' := 148) rfl ?_
        have e1 : (((((((((1 : Int32) &&& r9) &&& r13) &&& r17) &&& r21) &&& r25) &&& r29) &&& r33) &&& (1 : Int32)) = 1 := by
          have hq : q = 0 ∨ q = 1 ∨ q = 2 ∨ q = 3 ∨ q = 4 ∨ q = 5 ∨ q = 6 ∨ q = 7 := and7 h_q
          clear h_q X
          rcases hq with rfl | rfl | rfl | rfl | rfl | rfl | rfl | rfl <;> subst_vars <;> first | decide +kernel | (exfalso; revert c111 c127 c135; decide +kernel)
        rw [e1]
        exact w_retZ X rfl at_148 (by decide) (by decide) (by decide) rfl
set_option maxRecDepth 65536 in
set_option maxHeartbeats 4000000 in
theorem comes_1 {Post : Tables → Env → Array Value → State → Outcome → State → Prop} (hpost : ∀ tb e args s v u, (limb_1_1.after args s (.returned v) u = true ∧ limb_1_2.after args s (.returned v) u = true ∧ True) → FrameEnd s (.returned v) u (Jvm.fieldLocs frame_1_writes args s ++ Jvm.arrayLocs frame_1_arrays args s ++ Jvm.staticLocs frame_1_statics s) 16 128 → Post tb e args s (.returned v) u) :
    ArmFor flags0 classFile x code maxLocals ret World_1 tables_1 room_1 Calls_1 rest_1 Pre_1 Post := by
  intro l hfl _ _ p e ha hc hk s m args below hf hA hF happ hP
  obtain ⟨hcalls, hrest, hpre⟩ := hP
  obtain ⟨-, -, -, hnamed, -, -, -, hat⟩ := (Spec.applies_iff hf).mp happ
  obtain ⟨hg, hn⟩ := and_e (Cond.before_iff.mp (show (Jvm.Cond.and given_1 narrow_1).before args s = true from hpre))
  obtain ⟨g1a, g1b⟩ := and_e hg
  obtain ⟨g2a, g2b⟩ := and_e g1b
  obtain ⟨w0, w1, rfl⟩ : ∃ w0 w1 : Value, args = #[w0, w1] := by
    have hs : args.size = 2 := by simpa [Cond.value, given_1] using g1a
    obtain ⟨L⟩ := args
    match L, hs with
    | [w0, w1], _ => exact ⟨w0, w1, rfl⟩
  have hw := fun d (hd : d ∈ tables_1) => atoms_spec (ws := Jvm.Cond.code x code maxLocals ret :: tables_1) hat d (List.mem_cons_of_mem _ hd)
  obtain ⟨i0, ei0⟩ := is_v g2a
  obtain rfl : w0 = (.int i0) := Option.some.inj ei0
  obtain ⟨i1, ei1⟩ := is_v g2b
  obtain rfl : w1 = (.int i1) := Option.some.inj ei1
  obtain ⟨n, o, h1, h2, h3, _, L, rfl, ⟨rfl, N⟩, hq⟩ := ct_law l s _ hw i0 i1 s.heap s.heap.size (Nat.le_refl _) tables_1 p e ha hc hk s m _ below hf ((Spec.applies_iff_loose hf).mp happ).1 ⟨rfl, State.Warmed39.refl s, rfl⟩ trivial
  exact ⟨n, _, h1, h2, h3, hpost _ _ _ _ _ _ ⟨Cond.after_iff.mpr rfl, Cond.after_iff.mpr (eq_i res_at (Term.int_eval (1)) rfl), trivial⟩ ⟨hq.1, hq.2.1, (hq.2.2.sift fun y hy => Or.inr (N y hy)).mono (by decide) (by decide)⟩⟩
theorem main_1_1 : Claimed_1_1 := comes_1 fun _ _ _ _ _ _ h hF => ⟨h.1, hF⟩
theorem main_1_2 : Claimed_1_2 := comes_1 fun _ _ _ _ _ _ h hF => ⟨h.2.1, hF⟩
end Jvm.Pilot.@@N@@
namespace Jvm.Pilot.@@N@@
open Jvm Jvm.ClassFile Sem Op Lib Jvm.Free Jvm.Stand Jvm.Pilot.@@N@@.Jvm.D
/-! MADE BY PROGRAM (witnessworld.py) out of the Statement's table words and the real class files: 9 classes; the members and pool entries that the words name. The judged class is class 1, her method 2. -/
namespace start1
open Jvm.ClassFile
def u (s : String) : CpInfo := .utf8 (stringToUtf16 s)
/-- a pool by its gaps: so many unusable entries, then the entry; so many at the end -/
def gap : Nat → List CpInfo → List CpInfo
  | 0, r => r
  | n + 1, r => .unusable :: gap n r
def poolList (es : List (Nat × CpInfo)) (last : Nat) : List CpInfo := es.foldr (fun e r => gap e.1 (e.2 :: r)) (gap last [])
def pool (es : List (Nat × CpInfo)) (last : Nat) : Array CpInfo := ⟨poolList es last⟩
def fileOf (pool : Array CpInfo) (this : Nat) (attrs : Array Attribute := #[]) (ms : Array MethodInfo := #[]) (fl : Nat := 33) (sup : Nat := 0) (ifs : Array Nat := #[]) (fds : Array FieldInfo := #[]) : ClassFile where
  minorVersion := 0
  majorVersion := 65
  constantPool := pool
  accessFlags := fl
  thisClass := this
  superClass := sup
  interfaces := ifs
  fields := fds
  methods := ms
  attributes := attrs
def plain (name : String) (sup : Option ClassId) : Class where
  name := name
  kind := .ordinary
  loader := none
  accessFlags := 33
  super := sup
  interfaces := #[]
  cf := none
  fields := #[]
  methods := #[]
  instanceTypes := #[]
  staticTypes := #[]
  resolved := #[]
  callSites := []
  init := .initialized
  statics := none
  mirror := none

def pool0 : Array CpInfo := pool [(5, u "<init>"), (0, u "()V"), (1, .class_ 10), (1, u "java/lang/Object")] 113

def k0c0 : Code := { maxStack := 0, maxLocals := 1, code := object_method_1_code, exceptionTable := #[], attributes := #[] }
def k0m0 : Method := { name := "<init>", desc := "()V", sig := { parameters := [], returnType := none }, accessFlags := 1, code := some k0c0 }
/-- java/lang/Object -/
def k0 : Class := { plain "java/lang/Object" none with
  accessFlags := 33
  interfaces := #[]
  cf := some (fileOf pool0 8 #[] #[{ accessFlags := 1, nameIndex := 5, descriptorIndex := 6, attributes := #[] }] 33 0 #[] #[])
  fields := #[]
  methods := #[k0m0]
  instanceTypes := #[]
  staticTypes := #[]
  resolved := Array.replicate 124 none
  statics := none }

def pool1 : Array CpInfo := pool [(2, .class_ 4), (1, u "java/lang/Object"), (0, u "<init>"), (0, u "()V"), (0, .methodref 8 9), (0, .class_ 10), (0, .nameAndType 11 6), (0, u "com/example/weft/weft/net/Fetch"), (0, u "recordBegun"), (0, .methodref 8 13), (0, .nameAndType 14 15), (0, u "countRound"), (0, u "()Z"), (0, .methodref 8 17), (0, .nameAndType 5 18), (0, u "(I)V"), (0, .methodref 8 20), (0, .nameAndType 21 22), (0, u "from"), (0, u "()I"), (0, .methodref 24 25), (0, .class_ 26), (0, .nameAndType 27 28), (0, u "com/example/weft/weft/net/FetchCountRoundPinLaw"), (0, u "call"), (0, u "(Lcom/example/weft/weft/net/Fetch;II)Z"), (0, .methodref 8 30), (0, .nameAndType 31 15), (0, u "setsAside"), (3, u "law"), (0, u "(II)Z")] 2

def k1m0 : Method := { name := "<init>", desc := "()V", sig := { parameters := [], returnType := none }, accessFlags := 1, code := none }
def k1c1 : Code := { maxStack := 3, maxLocals := 4, code := method_2_code, exceptionTable := #[], attributes := #[] }
def k1m1 : Method := { name := "call", desc := "(Lcom/example/weft/weft/net/Fetch;II)Z", sig := { parameters := [(.object "com/example/weft/weft/net/Fetch"), .int, .int], returnType := some .boolean }, accessFlags := 10, code := some k1c1 }
def k1c2 : Code := { maxStack := 4, maxLocals := 5, code := code, exceptionTable := #[], attributes := #[] }
def k1m2 : Method := { name := "law", desc := "(II)Z", sig := { parameters := [.int, .int], returnType := some .boolean }, accessFlags := 9, code := some k1c2 }
/-- com/example/weft/weft/net/FetchCountRoundPinLaw -/
def k1 : Class := { plain "com/example/weft/weft/net/FetchCountRoundPinLaw" (some 0) with
  accessFlags := 49
  interfaces := #[]
  cf := some (fileOf pool1 24 #[] #[{ accessFlags := 1, nameIndex := 5, descriptorIndex := 6, attributes := #[] }, { accessFlags := 10, nameIndex := 27, descriptorIndex := 28, attributes := #[] }, { accessFlags := 9, nameIndex := 35, descriptorIndex := 36, attributes := #[] }] 49 2 #[] #[])
  fields := #[]
  methods := #[k1m0, k1m1, k1m2]
  instanceTypes := #[]
  staticTypes := #[]
  resolved := Array.replicate 39 none
  statics := none }

def pool2 : Array CpInfo := pool [(1, .methodref 2 3), (0, .class_ 4), (0, .nameAndType 5 6), (0, u "java/lang/Object"), (0, u "<init>"), (0, u "()V"), (0, .fieldref 8 9), (0, .class_ 10), (0, .nameAndType 11 12), (0, u "com/example/weft/weft/net/Fetch"), (0, u "from"), (0, u "I"), (0, .fieldref 8 14), (0, .nameAndType 15 16), (0, u "answering"), (0, u "Z"), (0, .fieldref 8 18), (0, .nameAndType 19 16), (0, u "overdue"), (0, .fieldref 8 21), (0, .nameAndType 22 12), (0, u "rounds"), (0, u "ANSWER_ROUNDS"), (2, u "PORTION_ROUNDS"), (1, u "(I)V"), (2, u "()I"), (0, u "recordBegun"), (0, u "setsAside"), (0, u "()Z"), (1, u "countRound")] 2

def k2c0 : Code := { maxStack := 2, maxLocals := 2, code := prog_92_method_1_code, exceptionTable := #[], attributes := #[] }
def k2m0 : Method := { name := "<init>", desc := "(I)V", sig := { parameters := [.int], returnType := none }, accessFlags := 0, code := some k2c0 }
def k2c1 : Code := { maxStack := 1, maxLocals := 1, code := prog_92_method_2_code, exceptionTable := #[], attributes := #[] }
def k2m1 : Method := { name := "from", desc := "()I", sig := { parameters := [], returnType := some .int }, accessFlags := 0, code := some k2c1 }
def k2c2 : Code := { maxStack := 2, maxLocals := 1, code := prog_92_method_3_code, exceptionTable := #[], attributes := #[] }
def k2m2 : Method := { name := "recordBegun", desc := "()V", sig := { parameters := [], returnType := none }, accessFlags := 0, code := some k2c2 }
def k2c3 : Code := { maxStack := 1, maxLocals := 1, code := prog_92_method_4_code, exceptionTable := #[], attributes := #[] }
def k2m3 : Method := { name := "setsAside", desc := "()Z", sig := { parameters := [], returnType := some .boolean }, accessFlags := 0, code := some k2c3 }
def k2c4 : Code := { maxStack := 3, maxLocals := 1, code := prog_92_method_5_code, exceptionTable := #[], attributes := #[] }
def k2m4 : Method := { name := "countRound", desc := "()Z", sig := { parameters := [], returnType := some .boolean }, accessFlags := 0, code := some k2c4 }
/-- com/example/weft/weft/net/Fetch -/
def k2 : Class := { plain "com/example/weft/weft/net/Fetch" (some 0) with
  accessFlags := 48
  interfaces := #[]
  cf := some (fileOf pool2 8 #[] #[{ accessFlags := 0, nameIndex := 5, descriptorIndex := 28, attributes := #[] }, { accessFlags := 0, nameIndex := 11, descriptorIndex := 31, attributes := #[] }, { accessFlags := 0, nameIndex := 32, descriptorIndex := 6, attributes := #[] }, { accessFlags := 0, nameIndex := 33, descriptorIndex := 34, attributes := #[] }, { accessFlags := 0, nameIndex := 36, descriptorIndex := 34, attributes := #[] }] 48 2 #[] #[{ accessFlags := 24, nameIndex := 23, descriptorIndex := 12, attributes := #[] }, { accessFlags := 24, nameIndex := 26, descriptorIndex := 12, attributes := #[] }, { accessFlags := 18, nameIndex := 11, descriptorIndex := 12, attributes := #[] }, { accessFlags := 2, nameIndex := 22, descriptorIndex := 12, attributes := #[] }, { accessFlags := 2, nameIndex := 15, descriptorIndex := 16, attributes := #[] }, { accessFlags := 2, nameIndex := 19, descriptorIndex := 16, attributes := #[] }])
  fields := #[{ name := "ANSWER_ROUNDS", type := .int, accessFlags := 24, slot := 0, constantValue := 0 }, { name := "PORTION_ROUNDS", type := .int, accessFlags := 24, slot := 1, constantValue := 0 }, { name := "from", type := .int, accessFlags := 18, slot := 0, constantValue := 0 }, { name := "rounds", type := .int, accessFlags := 2, slot := 1, constantValue := 0 }, { name := "answering", type := .boolean, accessFlags := 2, slot := 2, constantValue := 0 }, { name := "overdue", type := .boolean, accessFlags := 2, slot := 3, constantValue := 0 }]
  methods := #[k2m0, k2m1, k2m2, k2m3, k2m4]
  instanceTypes := #[.int, .int, .boolean, .boolean]
  staticTypes := #[.int, .int]
  resolved := Array.replicate 39 none
  statics := none }

def pool3 : Array CpInfo := pool [(1, u "java/lang/Cloneable"), (0, .class_ 1), (0, u "java/lang/Object"), (0, .class_ 3)] 3

/-- java/lang/Cloneable -/
def k3 : Class := { plain "java/lang/Cloneable" (some 0) with
  accessFlags := 1537
  interfaces := #[]
  cf := some (fileOf pool3 2 #[] #[] 1537 4 #[] #[])
  fields := #[]
  methods := #[]
  instanceTypes := #[]
  staticTypes := #[]
  resolved := Array.replicate 8 none
  statics := none }

def pool4 : Array CpInfo := pool [(1, u "java/io/Serializable"), (0, .class_ 1), (0, u "java/lang/Object"), (0, .class_ 3)] 3

/-- java/io/Serializable -/
def k4 : Class := { plain "java/io/Serializable" (some 0) with
  accessFlags := 1537
  interfaces := #[]
  cf := some (fileOf pool4 2 #[] #[] 1537 4 #[] #[])
  fields := #[]
  methods := #[]
  instanceTypes := #[]
  staticTypes := #[]
  resolved := Array.replicate 8 none
  statics := none }

/-- the primitive byte -/
def k5 : Class := { plain "byte" none with kind := .primitive 'B', accessFlags := 0x411 }
/-- [B -/
def k6 : Class := { plain "[B" (some 0) with kind := .array 5 .byte, interfaces := #[3, 4], accessFlags := 1041 }

/-- the primitive int -/
def k7 : Class := { plain "int" none with kind := .primitive 'I', accessFlags := 0x411 }
/-- [I -/
def k8 : Class := { plain "[I" (some 0) with kind := .array 7 .int, interfaces := #[3, 4], accessFlags := 1041 }

def heap : Heap := #[]
def classes : Array Class := #[k0, k1, k2, k3, k4, k5, k6, k7, k8]
def interned : List (Array UInt16 × Addr) := []
def slotsUsed : Nat := 0
def theMethod : MethodId := ⟨1, 2⟩
def args0 : Array Value := #[.int 5, .int 5]
def aboutOver (below : List Frame) : State where
  vm := { classes := classes, interned := interned.toArray }
  heap := heap
  slotsUsed := slotsUsed
  threads := #[{ frames := .invoking theMethod args0 :: below }]
def below0 : List Frame := [.native { method := ⟨0, 0⟩, args := #[] }]
def about1 : State := aboutOver below0
def p0 : Program := .bare "" "" ""
def e0 : Env := launch0.env 0 0 0
theorem w_frames : about1.frames = Frame.invoking theMethod args0 :: below0 := rfl
set_option maxRecDepth 65536 in
theorem w_args : argsFit about1.vm theMethod args0 = true := by decide +kernel
set_option maxRecDepth 65536 in
theorem w_heap : heapFits about1 = true := by decide +kernel
set_option maxRecDepth 65536 in
theorem w_runnable : about1.curStatus? = some .runnable := by decide +kernel
set_option maxRecDepth 65536 in
theorem w_alone : about1.alone = true := by decide +kernel
set_option maxRecDepth 65536 in
theorem w_named : about1.methodNamed? x = some theMethod := by decide +kernel
set_option maxRecDepth 65536 in
theorem w_hears : about1.hears theMethod below0 = true := by decide +kernel
set_option maxRecDepth 65536 in
theorem w_ripe : about1.ripe theMethod args0 below0 = true := by decide +kernel
theorem w_running : about1.status = .running := rfl
set_option maxRecDepth 65536 in
theorem w_room : about1.hasRoom e0.platform room_1 = true :=
  launch0.hasRoom_least _ room_1 (by decide +kernel) (by decide +kernel) (by decide +kernel) (by decide +kernel) (by decide +kernel) (by decide +kernel)
theorem allAtoms_all (ts : List Jvm.Cond) (a : Array Jvm.Value) (st : Jvm.State) : (allAtoms ts).before a st = ts.all (fun c => c.before a st) := by
  induction ts with
  | nil => rfl
  | cons c t ih =>
    show (Jvm.Cond.and c (allAtoms t)).before a st = _
    rw [Jvm.Cond.before_and, ih, List.all_cons]
def words1 : List Jvm.Cond := Jvm.Cond.code x code maxLocals ret :: tables_1
/-- a 'code' word, met by the world's own term for the bytes: nothing is compared byte by byte -/
theorem code_word {y : MethodName} {bytes : ByteArray} {mx : Nat} {rt : Option FieldType} {a : Array Value} {s : State} {m : MethodId} {meth : Method} {c : Code} (h1 : s.methodNamed? y = some m) (h2 : s.vm.method? m = some meth) (h3 : meth.code = some c) (h4 : c.code = bytes)
    (h5 : (c.maxLocals == mx && c.exceptionTable.isEmpty && decide (c.maxStack ≤ mostOperands) && decide (meth.sig.returnType = rt) && !meth.locks && decide (parseMethodDescriptor y.desc = some meth.sig)) = true) : (Jvm.Cond.code y bytes mx rt).before a s = true := by
  simp only [Bool.and_eq_true, beq_iff_eq, Bool.not_eq_true', decide_eq_true_eq] at h5
  obtain ⟨⟨⟨⟨⟨g1, g2⟩, g3⟩, g4⟩, g5⟩, g6⟩ := h5
  simp [Cond.before, Cond.holds, Cond.value, h1, h2, h3, h4, g1, g2, g3, g4, g5, g6]
def isCode : Jvm.Cond → Bool
  | .code _ _ _ _ => true
  | _ => false
theorem all_split {L : List Jvm.Cond} {P : Jvm.Cond → Bool} (h1 : L.all (fun c => isCode c || P c) = true) (h2 : ∀ c ∈ L.filter isCode, P c = true) : L.all P = true := by
  refine List.all_eq_true.mpr fun c hc => ?_
  have h := List.all_eq_true.mp h1 c hc
  rcases Bool.eq_false_or_eq_true (isCode c) with hi | hi
  · exact h2 c (List.mem_filter.mpr ⟨hc, hi⟩)
  · simpa [hi] using h
set_option maxRecDepth 65536 in
theorem w_c0 : (Jvm.Cond.code x code maxLocals ret).before args0 about1 = true := code_word (m := ⟨1, 2⟩) (meth := k1m2) (c := k1c2) (by decide +kernel) rfl rfl rfl (by decide +kernel)
set_option maxRecDepth 65536 in
theorem w_c1 : (Jvm.Cond.code ({ cls := "com/example/weft/weft/net/Fetch", name := "<init>", desc := "(I)V" } : Jvm.MethodName) prog_92_method_1_code (2 : Nat) (Option.none : Option Jvm.ClassFile.FieldType)).before args0 about1 = true := code_word (m := ⟨2, 0⟩) (meth := k2m0) (c := k2c0) (by decide +kernel) rfl rfl rfl (by decide +kernel)
set_option maxRecDepth 65536 in
theorem w_c2 : (Jvm.Cond.code ({ cls := "java/lang/Object", name := "<init>", desc := "()V" } : Jvm.MethodName) object_method_1_code (1 : Nat) (Option.none : Option Jvm.ClassFile.FieldType)).before args0 about1 = true := code_word (m := ⟨0, 0⟩) (meth := k0m0) (c := k0c0) (by decide +kernel) rfl rfl rfl (by decide +kernel)
set_option maxRecDepth 65536 in
theorem w_c3 : (Jvm.Cond.code ({ cls := "com/example/weft/weft/net/Fetch", name := "from", desc := "()I" } : Jvm.MethodName) prog_92_method_2_code (1 : Nat) (Option.some Jvm.ClassFile.FieldType.int)).before args0 about1 = true := code_word (m := ⟨2, 1⟩) (meth := k2m1) (c := k2c1) (by decide +kernel) rfl rfl rfl (by decide +kernel)
set_option maxRecDepth 65536 in
theorem w_c4 : (Jvm.Cond.code ({ cls := "com/example/weft/weft/net/FetchCountRoundPinLaw", name := "call", desc := "(Lcom/example/weft/weft/net/Fetch;II)Z" } : Jvm.MethodName) method_2_code (4 : Nat) (Option.some Jvm.ClassFile.FieldType.boolean)).before args0 about1 = true := code_word (m := ⟨1, 1⟩) (meth := k1m1) (c := k1c1) (by decide +kernel) rfl rfl rfl (by decide +kernel)
set_option maxRecDepth 65536 in
theorem w_c5 : (Jvm.Cond.code ({ cls := "com/example/weft/weft/net/Fetch", name := "countRound", desc := "()Z" } : Jvm.MethodName) prog_92_method_5_code (1 : Nat) (Option.some Jvm.ClassFile.FieldType.boolean)).before args0 about1 = true := code_word (m := ⟨2, 4⟩) (meth := k2m4) (c := k2c4) (by decide +kernel) rfl rfl rfl (by decide +kernel)
set_option maxRecDepth 65536 in
theorem w_c6 : (Jvm.Cond.code ({ cls := "com/example/weft/weft/net/Fetch", name := "recordBegun", desc := "()V" } : Jvm.MethodName) prog_92_method_3_code (1 : Nat) (Option.none : Option Jvm.ClassFile.FieldType)).before args0 about1 = true := code_word (m := ⟨2, 2⟩) (meth := k2m2) (c := k2c2) (by decide +kernel) rfl rfl rfl (by decide +kernel)
set_option maxRecDepth 65536 in
theorem w_c7 : (Jvm.Cond.code ({ cls := "com/example/weft/weft/net/Fetch", name := "setsAside", desc := "()Z" } : Jvm.MethodName) prog_92_method_4_code (1 : Nat) (Option.some Jvm.ClassFile.FieldType.boolean)).before args0 about1 = true := code_word (m := ⟨2, 3⟩) (meth := k2m3) (c := k2c3) (by decide +kernel) rfl rfl rfl (by decide +kernel)
def codes1 : List Jvm.Cond := [Jvm.Cond.code x code maxLocals ret, Jvm.Cond.code ({ cls := "com/example/weft/weft/net/Fetch", name := "<init>", desc := "(I)V" } : Jvm.MethodName) prog_92_method_1_code (2 : Nat) (Option.none : Option Jvm.ClassFile.FieldType), Jvm.Cond.code ({ cls := "java/lang/Object", name := "<init>", desc := "()V" } : Jvm.MethodName) object_method_1_code (1 : Nat) (Option.none : Option Jvm.ClassFile.FieldType), Jvm.Cond.code ({ cls := "com/example/weft/weft/net/Fetch", name := "from", desc := "()I" } : Jvm.MethodName) prog_92_method_2_code (1 : Nat) (Option.some Jvm.ClassFile.FieldType.int), Jvm.Cond.code ({ cls := "com/example/weft/weft/net/FetchCountRoundPinLaw", name := "call", desc := "(Lcom/example/weft/weft/net/Fetch;II)Z" } : Jvm.MethodName) method_2_code (4 : Nat) (Option.some Jvm.ClassFile.FieldType.boolean), Jvm.Cond.code ({ cls := "com/example/weft/weft/net/Fetch", name := "countRound", desc := "()Z" } : Jvm.MethodName) prog_92_method_5_code (1 : Nat) (Option.some Jvm.ClassFile.FieldType.boolean), Jvm.Cond.code ({ cls := "com/example/weft/weft/net/Fetch", name := "recordBegun", desc := "()V" } : Jvm.MethodName) prog_92_method_3_code (1 : Nat) (Option.none : Option Jvm.ClassFile.FieldType), Jvm.Cond.code ({ cls := "com/example/weft/weft/net/Fetch", name := "setsAside", desc := "()Z" } : Jvm.MethodName) prog_92_method_4_code (1 : Nat) (Option.some Jvm.ClassFile.FieldType.boolean)]
set_option maxRecDepth 65536 in
theorem codes_eq : words1.filter isCode = codes1 := rfl
theorem w_codes : ∀ c ∈ words1.filter isCode, c.before args0 about1 = true := by
  rw [codes_eq]
  intro c hc
  simp only [codes1, List.mem_cons, List.not_mem_nil, or_false] at hc
  rcases hc with rfl | rfl | rfl | rfl | rfl | rfl | rfl | rfl
  · exact w_c0
  · exact w_c1
  · exact w_c2
  · exact w_c3
  · exact w_c4
  · exact w_c5
  · exact w_c6
  · exact w_c7
set_option maxRecDepth 65536 in
theorem w_t1 : (words1.take 24).all (fun c => isCode c || c.before args0 about1) = true := by decide +kernel
set_option maxRecDepth 65536 in
theorem w_t2 : (words1.drop 24).all (fun c => isCode c || c.before args0 about1) = true := by decide +kernel
theorem w_tables : (allAtoms (Jvm.Cond.code x code maxLocals ret :: tables_1)).before args0 about1 = true := by
  rw [allAtoms_all]
  show words1.all (fun c => c.before args0 about1) = true
  refine all_split ?_ w_codes
  rw [← List.take_append_drop 24 words1, List.all_append, w_t1, w_t2]
  rfl
set_option maxRecDepth 65536 in
theorem w_case : (Jvm.Cond.and given_1 narrow_1).before args0 about1 = true := by decide +kernel
theorem w_applies : (headSpec (Jvm.Cond.code x code maxLocals ret :: tables_1) room_1).applies x e0.platform about1 = true :=
  (Spec.applies_iff w_frames).mpr ⟨w_running, w_runnable, w_alone, w_named, w_hears, w_ripe, w_room, w_tables⟩
theorem atStart : AtStart classFile x code maxLocals ret World_1 tables_1 room_1 Calls_1 rest_1 Pre_1 launch0 p0 e0 about1 theMethod args0 below0 :=
  ⟨lists_1, trivial, launch0.admits_env _ _ _, launch0.least_env, fairChoices_fair.cas, fairChoices_fair.clock, w_frames, w_args, w_heap, w_applies, trivial, trivial, w_case⟩
end start1
theorem witness_1 : WitnessClaimed_1 := ⟨start1.p0, start1.e0, start1.about1, start1.theMethod, start1.args0, start1.below0, start1.atStart⟩
end Jvm.Pilot.@@N@@
