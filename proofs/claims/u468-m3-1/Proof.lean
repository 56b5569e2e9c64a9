import JvmDerived
import JvmDerived.Pilot.@@N@@Statement
import JvmDerived.Pilot.@@N@@Code
set_option linter.unusedVariables false
set_option linter.unusedSimpArgs false
namespace Jvm.Own
open Jvm Jvm.ClassFile Sem Op Lib Jvm.Free Jvm.Stand Jvm.LawKit Jvm.RoadKit Bundle
/-- where the run stands inside a body: what is fixed, the heap, the room used -/
def St (p : Program) (l : Launch) (e : Env) (R : Room) (s : State) (m : MethodId) (args : Array Value) (below : List Frame) (meth : Method) (c : Code) (Z : State) (n0 : Nat) (y : MethodName) (code : ByteArray) (maxL : Nat) (ret : Option FieldType) (T : State) (h : Heap) (cells slots : Nat) : Prop :=
  (p.tables.exec = Jvm.exec ∧ Z.Warmed39 s.vm ∧ c.code = code ∧ c.maxLocals = maxL ∧ s.vm.findClass y.cls = some m.cls ∧ meth.name = y.name ∧ meth.sig.returnType = ret ∧ meth.locks = false ∧ n0 ≤ s.heap.size) ∧ T.heap = h ∧ ∃ locs, Stand p l e R s m args below meth c T locs cells slots ∧ Fr n0 locs
/-- from here the body comes to its end with Q -/
def WP (p : Program) (e : Env) (below : List Frame) (s : State) (n0 k n : Nat) (Q : Option Value → Heap → Prop) (T : State) (g : JFrame) : Prop :=
  ∃ s₂ o, Steps p.tables e below (T.setTop g) s₂ ∧ s₂.status = .running ∧ Ended s₂ below o ∧ ∃ v L, o = .returned v ∧ (Q v s₂.heap ∧ Fr n0 L) ∧ FrameEnd s o s₂ L k n
/-- a body's contract -/
def Ct (l : Launch) (Z : State) (y : MethodName) (code : ByteArray) (maxL : Nat) (ret : Option FieldType) (rm : Room) (as : Array Value) (h0 : Heap) (n0 : Nat) (Q : Option Value → Heap → Prop) : Prop :=
  ∀ ws, MetFree l y (head1 (Jvm.Cond.code y code maxL ret :: ws) rm) (fun a U => a = as ∧ Z.Warmed39 U.vm ∧ U.heap = h0) (fun _ _ _ _ _ => True) (fun _ U o U' => ∃ v L, o = .returned v ∧ (Q v U'.heap ∧ Fr n0 L) ∧ FrameEnd U o U' L rm.cells rm.slots)
section Steps
variable {p : Program} {l : Launch} {e : Env} {R : Room} {s : State} {m : MethodId} {args : Array Value} {below : List Frame} {meth : Method} {c : Code} {Z : State} {n0 : Nat} {y : MethodName} {code : ByteArray} {maxL : Nat} {ret : Option FieldType} {T : State} {h : Heap} {cells slots k n : Nat} {Q : Option Value → Heap → Prop} {pc pc' : Nat} {Ls : Array Slot} {S : List Value} {a0 : Array Value}
theorem WP.step {T' : State} {g g' : JFrame} (w : WP p e below s n0 k n Q T' g') (st : ∀ t, Steps p.tables e below (T'.setTop g') t → Steps p.tables e below (T.setTop g) t) : WP p e below s n0 k n Q T g := by
  obtain ⟨s₂, o, h1, r⟩ := w; exact ⟨s₂, o, st _ h1, r⟩
theorem WP.trans {T' : State} {g g' : JFrame} (w : WP p e below s n0 k n Q T' g') (st : Steps p.tables e below (T.setTop g) (T'.setTop g')) : WP p e below s n0 k n Q T g := by
  obtain ⟨s₂, o, h1, r⟩ := w; exact ⟨s₂, o, st.trans h1, r⟩
theorem WP.imp {Q' : Option Value → Heap → Prop} {g : JFrame} (w : WP p e below s n0 k n Q' T g) (hq : ∀ v h, Q' v h → Q v h) : WP p e below s n0 k n Q T g := by
  obtain ⟨s₂, o, h1, h2, h3, v, L, h4, ⟨h5, h6⟩, h7⟩ := w; exact ⟨s₂, o, h1, h2, h3, v, L, h4, ⟨hq _ _ h5, h6⟩, h7⟩
theorem WP.cast {g g' : JFrame} (q : g = g') (w : WP p e below s n0 k n Q T g') : WP p e below s n0 k n Q T g := q ▸ w
theorem Ct.imp {as : Array Value} {rm : Room} {Q' : Option Value → Heap → Prop} (ct : Ct l Z y code maxL ret rm as h n0 Q') (hq : ∀ v h, Q' v h → Q v h) : Ct l Z y code maxL ret rm as h n0 Q := by
  intro ws p e ha hc hk s m args below hf happ hP hK
  obtain ⟨n, o, h1, h2, h3, v, L, h4, ⟨h5, h6⟩, h7⟩ := ct ws p e ha hc hk s m args below hf happ hP hK
  exact ⟨n, o, h1, h2, h3, v, L, h4, ⟨hq _ _ h5, h6⟩, h7⟩
theorem Ct.intro {rm : Room} {as : Array Value} {h0 : Heap} (hpl : plainFor y = true) (Z0 : n0 ≤ h0.size)
    (body : ∀ p e s m below meth c T, St p l e rm s m as below meth c Z n0 y code maxL ret T h0 0 0 → WP p e below s n0 rm.cells rm.slots Q T (entryFrame m as maxL)) : Ct l Z y code maxL ret rm as h0 n0 Q := by
  intro ws
  refine MetFree.of_bodySF hpl hisR ?_
  intro p e s m args below meth c s₁ Bd hml0 hP hK
  obtain ⟨rfl, hZ, hh⟩ := hP
  exact body p e s m below meth c s₁ ⟨⟨Bd.exec, hZ, Bd.bytes, hml0, findClass_of_methodNamed Bd.named, (name_of_methodNamed Bd.named Bd.method).1, Bd.returns, BodyLoose.notSynchronized Bd, hh ▸ Z0⟩, by rw [← hh, Bd.state]; rfl, [], Stand.of_body Bd, Fr.nil n0⟩
theorem St.n0le (X : St p l e R s m args below meth c Z n0 y code maxL ret T h cells slots) : n0 ≤ h.size := by
  obtain ⟨⟨-, -, -, -, -, -, -, -, h0⟩, hT, locs, X, -⟩ := X
  have q : s.heap.size ≤ T.heap.size := X.same.2.1
  rw [hT] at q; exact Nat.le_trans h0 q
theorem St.mono (X : St p l e R s m args below meth c Z n0 y code maxL ret T h cells slots) {cells' slots' : Nat} (hc : cells ≤ cells') (hs : slots ≤ slots') : St p l e R s m args below meth c Z n0 y code maxL ret T h cells' slots' := by
  obtain ⟨h0, hT, locs, X, N⟩ := X
  exact ⟨h0, hT, locs, ⟨X.admits, X.cas, X.clock, X.frames, X.room, X.hears, X.method, X.code, X.here, X.tail, X.warmed, X.limits, X.bytes, X.same.mono hc hs⟩, N⟩
theorem w_nameI {v : Int32} (w : ∀ z, z = v → WP p e below s n0 k n Q T (mkF m pc Ls (.int z :: S))) : WP p e below s n0 k n Q T (mkF m pc Ls (.int v :: S)) := w v rfl
theorem w_nameJ {v : Int64} (w : ∀ z, z = v → WP p e below s n0 k n Q T (mkF m pc Ls (.long z :: S))) : WP p e below s n0 k n Q T (mkF m pc Ls (.long v :: S)) := w v rfl
theorem w_nameR {v : Addr} (w : ∀ z, z = v → WP p e below s n0 k n Q T (mkF m pc Ls (.ref z :: S))) : WP p e below s n0 k n Q T (mkF m pc Ls (.ref v :: S)) := w v rfl
theorem w_iload (X : St p l e R s m args below meth c Z n0 y code maxL ret T h cells slots) {i : Nat} {v : Int32} (hd : decode code pc = .ok (.iload i, 2)) (hl : Ls[i]? = some (.val (.int v))) (hp : pc' = pc + 2) (w : WP p e below s n0 k n Q T (mkF m pc' Ls (.int v :: S))) : WP p e below s n0 k n Q T (mkF m pc Ls (S)) := by
  obtain ⟨⟨hx, hZ, hby, hml, hown, hnm, hret, hlk, h00⟩, hT, locs, X, N⟩ := X
  subst hp
  exact w.step fun t kk => XS.iload X.here hx rfl (hb hby hd) hl kk
theorem w_iloadN (X : St p l e R s m args below meth c Z n0 y code maxL ret T h cells slots) {i : Fin 4} {v : Int32} (hd : decode code pc = .ok (.iload_n i, 1)) (hl : Ls[i.val]? = some (.val (.int v))) (hp : pc' = pc + 1) (w : WP p e below s n0 k n Q T (mkF m pc' Ls (.int v :: S))) : WP p e below s n0 k n Q T (mkF m pc Ls (S)) := by
  obtain ⟨⟨hx, hZ, hby, hml, hown, hnm, hret, hlk, h00⟩, hT, locs, X, N⟩ := X
  subst hp
  exact w.step fun t kk => XS.iloadN X.here hx rfl (hb hby hd) hl kk
theorem w_lload (X : St p l e R s m args below meth c Z n0 y code maxL ret T h cells slots) {i : Nat} {v : Int64} (hd : decode code pc = .ok (.lload i, 2)) (hl : Ls[i]? = some (.val (.long v))) (hp : pc' = pc + 2) (w : WP p e below s n0 k n Q T (mkF m pc' Ls (.long v :: S))) : WP p e below s n0 k n Q T (mkF m pc Ls (S)) := by
  obtain ⟨⟨hx, hZ, hby, hml, hown, hnm, hret, hlk, h00⟩, hT, locs, X, N⟩ := X
  subst hp
  exact w.step fun t kk => XS.lload X.here hx rfl (hb hby hd) hl kk
theorem w_lloadN (X : St p l e R s m args below meth c Z n0 y code maxL ret T h cells slots) {i : Fin 4} {v : Int64} (hd : decode code pc = .ok (.lload_n i, 1)) (hl : Ls[i.val]? = some (.val (.long v))) (hp : pc' = pc + 1) (w : WP p e below s n0 k n Q T (mkF m pc' Ls (.long v :: S))) : WP p e below s n0 k n Q T (mkF m pc Ls (S)) := by
  obtain ⟨⟨hx, hZ, hby, hml, hown, hnm, hret, hlk, h00⟩, hT, locs, X, N⟩ := X
  subst hp
  exact w.step fun t kk => XS.lloadN X.here hx rfl (hb hby hd) hl kk
theorem w_aload (X : St p l e R s m args below meth c Z n0 y code maxL ret T h cells slots) {i : Nat} {v : Value} (hd : decode code pc = .ok (.aload i, 2)) (hl : Ls[i]? = some (.val v)) (hv : v.isRef = true) (hp : pc' = pc + 2) (w : WP p e below s n0 k n Q T (mkF m pc' Ls (v :: S))) : WP p e below s n0 k n Q T (mkF m pc Ls (S)) := by
  obtain ⟨⟨hx, hZ, hby, hml, hown, hnm, hret, hlk, h00⟩, hT, locs, X, N⟩ := X
  subst hp
  exact w.step fun t kk => XS.aload X.here hx rfl (hb hby hd) hl hv kk
theorem w_aloadN (X : St p l e R s m args below meth c Z n0 y code maxL ret T h cells slots) {i : Fin 4} {v : Value} (hd : decode code pc = .ok (.aload_n i, 1)) (hl : Ls[i.val]? = some (.val v)) (hv : v.isRef = true) (hp : pc' = pc + 1) (w : WP p e below s n0 k n Q T (mkF m pc' Ls (v :: S))) : WP p e below s n0 k n Q T (mkF m pc Ls (S)) := by
  obtain ⟨⟨hx, hZ, hby, hml, hown, hnm, hret, hlk, h00⟩, hT, locs, X, N⟩ := X
  subst hp
  exact w.step fun t kk => XS.aloadN X.here hx rfl (hb hby hd) hl hv kk
theorem w_istore (X : St p l e R s m args below meth c Z n0 y code maxL ret T h cells slots) {i : Nat} {v : Int32} {L' : Array Slot} (hd : decode code pc = .ok (.istore i, 2)) (hl : storeLocals Ls i (.int v) = some L') (hp : pc' = pc + 2) (w : WP p e below s n0 k n Q T (mkF m pc' L' (S))) : WP p e below s n0 k n Q T (mkF m pc Ls (.int v :: S)) := by
  obtain ⟨⟨hx, hZ, hby, hml, hown, hnm, hret, hlk, h00⟩, hT, locs, X, N⟩ := X
  subst hp
  exact w.step fun t kk => XS.istore X.here hx rfl (hb hby hd) rfl hl kk
theorem w_istoreN (X : St p l e R s m args below meth c Z n0 y code maxL ret T h cells slots) {i : Fin 4} {v : Int32} {L' : Array Slot} (hd : decode code pc = .ok (.istore_n i, 1)) (hl : storeLocals Ls i.val (.int v) = some L') (hp : pc' = pc + 1) (w : WP p e below s n0 k n Q T (mkF m pc' L' (S))) : WP p e below s n0 k n Q T (mkF m pc Ls (.int v :: S)) := by
  obtain ⟨⟨hx, hZ, hby, hml, hown, hnm, hret, hlk, h00⟩, hT, locs, X, N⟩ := X
  subst hp
  exact w.step fun t kk => XS.istoreN X.here hx rfl (hb hby hd) rfl hl kk
theorem w_lstore (X : St p l e R s m args below meth c Z n0 y code maxL ret T h cells slots) {i : Nat} {v : Int64} {L' : Array Slot} (hd : decode code pc = .ok (.lstore i, 2)) (hl : storeLocals Ls i (.long v) = some L') (hp : pc' = pc + 2) (w : WP p e below s n0 k n Q T (mkF m pc' L' (S))) : WP p e below s n0 k n Q T (mkF m pc Ls (.long v :: S)) := by
  obtain ⟨⟨hx, hZ, hby, hml, hown, hnm, hret, hlk, h00⟩, hT, locs, X, N⟩ := X
  subst hp
  exact w.step fun t kk => XS.lstore X.here hx rfl (hb hby hd) rfl hl kk
theorem w_lstoreN (X : St p l e R s m args below meth c Z n0 y code maxL ret T h cells slots) {i : Fin 4} {v : Int64} {L' : Array Slot} (hd : decode code pc = .ok (.lstore_n i, 1)) (hl : storeLocals Ls i.val (.long v) = some L') (hp : pc' = pc + 1) (w : WP p e below s n0 k n Q T (mkF m pc' L' (S))) : WP p e below s n0 k n Q T (mkF m pc Ls (.long v :: S)) := by
  obtain ⟨⟨hx, hZ, hby, hml, hown, hnm, hret, hlk, h00⟩, hT, locs, X, N⟩ := X
  subst hp
  exact w.step fun t kk => XS.lstoreN X.here hx rfl (hb hby hd) rfl hl kk
theorem w_astore (X : St p l e R s m args below meth c Z n0 y code maxL ret T h cells slots) {i : Nat} {v : Value} {L' : Array Slot} (hd : decode code pc = .ok (.astore i, 2)) (hv : v.isRef = true) (hl : storeLocals Ls i v = some L') (hp : pc' = pc + 2) (w : WP p e below s n0 k n Q T (mkF m pc' L' (S))) : WP p e below s n0 k n Q T (mkF m pc Ls (v :: S)) := by
  obtain ⟨⟨hx, hZ, hby, hml, hown, hnm, hret, hlk, h00⟩, hT, locs, X, N⟩ := X
  subst hp
  exact w.step fun t kk => XS.astore X.here hx rfl (hb hby hd) rfl hv hl kk
theorem w_astoreN (X : St p l e R s m args below meth c Z n0 y code maxL ret T h cells slots) {i : Fin 4} {v : Value} {L' : Array Slot} (hd : decode code pc = .ok (.astore_n i, 1)) (hv : v.isRef = true) (hl : storeLocals Ls i.val v = some L') (hp : pc' = pc + 1) (w : WP p e below s n0 k n Q T (mkF m pc' L' (S))) : WP p e below s n0 k n Q T (mkF m pc Ls (v :: S)) := by
  obtain ⟨⟨hx, hZ, hby, hml, hown, hnm, hret, hlk, h00⟩, hT, locs, X, N⟩ := X
  subst hp
  exact w.step fun t kk => XS.astoreN X.here hx rfl (hb hby hd) rfl hv hl kk
theorem w_iinc (X : St p l e R s m args below meth c Z n0 y code maxL ret T h cells slots) {i : Nat} {d : Int} {v v' : Int32} {L' : Array Slot} (hd : decode code pc = .ok (.iinc i d, 3)) (hl : Ls[i]? = some (.val (.int v))) (hv : v + Int32.ofInt d = v') (hl' : storeLocals Ls i (.int v') = some L') (hp : pc' = pc + 3) (w : WP p e below s n0 k n Q T (mkF m pc' L' (S))) : WP p e below s n0 k n Q T (mkF m pc Ls (S)) := by
  obtain ⟨⟨hx, hZ, hby, hml, hown, hnm, hret, hlk, h00⟩, hT, locs, X, N⟩ := X
  subst hp hv
  exact w.step fun t kk => XS.iinc X.here hx rfl (hb hby hd) hl hl' kk
theorem w_iconst (X : St p l e R s m args below meth c Z n0 y code maxL ret T h cells slots) {i : Int} {v : Int32} (hd : decode code pc = .ok (.iconst i, 1)) (hv : Int32.ofInt i = v) (hp : pc' = pc + 1) (w : WP p e below s n0 k n Q T (mkF m pc' Ls (.int v :: S))) : WP p e below s n0 k n Q T (mkF m pc Ls (S)) := by
  obtain ⟨⟨hx, hZ, hby, hml, hown, hnm, hret, hlk, h00⟩, hT, locs, X, N⟩ := X
  subst hp hv
  exact w.step fun t kk => XS.iconst X.here hx rfl (hb hby hd) kk
theorem w_bipush (X : St p l e R s m args below meth c Z n0 y code maxL ret T h cells slots) {i : Int} {v : Int32} (hd : decode code pc = .ok (.bipush i, 2)) (hv : (Int8.ofInt i).toInt32 = v) (hp : pc' = pc + 2) (w : WP p e below s n0 k n Q T (mkF m pc' Ls (.int v :: S))) : WP p e below s n0 k n Q T (mkF m pc Ls (S)) := by
  obtain ⟨⟨hx, hZ, hby, hml, hown, hnm, hret, hlk, h00⟩, hT, locs, X, N⟩ := X
  subst hp hv
  exact w.step fun t kk => XS.bipush X.here hx rfl (hb hby hd) kk
theorem w_sipush (X : St p l e R s m args below meth c Z n0 y code maxL ret T h cells slots) {i : Int} {v : Int32} (hd : decode code pc = .ok (.sipush i, 3)) (hv : (Int16.ofInt i).toInt32 = v) (hp : pc' = pc + 3) (w : WP p e below s n0 k n Q T (mkF m pc' Ls (.int v :: S))) : WP p e below s n0 k n Q T (mkF m pc Ls (S)) := by
  obtain ⟨⟨hx, hZ, hby, hml, hown, hnm, hret, hlk, h00⟩, hT, locs, X, N⟩ := X
  subst hp hv
  exact w.step fun t kk => XS.sipush X.here hx rfl (hb hby hd) kk
theorem w_lconst (X : St p l e R s m args below meth c Z n0 y code maxL ret T h cells slots) {i : Fin 2} {v : Int64} (hd : decode code pc = .ok (.lconst i, 1)) (hv : Int64.ofNat i = v) (hp : pc' = pc + 1) (w : WP p e below s n0 k n Q T (mkF m pc' Ls (.long v :: S))) : WP p e below s n0 k n Q T (mkF m pc Ls (S)) := by
  obtain ⟨⟨hx, hZ, hby, hml, hown, hnm, hret, hlk, h00⟩, hT, locs, X, N⟩ := X
  subst hp hv
  exact w.step fun t kk => XS.lconst X.here hx rfl (hb hby hd) kk
theorem w_aconst_null (X : St p l e R s m args below meth c Z n0 y code maxL ret T h cells slots)  (hd : decode code pc = .ok (.aconst_null, 1)) (hp : pc' = pc + 1) (w : WP p e below s n0 k n Q T (mkF m pc' Ls (.null :: S))) : WP p e below s n0 k n Q T (mkF m pc Ls (S)) := by
  obtain ⟨⟨hx, hZ, hby, hml, hown, hnm, hret, hlk, h00⟩, hT, locs, X, N⟩ := X
  subst hp
  exact w.step fun t kk => XS.aconstNull X.here hx rfl (hb hby hd) kk
theorem w_ldcI (X : St p l e R s m args below meth c Z n0 y code maxL ret T h cells slots) {i : Nat} {v : Int32} (hd : decode code pc = .ok (.ldc i, 2)) (wc : (Jvm.Cond.constant y.cls i v).before a0 Z = true) (hp : pc' = pc + 2) (w : WP p e below s n0 k n Q T (mkF m pc' Ls (.int v :: S))) : WP p e below s n0 k n Q T (mkF m pc Ls (S)) := by
  obtain ⟨⟨hx, hZ, hby, hml, hown, hnm, hret, hlk, h00⟩, hT, locs, X, N⟩ := X
  subst hp
  exact w.step fun t kk => X.ldcInt hx hown (mvT (d := Jvm.Cond.constant y.cls i v) hZ wc) (g := mkF m pc Ls S) rfl (hb hby hd) t kk
theorem w_ldcWI (X : St p l e R s m args below meth c Z n0 y code maxL ret T h cells slots) {i : Nat} {v : Int32} (hd : decode code pc = .ok (.ldc_w i, 3)) (wc : (Jvm.Cond.constant y.cls i v).before a0 Z = true) (hp : pc' = pc + 3) (w : WP p e below s n0 k n Q T (mkF m pc' Ls (.int v :: S))) : WP p e below s n0 k n Q T (mkF m pc Ls (S)) := by
  obtain ⟨⟨hx, hZ, hby, hml, hown, hnm, hret, hlk, h00⟩, hT, locs, X, N⟩ := X
  subst hp
  exact w.step fun t kk => X.ldcwInt hx hown (mvT (d := Jvm.Cond.constant y.cls i v) hZ wc) (g := mkF m pc Ls S) rfl (hb hby hd) t kk
theorem w_ldcJ (X : St p l e R s m args below meth c Z n0 y code maxL ret T h cells slots) {i : Nat} {v : Int64} (hd : decode code pc = .ok (.ldc2_w i, 3)) (wc : (Jvm.Cond.constantLong y.cls i v).before a0 Z = true) (hp : pc' = pc + 3) (w : WP p e below s n0 k n Q T (mkF m pc' Ls (.long v :: S))) : WP p e below s n0 k n Q T (mkF m pc Ls (S)) := by
  obtain ⟨⟨hx, hZ, hby, hml, hown, hnm, hret, hlk, h00⟩, hT, locs, X, N⟩ := X
  subst hp
  exact w.step fun t kk => X.ldc2Long hx hown (mvT (d := Jvm.Cond.constantLong y.cls i v) hZ wc) (g := mkF m pc Ls S) rfl (hb hby hd) t kk
theorem w_iadd (X : St p l e R s m args below meth c Z n0 y code maxL ret T h cells slots) {x z : Int32} (hd : decode code pc = .ok (.iadd, 1)) (hp : pc' = pc + 1) (w : WP p e below s n0 k n Q T (mkF m pc' Ls (.int (x + z) :: S))) : WP p e below s n0 k n Q T (mkF m pc Ls (.int z :: .int x :: S)) := by
  obtain ⟨⟨hx, hZ, hby, hml, hown, hnm, hret, hlk, h00⟩, hT, locs, X, N⟩ := X
  subst hp
  exact w.step fun t kk => XS.iadd X.here hx rfl (hb hby hd) rfl kk
theorem w_ladd (X : St p l e R s m args below meth c Z n0 y code maxL ret T h cells slots) {x z : Int64} (hd : decode code pc = .ok (.ladd, 1)) (hp : pc' = pc + 1) (w : WP p e below s n0 k n Q T (mkF m pc' Ls (.long (x + z) :: S))) : WP p e below s n0 k n Q T (mkF m pc Ls (.long z :: .long x :: S)) := by
  obtain ⟨⟨hx, hZ, hby, hml, hown, hnm, hret, hlk, h00⟩, hT, locs, X, N⟩ := X
  subst hp
  exact w.step fun t kk => XS.ladd X.here hx rfl (hb hby hd) rfl kk
theorem w_isub (X : St p l e R s m args below meth c Z n0 y code maxL ret T h cells slots) {x z : Int32} (hd : decode code pc = .ok (.isub, 1)) (hp : pc' = pc + 1) (w : WP p e below s n0 k n Q T (mkF m pc' Ls (.int (x - z) :: S))) : WP p e below s n0 k n Q T (mkF m pc Ls (.int z :: .int x :: S)) := by
  obtain ⟨⟨hx, hZ, hby, hml, hown, hnm, hret, hlk, h00⟩, hT, locs, X, N⟩ := X
  subst hp
  exact w.step fun t kk => XS.isub X.here hx rfl (hb hby hd) rfl kk
theorem w_lsub (X : St p l e R s m args below meth c Z n0 y code maxL ret T h cells slots) {x z : Int64} (hd : decode code pc = .ok (.lsub, 1)) (hp : pc' = pc + 1) (w : WP p e below s n0 k n Q T (mkF m pc' Ls (.long (x - z) :: S))) : WP p e below s n0 k n Q T (mkF m pc Ls (.long z :: .long x :: S)) := by
  obtain ⟨⟨hx, hZ, hby, hml, hown, hnm, hret, hlk, h00⟩, hT, locs, X, N⟩ := X
  subst hp
  exact w.step fun t kk => XS.lsub X.here hx rfl (hb hby hd) rfl kk
theorem w_imul (X : St p l e R s m args below meth c Z n0 y code maxL ret T h cells slots) {x z : Int32} (hd : decode code pc = .ok (.imul, 1)) (hp : pc' = pc + 1) (w : WP p e below s n0 k n Q T (mkF m pc' Ls (.int (x * z) :: S))) : WP p e below s n0 k n Q T (mkF m pc Ls (.int z :: .int x :: S)) := by
  obtain ⟨⟨hx, hZ, hby, hml, hown, hnm, hret, hlk, h00⟩, hT, locs, X, N⟩ := X
  subst hp
  exact w.step fun t kk => XS.imul X.here hx rfl (hb hby hd) rfl kk
theorem w_lmul (X : St p l e R s m args below meth c Z n0 y code maxL ret T h cells slots) {x z : Int64} (hd : decode code pc = .ok (.lmul, 1)) (hp : pc' = pc + 1) (w : WP p e below s n0 k n Q T (mkF m pc' Ls (.long (x * z) :: S))) : WP p e below s n0 k n Q T (mkF m pc Ls (.long z :: .long x :: S)) := by
  obtain ⟨⟨hx, hZ, hby, hml, hown, hnm, hret, hlk, h00⟩, hT, locs, X, N⟩ := X
  subst hp
  exact w.step fun t kk => XS.lmul X.here hx rfl (hb hby hd) rfl kk
theorem w_iand (X : St p l e R s m args below meth c Z n0 y code maxL ret T h cells slots) {x z : Int32} (hd : decode code pc = .ok (.iand, 1)) (hp : pc' = pc + 1) (w : WP p e below s n0 k n Q T (mkF m pc' Ls (.int (x &&& z) :: S))) : WP p e below s n0 k n Q T (mkF m pc Ls (.int z :: .int x :: S)) := by
  obtain ⟨⟨hx, hZ, hby, hml, hown, hnm, hret, hlk, h00⟩, hT, locs, X, N⟩ := X
  subst hp
  exact w.step fun t kk => XS.iand X.here hx rfl (hb hby hd) rfl kk
theorem w_land (X : St p l e R s m args below meth c Z n0 y code maxL ret T h cells slots) {x z : Int64} (hd : decode code pc = .ok (.land, 1)) (hp : pc' = pc + 1) (w : WP p e below s n0 k n Q T (mkF m pc' Ls (.long (x &&& z) :: S))) : WP p e below s n0 k n Q T (mkF m pc Ls (.long z :: .long x :: S)) := by
  obtain ⟨⟨hx, hZ, hby, hml, hown, hnm, hret, hlk, h00⟩, hT, locs, X, N⟩ := X
  subst hp
  exact w.step fun t kk => XS.land X.here hx rfl (hb hby hd) rfl kk
theorem w_ior (X : St p l e R s m args below meth c Z n0 y code maxL ret T h cells slots) {x z : Int32} (hd : decode code pc = .ok (.ior, 1)) (hp : pc' = pc + 1) (w : WP p e below s n0 k n Q T (mkF m pc' Ls (.int (x ||| z) :: S))) : WP p e below s n0 k n Q T (mkF m pc Ls (.int z :: .int x :: S)) := by
  obtain ⟨⟨hx, hZ, hby, hml, hown, hnm, hret, hlk, h00⟩, hT, locs, X, N⟩ := X
  subst hp
  exact w.step fun t kk => XS.ior X.here hx rfl (hb hby hd) rfl kk
theorem w_lor (X : St p l e R s m args below meth c Z n0 y code maxL ret T h cells slots) {x z : Int64} (hd : decode code pc = .ok (.lor, 1)) (hp : pc' = pc + 1) (w : WP p e below s n0 k n Q T (mkF m pc' Ls (.long (x ||| z) :: S))) : WP p e below s n0 k n Q T (mkF m pc Ls (.long z :: .long x :: S)) := by
  obtain ⟨⟨hx, hZ, hby, hml, hown, hnm, hret, hlk, h00⟩, hT, locs, X, N⟩ := X
  subst hp
  exact w.step fun t kk => XS.lor X.here hx rfl (hb hby hd) rfl kk
theorem w_ixor (X : St p l e R s m args below meth c Z n0 y code maxL ret T h cells slots) {x z : Int32} (hd : decode code pc = .ok (.ixor, 1)) (hp : pc' = pc + 1) (w : WP p e below s n0 k n Q T (mkF m pc' Ls (.int (x ^^^ z) :: S))) : WP p e below s n0 k n Q T (mkF m pc Ls (.int z :: .int x :: S)) := by
  obtain ⟨⟨hx, hZ, hby, hml, hown, hnm, hret, hlk, h00⟩, hT, locs, X, N⟩ := X
  subst hp
  exact w.step fun t kk => XS.ixor X.here hx rfl (hb hby hd) rfl kk
theorem w_lxor (X : St p l e R s m args below meth c Z n0 y code maxL ret T h cells slots) {x z : Int64} (hd : decode code pc = .ok (.lxor, 1)) (hp : pc' = pc + 1) (w : WP p e below s n0 k n Q T (mkF m pc' Ls (.long (x ^^^ z) :: S))) : WP p e below s n0 k n Q T (mkF m pc Ls (.long z :: .long x :: S)) := by
  obtain ⟨⟨hx, hZ, hby, hml, hown, hnm, hret, hlk, h00⟩, hT, locs, X, N⟩ := X
  subst hp
  exact w.step fun t kk => XS.lxor X.here hx rfl (hb hby hd) rfl kk
theorem w_ineg (X : St p l e R s m args below meth c Z n0 y code maxL ret T h cells slots) {x : Int32} (hd : decode code pc = .ok (.ineg, 1)) (hp : pc' = pc + 1) (w : WP p e below s n0 k n Q T (mkF m pc' Ls (.int (-x) :: S))) : WP p e below s n0 k n Q T (mkF m pc Ls (.int x :: S)) := by
  obtain ⟨⟨hx, hZ, hby, hml, hown, hnm, hret, hlk, h00⟩, hT, locs, X, N⟩ := X
  subst hp
  exact w.step fun t kk => XS.ineg X.here hx rfl (hb hby hd) rfl kk
theorem w_lneg (X : St p l e R s m args below meth c Z n0 y code maxL ret T h cells slots) {x : Int64} (hd : decode code pc = .ok (.lneg, 1)) (hp : pc' = pc + 1) (w : WP p e below s n0 k n Q T (mkF m pc' Ls (.long (-x) :: S))) : WP p e below s n0 k n Q T (mkF m pc Ls (.long x :: S)) := by
  obtain ⟨⟨hx, hZ, hby, hml, hown, hnm, hret, hlk, h00⟩, hT, locs, X, N⟩ := X
  subst hp
  exact w.step fun t kk => XS.lneg X.here hx rfl (hb hby hd) rfl kk
theorem w_idiv (X : St p l e R s m args below meth c Z n0 y code maxL ret T h cells slots) {x z : Int32} (hd : decode code pc = .ok (.idiv, 1)) (hz : z ≠ 0) (hp : pc' = pc + 1) (w : WP p e below s n0 k n Q T (mkF m pc' Ls (.int (x / z) :: S))) : WP p e below s n0 k n Q T (mkF m pc Ls (.int z :: .int x :: S)) := by
  obtain ⟨⟨hx, hZ, hby, hml, hown, hnm, hret, hlk, h00⟩, hT, locs, X, N⟩ := X
  subst hp
  exact w.step fun t kk => XS.idiv X.here hx rfl (hb hby hd) rfl hz kk
theorem w_irem (X : St p l e R s m args below meth c Z n0 y code maxL ret T h cells slots) {x z : Int32} (hd : decode code pc = .ok (.irem, 1)) (hz : z ≠ 0) (hp : pc' = pc + 1) (w : WP p e below s n0 k n Q T (mkF m pc' Ls (.int (x % z) :: S))) : WP p e below s n0 k n Q T (mkF m pc Ls (.int z :: .int x :: S)) := by
  obtain ⟨⟨hx, hZ, hby, hml, hown, hnm, hret, hlk, h00⟩, hT, locs, X, N⟩ := X
  subst hp
  exact w.step fun t kk => iremM X hx rfl (hb hby hd) rfl hz kk
theorem w_ldiv (X : St p l e R s m args below meth c Z n0 y code maxL ret T h cells slots) {x z : Int64} (hd : decode code pc = .ok (.ldiv, 1)) (hz : z ≠ 0) (hp : pc' = pc + 1) (w : WP p e below s n0 k n Q T (mkF m pc' Ls (.long (x / z) :: S))) : WP p e below s n0 k n Q T (mkF m pc Ls (.long z :: .long x :: S)) := by
  obtain ⟨⟨hx, hZ, hby, hml, hown, hnm, hret, hlk, h00⟩, hT, locs, X, N⟩ := X
  subst hp
  exact w.step fun t kk => XS.ldiv X.here hx rfl (hb hby hd) rfl hz kk
theorem w_lrem (X : St p l e R s m args below meth c Z n0 y code maxL ret T h cells slots) {x z : Int64} (hd : decode code pc = .ok (.lrem, 1)) (hz : z ≠ 0) (hp : pc' = pc + 1) (w : WP p e below s n0 k n Q T (mkF m pc' Ls (.long (x % z) :: S))) : WP p e below s n0 k n Q T (mkF m pc Ls (.long z :: .long x :: S)) := by
  obtain ⟨⟨hx, hZ, hby, hml, hown, hnm, hret, hlk, h00⟩, hT, locs, X, N⟩ := X
  subst hp
  exact w.step fun t kk => XS.lrem X.here hx rfl (hb hby hd) rfl hz (by rw [lrem_mod]; exact kk)
theorem w_ishl (X : St p l e R s m args below meth c Z n0 y code maxL ret T h cells slots) {x z : Int32} (hd : decode code pc = .ok (.ishl, 1)) (hp : pc' = pc + 1) (w : WP p e below s n0 k n Q T (mkF m pc' Ls (.int (x <<< (z &&& 31)) :: S))) : WP p e below s n0 k n Q T (mkF m pc Ls (.int z :: .int x :: S)) := by
  obtain ⟨⟨hx, hZ, hby, hml, hown, hnm, hret, hlk, h00⟩, hT, locs, X, N⟩ := X
  subst hp
  exact w.step fun t kk => XS.ishl X.here hx rfl (hb hby hd) rfl kk
theorem w_ishr (X : St p l e R s m args below meth c Z n0 y code maxL ret T h cells slots) {x z : Int32} (hd : decode code pc = .ok (.ishr, 1)) (hp : pc' = pc + 1) (w : WP p e below s n0 k n Q T (mkF m pc' Ls (.int (x >>> (z &&& 31)) :: S))) : WP p e below s n0 k n Q T (mkF m pc Ls (.int z :: .int x :: S)) := by
  obtain ⟨⟨hx, hZ, hby, hml, hown, hnm, hret, hlk, h00⟩, hT, locs, X, N⟩ := X
  subst hp
  exact w.step fun t kk => XS.ishr X.here hx rfl (hb hby hd) rfl kk
theorem w_iushr (X : St p l e R s m args below meth c Z n0 y code maxL ret T h cells slots) {x z : Int32} (hd : decode code pc = .ok (.iushr, 1)) (hp : pc' = pc + 1) (w : WP p e below s n0 k n Q T (mkF m pc' Ls (.int ((x.toUInt32 >>> (z &&& 31).toUInt32).toInt32) :: S))) : WP p e below s n0 k n Q T (mkF m pc Ls (.int z :: .int x :: S)) := by
  obtain ⟨⟨hx, hZ, hby, hml, hown, hnm, hret, hlk, h00⟩, hT, locs, X, N⟩ := X
  subst hp
  exact w.step fun t kk => XS.iushr X.here hx rfl (hb hby hd) rfl kk
theorem w_lshl (X : St p l e R s m args below meth c Z n0 y code maxL ret T h cells slots) {x : Int64} {z : Int32} (hd : decode code pc = .ok (.lshl, 1)) (hp : pc' = pc + 1) (w : WP p e below s n0 k n Q T (mkF m pc' Ls (.long (x <<< (z &&& 0x3f).toInt64) :: S))) : WP p e below s n0 k n Q T (mkF m pc Ls (.int z :: .long x :: S)) := by
  obtain ⟨⟨hx, hZ, hby, hml, hown, hnm, hret, hlk, h00⟩, hT, locs, X, N⟩ := X
  subst hp
  exact w.step fun t kk => XS.lshl X.here hx rfl (hb hby hd) rfl kk
theorem w_lshr (X : St p l e R s m args below meth c Z n0 y code maxL ret T h cells slots) {x : Int64} {z : Int32} (hd : decode code pc = .ok (.lshr, 1)) (hp : pc' = pc + 1) (w : WP p e below s n0 k n Q T (mkF m pc' Ls (.long (x >>> (z &&& 0x3f).toInt64) :: S))) : WP p e below s n0 k n Q T (mkF m pc Ls (.int z :: .long x :: S)) := by
  obtain ⟨⟨hx, hZ, hby, hml, hown, hnm, hret, hlk, h00⟩, hT, locs, X, N⟩ := X
  subst hp
  exact w.step fun t kk => XS.lshr X.here hx rfl (hb hby hd) rfl kk
theorem w_lushr (X : St p l e R s m args below meth c Z n0 y code maxL ret T h cells slots) {x : Int64} {z : Int32} (hd : decode code pc = .ok (.lushr, 1)) (hp : pc' = pc + 1) (w : WP p e below s n0 k n Q T (mkF m pc' Ls (.long ((x.toUInt64 >>> (z &&& 0x3f).toInt64.toUInt64).toInt64) :: S))) : WP p e below s n0 k n Q T (mkF m pc Ls (.int z :: .long x :: S)) := by
  obtain ⟨⟨hx, hZ, hby, hml, hown, hnm, hret, hlk, h00⟩, hT, locs, X, N⟩ := X
  subst hp
  exact w.step fun t kk => XS.lushr X.here hx rfl (hb hby hd) rfl kk
theorem w_i2b (X : St p l e R s m args below meth c Z n0 y code maxL ret T h cells slots) {x : Int32} (hd : decode code pc = .ok (.i2b, 1)) (hp : pc' = pc + 1) (w : WP p e below s n0 k n Q T (mkF m pc' Ls (.int x.toInt8.toInt32 :: S))) : WP p e below s n0 k n Q T (mkF m pc Ls (.int x :: S)) := by
  obtain ⟨⟨hx, hZ, hby, hml, hown, hnm, hret, hlk, h00⟩, hT, locs, X, N⟩ := X
  subst hp
  exact w.step fun t kk => XS.i2b X.here hx rfl (hb hby hd) rfl kk
theorem w_i2c (X : St p l e R s m args below meth c Z n0 y code maxL ret T h cells slots) {x : Int32} (hd : decode code pc = .ok (.i2c, 1)) (hp : pc' = pc + 1) (w : WP p e below s n0 k n Q T (mkF m pc' Ls (.int x.toUInt32.toUInt16.toUInt32.toInt32 :: S))) : WP p e below s n0 k n Q T (mkF m pc Ls (.int x :: S)) := by
  obtain ⟨⟨hx, hZ, hby, hml, hown, hnm, hret, hlk, h00⟩, hT, locs, X, N⟩ := X
  subst hp
  exact w.step fun t kk => XS.i2c X.here hx rfl (hb hby hd) rfl kk
theorem w_i2s (X : St p l e R s m args below meth c Z n0 y code maxL ret T h cells slots) {x : Int32} (hd : decode code pc = .ok (.i2s, 1)) (hp : pc' = pc + 1) (w : WP p e below s n0 k n Q T (mkF m pc' Ls (.int x.toInt16.toInt32 :: S))) : WP p e below s n0 k n Q T (mkF m pc Ls (.int x :: S)) := by
  obtain ⟨⟨hx, hZ, hby, hml, hown, hnm, hret, hlk, h00⟩, hT, locs, X, N⟩ := X
  subst hp
  exact w.step fun t kk => XS.i2s X.here hx rfl (hb hby hd) rfl kk
theorem w_i2l (X : St p l e R s m args below meth c Z n0 y code maxL ret T h cells slots) {x : Int32} (hd : decode code pc = .ok (.i2l, 1)) (hp : pc' = pc + 1) (w : WP p e below s n0 k n Q T (mkF m pc' Ls (.long x.toInt64 :: S))) : WP p e below s n0 k n Q T (mkF m pc Ls (.int x :: S)) := by
  obtain ⟨⟨hx, hZ, hby, hml, hown, hnm, hret, hlk, h00⟩, hT, locs, X, N⟩ := X
  subst hp
  exact w.step fun t kk => XS.i2l X.here hx rfl (hb hby hd) rfl kk
theorem w_l2i (X : St p l e R s m args below meth c Z n0 y code maxL ret T h cells slots) {x : Int64} (hd : decode code pc = .ok (.l2i, 1)) (hp : pc' = pc + 1) (w : WP p e below s n0 k n Q T (mkF m pc' Ls (.int x.toInt32 :: S))) : WP p e below s n0 k n Q T (mkF m pc Ls (.long x :: S)) := by
  obtain ⟨⟨hx, hZ, hby, hml, hown, hnm, hret, hlk, h00⟩, hT, locs, X, N⟩ := X
  subst hp
  exact w.step fun t kk => XS.l2i X.here hx rfl (hb hby hd) rfl kk
theorem w_lcmp (X : St p l e R s m args below meth c Z n0 y code maxL ret T h cells slots) {x z : Int64} (hd : decode code pc = .ok (.lcmp, 1)) (hp : pc' = pc + 1) (w : WP p e below s n0 k n Q T (mkF m pc' Ls (.int (lcmpW x z) :: S))) : WP p e below s n0 k n Q T (mkF m pc Ls (.long z :: .long x :: S)) := by
  obtain ⟨⟨hx, hZ, hby, hml, hown, hnm, hret, hlk, h00⟩, hT, locs, X, N⟩ := X
  subst hp
  exact w.step fun t kk => XS.lcmp X.here hx rfl (hb hby hd) rfl kk
theorem w_dup (X : St p l e R s m args below meth c Z n0 y code maxL ret T h cells slots) {v : Value} (hd : decode code pc = .ok (.dup, 1)) (hv : v.category = 1) (hp : pc' = pc + 1) (w : WP p e below s n0 k n Q T (mkF m pc' Ls (v :: v :: S))) : WP p e below s n0 k n Q T (mkF m pc Ls (v :: S)) := by
  obtain ⟨⟨hx, hZ, hby, hml, hown, hnm, hret, hlk, h00⟩, hT, locs, X, N⟩ := X
  subst hp
  exact w.step fun t kk => XS.dup X.here hx rfl (hb hby hd) rfl hv kk
theorem w_pop (X : St p l e R s m args below meth c Z n0 y code maxL ret T h cells slots) {v : Value} (hd : decode code pc = .ok (.pop, 1)) (hv : v.category = 1) (hp : pc' = pc + 1) (w : WP p e below s n0 k n Q T (mkF m pc' Ls (S))) : WP p e below s n0 k n Q T (mkF m pc Ls (v :: S)) := by
  obtain ⟨⟨hx, hZ, hby, hml, hown, hnm, hret, hlk, h00⟩, hT, locs, X, N⟩ := X
  subst hp
  exact w.step fun t kk => XS.pop X.here hx rfl (hb hby hd) rfl hv kk
theorem w_dup_x1 (X : St p l e R s m args below meth c Z n0 y code maxL ret T h cells slots) {v u : Value} (hd : decode code pc = .ok (.dup_x1, 1)) (hv : v.category = 1) (hu : u.category = 1) (hp : pc' = pc + 1) (w : WP p e below s n0 k n Q T (mkF m pc' Ls (v :: u :: v :: S))) : WP p e below s n0 k n Q T (mkF m pc Ls (v :: u :: S)) := by
  obtain ⟨⟨hx, hZ, hby, hml, hown, hnm, hret, hlk, h00⟩, hT, locs, X, N⟩ := X
  subst hp
  exact w.step fun t kk => XS.dupX1 X.here hx rfl (hb hby hd) rfl hv hu kk
theorem w_dup2 (X : St p l e R s m args below meth c Z n0 y code maxL ret T h cells slots) {j : Int32} {a : Addr} (hd : decode code pc = .ok (.dup2, 1)) (hp : pc' = pc + 1) (w : WP p e below s n0 k n Q T (mkF m pc' Ls (.int j :: .ref a :: .int j :: .ref a :: S))) : WP p e below s n0 k n Q T (mkF m pc Ls (.int j :: .ref a :: S)) := by
  obtain ⟨⟨hx, hZ, hby, hml, hown, hnm, hret, hlk, h00⟩, hT, locs, X, N⟩ := X
  subst hp
  refine w.step fun t kk => ?_
  have hd' := hb hby hd
  jvm_step X.here [X.here.top, hx, hd', Value.category]
  exact kk
theorem w_goto (X : St p l e R s m args below meth c Z n0 y code maxL ret T h cells slots) {o : Int} (hd : decode code pc = .ok (.goto o, 3)) (ho : 0 ≤ (pc : Int) + o) (hp : ((pc : Int) + o).toNat = pc') (w : WP p e below s n0 k n Q T (mkF m pc' Ls S)) : WP p e below s n0 k n Q T (mkF m pc Ls S) := by
  obtain ⟨⟨hx, hZ, hby, hml, hown, hnm, hret, hlk, h00⟩, hT, locs, X, N⟩ := X
  exact w.step fun t kk => XS.goto X.here hx rfl rfl (hb hby hd) ho hp kk
theorem w_icmp_lt (X : St p l e R s m args below meth c Z n0 y code maxL ret T h cells slots) {o : Int} {x z : Int32} {p1 p2 : Nat} (hd : decode code pc = .ok (.if_icmp .lt o, 3)) (ho : 0 ≤ (pc : Int) + o) (h1 : ((pc : Int) + o).toNat = p1) (h2 : p2 = pc + 3) (wt : x < z → WP p e below s n0 k n Q T (mkF m p1 Ls S)) (wf : ¬ x < z → WP p e below s n0 k n Q T (mkF m p2 Ls S)) : WP p e below s n0 k n Q T (mkF m pc Ls (.int z :: .int x :: S)) := by
  obtain ⟨⟨hx, hZ, hby, hml, hown, hnm, hret, hlk, h00⟩, hT, locs, X, N⟩ := X
  subst h2
  by_cases q0 : x < z
  · have q := q0
    exact (wt q).step fun t kk => XS.icmpYes X.here hx rfl rfl (hb hby hd) rfl (tlt q).1 ho h1 kk
  · have q := q0
    exact (wf q).step fun t kk => XS.icmpNo X.here hx rfl (hb hby hd) rfl (flt q).1 kk
theorem w_if_lt (X : St p l e R s m args below meth c Z n0 y code maxL ret T h cells slots) {o : Int} {x : Int32} {p1 p2 : Nat} (hd : decode code pc = .ok (.ifCond .lt o, 3)) (ho : 0 ≤ (pc : Int) + o) (h1 : ((pc : Int) + o).toNat = p1) (h2 : p2 = pc + 3) (wt : x < (0 : Int32) → WP p e below s n0 k n Q T (mkF m p1 Ls S)) (wf : ¬ x < (0 : Int32) → WP p e below s n0 k n Q T (mkF m p2 Ls S)) : WP p e below s n0 k n Q T (mkF m pc Ls (.int x :: S)) := by
  obtain ⟨⟨hx, hZ, hby, hml, hown, hnm, hret, hlk, h00⟩, hT, locs, X, N⟩ := X
  subst h2
  by_cases q0 : x < (0 : Int32)
  · have q := q0
    exact (wt q).step fun t kk => XS.ifYes X.here hx rfl rfl (hb hby hd) rfl ((if0 _ _).trans (tlt q).1) ho h1 kk
  · have q := q0
    exact (wf q).step fun t kk => XS.ifNo X.here hx rfl (hb hby hd) rfl ((if0 _ _).trans (flt q).1) kk
theorem w_lcmp_lt (X : St p l e R s m args below meth c Z n0 y code maxL ret T h cells slots) {o : Int} {x z : Int64} {p0 p1 p2 : Nat} (hd0 : decode code pc = .ok (.lcmp, 1)) (h0 : p0 = pc + 1) (hd : decode code p0 = .ok (.ifCond .lt o, 3)) (ho : 0 ≤ (p0 : Int) + o) (h1 : ((p0 : Int) + o).toNat = p1) (h2 : p2 = p0 + 3) (wt : x < z → WP p e below s n0 k n Q T (mkF m p1 Ls S)) (wf : ¬ x < z → WP p e below s n0 k n Q T (mkF m p2 Ls S)) : WP p e below s n0 k n Q T (mkF m pc Ls (.long z :: .long x :: S)) :=
  w_lcmp X hd0 h0 (w_if_lt X hd ho h1 h2 (fun q => wt ((lw_lt _ _).mp q)) (fun q => wf (fun u => q ((lw_lt _ _).mpr u))))
theorem w_icmp_ge (X : St p l e R s m args below meth c Z n0 y code maxL ret T h cells slots) {o : Int} {x z : Int32} {p1 p2 : Nat} (hd : decode code pc = .ok (.if_icmp .ge o, 3)) (ho : 0 ≤ (pc : Int) + o) (h1 : ((pc : Int) + o).toNat = p1) (h2 : p2 = pc + 3) (wt : ¬ x < z → WP p e below s n0 k n Q T (mkF m p1 Ls S)) (wf : x < z → WP p e below s n0 k n Q T (mkF m p2 Ls S)) : WP p e below s n0 k n Q T (mkF m pc Ls (.int z :: .int x :: S)) := by
  obtain ⟨⟨hx, hZ, hby, hml, hown, hnm, hret, hlk, h00⟩, hT, locs, X, N⟩ := X
  subst h2
  by_cases q0 : x < z
  · have q := q0
    exact (wf q).step fun t kk => XS.icmpNo X.here hx rfl (hb hby hd) rfl (tlt q).2.1 kk
  · have q := q0
    exact (wt q).step fun t kk => XS.icmpYes X.here hx rfl rfl (hb hby hd) rfl (flt q).2.1 ho h1 kk
theorem w_if_ge (X : St p l e R s m args below meth c Z n0 y code maxL ret T h cells slots) {o : Int} {x : Int32} {p1 p2 : Nat} (hd : decode code pc = .ok (.ifCond .ge o, 3)) (ho : 0 ≤ (pc : Int) + o) (h1 : ((pc : Int) + o).toNat = p1) (h2 : p2 = pc + 3) (wt : ¬ x < (0 : Int32) → WP p e below s n0 k n Q T (mkF m p1 Ls S)) (wf : x < (0 : Int32) → WP p e below s n0 k n Q T (mkF m p2 Ls S)) : WP p e below s n0 k n Q T (mkF m pc Ls (.int x :: S)) := by
  obtain ⟨⟨hx, hZ, hby, hml, hown, hnm, hret, hlk, h00⟩, hT, locs, X, N⟩ := X
  subst h2
  by_cases q0 : x < (0 : Int32)
  · have q := q0
    exact (wf q).step fun t kk => XS.ifNo X.here hx rfl (hb hby hd) rfl ((if0 _ _).trans (tlt q).2.1) kk
  · have q := q0
    exact (wt q).step fun t kk => XS.ifYes X.here hx rfl rfl (hb hby hd) rfl ((if0 _ _).trans (flt q).2.1) ho h1 kk
theorem w_lcmp_ge (X : St p l e R s m args below meth c Z n0 y code maxL ret T h cells slots) {o : Int} {x z : Int64} {p0 p1 p2 : Nat} (hd0 : decode code pc = .ok (.lcmp, 1)) (h0 : p0 = pc + 1) (hd : decode code p0 = .ok (.ifCond .ge o, 3)) (ho : 0 ≤ (p0 : Int) + o) (h1 : ((p0 : Int) + o).toNat = p1) (h2 : p2 = p0 + 3) (wt : ¬ x < z → WP p e below s n0 k n Q T (mkF m p1 Ls S)) (wf : x < z → WP p e below s n0 k n Q T (mkF m p2 Ls S)) : WP p e below s n0 k n Q T (mkF m pc Ls (.long z :: .long x :: S)) :=
  w_lcmp X hd0 h0 (w_if_ge X hd ho h1 h2 (fun q => wt (fun u => q ((lw_lt _ _).mpr u))) (fun q => wf ((lw_lt _ _).mp q)))
theorem w_icmp_gt (X : St p l e R s m args below meth c Z n0 y code maxL ret T h cells slots) {o : Int} {x z : Int32} {p1 p2 : Nat} (hd : decode code pc = .ok (.if_icmp .gt o, 3)) (ho : 0 ≤ (pc : Int) + o) (h1 : ((pc : Int) + o).toNat = p1) (h2 : p2 = pc + 3) (wt : z < x → WP p e below s n0 k n Q T (mkF m p1 Ls S)) (wf : ¬ z < x → WP p e below s n0 k n Q T (mkF m p2 Ls S)) : WP p e below s n0 k n Q T (mkF m pc Ls (.int z :: .int x :: S)) := by
  obtain ⟨⟨hx, hZ, hby, hml, hown, hnm, hret, hlk, h00⟩, hT, locs, X, N⟩ := X
  subst h2
  by_cases q0 : z < x
  · have q := q0
    exact (wt q).step fun t kk => XS.icmpYes X.here hx rfl rfl (hb hby hd) rfl (tlt q).2.2.1 ho h1 kk
  · have q := q0
    exact (wf q).step fun t kk => XS.icmpNo X.here hx rfl (hb hby hd) rfl (flt q).2.2.1 kk
theorem w_if_gt (X : St p l e R s m args below meth c Z n0 y code maxL ret T h cells slots) {o : Int} {x : Int32} {p1 p2 : Nat} (hd : decode code pc = .ok (.ifCond .gt o, 3)) (ho : 0 ≤ (pc : Int) + o) (h1 : ((pc : Int) + o).toNat = p1) (h2 : p2 = pc + 3) (wt : (0 : Int32) < x → WP p e below s n0 k n Q T (mkF m p1 Ls S)) (wf : ¬ (0 : Int32) < x → WP p e below s n0 k n Q T (mkF m p2 Ls S)) : WP p e below s n0 k n Q T (mkF m pc Ls (.int x :: S)) := by
  obtain ⟨⟨hx, hZ, hby, hml, hown, hnm, hret, hlk, h00⟩, hT, locs, X, N⟩ := X
  subst h2
  by_cases q0 : (0 : Int32) < x
  · have q := q0
    exact (wt q).step fun t kk => XS.ifYes X.here hx rfl rfl (hb hby hd) rfl ((if0 _ _).trans (tlt q).2.2.1) ho h1 kk
  · have q := q0
    exact (wf q).step fun t kk => XS.ifNo X.here hx rfl (hb hby hd) rfl ((if0 _ _).trans (flt q).2.2.1) kk
theorem w_lcmp_gt (X : St p l e R s m args below meth c Z n0 y code maxL ret T h cells slots) {o : Int} {x z : Int64} {p0 p1 p2 : Nat} (hd0 : decode code pc = .ok (.lcmp, 1)) (h0 : p0 = pc + 1) (hd : decode code p0 = .ok (.ifCond .gt o, 3)) (ho : 0 ≤ (p0 : Int) + o) (h1 : ((p0 : Int) + o).toNat = p1) (h2 : p2 = p0 + 3) (wt : z < x → WP p e below s n0 k n Q T (mkF m p1 Ls S)) (wf : ¬ z < x → WP p e below s n0 k n Q T (mkF m p2 Ls S)) : WP p e below s n0 k n Q T (mkF m pc Ls (.long z :: .long x :: S)) :=
  w_lcmp X hd0 h0 (w_if_gt X hd ho h1 h2 (fun q => wt ((lw_gt _ _).mp q)) (fun q => wf (fun u => q ((lw_gt _ _).mpr u))))
theorem w_icmp_le (X : St p l e R s m args below meth c Z n0 y code maxL ret T h cells slots) {o : Int} {x z : Int32} {p1 p2 : Nat} (hd : decode code pc = .ok (.if_icmp .le o, 3)) (ho : 0 ≤ (pc : Int) + o) (h1 : ((pc : Int) + o).toNat = p1) (h2 : p2 = pc + 3) (wt : ¬ z < x → WP p e below s n0 k n Q T (mkF m p1 Ls S)) (wf : z < x → WP p e below s n0 k n Q T (mkF m p2 Ls S)) : WP p e below s n0 k n Q T (mkF m pc Ls (.int z :: .int x :: S)) := by
  obtain ⟨⟨hx, hZ, hby, hml, hown, hnm, hret, hlk, h00⟩, hT, locs, X, N⟩ := X
  subst h2
  by_cases q0 : z < x
  · have q := q0
    exact (wf q).step fun t kk => XS.icmpNo X.here hx rfl (hb hby hd) rfl (tlt q).2.2.2 kk
  · have q := q0
    exact (wt q).step fun t kk => XS.icmpYes X.here hx rfl rfl (hb hby hd) rfl (flt q).2.2.2 ho h1 kk
theorem w_if_le (X : St p l e R s m args below meth c Z n0 y code maxL ret T h cells slots) {o : Int} {x : Int32} {p1 p2 : Nat} (hd : decode code pc = .ok (.ifCond .le o, 3)) (ho : 0 ≤ (pc : Int) + o) (h1 : ((pc : Int) + o).toNat = p1) (h2 : p2 = pc + 3) (wt : ¬ (0 : Int32) < x → WP p e below s n0 k n Q T (mkF m p1 Ls S)) (wf : (0 : Int32) < x → WP p e below s n0 k n Q T (mkF m p2 Ls S)) : WP p e below s n0 k n Q T (mkF m pc Ls (.int x :: S)) := by
  obtain ⟨⟨hx, hZ, hby, hml, hown, hnm, hret, hlk, h00⟩, hT, locs, X, N⟩ := X
  subst h2
  by_cases q0 : (0 : Int32) < x
  · have q := q0
    exact (wf q).step fun t kk => XS.ifNo X.here hx rfl (hb hby hd) rfl ((if0 _ _).trans (tlt q).2.2.2) kk
  · have q := q0
    exact (wt q).step fun t kk => XS.ifYes X.here hx rfl rfl (hb hby hd) rfl ((if0 _ _).trans (flt q).2.2.2) ho h1 kk
theorem w_lcmp_le (X : St p l e R s m args below meth c Z n0 y code maxL ret T h cells slots) {o : Int} {x z : Int64} {p0 p1 p2 : Nat} (hd0 : decode code pc = .ok (.lcmp, 1)) (h0 : p0 = pc + 1) (hd : decode code p0 = .ok (.ifCond .le o, 3)) (ho : 0 ≤ (p0 : Int) + o) (h1 : ((p0 : Int) + o).toNat = p1) (h2 : p2 = p0 + 3) (wt : ¬ z < x → WP p e below s n0 k n Q T (mkF m p1 Ls S)) (wf : z < x → WP p e below s n0 k n Q T (mkF m p2 Ls S)) : WP p e below s n0 k n Q T (mkF m pc Ls (.long z :: .long x :: S)) :=
  w_lcmp X hd0 h0 (w_if_le X hd ho h1 h2 (fun q => wt (fun u => q ((lw_gt _ _).mpr u))) (fun q => wf ((lw_gt _ _).mp q)))
theorem w_icmp_eq (X : St p l e R s m args below meth c Z n0 y code maxL ret T h cells slots) {o : Int} {x z : Int32} {p1 p2 : Nat} (hd : decode code pc = .ok (.if_icmp .eq o, 3)) (ho : 0 ≤ (pc : Int) + o) (h1 : ((pc : Int) + o).toNat = p1) (h2 : p2 = pc + 3) (wt : x = z → WP p e below s n0 k n Q T (mkF m p1 Ls S)) (wf : ¬ x = z → WP p e below s n0 k n Q T (mkF m p2 Ls S)) : WP p e below s n0 k n Q T (mkF m pc Ls (.int z :: .int x :: S)) := by
  obtain ⟨⟨hx, hZ, hby, hml, hown, hnm, hret, hlk, h00⟩, hT, locs, X, N⟩ := X
  subst h2
  by_cases q0 : x = z
  · have q := q0
    exact (wt q).step fun t kk => XS.icmpYes X.here hx rfl rfl (hb hby hd) rfl (teq q).1 ho h1 kk
  · have q := q0
    exact (wf q).step fun t kk => XS.icmpNo X.here hx rfl (hb hby hd) rfl (feq q).1 kk
theorem w_if_eq (X : St p l e R s m args below meth c Z n0 y code maxL ret T h cells slots) {o : Int} {x : Int32} {p1 p2 : Nat} (hd : decode code pc = .ok (.ifCond .eq o, 3)) (ho : 0 ≤ (pc : Int) + o) (h1 : ((pc : Int) + o).toNat = p1) (h2 : p2 = pc + 3) (wt : x = (0 : Int32) → WP p e below s n0 k n Q T (mkF m p1 Ls S)) (wf : ¬ x = (0 : Int32) → WP p e below s n0 k n Q T (mkF m p2 Ls S)) : WP p e below s n0 k n Q T (mkF m pc Ls (.int x :: S)) := by
  obtain ⟨⟨hx, hZ, hby, hml, hown, hnm, hret, hlk, h00⟩, hT, locs, X, N⟩ := X
  subst h2
  by_cases q0 : x = (0 : Int32)
  · have q := q0
    exact (wt q).step fun t kk => XS.ifYes X.here hx rfl rfl (hb hby hd) rfl ((if0 _ _).trans (teq q).1) ho h1 kk
  · have q := q0
    exact (wf q).step fun t kk => XS.ifNo X.here hx rfl (hb hby hd) rfl ((if0 _ _).trans (feq q).1) kk
theorem w_lcmp_eq (X : St p l e R s m args below meth c Z n0 y code maxL ret T h cells slots) {o : Int} {x z : Int64} {p0 p1 p2 : Nat} (hd0 : decode code pc = .ok (.lcmp, 1)) (h0 : p0 = pc + 1) (hd : decode code p0 = .ok (.ifCond .eq o, 3)) (ho : 0 ≤ (p0 : Int) + o) (h1 : ((p0 : Int) + o).toNat = p1) (h2 : p2 = p0 + 3) (wt : x = z → WP p e below s n0 k n Q T (mkF m p1 Ls S)) (wf : ¬ x = z → WP p e below s n0 k n Q T (mkF m p2 Ls S)) : WP p e below s n0 k n Q T (mkF m pc Ls (.long z :: .long x :: S)) :=
  w_lcmp X hd0 h0 (w_if_eq X hd ho h1 h2 (fun q => wt ((lw_eq _ _).mp q)) (fun q => wf (fun u => q ((lw_eq _ _).mpr u))))
theorem w_icmp_ne (X : St p l e R s m args below meth c Z n0 y code maxL ret T h cells slots) {o : Int} {x z : Int32} {p1 p2 : Nat} (hd : decode code pc = .ok (.if_icmp .ne o, 3)) (ho : 0 ≤ (pc : Int) + o) (h1 : ((pc : Int) + o).toNat = p1) (h2 : p2 = pc + 3) (wt : ¬ x = z → WP p e below s n0 k n Q T (mkF m p1 Ls S)) (wf : x = z → WP p e below s n0 k n Q T (mkF m p2 Ls S)) : WP p e below s n0 k n Q T (mkF m pc Ls (.int z :: .int x :: S)) := by
  obtain ⟨⟨hx, hZ, hby, hml, hown, hnm, hret, hlk, h00⟩, hT, locs, X, N⟩ := X
  subst h2
  by_cases q0 : x = z
  · have q := q0
    exact (wf q).step fun t kk => XS.icmpNo X.here hx rfl (hb hby hd) rfl (teq q).2 kk
  · have q := q0
    exact (wt q).step fun t kk => XS.icmpYes X.here hx rfl rfl (hb hby hd) rfl (feq q).2 ho h1 kk
theorem w_if_ne (X : St p l e R s m args below meth c Z n0 y code maxL ret T h cells slots) {o : Int} {x : Int32} {p1 p2 : Nat} (hd : decode code pc = .ok (.ifCond .ne o, 3)) (ho : 0 ≤ (pc : Int) + o) (h1 : ((pc : Int) + o).toNat = p1) (h2 : p2 = pc + 3) (wt : ¬ x = (0 : Int32) → WP p e below s n0 k n Q T (mkF m p1 Ls S)) (wf : x = (0 : Int32) → WP p e below s n0 k n Q T (mkF m p2 Ls S)) : WP p e below s n0 k n Q T (mkF m pc Ls (.int x :: S)) := by
  obtain ⟨⟨hx, hZ, hby, hml, hown, hnm, hret, hlk, h00⟩, hT, locs, X, N⟩ := X
  subst h2
  by_cases q0 : x = (0 : Int32)
  · have q := q0
    exact (wf q).step fun t kk => XS.ifNo X.here hx rfl (hb hby hd) rfl ((if0 _ _).trans (teq q).2) kk
  · have q := q0
    exact (wt q).step fun t kk => XS.ifYes X.here hx rfl rfl (hb hby hd) rfl ((if0 _ _).trans (feq q).2) ho h1 kk
theorem w_lcmp_ne (X : St p l e R s m args below meth c Z n0 y code maxL ret T h cells slots) {o : Int} {x z : Int64} {p0 p1 p2 : Nat} (hd0 : decode code pc = .ok (.lcmp, 1)) (h0 : p0 = pc + 1) (hd : decode code p0 = .ok (.ifCond .ne o, 3)) (ho : 0 ≤ (p0 : Int) + o) (h1 : ((p0 : Int) + o).toNat = p1) (h2 : p2 = p0 + 3) (wt : ¬ x = z → WP p e below s n0 k n Q T (mkF m p1 Ls S)) (wf : x = z → WP p e below s n0 k n Q T (mkF m p2 Ls S)) : WP p e below s n0 k n Q T (mkF m pc Ls (.long z :: .long x :: S)) :=
  w_lcmp X hd0 h0 (w_if_ne X hd ho h1 h2 (fun q => wt (fun u => q ((lw_eq _ _).mpr u))) (fun q => wf ((lw_eq _ _).mp q)))
theorem w_ifnull_ref (X : St p l e R s m args below meth c Z n0 y code maxL ret T h cells slots) {o : Int} {a : Addr} (hd : decode code pc = .ok (.ifnull o, 3)) (hp : pc' = pc + 3) (w : WP p e below s n0 k n Q T (mkF m pc' Ls S)) : WP p e below s n0 k n Q T (mkF m pc Ls (.ref a :: S)) := by
  obtain ⟨⟨hx, hZ, hby, hml, hown, hnm, hret, hlk, h00⟩, hT, locs, X, N⟩ := X
  subst hp
  exact w.step fun t kk => XS.ifnullNo X.here hx rfl (hb hby hd) rfl kk
theorem w_end (X : St p l e R s m args below meth c Z n0 y code maxL ret T h cells slots) {g : JFrame} {v : Option Value} (hv : ret = none → v = none) (hk : cells ≤ k) (hn : slots ≤ n) (hq : Q v h)
    (st : ∀ (locs : List Loc) (fs : List Frame), p.tables.exec = Jvm.exec → c.code = code → meth.sig.returnType = ret → Stand p l e R s m args below meth c T locs cells slots → (∀ (f : JFrame) (acts : List Action), f.method = m → f.locked = none → f.entered = [] → (doReturn e (T.setTop f) acts v).1 = T.setFrames fs) → Steps p.tables e below (T.setTop g) (T.setFrames fs)) : WP p e below s n0 k n Q T g := by
  obtain ⟨⟨hx, hZ, hby, hml, hown, hnm, hret, hlk, h00⟩, hT, locs, X, N⟩ := X
  obtain ⟨fs, hr, hrun, hended, hW, hsame⟩ := X.leave (v := v) (fun q => hv (hret ▸ q)) hlk
  refine ⟨_, _, st locs fs hx hby hret X hr, hrun, hended, _, _, rfl, ⟨?_, N⟩, ⟨_, rfl⟩, hW, hsame.mono hk hn⟩
  show Q v T.heap
  rw [hT]; exact hq
theorem w_retI (X : St p l e R s m args below meth c Z n0 y code maxL ret T h cells slots) {z : Int32} (hr : ret = some .int) (hd : decode code pc = .ok (.ireturn, 1)) (hk : cells ≤ k) (hn : slots ≤ n) (hq : Q (some (.int z)) h) : WP p e below s n0 k n Q T (mkF m pc Ls (.int z :: S)) :=
  w_end X (v := some (.int z)) (fun q => by rw [hr] at q; cases q) hk hn hq fun locs fs hx hby hret X hl => retOut X hx (hret.trans hr) rfl (Or.inl ⟨rfl, Or.inl rfl, z, rfl⟩) (hb hby hd) hl
theorem w_retJ (X : St p l e R s m args below meth c Z n0 y code maxL ret T h cells slots) {z : Int64} (hr : ret = some .long) (hd : decode code pc = .ok (.lreturn, 1)) (hk : cells ≤ k) (hn : slots ≤ n) (hq : Q (some (.long z)) h) : WP p e below s n0 k n Q T (mkF m pc Ls (.long z :: S)) :=
  w_end X (v := some (.long z)) (fun q => by rw [hr] at q; cases q) hk hn hq fun locs fs hx hby hret X hl => retOut X hx (hret.trans hr) rfl (Or.inr (Or.inl ⟨rfl, rfl, z, rfl⟩)) (hb hby hd) hl
theorem w_retA (X : St p l e R s m args below meth c Z n0 y code maxL ret T h cells slots) {a : Addr} {t : FieldType} (hr : ret = some t) (ht : t.isReference = true) (hnn : narrow t (.ref a) = .ref a) (hd : decode code pc = .ok (.areturn, 1)) (hk : cells ≤ k) (hn : slots ≤ n) (hq : Q (some (.ref a)) h) : WP p e below s n0 k n Q T (mkF m pc Ls (.ref a :: S)) :=
  w_end X (v := some (.ref a)) (fun q => by rw [hr] at q; cases q) hk hn hq fun locs fs hx hby hret X hl => retOut X hx (hret.trans hr) hnn (Or.inr (Or.inr (Or.inr (Or.inr ⟨rfl, ht, rfl⟩)))) (hb hby hd) hl
theorem w_retN (X : St p l e R s m args below meth c Z n0 y code maxL ret T h cells slots) {z z' : Int32} {t : FieldType} (hr : ret = some t) (ht : t = .boolean ∨ t = .byte ∨ t = .char ∨ t = .short) (hd : decode code pc = .ok (.ireturn, 1)) (hz : nar t z = z') (hk : cells ≤ k) (hn : slots ≤ n) (hq : Q (some (.int z')) h) : WP p e below s n0 k n Q T (mkF m pc Ls (.int z :: S)) :=
  w_end X (v := some (.int z')) (fun q => by rw [hr] at q; cases q) hk hn hq fun locs fs hx hby hret X hl => retN X hx (hret.trans hr) ht (hb hby hd) (by rw [hz]; exact hl)
theorem w_retZ (X : St p l e R s m args below meth c Z n0 y code maxL ret T h cells slots) {z : Int32} (hr : ret = some .boolean) (hd : decode code pc = .ok (.ireturn, 1)) (hz : z &&& 1 = z) (hk : cells ≤ k) (hn : slots ≤ n) (hq : Q (some (.int z)) h) : WP p e below s n0 k n Q T (mkF m pc Ls (.int z :: S)) :=
  w_retN X hr (Or.inl rfl) hd hz hk hn hq
theorem w_retV (X : St p l e R s m args below meth c Z n0 y code maxL ret T h cells slots) (hr : ret = none) (hd : decode code pc = .ok (.return_, 1)) (hk : cells ≤ k) (hn : slots ≤ n) (hq : Q none h) : WP p e below s n0 k n Q T (mkF m pc Ls []) :=
  w_end X (v := none) (fun _ => rfl) hk hn hq fun locs fs hx hby hret X hl => X.returnOut hx (hret.trans hr) (hb hby hd) hl
theorem St.of_back (X : St p l e R s m args below meth c Z n0 y code maxL ret T h cells slots) {locs : List Loc} (N : Fr n0 locs) {T' : State} {L' : List Loc} {cells' slots' : Nat} (X' : Stand p l e R s m args below meth c T' (locs ++ L') cells' slots') (N' : Fr n0 L') : St p l e R s m args below meth c Z n0 y code maxL ret T' T'.heap cells' slots' :=
  ⟨X.1, rfl, _, X', N.app N'⟩
theorem w_callS (X : St p l e R s m args below meth c Z n0 y code maxL ret T h cells slots) {z : MethodName} {idx : Nat} {code' : ByteArray} {maxL' : Nat} {ret' : Option FieldType} {rm : Room} (argsL rest : List Value) {Q' : Option Value → Heap → Prop} {ps : List FieldType} {r : Option FieldType} (W : Nat)
    (wl : (Jvm.Cond.methodLink y.cls idx z).before a0 Z = true) (wt : (Jvm.Cond.static z).before a0 Z = true) (wi : (Jvm.Cond.initialized z.cls).before a0 Z = true) (wc : (Jvm.Cond.code z code' maxL' ret').before a0 Z = true)
    (ct : Ct l Z z code' maxL' ret' rm argsL.toArray h n0 Q') (hd : decode code pc = .ok (.invokestatic idx, 3)) (pd : parseMethodDescriptor z.desc = some ⟨ps, r⟩) (hlen : argsL.length = ps.length) (hy : z.cls ≠ "java/lang/invoke/MethodHandle" ∧ z.cls ≠ "java/lang/invoke/VarHandle")
    (hsz : Ls.size = maxL) (hS : S = argsL.reverse ++ rest) (hW : (rest.map fun v => v.category).sum = W) (hfr : rm.frames + 1 ≤ R.frames) (hlo : W + (maxL' + 11) + rm.locals ≤ R.locals) (hc : cells + rm.cells ≤ R.cells) (hs : slots + rm.slots ≤ R.slots) (hp : pc' = pc + 3)
    (w : ∀ T' h' v, St p l e R s m args below meth c Z n0 y code maxL ret T' h' (cells + rm.cells) (slots + rm.slots) → Q' v h' → WP p e below s n0 k n Q T' (mkF m pc' Ls (v.toList ++ rest))) : WP p e below s n0 k n Q T (mkF m pc Ls S) := by
  have X1 := X
  obtain ⟨⟨hx, hZ, hby, hml, hown, hnm, hret, hlk, h00⟩, hT, locs, X, N⟩ := X
  subst hp hS
  obtain ⟨v, _, ⟨T', L', k', n'⟩, -, X', ⟨Lc, hQ, l1, y1, z1⟩, st⟩ := Jvm.LawKit.callS X hx (y := z) hown (mvT hZ wl) (mvT hZ wt) (mvT hZ wi) (mvT hZ wc) hy (backOf (W := W) (Q := fun v h L => Q' v h ∧ Fr n0 L) (ct []) hZ wc wi hfr hlo) (g := mkF m pc Ls (argsL.reverse ++ rest)) rfl (hsz.trans hml.symm) (argsL := argsL) (rest := rest) (lenOf pd hlen) rfl (by show 2 * 0 + _ ≤ _; omega) (hb hby hd) (fun _ _ => ⟨rfl, hT, hc, hs⟩)
  dsimp only [Pt.U, Pt.locs, Pt.cells, Pt.slots] at X' l1 y1 z1 st hQ
  subst l1 y1 z1
  exact (w T' T'.heap v (X1.of_back N X' hQ.2) hQ.1).step fun t kk => st t kk
theorem w_callV (X : St p l e R s m args below meth c Z n0 y code maxL ret T h cells slots) {z : MethodName} {C : String} {idx : Nat} {code' : ByteArray} {maxL' : Nat} {ret' : Option FieldType} {rm : Room} {a : Addr} (argsL rest : List Value) {Q' : Option Value → Heap → Prop} {ps : List FieldType} {r : Option FieldType} (W : Nat)
    (wl : (Jvm.Cond.methodLink y.cls idx z).before a0 Z = true) (wdc : (Jvm.Cond.declares z).before a0 Z = true) (wsel : (Jvm.Cond.selects C z z).before a0 Z = true) (wt : (Jvm.Cond.instanceMethod z).before a0 Z = true) (wi : (Jvm.Cond.initialized z.cls).before a0 Z = true) (wc : (Jvm.Cond.code z code' maxL' ret').before a0 Z = true)
    (E : Exa Z h a C) (ct : Ct l Z z code' maxL' ret' rm (.ref a :: argsL).toArray h n0 Q') (hd : decode code pc = .ok (.invokevirtual idx, 3)) (pd : parseMethodDescriptor z.desc = some ⟨ps, r⟩) (hlen : argsL.length = ps.length) (hy : z.cls ≠ "java/lang/invoke/MethodHandle" ∧ z.cls ≠ "java/lang/invoke/VarHandle")
    (hsz : Ls.size = maxL) (hS : S = argsL.reverse ++ .ref a :: rest) (hW : (rest.map fun v => v.category).sum = W) (hfr : rm.frames + 1 ≤ R.frames) (hlo : W + (maxL' + 11) + rm.locals ≤ R.locals) (hc : cells + rm.cells ≤ R.cells) (hs : slots + rm.slots ≤ R.slots) (hp : pc' = pc + 3)
    (w : ∀ T' h' v, St p l e R s m args below meth c Z n0 y code maxL ret T' h' (cells + rm.cells) (slots + rm.slots) → Q' v h' → WP p e below s n0 k n Q T' (mkF m pc' Ls (v.toList ++ rest))) : WP p e below s n0 k n Q T (mkF m pc Ls S) := by
  have X1 := X
  obtain ⟨⟨hx, hZ, hby, hml, hown, hnm, hret, hlk, h00⟩, hT, locs, X, N⟩ := X
  subst hp hS
  obtain ⟨cq, kq, qa, qb, qc⟩ := isOf hZ hT E
  obtain ⟨v, _, ⟨T', L', k', n'⟩, -, X', ⟨Lc, hQ, l1, y1, z1⟩, st⟩ := X.virtualBack hx (y := z) (z := z) hown (mvT hZ wl) (mvT hZ wdc) (notFace_of_selects (args := #[]) (mvT hZ wsel)) (mvT hZ wsel) (mvT hZ wt) hy (backOf (W := W) (Q := fun v h L => Q' v h ∧ Fr n0 L) (ct []) hZ wc wi hfr hlo) qa qc (g := mkF m pc Ls (argsL.reverse ++ .ref a :: rest)) rfl (hsz.trans hml.symm) (Steps.refl _) (argsL := argsL) (rest := rest) (lenOf pd hlen) rfl (by show 2 * 0 + _ ≤ _; omega) (hb hby hd) (fun _ _ => ⟨rfl, hT, hc, hs⟩)
  dsimp only [Pt.U, Pt.locs, Pt.cells, Pt.slots] at X' l1 y1 z1 st hQ
  subst l1 y1 z1
  exact (w T' T'.heap v (X1.of_back N X' hQ.2) hQ.1).trans st
theorem w_callC (X : St p l e R s m args below meth c Z n0 y code maxL ret T h cells slots) {z : MethodName} {idx : Nat} {code' : ByteArray} {maxL' : Nat} {rm : Room} {a : Addr} (argsL rest : List Value) {Q' : Option Value → Heap → Prop} {ps : List FieldType} {r : Option FieldType} (W : Nat)
    (hi : z.name = "<init>") (wl : (Jvm.Cond.methodLink y.cls idx z).before a0 Z = true) (wt : (Jvm.Cond.instanceMethod z).before a0 Z = true) (wi : (Jvm.Cond.initialized z.cls).before a0 Z = true) (wc : (Jvm.Cond.code z code' maxL' none).before a0 Z = true)
    (ct : Ct l Z z code' maxL' none rm (.ref a :: argsL).toArray h n0 Q') (hd : decode code pc = .ok (.invokespecial idx, 3)) (pd : parseMethodDescriptor z.desc = some ⟨ps, r⟩) (hlen : argsL.length = ps.length) (hy : z.cls ≠ "java/lang/invoke/MethodHandle" ∧ z.cls ≠ "java/lang/invoke/VarHandle")
    (hsz : Ls.size = maxL) (hS : S = argsL.reverse ++ .ref a :: rest) (hW : (rest.map fun v => v.category).sum = W) (hfr : rm.frames + 1 ≤ R.frames) (hlo : W + (maxL' + 11) + rm.locals ≤ R.locals) (hc : cells + rm.cells ≤ R.cells) (hs : slots + rm.slots ≤ R.slots) (hp : pc' = pc + 3)
    (w : ∀ T' h' v, St p l e R s m args below meth c Z n0 y code maxL ret T' h' (cells + rm.cells) (slots + rm.slots) → Q' v h' → WP p e below s n0 k n Q T' (mkF m pc' Ls (v.toList ++ rest))) : WP p e below s n0 k n Q T (mkF m pc Ls S) := by
  have X1 := X
  obtain ⟨⟨hx, hZ, hby, hml, hown, hnm, hret, hlk, h00⟩, hT, locs, X, N⟩ := X
  subst hp hS
  obtain ⟨v, _, ⟨T', L', k', n'⟩, -, X', ⟨Lc, hQ, l1, y1, z1⟩, st⟩ := X.specialBack hx (y := z) hi hown (mvT hZ wl) (mvT hZ wt) (mvT hZ wc) hy (backOf (W := W) (Q := fun v h L => Q' v h ∧ Fr n0 L) (ct []) hZ wc wi hfr hlo) (g := mkF m pc Ls (argsL.reverse ++ .ref a :: rest)) rfl (hsz.trans hml.symm) (Steps.refl _) (a := a) (argsL := argsL) (rest := rest) (lenOf pd hlen) rfl (by show 2 * 0 + _ ≤ _; omega) (hb hby hd) (fun _ _ => ⟨rfl, hT, hc, hs⟩)
  dsimp only [Pt.U, Pt.locs, Pt.cells, Pt.slots] at X' l1 y1 z1 st hQ
  subst l1 y1 z1
  exact (w T' T'.heap v (X1.of_back N X' hQ.2) hQ.1).trans st
theorem w_callP (X : St p l e R s m args below meth c Z n0 y code maxL ret T h cells slots) {z z0 : MethodName} {idx : Nat} {code' : ByteArray} {maxL' : Nat} {ret' : Option FieldType} {rm : Room} {a : Addr} (argsL rest : List Value) {Q' : Option Value → Heap → Prop} {ps : List FieldType} {r : Option FieldType} (W : Nat)
    (wl : (Jvm.Cond.methodLink y.cls idx z).before a0 Z = true) (wt : (Jvm.Cond.instanceMethod z).before a0 Z = true) (wp : (Jvm.Cond.privateMethod z).before a0 Z = true) (wsel : (Jvm.Cond.selects z0.cls z0 z0).before a0 Z = true) (h0 : z0.cls = z.cls) (wi : (Jvm.Cond.initialized z.cls).before a0 Z = true) (wc : (Jvm.Cond.code z code' maxL' ret').before a0 Z = true)
    (E : Exa Z h a z.cls) (ct : Ct l Z z code' maxL' ret' rm (.ref a :: argsL).toArray h n0 Q') (hd : decode code pc = .ok (.invokevirtual idx, 3)) (pd : parseMethodDescriptor z.desc = some ⟨ps, r⟩) (hlen : argsL.length = ps.length) (hy : z.cls ≠ "java/lang/invoke/MethodHandle" ∧ z.cls ≠ "java/lang/invoke/VarHandle")
    (hsz : Ls.size = maxL) (hS : S = argsL.reverse ++ .ref a :: rest) (hW : (rest.map fun v => v.category).sum = W) (hfr : rm.frames + 1 ≤ R.frames) (hlo : W + (maxL' + 11) + rm.locals ≤ R.locals) (hc : cells + rm.cells ≤ R.cells) (hs : slots + rm.slots ≤ R.slots) (hp : pc' = pc + 3)
    (w : ∀ T' h' v, St p l e R s m args below meth c Z n0 y code maxL ret T' h' (cells + rm.cells) (slots + rm.slots) → Q' v h' → WP p e below s n0 k n Q T' (mkF m pc' Ls (v.toList ++ rest))) : WP p e below s n0 k n Q T (mkF m pc Ls S) := by
  have X1 := X
  obtain ⟨⟨hx, hZ, hby, hml, hown, hnm, hret, hlk, h00⟩, hT, locs, X, N⟩ := X
  subst hp hS
  obtain ⟨cq, q, q'⟩ := E.cell
  obtain ⟨c2, r2, m2, e1, e2, e3, e4, kP, hkP, hkPi⟩ := Cond.selects_spec (mvT (args := args) hZ wsel)
  have e5 : s.vm.findClass z.cls = some m2.cls := h0 ▸ findClass_of_methodNamed e3
  have hpr : s.PrivateAt z := Cond.privateMethod_at (mvP hZ wp (args := args))
  have hsel : (Jvm.Cond.selects z.cls z z).before args s = true := selects_self_of_private e5 hkP hkPi hpr (mvT hZ wt) hy
  obtain ⟨v, _, ⟨T', L', k', n'⟩, -, X', ⟨Lc, hQ, l1, y1, z1⟩, st⟩ := X.privateBack hx (y := z) hown (mvT hZ wl) (mvT hZ wt) hsel hpr (mvT hZ wc) hy (backOf (W := W) (Q := fun v h L => Q' v h ∧ Fr n0 L) (ct []) hZ wc wi hfr hlo) (g := mkF m pc Ls (argsL.reverse ++ .ref a :: rest)) rfl (hsz.trans hml.symm) (Steps.refl _) (a := a) (by rw [hT]; exact q) q' (argsL := argsL) (rest := rest) (lenOf pd hlen) rfl (by show 2 * 0 + _ ≤ _; omega) (hb hby hd) (fun _ _ => ⟨rfl, hT, hc, hs⟩)
  dsimp only [Pt.U, Pt.locs, Pt.cells, Pt.slots] at X' l1 y1 z1 st hQ
  subst l1 y1 z1
  exact (w T' T'.heap v (X1.of_back N X' hQ.2) hQ.1).trans st
theorem w_initO (X : St p l e R s m args below meth c Z n0 y code maxL ret T h cells slots) {idx : Nat} {a : Addr} {W : Nat} (w1 : (Jvm.Cond.methodLink y.cls idx Lib.objectInit).before a0 Z = true) (w2 : (Jvm.Cond.instanceMethod Lib.objectInit).before a0 Z = true) (w3 : (Jvm.Cond.code Lib.objectInit ⟨#[0xb1]⟩ 1 none).before a0 Z = true)
    (hd : decode code pc = .ok (.invokespecial idx, 3)) (hsz : Ls.size = maxL) (hf : 1 ≤ R.frames) (hW : (S.map fun v => v.category).sum = W) (hl : W + 12 ≤ R.locals) (hp : pc' = pc + 3)
    (w : ∀ T', St p l e R s m args below meth c Z n0 y code maxL ret T' h cells slots → WP p e below s n0 k n Q T' (mkF m pc' Ls S)) : WP p e below s n0 k n Q T (mkF m pc Ls (.ref a :: S)) := by
  have X1 := X
  obtain ⟨⟨hx, hZ, hby, hml, hown, hnm, hret, hlk, h00⟩, hT, locs, X, N⟩ := X
  subst hp
  obtain ⟨T', X', e', st⟩ := initO X hx hZ hown w1 w2 w3 hT (g := mkF m pc Ls (.ref a :: S)) rfl (hsz.trans hml.symm) rfl (hb hby hd) hf (W := W) (by show 2 * 0 + _ ≤ _; omega) hl
  exact (w T' ⟨X1.1, e', locs, X', N⟩).step st
theorem w_getF (X : St p l e R s m args below meth c Z n0 y code maxL ret T h cells slots) {idx : Nat} {O nm d : String} {a : Addr} {v : Value} (wl : (Jvm.Cond.fieldLink y.cls idx O nm d).before a0 Z = true) (F : Fld Z h a O nm d v) (hd : decode code pc = .ok (.getfield idx, 3)) (hp : pc' = pc + 3)
    (w : ∀ T', St p l e R s m args below meth c Z n0 y code maxL ret T' h cells slots → WP p e below s n0 k n Q T' (mkF m pc' Ls (v :: S))) : WP p e below s n0 k n Q T (mkF m pc Ls (.ref a :: S)) := by
  have X1 := X
  obtain ⟨⟨hx, hZ, hby, hml, hown, hnm, hret, hlk, h00⟩, hT, locs, X, N⟩ := X
  subst hp
  obtain ⟨T', X', e', st⟩ := getF X hx hZ hown (host := "") (Or.inl wl) Via.refl hT F (g := mkF m pc Ls (.ref a :: S)) rfl rfl (hb hby hd)
  exact (w T' ⟨X1.1, e', locs, X', N⟩).step st
theorem w_putF (X : St p l e R s m args below meth c Z n0 y code maxL ret T h cells slots) {idx kk : Nat} {O nm d C : String} {ty : FieldType} {a : Addr} {v v' old : Value} (wl : (Jvm.Cond.fieldLink y.cls idx O nm d).before a0 Z = true) (F : Fld Z h a O nm d old) (E : Exa Z h a C) (L : (Jvm.Cond.lays C O nm d).before a0 Z = true ∨ ((Jvm.Cond.laysFinal C O nm d).before a0 Z = true ∧ y.cls = O ∧ y.name = "<init>")) (wi : (Jvm.Cond.instantiable C kk).before a0 Z = true) (ga : n0 ≤ a)
    (hd : decode code pc = .ok (.putfield idx, 3)) (hty : parseFieldDescriptor d = some ty) (hv : narrow ty v = v') (hf : fits ty v' = true) (hp : pc' = pc + 3)
    (w : ∀ T' h', St p l e R s m args below meth c Z n0 y code maxL ret T' h' cells slots → Wr h h' a (Jvm.RoadKit.slotOf Z O nm d) v' → WP p e below s n0 k n Q T' (mkF m pc' Ls S)) : WP p e below s n0 k n Q T (mkF m pc Ls (v :: .ref a :: S)) := by
  have X1 := X
  obtain ⟨⟨hx, hZ, hby, hml, hown, hnm, hret, hlk, h00⟩, hT, locs, X, N⟩ := X
  subst hp
  obtain ⟨T', h', X', e', W', st⟩ := putFN X hx hZ hown wl Via.refl hT F E (L.imp id fun q => ⟨q.1, q.2.1, hnm.trans q.2.2⟩) wi hty hv hf (g := mkF m pc Ls (v :: .ref a :: S)) rfl rfl (hb hby hd)
  exact (w T' h' ⟨X1.1, e', _, X', Fr.snoc X' N ga⟩ W').step st
theorem w_new (X : St p l e R s m args below meth c Z n0 y code maxL ret T h cells slots) {idx nn : Nat} {C : String} (wl : (Jvm.Cond.classLink y.cls idx C).before a0 Z = true) (wi : (Jvm.Cond.instantiable C nn).before a0 Z = true) (wz : (Jvm.Cond.initialized C).before a0 Z = true) (hd : decode code pc = .ok (.new idx, 3)) (hc : cells + 1 ≤ R.cells) (hl : slots + nn ≤ R.slots) (hp : pc' = pc + 3)
    (w : ∀ T' h' a, St p l e R s m args below meth c Z n0 y code maxL ret T' h' (cells + 1) (slots + nn) → a = h.size → n0 ≤ a → Ext h h' → Exa Z h' a C → (∀ {O f d : String} {ty : FieldType}, Laid Z a0 C O f d → parseFieldDescriptor d = some ty → Fld Z h' a O f d (defaultValue ty)) → WP p e below s n0 k n Q T' (mkF m pc' Ls (.ref a :: S))) : WP p e below s n0 k n Q T (mkF m pc Ls S) := by
  have X1 := X
  obtain ⟨⟨hx, hZ, hby, hml, hown, hnm, hret, hlk, h00⟩, hT, locs, X, N⟩ := X
  subst hp
  obtain ⟨T', h', X', e', E', A', D', -, st⟩ := newO X hx hZ hown wl wi wz hT (g := mkF m pc Ls S) rfl (hb hby hd) hc hl
  exact (w T' h' h.size ⟨X1.1, e', _, X', N⟩ rfl X1.n0le E' A' D').step st
theorem w_newarray (X : St p l e R s m args below meth c Z n0 y code maxL ret T h cells slots) {aty : ArrayType} {sz : Int32} (cap : Nat) (wa : (Jvm.Cond.arrayClass (newarray.typeOf aty)).before a0 Z = true) (hd : decode code pc = .ok (.newarray aty, 2)) (hz : ¬ sz < 0) (hcap : sz.toNatClampNeg ≤ cap) (hbig : cap * 8 ≤ 536870912) (hc : cells + 1 ≤ R.cells) (hl : slots + cap ≤ R.slots) (hp : pc' = pc + 2)
    (w : ∀ T' h' a cA, St p l e R s m args below meth c Z n0 y code maxL ret T' h' (cells + 1) (slots + cap) → a = h.size → n0 ≤ a → Ext h h' → Arr Z h' a (newA cA (newarray.typeOf aty) sz) (newarray.typeOf aty) → WP p e below s n0 k n Q T' (mkF m pc' Ls (.ref a :: S))) : WP p e below s n0 k n Q T (mkF m pc Ls (.int sz :: S)) := by
  have X1 := X
  obtain ⟨⟨hx, hZ, hby, hml, hown, hnm, hret, hlk, h00⟩, hT, locs, X, N⟩ := X
  subst hp
  obtain ⟨T', h', cA, X', e', E', A', st⟩ := newP X hx hZ wa hT (g := mkF m pc Ls (.int sz :: S)) rfl (hb hby hd) rfl hz hcap hbig hc hl
  exact (w T' h' h.size cA ⟨X1.1, e', _, X', N⟩ rfl X1.n0le E' A').step st
/-- the array at a: its kind, its length, what stands at each place -/
def AV (Z : State) (h : Heap) (a : Addr) (ty : FieldType) (n : Nat) (f : Nat → Value) : Prop := ∃ c : Cell, Arr Z h a c ty ∧ c.slots.size = n ∧ n < 2 ^ 31 ∧ ∀ i, i < n → c.slots[i]? = some (f i)
theorem AV.ext {a : Addr} {ty : FieldType} {n : Nat} {f : Nat → Value} {h' : Heap} (A : AV Z h a ty n f) (E : Ext h h') : AV Z h' a ty n f := by
  obtain ⟨c, A, r⟩ := A; exact ⟨c, A.ext E, r⟩
theorem AV.keep {a : Addr} {ty : FieldType} {n : Nat} {f : Nat → Value} {h' : Heap} {ws : List Addr} (A : AV Z h a ty n f) (K : Keep h h' ws) (q : a ∉ ws) : AV Z h' a ty n f := by
  obtain ⟨c, A, r⟩ := A; exact ⟨c, ⟨K.2.1 a c A.1 q, A.2⟩, r⟩
theorem AV.lt {a : Addr} {ty : FieldType} {n : Nat} {f : Nat → Value} (A : AV Z h a ty n f) : a < h.size := by
  obtain ⟨c, A, r⟩ := A; exact A.lt
theorem AV.len {a : Addr} {ty : FieldType} {n : Nat} {f : Nat → Value} (A : AV Z h a ty n f) : n < 2 ^ 31 := by
  obtain ⟨c, A, r⟩ := A; exact r.2.1
theorem AV.congr {a : Addr} {ty : FieldType} {n : Nat} {f g : Nat → Value} (A : AV Z h a ty n f) (q : ∀ i, i < n → f i = g i) : AV Z h a ty n g := by
  obtain ⟨c, A, r1, r2, r3⟩ := A; exact ⟨c, A, r1, r2, fun i hi => by rw [← q i hi]; exact r3 i hi⟩
theorem AV.new {a : Addr} {ty : FieldType} {sz : Int32} {cA : ClassId} {n : Nat} (A : Arr Z h a (newA cA ty sz) ty) (hn : sz.toInt = n) : AV Z h a ty n (fun _ => defaultValue ty) := by
  have q1 : sz.toNatClampNeg = n := by simp only [Int32.toNatClampNeg, hn]; omega
  have q2 := Int32.toInt_lt sz
  refine ⟨_, A, by rw [sz_new, q1], by omega, fun i hi => ?_⟩
  simp [newA, q1, hi]
theorem nat_at {j : Int32} {i : Nat} (hi : j.toInt = i) : j.toNatClampNeg = i := by simp only [Int32.toNatClampNeg, hi]; omega
theorem in_at {j : Int32} {i sz n : Nat} (hi : j.toInt = i) (hz : sz = n) (hlt : i < n) : ¬ (j < 0 ∨ sz ≤ j.toNatClampNeg) := by
  rw [nat_at hi, Int32.lt_iff_toInt_lt, hi]; simp only [Int32.reduceToInt]; omega
theorem AV.set {a : Addr} {ty : FieldType} {n i : Nat} {f : Nat → Value} {h' : Heap} {v : Value} (A : AV Z h a ty n f) (W : Wr h h' a i v) : AV Z h' a ty n (fun q => if q = i then v else f q) := by
  obtain ⟨c, A, r1, r2, r3⟩ := A
  obtain ⟨cell, w1, w2, w3, w4⟩ := id W
  have e1 : cell = c := by have := w1.symm.trans A.1; exact Option.some.inj this
  subst e1
  refine ⟨_, A.same W, by rw [sz_set]; exact r1, r2, fun q hq => ?_⟩
  by_cases e : q = i
  · subst e; simp [Cell.setSlot, w3]
  · have e' : ¬ i = q := fun u => e u.symm
    simp only [e, if_false, Cell.setSlot]
    rw [Array.getElem?_setIfInBounds_ne e']; exact r3 q hq
abbrev AI (Z : State) (h : Heap) (a : Addr) (ty : FieldType) (n : Nat) (g : Nat → Int32) : Prop := AV Z h a ty n (fun q => .int (g q))
abbrev AJ (Z : State) (h : Heap) (a : Addr) (n : Nat) (g : Nat → Int64) : Prop := AV Z h a .long n (fun q => .long (g q))
theorem AI.new {a : Addr} {ty : FieldType} {sz : Int32} {cA : ClassId} {n : Nat} (A : Arr Z h a (newA cA ty sz) ty) (hn : sz.toInt = n) (hd : defaultValue ty = .int 0) : AI Z h a ty n (fun _ => 0) := by
  have q := AV.new A hn; rw [hd] at q; exact q
theorem AJ.new {a : Addr} {sz : Int32} {cA : ClassId} {n : Nat} (A : Arr Z h a (newA cA .long sz) .long) (hn : sz.toInt = n) : AJ Z h a n (fun _ => 0) := AV.new A hn
theorem AI.set {a : Addr} {ty : FieldType} {n i : Nat} {g : Nat → Int32} {h' : Heap} {x : Int32} (A : AI Z h a ty n g) (W : Wr h h' a i (.int x)) : AI Z h' a ty n (fun q => if q = i then x else g q) :=
  (AV.set A W).congr fun q _ => by by_cases e : q = i <;> simp [e]
theorem AJ.set {a : Addr} {n i : Nat} {g : Nat → Int64} {h' : Heap} {x : Int64} (A : AJ Z h a n g) (W : Wr h h' a i (.long x)) : AJ Z h' a n (fun q => if q = i then x else g q) :=
  (AV.set A W).congr fun q _ => by by_cases e : q = i <;> simp [e]
theorem AI.congr {a : Addr} {ty : FieldType} {n : Nat} {f g : Nat → Int32} (A : AI Z h a ty n f) (q : ∀ i, i < n → f i = g i) : AI Z h a ty n g := AV.congr A fun i hi => by rw [q i hi]
theorem AJ.congr {a : Addr} {n : Nat} {f g : Nat → Int64} (A : AJ Z h a n f) (q : ∀ i, i < n → f i = g i) : AJ Z h a n g := AV.congr A fun i hi => by rw [q i hi]
theorem w_iaload (X : St p l e R s m args below meth c Z n0 y code maxL ret T h cells slots) {a : Addr} {N : Nat} {g : Nat → Int32} {j : Int32} {i : Nat} {v : Int32} (A : AI Z h a .int N g) (hd : decode code pc = .ok (.iaload, 1)) (hi : j.toInt = i) (hlt : i < N) (hv : g i = v) (hp : pc' = pc + 1) (w : WP p e below s n0 k n Q T (mkF m pc' Ls (.int v :: S))) : WP p e below s n0 k n Q T (mkF m pc Ls (.int j :: .ref a :: S)) := by
  obtain ⟨⟨hx, hZ, hby, hml, hown, hnm, hret, hlk, h00⟩, hT, locs, X, N⟩ := X
  subst hp hv
  obtain ⟨cl, A, r1, r2, r3⟩ := A
  exact w.step fun t kk => X.iaload hx (j := j) (v := .int (g i)) (by rw [hT]; exact A.1) (State.isArrayOf_alike hZ.alike A.2.1) A.2.2 (in_at hi r1 hlt) (by rw [nat_at hi]; exact r3 i hlt) (g := mkF m pc Ls (.int j :: .ref a :: S)) rfl rfl (hb hby hd) t kk
theorem w_laload (X : St p l e R s m args below meth c Z n0 y code maxL ret T h cells slots) {a : Addr} {N : Nat} {g : Nat → Int64} {j : Int32} {i : Nat} {v : Int64} (A : AJ Z h a N g) (hd : decode code pc = .ok (.laload, 1)) (hi : j.toInt = i) (hlt : i < N) (hv : g i = v) (hp : pc' = pc + 1) (w : WP p e below s n0 k n Q T (mkF m pc' Ls (.long v :: S))) : WP p e below s n0 k n Q T (mkF m pc Ls (.int j :: .ref a :: S)) := by
  obtain ⟨⟨hx, hZ, hby, hml, hown, hnm, hret, hlk, h00⟩, hT, locs, X, N⟩ := X
  subst hp hv
  obtain ⟨cl, A, r1, r2, r3⟩ := A
  exact w.step fun t kk => X.laload hx (j := j) (v := .long (g i)) (by rw [hT]; exact A.1) (State.isArrayOf_alike hZ.alike A.2.1) A.2.2 (in_at hi r1 hlt) (by rw [nat_at hi]; exact r3 i hlt) (g := mkF m pc Ls (.int j :: .ref a :: S)) rfl rfl (hb hby hd) t kk
theorem w_caload (X : St p l e R s m args below meth c Z n0 y code maxL ret T h cells slots) {a : Addr} {N : Nat} {g : Nat → Int32} {j : Int32} {i : Nat} {v : Int32} (A : AI Z h a .char N g) (hd : decode code pc = .ok (.caload, 1)) (hi : j.toInt = i) (hlt : i < N) (hv : g i = v) (hp : pc' = pc + 1) (w : WP p e below s n0 k n Q T (mkF m pc' Ls (.int v :: S))) : WP p e below s n0 k n Q T (mkF m pc Ls (.int j :: .ref a :: S)) := by
  obtain ⟨⟨hx, hZ, hby, hml, hown, hnm, hret, hlk, h00⟩, hT, locs, X, N⟩ := X
  subst hp hv
  obtain ⟨cl, A, r1, r2, r3⟩ := A
  exact w.step fun t kk => X.caload hx (j := j) (v := .int (g i)) (by rw [hT]; exact A.1) (State.isArrayOf_alike hZ.alike A.2.1) A.2.2 (in_at hi r1 hlt) (by rw [nat_at hi]; exact r3 i hlt) (g := mkF m pc Ls (.int j :: .ref a :: S)) rfl rfl (hb hby hd) t kk
theorem w_baload (X : St p l e R s m args below meth c Z n0 y code maxL ret T h cells slots) {a : Addr} {N : Nat} {g : Nat → Int32} {j : Int32} {i : Nat} {v : Int32} (A : AI Z h a .byte N g) (hd : decode code pc = .ok (.baload, 1)) (hi : j.toInt = i) (hlt : i < N) (hv : g i = v) (hp : pc' = pc + 1) (w : WP p e below s n0 k n Q T (mkF m pc' Ls (.int v :: S))) : WP p e below s n0 k n Q T (mkF m pc Ls (.int j :: .ref a :: S)) := by
  obtain ⟨⟨hx, hZ, hby, hml, hown, hnm, hret, hlk, h00⟩, hT, locs, X, N⟩ := X
  subst hp hv
  obtain ⟨cl, A, r1, r2, r3⟩ := A
  exact w.step fun t kk => X.baloadBytes hx (j := j) (v := .int (g i)) (by rw [hT]; exact A.1) (State.isArrayOf_alike hZ.alike A.2.1) A.2.2 (in_at hi r1 hlt) (by rw [nat_at hi]; exact r3 i hlt) (g := mkF m pc Ls (.int j :: .ref a :: S)) rfl rfl (hb hby hd) t kk
theorem w_arraylength (X : St p l e R s m args below meth c Z n0 y code maxL ret T h cells slots) {a : Addr} {ty : FieldType} {N : Nat} {f : Nat → Value} {z : Int32} (A : AV Z h a ty N f) (hd : decode code pc = .ok (.arraylength, 1)) (hz : N.toInt32 = z) (hp : pc' = pc + 1) (w : WP p e below s n0 k n Q T (mkF m pc' Ls (.int z :: S))) : WP p e below s n0 k n Q T (mkF m pc Ls (.ref a :: S)) := by
  obtain ⟨⟨hx, hZ, hby, hml, hown, hnm, hret, hlk, h00⟩, hT, locs, X, N⟩ := X
  subst hp hz
  obtain ⟨cl, A, r1, r2, r3⟩ := A
  refine w.step fun t kk => X.arraylength hx (by rw [hT]; exact A.1) (State.isArrayOf_alike hZ.alike A.2.1) (g := mkF m pc Ls (.ref a :: S)) rfl rfl (hb hby hd) t ?_
  rw [r1]; exact kk
theorem w_iastore (X : St p l e R s m args below meth c Z n0 y code maxL ret T h cells slots) {a : Addr} {N : Nat} {g : Nat → Int32} {j : Int32} {i : Nat} {x x' : Int32} (A : AI Z h a .int N g) (ga : n0 ≤ a) (hd : decode code pc = .ok (.iastore, 1)) (hi : j.toInt = i) (hlt : i < N) (hx' : x = x') (hp : pc' = pc + 1) (w : ∀ T' h', St p l e R s m args below meth c Z n0 y code maxL ret T' h' cells slots → Keep h h' [a] → AI Z h' a .int N (fun q => if q = i then x' else g q) → WP p e below s n0 k n Q T' (mkF m pc' Ls S)) : WP p e below s n0 k n Q T (mkF m pc Ls (.int x :: .int j :: .ref a :: S)) := by
  have X1 := X
  have A1 := A
  obtain ⟨⟨hx, hZ, hby, hml, hown, hnm, hret, hlk, h00⟩, hT, locs, X, N⟩ := X
  subst hp hx'
  obtain ⟨cl, A, r1, r2, r3⟩ := A
  obtain ⟨T', h', X', e', W', st⟩ := stI X hx hZ hT A (j := j) (x := x) (in_at hi r1 hlt) (g := mkF m pc Ls (.int x :: .int j :: .ref a :: S)) rfl rfl (hb hby hd)
  have N' := Fr.snoc X' N ga
  rw [nat_at hi] at W'
  exact (w T' h' ⟨X1.1, e', _, X', N'⟩ (Keep.of_wr W') (AI.set A1 W')).step st
theorem w_lastore (X : St p l e R s m args below meth c Z n0 y code maxL ret T h cells slots) {a : Addr} {N : Nat} {g : Nat → Int64} {j : Int32} {i : Nat} {x x' : Int64} (A : AJ Z h a N g) (ga : n0 ≤ a) (hd : decode code pc = .ok (.lastore, 1)) (hi : j.toInt = i) (hlt : i < N) (hx' : x = x') (hp : pc' = pc + 1) (w : ∀ T' h', St p l e R s m args below meth c Z n0 y code maxL ret T' h' cells slots → Keep h h' [a] → AJ Z h' a N (fun q => if q = i then x' else g q) → WP p e below s n0 k n Q T' (mkF m pc' Ls S)) : WP p e below s n0 k n Q T (mkF m pc Ls (.long x :: .int j :: .ref a :: S)) := by
  have X1 := X
  have A1 := A
  obtain ⟨⟨hx, hZ, hby, hml, hown, hnm, hret, hlk, h00⟩, hT, locs, X, N⟩ := X
  subst hp hx'
  obtain ⟨cl, A, r1, r2, r3⟩ := A
  obtain ⟨T', h', X', e', W', st⟩ := stJ X hx hZ hT A (j := j) (x := x) (in_at hi r1 hlt) (g := mkF m pc Ls (.long x :: .int j :: .ref a :: S)) rfl rfl (hb hby hd)
  have N' := Fr.snoc X' N ga
  rw [nat_at hi] at W'
  exact (w T' h' ⟨X1.1, e', _, X', N'⟩ (Keep.of_wr W') (AJ.set A1 W')).step st
theorem w_castore (X : St p l e R s m args below meth c Z n0 y code maxL ret T h cells slots) {a : Addr} {N : Nat} {g : Nat → Int32} {j : Int32} {i : Nat} {x x' : Int32} (A : AI Z h a .char N g) (ga : n0 ≤ a) (hd : decode code pc = .ok (.castore, 1)) (hi : j.toInt = i) (hlt : i < N) (hx' : nar .char x = x') (hp : pc' = pc + 1) (w : ∀ T' h', St p l e R s m args below meth c Z n0 y code maxL ret T' h' cells slots → Keep h h' [a] → AI Z h' a .char N (fun q => if q = i then x' else g q) → WP p e below s n0 k n Q T' (mkF m pc' Ls S)) : WP p e below s n0 k n Q T (mkF m pc Ls (.int x :: .int j :: .ref a :: S)) := by
  have X1 := X
  have A1 := A
  obtain ⟨⟨hx, hZ, hby, hml, hown, hnm, hret, hlk, h00⟩, hT, locs, X, N⟩ := X
  subst hp hx'
  obtain ⟨cl, A, r1, r2, r3⟩ := A
  obtain ⟨T', h', X', e', W', st⟩ := stC X hx hZ hT A (j := j) (x := x) (in_at hi r1 hlt) (g := mkF m pc Ls (.int x :: .int j :: .ref a :: S)) rfl rfl (hb hby hd)
  have N' := Fr.snoc X' N ga
  rw [nat_at hi] at W'
  exact (w T' h' ⟨X1.1, e', _, X', N'⟩ (Keep.of_wr W') (AI.set A1 W')).step st
theorem w_bastore (X : St p l e R s m args below meth c Z n0 y code maxL ret T h cells slots) {a : Addr} {N : Nat} {g : Nat → Int32} {j : Int32} {i : Nat} {x x' : Int32} (A : AI Z h a .byte N g) (ga : n0 ≤ a) (hd : decode code pc = .ok (.bastore, 1)) (hi : j.toInt = i) (hlt : i < N) (hx' : nar .byte x = x') (hp : pc' = pc + 1) (w : ∀ T' h', St p l e R s m args below meth c Z n0 y code maxL ret T' h' cells slots → Keep h h' [a] → AI Z h' a .byte N (fun q => if q = i then x' else g q) → WP p e below s n0 k n Q T' (mkF m pc' Ls S)) : WP p e below s n0 k n Q T (mkF m pc Ls (.int x :: .int j :: .ref a :: S)) := by
  have X1 := X
  have A1 := A
  obtain ⟨⟨hx, hZ, hby, hml, hown, hnm, hret, hlk, h00⟩, hT, locs, X, N⟩ := X
  subst hp hx'
  obtain ⟨cl, A, r1, r2, r3⟩ := A
  obtain ⟨T', h', X', e', W', st⟩ := stB X hx hZ hT A (j := j) (x := x) (in_at hi r1 hlt) (g := mkF m pc Ls (.int x :: .int j :: .ref a :: S)) rfl rfl (hb hby hd)
  have N' := Fr.snoc X' N ga
  rw [nat_at hi] at W'
  exact (w T' h' ⟨X1.1, e', _, X', N'⟩ (Keep.of_wr W') (AI.set A1 W')).step st
end Steps
end Jvm.Own
namespace Jvm.Own
open Jvm Jvm.ClassFile Sem Op Lib Jvm.Free Jvm.Stand Jvm.LawKit Jvm.RoadKit Bundle
theorem AJ.arv {Z : State} {h : Heap} {a : Addr} {n : Nat} {g : Nat → Int64} (A : AJ Z h a n g) : ∃ (k : ClassId) (z : Int32), z.toNatClampNeg = n ∧ Arv Z h a k .long z ((List.range n).map fun i => .long (g i)) (.long 0) := by
  obtain ⟨c, A, r1, r2, r3⟩ := A
  have q : (Int32.ofNat n).toInt = n := Int32.toInt_ofNat_small r2
  have q2 : (Int32.ofNat n).toNatClampNeg = n := nat_at q
  have gd : ∀ k, k < n → ((List.range n).map fun i => Value.long (g i)).getD k (.long 0) = .long (g k) := fun k hk => by
    rw [List.getD_eq_getElem?_getD, List.getElem?_map, List.getElem?_range hk]; rfl
  refine ⟨c.cls, Int32.ofNat n, q2, c, A, rfl, by rw [r1, q2], ?_, fun k hk => ?_, fun i hi => ?_⟩
  · rw [Int32.lt_iff_toInt_lt, q, show (0 : Int32).toInt = 0 from rfl]; omega
  · rw [gd k (by omega)]; exact r3 k (by omega)
  · rw [gd i (by omega)]; rfl
section Ac
variable {p : Program} {l : Launch} {e : Env} {R : Room} {s : State} {m : MethodId} {args : Array Value} {below : List Frame} {meth : Method} {c : Code} {Z : State} {n0 : Nat} {y : MethodName} {code : ByteArray} {maxL : Nat} {ret : Option FieldType} {T : State} {h : Heap} {cells slots k n : Nat} {Q : Option Value → Heap → Prop} {pc pc' : Nat} {Ls : Array Slot} {S : List Value} {a0 : Array Value}
theorem w_acJ (X : St p l e R s m args below meth c Z n0 y code maxL ret T h cells slots) {idx : Nat} {a b : Addr} {Na Nb i j q W : Nat} {ga gb : Nat → Int64} {sp dp nn : Int32}
    (w1 : (Jvm.Cond.methodLink y.cls idx Jvm.Stand.acN).before a0 Z = true) (w2 : (Jvm.Cond.native Jvm.Stand.acN).before a0 Z = true) (w3 : (Jvm.Cond.static Jvm.Stand.acN).before a0 Z = true) (w4 : (Jvm.Cond.initialized "java/lang/System").before a0 Z = true)
    (A : AJ Z h a Na ga) (B : AJ Z h b Nb gb) (hi : sp.toInt = i) (hj : dp.toInt = j) (hq : nn.toInt = q) (h4 : i + q ≤ Na) (h5 : j + q ≤ Nb) (gb0 : n0 ≤ b) (hd : decode code pc = .ok (.invokestatic idx, 3)) (hsz : Ls.size = maxL) (hf : 1 ≤ R.frames) (hW : (S.map fun v => v.category).sum = W) (hlo : W + (nativeFrameWords "java/lang/System" "arraycopy" 5 + 11) ≤ R.locals) (hp : pc' = pc + 3)
    (w : ∀ T' h', St p l e R s m args below meth c Z n0 y code maxL ret T' h' cells slots → Keep h h' [b] → AJ Z h' b Nb (fun z => if j ≤ z ∧ z < j + q then ga (z - j + i) else gb z) → WP p e below s n0 k n Q T' (mkF m pc' Ls S)) : WP p e below s n0 k n Q T (mkF m pc Ls (.int nn :: .int dp :: .ref b :: .int sp :: .ref a :: S)) := by
  have X1 := X
  obtain ⟨⟨hx, hZ, hby, hml, hown, hnm, hret, hlk, h00⟩, hT, locs, X, N⟩ := X
  subst hp
  have lenB := B.len
  obtain ⟨ka, za, ea, Aa⟩ := AJ.arv A
  obtain ⟨kb, zb, eb, Ab⟩ := AJ.arv B
  have z0 : ∀ {u : Int32} {v : Nat}, u.toInt = v → ¬ u < 0 := fun {u v} hu => by rw [Int32.lt_iff_toInt_lt, hu, show (0 : Int32).toInt = 0 from rfl]; omega
  obtain ⟨T', h', L', X', e', N', K', B', st⟩ := cpA X hx hZ hown w1 w2 w3 w4 hT (sp := sp) (dp := dp) (nn := nn) Aa Ab (Or.inl ⟨rfl, rfl⟩) (z0 hi) (z0 hj) (z0 hq) (by rw [nat_at hi, nat_at hq, ea]; exact h4) (by rw [nat_at hj, nat_at hq, eb]; exact h5) rfl (by rw [nat_at hj, nat_at hq, List.length_map, List.length_range]; exact h5) N gb0 (g := mkF m pc Ls (.int nn :: .int dp :: .ref b :: .int sp :: .ref a :: S)) rfl (hsz.trans hml.symm) rfl (hb hby hd) hf (W := W) (by show 2 * 0 + _ ≤ _; omega) hlo
  refine (w T' h' ⟨X1.1, e', _, X', N'⟩ K' ?_).step st
  obtain ⟨cl, B1, B2, B3, B4, B5, B6⟩ := B'
  rw [eb] at B3
  refine ⟨cl, B1, B3, lenB, fun z hz => ?_⟩
  rw [B5 z (by omega), nat_at hi, nat_at hj, nat_at hq]
  congr 1
  show _ = Value.long (if j ≤ z ∧ z < j + q then ga (z - j + i) else gb z)
  rw [List.getD_eq_getElem?_getD]
  by_cases c1 : z < j
  · rw [List.append_assoc, List.getElem?_append_left (by simp; omega), List.getElem?_take_of_lt c1, List.getElem?_map, List.getElem?_range hz, if_neg (by omega)]; rfl
  · by_cases c2 : z < j + q
    · rw [List.getElem?_append_left (by simp; omega), List.getElem?_append_right (by simp; omega), if_pos ⟨by omega, c2⟩]
      have e1 : (List.take j (List.map (fun i => Value.long (gb i)) (List.range Nb))).length = j := by simp; omega
      rw [e1, List.getElem?_map, List.getElem?_range (by omega)]
      simp only [Option.map_some, Option.getD_some]
      rw [List.getD_eq_getElem?_getD, List.getElem?_map, List.getElem?_range (by omega)]
      simp only [Option.map_some, Option.getD_some]
      rw [show i + (z - j) = z - j + i by omega]
    · rw [List.getElem?_append_right (by simp; omega), if_neg (by omega), List.getElem?_drop]
      have e1 : (List.take j (List.map (fun i => Value.long (gb i)) (List.range Nb)) ++ (List.range q).map fun t => ((List.range Na).map fun i => Value.long (ga i)).getD (i + t) (.long 0)).length = j + q := by simp; omega
      rw [e1, show j + q + (z - (j + q)) = z by omega, List.getElem?_map, List.getElem?_range hz]; rfl
end Ac
end Jvm.Own
namespace Jvm.Pilot.@@N@@
open Jvm Jvm.ClassFile Sem Op Lib Jvm.Free Jvm.Stand Jvm.LawKit Jvm.RoadKit Bundle Jvm.Own Jvm.Pilot.@@N@@.Jvm.D
theorem tw0 {a0 : Array Value} {Z : State} (hw : ∀ d ∈ tables_1, d.before a0 Z = true) : (Jvm.Cond.classLink "com/example/weft/weft/consensus/SpanUnionContainsPinLaw" (7 : Nat) "com/example/weft/weft/consensus/SpanUnion").before a0 Z = true := hw _ (List.mem_of_getElem? (i := 0) rfl)
theorem tw1 {a0 : Array Value} {Z : State} (hw : ∀ d ∈ tables_1, d.before a0 Z = true) : (Jvm.Cond.instantiable "com/example/weft/weft/consensus/SpanUnion" (3 : Nat)).before a0 Z = true := hw _ (List.mem_of_getElem? (i := 1) rfl)
theorem tw2 {a0 : Array Value} {Z : State} (hw : ∀ d ∈ tables_1, d.before a0 Z = true) : (Jvm.Cond.initialized "com/example/weft/weft/consensus/SpanUnion").before a0 Z = true := hw _ (List.mem_of_getElem? (i := 2) rfl)
theorem tw3 {a0 : Array Value} {Z : State} (hw : ∀ d ∈ tables_1, d.before a0 Z = true) : (Jvm.Cond.methodLink "com/example/weft/weft/consensus/SpanUnionContainsPinLaw" (9 : Nat) ({ cls := "com/example/weft/weft/consensus/SpanUnion", name := "<init>", desc := "()V" } : Jvm.MethodName)).before a0 Z = true := hw _ (List.mem_of_getElem? (i := 3) rfl)
theorem tw4 {a0 : Array Value} {Z : State} (hw : ∀ d ∈ tables_1, d.before a0 Z = true) : (Jvm.Cond.instanceMethod ({ cls := "com/example/weft/weft/consensus/SpanUnion", name := "<init>", desc := "()V" } : Jvm.MethodName)).before a0 Z = true := hw _ (List.mem_of_getElem? (i := 4) rfl)
theorem tw5 {a0 : Array Value} {Z : State} (hw : ∀ d ∈ tables_1, d.before a0 Z = true) : (Jvm.Cond.code ({ cls := "com/example/weft/weft/consensus/SpanUnion", name := "<init>", desc := "()V" } : Jvm.MethodName) prog_32_method_1_code (1 : Nat) (Option.none : Option Jvm.ClassFile.FieldType)).before a0 Z = true := hw _ (List.mem_of_getElem? (i := 5) rfl)
theorem tw6 {a0 : Array Value} {Z : State} (hw : ∀ d ∈ tables_1, d.before a0 Z = true) : (Jvm.Cond.methodLink "com/example/weft/weft/consensus/SpanUnion" (1 : Nat) ({ cls := "java/lang/Object", name := "<init>", desc := "()V" } : Jvm.MethodName)).before a0 Z = true := hw _ (List.mem_of_getElem? (i := 6) rfl)
theorem tw7 {a0 : Array Value} {Z : State} (hw : ∀ d ∈ tables_1, d.before a0 Z = true) : (Jvm.Cond.instanceMethod ({ cls := "java/lang/Object", name := "<init>", desc := "()V" } : Jvm.MethodName)).before a0 Z = true := hw _ (List.mem_of_getElem? (i := 7) rfl)
theorem tw8 {a0 : Array Value} {Z : State} (hw : ∀ d ∈ tables_1, d.before a0 Z = true) : (Jvm.Cond.code ({ cls := "java/lang/Object", name := "<init>", desc := "()V" } : Jvm.MethodName) object_method_1_code (1 : Nat) (Option.none : Option Jvm.ClassFile.FieldType)).before a0 Z = true := hw _ (List.mem_of_getElem? (i := 8) rfl)
theorem tw9 {a0 : Array Value} {Z : State} (hw : ∀ d ∈ tables_1, d.before a0 Z = true) : (Jvm.Cond.arrayClass Jvm.ClassFile.FieldType.long).before a0 Z = true := hw _ (List.mem_of_getElem? (i := 9) rfl)
theorem tw10 {a0 : Array Value} {Z : State} (hw : ∀ d ∈ tables_1, d.before a0 Z = true) : (Jvm.Cond.fieldLink "com/example/weft/weft/consensus/SpanUnion" (7 : Nat) "com/example/weft/weft/consensus/SpanUnion" "words" "[J").before a0 Z = true := hw _ (List.mem_of_getElem? (i := 10) rfl)
theorem tw11 {a0 : Array Value} {Z : State} (hw : ∀ d ∈ tables_1, d.before a0 Z = true) : (Jvm.Cond.lays "com/example/weft/weft/consensus/SpanUnion" "com/example/weft/weft/consensus/SpanUnion" "words" "[J").before a0 Z = true := hw _ (List.mem_of_getElem? (i := 11) rfl)
theorem tw12 {a0 : Array Value} {Z : State} (hw : ∀ d ∈ tables_1, d.before a0 Z = true) : (Jvm.Cond.methodLink "com/example/weft/weft/consensus/SpanUnionContainsPinLaw" (10 : Nat) ({ cls := "com/example/weft/weft/consensus/SpanUnion", name := "add", desc := "(I)V" } : Jvm.MethodName)).before a0 Z = true := hw _ (List.mem_of_getElem? (i := 12) rfl)
theorem tw13 {a0 : Array Value} {Z : State} (hw : ∀ d ∈ tables_1, d.before a0 Z = true) : (Jvm.Cond.declares ({ cls := "com/example/weft/weft/consensus/SpanUnion", name := "add", desc := "(I)V" } : Jvm.MethodName)).before a0 Z = true := hw _ (List.mem_of_getElem? (i := 13) rfl)
theorem tw14 {a0 : Array Value} {Z : State} (hw : ∀ d ∈ tables_1, d.before a0 Z = true) : (Jvm.Cond.instanceMethod ({ cls := "com/example/weft/weft/consensus/SpanUnion", name := "add", desc := "(I)V" } : Jvm.MethodName)).before a0 Z = true := hw _ (List.mem_of_getElem? (i := 14) rfl)
theorem tw15 {a0 : Array Value} {Z : State} (hw : ∀ d ∈ tables_1, d.before a0 Z = true) : (Jvm.Cond.selects "com/example/weft/weft/consensus/SpanUnion" ({ cls := "com/example/weft/weft/consensus/SpanUnion", name := "add", desc := "(I)V" } : Jvm.MethodName) ({ cls := "com/example/weft/weft/consensus/SpanUnion", name := "add", desc := "(I)V" } : Jvm.MethodName)).before a0 Z = true := hw _ (List.mem_of_getElem? (i := 15) rfl)
theorem tw16 {a0 : Array Value} {Z : State} (hw : ∀ d ∈ tables_1, d.before a0 Z = true) : (Jvm.Cond.code ({ cls := "com/example/weft/weft/consensus/SpanUnion", name := "add", desc := "(I)V" } : Jvm.MethodName) prog_32_method_3_code (3 : Nat) (Option.none : Option Jvm.ClassFile.FieldType)).before a0 Z = true := hw _ (List.mem_of_getElem? (i := 16) rfl)
theorem tw17 {a0 : Array Value} {Z : State} (hw : ∀ d ∈ tables_1, d.before a0 Z = true) : (Jvm.Cond.methodLink "com/example/weft/weft/consensus/SpanUnion" (17 : Nat) ({ cls := "com/example/weft/weft/consensus/SpanUnion", name := "reach", desc := "(II)V" } : Jvm.MethodName)).before a0 Z = true := hw _ (List.mem_of_getElem? (i := 17) rfl)
theorem tw18 {a0 : Array Value} {Z : State} (hw : ∀ d ∈ tables_1, d.before a0 Z = true) : (Jvm.Cond.instanceMethod ({ cls := "com/example/weft/weft/consensus/SpanUnion", name := "reach", desc := "(II)V" } : Jvm.MethodName)).before a0 Z = true := hw _ (List.mem_of_getElem? (i := 18) rfl)
theorem tw19 {a0 : Array Value} {Z : State} (hw : ∀ d ∈ tables_1, d.before a0 Z = true) : (Jvm.Cond.privateMethod ({ cls := "com/example/weft/weft/consensus/SpanUnion", name := "reach", desc := "(II)V" } : Jvm.MethodName)).before a0 Z = true := hw _ (List.mem_of_getElem? (i := 19) rfl)
theorem tw20 {a0 : Array Value} {Z : State} (hw : ∀ d ∈ tables_1, d.before a0 Z = true) : (Jvm.Cond.code ({ cls := "com/example/weft/weft/consensus/SpanUnion", name := "reach", desc := "(II)V" } : Jvm.MethodName) prog_32_method_13_code (7 : Nat) (Option.none : Option Jvm.ClassFile.FieldType)).before a0 Z = true := hw _ (List.mem_of_getElem? (i := 20) rfl)
theorem tw21 {a0 : Array Value} {Z : State} (hw : ∀ d ∈ tables_1, d.before a0 Z = true) : (Jvm.Cond.fieldLink "com/example/weft/weft/consensus/SpanUnion" (13 : Nat) "com/example/weft/weft/consensus/SpanUnion" "count" "I").before a0 Z = true := hw _ (List.mem_of_getElem? (i := 21) rfl)
theorem tw22 {a0 : Array Value} {Z : State} (hw : ∀ d ∈ tables_1, d.before a0 Z = true) : (Jvm.Cond.lays "com/example/weft/weft/consensus/SpanUnion" "com/example/weft/weft/consensus/SpanUnion" "count" "I").before a0 Z = true := hw _ (List.mem_of_getElem? (i := 22) rfl)
theorem tw23 {a0 : Array Value} {Z : State} (hw : ∀ d ∈ tables_1, d.before a0 Z = true) : (Jvm.Cond.methodLink "com/example/weft/weft/consensus/SpanUnion" (67 : Nat) ({ cls := "java/util/Arrays", name := "fill", desc := "([JIIJ)V" } : Jvm.MethodName)).before a0 Z = true := hw _ (List.mem_of_getElem? (i := 23) rfl)
theorem tw24 {a0 : Array Value} {Z : State} (hw : ∀ d ∈ tables_1, d.before a0 Z = true) : (Jvm.Cond.static ({ cls := "java/util/Arrays", name := "fill", desc := "([JIIJ)V" } : Jvm.MethodName)).before a0 Z = true := hw _ (List.mem_of_getElem? (i := 24) rfl)
theorem tw25 {a0 : Array Value} {Z : State} (hw : ∀ d ∈ tables_1, d.before a0 Z = true) : (Jvm.Cond.initialized "java/util/Arrays").before a0 Z = true := hw _ (List.mem_of_getElem? (i := 25) rfl)
theorem tw26 {a0 : Array Value} {Z : State} (hw : ∀ d ∈ tables_1, d.before a0 Z = true) : (Jvm.Cond.code ({ cls := "java/util/Arrays", name := "fill", desc := "([JIIJ)V" } : Jvm.MethodName) jdk_65_method_102_code (6 : Nat) (Option.none : Option Jvm.ClassFile.FieldType)).before a0 Z = true := hw _ (List.mem_of_getElem? (i := 26) rfl)
theorem tw27 {a0 : Array Value} {Z : State} (hw : ∀ d ∈ tables_1, d.before a0 Z = true) : (Jvm.Cond.methodLink "java/util/Arrays" (13 : Nat) ({ cls := "java/util/Arrays", name := "rangeCheck", desc := "(III)V" } : Jvm.MethodName)).before a0 Z = true := hw _ (List.mem_of_getElem? (i := 27) rfl)
theorem tw28 {a0 : Array Value} {Z : State} (hw : ∀ d ∈ tables_1, d.before a0 Z = true) : (Jvm.Cond.static ({ cls := "java/util/Arrays", name := "rangeCheck", desc := "(III)V" } : Jvm.MethodName)).before a0 Z = true := hw _ (List.mem_of_getElem? (i := 28) rfl)
theorem tw29 {a0 : Array Value} {Z : State} (hw : ∀ d ∈ tables_1, d.before a0 Z = true) : (Jvm.Cond.code ({ cls := "java/util/Arrays", name := "rangeCheck", desc := "(III)V" } : Jvm.MethodName) jdk_65_method_30_code (3 : Nat) (Option.none : Option Jvm.ClassFile.FieldType)).before a0 Z = true := hw _ (List.mem_of_getElem? (i := 29) rfl)
theorem tw30 {a0 : Array Value} {Z : State} (hw : ∀ d ∈ tables_1, d.before a0 Z = true) : (Jvm.Cond.fieldLink "com/example/weft/weft/consensus/SpanUnion" (21 : Nat) "com/example/weft/weft/consensus/SpanUnion" "first" "I").before a0 Z = true := hw _ (List.mem_of_getElem? (i := 30) rfl)
theorem tw31 {a0 : Array Value} {Z : State} (hw : ∀ d ∈ tables_1, d.before a0 Z = true) : (Jvm.Cond.lays "com/example/weft/weft/consensus/SpanUnion" "com/example/weft/weft/consensus/SpanUnion" "first" "I").before a0 Z = true := hw _ (List.mem_of_getElem? (i := 31) rfl)
theorem tw32 {a0 : Array Value} {Z : State} (hw : ∀ d ∈ tables_1, d.before a0 Z = true) : (Jvm.Cond.methodLink "com/example/weft/weft/consensus/SpanUnion" (71 : Nat) ({ cls := "java/lang/Math", name := "min", desc := "(II)I" } : Jvm.MethodName)).before a0 Z = true := hw _ (List.mem_of_getElem? (i := 32) rfl)
theorem tw33 {a0 : Array Value} {Z : State} (hw : ∀ d ∈ tables_1, d.before a0 Z = true) : (Jvm.Cond.static ({ cls := "java/lang/Math", name := "min", desc := "(II)I" } : Jvm.MethodName)).before a0 Z = true := hw _ (List.mem_of_getElem? (i := 33) rfl)
theorem tw34 {a0 : Array Value} {Z : State} (hw : ∀ d ∈ tables_1, d.before a0 Z = true) : (Jvm.Cond.initialized "java/lang/Math").before a0 Z = true := hw _ (List.mem_of_getElem? (i := 34) rfl)
theorem tw35 {a0 : Array Value} {Z : State} (hw : ∀ d ∈ tables_1, d.before a0 Z = true) : (Jvm.Cond.code ({ cls := "java/lang/Math", name := "min", desc := "(II)I" } : Jvm.MethodName) jdk_29_method_69_code (2 : Nat) (Option.some Jvm.ClassFile.FieldType.int)).before a0 Z = true := hw _ (List.mem_of_getElem? (i := 35) rfl)
theorem tw36 {a0 : Array Value} {Z : State} (hw : ∀ d ∈ tables_1, d.before a0 Z = true) : (Jvm.Cond.methodLink "com/example/weft/weft/consensus/SpanUnion" (76 : Nat) ({ cls := "java/lang/Math", name := "max", desc := "(II)I" } : Jvm.MethodName)).before a0 Z = true := hw _ (List.mem_of_getElem? (i := 36) rfl)
theorem tw37 {a0 : Array Value} {Z : State} (hw : ∀ d ∈ tables_1, d.before a0 Z = true) : (Jvm.Cond.static ({ cls := "java/lang/Math", name := "max", desc := "(II)I" } : Jvm.MethodName)).before a0 Z = true := hw _ (List.mem_of_getElem? (i := 37) rfl)
theorem tw38 {a0 : Array Value} {Z : State} (hw : ∀ d ∈ tables_1, d.before a0 Z = true) : (Jvm.Cond.code ({ cls := "java/lang/Math", name := "max", desc := "(II)I" } : Jvm.MethodName) jdk_29_method_65_code (2 : Nat) (Option.some Jvm.ClassFile.FieldType.int)).before a0 Z = true := hw _ (List.mem_of_getElem? (i := 38) rfl)
theorem tw39 {a0 : Array Value} {Z : State} (hw : ∀ d ∈ tables_1, d.before a0 Z = true) : (Jvm.Cond.methodLink "com/example/weft/weft/consensus/SpanUnionContainsPinLaw" (17 : Nat) ({ cls := "com/example/weft/weft/consensus/SpanUnion", name := "contains", desc := "(I)Z" } : Jvm.MethodName)).before a0 Z = true := hw _ (List.mem_of_getElem? (i := 39) rfl)
theorem tw40 {a0 : Array Value} {Z : State} (hw : ∀ d ∈ tables_1, d.before a0 Z = true) : (Jvm.Cond.declares ({ cls := "com/example/weft/weft/consensus/SpanUnion", name := "contains", desc := "(I)Z" } : Jvm.MethodName)).before a0 Z = true := hw _ (List.mem_of_getElem? (i := 40) rfl)
theorem tw41 {a0 : Array Value} {Z : State} (hw : ∀ d ∈ tables_1, d.before a0 Z = true) : (Jvm.Cond.instanceMethod ({ cls := "com/example/weft/weft/consensus/SpanUnion", name := "contains", desc := "(I)Z" } : Jvm.MethodName)).before a0 Z = true := hw _ (List.mem_of_getElem? (i := 41) rfl)
theorem tw42 {a0 : Array Value} {Z : State} (hw : ∀ d ∈ tables_1, d.before a0 Z = true) : (Jvm.Cond.selects "com/example/weft/weft/consensus/SpanUnion" ({ cls := "com/example/weft/weft/consensus/SpanUnion", name := "contains", desc := "(I)Z" } : Jvm.MethodName) ({ cls := "com/example/weft/weft/consensus/SpanUnion", name := "contains", desc := "(I)Z" } : Jvm.MethodName)).before a0 Z = true := hw _ (List.mem_of_getElem? (i := 42) rfl)
theorem tw43 {a0 : Array Value} {Z : State} (hw : ∀ d ∈ tables_1, d.before a0 Z = true) : (Jvm.Cond.code ({ cls := "com/example/weft/weft/consensus/SpanUnion", name := "contains", desc := "(I)Z" } : Jvm.MethodName) prog_32_method_10_code (3 : Nat) (Option.some Jvm.ClassFile.FieldType.boolean)).before a0 Z = true := hw _ (List.mem_of_getElem? (i := 43) rfl)
theorem tw44 {a0 : Array Value} {Z : State} (hw : ∀ d ∈ tables_1, d.before a0 Z = true) : (Jvm.Cond.methodLink "com/example/weft/weft/consensus/SpanUnionContainsPinLaw" (14 : Nat) ({ cls := "com/example/weft/weft/consensus/SpanUnion", name := "clear", desc := "()V" } : Jvm.MethodName)).before a0 Z = true := hw _ (List.mem_of_getElem? (i := 44) rfl)
theorem tw45 {a0 : Array Value} {Z : State} (hw : ∀ d ∈ tables_1, d.before a0 Z = true) : (Jvm.Cond.declares ({ cls := "com/example/weft/weft/consensus/SpanUnion", name := "clear", desc := "()V" } : Jvm.MethodName)).before a0 Z = true := hw _ (List.mem_of_getElem? (i := 45) rfl)
theorem tw46 {a0 : Array Value} {Z : State} (hw : ∀ d ∈ tables_1, d.before a0 Z = true) : (Jvm.Cond.instanceMethod ({ cls := "com/example/weft/weft/consensus/SpanUnion", name := "clear", desc := "()V" } : Jvm.MethodName)).before a0 Z = true := hw _ (List.mem_of_getElem? (i := 46) rfl)
theorem tw47 {a0 : Array Value} {Z : State} (hw : ∀ d ∈ tables_1, d.before a0 Z = true) : (Jvm.Cond.selects "com/example/weft/weft/consensus/SpanUnion" ({ cls := "com/example/weft/weft/consensus/SpanUnion", name := "clear", desc := "()V" } : Jvm.MethodName) ({ cls := "com/example/weft/weft/consensus/SpanUnion", name := "clear", desc := "()V" } : Jvm.MethodName)).before a0 Z = true := hw _ (List.mem_of_getElem? (i := 47) rfl)
theorem tw48 {a0 : Array Value} {Z : State} (hw : ∀ d ∈ tables_1, d.before a0 Z = true) : (Jvm.Cond.code ({ cls := "com/example/weft/weft/consensus/SpanUnion", name := "clear", desc := "()V" } : Jvm.MethodName) prog_32_method_2_code (1 : Nat) (Option.none : Option Jvm.ClassFile.FieldType)).before a0 Z = true := hw _ (List.mem_of_getElem? (i := 48) rfl)
theorem tw49 {a0 : Array Value} {Z : State} (hw : ∀ d ∈ tables_1, d.before a0 Z = true) : (Jvm.Cond.methodLink "com/example/weft/weft/consensus/SpanUnion" (79 : Nat) ({ cls := "java/lang/System", name := "arraycopy", desc := "(Ljava/lang/Object;ILjava/lang/Object;II)V" } : Jvm.MethodName)).before a0 Z = true := hw _ (List.mem_of_getElem? (i := 49) rfl)
theorem tw50 {a0 : Array Value} {Z : State} (hw : ∀ d ∈ tables_1, d.before a0 Z = true) : (Jvm.Cond.static ({ cls := "java/lang/System", name := "arraycopy", desc := "(Ljava/lang/Object;ILjava/lang/Object;II)V" } : Jvm.MethodName)).before a0 Z = true := hw _ (List.mem_of_getElem? (i := 50) rfl)
theorem tw51 {a0 : Array Value} {Z : State} (hw : ∀ d ∈ tables_1, d.before a0 Z = true) : (Jvm.Cond.initialized "java/lang/System").before a0 Z = true := hw _ (List.mem_of_getElem? (i := 51) rfl)
theorem tw52 {a0 : Array Value} {Z : State} (hw : ∀ d ∈ tables_1, d.before a0 Z = true) : (Jvm.Cond.native ({ cls := "java/lang/System", name := "arraycopy", desc := "(Ljava/lang/Object;ILjava/lang/Object;II)V" } : Jvm.MethodName)).before a0 Z = true := hw _ (List.mem_of_getElem? (i := 52) rfl)
theorem d1_0 : decode prog_32_method_1_code 0 = .ok (.aload_n 0, 1) := by decide +kernel
theorem d1_1 : decode prog_32_method_1_code 1 = .ok (.invokespecial 1, 3) := by decide +kernel
theorem d1_4 : decode prog_32_method_1_code 4 = .ok (.aload_n 0, 1) := by decide +kernel
theorem d1_5 : decode prog_32_method_1_code 5 = .ok (.bipush 16, 2) := by decide +kernel
theorem d1_7 : decode prog_32_method_1_code 7 = .ok (.newarray .long, 2) := by decide +kernel
theorem d1_9 : decode prog_32_method_1_code 9 = .ok (.putfield 7, 3) := by decide +kernel
theorem d1_12 : decode prog_32_method_1_code 12 = .ok (.return_, 1) := by decide +kernel
theorem d3_0 : decode prog_32_method_3_code 0 = .ok (.iload_n 1, 1) := by decide +kernel
theorem d3_1 : decode prog_32_method_3_code 1 = .ok (.bipush 6, 2) := by decide +kernel
theorem d3_3 : decode prog_32_method_3_code 3 = .ok (.iushr, 1) := by decide +kernel
theorem d3_4 : decode prog_32_method_3_code 4 = .ok (.istore_n 2, 1) := by decide +kernel
theorem d3_5 : decode prog_32_method_3_code 5 = .ok (.aload_n 0, 1) := by decide +kernel
theorem d3_6 : decode prog_32_method_3_code 6 = .ok (.iload_n 2, 1) := by decide +kernel
theorem d3_7 : decode prog_32_method_3_code 7 = .ok (.iload_n 2, 1) := by decide +kernel
theorem d3_8 : decode prog_32_method_3_code 8 = .ok (.iconst 1, 1) := by decide +kernel
theorem d3_9 : decode prog_32_method_3_code 9 = .ok (.iadd, 1) := by decide +kernel
theorem d3_10 : decode prog_32_method_3_code 10 = .ok (.invokevirtual 17, 3) := by decide +kernel
theorem d3_13 : decode prog_32_method_3_code 13 = .ok (.aload_n 0, 1) := by decide +kernel
theorem d3_14 : decode prog_32_method_3_code 14 = .ok (.getfield 7, 3) := by decide +kernel
theorem d3_17 : decode prog_32_method_3_code 17 = .ok (.iload_n 2, 1) := by decide +kernel
theorem d3_18 : decode prog_32_method_3_code 18 = .ok (.aload_n 0, 1) := by decide +kernel
theorem d3_19 : decode prog_32_method_3_code 19 = .ok (.getfield 21, 3) := by decide +kernel
theorem d3_22 : decode prog_32_method_3_code 22 = .ok (.isub, 1) := by decide +kernel
theorem d3_23 : decode prog_32_method_3_code 23 = .ok (.dup2, 1) := by decide +kernel
theorem d3_24 : decode prog_32_method_3_code 24 = .ok (.laload, 1) := by decide +kernel
theorem d3_25 : decode prog_32_method_3_code 25 = .ok (.lconst 1, 1) := by decide +kernel
theorem d3_26 : decode prog_32_method_3_code 26 = .ok (.iload_n 1, 1) := by decide +kernel
theorem d3_27 : decode prog_32_method_3_code 27 = .ok (.lshl, 1) := by decide +kernel
theorem d3_28 : decode prog_32_method_3_code 28 = .ok (.lor, 1) := by decide +kernel
theorem d3_29 : decode prog_32_method_3_code 29 = .ok (.lastore, 1) := by decide +kernel
theorem d3_30 : decode prog_32_method_3_code 30 = .ok (.return_, 1) := by decide +kernel
theorem d4_0 : decode prog_32_method_13_code 0 = .ok (.aload_n 0, 1) := by decide +kernel
theorem d4_1 : decode prog_32_method_13_code 1 = .ok (.getfield 13, 3) := by decide +kernel
theorem d4_4 : decode prog_32_method_13_code 4 = .ok (.ifCond .ne 56, 3) := by decide +kernel
theorem d4_7 : decode prog_32_method_13_code 7 = .ok (.aload_n 0, 1) := by decide +kernel
theorem d4_8 : decode prog_32_method_13_code 8 = .ok (.getfield 7, 3) := by decide +kernel
theorem d4_11 : decode prog_32_method_13_code 11 = .ok (.arraylength, 1) := by decide +kernel
theorem d4_12 : decode prog_32_method_13_code 12 = .ok (.iload_n 2, 1) := by decide +kernel
theorem d4_13 : decode prog_32_method_13_code 13 = .ok (.iload_n 1, 1) := by decide +kernel
theorem d4_14 : decode prog_32_method_13_code 14 = .ok (.isub, 1) := by decide +kernel
theorem d4_15 : decode prog_32_method_13_code 15 = .ok (.if_icmp .ge 20, 3) := by decide +kernel
theorem d4_35 : decode prog_32_method_13_code 35 = .ok (.aload_n 0, 1) := by decide +kernel
theorem d4_36 : decode prog_32_method_13_code 36 = .ok (.getfield 7, 3) := by decide +kernel
theorem d4_39 : decode prog_32_method_13_code 39 = .ok (.iconst 0, 1) := by decide +kernel
theorem d4_40 : decode prog_32_method_13_code 40 = .ok (.iload_n 2, 1) := by decide +kernel
theorem d4_41 : decode prog_32_method_13_code 41 = .ok (.iload_n 1, 1) := by decide +kernel
theorem d4_42 : decode prog_32_method_13_code 42 = .ok (.isub, 1) := by decide +kernel
theorem d4_43 : decode prog_32_method_13_code 43 = .ok (.lconst 0, 1) := by decide +kernel
theorem d4_44 : decode prog_32_method_13_code 44 = .ok (.invokestatic 67, 3) := by decide +kernel
theorem d4_47 : decode prog_32_method_13_code 47 = .ok (.aload_n 0, 1) := by decide +kernel
theorem d4_48 : decode prog_32_method_13_code 48 = .ok (.iload_n 1, 1) := by decide +kernel
theorem d4_49 : decode prog_32_method_13_code 49 = .ok (.putfield 21, 3) := by decide +kernel
theorem d4_52 : decode prog_32_method_13_code 52 = .ok (.aload_n 0, 1) := by decide +kernel
theorem d4_53 : decode prog_32_method_13_code 53 = .ok (.iload_n 2, 1) := by decide +kernel
theorem d4_54 : decode prog_32_method_13_code 54 = .ok (.iload_n 1, 1) := by decide +kernel
theorem d4_55 : decode prog_32_method_13_code 55 = .ok (.isub, 1) := by decide +kernel
theorem d4_56 : decode prog_32_method_13_code 56 = .ok (.putfield 13, 3) := by decide +kernel
theorem d4_59 : decode prog_32_method_13_code 59 = .ok (.return_, 1) := by decide +kernel
theorem d4_60 : decode prog_32_method_13_code 60 = .ok (.aload_n 0, 1) := by decide +kernel
theorem d4_61 : decode prog_32_method_13_code 61 = .ok (.getfield 21, 3) := by decide +kernel
theorem d4_64 : decode prog_32_method_13_code 64 = .ok (.iload_n 1, 1) := by decide +kernel
theorem d4_65 : decode prog_32_method_13_code 65 = .ok (.invokestatic 71, 3) := by decide +kernel
theorem d4_68 : decode prog_32_method_13_code 68 = .ok (.istore_n 3, 1) := by decide +kernel
theorem d4_69 : decode prog_32_method_13_code 69 = .ok (.aload_n 0, 1) := by decide +kernel
theorem d4_70 : decode prog_32_method_13_code 70 = .ok (.getfield 21, 3) := by decide +kernel
theorem d4_73 : decode prog_32_method_13_code 73 = .ok (.aload_n 0, 1) := by decide +kernel
theorem d4_74 : decode prog_32_method_13_code 74 = .ok (.getfield 13, 3) := by decide +kernel
theorem d4_77 : decode prog_32_method_13_code 77 = .ok (.iadd, 1) := by decide +kernel
theorem d4_78 : decode prog_32_method_13_code 78 = .ok (.iload_n 2, 1) := by decide +kernel
theorem d4_79 : decode prog_32_method_13_code 79 = .ok (.invokestatic 76, 3) := by decide +kernel
theorem d4_82 : decode prog_32_method_13_code 82 = .ok (.istore 4, 2) := by decide +kernel
theorem d4_84 : decode prog_32_method_13_code 84 = .ok (.aload_n 0, 1) := by decide +kernel
theorem d4_85 : decode prog_32_method_13_code 85 = .ok (.getfield 21, 3) := by decide +kernel
theorem d4_88 : decode prog_32_method_13_code 88 = .ok (.iload_n 3, 1) := by decide +kernel
theorem d4_89 : decode prog_32_method_13_code 89 = .ok (.isub, 1) := by decide +kernel
theorem d4_90 : decode prog_32_method_13_code 90 = .ok (.istore 5, 2) := by decide +kernel
theorem d4_92 : decode prog_32_method_13_code 92 = .ok (.iload 4, 2) := by decide +kernel
theorem d4_94 : decode prog_32_method_13_code 94 = .ok (.iload_n 3, 1) := by decide +kernel
theorem d4_95 : decode prog_32_method_13_code 95 = .ok (.isub, 1) := by decide +kernel
theorem d4_96 : decode prog_32_method_13_code 96 = .ok (.aload_n 0, 1) := by decide +kernel
theorem d4_97 : decode prog_32_method_13_code 97 = .ok (.getfield 7, 3) := by decide +kernel
theorem d4_100 : decode prog_32_method_13_code 100 = .ok (.arraylength, 1) := by decide +kernel
theorem d4_101 : decode prog_32_method_13_code 101 = .ok (.if_icmp .le 44, 3) := by decide +kernel
theorem d4_145 : decode prog_32_method_13_code 145 = .ok (.iload 5, 2) := by decide +kernel
theorem d4_147 : decode prog_32_method_13_code 147 = .ok (.ifCond .le 32, 3) := by decide +kernel
theorem d4_150 : decode prog_32_method_13_code 150 = .ok (.aload_n 0, 1) := by decide +kernel
theorem d4_151 : decode prog_32_method_13_code 151 = .ok (.getfield 7, 3) := by decide +kernel
theorem d4_154 : decode prog_32_method_13_code 154 = .ok (.iconst 0, 1) := by decide +kernel
theorem d4_155 : decode prog_32_method_13_code 155 = .ok (.aload_n 0, 1) := by decide +kernel
theorem d4_156 : decode prog_32_method_13_code 156 = .ok (.getfield 7, 3) := by decide +kernel
theorem d4_159 : decode prog_32_method_13_code 159 = .ok (.iload 5, 2) := by decide +kernel
theorem d4_161 : decode prog_32_method_13_code 161 = .ok (.aload_n 0, 1) := by decide +kernel
theorem d4_162 : decode prog_32_method_13_code 162 = .ok (.getfield 13, 3) := by decide +kernel
theorem d4_165 : decode prog_32_method_13_code 165 = .ok (.invokestatic 79, 3) := by decide +kernel
theorem d4_168 : decode prog_32_method_13_code 168 = .ok (.aload_n 0, 1) := by decide +kernel
theorem d4_169 : decode prog_32_method_13_code 169 = .ok (.getfield 7, 3) := by decide +kernel
theorem d4_172 : decode prog_32_method_13_code 172 = .ok (.iconst 0, 1) := by decide +kernel
theorem d4_173 : decode prog_32_method_13_code 173 = .ok (.iload 5, 2) := by decide +kernel
theorem d4_175 : decode prog_32_method_13_code 175 = .ok (.lconst 0, 1) := by decide +kernel
theorem d4_176 : decode prog_32_method_13_code 176 = .ok (.invokestatic 67, 3) := by decide +kernel
theorem d4_179 : decode prog_32_method_13_code 179 = .ok (.aload_n 0, 1) := by decide +kernel
theorem d4_180 : decode prog_32_method_13_code 180 = .ok (.getfield 7, 3) := by decide +kernel
theorem d4_183 : decode prog_32_method_13_code 183 = .ok (.iload 5, 2) := by decide +kernel
theorem d4_185 : decode prog_32_method_13_code 185 = .ok (.aload_n 0, 1) := by decide +kernel
theorem d4_186 : decode prog_32_method_13_code 186 = .ok (.getfield 13, 3) := by decide +kernel
theorem d4_189 : decode prog_32_method_13_code 189 = .ok (.iadd, 1) := by decide +kernel
theorem d4_190 : decode prog_32_method_13_code 190 = .ok (.iload 4, 2) := by decide +kernel
theorem d4_192 : decode prog_32_method_13_code 192 = .ok (.iload_n 3, 1) := by decide +kernel
theorem d4_193 : decode prog_32_method_13_code 193 = .ok (.isub, 1) := by decide +kernel
theorem d4_194 : decode prog_32_method_13_code 194 = .ok (.lconst 0, 1) := by decide +kernel
theorem d4_195 : decode prog_32_method_13_code 195 = .ok (.invokestatic 67, 3) := by decide +kernel
theorem d4_198 : decode prog_32_method_13_code 198 = .ok (.aload_n 0, 1) := by decide +kernel
theorem d4_199 : decode prog_32_method_13_code 199 = .ok (.iload_n 3, 1) := by decide +kernel
theorem d4_200 : decode prog_32_method_13_code 200 = .ok (.putfield 21, 3) := by decide +kernel
theorem d4_203 : decode prog_32_method_13_code 203 = .ok (.aload_n 0, 1) := by decide +kernel
theorem d4_204 : decode prog_32_method_13_code 204 = .ok (.iload 4, 2) := by decide +kernel
theorem d4_206 : decode prog_32_method_13_code 206 = .ok (.iload_n 3, 1) := by decide +kernel
theorem d4_207 : decode prog_32_method_13_code 207 = .ok (.isub, 1) := by decide +kernel
theorem d4_208 : decode prog_32_method_13_code 208 = .ok (.putfield 13, 3) := by decide +kernel
theorem d4_211 : decode prog_32_method_13_code 211 = .ok (.return_, 1) := by decide +kernel
theorem d5_0 : decode jdk_65_method_102_code 0 = .ok (.aload_n 0, 1) := by decide +kernel
theorem d5_1 : decode jdk_65_method_102_code 1 = .ok (.arraylength, 1) := by decide +kernel
theorem d5_2 : decode jdk_65_method_102_code 2 = .ok (.iload_n 1, 1) := by decide +kernel
theorem d5_3 : decode jdk_65_method_102_code 3 = .ok (.iload_n 2, 1) := by decide +kernel
theorem d5_4 : decode jdk_65_method_102_code 4 = .ok (.invokestatic 13, 3) := by decide +kernel
theorem d5_7 : decode jdk_65_method_102_code 7 = .ok (.iload_n 1, 1) := by decide +kernel
theorem d5_8 : decode jdk_65_method_102_code 8 = .ok (.istore 5, 2) := by decide +kernel
theorem d5_10 : decode jdk_65_method_102_code 10 = .ok (.iload 5, 2) := by decide +kernel
theorem d5_12 : decode jdk_65_method_102_code 12 = .ok (.iload_n 2, 1) := by decide +kernel
theorem d5_13 : decode jdk_65_method_102_code 13 = .ok (.if_icmp .ge 14, 3) := by decide +kernel
theorem d5_16 : decode jdk_65_method_102_code 16 = .ok (.aload_n 0, 1) := by decide +kernel
theorem d5_17 : decode jdk_65_method_102_code 17 = .ok (.iload 5, 2) := by decide +kernel
theorem d5_19 : decode jdk_65_method_102_code 19 = .ok (.lload_n 3, 1) := by decide +kernel
theorem d5_20 : decode jdk_65_method_102_code 20 = .ok (.lastore, 1) := by decide +kernel
theorem d5_21 : decode jdk_65_method_102_code 21 = .ok (.iinc 5 1, 3) := by decide +kernel
theorem d5_24 : decode jdk_65_method_102_code 24 = .ok (.goto (-14), 3) := by decide +kernel
theorem d5_27 : decode jdk_65_method_102_code 27 = .ok (.return_, 1) := by decide +kernel
theorem d6_0 : decode jdk_65_method_30_code 0 = .ok (.iload_n 1, 1) := by decide +kernel
theorem d6_1 : decode jdk_65_method_30_code 1 = .ok (.iload_n 2, 1) := by decide +kernel
theorem d6_2 : decode jdk_65_method_30_code 2 = .ok (.if_icmp .le 44, 3) := by decide +kernel
theorem d6_46 : decode jdk_65_method_30_code 46 = .ok (.iload_n 1, 1) := by decide +kernel
theorem d6_47 : decode jdk_65_method_30_code 47 = .ok (.ifCond .ge 12, 3) := by decide +kernel
theorem d6_59 : decode jdk_65_method_30_code 59 = .ok (.iload_n 2, 1) := by decide +kernel
theorem d6_60 : decode jdk_65_method_30_code 60 = .ok (.iload_n 0, 1) := by decide +kernel
theorem d6_61 : decode jdk_65_method_30_code 61 = .ok (.if_icmp .le 12, 3) := by decide +kernel
theorem d6_73 : decode jdk_65_method_30_code 73 = .ok (.return_, 1) := by decide +kernel
theorem d7_0 : decode jdk_29_method_69_code 0 = .ok (.iload_n 0, 1) := by decide +kernel
theorem d7_1 : decode jdk_29_method_69_code 1 = .ok (.iload_n 1, 1) := by decide +kernel
theorem d7_2 : decode jdk_29_method_69_code 2 = .ok (.if_icmp .gt 7, 3) := by decide +kernel
theorem d7_5 : decode jdk_29_method_69_code 5 = .ok (.iload_n 0, 1) := by decide +kernel
theorem d7_6 : decode jdk_29_method_69_code 6 = .ok (.goto 4, 3) := by decide +kernel
theorem d7_9 : decode jdk_29_method_69_code 9 = .ok (.iload_n 1, 1) := by decide +kernel
theorem d7_10 : decode jdk_29_method_69_code 10 = .ok (.ireturn, 1) := by decide +kernel
theorem d8_0 : decode jdk_29_method_65_code 0 = .ok (.iload_n 0, 1) := by decide +kernel
theorem d8_1 : decode jdk_29_method_65_code 1 = .ok (.iload_n 1, 1) := by decide +kernel
theorem d8_2 : decode jdk_29_method_65_code 2 = .ok (.if_icmp .lt 7, 3) := by decide +kernel
theorem d8_5 : decode jdk_29_method_65_code 5 = .ok (.iload_n 0, 1) := by decide +kernel
theorem d8_6 : decode jdk_29_method_65_code 6 = .ok (.goto 4, 3) := by decide +kernel
theorem d8_9 : decode jdk_29_method_65_code 9 = .ok (.iload_n 1, 1) := by decide +kernel
theorem d8_10 : decode jdk_29_method_65_code 10 = .ok (.ireturn, 1) := by decide +kernel
theorem d9_0 : decode prog_32_method_10_code 0 = .ok (.iload_n 1, 1) := by decide +kernel
theorem d9_1 : decode prog_32_method_10_code 1 = .ok (.bipush 6, 2) := by decide +kernel
theorem d9_3 : decode prog_32_method_10_code 3 = .ok (.iushr, 1) := by decide +kernel
theorem d9_4 : decode prog_32_method_10_code 4 = .ok (.aload_n 0, 1) := by decide +kernel
theorem d9_5 : decode prog_32_method_10_code 5 = .ok (.getfield 21, 3) := by decide +kernel
theorem d9_8 : decode prog_32_method_10_code 8 = .ok (.isub, 1) := by decide +kernel
theorem d9_9 : decode prog_32_method_10_code 9 = .ok (.istore_n 2, 1) := by decide +kernel
theorem d9_10 : decode prog_32_method_10_code 10 = .ok (.iload_n 2, 1) := by decide +kernel
theorem d9_11 : decode prog_32_method_10_code 11 = .ok (.ifCond .lt 30, 3) := by decide +kernel
theorem d9_14 : decode prog_32_method_10_code 14 = .ok (.iload_n 2, 1) := by decide +kernel
theorem d9_15 : decode prog_32_method_10_code 15 = .ok (.aload_n 0, 1) := by decide +kernel
theorem d9_16 : decode prog_32_method_10_code 16 = .ok (.getfield 13, 3) := by decide +kernel
theorem d9_19 : decode prog_32_method_10_code 19 = .ok (.if_icmp .ge 22, 3) := by decide +kernel
theorem d9_22 : decode prog_32_method_10_code 22 = .ok (.aload_n 0, 1) := by decide +kernel
theorem d9_23 : decode prog_32_method_10_code 23 = .ok (.getfield 7, 3) := by decide +kernel
theorem d9_26 : decode prog_32_method_10_code 26 = .ok (.iload_n 2, 1) := by decide +kernel
theorem d9_27 : decode prog_32_method_10_code 27 = .ok (.laload, 1) := by decide +kernel
theorem d9_28 : decode prog_32_method_10_code 28 = .ok (.lconst 1, 1) := by decide +kernel
theorem d9_29 : decode prog_32_method_10_code 29 = .ok (.iload_n 1, 1) := by decide +kernel
theorem d9_30 : decode prog_32_method_10_code 30 = .ok (.lshl, 1) := by decide +kernel
theorem d9_31 : decode prog_32_method_10_code 31 = .ok (.land, 1) := by decide +kernel
theorem d9_32 : decode prog_32_method_10_code 32 = .ok (.lconst 0, 1) := by decide +kernel
theorem d9_33 : decode prog_32_method_10_code 33 = .ok (.lcmp, 1) := by decide +kernel
theorem d9_34 : decode prog_32_method_10_code 34 = .ok (.ifCond .eq 7, 3) := by decide +kernel
theorem d9_37 : decode prog_32_method_10_code 37 = .ok (.iconst 1, 1) := by decide +kernel
theorem d9_38 : decode prog_32_method_10_code 38 = .ok (.goto 4, 3) := by decide +kernel
theorem d9_41 : decode prog_32_method_10_code 41 = .ok (.iconst 0, 1) := by decide +kernel
theorem d9_42 : decode prog_32_method_10_code 42 = .ok (.ireturn, 1) := by decide +kernel
theorem d10_0 : decode prog_32_method_2_code 0 = .ok (.aload_n 0, 1) := by decide +kernel
theorem d10_1 : decode prog_32_method_2_code 1 = .ok (.iconst 0, 1) := by decide +kernel
theorem d10_2 : decode prog_32_method_2_code 2 = .ok (.putfield 13, 3) := by decide +kernel
theorem d10_5 : decode prog_32_method_2_code 5 = .ok (.return_, 1) := by decide +kernel
theorem pd0 : parseMethodDescriptor "(III)V" = some ⟨[.int, .int, .int], none⟩ := by decide +kernel
theorem pd1 : parseMethodDescriptor "(II)I" = some ⟨[.int, .int], some .int⟩ := by decide +kernel
theorem pd2 : parseMethodDescriptor "([JIIJ)V" = some ⟨[(.array .long), .int, .int, .long], none⟩ := by decide +kernel
theorem pd3 : parseMethodDescriptor "(II)V" = some ⟨[.int, .int], none⟩ := by decide +kernel
theorem pd4 : parseMethodDescriptor "()V" = some ⟨[], none⟩ := by decide +kernel
theorem pd5 : parseMethodDescriptor "(I)Z" = some ⟨[.int], some .boolean⟩ := by decide +kernel
theorem pd6 : parseMethodDescriptor "(I)V" = some ⟨[.int], none⟩ := by decide +kernel
def Su (Z : State) (h : Heap) (a : Addr) (v0 v1 v2 : Value) : Prop := Exa Z h a "com/example/weft/weft/consensus/SpanUnion" ∧ Fld Z h a "com/example/weft/weft/consensus/SpanUnion" "words" "[J" v0 ∧ Fld Z h a "com/example/weft/weft/consensus/SpanUnion" "count" "I" v1 ∧ Fld Z h a "com/example/weft/weft/consensus/SpanUnion" "first" "I" v2
theorem Su.exa {Z : State} {h : Heap} {a : Addr} {v0 v1 v2 : Value} (O : Su Z h a v0 v1 v2) : Exa Z h a "com/example/weft/weft/consensus/SpanUnion" := O.1
theorem Su.lt {Z : State} {h : Heap} {a : Addr} {v0 v1 v2 : Value} (O : Su Z h a v0 v1 v2) : a < h.size := O.1.lt
theorem Su.ext {Z : State} {h h' : Heap} {a : Addr} {v0 v1 v2 : Value} (O : Su Z h a v0 v1 v2) (X : Ext h h') : Su Z h' a v0 v1 v2 := by
  obtain ⟨E, F0, F1, F2⟩ := O; exact ⟨E.ext X, F0.ext X, F1.ext X, F2.ext X⟩
theorem Su.keep {Z : State} {h h' : Heap} {a : Addr} {ws : List Addr} {v0 v1 v2 : Value} (O : Su Z h a v0 v1 v2) (K : Keep h h' ws) (q : a ∉ ws) : Su Z h' a v0 v1 v2 := by
  obtain ⟨E, F0, F1, F2⟩ := O; exact ⟨E.keep K, F0.keep K q, F1.keep K q, F2.keep K q⟩
theorem Su.get_words {Z : State} {h : Heap} {a : Addr} {v0 v1 v2 : Value} (O : Su Z h a v0 v1 v2) : Fld Z h a "com/example/weft/weft/consensus/SpanUnion" "words" "[J" v0 := by
  obtain ⟨E, F0, F1, F2⟩ := O; exact F0
theorem Su.put_words {a0 : Array Value} {Z : State} (hw : ∀ d ∈ tables_1, d.before a0 Z = true) {h h' : Heap} {a : Addr} {v0 v1 v2 w : Value} (O : Su Z h a v0 v1 v2) (W : Wr h h' a (Jvm.RoadKit.slotOf Z "com/example/weft/weft/consensus/SpanUnion" "words" "[J") w) : Su Z h' a w v1 v2 := by
  obtain ⟨E, F0, F1, F2⟩ := O; exact ⟨E.wr W, F0.same W, F1.other W (Or.inr (slot_ne (Or.inl (tw22 hw)) (Or.inl (tw11 hw)) (by decide) (t := .int) (t' := (.array .long)) (by decide) (by decide))), F2.other W (Or.inr (slot_ne (Or.inl (tw31 hw)) (Or.inl (tw11 hw)) (by decide) (t := .int) (t' := (.array .long)) (by decide) (by decide)))⟩
theorem Su.get_count {Z : State} {h : Heap} {a : Addr} {v0 v1 v2 : Value} (O : Su Z h a v0 v1 v2) : Fld Z h a "com/example/weft/weft/consensus/SpanUnion" "count" "I" v1 := by
  obtain ⟨E, F0, F1, F2⟩ := O; exact F1
theorem Su.put_count {a0 : Array Value} {Z : State} (hw : ∀ d ∈ tables_1, d.before a0 Z = true) {h h' : Heap} {a : Addr} {v0 v1 v2 w : Value} (O : Su Z h a v0 v1 v2) (W : Wr h h' a (Jvm.RoadKit.slotOf Z "com/example/weft/weft/consensus/SpanUnion" "count" "I") w) : Su Z h' a v0 w v2 := by
  obtain ⟨E, F0, F1, F2⟩ := O; exact ⟨E.wr W, F0.other W (Or.inr (slot_ne (Or.inl (tw11 hw)) (Or.inl (tw22 hw)) (by decide) (t := (.array .long)) (t' := .int) (by decide) (by decide))), F1.same W, F2.other W (Or.inr (slot_ne (Or.inl (tw31 hw)) (Or.inl (tw22 hw)) (by decide) (t := .int) (t' := .int) (by decide) (by decide)))⟩
theorem Su.get_first {Z : State} {h : Heap} {a : Addr} {v0 v1 v2 : Value} (O : Su Z h a v0 v1 v2) : Fld Z h a "com/example/weft/weft/consensus/SpanUnion" "first" "I" v2 := by
  obtain ⟨E, F0, F1, F2⟩ := O; exact F2
theorem Su.put_first {a0 : Array Value} {Z : State} (hw : ∀ d ∈ tables_1, d.before a0 Z = true) {h h' : Heap} {a : Addr} {v0 v1 v2 w : Value} (O : Su Z h a v0 v1 v2) (W : Wr h h' a (Jvm.RoadKit.slotOf Z "com/example/weft/weft/consensus/SpanUnion" "first" "I") w) : Su Z h' a v0 v1 w := by
  obtain ⟨E, F0, F1, F2⟩ := O; exact ⟨E.wr W, F0.other W (Or.inr (slot_ne (Or.inl (tw11 hw)) (Or.inl (tw31 hw)) (by decide) (t := (.array .long)) (t' := .int) (by decide) (by decide))), F1.other W (Or.inr (slot_ne (Or.inl (tw22 hw)) (Or.inl (tw31 hw)) (by decide) (t := .int) (t' := .int) (by decide) (by decide))), F2.same W⟩
def fMax (u : Int32) (v : Int32) : Int32 :=
  if u < v then
    v
  else
    u
set_option maxRecDepth 65536 in
set_option maxHeartbeats 4000000 in
theorem ct_fMax (l : Launch) (Z : State) (a0 : Array Value) (hw : ∀ d ∈ tables_1, d.before a0 Z = true) (u : Int32) (v : Int32) (h0 : Heap) (n0 : Nat) (Z0 : n0 ≤ h0.size) :
    Ct l Z (⟨"java/lang/Math", "max", "(II)I"⟩ : MethodName) jdk_29_method_65_code 2 (some .int) ({ frames := 0, cells := 0, slots := 0, locals := 0 } : Room) #[(.int u), (.int v)] h0 n0 (fun r_ h_ => r_ = some (.int (fMax u v)) ∧ h_ = h0) := by
  refine Ct.intro (Jvm.Free.JP.mathPlain rfl (by decide +kernel)) Z0 ?_
  intro p e s m below meth c T X
  refine WP.cast (g' := (mkF m 0 #[.val (.int u), .val (.int v)] [])) (by first | (simp [entryFrame, mkF, argsToLocals, Value.category]; done) | rfl) ?_
  refine w_iloadN X d8_0 rfl (pc' := 1) rfl ?_
  refine w_iloadN X d8_1 rfl (pc' := 2) rfl ?_
  refine w_icmp_lt X d8_2 (by decide) (p1 := 9) (by decide) (p2 := 5) rfl (fun c2 => ?_) (fun c2 => ?_)
  · -- c2 taken
    refine w_iloadN X d8_9 rfl (pc' := 10) rfl ?_
    exact w_retI X rfl d8_10 (by decide) (by decide) ⟨by rw [fMax, if_pos c2], rfl⟩
  · -- c2 not taken
    refine w_iloadN X d8_5 rfl (pc' := 6) rfl ?_
    refine w_goto X d8_6 (by decide) (pc' := 10) (by decide) ?_
    exact w_retI X rfl d8_10 (by decide) (by decide) ⟨by rw [fMax, if_neg c2], rfl⟩
def fMin (u : Int32) (v : Int32) : Int32 :=
  if v < u then
    v
  else
    u
set_option maxRecDepth 65536 in
set_option maxHeartbeats 4000000 in
theorem ct_fMin (l : Launch) (Z : State) (a0 : Array Value) (hw : ∀ d ∈ tables_1, d.before a0 Z = true) (u : Int32) (v : Int32) (h0 : Heap) (n0 : Nat) (Z0 : n0 ≤ h0.size) :
    Ct l Z (⟨"java/lang/Math", "min", "(II)I"⟩ : MethodName) jdk_29_method_69_code 2 (some .int) ({ frames := 0, cells := 0, slots := 0, locals := 0 } : Room) #[(.int u), (.int v)] h0 n0 (fun r_ h_ => r_ = some (.int (fMin u v)) ∧ h_ = h0) := by
  refine Ct.intro (Jvm.Free.JP.mathPlain rfl (by decide +kernel)) Z0 ?_
  intro p e s m below meth c T X
  refine WP.cast (g' := (mkF m 0 #[.val (.int u), .val (.int v)] [])) (by first | (simp [entryFrame, mkF, argsToLocals, Value.category]; done) | rfl) ?_
  refine w_iloadN X d7_0 rfl (pc' := 1) rfl ?_
  refine w_iloadN X d7_1 rfl (pc' := 2) rfl ?_
  refine w_icmp_gt X d7_2 (by decide) (p1 := 9) (by decide) (p2 := 5) rfl (fun c2 => ?_) (fun c2 => ?_)
  · -- c2 taken
    refine w_iloadN X d7_9 rfl (pc' := 10) rfl ?_
    exact w_retI X rfl d7_10 (by decide) (by decide) ⟨by rw [fMin, if_pos c2], rfl⟩
  · -- c2 not taken
    refine w_iloadN X d7_5 rfl (pc' := 6) rfl ?_
    refine w_goto X d7_6 (by decide) (pc' := 10) (by decide) ?_
    exact w_retI X rfl d7_10 (by decide) (by decide) ⟨by rw [fMin, if_neg c2], rfl⟩
theorem bit_shl (q : Int32) (w : Int64) : ((w <<< (q &&& 0x3f).toInt64)).toBitVec = w.toBitVec <<< (q.toBitVec.toNat % 64) := by
  have h := sm64 q (q.toBitVec.toNat % 64) rfl
  rw [Int64.toBitVec_shiftLeft, h.1, BitVec.shiftLeft_eq', smod64 _ h.2]
theorem bit_shr (q : Int32) (w : Int64) : ((w.toUInt64 >>> (q &&& 0x3f).toInt64.toUInt64).toInt64).toBitVec = w.toBitVec >>> (q.toBitVec.toNat % 64) := by
  have h := sm64 q (q.toBitVec.toNat % 64) rfl
  show w.toBitVec >>> ((q &&& 0x3f).toInt64.toBitVec % 64#64) = _
  rw [h.1, BitVec.ushiftRight_eq']
  congr 1
  rw [BitVec.toNat_umod]
  have := h.2
  simp only [BitVec.toNat_ofNat]
  rw [show (2 : Nat) ^ 64 = 18446744073709551616 from rfl, show (64 % 18446744073709551616 : Nat) = 64 from rfl]
  omega
theorem bit_and (w : Int64) (q : Int32) : ((w &&& ((1 : Int64) <<< (q &&& 0x3f).toInt64)) = 0) ↔ w.toBitVec.getLsbD (q.toBitVec.toNat % 64) = false := by
  rw [← Int64.toBitVec_inj, Int64.toBitVec_and, bit_shl]
  have hk : q.toBitVec.toNat % 64 < 64 := Nat.mod_lt _ (by decide)
  generalize q.toBitVec.toNat % 64 = k at *
  show w.toBitVec &&& (1#64 <<< k) = 0#64 ↔ _
  rw [← BitVec.twoPow_eq, BitVec.and_twoPow]
  by_cases h : w.toBitVec.getLsbD k
  · simp only [h, if_true]
    constructor
    · intro e
      have e2 := congrArg (fun z => BitVec.getLsbD z k) e
      simp [BitVec.getLsbD_twoPow, hk] at e2
    · intro e; cases e
  · simp [h]
theorem bit_one (w : Int64) (q : Int32) : (((w.toUInt64 >>> (q &&& 0x3f).toInt64.toUInt64).toInt64 &&& (1 : Int64)) = 1) ↔ w.toBitVec.getLsbD (q.toBitVec.toNat % 64) = true := by
  rw [← Int64.toBitVec_inj, Int64.toBitVec_and, bit_shr]
  generalize q.toBitVec.toNat % 64 = k at *
  show (w.toBitVec >>> k) &&& 1#64 = 1#64 ↔ _
  constructor
  · intro e
    have e2 := congrArg (fun z => BitVec.getLsbD z 0) e
    simpa using e2
  · intro e
    apply BitVec.eq_of_getLsbD_eq
    intro i hi
    simp only [BitVec.getLsbD_and, BitVec.getLsbD_ushiftRight, BitVec.getLsbD_one]
    by_cases hz : i = 0
    · subst hz; simp [e]
    · simp [hz]
def wdI (t : Int32) : Int := (t.toInt % 4294967296) / 64
def btN (t : Int32) : Nat := t.toBitVec.toNat % 64
def RS (B : Int) (f c : Int32) (g : Nat → Int64) (S : Int32 → Bool) : Prop :=
  0 ≤ c.toInt ∧ c.toInt ≤ 4 ∧ 0 ≤ f.toInt ∧ f.toInt < 67108864 ∧ (0 < c.toInt → B ≤ f.toInt ∧ f.toInt + c.toInt ≤ B + 4) ∧
    ∀ t, S t = (decide (f.toInt ≤ wdI t ∧ wdI t < f.toInt + c.toInt) && (g (wdI t - f.toInt).toNat).toBitVec.getLsbD (btN t))
def RR (B w : Int) (f c : Int32) (g : Nat → Int64) (f' c' : Int32) (g' : Nat → Int64) : Prop :=
  B ≤ f'.toInt ∧ f'.toInt ≤ w ∧ w < f'.toInt + c'.toInt ∧ f'.toInt + c'.toInt ≤ B + 4 ∧
    (∀ x : Int, f'.toInt ≤ x → x < f'.toInt + c'.toInt → g' (x - f'.toInt).toNat = if (f.toInt ≤ x ∧ x < f.toInt + c.toInt) then g (x - f.toInt).toNat else 0) ∧
    (∀ x : Int, f.toInt ≤ x → x < f.toInt + c.toInt → f'.toInt ≤ x ∧ x < f'.toInt + c'.toInt)
theorem mod_toNat (t : Int32) : t.toInt % 4294967296 = (t.toBitVec.toNat : Int) := by
  have := t.toBitVec.isLt
  have e := BitVec.toInt_eq_toNat_cond t.toBitVec
  rw [Int32.toInt_toBitVec] at e
  split at e <;> omega
theorem wdI_eq (t : Int32) : wdI t = (t.toBitVec.toNat / 64 : Nat) := by
  unfold wdI; rw [mod_toNat]; omega
theorem wdI_rng (t : Int32) : 0 ≤ wdI t ∧ wdI t < 67108864 := by
  have := t.toBitVec.isLt; rw [wdI_eq]; omega
theorem same_bit {t b : Int32} (h1 : wdI t = wdI b) (h2 : btN t = btN b) : t = b := by
  apply Int32.toBitVec_inj.mp
  apply BitVec.eq_of_toNat_eq
  rw [wdI_eq, wdI_eq] at h1; unfold btN at h2; omega
theorem ushr6 (t : Int32) : ((t.toUInt32 >>> ((6 : Int32) &&& 31).toUInt32).toInt32).toInt = wdI t := by
  rw [c_iushr t 6 6 (by decide) (by decide)]; rfl
theorem RS.congr {B : Int} {f c : Int32} {g : Nat → Int64} {S S' : Int32 → Bool} (R : RS B f c g S) (h : ∀ t, S' t = S t) : RS B f c g S' :=
  ⟨R.1, R.2.1, R.2.2.1, R.2.2.2.1, R.2.2.2.2.1, fun t => by rw [h t]; exact R.2.2.2.2.2 t⟩
theorem RS.start {B : Int} : RS B 0 0 (fun _ => 0) (fun _ => false) :=
  ⟨by decide, by decide, by decide, by decide, fun q => absurd q (by decide), fun t => by
    show false = (_ && (0#64).getLsbD _)
    simp⟩
theorem RS.clear {B : Int} {f c : Int32} {g : Nat → Int64} {S : Int32 → Bool} (R : RS B f c g S) : RS B f 0 g (fun _ => false) :=
  ⟨by decide, by decide, R.2.2.1, R.2.2.2.1, fun q => absurd q (by decide), fun t => by
    rw [show decide (f.toInt ≤ wdI t ∧ wdI t < f.toInt + (0 : Int32).toInt) = false by
      simp only [decide_eq_false_iff_not, show (0 : Int32).toInt = 0 from rfl]; omega]
    rfl⟩
theorem one_shl (q : Int32) (j : Nat) (hj : j < 64) : ((1 : Int64) <<< (q &&& 0x3f).toInt64).toBitVec.getLsbD j = decide (j = btN q) := by
  rw [bit_shl, BitVec.getLsbD_shiftLeft]
  have hk : q.toBitVec.toNat % 64 < 64 := Nat.mod_lt _ (by decide)
  unfold btN
  generalize q.toBitVec.toNat % 64 = k at *
  show (decide (j < 64) && !decide (j < k) && (1#64).getLsbD (j - k)) = _
  rw [BitVec.getLsbD_one]
  by_cases c : j = k
  · subst c; simp [hj]
  · by_cases d : j < k
    · simp [d, c]
    · have : ¬ j - k = 0 := by omega
      simp [c, this]
theorem RS.add {B : Int} {f c f' c' bit : Int32} {g g' : Nat → Int64} {S : Int32 → Bool} {i : Nat} (R : RS B f c g S) (Q : RR B (wdI bit) f c g f' c' g') (hB : 0 ≤ B ∧ B + 4 ≤ 67108864) (hi : (i : Int) = wdI bit - f'.toInt) :
    RS B f' c' (fun q => if q = i then (g' i ||| ((1 : Int64) <<< (bit &&& 0x3f).toInt64)) else g' q) (fun t => S t || decide (t = bit)) := by
  obtain ⟨q1, q2, q3, q4, q5, q6⟩ := Q
  refine ⟨by omega, by omega, by omega, by omega, fun _ => ⟨by omega, by omega⟩, fun t => ?_⟩
  show (S t || decide (t = bit)) = _
  rw [R.2.2.2.2.2 t]
  by_cases c1 : f'.toInt ≤ wdI t ∧ wdI t < f'.toInt + c'.toInt
  · rw [show decide (f'.toInt ≤ wdI t ∧ wdI t < f'.toInt + c'.toInt) = true by simpa using c1, Bool.true_and]
    have e5 := q5 (wdI t) c1.1 c1.2
    have old : (decide (f.toInt ≤ wdI t ∧ wdI t < f.toInt + c.toInt) && (g (wdI t - f.toInt).toNat).toBitVec.getLsbD (btN t)) = (g' (wdI t - f'.toInt).toNat).toBitVec.getLsbD (btN t) := by
      rw [e5]
      by_cases c2 : f.toInt ≤ wdI t ∧ wdI t < f.toInt + c.toInt
      · rw [if_pos c2]; simp [c2]
      · rw [if_neg c2, show decide (f.toInt ≤ wdI t ∧ wdI t < f.toInt + c.toInt) = false by simpa using c2]
        show false = (0#64).getLsbD _
        simp
    rw [old]
    dsimp only
    by_cases c3 : wdI t = wdI bit
    · have e : (wdI t - f'.toInt).toNat = i := by omega
      rw [e, if_pos rfl, Int64.toBitVec_or, BitVec.getLsbD_or, one_shl _ (btN t) (Nat.mod_lt _ (by decide))]
      congr 1
      by_cases c4 : btN t = btN bit
      · have := same_bit c3 c4; subst this; simp
      · have : ¬ t = bit := fun q => c4 (by rw [q])
        simp [c4, this]
    · have e : ¬ (wdI t - f'.toInt).toNat = i := by omega
      have : ¬ t = bit := fun q => c3 (by rw [q])
      rw [if_neg e]; simp [this]
  · have n1 : ¬ (f.toInt ≤ wdI t ∧ wdI t < f.toInt + c.toInt) := fun q => c1 (q6 _ q.1 q.2)
    have n2 : ¬ t = bit := fun q => c1 (by rw [q]; exact ⟨q2, q3⟩)
    rw [show decide (f'.toInt ≤ wdI t ∧ wdI t < f'.toInt + c'.toInt) = false by simpa using c1, show decide (f.toInt ≤ wdI t ∧ wdI t < f.toInt + c.toInt) = false by simpa using n1]
    simp [n2]
theorem con_ok {B : Int} {f c t wd : Int32} {g : Nat → Int64} {S : Int32 → Bool} (R : RS B f c g S) (h : wd = (t.toUInt32 >>> ((6 : Int32) &&& 31).toUInt32).toInt32 - f) :
    (if wd < 0 then (0 : Int32) else if wd < c then (if (g wd.toInt.toNat &&& ((1 : Int64) <<< (t &&& 0x3f).toInt64)) = 0 then 0 else 1) else 0) = if S t then 1 else 0 := by
  have h1 := c_isub ((t.toUInt32 >>> ((6 : Int32) &&& 31).toUInt32).toInt32) f
  rw [← h, ushr6] at h1
  have r := rng32 wd; have w := wdI_rng t
  have a1 := R.2.2.1; have a2 := R.2.2.2.1
  have e : wd.toInt = wdI t - f.toInt := by omega
  rw [R.2.2.2.2.2 t]
  by_cases c1 : wd < 0
  · rw [if_pos c1]
    rw [Int32.lt_iff_toInt_lt, show (0 : Int32).toInt = 0 from rfl] at c1
    rw [show decide (f.toInt ≤ wdI t ∧ wdI t < f.toInt + c.toInt) = false by simp; omega]
    simp
  · rw [if_neg c1]
    rw [Int32.lt_iff_toInt_lt, show (0 : Int32).toInt = 0 from rfl] at c1
    by_cases c2 : wd < c
    · rw [if_pos c2]
      rw [Int32.lt_iff_toInt_lt] at c2
      rw [show decide (f.toInt ≤ wdI t ∧ wdI t < f.toInt + c.toInt) = true by simp; omega, Bool.true_and, ← e]
      have q := bit_and (g wd.toInt.toNat) t
      unfold btN
      by_cases c3 : (g wd.toInt.toNat).toBitVec.getLsbD (t.toBitVec.toNat % 64) = true
      · rw [if_neg (fun z => by rw [q.mp z] at c3; cases c3), c3]; rfl
      · have c4 : (g wd.toInt.toNat).toBitVec.getLsbD (t.toBitVec.toNat % 64) = false := by simpa using c3
        rw [if_pos (q.mpr c4), c4]; rfl
    · rw [if_neg c2]
      rw [Int32.lt_iff_toInt_lt] at c2
      rw [show decide (f.toInt ≤ wdI t ∧ wdI t < f.toInt + c.toInt) = false by simp; omega]
      simp
theorem at_ok {d : Int32} (h : ¬ d < 0) : d.toInt = (d.toInt.toNat : Nat) := by
  rw [Int32.lt_iff_toInt_lt] at h; simp only [Int32.reduceToInt] at h; omega
theorem lt_ok {B : Int} {f c d : Int32} {g : Nat → Int64} {S : Int32 → Bool} (R : RS B f c g S) (h : ¬ d < 0) (h2 : d < c) : d.toInt.toNat < 16 := by
  rw [Int32.lt_iff_toInt_lt] at h h2; simp only [Int32.reduceToInt] at h; have := R.2.1; omega
theorem x_succ {x : Int32} {j m : Nat} (h : x.toInt = j) (hj : j < m) (hm : m < 2 ^ 31) : (x + 1).toInt = (j + 1 : Nat) := by
  have h1 := c_iadd x 1; have r := rng32 (x + 1)
  rw [show (1 : Int32).toInt = 1 from rfl] at h1; omega
/-- what reach leaves where the union was empty -/
theorem reach0 {B w : Int} {f c lw hi : Int32} {g : Nat → Int64} (hl : lw.toInt = w) (hh : hi.toInt = w + 1) (hw : B ≤ w ∧ w < B + 4) (hc : c = 0) (hd : (hi - lw).toInt = 1) :
    RR B w f c g lw (hi - lw) (fun z => if 0 ≤ z ∧ z < 1 then 0 else g z) := by
  subst hc
  refine ⟨by omega, by omega, by omega, by omega, fun x h1 h2 => ?_, fun x h1 h2 => ?_⟩
  · have e : x = w := by omega
    rw [show (x - lw.toInt).toNat = 0 by omega, if_neg (by rw [show (0 : Int32).toInt = 0 from rfl]; omega)]; rfl
  · rw [show (0 : Int32).toInt = 0 from rfl] at h2; omega
theorem sub_one {lw hi : Int32} {w : Int} (hl : lw.toInt = w) (hh : hi.toInt = w + 1) : (hi - lw).toInt = 1 := by
  have h1 := c_isub hi lw; have r := rng32 (hi - lw); omega
/-- what it leaves else -/
theorem reach1 {B w : Int} {f c st en : Int32} {g g' : Nat → Int64} (hw : B ≤ w ∧ w < B + 4) (hB : 0 ≤ B ∧ B + 4 ≤ 67108864) (hc : 0 < c.toInt) (hc4 : c.toInt ≤ 4) (hf : B ≤ f.toInt ∧ f.toInt + c.toInt ≤ B + 4)
    (hst : st.toInt = if f.toInt < w then f.toInt else w) (hen : en.toInt = if f.toInt + c.toInt < w + 1 then w + 1 else f.toInt + c.toInt) (hes : (en - st).toInt = en.toInt - st.toInt)
    (hg : ∀ z : Nat, (z : Int) < en.toInt - st.toInt → g' z = if (f.toInt - st.toInt ≤ z ∧ (z : Int) < f.toInt - st.toInt + c.toInt) then g ((z : Int) - (f.toInt - st.toInt)).toNat else 0) :
    RR B w f c g st (en - st) g' := by
  have s1 : st.toInt ≤ f.toInt ∧ st.toInt ≤ w ∧ B ≤ st.toInt := by split at hst <;> omega
  have s2 : f.toInt + c.toInt ≤ en.toInt ∧ w + 1 ≤ en.toInt ∧ en.toInt ≤ B + 4 := by split at hen <;> omega
  refine ⟨by omega, by omega, by omega, by omega, fun x h1 h2 => ?_, fun x h1 h2 => by omega⟩
  rw [hg _ (by omega)]
  by_cases c1 : f.toInt ≤ x ∧ x < f.toInt + c.toInt
  · rw [if_pos c1, if_pos (by omega)]; congr 1; omega
  · rw [if_neg c1, if_neg (by omega)]
theorem mn_ok {f lw : Int32} {w : Int} (hl : lw.toInt = w) : (fMin f lw).toInt = if f.toInt < w then f.toInt else w := by
  unfold fMin
  simp only [Int32.lt_iff_toInt_lt, hl]
  repeat' split
  all_goals omega
theorem mx_ok {x hi : Int32} {w : Int} (hh : hi.toInt = w) : (fMax x hi).toInt = if x.toInt < w then w else x.toInt := by
  unfold fMax
  simp only [Int32.lt_iff_toInt_lt, hh]
  repeat' split
  all_goals omega
theorem fc_sum {f c : Int32} (hf : 0 ≤ f.toInt ∧ f.toInt < 67108864) (hc : 0 ≤ c.toInt ∧ c.toInt ≤ 4) : (f + c).toInt = f.toInt + c.toInt := by
  have h1 := c_iadd f c; have r := rng32 (f + c); omega
theorem sub_int {x z : Int32} (h : -2147483648 ≤ x.toInt - z.toInt ∧ x.toInt - z.toInt < 2147483648) : (x - z).toInt = x.toInt - z.toInt := by
  have h1 := c_isub x z; have r := rng32 (x - z); omega
theorem add_int {x z : Int32} (h : -2147483648 ≤ x.toInt + z.toInt ∧ x.toInt + z.toInt < 2147483648) : (x + z).toInt = x.toInt + z.toInt := by
  have h1 := c_iadd x z; have r := rng32 (x + z); omega
def addS (S : Int32 → Bool) (z b : Int32) : Int32 → Bool := fun t => S t || (decide (¬ z = 0) && decide (t = b))
def clrS (S : Int32 → Bool) (z : Int32) : Int32 → Bool := fun t => decide (z = 0) && S t
theorem addS_y {S : Int32 → Bool} {z b : Int32} (h : ¬ z = 0) (t : Int32) : addS S z b t = (S t || decide (t = b)) := by simp [addS, h]
theorem addS_n {S : Int32 → Bool} {z b : Int32} (h : z = 0) (t : Int32) : addS S z b t = S t := by simp [addS, h]
theorem clrS_y {S : Int32 → Bool} {z : Int32} (h : ¬ z = 0) (t : Int32) : clrS S z t = false := by simp [clrS, h]
theorem clrS_n {S : Int32 → Bool} {z : Int32} (h : z = 0) (t : Int32) : clrS S z t = S t := by simp [clrS, h]
theorem block {a d b : Int32} (h : b = a ^^^ (d &&& 255)) : b.toBitVec.toNat / 256 = a.toBitVec.toNat / 256 := by
  have e1 : b.toBitVec.toNat = a.toBitVec.toNat ^^^ (d &&& 255).toBitVec.toNat := by rw [h]; rfl
  have e2 : (d &&& 255).toBitVec.toNat < 256 := by
    have h1 := c_mask d 255 8 (by decide) (by decide)
    have h2 := mod_toNat (d &&& 255)
    rw [show ((2 ^ 8 : Nat) : Int) = 256 from rfl] at h1
    omega
  have e3 : (d &&& 255).toBitVec.toNat / 2 ^ 8 = 0 := Nat.div_eq_of_lt e2
  rw [e1, show (256 : Nat) = 2 ^ 8 from rfl, Nat.xor_div_two_pow, e3, Nat.xor_zero]
theorem in_block {x : Int32} {n : Nat} (h : x.toBitVec.toNat / 256 = n) : (4 * n : Nat) ≤ wdI x ∧ wdI x < (4 * n : Nat) + 4 := by
  rw [wdI_eq]; omega
theorem blk_top (a : Int32) : (0 : Int) ≤ (4 * (a.toBitVec.toNat / 256) : Nat) ∧ ((4 * (a.toBitVec.toNat / 256) : Nat) : Int) + 4 ≤ 67108864 := by
  have := a.toBitVec.isLt; omega
set_option maxHeartbeats 4000000 in
theorem fin {a b c t za zb zc zd ze iA iB ex : Int32} (hA : iA = if (¬ za = 0 ∧ zc = 0) ∨ ¬ ze = 0 then 1 else 0) (hB : iB = if ¬ zb = 0 ∧ zc = 0 then 1 else 0) (hE : ex = if (t = a ∧ ¬ iA = 0) ∨ (t = b ∧ ¬ iB = 0) ∨ (t = c ∧ ¬ zd = 0) then 1 else 0) :
    (if addS (addS (clrS (addS (addS (fun _ => false) za a) zb b) zc) zd c) ze a t then (1 : Int32) else 0) = ex := by
  have e1 : (¬ iA = 0) ↔ ((¬ za = 0 ∧ zc = 0) ∨ ¬ ze = 0) := by rw [hA]; split <;> simp_all
  have e2 : (¬ iB = 0) ↔ (¬ zb = 0 ∧ zc = 0) := by rw [hB]; split <;> simp_all
  rw [hE]
  simp only [e1, e2]
  congr 1
  simp only [addS, clrS, Bool.or_eq_true, Bool.and_eq_true, decide_eq_true_eq, eq_iff_iff, Bool.false_eq_true, false_or]
  clear e1 e2 hA hB hE
  generalize (za = 0) = p1; generalize (zb = 0) = p2; generalize (zc = 0) = p3; generalize (zd = 0) = p4; generalize (ze = 0) = p5; generalize (t = a) = p6; generalize (t = b) = p7; generalize (t = c) = p8
  by_cases h1 : p1 <;> by_cases h2 : p2 <;> by_cases h3 : p3 <;> by_cases h4 : p4 <;> by_cases h5 : p5 <;> by_cases h6 : p6 <;> by_cases h7 : p7 <;> by_cases h8 : p8 <;> simp [h1, h2, h3, h4, h5, h6, h7, h8]

set_option maxRecDepth 65536 in
set_option maxHeartbeats 4000000 in
theorem ct_init (l : Launch) (Z : State) (a0 : Array Value) (hw : ∀ d ∈ tables_1, d.before a0 Z = true) (a : Addr) (h0 : Heap) (n0 : Nat) (Z0 : n0 ≤ h0.size) (ga : n0 ≤ a) (O : Su Z h0 a .null (.int 0) (.int 0)) :
    Ct l Z (⟨"com/example/weft/weft/consensus/SpanUnion", "<init>", "()V"⟩ : MethodName) prog_32_method_1_code 1 none ({ frames := 1, cells := 1, slots := 16, locals := 12 } : Room) #[(.ref a)] h0 n0 (fun r h => r = none ∧ ∃ u, Keep h0 h [a] ∧ Su Z h a (.ref u) (.int 0) (.int 0) ∧ AJ Z h u 16 (fun _ => 0) ∧ h0.size ≤ u ∧ n0 ≤ u) := by
  refine Ct.intro (plainFor_of_name (by first | (simp [plainName, overriddenIn]; done) | decide +kernel)) Z0 ?_
  intro p e s m below meth c T X
  refine WP.cast (g' := (mkF m 0 #[.val (.ref a)] [])) (by first | (simp [entryFrame, mkF, argsToLocals, Value.category]; done) | rfl) ?_
  have K := Keep.refl h0 [a]
  refine w_aloadN X d1_0 rfl rfl (pc' := 1) rfl ?_
  refine w_initO X (tw6 hw) (tw7 hw) (tw8 hw) d1_1 rfl (by decide) rfl (by decide) (pc' := 4) rfl ?_; intro T X
  refine w_aloadN X d1_4 rfl rfl (pc' := 5) rfl ?_
  refine w_bipush X d1_5 (v := (16 : Int32)) (by decide) (pc' := 7) rfl ?_
  refine w_newarray X (aty := .long) 16 (tw9 hw) d1_7 (by decide) (by decide) (by decide) (by decide) (by decide) (pc' := 9) rfl ?_; intro T h1 b1 cA1 X eq1 ga1 E1 A1
  have ne2 : a ≠ b1 := Nat.ne_of_lt (Nat.lt_of_lt_of_eq O.lt eq1.symm)
  have O3 := O.ext E1
  have sz4 : h0.size ≤ b1 := Nat.le_trans K.1 (Nat.le_of_eq eq1.symm)
  have K5 := K.ext E1
  have O6 : AJ Z h1 b1 16 (fun _ => 0) := AJ.new A1 (by decide)
  refine w_putF X (tw10 hw) O3.get_words O3.exa (Or.inl (tw11 hw)) (tw1 hw) ga d1_9 (ty := (.array .long)) (v' := (.ref b1)) (by decide) rfl rfl (pc' := 12) rfl ?_; intro T h7 X W8
  have O10 := O3.put_words hw W8
  have K9 := Keep.of_wr W8
  have O11 := O6.keep K9 (ninS (Ne.symm ne2) nin0)
  have K12 := K5.wr W8 (Or.inl (by simp))
  show WP _ _ _ _ _ _ _ _ _ (mkF m 12 #[.val (.ref a)] [])
  exact w_retV X rfl d1_12 (by decide) (by decide) ⟨rfl, b1, K12, O10, O11, sz4, ga1⟩
set_option maxRecDepth 65536 in
set_option maxHeartbeats 4000000 in
theorem ct_rc (l : Launch) (Z : State) (a0 : Array Value) (hw : ∀ d ∈ tables_1, d.before a0 Z = true) (n lo hi : Int32) (h0 : Heap) (n0 : Nat) (Z0 : n0 ≤ h0.size) (h1 : ¬ hi < lo) (h2 : ¬ lo < 0) (h3 : ¬ n < hi) :
    Ct l Z (⟨"java/util/Arrays", "rangeCheck", "(III)V"⟩ : MethodName) jdk_65_method_30_code 3 none ({ frames := 0, cells := 0, slots := 0, locals := 0 } : Room) #[(.int n), (.int lo), (.int hi)] h0 n0 (fun r h => r = none ∧ h = h0) := by
  refine Ct.intro (plainFor_of_name (by first | (simp [plainName, overriddenIn]; done) | decide +kernel)) Z0 ?_
  intro p e s m below meth c T X
  refine WP.cast (g' := (mkF m 0 #[.val (.int n), .val (.int lo), .val (.int hi)] [])) (by first | (simp [entryFrame, mkF, argsToLocals, Value.category]; done) | rfl) ?_
  refine w_iloadN X d6_0 rfl (pc' := 1) rfl ?_
  refine w_iloadN X d6_1 rfl (pc' := 2) rfl ?_
  refine w_icmp_le X d6_2 (by decide) (p1 := 46) (by decide) (p2 := 5) rfl (fun c2 => ?_) (fun c2 => False.elim (h1 c2))
  refine w_iloadN X d6_46 rfl (pc' := 47) rfl ?_
  refine w_if_ge X d6_47 (by decide) (p1 := 59) (by decide) (p2 := 50) rfl (fun c47 => ?_) (fun c47 => False.elim (h2 c47))
  refine w_iloadN X d6_59 rfl (pc' := 60) rfl ?_
  refine w_iloadN X d6_60 rfl (pc' := 61) rfl ?_
  refine w_icmp_le X d6_61 (by decide) (p1 := 73) (by decide) (p2 := 64) rfl (fun c61 => ?_) (fun c61 => False.elim (h3 c61))
  exact w_retV X rfl d6_73 (by decide) (by decide) ⟨rfl, rfl⟩
theorem rc1 {lo hi : Int32} {i j : Nat} (h1 : lo.toInt = i) (h2 : hi.toInt = j) (h : i ≤ j) : ¬ hi < lo := by rw [Int32.lt_iff_toInt_lt]; omega
theorem rc2 {lo : Int32} {i : Nat} (h1 : lo.toInt = i) : ¬ lo < 0 := by rw [Int32.lt_iff_toInt_lt, show (0 : Int32).toInt = 0 from rfl]; omega
theorem rc3 {hi : Int32} {j N : Nat} (hN : N < 2 ^ 31) (h2 : hi.toInt = j) (h : j ≤ N) : ¬ Int32.ofNat N < hi := by
  rw [Int32.lt_iff_toInt_lt, show (Int32.ofNat N).toInt = N from Int32.toInt_ofNat_small hN]; omega
theorem fill_eq {i k : Nat} {v : Int64} {g : Nat → Int64} {hik : i ≤ k} (z : Nat) : (if z = k then v else (if i ≤ z ∧ z < k then v else g z)) = if i ≤ z ∧ z < k + 1 then v else g z := by
  by_cases c1 : z = k
  · rw [if_pos c1, if_pos (by omega)]
  · rw [if_neg c1]
    by_cases c2 : i ≤ z ∧ z < k
    · rw [if_pos c2, if_pos (by omega)]
    · rw [if_neg c2, if_neg (by omega)]
set_option maxRecDepth 65536 in
set_option maxHeartbeats 4000000 in
theorem ct_fill (l : Launch) (Z : State) (a0 : Array Value) (hw : ∀ d ∈ tables_1, d.before a0 Z = true) (u : Addr) (lo hi : Int32) (v : Int64) (i j N : Nat) (g : Nat → Int64) (h0 : Heap) (n0 : Nat) (Z0 : n0 ≤ h0.size) (gu : n0 ≤ u) (V : AJ Z h0 u N g) (hlo : lo.toInt = i) (hhi : hi.toInt = j) (hij : i ≤ j) (hjN : j ≤ N) :
    Ct l Z (⟨"java/util/Arrays", "fill", "([JIIJ)V"⟩ : MethodName) jdk_65_method_102_code 6 none ({ frames := 1, cells := 0, slots := 0, locals := 14 } : Room) #[(.ref u), (.int lo), (.int hi), (.long v)] h0 n0 (fun r h => r = none ∧ Keep h0 h [u] ∧ AJ Z h u N (fun z => if i ≤ z ∧ z < j then v else g z)) := by
  refine Ct.intro (plainFor_of_name (by first | (simp [plainName, overriddenIn]; done) | decide +kernel)) Z0 ?_
  intro p e s m below meth c T X
  refine WP.cast (g' := (mkF m 0 #[.val (.ref u), .val (.int lo), .val (.int hi), .val (.long v), .second, .unset] [])) (by first | (simp [entryFrame, mkF, argsToLocals, Value.category]; done) | rfl) ?_
  have K := Keep.refl h0 [u]
  refine w_aloadN X d5_0 rfl rfl (pc' := 1) rfl ?_
  refine w_arraylength X V d5_1 (z := (Int32.ofNat N)) rfl (pc' := 2) rfl ?_
  refine w_iloadN X d5_2 rfl (pc' := 3) rfl ?_
  refine w_iloadN X d5_3 rfl (pc' := 4) rfl ?_
  refine w_callS X [(.int (Int32.ofNat N)), (.int lo), (.int hi)] [] 0 (tw27 hw) (tw28 hw) (tw25 hw) (tw29 hw) (ct_rc l Z a0 hw (Int32.ofNat N) lo hi h0 n0 X.n0le (rc1 hlo hhi hij) (rc2 hlo) (rc3 V.len hhi hjN)) d5_4 pd0 rfl (by decide) rfl rfl rfl (by decide) (by decide) (by decide) (by decide) (pc' := 7) rfl ?_
  intro T hz v X hQ
  obtain ⟨rfl, hz1⟩ := hQ; replace hz1 := hz1.symm; subst hz1
  show WP _ _ _ _ _ _ _ _ _ (mkF m 7 #[.val (.ref u), .val (.int lo), .val (.int hi), .val (.long v), .second, .unset] [])
  refine w_iloadN X d5_7 rfl (pc' := 8) rfl ?_
  refine w_istore X d5_8 (L' := #[.val (.ref u), .val (.int lo), .val (.int hi), .val (.long v), .second, .val (.int lo)]) rfl (pc' := 10) rfl ?_
  have LP : ∀ (q : Nat) T h1, St p l e ({ frames := 1, cells := 0, slots := 0, locals := 14 } : Room) s m #[(.ref u), (.int lo), (.int hi), (.long v)] below meth c Z n0 (⟨"java/util/Arrays", "fill", "([JIIJ)V"⟩ : MethodName) jdk_65_method_102_code 6 none T h1 (0 + 0) (0 + 0) → ∀ (k : Nat) (x5 : Int32), x5.toInt = k → k + q = j → i ≤ k → AJ Z h1 u N (fun z => if i ≤ z ∧ z < k then v else g z) → Keep h0 h1 [u] → WP p e below s n0 ({ frames := 1, cells := 0, slots := 0, locals := 14 } : Room).cells ({ frames := 1, cells := 0, slots := 0, locals := 14 } : Room).slots (fun r h => r = none ∧ Keep h0 h [u] ∧ AJ Z h u N (fun z => if i ≤ z ∧ z < j then v else g z)) T (mkF m 10 #[.val (.ref u), .val (.int lo), .val (.int hi), .val (.long v), .second, .val (.int x5)] []) := by
    intro q
    induction q with
    | zero =>
      intro T h1 X k x5 hx5 hsum hik V1 K1
      refine w_iload X d5_10 rfl (pc' := 12) rfl ?_
      refine w_iloadN X d5_12 rfl (pc' := 13) rfl ?_
      refine w_icmp_ge X d5_13 (by decide) (p1 := 27) (by decide) (p2 := 16) rfl (fun c13 => ?_) (fun c13 => False.elim (absurd c13 (by rw [Int32.lt_iff_toInt_lt]; omega)))
      obtain rfl : k = j := by omega
      exact w_retV X rfl d5_27 (by decide) (by decide) ⟨rfl, K1, V1⟩
    | succ q ih =>
      intro T h1 X k x5 hx5 hsum hik V1 K1
      refine w_iload X d5_10 rfl (pc' := 12) rfl ?_
      refine w_iloadN X d5_12 rfl (pc' := 13) rfl ?_
      refine w_icmp_ge X d5_13 (by decide) (p1 := 27) (by decide) (p2 := 16) rfl (fun c13 => False.elim (absurd (show x5 < hi by rw [Int32.lt_iff_toInt_lt]; omega) c13)) (fun c13 => ?_)
      refine w_aloadN X d5_16 rfl rfl (pc' := 17) rfl ?_
      refine w_iload X d5_17 rfl (pc' := 19) rfl ?_
      refine w_lloadN X d5_19 rfl (pc' := 20) rfl ?_
      refine w_lastore X (i := k) (x' := v) V1 gu d5_20 hx5 (by omega) rfl (pc' := 21) rfl ?_; intro T h1 X K2 O3
      have K4 := K1.trans K2 (allS (Or.inl (by simp)) all0)
      refine w_iinc X d5_21 rfl (v' := (x5 + (1 : Int32))) (by first | rfl | decide) (L' := #[.val (.ref u), .val (.int lo), .val (.int hi), .val (.long v), .second, .val (.int (x5 + (1 : Int32)))]) rfl (pc' := 24) rfl ?_
      refine w_goto X d5_24 (by decide) (pc' := 10) (by decide) ?_
      exact ih T h1 X (k + 1) (x5 + 1) (x_succ hx5 (show k < N by omega) V.len) (by omega) (by omega) (O3.congr fun z hz => fill_eq (hik := hik) z) K4
  exact LP (j - i) T h0 X i lo hlo (by omega) (Nat.le_refl _) (V.congr fun z hz => (if_neg (by omega)).symm) K
set_option maxRecDepth 65536 in
set_option maxHeartbeats 4000000 in
theorem ct_reach (l : Launch) (Z : State) (a0 : Array Value) (hw : ∀ d ∈ tables_1, d.before a0 Z = true) (a u : Addr) (lw hi f cn bit : Int32) (B : Int) (g : Nat → Int64) (h0 : Heap) (n0 : Nat) (Z0 : n0 ≤ h0.size) (ga : n0 ≤ a) (gu : n0 ≤ u) (hau : a ≠ u) (O : Su Z h0 a (.ref u) (.int cn) (.int f)) (V : AJ Z h0 u 16 g) (hl : lw.toInt = wdI bit) (hh : hi.toInt = wdI bit + 1) (hw2 : B ≤ wdI bit ∧ wdI bit < B + 4) (hB : 0 ≤ B ∧ B + 4 ≤ 67108864) (hcn : 0 ≤ cn.toInt) (hc4 : cn.toInt ≤ 4) (hcf : 0 < cn.toInt → B ≤ f.toInt ∧ f.toInt + cn.toInt ≤ B + 4) :
    Ct l Z (⟨"com/example/weft/weft/consensus/SpanUnion", "reach", "(II)V"⟩ : MethodName) prog_32_method_13_code 7 none ({ frames := 2, cells := 0, slots := 0, locals := 40 } : Room) #[(.ref a), (.int lw), (.int hi)] h0 n0 (fun r h => r = none ∧ ∃ (f' c' : Int32) (g' : Nat → Int64), Keep h0 h [a, u] ∧ Su Z h a (.ref u) (.int c') (.int f') ∧ AJ Z h u 16 g' ∧ RR B (wdI bit) f cn g f' c' g') := by
  refine Ct.intro (plainFor_of_name (by first | (simp [plainName, overriddenIn]; done) | decide +kernel)) Z0 ?_
  intro p e s m below meth c T X
  refine WP.cast (g' := (mkF m 0 #[.val (.ref a), .val (.int lw), .val (.int hi), .unset, .unset, .unset, .unset] [])) (by first | (simp [entryFrame, mkF, argsToLocals, Value.category]; done) | rfl) ?_
  have K := Keep.refl h0 [a, u]
  refine w_aloadN X d4_0 rfl rfl (pc' := 1) rfl ?_
  refine w_getF X (tw21 hw) O.get_count d4_1 (pc' := 4) rfl ?_; intro T X
  refine w_if_ne X d4_4 (by decide) (p1 := 60) (by decide) (p2 := 7) rfl (fun c4 => ?_) (fun c4 => ?_)
  · -- c4 taken
    refine w_aloadN X d4_60 rfl rfl (pc' := 61) rfl ?_
    refine w_getF X (tw30 hw) O.get_first d4_61 (pc' := 64) rfl ?_; intro T X
    refine w_iloadN X d4_64 rfl (pc' := 65) rfl ?_
    refine w_callS X [(.int f), (.int lw)] [] 0 (tw32 hw) (tw33 hw) (tw34 hw) (tw35 hw) (ct_fMin l Z a0 hw f lw h0 n0 X.n0le) d4_65 pd1 rfl (by decide) rfl rfl rfl (by decide) (by decide) (by decide) (by decide) (pc' := 68) rfl ?_
    intro T hz v X hQ
    obtain ⟨rfl, hz1⟩ := hQ; replace hz1 := hz1.symm; subst hz1
    show WP _ _ _ _ _ _ _ _ _ (mkF m 68 #[.val (.ref a), .val (.int lw), .val (.int hi), .unset, .unset, .unset, .unset] [(.int (fMin f lw))])
    refine w_nameI ?_; intro st h_st
    refine w_istoreN X d4_68 (L' := #[.val (.ref a), .val (.int lw), .val (.int hi), .val (.int st), .unset, .unset, .unset]) rfl (pc' := 69) rfl ?_
    refine w_aloadN X d4_69 rfl rfl (pc' := 70) rfl ?_
    refine w_getF X (tw30 hw) O.get_first d4_70 (pc' := 73) rfl ?_; intro T X
    refine w_aloadN X d4_73 rfl rfl (pc' := 74) rfl ?_
    refine w_getF X (tw21 hw) O.get_count d4_74 (pc' := 77) rfl ?_; intro T X
    refine w_iadd X d4_77 (pc' := 78) rfl ?_
    refine w_iloadN X d4_78 rfl (pc' := 79) rfl ?_
    refine w_callS X [(.int (f + cn)), (.int hi)] [] 0 (tw36 hw) (tw37 hw) (tw34 hw) (tw38 hw) (ct_fMax l Z a0 hw (f + cn) hi h0 n0 X.n0le) d4_79 pd1 rfl (by decide) rfl rfl rfl (by decide) (by decide) (by decide) (by decide) (pc' := 82) rfl ?_
    intro T hz v X hQ
    obtain ⟨rfl, hz1⟩ := hQ; replace hz1 := hz1.symm; subst hz1
    show WP _ _ _ _ _ _ _ _ _ (mkF m 82 #[.val (.ref a), .val (.int lw), .val (.int hi), .val (.int st), .unset, .unset, .unset] [(.int (fMax (f + cn) hi))])
    refine w_nameI ?_; intro en h_en
    refine w_istore X d4_82 (L' := #[.val (.ref a), .val (.int lw), .val (.int hi), .val (.int st), .val (.int en), .unset, .unset]) rfl (pc' := 84) rfl ?_
    refine w_aloadN X d4_84 rfl rfl (pc' := 85) rfl ?_
    refine w_getF X (tw30 hw) O.get_first d4_85 (pc' := 88) rfl ?_; intro T X
    refine w_iloadN X d4_88 rfl (pc' := 89) rfl ?_
    refine w_isub X d4_89 (pc' := 90) rfl ?_
    refine w_nameI ?_; intro sh h_sh
    refine w_istore X d4_90 (L' := #[.val (.ref a), .val (.int lw), .val (.int hi), .val (.int st), .val (.int en), .val (.int sh), .unset]) rfl (pc' := 92) rfl ?_
    have hc0 : 0 < cn.toInt := by
      have : ¬ cn.toInt = 0 := fun q => c4 (Int32.toInt_inj.mp q)
      omega
    have hf := hcf hc0
    have hst : st.toInt = if f.toInt < wdI bit then f.toInt else wdI bit := by rw [h_st]; exact mn_ok hl
    have hfc := fc_sum (f := f) (c := cn) (by omega) (by omega)
    have hen : en.toInt = if f.toInt + cn.toInt < wdI bit + 1 then wdI bit + 1 else f.toInt + cn.toInt := by rw [h_en, mx_ok hh, hfc]
    have hb1 : st.toInt ≤ f.toInt ∧ B ≤ st.toInt ∧ st.toInt ≤ wdI bit := by rw [hst]; split <;> omega
    have hb2 : f.toInt + cn.toInt ≤ en.toInt ∧ en.toInt ≤ B + 4 := by rw [hen]; split <;> omega
    have hes := sub_int (x := en) (z := st) (by omega)
    have hsh := sub_int (x := f) (z := st) (by omega)
    rw [← h_sh] at hsh
    have hsc := add_int (x := sh) (z := cn) (by omega)
    obtain ⟨sN, hsN⟩ : ∃ n : Nat, sh.toInt = n := ⟨sh.toInt.toNat, by omega⟩
    obtain ⟨cN, hcN⟩ : ∃ n : Nat, cn.toInt = n := ⟨cn.toInt.toNat, by omega⟩
    obtain ⟨eN, heN⟩ : ∃ n : Nat, (sh + cn).toInt = n := ⟨(sh + cn).toInt.toNat, by omega⟩
    obtain ⟨dN, hdN⟩ : ∃ n : Nat, (en - st).toInt = n := ⟨(en - st).toInt.toNat, by omega⟩
    refine w_iload X d4_92 rfl (pc' := 94) rfl ?_
    refine w_iloadN X d4_94 rfl (pc' := 95) rfl ?_
    refine w_isub X d4_95 (pc' := 96) rfl ?_
    refine w_aloadN X d4_96 rfl rfl (pc' := 97) rfl ?_
    refine w_getF X (tw10 hw) O.get_words d4_97 (pc' := 100) rfl ?_; intro T X
    refine w_arraylength X V d4_100 (z := (16 : Int32)) (by decide) (pc' := 101) rfl ?_
    refine w_icmp_le X d4_101 (by decide) (p1 := 145) (by decide) (p2 := 104) rfl (fun c101 => ?_) (fun c101 => False.elim (absurd c101 (by rw [Int32.lt_iff_toInt_lt, hes, show (16 : Int32).toInt = 16 from rfl]; omega)))
    refine w_iload X d4_145 rfl (pc' := 147) rfl ?_
    refine w_if_le X d4_147 (by decide) (p1 := 179) (by decide) (p2 := 150) rfl (fun c147 => ?_) (fun c147 => ?_)
    · -- c147 taken
      refine w_aloadN X d4_179 rfl rfl (pc' := 180) rfl ?_
      refine w_getF X (tw10 hw) O.get_words d4_180 (pc' := 183) rfl ?_; intro T X
      refine w_iload X d4_183 rfl (pc' := 185) rfl ?_
      refine w_aloadN X d4_185 rfl rfl (pc' := 186) rfl ?_
      refine w_getF X (tw21 hw) O.get_count d4_186 (pc' := 189) rfl ?_; intro T X
      refine w_iadd X d4_189 (pc' := 190) rfl ?_
      refine w_iload X d4_190 rfl (pc' := 192) rfl ?_
      refine w_iloadN X d4_192 rfl (pc' := 193) rfl ?_
      refine w_isub X d4_193 (pc' := 194) rfl ?_
      refine w_lconst X d4_194 (v := (0 : Int64)) (by decide) (pc' := 195) rfl ?_
      refine w_callS X [(.ref u), (.int (sh + cn)), (.int (en - st)), (.long (0 : Int64))] [] 0 (tw23 hw) (tw24 hw) (tw25 hw) (tw26 hw) (ct_fill l Z a0 hw u (sh + cn) (en - st) (0 : Int64) eN dN 16 g h0 n0 X.n0le gu V heN hdN (by omega) (by omega)) d4_195 pd2 rfl (by decide) rfl rfl rfl (by decide) (by decide) (by decide) (by decide) (pc' := 198) rfl ?_
      intro T h1 v X hQ
      obtain ⟨rfl, K2, O3⟩ := hQ
      have O4 := O.keep K2 (ninS hau nin0)
      have K5 := K.trans K2 (by simp)
      show WP _ _ _ _ _ _ _ _ _ (mkF m 198 #[.val (.ref a), .val (.int lw), .val (.int hi), .val (.int st), .val (.int en), .val (.int sh), .unset] [])
      refine w_aloadN X d4_198 rfl rfl (pc' := 199) rfl ?_
      refine w_iloadN X d4_199 rfl (pc' := 200) rfl ?_
      refine w_putF X (tw30 hw) O4.get_first O4.exa (Or.inl (tw31 hw)) (tw1 hw) ga d4_200 (ty := .int) (v' := (.int st)) (by decide) rfl rfl (pc' := 203) rfl ?_; intro T h6 X W7
      have O9 := O4.put_first hw W7
      have K8 := Keep.of_wr W7
      have O10 := O3.keep K8 (ninS (Ne.symm hau) nin0)
      have K11 := K5.wr W7 (Or.inl (by simp))
      show WP _ _ _ _ _ _ _ _ _ (mkF m 203 #[.val (.ref a), .val (.int lw), .val (.int hi), .val (.int st), .val (.int en), .val (.int sh), .unset] [])
      refine w_aloadN X d4_203 rfl rfl (pc' := 204) rfl ?_
      refine w_iload X d4_204 rfl (pc' := 206) rfl ?_
      refine w_iloadN X d4_206 rfl (pc' := 207) rfl ?_
      refine w_isub X d4_207 (pc' := 208) rfl ?_
      refine w_putF X (tw21 hw) O9.get_count O9.exa (Or.inl (tw22 hw)) (tw1 hw) ga d4_208 (ty := .int) (v' := (.int (en - st))) (by decide) rfl rfl (pc' := 211) rfl ?_; intro T h12 X W13
      have O15 := O9.put_count hw W13
      have K14 := Keep.of_wr W13
      have O16 := O10.keep K14 (ninS (Ne.symm hau) nin0)
      have K17 := K11.wr W13 (Or.inl (by simp))
      show WP _ _ _ _ _ _ _ _ _ (mkF m 211 #[.val (.ref a), .val (.int lw), .val (.int hi), .val (.int st), .val (.int en), .val (.int sh), .unset] [])
      refine w_retV X rfl d4_211 (by decide) (by decide) ⟨rfl, st, en - st, _, K17, O15, O16, reach1 hw2 hB hc0 hc4 hf hst hen hes (fun z hz => ?_)⟩
      by_cases q1 : f.toInt - st.toInt ≤ z ∧ (z : Int) < f.toInt - st.toInt + cn.toInt
      · rw [if_pos q1, if_neg (by omega)]
        rw [Int32.lt_iff_toInt_lt, show (0 : Int32).toInt = 0 from rfl] at c147
        congr 1; omega
      · rw [if_neg q1]
        by_cases q2 : eN ≤ z ∧ z < dN
        · rw [if_pos q2]
        · rw [if_neg q2]
          rw [Int32.lt_iff_toInt_lt, show (0 : Int32).toInt = 0 from rfl] at c147
          exfalso; omega
    · -- c147 not taken
      refine w_aloadN X d4_150 rfl rfl (pc' := 151) rfl ?_
      refine w_getF X (tw10 hw) O.get_words d4_151 (pc' := 154) rfl ?_; intro T X
      refine w_iconst X d4_154 (v := (0 : Int32)) (by decide) (pc' := 155) rfl ?_
      refine w_aloadN X d4_155 rfl rfl (pc' := 156) rfl ?_
      refine w_getF X (tw10 hw) O.get_words d4_156 (pc' := 159) rfl ?_; intro T X
      refine w_iload X d4_159 rfl (pc' := 161) rfl ?_
      refine w_aloadN X d4_161 rfl rfl (pc' := 162) rfl ?_
      refine w_getF X (tw21 hw) O.get_count d4_162 (pc' := 165) rfl ?_; intro T X
      refine w_acJ X (i := 0) (j := sN) (q := cN) (tw49 hw) (tw52 hw) (tw50 hw) (tw51 hw) V V (by decide) hsN hcN (by omega) (by omega) gu d4_165 rfl (by decide) rfl (by decide) (pc' := 168) rfl ?_; intro T h18 X K19 O20
      have O21 := O.keep K19 (ninS hau nin0)
      have K22 := K.trans K19 (by simp)
      show WP _ _ _ _ _ _ _ _ _ (mkF m 168 #[.val (.ref a), .val (.int lw), .val (.int hi), .val (.int st), .val (.int en), .val (.int sh), .unset] [])
      refine w_aloadN X d4_168 rfl rfl (pc' := 169) rfl ?_
      refine w_getF X (tw10 hw) O21.get_words d4_169 (pc' := 172) rfl ?_; intro T X
      refine w_iconst X d4_172 (v := (0 : Int32)) (by decide) (pc' := 173) rfl ?_
      refine w_iload X d4_173 rfl (pc' := 175) rfl ?_
      refine w_lconst X d4_175 (v := (0 : Int64)) (by decide) (pc' := 176) rfl ?_
      refine w_callS X [(.ref u), (.int (0 : Int32)), (.int sh), (.long (0 : Int64))] [] 0 (tw23 hw) (tw24 hw) (tw25 hw) (tw26 hw) (ct_fill l Z a0 hw u (0 : Int32) sh (0 : Int64) 0 sN 16 (fun z => if sN ≤ z ∧ z < sN + cN then g (z - sN + 0) else g z) h18 n0 X.n0le gu O20 (by decide) hsN (Nat.zero_le _) (by omega)) d4_176 pd2 rfl (by decide) rfl rfl rfl (by decide) (by decide) (by decide) (by decide) (pc' := 179) rfl ?_
      intro T h23 v X hQ
      obtain ⟨rfl, K24, O25⟩ := hQ
      have O26 := O21.keep K24 (ninS hau nin0)
      have K27 := K22.trans K24 (by simp)
      show WP _ _ _ _ _ _ _ _ _ (mkF m 179 #[.val (.ref a), .val (.int lw), .val (.int hi), .val (.int st), .val (.int en), .val (.int sh), .unset] [])
      refine w_aloadN X d4_179 rfl rfl (pc' := 180) rfl ?_
      refine w_getF X (tw10 hw) O26.get_words d4_180 (pc' := 183) rfl ?_; intro T X
      refine w_iload X d4_183 rfl (pc' := 185) rfl ?_
      refine w_aloadN X d4_185 rfl rfl (pc' := 186) rfl ?_
      refine w_getF X (tw21 hw) O26.get_count d4_186 (pc' := 189) rfl ?_; intro T X
      refine w_iadd X d4_189 (pc' := 190) rfl ?_
      refine w_iload X d4_190 rfl (pc' := 192) rfl ?_
      refine w_iloadN X d4_192 rfl (pc' := 193) rfl ?_
      refine w_isub X d4_193 (pc' := 194) rfl ?_
      refine w_lconst X d4_194 (v := (0 : Int64)) (by decide) (pc' := 195) rfl ?_
      refine w_callS X [(.ref u), (.int (sh + cn)), (.int (en - st)), (.long (0 : Int64))] [] 0 (tw23 hw) (tw24 hw) (tw25 hw) (tw26 hw) (ct_fill l Z a0 hw u (sh + cn) (en - st) (0 : Int64) eN dN 16 (fun z => if 0 ≤ z ∧ z < sN then (0 : Int64) else (fun z => if sN ≤ z ∧ z < sN + cN then g (z - sN + 0) else g z) z) h23 n0 X.n0le gu O25 heN hdN (by omega) (by omega)) d4_195 pd2 rfl (by decide) rfl rfl rfl (by decide) (by decide) (by decide) (by decide) (pc' := 198) rfl ?_
      intro T h28 v X hQ
      obtain ⟨rfl, K29, O30⟩ := hQ
      have O31 := O26.keep K29 (ninS hau nin0)
      have K32 := K27.trans K29 (by simp)
      show WP _ _ _ _ _ _ _ _ _ (mkF m 198 #[.val (.ref a), .val (.int lw), .val (.int hi), .val (.int st), .val (.int en), .val (.int sh), .unset] [])
      refine w_aloadN X d4_198 rfl rfl (pc' := 199) rfl ?_
      refine w_iloadN X d4_199 rfl (pc' := 200) rfl ?_
      refine w_putF X (tw30 hw) O31.get_first O31.exa (Or.inl (tw31 hw)) (tw1 hw) ga d4_200 (ty := .int) (v' := (.int st)) (by decide) rfl rfl (pc' := 203) rfl ?_; intro T h33 X W34
      have O36 := O31.put_first hw W34
      have K35 := Keep.of_wr W34
      have O37 := O30.keep K35 (ninS (Ne.symm hau) nin0)
      have K38 := K32.wr W34 (Or.inl (by simp))
      show WP _ _ _ _ _ _ _ _ _ (mkF m 203 #[.val (.ref a), .val (.int lw), .val (.int hi), .val (.int st), .val (.int en), .val (.int sh), .unset] [])
      refine w_aloadN X d4_203 rfl rfl (pc' := 204) rfl ?_
      refine w_iload X d4_204 rfl (pc' := 206) rfl ?_
      refine w_iloadN X d4_206 rfl (pc' := 207) rfl ?_
      refine w_isub X d4_207 (pc' := 208) rfl ?_
      refine w_putF X (tw21 hw) O36.get_count O36.exa (Or.inl (tw22 hw)) (tw1 hw) ga d4_208 (ty := .int) (v' := (.int (en - st))) (by decide) rfl rfl (pc' := 211) rfl ?_; intro T h39 X W40
      have O42 := O36.put_count hw W40
      have K41 := Keep.of_wr W40
      have O43 := O37.keep K41 (ninS (Ne.symm hau) nin0)
      have K44 := K38.wr W40 (Or.inl (by simp))
      show WP _ _ _ _ _ _ _ _ _ (mkF m 211 #[.val (.ref a), .val (.int lw), .val (.int hi), .val (.int st), .val (.int en), .val (.int sh), .unset] [])
      refine w_retV X rfl d4_211 (by decide) (by decide) ⟨rfl, st, en - st, _, K44, O42, O43, reach1 hw2 hB hc0 hc4 hf hst hen hes (fun z hz => ?_)⟩
      by_cases q1 : f.toInt - st.toInt ≤ z ∧ (z : Int) < f.toInt - st.toInt + cn.toInt
      · rw [if_pos q1, if_neg (by omega)]
        rw [if_neg (by omega)]
        dsimp only
        rw [if_pos (by omega)]
        congr 1; omega
      · rw [if_neg q1]
        by_cases q2 : eN ≤ z ∧ z < dN
        · rw [if_pos q2]
        · rw [if_neg q2]
          rw [if_pos (by omega)]
  · -- c4 not taken
    refine w_aloadN X d4_7 rfl rfl (pc' := 8) rfl ?_
    refine w_getF X (tw10 hw) O.get_words d4_8 (pc' := 11) rfl ?_; intro T X
    refine w_arraylength X V d4_11 (z := (16 : Int32)) (by decide) (pc' := 12) rfl ?_
    refine w_iloadN X d4_12 rfl (pc' := 13) rfl ?_
    refine w_iloadN X d4_13 rfl (pc' := 14) rfl ?_
    refine w_isub X d4_14 (pc' := 15) rfl ?_
    refine w_icmp_ge X d4_15 (by decide) (p1 := 35) (by decide) (p2 := 18) rfl (fun c15 => ?_) (fun c15 => False.elim (absurd c15 (by rw [Int32.lt_iff_toInt_lt, sub_one hl hh]; decide)))
    refine w_aloadN X d4_35 rfl rfl (pc' := 36) rfl ?_
    refine w_getF X (tw10 hw) O.get_words d4_36 (pc' := 39) rfl ?_; intro T X
    refine w_iconst X d4_39 (v := (0 : Int32)) (by decide) (pc' := 40) rfl ?_
    refine w_iloadN X d4_40 rfl (pc' := 41) rfl ?_
    refine w_iloadN X d4_41 rfl (pc' := 42) rfl ?_
    refine w_isub X d4_42 (pc' := 43) rfl ?_
    refine w_lconst X d4_43 (v := (0 : Int64)) (by decide) (pc' := 44) rfl ?_
    refine w_callS X [(.ref u), (.int (0 : Int32)), (.int (hi - lw)), (.long (0 : Int64))] [] 0 (tw23 hw) (tw24 hw) (tw25 hw) (tw26 hw) (ct_fill l Z a0 hw u (0 : Int32) (hi - lw) (0 : Int64) 0 1 16 g h0 n0 X.n0le gu V (by decide) (sub_one hl hh) (by decide) (by decide)) d4_44 pd2 rfl (by decide) rfl rfl rfl (by decide) (by decide) (by decide) (by decide) (pc' := 47) rfl ?_
    intro T h45 v X hQ
    obtain ⟨rfl, K46, O47⟩ := hQ
    have O48 := O.keep K46 (ninS hau nin0)
    have K49 := K.trans K46 (by simp)
    show WP _ _ _ _ _ _ _ _ _ (mkF m 47 #[.val (.ref a), .val (.int lw), .val (.int hi), .unset, .unset, .unset, .unset] [])
    refine w_aloadN X d4_47 rfl rfl (pc' := 48) rfl ?_
    refine w_iloadN X d4_48 rfl (pc' := 49) rfl ?_
    refine w_putF X (tw30 hw) O48.get_first O48.exa (Or.inl (tw31 hw)) (tw1 hw) ga d4_49 (ty := .int) (v' := (.int lw)) (by decide) rfl rfl (pc' := 52) rfl ?_; intro T h50 X W51
    have O53 := O48.put_first hw W51
    have K52 := Keep.of_wr W51
    have O54 := O47.keep K52 (ninS (Ne.symm hau) nin0)
    have K55 := K49.wr W51 (Or.inl (by simp))
    show WP _ _ _ _ _ _ _ _ _ (mkF m 52 #[.val (.ref a), .val (.int lw), .val (.int hi), .unset, .unset, .unset, .unset] [])
    refine w_aloadN X d4_52 rfl rfl (pc' := 53) rfl ?_
    refine w_iloadN X d4_53 rfl (pc' := 54) rfl ?_
    refine w_iloadN X d4_54 rfl (pc' := 55) rfl ?_
    refine w_isub X d4_55 (pc' := 56) rfl ?_
    refine w_putF X (tw21 hw) O53.get_count O53.exa (Or.inl (tw22 hw)) (tw1 hw) ga d4_56 (ty := .int) (v' := (.int (hi - lw))) (by decide) rfl rfl (pc' := 59) rfl ?_; intro T h56 X W57
    have O59 := O53.put_count hw W57
    have K58 := Keep.of_wr W57
    have O60 := O54.keep K58 (ninS (Ne.symm hau) nin0)
    have K61 := K55.wr W57 (Or.inl (by simp))
    show WP _ _ _ _ _ _ _ _ _ (mkF m 59 #[.val (.ref a), .val (.int lw), .val (.int hi), .unset, .unset, .unset, .unset] [])
    exact w_retV X rfl d4_59 (by decide) (by decide) ⟨rfl, lw, hi - lw, _, K61, O59, O60, reach0 hl hh hw2 c4 (sub_one hl hh)⟩
set_option maxRecDepth 65536 in
set_option maxHeartbeats 4000000 in
theorem ct_add (l : Launch) (Z : State) (a0 : Array Value) (hw : ∀ d ∈ tables_1, d.before a0 Z = true) (a u : Addr) (bit f cn : Int32) (B : Int) (g : Nat → Int64) (S : Int32 → Bool) (h0 : Heap) (n0 : Nat) (Z0 : n0 ≤ h0.size) (ga : n0 ≤ a) (gu : n0 ≤ u) (hau : a ≠ u) (O : Su Z h0 a (.ref u) (.int cn) (.int f)) (V : AJ Z h0 u 16 g) (R : RS B f cn g S) (hw2 : B ≤ wdI bit ∧ wdI bit < B + 4) (hB : 0 ≤ B ∧ B + 4 ≤ 67108864) :
    Ct l Z (⟨"com/example/weft/weft/consensus/SpanUnion", "add", "(I)V"⟩ : MethodName) prog_32_method_3_code 3 none ({ frames := 3, cells := 0, slots := 0, locals := 70 } : Room) #[(.ref a), (.int bit)] h0 n0 (fun r h => r = none ∧ ∃ (f' c' : Int32) (g' : Nat → Int64), Keep h0 h [a, u] ∧ Su Z h a (.ref u) (.int c') (.int f') ∧ AJ Z h u 16 g' ∧ RS B f' c' g' (fun t => S t || decide (t = bit))) := by
  refine Ct.intro (plainFor_of_name (by first | (simp [plainName, overriddenIn]; done) | decide +kernel)) Z0 ?_
  intro p e s m below meth c T X
  refine WP.cast (g' := (mkF m 0 #[.val (.ref a), .val (.int bit), .unset] [])) (by first | (simp [entryFrame, mkF, argsToLocals, Value.category]; done) | rfl) ?_
  have K := Keep.refl h0 [a, u]
  refine w_iloadN X d3_0 rfl (pc' := 1) rfl ?_
  refine w_bipush X d3_1 (v := (6 : Int32)) (by decide) (pc' := 3) rfl ?_
  refine w_iushr X d3_3 (pc' := 4) rfl ?_
  refine w_nameI ?_; intro lw h_lw
  refine w_istoreN X d3_4 (L' := #[.val (.ref a), .val (.int bit), .val (.int lw)]) rfl (pc' := 5) rfl ?_
  refine w_aloadN X d3_5 rfl rfl (pc' := 6) rfl ?_
  refine w_iloadN X d3_6 rfl (pc' := 7) rfl ?_
  refine w_iloadN X d3_7 rfl (pc' := 8) rfl ?_
  refine w_iconst X d3_8 (v := (1 : Int32)) (by decide) (pc' := 9) rfl ?_
  refine w_iadd X d3_9 (pc' := 10) rfl ?_
  have hl : lw.toInt = wdI bit := by rw [h_lw]; exact ushr6 bit
  have hwr := wdI_rng bit
  have hh : (lw + (1 : Int32)).toInt = wdI bit + 1 := by rw [add_int (by rw [hl, show (1 : Int32).toInt = 1 from rfl]; omega), hl]; rfl
  refine w_callP X (z0 := (⟨"com/example/weft/weft/consensus/SpanUnion", "add", "(I)V"⟩ : MethodName)) [(.int lw), (.int (lw + (1 : Int32)))] [] 0 (tw17 hw) (tw18 hw) (tw19 hw) (tw15 hw) rfl (tw2 hw) (tw20 hw) O.exa (ct_reach l Z a0 hw a u lw (lw + (1 : Int32)) f cn bit B g h0 n0 X.n0le ga gu hau O V hl hh hw2 hB R.1 R.2.1 R.2.2.2.2.1) d3_10 pd3 rfl (by decide) rfl rfl rfl (by decide) (by decide) (by decide) (by decide) (pc' := 13) rfl ?_
  intro T h1 v X hQ
  obtain ⟨rfl, f2, c2, g2, K2, O2, V2, Q2⟩ := hQ
  have K3 := K.trans K2 (by simp)
  show WP _ _ _ _ _ _ _ _ _ (mkF m 13 #[.val (.ref a), .val (.int bit), .val (.int lw)] [])
  obtain ⟨iN, hiN⟩ : ∃ n : Nat, (n : Int) = wdI bit - f2.toInt := ⟨(wdI bit - f2.toInt).toNat, by have := Q2.2.1; omega⟩
  have hix : (lw - f2).toInt = iN := by rw [sub_int (by have := Q2.1; have := Q2.2.1; omega), hl]; exact hiN.symm
  have hi16 : iN < 16 := by have := Q2.1; have := Q2.2.1; omega
  refine w_aloadN X d3_13 rfl rfl (pc' := 14) rfl ?_
  refine w_getF X (tw10 hw) O2.get_words d3_14 (pc' := 17) rfl ?_; intro T X
  refine w_iloadN X d3_17 rfl (pc' := 18) rfl ?_
  refine w_aloadN X d3_18 rfl rfl (pc' := 19) rfl ?_
  refine w_getF X (tw30 hw) O2.get_first d3_19 (pc' := 22) rfl ?_; intro T X
  refine w_isub X d3_22 (pc' := 23) rfl ?_
  refine w_dup2 X d3_23 (pc' := 24) rfl ?_
  refine w_laload X (i := iN) V2 d3_24 hix hi16 rfl (pc' := 25) rfl ?_
  refine w_lconst X d3_25 (v := (1 : Int64)) (by decide) (pc' := 26) rfl ?_
  refine w_iloadN X d3_26 rfl (pc' := 27) rfl ?_
  refine w_lshl X d3_27 (pc' := 28) rfl ?_
  refine w_lor X d3_28 (pc' := 29) rfl ?_
  refine w_lastore X (i := iN) (x' := ((g2 iN) ||| ((1 : Int64) <<< (bit &&& 0x3f).toInt64))) V2 gu d3_29 hix hi16 rfl (pc' := 30) rfl ?_; intro T h4 X K5 O6
  have O7 := O2.keep K5 (ninS hau nin0)
  have K8 := K3.trans K5 (allS (Or.inl (by simp)) all0)
  exact w_retV X rfl d3_30 (by decide) (by decide) ⟨rfl, f2, c2, _, K8, O7, O6, R.add Q2 hB hiN⟩
set_option maxRecDepth 65536 in
set_option maxHeartbeats 4000000 in
theorem ct_clr (l : Launch) (Z : State) (a0 : Array Value) (hw : ∀ d ∈ tables_1, d.before a0 Z = true) (a u : Addr) (f cn : Int32) (h0 : Heap) (n0 : Nat) (Z0 : n0 ≤ h0.size) (ga : n0 ≤ a) (O : Su Z h0 a (.ref u) (.int cn) (.int f)) :
    Ct l Z (⟨"com/example/weft/weft/consensus/SpanUnion", "clear", "()V"⟩ : MethodName) prog_32_method_2_code 1 none ({ frames := 0, cells := 0, slots := 0, locals := 0 } : Room) #[(.ref a)] h0 n0 (fun r h => r = none ∧ Keep h0 h [a] ∧ Su Z h a (.ref u) (.int 0) (.int f)) := by
  refine Ct.intro (plainFor_of_name (by first | (simp [plainName, overriddenIn]; done) | decide +kernel)) Z0 ?_
  intro p e s m below meth c T X
  refine WP.cast (g' := (mkF m 0 #[.val (.ref a)] [])) (by first | (simp [entryFrame, mkF, argsToLocals, Value.category]; done) | rfl) ?_
  have K := Keep.refl h0 [a]
  refine w_aloadN X d10_0 rfl rfl (pc' := 1) rfl ?_
  refine w_iconst X d10_1 (v := (0 : Int32)) (by decide) (pc' := 2) rfl ?_
  refine w_putF X (tw21 hw) O.get_count O.exa (Or.inl (tw22 hw)) (tw1 hw) ga d10_2 (ty := .int) (v' := (.int (0 : Int32))) (by decide) rfl rfl (pc' := 5) rfl ?_; intro T h1 X W2
  have O4 := O.put_count hw W2
  have K3 := Keep.of_wr W2
  have K5 := K.wr W2 (Or.inl (by simp))
  show WP _ _ _ _ _ _ _ _ _ (mkF m 5 #[.val (.ref a)] [])
  exact w_retV X rfl d10_5 (by decide) (by decide) ⟨rfl, K5, O4⟩
set_option maxRecDepth 65536 in
set_option maxHeartbeats 4000000 in
theorem ct_con (l : Launch) (Z : State) (a0 : Array Value) (hw : ∀ d ∈ tables_1, d.before a0 Z = true) (a u : Addr) (t f cn : Int32) (B : Int) (g : Nat → Int64) (S : Int32 → Bool) (h0 : Heap) (n0 : Nat) (Z0 : n0 ≤ h0.size) (O : Su Z h0 a (.ref u) (.int cn) (.int f)) (V : AJ Z h0 u 16 g) (R : RS B f cn g S) :
    Ct l Z (⟨"com/example/weft/weft/consensus/SpanUnion", "contains", "(I)Z"⟩ : MethodName) prog_32_method_10_code 3 (some .boolean) ({ frames := 0, cells := 0, slots := 0, locals := 0 } : Room) #[(.ref a), (.int t)] h0 n0 (fun r h => r = some (.int (if S t then 1 else 0)) ∧ h = h0) := by
  refine Ct.intro (plainFor_of_name (by first | (simp [plainName, overriddenIn]; done) | decide +kernel)) Z0 ?_
  intro p e s m below meth c T X
  refine WP.cast (g' := (mkF m 0 #[.val (.ref a), .val (.int t), .unset] [])) (by first | (simp [entryFrame, mkF, argsToLocals, Value.category]; done) | rfl) ?_
  refine w_iloadN X d9_0 rfl (pc' := 1) rfl ?_
  refine w_bipush X d9_1 (v := (6 : Int32)) (by decide) (pc' := 3) rfl ?_
  refine w_iushr X d9_3 (pc' := 4) rfl ?_
  refine w_aloadN X d9_4 rfl rfl (pc' := 5) rfl ?_
  refine w_getF X (tw30 hw) O.get_first d9_5 (pc' := 8) rfl ?_; intro T X
  refine w_isub X d9_8 (pc' := 9) rfl ?_
  refine w_nameI ?_; intro wd h_wd
  refine w_istoreN X d9_9 (L' := #[.val (.ref a), .val (.int t), .val (.int wd)]) rfl (pc' := 10) rfl ?_
  refine w_iloadN X d9_10 rfl (pc' := 11) rfl ?_
  refine w_if_lt X d9_11 (by decide) (p1 := 41) (by decide) (p2 := 14) rfl (fun c11 => ?_) (fun c11 => ?_)
  · -- c11 taken
    refine w_iconst X d9_41 (v := (0 : Int32)) (by decide) (pc' := 42) rfl ?_
    exact w_retZ X rfl d9_42 (by decide) (by decide) (by decide) ⟨by rw [← con_ok R h_wd]; simp only [if_pos c11], rfl⟩
  · -- c11 not taken
    refine w_iloadN X d9_14 rfl (pc' := 15) rfl ?_
    refine w_aloadN X d9_15 rfl rfl (pc' := 16) rfl ?_
    refine w_getF X (tw21 hw) O.get_count d9_16 (pc' := 19) rfl ?_; intro T X
    refine w_icmp_ge X d9_19 (by decide) (p1 := 41) (by decide) (p2 := 22) rfl (fun c19 => ?_) (fun c19 => ?_)
    · -- c19 taken
      refine w_iconst X d9_41 (v := (0 : Int32)) (by decide) (pc' := 42) rfl ?_
      exact w_retZ X rfl d9_42 (by decide) (by decide) (by decide) ⟨by rw [← con_ok R h_wd]; simp only [if_neg c11, if_neg c19], rfl⟩
    · -- c19 not taken
      refine w_aloadN X d9_22 rfl rfl (pc' := 23) rfl ?_
      refine w_getF X (tw10 hw) O.get_words d9_23 (pc' := 26) rfl ?_; intro T X
      refine w_iloadN X d9_26 rfl (pc' := 27) rfl ?_
      refine w_laload X (i := wd.toInt.toNat) V d9_27 (at_ok c11) (lt_ok R c11 c19) rfl (pc' := 28) rfl ?_
      refine w_lconst X d9_28 (v := (1 : Int64)) (by decide) (pc' := 29) rfl ?_
      refine w_iloadN X d9_29 rfl (pc' := 30) rfl ?_
      refine w_lshl X d9_30 (pc' := 31) rfl ?_
      refine w_land X d9_31 (pc' := 32) rfl ?_
      refine w_lconst X d9_32 (v := (0 : Int64)) (by decide) (pc' := 33) rfl ?_
      refine w_lcmp_eq X d9_33 (p0 := 34) rfl d9_34 (by decide) (p1 := 41) (by decide) (p2 := 37) rfl (fun c33 => ?_) (fun c33 => ?_)
      · -- c33 taken
        refine w_iconst X d9_41 (v := (0 : Int32)) (by decide) (pc' := 42) rfl ?_
        exact w_retZ X rfl d9_42 (by decide) (by decide) (by decide) ⟨by rw [← con_ok R h_wd]; simp only [if_neg c11, if_pos c19, if_pos c33], rfl⟩
      · -- c33 not taken
        refine w_iconst X d9_37 (v := (1 : Int32)) (by decide) (pc' := 38) rfl ?_
        refine w_goto X d9_38 (by decide) (pc' := 42) (by decide) ?_
        exact w_retZ X rfl d9_42 (by decide) (by decide) (by decide) ⟨by rw [← con_ok R h_wd]; simp only [if_neg c11, if_pos c19, if_neg c33], rfl⟩
set_option maxRecDepth 65536 in
set_option maxHeartbeats 4000000 in
theorem ct_law (l : Launch) (Z : State) (a0 : Array Value) (hw : ∀ d ∈ tables_1, d.before a0 Z = true) (a d e_ q sl fg : Int32) (h0 : Heap) (n0 : Nat) (Z0 : n0 ≤ h0.size) :
    Ct l Z x code maxLocals ret room_1 #[(.int a), (.int d), (.int e_), (.int q), (.int sl), (.int fg)] h0 n0 (fun r _ => r = some (.int 1)) := by
  refine Ct.intro (plainFor_of_name (by first | (simp [plainName, overriddenIn, x]; done) | decide +kernel)) Z0 ?_
  intro p e s m below meth c T X
  refine WP.cast (g' := (mkF m 0 #[.val (.int a), .val (.int d), .val (.int e_), .val (.int q), .val (.int sl), .val (.int fg), .unset, .unset, .unset, .unset, .unset, .unset, .unset, .unset, .unset, .unset, .unset, .unset, .unset, .unset] [])) (by first | (simp [entryFrame, mkF, argsToLocals, Value.category, maxLocals]; done) | rfl) ?_
  refine w_iloadN X at_0 rfl (pc' := 1) rfl ?_
  refine w_iloadN X at_1 rfl (pc' := 2) rfl ?_
  refine w_sipush X at_2 (v := (255 : Int32)) (by decide) (pc' := 5) rfl ?_
  refine w_iand X at_5 (pc' := 6) rfl ?_
  refine w_ixor X at_6 (pc' := 7) rfl ?_
  refine w_nameI ?_; intro b h_b
  refine w_istore X at_7 (L' := #[.val (.int a), .val (.int d), .val (.int e_), .val (.int q), .val (.int sl), .val (.int fg), .val (.int b), .unset, .unset, .unset, .unset, .unset, .unset, .unset, .unset, .unset, .unset, .unset, .unset, .unset]) rfl (pc' := 9) rfl ?_
  refine w_iloadN X at_9 rfl (pc' := 10) rfl ?_
  refine w_iloadN X at_10 rfl (pc' := 11) rfl ?_
  refine w_sipush X at_11 (v := (255 : Int32)) (by decide) (pc' := 14) rfl ?_
  refine w_iand X at_14 (pc' := 15) rfl ?_
  refine w_ixor X at_15 (pc' := 16) rfl ?_
  refine w_nameI ?_; intro k h_k
  refine w_istore X at_16 (L' := #[.val (.int a), .val (.int d), .val (.int e_), .val (.int q), .val (.int sl), .val (.int fg), .val (.int b), .val (.int k), .unset, .unset, .unset, .unset, .unset, .unset, .unset, .unset, .unset, .unset, .unset, .unset]) rfl (pc' := 18) rfl ?_
  have J1 : ∀ T, St p l e room_1 s m #[(.int a), (.int d), (.int e_), (.int q), (.int sl), (.int fg)] below meth c Z n0 x code maxLocals ret T h0 0 0 → ∀ (za : Int32), WP p e below s n0 room_1.cells room_1.slots (fun r _ => r = some (.int 1)) T (mkF m 30 #[.val (.int a), .val (.int d), .val (.int e_), .val (.int q), .val (.int sl), .val (.int fg), .val (.int b), .val (.int k), .unset, .unset, .unset, .unset, .unset, .unset, .unset, .unset, .unset, .unset, .unset, .unset] [(.int za)]) := by
    intro T X za
    refine w_istore X at_30 (L' := #[.val (.int a), .val (.int d), .val (.int e_), .val (.int q), .val (.int sl), .val (.int fg), .val (.int b), .val (.int k), .val (.int za), .unset, .unset, .unset, .unset, .unset, .unset, .unset, .unset, .unset, .unset, .unset]) rfl (pc' := 32) rfl ?_
    have J3 : ∀ T, St p l e room_1 s m #[(.int a), (.int d), (.int e_), (.int q), (.int sl), (.int fg)] below meth c Z n0 x code maxLocals ret T h0 0 0 → ∀ (zb : Int32), WP p e below s n0 room_1.cells room_1.slots (fun r _ => r = some (.int 1)) T (mkF m 44 #[.val (.int a), .val (.int d), .val (.int e_), .val (.int q), .val (.int sl), .val (.int fg), .val (.int b), .val (.int k), .val (.int za), .unset, .unset, .unset, .unset, .unset, .unset, .unset, .unset, .unset, .unset, .unset] [(.int zb)]) := by
      intro T X zb
      refine w_istore X at_44 (L' := #[.val (.int a), .val (.int d), .val (.int e_), .val (.int q), .val (.int sl), .val (.int fg), .val (.int b), .val (.int k), .val (.int za), .val (.int zb), .unset, .unset, .unset, .unset, .unset, .unset, .unset, .unset, .unset, .unset]) rfl (pc' := 46) rfl ?_
      have J5 : ∀ T, St p l e room_1 s m #[(.int a), (.int d), (.int e_), (.int q), (.int sl), (.int fg)] below meth c Z n0 x code maxLocals ret T h0 0 0 → ∀ (zc : Int32), WP p e below s n0 room_1.cells room_1.slots (fun r _ => r = some (.int 1)) T (mkF m 58 #[.val (.int a), .val (.int d), .val (.int e_), .val (.int q), .val (.int sl), .val (.int fg), .val (.int b), .val (.int k), .val (.int za), .val (.int zb), .unset, .unset, .unset, .unset, .unset, .unset, .unset, .unset, .unset, .unset] [(.int zc)]) := by
        intro T X zc
        refine w_istore X at_58 (L' := #[.val (.int a), .val (.int d), .val (.int e_), .val (.int q), .val (.int sl), .val (.int fg), .val (.int b), .val (.int k), .val (.int za), .val (.int zb), .val (.int zc), .unset, .unset, .unset, .unset, .unset, .unset, .unset, .unset, .unset]) rfl (pc' := 60) rfl ?_
        have J7 : ∀ T, St p l e room_1 s m #[(.int a), (.int d), (.int e_), (.int q), (.int sl), (.int fg)] below meth c Z n0 x code maxLocals ret T h0 0 0 → ∀ (zd : Int32), WP p e below s n0 room_1.cells room_1.slots (fun r _ => r = some (.int 1)) T (mkF m 73 #[.val (.int a), .val (.int d), .val (.int e_), .val (.int q), .val (.int sl), .val (.int fg), .val (.int b), .val (.int k), .val (.int za), .val (.int zb), .val (.int zc), .unset, .unset, .unset, .unset, .unset, .unset, .unset, .unset, .unset] [(.int zd)]) := by
          intro T X zd
          refine w_istore X at_73 (L' := #[.val (.int a), .val (.int d), .val (.int e_), .val (.int q), .val (.int sl), .val (.int fg), .val (.int b), .val (.int k), .val (.int za), .val (.int zb), .val (.int zc), .val (.int zd), .unset, .unset, .unset, .unset, .unset, .unset, .unset, .unset]) rfl (pc' := 75) rfl ?_
          have J9 : ∀ T, St p l e room_1 s m #[(.int a), (.int d), (.int e_), (.int q), (.int sl), (.int fg)] below meth c Z n0 x code maxLocals ret T h0 0 0 → ∀ (ze : Int32), WP p e below s n0 room_1.cells room_1.slots (fun r _ => r = some (.int 1)) T (mkF m 88 #[.val (.int a), .val (.int d), .val (.int e_), .val (.int q), .val (.int sl), .val (.int fg), .val (.int b), .val (.int k), .val (.int za), .val (.int zb), .val (.int zc), .val (.int zd), .unset, .unset, .unset, .unset, .unset, .unset, .unset, .unset] [(.int ze)]) := by
            intro T X ze
            refine w_istore X at_88 (L' := #[.val (.int a), .val (.int d), .val (.int e_), .val (.int q), .val (.int sl), .val (.int fg), .val (.int b), .val (.int k), .val (.int za), .val (.int zb), .val (.int zc), .val (.int zd), .val (.int ze), .unset, .unset, .unset, .unset, .unset, .unset, .unset]) rfl (pc' := 90) rfl ?_
            refine w_new X (tw0 hw) (tw1 hw) (tw2 hw) at_90 (by decide) (by decide) (pc' := 93) rfl ?_; intro T h11 b11 X eq11 ga11 E11 A11 D11
            have O12 : Su Z h11 b11 .null (.int (0 : Int32)) (.int (0 : Int32)) := ⟨A11, D11 (Or.inl (tw11 hw)) (ty := (.array .long)) (by decide), D11 (Or.inl (tw22 hw)) (ty := .int) (by decide), D11 (Or.inl (tw31 hw)) (ty := .int) (by decide)⟩
            refine w_dup X at_93 rfl (pc' := 94) rfl ?_
            refine w_callC X [] [(.ref b11)] 1 rfl (tw3 hw) (tw4 hw) (tw2 hw) (tw5 hw) (ct_init l Z a0 hw b11 h11 n0 X.n0le ga11 O12) at_94 pd4 rfl (by decide) rfl rfl rfl (by decide) (by decide) (by decide) (by decide) (pc' := 97) rfl ?_
            intro T h13 v X hQ
            obtain ⟨rfl, ui, K14, Oi, Vi, szi, gi⟩ := hQ
            show WP _ _ _ _ _ _ _ _ _ (mkF m 97 #[.val (.int a), .val (.int d), .val (.int e_), .val (.int q), .val (.int sl), .val (.int fg), .val (.int b), .val (.int k), .val (.int za), .val (.int zb), .val (.int zc), .val (.int zd), .val (.int ze), .unset, .unset, .unset, .unset, .unset, .unset, .unset] [(.ref b11)])
            have ne_i : b11 ≠ ui := Nat.ne_of_lt (Nat.lt_of_lt_of_le O12.lt szi)
            have hB := blk_top a
            have wa := in_block (x := a) rfl
            have wb := in_block (block h_b)
            have wk := in_block (block h_k)
            have RS0 : RS (4 * (a.toBitVec.toNat / 256) : Nat) 0 0 (fun _ => 0) (fun _ => false) := RS.start
            refine w_astore X at_97 (L' := #[.val (.int a), .val (.int d), .val (.int e_), .val (.int q), .val (.int sl), .val (.int fg), .val (.int b), .val (.int k), .val (.int za), .val (.int zb), .val (.int zc), .val (.int zd), .val (.int ze), .val (.ref b11), .unset, .unset, .unset, .unset, .unset, .unset]) rfl rfl (pc' := 99) rfl ?_
            have J15 : ∀ T h16, St p l e room_1 s m #[(.int a), (.int d), (.int e_), (.int q), (.int sl), (.int fg)] below meth c Z n0 x code maxLocals ret T h16 ((0 + 1) + 1) ((0 + 3) + 16) → ∀ (cc1 : Int32), ∀ (ff1 : Int32), ∀ (gg1 : Nat → Int64), Su Z h16 b11 (.ref ui) (.int cc1) (.int ff1) → AJ Z h16 ui 16 gg1 → (RS (4 * (a.toBitVec.toNat / 256) : Nat) ff1 cc1 gg1 (addS (fun _ => false) za a)) → WP p e below s n0 room_1.cells room_1.slots (fun r _ => r = some (.int 1)) T (mkF m 110 #[.val (.int a), .val (.int d), .val (.int e_), .val (.int q), .val (.int sl), .val (.int fg), .val (.int b), .val (.int k), .val (.int za), .val (.int zb), .val (.int zc), .val (.int zd), .val (.int ze), .val (.ref b11), .unset, .unset, .unset, .unset, .unset, .unset] []) := by
              intro T h16 X cc1 ff1 gg1 O17 O18 HS1
              have J19 : ∀ T h20, St p l e room_1 s m #[(.int a), (.int d), (.int e_), (.int q), (.int sl), (.int fg)] below meth c Z n0 x code maxLocals ret T h20 ((0 + 1) + 1) ((0 + 3) + 16) → ∀ (cc2 : Int32), ∀ (ff2 : Int32), ∀ (gg2 : Nat → Int64), Su Z h20 b11 (.ref ui) (.int cc2) (.int ff2) → AJ Z h20 ui 16 gg2 → (RS (4 * (a.toBitVec.toNat / 256) : Nat) ff2 cc2 gg2 (addS (addS (fun _ => false) za a) zb b)) → WP p e below s n0 room_1.cells room_1.slots (fun r _ => r = some (.int 1)) T (mkF m 122 #[.val (.int a), .val (.int d), .val (.int e_), .val (.int q), .val (.int sl), .val (.int fg), .val (.int b), .val (.int k), .val (.int za), .val (.int zb), .val (.int zc), .val (.int zd), .val (.int ze), .val (.ref b11), .unset, .unset, .unset, .unset, .unset, .unset] []) := by
                intro T h20 X cc2 ff2 gg2 O21 O22 HS2
                have J23 : ∀ T h24, St p l e room_1 s m #[(.int a), (.int d), (.int e_), (.int q), (.int sl), (.int fg)] below meth c Z n0 x code maxLocals ret T h24 ((0 + 1) + 1) ((0 + 3) + 16) → ∀ (cc3 : Int32), ∀ (ff3 : Int32), ∀ (gg3 : Nat → Int64), Su Z h24 b11 (.ref ui) (.int cc3) (.int ff3) → AJ Z h24 ui 16 gg3 → (RS (4 * (a.toBitVec.toNat / 256) : Nat) ff3 cc3 gg3 (clrS (addS (addS (fun _ => false) za a) zb b) zc)) → WP p e below s n0 room_1.cells room_1.slots (fun r _ => r = some (.int 1)) T (mkF m 132 #[.val (.int a), .val (.int d), .val (.int e_), .val (.int q), .val (.int sl), .val (.int fg), .val (.int b), .val (.int k), .val (.int za), .val (.int zb), .val (.int zc), .val (.int zd), .val (.int ze), .val (.ref b11), .unset, .unset, .unset, .unset, .unset, .unset] []) := by
                  intro T h24 X cc3 ff3 gg3 O25 O26 HS3
                  have J27 : ∀ T h28, St p l e room_1 s m #[(.int a), (.int d), (.int e_), (.int q), (.int sl), (.int fg)] below meth c Z n0 x code maxLocals ret T h28 ((0 + 1) + 1) ((0 + 3) + 16) → ∀ (cc4 : Int32), ∀ (ff4 : Int32), ∀ (gg4 : Nat → Int64), Su Z h28 b11 (.ref ui) (.int cc4) (.int ff4) → AJ Z h28 ui 16 gg4 → (RS (4 * (a.toBitVec.toNat / 256) : Nat) ff4 cc4 gg4 (addS (clrS (addS (addS (fun _ => false) za a) zb b) zc) zd k)) → WP p e below s n0 room_1.cells room_1.slots (fun r _ => r = some (.int 1)) T (mkF m 144 #[.val (.int a), .val (.int d), .val (.int e_), .val (.int q), .val (.int sl), .val (.int fg), .val (.int b), .val (.int k), .val (.int za), .val (.int zb), .val (.int zc), .val (.int zd), .val (.int ze), .val (.ref b11), .unset, .unset, .unset, .unset, .unset, .unset] []) := by
                    intro T h28 X cc4 ff4 gg4 O29 O30 HS4
                    have J31 : ∀ T h32, St p l e room_1 s m #[(.int a), (.int d), (.int e_), (.int q), (.int sl), (.int fg)] below meth c Z n0 x code maxLocals ret T h32 ((0 + 1) + 1) ((0 + 3) + 16) → ∀ (cc5 : Int32), ∀ (ff5 : Int32), ∀ (gg5 : Nat → Int64), Su Z h32 b11 (.ref ui) (.int cc5) (.int ff5) → AJ Z h32 ui 16 gg5 → (RS (4 * (a.toBitVec.toNat / 256) : Nat) ff5 cc5 gg5 (addS (addS (clrS (addS (addS (fun _ => false) za a) zb b) zc) zd k) ze a)) → WP p e below s n0 room_1.cells room_1.slots (fun r _ => r = some (.int 1)) T (mkF m 155 #[.val (.int a), .val (.int d), .val (.int e_), .val (.int q), .val (.int sl), .val (.int fg), .val (.int b), .val (.int k), .val (.int za), .val (.int zb), .val (.int zc), .val (.int zd), .val (.int ze), .val (.ref b11), .unset, .unset, .unset, .unset, .unset, .unset] []) := by
                      intro T h32 X cc5 ff5 gg5 O33 O34 HS5
                      refine w_iload X at_155 rfl (pc' := 157) rfl ?_
                      refine w_iconst X at_157 (v := (3 : Int32)) (by decide) (pc' := 158) rfl ?_
                      refine w_iand X at_158 (pc' := 159) rfl ?_
                      refine w_nameI ?_; intro sx h_sx
                      refine w_istore X at_159 (L' := #[.val (.int a), .val (.int d), .val (.int e_), .val (.int q), .val (.int sl), .val (.int fg), .val (.int b), .val (.int k), .val (.int za), .val (.int zb), .val (.int zc), .val (.int zd), .val (.int ze), .val (.ref b11), .val (.int sx), .unset, .unset, .unset, .unset, .unset]) rfl (pc' := 161) rfl ?_
                      have J35 : ∀ T, St p l e room_1 s m #[(.int a), (.int d), (.int e_), (.int q), (.int sl), (.int fg)] below meth c Z n0 x code maxLocals ret T h32 ((0 + 1) + 1) ((0 + 3) + 16) → ∀ (t : Int32), WP p e below s n0 room_1.cells room_1.slots (fun r _ => r = some (.int 1)) T (mkF m 207 #[.val (.int a), .val (.int d), .val (.int e_), .val (.int q), .val (.int sl), .val (.int fg), .val (.int b), .val (.int k), .val (.int za), .val (.int zb), .val (.int zc), .val (.int zd), .val (.int ze), .val (.ref b11), .val (.int sx), .val (.int t), .unset, .unset, .unset, .unset] []) := by
                        intro T X t
                        have J37 : ∀ T, St p l e room_1 s m #[(.int a), (.int d), (.int e_), (.int q), (.int sl), (.int fg)] below meth c Z n0 x code maxLocals ret T h32 ((0 + 1) + 1) ((0 + 3) + 16) → ∀ (iA : Int32), (iA = if (¬ za = 0 ∧ zc = 0) ∨ ¬ ze = 0 then 1 else 0) → WP p e below s n0 room_1.cells room_1.slots (fun r _ => r = some (.int 1)) T (mkF m 227 #[.val (.int a), .val (.int d), .val (.int e_), .val (.int q), .val (.int sl), .val (.int fg), .val (.int b), .val (.int k), .val (.int za), .val (.int zb), .val (.int zc), .val (.int zd), .val (.int ze), .val (.ref b11), .val (.int sx), .val (.int t), .unset, .unset, .unset, .unset] [(.int iA)]) := by
                          intro T X iA hA
                          refine w_istore X at_227 (L' := #[.val (.int a), .val (.int d), .val (.int e_), .val (.int q), .val (.int sl), .val (.int fg), .val (.int b), .val (.int k), .val (.int za), .val (.int zb), .val (.int zc), .val (.int zd), .val (.int ze), .val (.ref b11), .val (.int sx), .val (.int t), .val (.int iA), .unset, .unset, .unset]) rfl (pc' := 229) rfl ?_
                          have J38 : ∀ T, St p l e room_1 s m #[(.int a), (.int d), (.int e_), (.int q), (.int sl), (.int fg)] below meth c Z n0 x code maxLocals ret T h32 ((0 + 1) + 1) ((0 + 3) + 16) → ∀ (iB : Int32), (iB = if ¬ zb = 0 ∧ zc = 0 then 1 else 0) → WP p e below s n0 room_1.cells room_1.slots (fun r _ => r = some (.int 1)) T (mkF m 244 #[.val (.int a), .val (.int d), .val (.int e_), .val (.int q), .val (.int sl), .val (.int fg), .val (.int b), .val (.int k), .val (.int za), .val (.int zb), .val (.int zc), .val (.int zd), .val (.int ze), .val (.ref b11), .val (.int sx), .val (.int t), .val (.int iA), .unset, .unset, .unset] [(.int iB)]) := by
                            intro T X iB hB2
                            refine w_istore X at_244 (L' := #[.val (.int a), .val (.int d), .val (.int e_), .val (.int q), .val (.int sl), .val (.int fg), .val (.int b), .val (.int k), .val (.int za), .val (.int zb), .val (.int zc), .val (.int zd), .val (.int ze), .val (.ref b11), .val (.int sx), .val (.int t), .val (.int iA), .val (.int iB), .unset, .unset]) rfl (pc' := 246) rfl ?_
                            refine w_iload X at_246 rfl (pc' := 248) rfl ?_
                            refine w_istore X at_248 (L' := #[.val (.int a), .val (.int d), .val (.int e_), .val (.int q), .val (.int sl), .val (.int fg), .val (.int b), .val (.int k), .val (.int za), .val (.int zb), .val (.int zc), .val (.int zd), .val (.int ze), .val (.ref b11), .val (.int sx), .val (.int t), .val (.int iA), .val (.int iB), .val (.int zd), .unset]) rfl (pc' := 250) rfl ?_
                            have J39 : ∀ T, St p l e room_1 s m #[(.int a), (.int d), (.int e_), (.int q), (.int sl), (.int fg)] below meth c Z n0 x code maxLocals ret T h32 ((0 + 1) + 1) ((0 + 3) + 16) → ∀ (ex : Int32), (ex = if (t = a ∧ ¬ iA = 0) ∨ (t = b ∧ ¬ iB = 0) ∨ (t = k ∧ ¬ zd = 0) then 1 else 0) → WP p e below s n0 room_1.cells room_1.slots (fun r _ => r = some (.int 1)) T (mkF m 290 #[.val (.int a), .val (.int d), .val (.int e_), .val (.int q), .val (.int sl), .val (.int fg), .val (.int b), .val (.int k), .val (.int za), .val (.int zb), .val (.int zc), .val (.int zd), .val (.int ze), .val (.ref b11), .val (.int sx), .val (.int t), .val (.int iA), .val (.int iB), .val (.int zd), .unset] [(.int ex)]) := by
                              intro T X ex hE
                              refine w_istore X at_290 (L' := #[.val (.int a), .val (.int d), .val (.int e_), .val (.int q), .val (.int sl), .val (.int fg), .val (.int b), .val (.int k), .val (.int za), .val (.int zb), .val (.int zc), .val (.int zd), .val (.int ze), .val (.ref b11), .val (.int sx), .val (.int t), .val (.int iA), .val (.int iB), .val (.int zd), .val (.int ex)]) rfl (pc' := 292) rfl ?_
                              refine w_aload X at_292 rfl rfl (pc' := 294) rfl ?_
                              refine w_iload X at_294 rfl (pc' := 296) rfl ?_
                              refine w_callV X [(.int t)] [] 0 (tw39 hw) (tw40 hw) (tw42 hw) (tw41 hw) (tw2 hw) (tw43 hw) O33.exa (ct_con l Z a0 hw b11 ui t ff5 cc5 (4 * (a.toBitVec.toNat / 256) : Nat) gg5 (addS (addS (clrS (addS (addS (fun _ => false) za a) zb b) zc) zd k) ze a) h32 n0 X.n0le O33 O34 HS5) at_296 pd5 rfl (by decide) rfl rfl rfl (by decide) (by decide) (by decide) (by decide) (pc' := 299) rfl ?_
                              intro T hz v X hQ
                              obtain ⟨rfl, hz1⟩ := hQ; replace hz1 := hz1.symm; subst hz1
                              show WP _ _ _ _ _ _ _ _ _ (mkF m 299 #[.val (.int a), .val (.int d), .val (.int e_), .val (.int q), .val (.int sl), .val (.int fg), .val (.int b), .val (.int k), .val (.int za), .val (.int zb), .val (.int zc), .val (.int zd), .val (.int ze), .val (.ref b11), .val (.int sx), .val (.int t), .val (.int iA), .val (.int iB), .val (.int zd), .val (.int ex)] [(.int (if (addS (addS (clrS (addS (addS (fun _ => false) za a) zb b) zc) zd k) ze a) t then 1 else 0))])
                              refine w_iload X at_299 rfl (pc' := 301) rfl ?_
                              refine w_icmp_ne X at_301 (by decide) (p1 := 308) (by decide) (p2 := 304) rfl (fun c301 => False.elim (c301 (fin hA hB2 hE))) (fun c301 => ?_)
                              refine w_iconst X at_304 (v := (1 : Int32)) (by decide) (pc' := 305) rfl ?_
                              refine w_goto X at_305 (by decide) (pc' := 309) (by decide) ?_
                              exact w_retZ X rfl at_309 (by decide) (by decide) (by decide) rfl
                            refine w_iload X at_250 rfl (pc' := 252) rfl ?_
                            refine w_iloadN X at_252 rfl (pc' := 253) rfl ?_
                            refine w_icmp_ne X at_253 (by decide) (p1 := 261) (by decide) (p2 := 256) rfl (fun c253 => ?_) (fun c253 => ?_)
                            · -- c253 taken
                              refine w_iload X at_261 rfl (pc' := 263) rfl ?_
                              refine w_iload X at_263 rfl (pc' := 265) rfl ?_
                              refine w_icmp_ne X at_265 (by decide) (p1 := 273) (by decide) (p2 := 268) rfl (fun c265 => ?_) (fun c265 => ?_)
                              · -- c265 taken
                                refine w_iload X at_273 rfl (pc' := 275) rfl ?_
                                refine w_iload X at_275 rfl (pc' := 277) rfl ?_
                                refine w_icmp_ne X at_277 (by decide) (p1 := 289) (by decide) (p2 := 280) rfl (fun c277 => ?_) (fun c277 => ?_)
                                · -- c277 taken
                                  refine w_iconst X at_289 (v := (0 : Int32)) (by decide) (pc' := 290) rfl ?_
                                  exact J39 T X (0 : Int32) ((if_neg (fun q => q.elim (fun z => c253 z.1) (fun q => q.elim (fun z => c265 z.1) (fun z => c277 z.1)))).symm)
                                · -- c277 not taken
                                  refine w_iload X at_280 rfl (pc' := 282) rfl ?_
                                  refine w_if_eq X at_282 (by decide) (p1 := 289) (by decide) (p2 := 285) rfl (fun c282 => ?_) (fun c282 => ?_)
                                  · -- c282 taken
                                    refine w_iconst X at_289 (v := (0 : Int32)) (by decide) (pc' := 290) rfl ?_
                                    exact J39 T X (0 : Int32) ((if_neg (fun q => q.elim (fun z => c253 z.1) (fun q => q.elim (fun z => c265 z.1) (fun z => z.2 c282)))).symm)
                                  · -- c282 not taken
                                    refine w_iconst X at_285 (v := (1 : Int32)) (by decide) (pc' := 286) rfl ?_
                                    refine w_goto X at_286 (by decide) (pc' := 290) (by decide) ?_
                                    exact J39 T X (1 : Int32) ((if_pos (Or.inr (Or.inr ⟨c277, c282⟩))).symm)
                              · -- c265 not taken
                                refine w_iload X at_268 rfl (pc' := 270) rfl ?_
                                refine w_if_ne X at_270 (by decide) (p1 := 285) (by decide) (p2 := 273) rfl (fun c270 => ?_) (fun c270 => ?_)
                                · -- c270 taken
                                  refine w_iconst X at_285 (v := (1 : Int32)) (by decide) (pc' := 286) rfl ?_
                                  refine w_goto X at_286 (by decide) (pc' := 290) (by decide) ?_
                                  exact J39 T X (1 : Int32) ((if_pos (Or.inr (Or.inl ⟨c265, c270⟩))).symm)
                                · -- c270 not taken
                                  refine w_iload X at_273 rfl (pc' := 275) rfl ?_
                                  refine w_iload X at_275 rfl (pc' := 277) rfl ?_
                                  refine w_icmp_ne X at_277 (by decide) (p1 := 289) (by decide) (p2 := 280) rfl (fun c277 => ?_) (fun c277 => ?_)
                                  · -- c277 taken
                                    refine w_iconst X at_289 (v := (0 : Int32)) (by decide) (pc' := 290) rfl ?_
                                    exact J39 T X (0 : Int32) ((if_neg (fun q => q.elim (fun z => c253 z.1) (fun q => q.elim (fun z => z.2 c270) (fun z => c277 z.1)))).symm)
                                  · -- c277 not taken
                                    refine w_iload X at_280 rfl (pc' := 282) rfl ?_
                                    refine w_if_eq X at_282 (by decide) (p1 := 289) (by decide) (p2 := 285) rfl (fun c282 => ?_) (fun c282 => ?_)
                                    · -- c282 taken
                                      refine w_iconst X at_289 (v := (0 : Int32)) (by decide) (pc' := 290) rfl ?_
                                      exact J39 T X (0 : Int32) ((if_neg (fun q => q.elim (fun z => c253 z.1) (fun q => q.elim (fun z => z.2 c270) (fun z => z.2 c282)))).symm)
                                    · -- c282 not taken
                                      refine w_iconst X at_285 (v := (1 : Int32)) (by decide) (pc' := 286) rfl ?_
                                      refine w_goto X at_286 (by decide) (pc' := 290) (by decide) ?_
                                      exact J39 T X (1 : Int32) ((if_pos (Or.inr (Or.inr ⟨c277, c282⟩))).symm)
                            · -- c253 not taken
                              refine w_iload X at_256 rfl (pc' := 258) rfl ?_
                              refine w_if_ne X at_258 (by decide) (p1 := 285) (by decide) (p2 := 261) rfl (fun c258 => ?_) (fun c258 => ?_)
                              · -- c258 taken
                                refine w_iconst X at_285 (v := (1 : Int32)) (by decide) (pc' := 286) rfl ?_
                                refine w_goto X at_286 (by decide) (pc' := 290) (by decide) ?_
                                exact J39 T X (1 : Int32) ((if_pos (Or.inl ⟨c253, c258⟩)).symm)
                              · -- c258 not taken
                                refine w_iload X at_261 rfl (pc' := 263) rfl ?_
                                refine w_iload X at_263 rfl (pc' := 265) rfl ?_
                                refine w_icmp_ne X at_265 (by decide) (p1 := 273) (by decide) (p2 := 268) rfl (fun c265 => ?_) (fun c265 => ?_)
                                · -- c265 taken
                                  refine w_iload X at_273 rfl (pc' := 275) rfl ?_
                                  refine w_iload X at_275 rfl (pc' := 277) rfl ?_
                                  refine w_icmp_ne X at_277 (by decide) (p1 := 289) (by decide) (p2 := 280) rfl (fun c277 => ?_) (fun c277 => ?_)
                                  · -- c277 taken
                                    refine w_iconst X at_289 (v := (0 : Int32)) (by decide) (pc' := 290) rfl ?_
                                    exact J39 T X (0 : Int32) ((if_neg (fun q => q.elim (fun z => z.2 c258) (fun q => q.elim (fun z => c265 z.1) (fun z => c277 z.1)))).symm)
                                  · -- c277 not taken
                                    refine w_iload X at_280 rfl (pc' := 282) rfl ?_
                                    refine w_if_eq X at_282 (by decide) (p1 := 289) (by decide) (p2 := 285) rfl (fun c282 => ?_) (fun c282 => ?_)
                                    · -- c282 taken
                                      refine w_iconst X at_289 (v := (0 : Int32)) (by decide) (pc' := 290) rfl ?_
                                      exact J39 T X (0 : Int32) ((if_neg (fun q => q.elim (fun z => z.2 c258) (fun q => q.elim (fun z => c265 z.1) (fun z => z.2 c282)))).symm)
                                    · -- c282 not taken
                                      refine w_iconst X at_285 (v := (1 : Int32)) (by decide) (pc' := 286) rfl ?_
                                      refine w_goto X at_286 (by decide) (pc' := 290) (by decide) ?_
                                      exact J39 T X (1 : Int32) ((if_pos (Or.inr (Or.inr ⟨c277, c282⟩))).symm)
                                · -- c265 not taken
                                  refine w_iload X at_268 rfl (pc' := 270) rfl ?_
                                  refine w_if_ne X at_270 (by decide) (p1 := 285) (by decide) (p2 := 273) rfl (fun c270 => ?_) (fun c270 => ?_)
                                  · -- c270 taken
                                    refine w_iconst X at_285 (v := (1 : Int32)) (by decide) (pc' := 286) rfl ?_
                                    refine w_goto X at_286 (by decide) (pc' := 290) (by decide) ?_
                                    exact J39 T X (1 : Int32) ((if_pos (Or.inr (Or.inl ⟨c265, c270⟩))).symm)
                                  · -- c270 not taken
                                    refine w_iload X at_273 rfl (pc' := 275) rfl ?_
                                    refine w_iload X at_275 rfl (pc' := 277) rfl ?_
                                    refine w_icmp_ne X at_277 (by decide) (p1 := 289) (by decide) (p2 := 280) rfl (fun c277 => ?_) (fun c277 => ?_)
                                    · -- c277 taken
                                      refine w_iconst X at_289 (v := (0 : Int32)) (by decide) (pc' := 290) rfl ?_
                                      exact J39 T X (0 : Int32) ((if_neg (fun q => q.elim (fun z => z.2 c258) (fun q => q.elim (fun z => z.2 c270) (fun z => c277 z.1)))).symm)
                                    · -- c277 not taken
                                      refine w_iload X at_280 rfl (pc' := 282) rfl ?_
                                      refine w_if_eq X at_282 (by decide) (p1 := 289) (by decide) (p2 := 285) rfl (fun c282 => ?_) (fun c282 => ?_)
                                      · -- c282 taken
                                        refine w_iconst X at_289 (v := (0 : Int32)) (by decide) (pc' := 290) rfl ?_
                                        exact J39 T X (0 : Int32) ((if_neg (fun q => q.elim (fun z => z.2 c258) (fun q => q.elim (fun z => z.2 c270) (fun z => z.2 c282)))).symm)
                                      · -- c282 not taken
                                        refine w_iconst X at_285 (v := (1 : Int32)) (by decide) (pc' := 286) rfl ?_
                                        refine w_goto X at_286 (by decide) (pc' := 290) (by decide) ?_
                                        exact J39 T X (1 : Int32) ((if_pos (Or.inr (Or.inr ⟨c277, c282⟩))).symm)
                          refine w_iload X at_229 rfl (pc' := 231) rfl ?_
                          refine w_if_eq X at_231 (by decide) (p1 := 243) (by decide) (p2 := 234) rfl (fun c231 => ?_) (fun c231 => ?_)
                          · -- c231 taken
                            refine w_iconst X at_243 (v := (0 : Int32)) (by decide) (pc' := 244) rfl ?_
                            exact J38 T X (0 : Int32) (by simp [c231])
                          · -- c231 not taken
                            refine w_iload X at_234 rfl (pc' := 236) rfl ?_
                            refine w_if_ne X at_236 (by decide) (p1 := 243) (by decide) (p2 := 239) rfl (fun c236 => ?_) (fun c236 => ?_)
                            · -- c236 taken
                              refine w_iconst X at_243 (v := (0 : Int32)) (by decide) (pc' := 244) rfl ?_
                              exact J38 T X (0 : Int32) (by simp [c231, c236])
                            · -- c236 not taken
                              refine w_iconst X at_239 (v := (1 : Int32)) (by decide) (pc' := 240) rfl ?_
                              refine w_goto X at_240 (by decide) (pc' := 244) (by decide) ?_
                              exact J38 T X (1 : Int32) (by simp [c231, c236])
                        refine w_iload X at_207 rfl (pc' := 209) rfl ?_
                        refine w_if_eq X at_209 (by decide) (p1 := 217) (by decide) (p2 := 212) rfl (fun c209 => ?_) (fun c209 => ?_)
                        · -- c209 taken
                          refine w_iload X at_217 rfl (pc' := 219) rfl ?_
                          refine w_if_eq X at_219 (by decide) (p1 := 226) (by decide) (p2 := 222) rfl (fun c219 => ?_) (fun c219 => ?_)
                          · -- c219 taken
                            refine w_iconst X at_226 (v := (0 : Int32)) (by decide) (pc' := 227) rfl ?_
                            exact J37 T X (0 : Int32) (by simp [c209, c219])
                          · -- c219 not taken
                            refine w_iconst X at_222 (v := (1 : Int32)) (by decide) (pc' := 223) rfl ?_
                            refine w_goto X at_223 (by decide) (pc' := 227) (by decide) ?_
                            exact J37 T X (1 : Int32) (by simp [c209, c219])
                        · -- c209 not taken
                          refine w_iload X at_212 rfl (pc' := 214) rfl ?_
                          refine w_if_eq X at_214 (by decide) (p1 := 222) (by decide) (p2 := 217) rfl (fun c214 => ?_) (fun c214 => ?_)
                          · -- c214 taken
                            refine w_iconst X at_222 (v := (1 : Int32)) (by decide) (pc' := 223) rfl ?_
                            refine w_goto X at_223 (by decide) (pc' := 227) (by decide) ?_
                            exact J37 T X (1 : Int32) (by simp [c209, c214])
                          · -- c214 not taken
                            refine w_iload X at_217 rfl (pc' := 219) rfl ?_
                            refine w_if_eq X at_219 (by decide) (p1 := 226) (by decide) (p2 := 222) rfl (fun c219 => ?_) (fun c219 => ?_)
                            · -- c219 taken
                              refine w_iconst X at_226 (v := (0 : Int32)) (by decide) (pc' := 227) rfl ?_
                              exact J37 T X (0 : Int32) (by simp [c209, c214, c219])
                            · -- c219 not taken
                              refine w_iconst X at_222 (v := (1 : Int32)) (by decide) (pc' := 223) rfl ?_
                              refine w_goto X at_223 (by decide) (pc' := 227) (by decide) ?_
                              exact J37 T X (1 : Int32) (by simp [c209, c214, c219])
                      refine w_iload X at_161 rfl (pc' := 163) rfl ?_
                      refine w_if_ne X at_163 (by decide) (p1 := 172) (by decide) (p2 := 166) rfl (fun c163 => ?_) (fun c163 => ?_)
                      · -- c163 taken
                        refine w_iload X at_172 rfl (pc' := 174) rfl ?_
                        refine w_iconst X at_174 (v := (1 : Int32)) (by decide) (pc' := 175) rfl ?_
                        refine w_icmp_ne X at_175 (by decide) (p1 := 190) (by decide) (p2 := 178) rfl (fun c175 => ?_) (fun c175 => ?_)
                        · -- c175 taken
                          refine w_iload X at_190 rfl (pc' := 192) rfl ?_
                          refine w_iconst X at_192 (v := (2 : Int32)) (by decide) (pc' := 193) rfl ?_
                          refine w_icmp_ne X at_193 (by decide) (p1 := 203) (by decide) (p2 := 196) rfl (fun c193 => ?_) (fun c193 => ?_)
                          · -- c193 taken
                            refine w_iload X at_203 rfl (pc' := 205) rfl ?_
                            refine w_istore X at_205 (L' := #[.val (.int a), .val (.int d), .val (.int e_), .val (.int q), .val (.int sl), .val (.int fg), .val (.int b), .val (.int k), .val (.int za), .val (.int zb), .val (.int zc), .val (.int zd), .val (.int ze), .val (.ref b11), .val (.int sx), .val (.int k), .unset, .unset, .unset, .unset]) rfl (pc' := 207) rfl ?_
                            exact J35 T X k
                          · -- c193 not taken
                            refine w_iload X at_196 rfl (pc' := 198) rfl ?_
                            refine w_istore X at_198 (L' := #[.val (.int a), .val (.int d), .val (.int e_), .val (.int q), .val (.int sl), .val (.int fg), .val (.int b), .val (.int k), .val (.int za), .val (.int zb), .val (.int zc), .val (.int zd), .val (.int ze), .val (.ref b11), .val (.int sx), .val (.int b), .unset, .unset, .unset, .unset]) rfl (pc' := 200) rfl ?_
                            refine w_goto X at_200 (by decide) (pc' := 207) (by decide) ?_
                            exact J35 T X b
                        · -- c175 not taken
                          refine w_iloadN X at_178 rfl (pc' := 179) rfl ?_
                          refine w_iloadN X at_179 rfl (pc' := 180) rfl ?_
                          refine w_sipush X at_180 (v := (255 : Int32)) (by decide) (pc' := 183) rfl ?_
                          refine w_iand X at_183 (pc' := 184) rfl ?_
                          refine w_ixor X at_184 (pc' := 185) rfl ?_
                          refine w_istore X at_185 (L' := #[.val (.int a), .val (.int d), .val (.int e_), .val (.int q), .val (.int sl), .val (.int fg), .val (.int b), .val (.int k), .val (.int za), .val (.int zb), .val (.int zc), .val (.int zd), .val (.int ze), .val (.ref b11), .val (.int sx), .val (.int (a ^^^ (q &&& (255 : Int32)))), .unset, .unset, .unset, .unset]) rfl (pc' := 187) rfl ?_
                          refine w_goto X at_187 (by decide) (pc' := 207) (by decide) ?_
                          exact J35 T X (a ^^^ (q &&& (255 : Int32)))
                      · -- c163 not taken
                        refine w_iloadN X at_166 rfl (pc' := 167) rfl ?_
                        refine w_istore X at_167 (L' := #[.val (.int a), .val (.int d), .val (.int e_), .val (.int q), .val (.int sl), .val (.int fg), .val (.int b), .val (.int k), .val (.int za), .val (.int zb), .val (.int zc), .val (.int zd), .val (.int ze), .val (.ref b11), .val (.int sx), .val (.int q), .unset, .unset, .unset, .unset]) rfl (pc' := 169) rfl ?_
                        refine w_goto X at_169 (by decide) (pc' := 207) (by decide) ?_
                        exact J35 T X q
                    refine w_iload X at_144 rfl (pc' := 146) rfl ?_
                    refine w_if_eq X at_146 (by decide) (p1 := 155) (by decide) (p2 := 149) rfl (fun c146 => ?_) (fun c146 => ?_)
                    · -- c146 taken
                      exact J31 T h28 X cc4 ff4 gg4 O29 O30 (HS4.congr (addS_n c146))
                    · -- c146 not taken
                      refine w_aload X at_149 rfl rfl (pc' := 151) rfl ?_
                      refine w_iloadN X at_151 rfl (pc' := 152) rfl ?_
                      refine w_callV X [(.int a)] [] 0 (tw12 hw) (tw13 hw) (tw15 hw) (tw14 hw) (tw2 hw) (tw16 hw) O29.exa (ct_add l Z a0 hw b11 ui a ff4 cc4 (4 * (a.toBitVec.toNat / 256) : Nat) gg4 (addS (clrS (addS (addS (fun _ => false) za a) zb b) zc) zd k) h28 n0 X.n0le ga11 gi ne_i O29 O30 HS4 wa hB) at_152 pd6 rfl (by decide) rfl rfl rfl (by decide) (by decide) (by decide) (by decide) (pc' := 155) rfl ?_
                      intro T h41 v X hQ
                      obtain ⟨rfl, f40, c40, g40, K42, O40, V40, R40⟩ := hQ
                      show WP _ _ _ _ _ _ _ _ _ (mkF m 155 #[.val (.int a), .val (.int d), .val (.int e_), .val (.int q), .val (.int sl), .val (.int fg), .val (.int b), .val (.int k), .val (.int za), .val (.int zb), .val (.int zc), .val (.int zd), .val (.int ze), .val (.ref b11), .unset, .unset, .unset, .unset, .unset, .unset] [])
                      exact J31 T h41 X c40 f40 g40 O40 V40 (R40.congr (addS_y c146))
                  refine w_iload X at_132 rfl (pc' := 134) rfl ?_
                  refine w_if_eq X at_134 (by decide) (p1 := 144) (by decide) (p2 := 137) rfl (fun c134 => ?_) (fun c134 => ?_)
                  · -- c134 taken
                    exact J27 T h24 X cc3 ff3 gg3 O25 O26 (HS3.congr (addS_n c134))
                  · -- c134 not taken
                    refine w_aload X at_137 rfl rfl (pc' := 139) rfl ?_
                    refine w_iload X at_139 rfl (pc' := 141) rfl ?_
                    refine w_callV X [(.int k)] [] 0 (tw12 hw) (tw13 hw) (tw15 hw) (tw14 hw) (tw2 hw) (tw16 hw) O25.exa (ct_add l Z a0 hw b11 ui k ff3 cc3 (4 * (a.toBitVec.toNat / 256) : Nat) gg3 (clrS (addS (addS (fun _ => false) za a) zb b) zc) h24 n0 X.n0le ga11 gi ne_i O25 O26 HS3 wk hB) at_141 pd6 rfl (by decide) rfl rfl rfl (by decide) (by decide) (by decide) (by decide) (pc' := 144) rfl ?_
                    intro T h44 v X hQ
                    obtain ⟨rfl, f43, c43, g43, K45, O43, V43, R43⟩ := hQ
                    show WP _ _ _ _ _ _ _ _ _ (mkF m 144 #[.val (.int a), .val (.int d), .val (.int e_), .val (.int q), .val (.int sl), .val (.int fg), .val (.int b), .val (.int k), .val (.int za), .val (.int zb), .val (.int zc), .val (.int zd), .val (.int ze), .val (.ref b11), .unset, .unset, .unset, .unset, .unset, .unset] [])
                    exact J27 T h44 X c43 f43 g43 O43 V43 (R43.congr (addS_y c134))
                refine w_iload X at_122 rfl (pc' := 124) rfl ?_
                refine w_if_eq X at_124 (by decide) (p1 := 132) (by decide) (p2 := 127) rfl (fun c124 => ?_) (fun c124 => ?_)
                · -- c124 taken
                  exact J23 T h20 X cc2 ff2 gg2 O21 O22 (HS2.congr (clrS_n c124))
                · -- c124 not taken
                  refine w_aload X at_127 rfl rfl (pc' := 129) rfl ?_
                  refine w_callV X [] [] 0 (tw44 hw) (tw45 hw) (tw47 hw) (tw46 hw) (tw2 hw) (tw48 hw) O21.exa (ct_clr l Z a0 hw b11 ui ff2 cc2 h20 n0 X.n0le ga11 O21) at_129 pd4 rfl (by decide) rfl rfl rfl (by decide) (by decide) (by decide) (by decide) (pc' := 132) rfl ?_
                  intro T h47 v X hQ
                  obtain ⟨rfl, K48, O46⟩ := hQ
                  have O49 := O22.keep K48 (ninS (Ne.symm ne_i) nin0)
                  show WP _ _ _ _ _ _ _ _ _ (mkF m 132 #[.val (.int a), .val (.int d), .val (.int e_), .val (.int q), .val (.int sl), .val (.int fg), .val (.int b), .val (.int k), .val (.int za), .val (.int zb), .val (.int zc), .val (.int zd), .val (.int ze), .val (.ref b11), .unset, .unset, .unset, .unset, .unset, .unset] [])
                  have R46 := RS.clear HS2
                  exact J23 T h47 X (0 : Int32) ff2 gg2 O46 O49 (R46.congr (clrS_y c124))
              refine w_iload X at_110 rfl (pc' := 112) rfl ?_
              refine w_if_eq X at_112 (by decide) (p1 := 122) (by decide) (p2 := 115) rfl (fun c112 => ?_) (fun c112 => ?_)
              · -- c112 taken
                exact J19 T h16 X cc1 ff1 gg1 O17 O18 (HS1.congr (addS_n c112))
              · -- c112 not taken
                refine w_aload X at_115 rfl rfl (pc' := 117) rfl ?_
                refine w_iload X at_117 rfl (pc' := 119) rfl ?_
                refine w_callV X [(.int b)] [] 0 (tw12 hw) (tw13 hw) (tw15 hw) (tw14 hw) (tw2 hw) (tw16 hw) O17.exa (ct_add l Z a0 hw b11 ui b ff1 cc1 (4 * (a.toBitVec.toNat / 256) : Nat) gg1 (addS (fun _ => false) za a) h16 n0 X.n0le ga11 gi ne_i O17 O18 HS1 wb hB) at_119 pd6 rfl (by decide) rfl rfl rfl (by decide) (by decide) (by decide) (by decide) (pc' := 122) rfl ?_
                intro T h51 v X hQ
                obtain ⟨rfl, f50, c50, g50, K52, O50, V50, R50⟩ := hQ
                show WP _ _ _ _ _ _ _ _ _ (mkF m 122 #[.val (.int a), .val (.int d), .val (.int e_), .val (.int q), .val (.int sl), .val (.int fg), .val (.int b), .val (.int k), .val (.int za), .val (.int zb), .val (.int zc), .val (.int zd), .val (.int ze), .val (.ref b11), .unset, .unset, .unset, .unset, .unset, .unset] [])
                exact J19 T h51 X c50 f50 g50 O50 V50 (R50.congr (addS_y c112))
            refine w_iload X at_99 rfl (pc' := 101) rfl ?_
            refine w_if_eq X at_101 (by decide) (p1 := 110) (by decide) (p2 := 104) rfl (fun c101 => ?_) (fun c101 => ?_)
            · -- c101 taken
              exact J15 T h13 X (0 : Int32) (0 : Int32) (fun _ => 0) Oi Vi (RS0.congr (addS_n c101))
            · -- c101 not taken
              refine w_aload X at_104 rfl rfl (pc' := 106) rfl ?_
              refine w_iloadN X at_106 rfl (pc' := 107) rfl ?_
              refine w_callV X [(.int a)] [] 0 (tw12 hw) (tw13 hw) (tw15 hw) (tw14 hw) (tw2 hw) (tw16 hw) Oi.exa (ct_add l Z a0 hw b11 ui a (0 : Int32) (0 : Int32) (4 * (a.toBitVec.toNat / 256) : Nat) (fun _ => 0) (fun _ => false) h13 n0 X.n0le ga11 gi ne_i Oi Vi RS0 wa hB) at_107 pd6 rfl (by decide) rfl rfl rfl (by decide) (by decide) (by decide) (by decide) (pc' := 110) rfl ?_
              intro T h54 v X hQ
              obtain ⟨rfl, f53, c53, g53, K55, O53, V53, R53⟩ := hQ
              show WP _ _ _ _ _ _ _ _ _ (mkF m 110 #[.val (.int a), .val (.int d), .val (.int e_), .val (.int q), .val (.int sl), .val (.int fg), .val (.int b), .val (.int k), .val (.int za), .val (.int zb), .val (.int zc), .val (.int zd), .val (.int ze), .val (.ref b11), .unset, .unset, .unset, .unset, .unset, .unset] [])
              exact J15 T h54 X c53 f53 g53 O53 V53 (R53.congr (addS_y c101))
          refine w_iload X at_75 rfl (pc' := 77) rfl ?_
          refine w_bipush X at_77 (v := (16 : Int32)) (by decide) (pc' := 79) rfl ?_
          refine w_iand X at_79 (pc' := 80) rfl ?_
          refine w_if_eq X at_80 (by decide) (p1 := 87) (by decide) (p2 := 83) rfl (fun c80 => ?_) (fun c80 => ?_)
          · -- c80 taken
            refine w_iconst X at_87 (v := (0 : Int32)) (by decide) (pc' := 88) rfl ?_
            exact J9 T X (0 : Int32)
          · -- c80 not taken
            refine w_iconst X at_83 (v := (1 : Int32)) (by decide) (pc' := 84) rfl ?_
            refine w_goto X at_84 (by decide) (pc' := 88) (by decide) ?_
            exact J9 T X (1 : Int32)
        refine w_iload X at_60 rfl (pc' := 62) rfl ?_
        refine w_bipush X at_62 (v := (8 : Int32)) (by decide) (pc' := 64) rfl ?_
        refine w_iand X at_64 (pc' := 65) rfl ?_
        refine w_if_eq X at_65 (by decide) (p1 := 72) (by decide) (p2 := 68) rfl (fun c65 => ?_) (fun c65 => ?_)
        · -- c65 taken
          refine w_iconst X at_72 (v := (0 : Int32)) (by decide) (pc' := 73) rfl ?_
          exact J7 T X (0 : Int32)
        · -- c65 not taken
          refine w_iconst X at_68 (v := (1 : Int32)) (by decide) (pc' := 69) rfl ?_
          refine w_goto X at_69 (by decide) (pc' := 73) (by decide) ?_
          exact J7 T X (1 : Int32)
      refine w_iload X at_46 rfl (pc' := 48) rfl ?_
      refine w_iconst X at_48 (v := (4 : Int32)) (by decide) (pc' := 49) rfl ?_
      refine w_iand X at_49 (pc' := 50) rfl ?_
      refine w_if_eq X at_50 (by decide) (p1 := 57) (by decide) (p2 := 53) rfl (fun c50 => ?_) (fun c50 => ?_)
      · -- c50 taken
        refine w_iconst X at_57 (v := (0 : Int32)) (by decide) (pc' := 58) rfl ?_
        exact J5 T X (0 : Int32)
      · -- c50 not taken
        refine w_iconst X at_53 (v := (1 : Int32)) (by decide) (pc' := 54) rfl ?_
        refine w_goto X at_54 (by decide) (pc' := 58) (by decide) ?_
        exact J5 T X (1 : Int32)
    refine w_iload X at_32 rfl (pc' := 34) rfl ?_
    refine w_iconst X at_34 (v := (2 : Int32)) (by decide) (pc' := 35) rfl ?_
    refine w_iand X at_35 (pc' := 36) rfl ?_
    refine w_if_eq X at_36 (by decide) (p1 := 43) (by decide) (p2 := 39) rfl (fun c36 => ?_) (fun c36 => ?_)
    · -- c36 taken
      refine w_iconst X at_43 (v := (0 : Int32)) (by decide) (pc' := 44) rfl ?_
      exact J3 T X (0 : Int32)
    · -- c36 not taken
      refine w_iconst X at_39 (v := (1 : Int32)) (by decide) (pc' := 40) rfl ?_
      refine w_goto X at_40 (by decide) (pc' := 44) (by decide) ?_
      exact J3 T X (1 : Int32)
  refine w_iload X at_18 rfl (pc' := 20) rfl ?_
  refine w_iconst X at_20 (v := (1 : Int32)) (by decide) (pc' := 21) rfl ?_
  refine w_iand X at_21 (pc' := 22) rfl ?_
  refine w_if_eq X at_22 (by decide) (p1 := 29) (by decide) (p2 := 25) rfl (fun c22 => ?_) (fun c22 => ?_)
  · -- c22 taken
    refine w_iconst X at_29 (v := (0 : Int32)) (by decide) (pc' := 30) rfl ?_
    exact J1 T X (0 : Int32)
  · -- c22 not taken
    refine w_iconst X at_25 (v := (1 : Int32)) (by decide) (pc' := 26) rfl ?_
    refine w_goto X at_26 (by decide) (pc' := 30) (by decide) ?_
    exact J1 T X (1 : Int32)
set_option maxRecDepth 65536 in
set_option maxHeartbeats 4000000 in
theorem comes_1 {Post : Tables → Env → Array Value → State → Outcome → State → Prop} (hpost : ∀ tb e args s v u, (limb_1_1.after args s (.returned v) u = true ∧ limb_1_2.after args s (.returned v) u = true ∧ True) → FrameEnd s (.returned v) u (Jvm.fieldLocs frame_1_writes args s ++ Jvm.arrayLocs frame_1_arrays args s ++ Jvm.staticLocs frame_1_statics s) 16 128 → Post tb e args s (.returned v) u) :
    ArmFor flags0 classFile x code maxLocals ret World_1 tables_1 room_1 Calls_1 rest_1 Pre_1 Post := by
  intro l hfl _ _ p e ha hc hk s m args below hf hA hF happ hP
  obtain ⟨hcalls, hrest, hpre⟩ := hP
  obtain ⟨-, -, -, hnamed, -, -, -, hat⟩ := (Spec.applies_iff hf).mp happ
  obtain ⟨hg, hn⟩ := and_e (Cond.before_iff.mp (show (Jvm.Cond.and given_1 narrow_1).before args s = true from hpre))
  obtain ⟨g1a, g1b⟩ := and_e hg
  obtain ⟨g2a, g2b⟩ := and_e g1b
  obtain ⟨g3a, g3b⟩ := and_e g2b
  obtain ⟨g4a, g4b⟩ := and_e g3b
  obtain ⟨g5a, g5b⟩ := and_e g4b
  obtain ⟨g6a, g6b⟩ := and_e g5b
  obtain ⟨w0, w1, w2, w3, w4, w5, rfl⟩ : ∃ w0 w1 w2 w3 w4 w5 : Value, args = #[w0, w1, w2, w3, w4, w5] := by
    have hs : args.size = 6 := by simpa [Cond.value, given_1] using g1a
    obtain ⟨L⟩ := args
    match L, hs with
    | [w0, w1, w2, w3, w4, w5], _ => exact ⟨w0, w1, w2, w3, w4, w5, rfl⟩
  have hw := fun d (hd : d ∈ tables_1) => atoms_spec (ws := Jvm.Cond.code x code maxLocals ret :: tables_1) hat d (List.mem_cons_of_mem _ hd)
  obtain ⟨i0, ei0⟩ := is_v g2a
  obtain rfl : w0 = (.int i0) := Option.some.inj ei0
  obtain ⟨i1, ei1⟩ := is_v g3a
  obtain rfl : w1 = (.int i1) := Option.some.inj ei1
  obtain ⟨i2, ei2⟩ := is_v g4a
  obtain rfl : w2 = (.int i2) := Option.some.inj ei2
  obtain ⟨i3, ei3⟩ := is_v g5a
  obtain rfl : w3 = (.int i3) := Option.some.inj ei3
  obtain ⟨i4, ei4⟩ := is_v g6a
  obtain rfl : w4 = (.int i4) := Option.some.inj ei4
  obtain ⟨i5, ei5⟩ := is_v g6b
  obtain rfl : w5 = (.int i5) := Option.some.inj ei5
  obtain ⟨n, o, h1, h2, h3, _, L, rfl, ⟨rfl, N⟩, hq⟩ := ct_law l s _ hw i0 i1 i2 i3 i4 i5 s.heap s.heap.size (Nat.le_refl _) tables_1 p e ha hc hk s m _ below hf ((Spec.applies_iff_loose hf).mp happ).1 ⟨rfl, State.Warmed39.refl s, rfl⟩ trivial
  exact ⟨n, _, h1, h2, h3, hpost _ _ _ _ _ _ ⟨Cond.after_iff.mpr rfl, Cond.after_iff.mpr (eq_i res_at (Term.int_eval (1)) rfl), trivial⟩ ⟨hq.1, hq.2.1, (hq.2.2.sift fun y hy => Or.inr (N y hy)).mono (by decide) (by decide)⟩⟩
theorem main_1_1 : Claimed_1_1 := comes_1 fun _ _ _ _ _ _ h hF => ⟨h.1, hF⟩
theorem main_1_2 : Claimed_1_2 := comes_1 fun _ _ _ _ _ _ h hF => ⟨h.2.1, hF⟩
end Jvm.Pilot.@@N@@
namespace Jvm.Pilot.@@N@@
open Jvm Jvm.ClassFile Sem Op Lib Jvm.Free Jvm.Stand Jvm.Pilot.@@N@@.Jvm.D
/-! MADE BY PROGRAM (witnessworld.py) out of the Statement's table words and the real class files: 14 classes; the members and pool entries that the words name. The judged class is class 1, her method 1. -/
namespace start1
open Jvm.ClassFile
def u (s : String) : CpInfo := .utf8 (stringToUtf16 s)
/-- a pool by its gaps: so many unusable entries, then the entry; so many at the end -/
def gap : Nat → List CpInfo → List CpInfo
  | 0, r => r
  | n + 1, r => .unusable :: gap n r
def poolList (es : List (Nat × CpInfo)) (last : Nat) : List CpInfo := es.foldr (fun e r => gap e.1 (e.2 :: r)) (gap last [])
def pool (es : List (Nat × CpInfo)) (last : Nat) : Array CpInfo := ⟨poolList es last⟩
def fileOf (pool : Array CpInfo) (this : Nat) (attrs : Array Attribute := #[]) (ms : Array MethodInfo := #[]) (fl : Nat := 33) (sup : Nat := 0) (ifs : Array Nat := #[]) (fds : Array FieldInfo := #[]) : ClassFile where
  minorVersion := 0
  majorVersion := 65
  constantPool := pool
  accessFlags := fl
  thisClass := this
  superClass := sup
  interfaces := ifs
  fields := fds
  methods := ms
  attributes := attrs
def plain (name : String) (sup : Option ClassId) : Class where
  name := name
  kind := .ordinary
  loader := none
  accessFlags := 33
  super := sup
  interfaces := #[]
  cf := none
  fields := #[]
  methods := #[]
  instanceTypes := #[]
  staticTypes := #[]
  resolved := #[]
  callSites := []
  init := .initialized
  statics := none
  mirror := none

def pool0 : Array CpInfo := pool [(5, u "<init>"), (0, u "()V"), (1, .class_ 10), (1, u "java/lang/Object")] 113

def k0c0 : Code := { maxStack := 0, maxLocals := 1, code := object_method_1_code, exceptionTable := #[], attributes := #[] }
def k0m0 : Method := { name := "<init>", desc := "()V", sig := { parameters := [], returnType := none }, accessFlags := 1, code := some k0c0 }
/-- java/lang/Object -/
def k0 : Class := { plain "java/lang/Object" none with
  accessFlags := 33
  interfaces := #[]
  cf := some (fileOf pool0 8 #[] #[{ accessFlags := 1, nameIndex := 5, descriptorIndex := 6, attributes := #[] }] 33 0 #[] #[])
  fields := #[]
  methods := #[k0m0]
  instanceTypes := #[]
  staticTypes := #[]
  resolved := Array.replicate 124 none
  statics := none }

def pool1 : Array CpInfo := pool [(2, .class_ 4), (0, .nameAndType 5 6), (0, u "java/lang/Object"), (0, u "<init>"), (0, u "()V"), (0, .class_ 8), (0, u "com/example/weft/weft/consensus/SpanUnion"), (0, .methodref 7 3), (0, .methodref 7 11), (0, .nameAndType 12 13), (0, u "add"), (0, u "(I)V"), (0, .methodref 7 15), (0, .nameAndType 16 6), (0, u "clear"), (0, .methodref 7 18), (0, .nameAndType 19 20), (0, u "contains"), (0, u "(I)Z"), (0, .class_ 22), (0, u "com/example/weft/weft/consensus/SpanUnionContainsPinLaw"), (2, u "law"), (0, u "(IIIIII)Z")] 3

def k1m0 : Method := { name := "<init>", desc := "()V", sig := { parameters := [], returnType := none }, accessFlags := 1, code := none }
def k1c1 : Code := { maxStack := 3, maxLocals := 20, code := code, exceptionTable := #[], attributes := #[] }
def k1m1 : Method := { name := "law", desc := "(IIIIII)Z", sig := { parameters := [.int, .int, .int, .int, .int, .int], returnType := some .boolean }, accessFlags := 9, code := some k1c1 }
/-- com/example/weft/weft/consensus/SpanUnionContainsPinLaw -/
def k1 : Class := { plain "com/example/weft/weft/consensus/SpanUnionContainsPinLaw" (some 0) with
  accessFlags := 49
  interfaces := #[]
  cf := some (fileOf pool1 21 #[] #[{ accessFlags := 1, nameIndex := 5, descriptorIndex := 6, attributes := #[] }, { accessFlags := 9, nameIndex := 25, descriptorIndex := 26, attributes := #[] }] 49 2 #[] #[])
  fields := #[]
  methods := #[k1m0, k1m1]
  instanceTypes := #[]
  staticTypes := #[]
  resolved := Array.replicate 30 none
  statics := none }

def pool2 : Array CpInfo := pool [(1, .methodref 2 3), (0, .class_ 4), (0, .nameAndType 5 6), (0, u "java/lang/Object"), (0, u "<init>"), (0, u "()V"), (0, .fieldref 8 9), (0, .class_ 10), (0, .nameAndType 11 12), (0, u "com/example/weft/weft/consensus/SpanUnion"), (0, u "words"), (0, u "[J"), (0, .fieldref 8 14), (0, .nameAndType 15 16), (0, u "count"), (0, u "I"), (0, .methodref 8 18), (0, .nameAndType 19 20), (0, u "reach"), (0, u "(II)V"), (0, .fieldref 8 22), (0, .nameAndType 23 16), (0, u "first"), (19, u "add"), (9, .class_ 55), (1, u "java/util/Arrays"), (10, u "(II)I"), (0, .methodref 53 68), (0, .nameAndType 69 70), (0, u "fill"), (0, u "([JIIJ)V"), (0, .methodref 72 73), (0, .class_ 74), (0, .nameAndType 75 66), (0, u "java/lang/Math"), (0, u "min"), (0, .methodref 72 77), (0, .nameAndType 78 66), (0, u "max"), (0, .methodref 80 81), (0, .class_ 82), (0, .nameAndType 83 84), (0, u "java/lang/System"), (0, u "arraycopy"), (0, u "(Ljava/lang/Object;ILjava/lang/Object;II)V"), (2, u "clear"), (0, u "(I)V"), (3, u "contains"), (0, u "(I)Z")] 6

def k2c0 : Code := { maxStack := 2, maxLocals := 1, code := prog_32_method_1_code, exceptionTable := #[], attributes := #[] }
def k2m0 : Method := { name := "<init>", desc := "()V", sig := { parameters := [], returnType := none }, accessFlags := 0, code := some k2c0 }
def k2c1 : Code := { maxStack := 2, maxLocals := 1, code := prog_32_method_2_code, exceptionTable := #[], attributes := #[] }
def k2m1 : Method := { name := "clear", desc := "()V", sig := { parameters := [], returnType := none }, accessFlags := 0, code := some k2c1 }
def k2c2 : Code := { maxStack := 7, maxLocals := 3, code := prog_32_method_3_code, exceptionTable := #[], attributes := #[] }
def k2m2 : Method := { name := "add", desc := "(I)V", sig := { parameters := [.int], returnType := none }, accessFlags := 0, code := some k2c2 }
def k2c3 : Code := { maxStack := 5, maxLocals := 3, code := prog_32_method_10_code, exceptionTable := #[], attributes := #[] }
def k2m3 : Method := { name := "contains", desc := "(I)Z", sig := { parameters := [.int], returnType := some .boolean }, accessFlags := 0, code := some k2c3 }
def k2c4 : Code := { maxStack := 5, maxLocals := 7, code := prog_32_method_13_code, exceptionTable := #[], attributes := #[] }
def k2m4 : Method := { name := "reach", desc := "(II)V", sig := { parameters := [.int, .int], returnType := none }, accessFlags := 2, code := some k2c4 }
/-- com/example/weft/weft/consensus/SpanUnion -/
def k2 : Class := { plain "com/example/weft/weft/consensus/SpanUnion" (some 0) with
  accessFlags := 48
  interfaces := #[]
  cf := some (fileOf pool2 8 #[] #[{ accessFlags := 0, nameIndex := 5, descriptorIndex := 6, attributes := #[] }, { accessFlags := 0, nameIndex := 87, descriptorIndex := 6, attributes := #[] }, { accessFlags := 0, nameIndex := 43, descriptorIndex := 88, attributes := #[] }, { accessFlags := 0, nameIndex := 92, descriptorIndex := 93, attributes := #[] }, { accessFlags := 2, nameIndex := 19, descriptorIndex := 20, attributes := #[] }] 48 2 #[] #[{ accessFlags := 2, nameIndex := 11, descriptorIndex := 12, attributes := #[] }, { accessFlags := 2, nameIndex := 23, descriptorIndex := 16, attributes := #[] }, { accessFlags := 2, nameIndex := 15, descriptorIndex := 16, attributes := #[] }])
  fields := #[{ name := "words", type := (.array .long), accessFlags := 2, slot := 0, constantValue := 0 }, { name := "first", type := .int, accessFlags := 2, slot := 1, constantValue := 0 }, { name := "count", type := .int, accessFlags := 2, slot := 2, constantValue := 0 }]
  methods := #[k2m0, k2m1, k2m2, k2m3, k2m4]
  instanceTypes := #[(.array .long), .int, .int]
  staticTypes := #[]
  resolved := Array.replicate 100 none
  statics := none }

def pool3 : Array CpInfo := pool [(2, .class_ 4), (1, u "java/lang/Object"), (0, u "<init>"), (0, u "()V"), (6, .methodref 14 15), (0, .class_ 16), (0, .nameAndType 17 18), (0, u "java/util/Arrays"), (0, u "rangeCheck"), (0, u "(III)V"), (55, .class_ 76), (1, u "java/util/Arrays$NaturalOrder"), (36, .class_ 115), (1, u "java/util/Arrays$LegacyMergeSort"), (1, u "Z"), (257, .class_ 376), (0, u "java/util/Arrays$ArrayList"), (68, u "$assertionsDisabled"), (269, u "MIN_ARRAY_SORT_GRAN"), (0, u "I"), (2, u "INSERTIONSORT_THRESHOLD"), (120, u "fill"), (3, u "([JIIJ)V"), (130, .class_ 976), (0, u "java/util/Arrays$ArrayItr")] 52

def k3m0 : Method := { name := "<init>", desc := "()V", sig := { parameters := [], returnType := none }, accessFlags := 2, code := none }
def k3c1 : Code := { maxStack := 4, maxLocals := 3, code := jdk_65_method_30_code, exceptionTable := #[], attributes := #[] }
def k3m1 : Method := { name := "rangeCheck", desc := "(III)V", sig := { parameters := [.int, .int, .int], returnType := none }, accessFlags := 8, code := some k3c1 }
def k3c2 : Code := { maxStack := 4, maxLocals := 6, code := jdk_65_method_102_code, exceptionTable := #[], attributes := #[] }
def k3m2 : Method := { name := "fill", desc := "([JIIJ)V", sig := { parameters := [(.array .long), .int, .int, .long], returnType := none }, accessFlags := 9, code := some k3c2 }
/-- java/util/Arrays -/
def k3 : Class := { plain "java/util/Arrays" (some 0) with
  accessFlags := 49
  interfaces := #[]
  cf := some (fileOf pool3 14 #[.nestMembers #[975, 375, 113, 74]] #[{ accessFlags := 2, nameIndex := 5, descriptorIndex := 6, attributes := #[] }, { accessFlags := 8, nameIndex := 17, descriptorIndex := 18, attributes := #[] }, { accessFlags := 9, nameIndex := 840, descriptorIndex := 844, attributes := #[] }] 49 2 #[] #[{ accessFlags := 26, nameIndex := 715, descriptorIndex := 716, attributes := #[] }, { accessFlags := 26, nameIndex := 719, descriptorIndex := 716, attributes := #[] }, { accessFlags := 4120, nameIndex := 445, descriptorIndex := 117, attributes := #[] }])
  fields := #[{ name := "MIN_ARRAY_SORT_GRAN", type := .int, accessFlags := 26, slot := 0, constantValue := 0 }, { name := "INSERTIONSORT_THRESHOLD", type := .int, accessFlags := 26, slot := 1, constantValue := 0 }, { name := "$assertionsDisabled", type := .boolean, accessFlags := 4120, slot := 2, constantValue := 0 }]
  methods := #[k3m0, k3m1, k3m2]
  instanceTypes := #[]
  staticTypes := #[.int, .int, .boolean]
  resolved := Array.replicate 1029 none
  statics := none }

def pool4 : Array CpInfo := pool [(1, .class_ 2), (0, u "java/lang/Math"), (1, .class_ 6), (1, u "java/lang/Object"), (0, u "<init>"), (0, u "()V"), (89, .class_ 100), (1, u "java/lang/Math$RandomNumberGeneratorHolder"), (71, u "negativeZeroFloatBits"), (0, u "J"), (2, u "negativeZeroDoubleBits"), (21, u "max"), (2, u "min"), (43, u "$assertionsDisabled"), (0, u "Z"), (88, u "(II)I"), (2, u "twoToTheDoubleScaleDown"), (0, u "D"), (4, u "twoToTheDoubleScaleUp"), (9, u "E"), (3, u "PI"), (2, u "TAU"), (2, u "DEGREES_TO_RADIANS"), (0, u "RADIANS_TO_DEGREES")] 94

def k4m0 : Method := { name := "<init>", desc := "()V", sig := { parameters := [], returnType := none }, accessFlags := 2, code := none }
def k4c1 : Code := { maxStack := 2, maxLocals := 2, code := jdk_29_method_65_code, exceptionTable := #[], attributes := #[] }
def k4m1 : Method := { name := "max", desc := "(II)I", sig := { parameters := [.int, .int], returnType := some .int }, accessFlags := 9, code := some k4c1 }
def k4c2 : Code := { maxStack := 2, maxLocals := 2, code := jdk_29_method_69_code, exceptionTable := #[], attributes := #[] }
def k4m2 : Method := { name := "min", desc := "(II)I", sig := { parameters := [.int, .int], returnType := some .int }, accessFlags := 9, code := some k4c2 }
/-- java/lang/Math -/
def k4 : Class := { plain "java/lang/Math" (some 0) with
  accessFlags := 49
  interfaces := #[]
  cf := some (fileOf pool4 1 #[.nestMembers #[98]] #[{ accessFlags := 2, nameIndex := 7, descriptorIndex := 8, attributes := #[] }, { accessFlags := 9, nameIndex := 198, descriptorIndex := 335, attributes := #[] }, { accessFlags := 9, nameIndex := 201, descriptorIndex := 335, attributes := #[] }] 49 4 #[] #[{ accessFlags := 25, nameIndex := 354, descriptorIndex := 339, attributes := #[] }, { accessFlags := 25, nameIndex := 358, descriptorIndex := 339, attributes := #[] }, { accessFlags := 25, nameIndex := 361, descriptorIndex := 339, attributes := #[] }, { accessFlags := 26, nameIndex := 364, descriptorIndex := 339, attributes := #[] }, { accessFlags := 26, nameIndex := 365, descriptorIndex := 339, attributes := #[] }, { accessFlags := 26, nameIndex := 172, descriptorIndex := 173, attributes := #[] }, { accessFlags := 26, nameIndex := 176, descriptorIndex := 173, attributes := #[] }, { accessFlags := 8, nameIndex := 344, descriptorIndex := 339, attributes := #[] }, { accessFlags := 8, nameIndex := 338, descriptorIndex := 339, attributes := #[] }, { accessFlags := 4120, nameIndex := 245, descriptorIndex := 246, attributes := #[] }])
  fields := #[{ name := "E", type := .double, accessFlags := 25, slot := 0, constantValue := 0 }, { name := "PI", type := .double, accessFlags := 25, slot := 1, constantValue := 0 }, { name := "TAU", type := .double, accessFlags := 25, slot := 2, constantValue := 0 }, { name := "DEGREES_TO_RADIANS", type := .double, accessFlags := 26, slot := 3, constantValue := 0 }, { name := "RADIANS_TO_DEGREES", type := .double, accessFlags := 26, slot := 4, constantValue := 0 }, { name := "negativeZeroFloatBits", type := .long, accessFlags := 26, slot := 5, constantValue := 0 }, { name := "negativeZeroDoubleBits", type := .long, accessFlags := 26, slot := 6, constantValue := 0 }, { name := "twoToTheDoubleScaleUp", type := .double, accessFlags := 8, slot := 7, constantValue := 0 }, { name := "twoToTheDoubleScaleDown", type := .double, accessFlags := 8, slot := 8, constantValue := 0 }, { name := "$assertionsDisabled", type := .boolean, accessFlags := 4120, slot := 9, constantValue := 0 }]
  methods := #[k4m0, k4m1, k4m2]
  instanceTypes := #[]
  staticTypes := #[.double, .double, .double, .double, .double, .long, .long, .double, .double, .boolean]
  resolved := Array.replicate 460 none
  statics := none }

def pool5 : Array CpInfo := pool [(2, .class_ 4), (1, u "java/lang/Object"), (0, u "<init>"), (0, u "()V"), (1, .class_ 10), (1, u "java/lang/System"), (0, u "allowSecurityManager"), (0, u "I"), (16, u "cons"), (0, u "Ljava/io/Console;"), (77, .class_ 110), (1, u "java/lang/System$CallersHolder"), (43, u "initialErrStream"), (0, u "Ljava/io/PrintStream;"), (19, u "security"), (0, u "Ljava/lang/SecurityManager;"), (31, .class_ 209), (0, u "java/lang/System$1"), (7, u "props"), (0, u "Ljava/util/Properties;"), (2, u "lineSeparator"), (0, u "Ljava/lang/String;"), (96, .class_ 321), (1, u "java/lang/System$LoggerFinder"), (5, .class_ 328), (0, u "java/lang/System$Logger"), (67, u "err"), (2, u "out"), (91, u "notSupportedJnuEncoding"), (15, u "in"), (17, u "initialIn"), (0, u "Ljava/io/InputStream;"), (35, u "bootLayer"), (0, u "Ljava/lang/ModuleLayer;"), (99, .class_ 664), (0, u "java/lang/System$2"), (9, u "NEVER"), (2, u "MAYBE"), (49, u "arraycopy"), (0, u "(Ljava/lang/Object;ILjava/lang/Object;II)V"), (72, .class_ 802), (0, u "java/lang/System$Logger$Level")] 31

def k5m0 : Method := { name := "<init>", desc := "()V", sig := { parameters := [], returnType := none }, accessFlags := 2, code := none }
def k5m1 : Method := { name := "arraycopy", desc := "(Ljava/lang/Object;ILjava/lang/Object;II)V", sig := { parameters := [(.object "java/lang/Object"), .int, (.object "java/lang/Object"), .int, .int], returnType := none }, accessFlags := 265, code := none }
/-- java/lang/System -/
def k5 : Class := { plain "java/lang/System" (some 0) with
  accessFlags := 49
  interfaces := #[]
  cf := some (fileOf pool5 8 #[.nestMembers #[319, 327, 801, 108, 663, 208]] #[{ accessFlags := 2, nameIndex := 5, descriptorIndex := 6, attributes := #[] }, { accessFlags := 265, nameIndex := 727, descriptorIndex := 728, attributes := #[] }] 49 2 #[] #[{ accessFlags := 25, nameIndex := 507, descriptorIndex := 526, attributes := #[] }, { accessFlags := 25, nameIndex := 399, descriptorIndex := 155, attributes := #[] }, { accessFlags := 25, nameIndex := 396, descriptorIndex := 155, attributes := #[] }, { accessFlags := 10, nameIndex := 525, descriptorIndex := 526, attributes := #[] }, { accessFlags := 26, nameIndex := 674, descriptorIndex := 12, attributes := #[] }, { accessFlags := 26, nameIndex := 677, descriptorIndex := 12, attributes := #[] }, { accessFlags := 10, nameIndex := 11, descriptorIndex := 12, attributes := #[] }, { accessFlags := 74, nameIndex := 175, descriptorIndex := 176, attributes := #[] }, { accessFlags := 10, nameIndex := 491, descriptorIndex := 222, attributes := #[] }, { accessFlags := 74, nameIndex := 29, descriptorIndex := 30, attributes := #[] }, { accessFlags := 74, nameIndex := 154, descriptorIndex := 155, attributes := #[] }, { accessFlags := 10, nameIndex := 217, descriptorIndex := 218, attributes := #[] }, { accessFlags := 10, nameIndex := 221, descriptorIndex := 222, attributes := #[] }, { accessFlags := 8, nameIndex := 562, descriptorIndex := 563, attributes := #[] }])
  fields := #[{ name := "in", type := (.object "java/io/InputStream"), accessFlags := 25, slot := 0, constantValue := 0 }, { name := "out", type := (.object "java/io/PrintStream"), accessFlags := 25, slot := 1, constantValue := 0 }, { name := "err", type := (.object "java/io/PrintStream"), accessFlags := 25, slot := 2, constantValue := 0 }, { name := "initialIn", type := (.object "java/io/InputStream"), accessFlags := 10, slot := 3, constantValue := 0 }, { name := "NEVER", type := .int, accessFlags := 26, slot := 4, constantValue := 0 }, { name := "MAYBE", type := .int, accessFlags := 26, slot := 5, constantValue := 0 }, { name := "allowSecurityManager", type := .int, accessFlags := 10, slot := 6, constantValue := 0 }, { name := "security", type := (.object "java/lang/SecurityManager"), accessFlags := 74, slot := 7, constantValue := 0 }, { name := "notSupportedJnuEncoding", type := (.object "java/lang/String"), accessFlags := 10, slot := 8, constantValue := 0 }, { name := "cons", type := (.object "java/io/Console"), accessFlags := 74, slot := 9, constantValue := 0 }, { name := "initialErrStream", type := (.object "java/io/PrintStream"), accessFlags := 74, slot := 10, constantValue := 0 }, { name := "props", type := (.object "java/util/Properties"), accessFlags := 10, slot := 11, constantValue := 0 }, { name := "lineSeparator", type := (.object "java/lang/String"), accessFlags := 10, slot := 12, constantValue := 0 }, { name := "bootLayer", type := (.object "java/lang/ModuleLayer"), accessFlags := 8, slot := 13, constantValue := 0 }]
  methods := #[k5m0, k5m1]
  instanceTypes := #[]
  staticTypes := #[(.object "java/io/InputStream"), (.object "java/io/PrintStream"), (.object "java/io/PrintStream"), (.object "java/io/InputStream"), .int, .int, .int, (.object "java/lang/SecurityManager"), (.object "java/lang/String"), (.object "java/io/Console"), (.object "java/io/PrintStream"), (.object "java/util/Properties"), (.object "java/lang/String"), (.object "java/lang/ModuleLayer")]
  resolved := Array.replicate 834 none
  statics := none }

def pool6 : Array CpInfo := pool [(1, u "java/lang/Cloneable"), (0, .class_ 1), (0, u "java/lang/Object"), (0, .class_ 3)] 3

/-- java/lang/Cloneable -/
def k6 : Class := { plain "java/lang/Cloneable" (some 0) with
  accessFlags := 1537
  interfaces := #[]
  cf := some (fileOf pool6 2 #[] #[] 1537 4 #[] #[])
  fields := #[]
  methods := #[]
  instanceTypes := #[]
  staticTypes := #[]
  resolved := Array.replicate 8 none
  statics := none }

def pool7 : Array CpInfo := pool [(1, u "java/io/Serializable"), (0, .class_ 1), (0, u "java/lang/Object"), (0, .class_ 3)] 3

/-- java/io/Serializable -/
def k7 : Class := { plain "java/io/Serializable" (some 0) with
  accessFlags := 1537
  interfaces := #[]
  cf := some (fileOf pool7 2 #[] #[] 1537 4 #[] #[])
  fields := #[]
  methods := #[]
  instanceTypes := #[]
  staticTypes := #[]
  resolved := Array.replicate 8 none
  statics := none }

/-- the primitive byte -/
def k8 : Class := { plain "byte" none with kind := .primitive 'B', accessFlags := 0x411 }
/-- [B -/
def k9 : Class := { plain "[B" (some 0) with kind := .array 8 .byte, interfaces := #[6, 7], accessFlags := 1041 }

/-- the primitive int -/
def k10 : Class := { plain "int" none with kind := .primitive 'I', accessFlags := 0x411 }
/-- [I -/
def k11 : Class := { plain "[I" (some 0) with kind := .array 10 .int, interfaces := #[6, 7], accessFlags := 1041 }

/-- the primitive long -/
def k12 : Class := { plain "long" none with kind := .primitive 'J', accessFlags := 0x411 }
/-- [J -/
def k13 : Class := { plain "[J" (some 0) with kind := .array 12 .long, interfaces := #[6, 7], accessFlags := 1041 }

def heap : Heap := #[]
def classes : Array Class := #[k0, k1, k2, k3, k4, k5, k6, k7, k8, k9, k10, k11, k12, k13]
def interned : List (Array UInt16 × Addr) := []
def slotsUsed : Nat := 0
def theMethod : MethodId := ⟨1, 1⟩
def args0 : Array Value := #[.int 5, .int 700, .int 9, .int 3, .int 1, .int 31]
def aboutOver (below : List Frame) : State where
  vm := { classes := classes, interned := interned.toArray }
  heap := heap
  slotsUsed := slotsUsed
  threads := #[{ frames := .invoking theMethod args0 :: below }]
def below0 : List Frame := [.native { method := ⟨0, 0⟩, args := #[] }]
def about1 : State := aboutOver below0
def p0 : Program := .bare "" "" ""
def e0 : Env := launch0.env 0 0 0
theorem w_frames : about1.frames = Frame.invoking theMethod args0 :: below0 := rfl
set_option maxRecDepth 65536 in
theorem w_args : argsFit about1.vm theMethod args0 = true := by decide +kernel
set_option maxRecDepth 65536 in
theorem w_heap : heapFits about1 = true := by decide +kernel
set_option maxRecDepth 65536 in
theorem w_runnable : about1.curStatus? = some .runnable := by decide +kernel
set_option maxRecDepth 65536 in
theorem w_alone : about1.alone = true := by decide +kernel
set_option maxRecDepth 65536 in
theorem w_named : about1.methodNamed? x = some theMethod := by decide +kernel
set_option maxRecDepth 65536 in
theorem w_hears : about1.hears theMethod below0 = true := by decide +kernel
set_option maxRecDepth 65536 in
theorem w_ripe : about1.ripe theMethod args0 below0 = true := by decide +kernel
theorem w_running : about1.status = .running := rfl
set_option maxRecDepth 65536 in
theorem w_room : about1.hasRoom e0.platform room_1 = true :=
  launch0.hasRoom_least _ room_1 (by decide +kernel) (by decide +kernel) (by decide +kernel) (by decide +kernel) (by decide +kernel) (by decide +kernel)
theorem allAtoms_all (ts : List Jvm.Cond) (a : Array Jvm.Value) (st : Jvm.State) : (allAtoms ts).before a st = ts.all (fun c => c.before a st) := by
  induction ts with
  | nil => rfl
  | cons c t ih =>
    show (Jvm.Cond.and c (allAtoms t)).before a st = _
    rw [Jvm.Cond.before_and, ih, List.all_cons]
def words1 : List Jvm.Cond := Jvm.Cond.code x code maxLocals ret :: tables_1
/-- a 'code' word, met by the world's own term for the bytes: nothing is compared byte by byte -/
theorem code_word {y : MethodName} {bytes : ByteArray} {mx : Nat} {rt : Option FieldType} {a : Array Value} {s : State} {m : MethodId} {meth : Method} {c : Code} (h1 : s.methodNamed? y = some m) (h2 : s.vm.method? m = some meth) (h3 : meth.code = some c) (h4 : c.code = bytes)
    (h5 : (c.maxLocals == mx && c.exceptionTable.isEmpty && decide (c.maxStack ≤ mostOperands) && decide (meth.sig.returnType = rt) && !meth.locks && decide (parseMethodDescriptor y.desc = some meth.sig)) = true) : (Jvm.Cond.code y bytes mx rt).before a s = true := by
  simp only [Bool.and_eq_true, beq_iff_eq, Bool.not_eq_true', decide_eq_true_eq] at h5
  obtain ⟨⟨⟨⟨⟨g1, g2⟩, g3⟩, g4⟩, g5⟩, g6⟩ := h5
  simp [Cond.before, Cond.holds, Cond.value, h1, h2, h3, h4, g1, g2, g3, g4, g5, g6]
def isCode : Jvm.Cond → Bool
  | .code _ _ _ _ => true
  | _ => false
theorem all_split {L : List Jvm.Cond} {P : Jvm.Cond → Bool} (h1 : L.all (fun c => isCode c || P c) = true) (h2 : ∀ c ∈ L.filter isCode, P c = true) : L.all P = true := by
  refine List.all_eq_true.mpr fun c hc => ?_
  have h := List.all_eq_true.mp h1 c hc
  rcases Bool.eq_false_or_eq_true (isCode c) with hi | hi
  · exact h2 c (List.mem_filter.mpr ⟨hc, hi⟩)
  · simpa [hi] using h
set_option maxRecDepth 65536 in
theorem w_c0 : (Jvm.Cond.code x code maxLocals ret).before args0 about1 = true := code_word (m := ⟨1, 1⟩) (meth := k1m1) (c := k1c1) (by decide +kernel) rfl rfl rfl (by decide +kernel)
set_option maxRecDepth 65536 in
theorem w_c1 : (Jvm.Cond.code ({ cls := "com/example/weft/weft/consensus/SpanUnion", name := "<init>", desc := "()V" } : Jvm.MethodName) prog_32_method_1_code (1 : Nat) (Option.none : Option Jvm.ClassFile.FieldType)).before args0 about1 = true := code_word (m := ⟨2, 0⟩) (meth := k2m0) (c := k2c0) (by decide +kernel) rfl rfl rfl (by decide +kernel)
set_option maxRecDepth 65536 in
theorem w_c2 : (Jvm.Cond.code ({ cls := "java/lang/Object", name := "<init>", desc := "()V" } : Jvm.MethodName) object_method_1_code (1 : Nat) (Option.none : Option Jvm.ClassFile.FieldType)).before args0 about1 = true := code_word (m := ⟨0, 0⟩) (meth := k0m0) (c := k0c0) (by decide +kernel) rfl rfl rfl (by decide +kernel)
set_option maxRecDepth 65536 in
theorem w_c3 : (Jvm.Cond.code ({ cls := "com/example/weft/weft/consensus/SpanUnion", name := "add", desc := "(I)V" } : Jvm.MethodName) prog_32_method_3_code (3 : Nat) (Option.none : Option Jvm.ClassFile.FieldType)).before args0 about1 = true := code_word (m := ⟨2, 2⟩) (meth := k2m2) (c := k2c2) (by decide +kernel) rfl rfl rfl (by decide +kernel)
set_option maxRecDepth 65536 in
theorem w_c4 : (Jvm.Cond.code ({ cls := "com/example/weft/weft/consensus/SpanUnion", name := "reach", desc := "(II)V" } : Jvm.MethodName) prog_32_method_13_code (7 : Nat) (Option.none : Option Jvm.ClassFile.FieldType)).before args0 about1 = true := code_word (m := ⟨2, 4⟩) (meth := k2m4) (c := k2c4) (by decide +kernel) rfl rfl rfl (by decide +kernel)
set_option maxRecDepth 65536 in
theorem w_c5 : (Jvm.Cond.code ({ cls := "java/util/Arrays", name := "fill", desc := "([JIIJ)V" } : Jvm.MethodName) jdk_65_method_102_code (6 : Nat) (Option.none : Option Jvm.ClassFile.FieldType)).before args0 about1 = true := code_word (m := ⟨3, 2⟩) (meth := k3m2) (c := k3c2) (by decide +kernel) rfl rfl rfl (by decide +kernel)
set_option maxRecDepth 65536 in
theorem w_c6 : (Jvm.Cond.code ({ cls := "java/util/Arrays", name := "rangeCheck", desc := "(III)V" } : Jvm.MethodName) jdk_65_method_30_code (3 : Nat) (Option.none : Option Jvm.ClassFile.FieldType)).before args0 about1 = true := code_word (m := ⟨3, 1⟩) (meth := k3m1) (c := k3c1) (by decide +kernel) rfl rfl rfl (by decide +kernel)
set_option maxRecDepth 65536 in
theorem w_c7 : (Jvm.Cond.code ({ cls := "java/lang/Math", name := "min", desc := "(II)I" } : Jvm.MethodName) jdk_29_method_69_code (2 : Nat) (Option.some Jvm.ClassFile.FieldType.int)).before args0 about1 = true := code_word (m := ⟨4, 2⟩) (meth := k4m2) (c := k4c2) (by decide +kernel) rfl rfl rfl (by decide +kernel)
set_option maxRecDepth 65536 in
theorem w_c8 : (Jvm.Cond.code ({ cls := "java/lang/Math", name := "max", desc := "(II)I" } : Jvm.MethodName) jdk_29_method_65_code (2 : Nat) (Option.some Jvm.ClassFile.FieldType.int)).before args0 about1 = true := code_word (m := ⟨4, 1⟩) (meth := k4m1) (c := k4c1) (by decide +kernel) rfl rfl rfl (by decide +kernel)
set_option maxRecDepth 65536 in
theorem w_c9 : (Jvm.Cond.code ({ cls := "com/example/weft/weft/consensus/SpanUnion", name := "contains", desc := "(I)Z" } : Jvm.MethodName) prog_32_method_10_code (3 : Nat) (Option.some Jvm.ClassFile.FieldType.boolean)).before args0 about1 = true := code_word (m := ⟨2, 3⟩) (meth := k2m3) (c := k2c3) (by decide +kernel) rfl rfl rfl (by decide +kernel)
set_option maxRecDepth 65536 in
theorem w_c10 : (Jvm.Cond.code ({ cls := "com/example/weft/weft/consensus/SpanUnion", name := "clear", desc := "()V" } : Jvm.MethodName) prog_32_method_2_code (1 : Nat) (Option.none : Option Jvm.ClassFile.FieldType)).before args0 about1 = true := code_word (m := ⟨2, 1⟩) (meth := k2m1) (c := k2c1) (by decide +kernel) rfl rfl rfl (by decide +kernel)
def codes1 : List Jvm.Cond := [Jvm.Cond.code x code maxLocals ret, Jvm.Cond.code ({ cls := "com/example/weft/weft/consensus/SpanUnion", name := "<init>", desc := "()V" } : Jvm.MethodName) prog_32_method_1_code (1 : Nat) (Option.none : Option Jvm.ClassFile.FieldType), Jvm.Cond.code ({ cls := "java/lang/Object", name := "<init>", desc := "()V" } : Jvm.MethodName) object_method_1_code (1 : Nat) (Option.none : Option Jvm.ClassFile.FieldType), Jvm.Cond.code ({ cls := "com/example/weft/weft/consensus/SpanUnion", name := "add", desc := "(I)V" } : Jvm.MethodName) prog_32_method_3_code (3 : Nat) (Option.none : Option Jvm.ClassFile.FieldType), Jvm.Cond.code ({ cls := "com/example/weft/weft/consensus/SpanUnion", name := "reach", desc := "(II)V" } : Jvm.MethodName) prog_32_method_13_code (7 : Nat) (Option.none : Option Jvm.ClassFile.FieldType), Jvm.Cond.code ({ cls := "java/util/Arrays", name := "fill", desc := "([JIIJ)V" } : Jvm.MethodName) jdk_65_method_102_code (6 : Nat) (Option.none : Option Jvm.ClassFile.FieldType), Jvm.Cond.code ({ cls := "java/util/Arrays", name := "rangeCheck", desc := "(III)V" } : Jvm.MethodName) jdk_65_method_30_code (3 : Nat) (Option.none : Option Jvm.ClassFile.FieldType), Jvm.Cond.code ({ cls := "java/lang/Math", name := "min", desc := "(II)I" } : Jvm.MethodName) jdk_29_method_69_code (2 : Nat) (Option.some Jvm.ClassFile.FieldType.int), Jvm.Cond.code ({ cls := "java/lang/Math", name := "max", desc := "(II)I" } : Jvm.MethodName) jdk_29_method_65_code (2 : Nat) (Option.some Jvm.ClassFile.FieldType.int), Jvm.Cond.code ({ cls := "com/example/weft/weft/consensus/SpanUnion", name := "contains", desc := "(I)Z" } : Jvm.MethodName) prog_32_method_10_code (3 : Nat) (Option.some Jvm.ClassFile.FieldType.boolean), Jvm.Cond.code ({ cls := "com/example/weft/weft/consensus/SpanUnion", name := "clear", desc := "()V" } : Jvm.MethodName) prog_32_method_2_code (1 : Nat) (Option.none : Option Jvm.ClassFile.FieldType)]
set_option maxRecDepth 65536 in
theorem codes_eq : words1.filter isCode = codes1 := rfl
theorem w_codes : ∀ c ∈ words1.filter isCode, c.before args0 about1 = true := by
  rw [codes_eq]
  intro c hc
  simp only [codes1, List.mem_cons, List.not_mem_nil, or_false] at hc
  rcases hc with rfl | rfl | rfl | rfl | rfl | rfl | rfl | rfl | rfl | rfl | rfl
  · exact w_c0
  · exact w_c1
  · exact w_c2
  · exact w_c3
  · exact w_c4
  · exact w_c5
  · exact w_c6
  · exact w_c7
  · exact w_c8
  · exact w_c9
  · exact w_c10
set_option maxRecDepth 65536 in
theorem w_t1 : (words1.take 24).all (fun c => isCode c || c.before args0 about1) = true := by decide +kernel
set_option maxRecDepth 65536 in
theorem w_t2 : ((words1.drop 24).take 24).all (fun c => isCode c || c.before args0 about1) = true := by decide +kernel
set_option maxRecDepth 65536 in
theorem w_t3 : ((words1.drop 24).drop 24).all (fun c => isCode c || c.before args0 about1) = true := by decide +kernel
theorem w_tables : (allAtoms (Jvm.Cond.code x code maxLocals ret :: tables_1)).before args0 about1 = true := by
  rw [allAtoms_all]
  show words1.all (fun c => c.before args0 about1) = true
  refine all_split ?_ w_codes
  rw [← List.take_append_drop 24 words1, List.all_append, w_t1, ← List.take_append_drop 24 (words1.drop 24), List.all_append, w_t2, w_t3]
  rfl
set_option maxRecDepth 65536 in
theorem w_case : (Jvm.Cond.and given_1 narrow_1).before args0 about1 = true := by decide +kernel
theorem w_applies : (headSpec (Jvm.Cond.code x code maxLocals ret :: tables_1) room_1).applies x e0.platform about1 = true :=
  (Spec.applies_iff w_frames).mpr ⟨w_running, w_runnable, w_alone, w_named, w_hears, w_ripe, w_room, w_tables⟩
theorem atStart : AtStart classFile x code maxLocals ret World_1 tables_1 room_1 Calls_1 rest_1 Pre_1 launch0 p0 e0 about1 theMethod args0 below0 :=
  ⟨lists_1, trivial, launch0.admits_env _ _ _, launch0.least_env, fairChoices_fair.cas, fairChoices_fair.clock, w_frames, w_args, w_heap, w_applies, trivial, trivial, w_case⟩
end start1
theorem witness_1 : WitnessClaimed_1 := ⟨start1.p0, start1.e0, start1.about1, start1.theMethod, start1.args0, start1.below0, start1.atStart⟩
end Jvm.Pilot.@@N@@
