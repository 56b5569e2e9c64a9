import JvmDerived
import JvmDerived.Pilot.@@N@@Statement
import JvmDerived.Pilot.@@N@@Code
set_option linter.unusedVariables false
set_option linter.unusedSimpArgs false
namespace Jvm.Own
open Jvm Jvm.ClassFile Sem Op Lib Jvm.Free Jvm.Stand Jvm.LawKit Jvm.RoadKit Bundle
/-- where the run stands inside a body: what is fixed, the heap, the room used -/
def St (p : Program) (l : Launch) (e : Env) (R : Room) (s : State) (m : MethodId) (args : Array Value) (below : List Frame) (meth : Method) (c : Code) (Z : State) (n0 : Nat) (y : MethodName) (code : ByteArray) (maxL : Nat) (ret : Option FieldType) (T : State) (h : Heap) (cells slots : Nat) : Prop :=
  (p.tables.exec = Jvm.exec ∧ Z.Warmed39 s.vm ∧ c.code = code ∧ c.maxLocals = maxL ∧ s.vm.findClass y.cls = some m.cls ∧ meth.name = y.name ∧ meth.sig.returnType = ret ∧ meth.locks = false ∧ n0 ≤ s.heap.size) ∧ T.heap = h ∧ ∃ locs, Stand p l e R s m args below meth c T locs cells slots ∧ Fr n0 locs
/-- from here the body comes to its end with Q -/
def WP (p : Program) (e : Env) (below : List Frame) (s : State) (n0 k n : Nat) (Q : Option Value → Heap → Prop) (T : State) (g : JFrame) : Prop :=
  ∃ s₂ o, Steps p.tables e below (T.setTop g) s₂ ∧ s₂.status = .running ∧ Ended s₂ below o ∧ ∃ v L, o = .returned v ∧ (Q v s₂.heap ∧ Fr n0 L) ∧ FrameEnd s o s₂ L k n
/-- a body's contract -/
def Ct (l : Launch) (Z : State) (y : MethodName) (code : ByteArray) (maxL : Nat) (ret : Option FieldType) (rm : Room) (as : Array Value) (h0 : Heap) (n0 : Nat) (Q : Option Value → Heap → Prop) : Prop :=
  ∀ ws, MetFree l y (head1 (Jvm.Cond.code y code maxL ret :: ws) rm) (fun a U => a = as ∧ Z.Warmed39 U.vm ∧ U.heap = h0) (fun _ _ _ _ _ => True) (fun _ U o U' => ∃ v L, o = .returned v ∧ (Q v U'.heap ∧ Fr n0 L) ∧ FrameEnd U o U' L rm.cells rm.slots)
section Steps
variable {p : Program} {l : Launch} {e : Env} {R : Room} {s : State} {m : MethodId} {args : Array Value} {below : List Frame} {meth : Method} {c : Code} {Z : State} {n0 : Nat} {y : MethodName} {code : ByteArray} {maxL : Nat} {ret : Option FieldType} {T : State} {h : Heap} {cells slots k n : Nat} {Q : Option Value → Heap → Prop} {pc pc' : Nat} {Ls : Array Slot} {S : List Value} {a0 : Array Value}
theorem WP.step {T' : State} {g g' : JFrame} (w : WP p e below s n0 k n Q T' g') (st : ∀ t, Steps p.tables e below (T'.setTop g') t → Steps p.tables e below (T.setTop g) t) : WP p e below s n0 k n Q T g := by
  obtain ⟨s₂, o, h1, r⟩ := w; exact ⟨s₂, o, st _ h1, r⟩
theorem WP.trans {T' : State} {g g' : JFrame} (w : WP p e below s n0 k n Q T' g') (st : Steps p.tables e below (T.setTop g) (T'.setTop g')) : WP p e below s n0 k n Q T g := by
  obtain ⟨s₂, o, h1, r⟩ := w; exact ⟨s₂, o, st.trans h1, r⟩
theorem WP.imp {Q' : Option Value → Heap → Prop} {g : JFrame} (w : WP p e below s n0 k n Q' T g) (hq : ∀ v h, Q' v h → Q v h) : WP p e below s n0 k n Q T g := by
  obtain ⟨s₂, o, h1, h2, h3, v, L, h4, ⟨h5, h6⟩, h7⟩ := w; exact ⟨s₂, o, h1, h2, h3, v, L, h4, ⟨hq _ _ h5, h6⟩, h7⟩
theorem WP.cast {g g' : JFrame} (q : g = g') (w : WP p e below s n0 k n Q T g') : WP p e below s n0 k n Q T g := q ▸ w
theorem Ct.imp {as : Array Value} {rm : Room} {Q' : Option Value → Heap → Prop} (ct : Ct l Z y code maxL ret rm as h n0 Q') (hq : ∀ v h, Q' v h → Q v h) : Ct l Z y code maxL ret rm as h n0 Q := by
  intro ws p e ha hc hk s m args below hf happ hP hK
  obtain ⟨n, o, h1, h2, h3, v, L, h4, ⟨h5, h6⟩, h7⟩ := ct ws p e ha hc hk s m args below hf happ hP hK
  exact ⟨n, o, h1, h2, h3, v, L, h4, ⟨hq _ _ h5, h6⟩, h7⟩
theorem Ct.intro {rm : Room} {as : Array Value} {h0 : Heap} (hpl : plainFor y = true) (Z0 : n0 ≤ h0.size)
    (body : ∀ p e s m below meth c T, St p l e rm s m as below meth c Z n0 y code maxL ret T h0 0 0 → WP p e below s n0 rm.cells rm.slots Q T (entryFrame m as maxL)) : Ct l Z y code maxL ret rm as h0 n0 Q := by
  intro ws
  refine MetFree.of_bodySF hpl hisR ?_
  intro p e s m args below meth c s₁ Bd hml0 hP hK
  obtain ⟨rfl, hZ, hh⟩ := hP
  exact body p e s m below meth c s₁ ⟨⟨Bd.exec, hZ, Bd.bytes, hml0, findClass_of_methodNamed Bd.named, (name_of_methodNamed Bd.named Bd.method).1, Bd.returns, BodyLoose.notSynchronized Bd, hh ▸ Z0⟩, by rw [← hh, Bd.state]; rfl, [], Stand.of_body Bd, Fr.nil n0⟩
theorem St.n0le (X : St p l e R s m args below meth c Z n0 y code maxL ret T h cells slots) : n0 ≤ h.size := by
  obtain ⟨⟨-, -, -, -, -, -, -, -, h0⟩, hT, locs, X, -⟩ := X
  have q : s.heap.size ≤ T.heap.size := X.same.2.1
  rw [hT] at q; exact Nat.le_trans h0 q
theorem St.mono (X : St p l e R s m args below meth c Z n0 y code maxL ret T h cells slots) {cells' slots' : Nat} (hc : cells ≤ cells') (hs : slots ≤ slots') : St p l e R s m args below meth c Z n0 y code maxL ret T h cells' slots' := by
  obtain ⟨h0, hT, locs, X, N⟩ := X
  exact ⟨h0, hT, locs, ⟨X.admits, X.cas, X.clock, X.frames, X.room, X.hears, X.method, X.code, X.here, X.tail, X.warmed, X.limits, X.bytes, X.same.mono hc hs⟩, N⟩
theorem w_nameI {v : Int32} (w : ∀ z, z = v → WP p e below s n0 k n Q T (mkF m pc Ls (.int z :: S))) : WP p e below s n0 k n Q T (mkF m pc Ls (.int v :: S)) := w v rfl
theorem w_nameJ {v : Int64} (w : ∀ z, z = v → WP p e below s n0 k n Q T (mkF m pc Ls (.long z :: S))) : WP p e below s n0 k n Q T (mkF m pc Ls (.long v :: S)) := w v rfl
theorem w_nameR {v : Addr} (w : ∀ z, z = v → WP p e below s n0 k n Q T (mkF m pc Ls (.ref z :: S))) : WP p e below s n0 k n Q T (mkF m pc Ls (.ref v :: S)) := w v rfl
theorem w_iload (X : St p l e R s m args below meth c Z n0 y code maxL ret T h cells slots) {i : Nat} {v : Int32} (hd : decode code pc = .ok (.iload i, 2)) (hl : Ls[i]? = some (.val (.int v))) (hp : pc' = pc + 2) (w : WP p e below s n0 k n Q T (mkF m pc' Ls (.int v :: S))) : WP p e below s n0 k n Q T (mkF m pc Ls (S)) := by
  obtain ⟨⟨hx, hZ, hby, hml, hown, hnm, hret, hlk, h00⟩, hT, locs, X, N⟩ := X
  subst hp
  exact w.step fun t kk => XS.iload X.here hx rfl (hb hby hd) hl kk
theorem w_iloadN (X : St p l e R s m args below meth c Z n0 y code maxL ret T h cells slots) {i : Fin 4} {v : Int32} (hd : decode code pc = .ok (.iload_n i, 1)) (hl : Ls[i.val]? = some (.val (.int v))) (hp : pc' = pc + 1) (w : WP p e below s n0 k n Q T (mkF m pc' Ls (.int v :: S))) : WP p e below s n0 k n Q T (mkF m pc Ls (S)) := by
  obtain ⟨⟨hx, hZ, hby, hml, hown, hnm, hret, hlk, h00⟩, hT, locs, X, N⟩ := X
  subst hp
  exact w.step fun t kk => XS.iloadN X.here hx rfl (hb hby hd) hl kk
theorem w_lload (X : St p l e R s m args below meth c Z n0 y code maxL ret T h cells slots) {i : Nat} {v : Int64} (hd : decode code pc = .ok (.lload i, 2)) (hl : Ls[i]? = some (.val (.long v))) (hp : pc' = pc + 2) (w : WP p e below s n0 k n Q T (mkF m pc' Ls (.long v :: S))) : WP p e below s n0 k n Q T (mkF m pc Ls (S)) := by
  obtain ⟨⟨hx, hZ, hby, hml, hown, hnm, hret, hlk, h00⟩, hT, locs, X, N⟩ := X
  subst hp
  exact w.step fun t kk => XS.lload X.here hx rfl (hb hby hd) hl kk
theorem w_lloadN (X : St p l e R s m args below meth c Z n0 y code maxL ret T h cells slots) {i : Fin 4} {v : Int64} (hd : decode code pc = .ok (.lload_n i, 1)) (hl : Ls[i.val]? = some (.val (.long v))) (hp : pc' = pc + 1) (w : WP p e below s n0 k n Q T (mkF m pc' Ls (.long v :: S))) : WP p e below s n0 k n Q T (mkF m pc Ls (S)) := by
  obtain ⟨⟨hx, hZ, hby, hml, hown, hnm, hret, hlk, h00⟩, hT, locs, X, N⟩ := X
  subst hp
  exact w.step fun t kk => XS.lloadN X.here hx rfl (hb hby hd) hl kk
theorem w_aload (X : St p l e R s m args below meth c Z n0 y code maxL ret T h cells slots) {i : Nat} {v : Value} (hd : decode code pc = .ok (.aload i, 2)) (hl : Ls[i]? = some (.val v)) (hv : v.isRef = true) (hp : pc' = pc + 2) (w : WP p e below s n0 k n Q T (mkF m pc' Ls (v :: S))) : WP p e below s n0 k n Q T (mkF m pc Ls (S)) := by
  obtain ⟨⟨hx, hZ, hby, hml, hown, hnm, hret, hlk, h00⟩, hT, locs, X, N⟩ := X
  subst hp
  exact w.step fun t kk => XS.aload X.here hx rfl (hb hby hd) hl hv kk
theorem w_aloadN (X : St p l e R s m args below meth c Z n0 y code maxL ret T h cells slots) {i : Fin 4} {v : Value} (hd : decode code pc = .ok (.aload_n i, 1)) (hl : Ls[i.val]? = some (.val v)) (hv : v.isRef = true) (hp : pc' = pc + 1) (w : WP p e below s n0 k n Q T (mkF m pc' Ls (v :: S))) : WP p e below s n0 k n Q T (mkF m pc Ls (S)) := by
  obtain ⟨⟨hx, hZ, hby, hml, hown, hnm, hret, hlk, h00⟩, hT, locs, X, N⟩ := X
  subst hp
  exact w.step fun t kk => XS.aloadN X.here hx rfl (hb hby hd) hl hv kk
theorem w_istore (X : St p l e R s m args below meth c Z n0 y code maxL ret T h cells slots) {i : Nat} {v : Int32} {L' : Array Slot} (hd : decode code pc = .ok (.istore i, 2)) (hl : storeLocals Ls i (.int v) = some L') (hp : pc' = pc + 2) (w : WP p e below s n0 k n Q T (mkF m pc' L' (S))) : WP p e below s n0 k n Q T (mkF m pc Ls (.int v :: S)) := by
  obtain ⟨⟨hx, hZ, hby, hml, hown, hnm, hret, hlk, h00⟩, hT, locs, X, N⟩ := X
  subst hp
  exact w.step fun t kk => XS.istore X.here hx rfl (hb hby hd) rfl hl kk
theorem w_istoreN (X : St p l e R s m args below meth c Z n0 y code maxL ret T h cells slots) {i : Fin 4} {v : Int32} {L' : Array Slot} (hd : decode code pc = .ok (.istore_n i, 1)) (hl : storeLocals Ls i.val (.int v) = some L') (hp : pc' = pc + 1) (w : WP p e below s n0 k n Q T (mkF m pc' L' (S))) : WP p e below s n0 k n Q T (mkF m pc Ls (.int v :: S)) := by
  obtain ⟨⟨hx, hZ, hby, hml, hown, hnm, hret, hlk, h00⟩, hT, locs, X, N⟩ := X
  subst hp
  exact w.step fun t kk => XS.istoreN X.here hx rfl (hb hby hd) rfl hl kk
theorem w_lstore (X : St p l e R s m args below meth c Z n0 y code maxL ret T h cells slots) {i : Nat} {v : Int64} {L' : Array Slot} (hd : decode code pc = .ok (.lstore i, 2)) (hl : storeLocals Ls i (.long v) = some L') (hp : pc' = pc + 2) (w : WP p e below s n0 k n Q T (mkF m pc' L' (S))) : WP p e below s n0 k n Q T (mkF m pc Ls (.long v :: S)) := by
  obtain ⟨⟨hx, hZ, hby, hml, hown, hnm, hret, hlk, h00⟩, hT, locs, X, N⟩ := X
  subst hp
  exact w.step fun t kk => XS.lstore X.here hx rfl (hb hby hd) rfl hl kk
theorem w_lstoreN (X : St p l e R s m args below meth c Z n0 y code maxL ret T h cells slots) {i : Fin 4} {v : Int64} {L' : Array Slot} (hd : decode code pc = .ok (.lstore_n i, 1)) (hl : storeLocals Ls i.val (.long v) = some L') (hp : pc' = pc + 1) (w : WP p e below s n0 k n Q T (mkF m pc' L' (S))) : WP p e below s n0 k n Q T (mkF m pc Ls (.long v :: S)) := by
  obtain ⟨⟨hx, hZ, hby, hml, hown, hnm, hret, hlk, h00⟩, hT, locs, X, N⟩ := X
  subst hp
  exact w.step fun t kk => XS.lstoreN X.here hx rfl (hb hby hd) rfl hl kk
theorem w_astore (X : St p l e R s m args below meth c Z n0 y code maxL ret T h cells slots) {i : Nat} {v : Value} {L' : Array Slot} (hd : decode code pc = .ok (.astore i, 2)) (hv : v.isRef = true) (hl : storeLocals Ls i v = some L') (hp : pc' = pc + 2) (w : WP p e below s n0 k n Q T (mkF m pc' L' (S))) : WP p e below s n0 k n Q T (mkF m pc Ls (v :: S)) := by
  obtain ⟨⟨hx, hZ, hby, hml, hown, hnm, hret, hlk, h00⟩, hT, locs, X, N⟩ := X
  subst hp
  exact w.step fun t kk => XS.astore X.here hx rfl (hb hby hd) rfl hv hl kk
theorem w_astoreN (X : St p l e R s m args below meth c Z n0 y code maxL ret T h cells slots) {i : Fin 4} {v : Value} {L' : Array Slot} (hd : decode code pc = .ok (.astore_n i, 1)) (hv : v.isRef = true) (hl : storeLocals Ls i.val v = some L') (hp : pc' = pc + 1) (w : WP p e below s n0 k n Q T (mkF m pc' L' (S))) : WP p e below s n0 k n Q T (mkF m pc Ls (v :: S)) := by
  obtain ⟨⟨hx, hZ, hby, hml, hown, hnm, hret, hlk, h00⟩, hT, locs, X, N⟩ := X
  subst hp
  exact w.step fun t kk => XS.astoreN X.here hx rfl (hb hby hd) rfl hv hl kk
theorem w_iinc (X : St p l e R s m args below meth c Z n0 y code maxL ret T h cells slots) {i : Nat} {d : Int} {v v' : Int32} {L' : Array Slot} (hd : decode code pc = .ok (.iinc i d, 3)) (hl : Ls[i]? = some (.val (.int v))) (hv : v + Int32.ofInt d = v') (hl' : storeLocals Ls i (.int v') = some L') (hp : pc' = pc + 3) (w : WP p e below s n0 k n Q T (mkF m pc' L' (S))) : WP p e below s n0 k n Q T (mkF m pc Ls (S)) := by
  obtain ⟨⟨hx, hZ, hby, hml, hown, hnm, hret, hlk, h00⟩, hT, locs, X, N⟩ := X
  subst hp hv
  exact w.step fun t kk => XS.iinc X.here hx rfl (hb hby hd) hl hl' kk
theorem w_iconst (X : St p l e R s m args below meth c Z n0 y code maxL ret T h cells slots) {i : Int} {v : Int32} (hd : decode code pc = .ok (.iconst i, 1)) (hv : Int32.ofInt i = v) (hp : pc' = pc + 1) (w : WP p e below s n0 k n Q T (mkF m pc' Ls (.int v :: S))) : WP p e below s n0 k n Q T (mkF m pc Ls (S)) := by
  obtain ⟨⟨hx, hZ, hby, hml, hown, hnm, hret, hlk, h00⟩, hT, locs, X, N⟩ := X
  subst hp hv
  exact w.step fun t kk => XS.iconst X.here hx rfl (hb hby hd) kk
theorem w_bipush (X : St p l e R s m args below meth c Z n0 y code maxL ret T h cells slots) {i : Int} {v : Int32} (hd : decode code pc = .ok (.bipush i, 2)) (hv : (Int8.ofInt i).toInt32 = v) (hp : pc' = pc + 2) (w : WP p e below s n0 k n Q T (mkF m pc' Ls (.int v :: S))) : WP p e below s n0 k n Q T (mkF m pc Ls (S)) := by
  obtain ⟨⟨hx, hZ, hby, hml, hown, hnm, hret, hlk, h00⟩, hT, locs, X, N⟩ := X
  subst hp hv
  exact w.step fun t kk => XS.bipush X.here hx rfl (hb hby hd) kk
theorem w_sipush (X : St p l e R s m args below meth c Z n0 y code maxL ret T h cells slots) {i : Int} {v : Int32} (hd : decode code pc = .ok (.sipush i, 3)) (hv : (Int16.ofInt i).toInt32 = v) (hp : pc' = pc + 3) (w : WP p e below s n0 k n Q T (mkF m pc' Ls (.int v :: S))) : WP p e below s n0 k n Q T (mkF m pc Ls (S)) := by
  obtain ⟨⟨hx, hZ, hby, hml, hown, hnm, hret, hlk, h00⟩, hT, locs, X, N⟩ := X
  subst hp hv
  exact w.step fun t kk => XS.sipush X.here hx rfl (hb hby hd) kk
theorem w_lconst (X : St p l e R s m args below meth c Z n0 y code maxL ret T h cells slots) {i : Fin 2} {v : Int64} (hd : decode code pc = .ok (.lconst i, 1)) (hv : Int64.ofNat i = v) (hp : pc' = pc + 1) (w : WP p e below s n0 k n Q T (mkF m pc' Ls (.long v :: S))) : WP p e below s n0 k n Q T (mkF m pc Ls (S)) := by
  obtain ⟨⟨hx, hZ, hby, hml, hown, hnm, hret, hlk, h00⟩, hT, locs, X, N⟩ := X
  subst hp hv
  exact w.step fun t kk => XS.lconst X.here hx rfl (hb hby hd) kk
theorem w_aconst_null (X : St p l e R s m args below meth c Z n0 y code maxL ret T h cells slots)  (hd : decode code pc = .ok (.aconst_null, 1)) (hp : pc' = pc + 1) (w : WP p e below s n0 k n Q T (mkF m pc' Ls (.null :: S))) : WP p e below s n0 k n Q T (mkF m pc Ls (S)) := by
  obtain ⟨⟨hx, hZ, hby, hml, hown, hnm, hret, hlk, h00⟩, hT, locs, X, N⟩ := X
  subst hp
  exact w.step fun t kk => XS.aconstNull X.here hx rfl (hb hby hd) kk
theorem w_ldcI (X : St p l e R s m args below meth c Z n0 y code maxL ret T h cells slots) {i : Nat} {v : Int32} (hd : decode code pc = .ok (.ldc i, 2)) (wc : (Jvm.Cond.constant y.cls i v).before a0 Z = true) (hp : pc' = pc + 2) (w : WP p e below s n0 k n Q T (mkF m pc' Ls (.int v :: S))) : WP p e below s n0 k n Q T (mkF m pc Ls (S)) := by
  obtain ⟨⟨hx, hZ, hby, hml, hown, hnm, hret, hlk, h00⟩, hT, locs, X, N⟩ := X
  subst hp
  exact w.step fun t kk => X.ldcInt hx hown (mvT (d := Jvm.Cond.constant y.cls i v) hZ wc) (g := mkF m pc Ls S) rfl (hb hby hd) t kk
theorem w_ldcWI (X : St p l e R s m args below meth c Z n0 y code maxL ret T h cells slots) {i : Nat} {v : Int32} (hd : decode code pc = .ok (.ldc_w i, 3)) (wc : (Jvm.Cond.constant y.cls i v).before a0 Z = true) (hp : pc' = pc + 3) (w : WP p e below s n0 k n Q T (mkF m pc' Ls (.int v :: S))) : WP p e below s n0 k n Q T (mkF m pc Ls (S)) := by
  obtain ⟨⟨hx, hZ, hby, hml, hown, hnm, hret, hlk, h00⟩, hT, locs, X, N⟩ := X
  subst hp
  exact w.step fun t kk => X.ldcwInt hx hown (mvT (d := Jvm.Cond.constant y.cls i v) hZ wc) (g := mkF m pc Ls S) rfl (hb hby hd) t kk
theorem w_ldcJ (X : St p l e R s m args below meth c Z n0 y code maxL ret T h cells slots) {i : Nat} {v : Int64} (hd : decode code pc = .ok (.ldc2_w i, 3)) (wc : (Jvm.Cond.constantLong y.cls i v).before a0 Z = true) (hp : pc' = pc + 3) (w : WP p e below s n0 k n Q T (mkF m pc' Ls (.long v :: S))) : WP p e below s n0 k n Q T (mkF m pc Ls (S)) := by
  obtain ⟨⟨hx, hZ, hby, hml, hown, hnm, hret, hlk, h00⟩, hT, locs, X, N⟩ := X
  subst hp
  exact w.step fun t kk => X.ldc2Long hx hown (mvT (d := Jvm.Cond.constantLong y.cls i v) hZ wc) (g := mkF m pc Ls S) rfl (hb hby hd) t kk
theorem w_iadd (X : St p l e R s m args below meth c Z n0 y code maxL ret T h cells slots) {x z : Int32} (hd : decode code pc = .ok (.iadd, 1)) (hp : pc' = pc + 1) (w : WP p e below s n0 k n Q T (mkF m pc' Ls (.int (x + z) :: S))) : WP p e below s n0 k n Q T (mkF m pc Ls (.int z :: .int x :: S)) := by
  obtain ⟨⟨hx, hZ, hby, hml, hown, hnm, hret, hlk, h00⟩, hT, locs, X, N⟩ := X
  subst hp
  exact w.step fun t kk => XS.iadd X.here hx rfl (hb hby hd) rfl kk
theorem w_ladd (X : St p l e R s m args below meth c Z n0 y code maxL ret T h cells slots) {x z : Int64} (hd : decode code pc = .ok (.ladd, 1)) (hp : pc' = pc + 1) (w : WP p e below s n0 k n Q T (mkF m pc' Ls (.long (x + z) :: S))) : WP p e below s n0 k n Q T (mkF m pc Ls (.long z :: .long x :: S)) := by
  obtain ⟨⟨hx, hZ, hby, hml, hown, hnm, hret, hlk, h00⟩, hT, locs, X, N⟩ := X
  subst hp
  exact w.step fun t kk => XS.ladd X.here hx rfl (hb hby hd) rfl kk
theorem w_isub (X : St p l e R s m args below meth c Z n0 y code maxL ret T h cells slots) {x z : Int32} (hd : decode code pc = .ok (.isub, 1)) (hp : pc' = pc + 1) (w : WP p e below s n0 k n Q T (mkF m pc' Ls (.int (x - z) :: S))) : WP p e below s n0 k n Q T (mkF m pc Ls (.int z :: .int x :: S)) := by
  obtain ⟨⟨hx, hZ, hby, hml, hown, hnm, hret, hlk, h00⟩, hT, locs, X, N⟩ := X
  subst hp
  exact w.step fun t kk => XS.isub X.here hx rfl (hb hby hd) rfl kk
theorem w_lsub (X : St p l e R s m args below meth c Z n0 y code maxL ret T h cells slots) {x z : Int64} (hd : decode code pc = .ok (.lsub, 1)) (hp : pc' = pc + 1) (w : WP p e below s n0 k n Q T (mkF m pc' Ls (.long (x - z) :: S))) : WP p e below s n0 k n Q T (mkF m pc Ls (.long z :: .long x :: S)) := by
  obtain ⟨⟨hx, hZ, hby, hml, hown, hnm, hret, hlk, h00⟩, hT, locs, X, N⟩ := X
  subst hp
  exact w.step fun t kk => XS.lsub X.here hx rfl (hb hby hd) rfl kk
theorem w_imul (X : St p l e R s m args below meth c Z n0 y code maxL ret T h cells slots) {x z : Int32} (hd : decode code pc = .ok (.imul, 1)) (hp : pc' = pc + 1) (w : WP p e below s n0 k n Q T (mkF m pc' Ls (.int (x * z) :: S))) : WP p e below s n0 k n Q T (mkF m pc Ls (.int z :: .int x :: S)) := by
  obtain ⟨⟨hx, hZ, hby, hml, hown, hnm, hret, hlk, h00⟩, hT, locs, X, N⟩ := X
  subst hp
  exact w.step fun t kk => XS.imul X.here hx rfl (hb hby hd) rfl kk
theorem w_lmul (X : St p l e R s m args below meth c Z n0 y code maxL ret T h cells slots) {x z : Int64} (hd : decode code pc = .ok (.lmul, 1)) (hp : pc' = pc + 1) (w : WP p e below s n0 k n Q T (mkF m pc' Ls (.long (x * z) :: S))) : WP p e below s n0 k n Q T (mkF m pc Ls (.long z :: .long x :: S)) := by
  obtain ⟨⟨hx, hZ, hby, hml, hown, hnm, hret, hlk, h00⟩, hT, locs, X, N⟩ := X
  subst hp
  exact w.step fun t kk => XS.lmul X.here hx rfl (hb hby hd) rfl kk
theorem w_iand (X : St p l e R s m args below meth c Z n0 y code maxL ret T h cells slots) {x z : Int32} (hd : decode code pc = .ok (.iand, 1)) (hp : pc' = pc + 1) (w : WP p e below s n0 k n Q T (mkF m pc' Ls (.int (x &&& z) :: S))) : WP p e below s n0 k n Q T (mkF m pc Ls (.int z :: .int x :: S)) := by
  obtain ⟨⟨hx, hZ, hby, hml, hown, hnm, hret, hlk, h00⟩, hT, locs, X, N⟩ := X
  subst hp
  exact w.step fun t kk => XS.iand X.here hx rfl (hb hby hd) rfl kk
theorem w_land (X : St p l e R s m args below meth c Z n0 y code maxL ret T h cells slots) {x z : Int64} (hd : decode code pc = .ok (.land, 1)) (hp : pc' = pc + 1) (w : WP p e below s n0 k n Q T (mkF m pc' Ls (.long (x &&& z) :: S))) : WP p e below s n0 k n Q T (mkF m pc Ls (.long z :: .long x :: S)) := by
  obtain ⟨⟨hx, hZ, hby, hml, hown, hnm, hret, hlk, h00⟩, hT, locs, X, N⟩ := X
  subst hp
  exact w.step fun t kk => XS.land X.here hx rfl (hb hby hd) rfl kk
theorem w_ior (X : St p l e R s m args below meth c Z n0 y code maxL ret T h cells slots) {x z : Int32} (hd : decode code pc = .ok (.ior, 1)) (hp : pc' = pc + 1) (w : WP p e below s n0 k n Q T (mkF m pc' Ls (.int (x ||| z) :: S))) : WP p e below s n0 k n Q T (mkF m pc Ls (.int z :: .int x :: S)) := by
  obtain ⟨⟨hx, hZ, hby, hml, hown, hnm, hret, hlk, h00⟩, hT, locs, X, N⟩ := X
  subst hp
  exact w.step fun t kk => XS.ior X.here hx rfl (hb hby hd) rfl kk
theorem w_lor (X : St p l e R s m args below meth c Z n0 y code maxL ret T h cells slots) {x z : Int64} (hd : decode code pc = .ok (.lor, 1)) (hp : pc' = pc + 1) (w : WP p e below s n0 k n Q T (mkF m pc' Ls (.long (x ||| z) :: S))) : WP p e below s n0 k n Q T (mkF m pc Ls (.long z :: .long x :: S)) := by
  obtain ⟨⟨hx, hZ, hby, hml, hown, hnm, hret, hlk, h00⟩, hT, locs, X, N⟩ := X
  subst hp
  exact w.step fun t kk => XS.lor X.here hx rfl (hb hby hd) rfl kk
theorem w_ixor (X : St p l e R s m args below meth c Z n0 y code maxL ret T h cells slots) {x z : Int32} (hd : decode code pc = .ok (.ixor, 1)) (hp : pc' = pc + 1) (w : WP p e below s n0 k n Q T (mkF m pc' Ls (.int (x ^^^ z) :: S))) : WP p e below s n0 k n Q T (mkF m pc Ls (.int z :: .int x :: S)) := by
  obtain ⟨⟨hx, hZ, hby, hml, hown, hnm, hret, hlk, h00⟩, hT, locs, X, N⟩ := X
  subst hp
  exact w.step fun t kk => XS.ixor X.here hx rfl (hb hby hd) rfl kk
theorem w_lxor (X : St p l e R s m args below meth c Z n0 y code maxL ret T h cells slots) {x z : Int64} (hd : decode code pc = .ok (.lxor, 1)) (hp : pc' = pc + 1) (w : WP p e below s n0 k n Q T (mkF m pc' Ls (.long (x ^^^ z) :: S))) : WP p e below s n0 k n Q T (mkF m pc Ls (.long z :: .long x :: S)) := by
  obtain ⟨⟨hx, hZ, hby, hml, hown, hnm, hret, hlk, h00⟩, hT, locs, X, N⟩ := X
  subst hp
  exact w.step fun t kk => XS.lxor X.here hx rfl (hb hby hd) rfl kk
theorem w_ineg (X : St p l e R s m args below meth c Z n0 y code maxL ret T h cells slots) {x : Int32} (hd : decode code pc = .ok (.ineg, 1)) (hp : pc' = pc + 1) (w : WP p e below s n0 k n Q T (mkF m pc' Ls (.int (-x) :: S))) : WP p e below s n0 k n Q T (mkF m pc Ls (.int x :: S)) := by
  obtain ⟨⟨hx, hZ, hby, hml, hown, hnm, hret, hlk, h00⟩, hT, locs, X, N⟩ := X
  subst hp
  exact w.step fun t kk => XS.ineg X.here hx rfl (hb hby hd) rfl kk
theorem w_lneg (X : St p l e R s m args below meth c Z n0 y code maxL ret T h cells slots) {x : Int64} (hd : decode code pc = .ok (.lneg, 1)) (hp : pc' = pc + 1) (w : WP p e below s n0 k n Q T (mkF m pc' Ls (.long (-x) :: S))) : WP p e below s n0 k n Q T (mkF m pc Ls (.long x :: S)) := by
  obtain ⟨⟨hx, hZ, hby, hml, hown, hnm, hret, hlk, h00⟩, hT, locs, X, N⟩ := X
  subst hp
  exact w.step fun t kk => XS.lneg X.here hx rfl (hb hby hd) rfl kk
theorem w_idiv (X : St p l e R s m args below meth c Z n0 y code maxL ret T h cells slots) {x z : Int32} (hd : decode code pc = .ok (.idiv, 1)) (hz : z ≠ 0) (hp : pc' = pc + 1) (w : WP p e below s n0 k n Q T (mkF m pc' Ls (.int (x / z) :: S))) : WP p e below s n0 k n Q T (mkF m pc Ls (.int z :: .int x :: S)) := by
  obtain ⟨⟨hx, hZ, hby, hml, hown, hnm, hret, hlk, h00⟩, hT, locs, X, N⟩ := X
  subst hp
  exact w.step fun t kk => XS.idiv X.here hx rfl (hb hby hd) rfl hz kk
theorem w_irem (X : St p l e R s m args below meth c Z n0 y code maxL ret T h cells slots) {x z : Int32} (hd : decode code pc = .ok (.irem, 1)) (hz : z ≠ 0) (hp : pc' = pc + 1) (w : WP p e below s n0 k n Q T (mkF m pc' Ls (.int (x % z) :: S))) : WP p e below s n0 k n Q T (mkF m pc Ls (.int z :: .int x :: S)) := by
  obtain ⟨⟨hx, hZ, hby, hml, hown, hnm, hret, hlk, h00⟩, hT, locs, X, N⟩ := X
  subst hp
  exact w.step fun t kk => iremM X hx rfl (hb hby hd) rfl hz kk
theorem w_ldiv (X : St p l e R s m args below meth c Z n0 y code maxL ret T h cells slots) {x z : Int64} (hd : decode code pc = .ok (.ldiv, 1)) (hz : z ≠ 0) (hp : pc' = pc + 1) (w : WP p e below s n0 k n Q T (mkF m pc' Ls (.long (x / z) :: S))) : WP p e below s n0 k n Q T (mkF m pc Ls (.long z :: .long x :: S)) := by
  obtain ⟨⟨hx, hZ, hby, hml, hown, hnm, hret, hlk, h00⟩, hT, locs, X, N⟩ := X
  subst hp
  exact w.step fun t kk => XS.ldiv X.here hx rfl (hb hby hd) rfl hz kk
theorem w_lrem (X : St p l e R s m args below meth c Z n0 y code maxL ret T h cells slots) {x z : Int64} (hd : decode code pc = .ok (.lrem, 1)) (hz : z ≠ 0) (hp : pc' = pc + 1) (w : WP p e below s n0 k n Q T (mkF m pc' Ls (.long (x % z) :: S))) : WP p e below s n0 k n Q T (mkF m pc Ls (.long z :: .long x :: S)) := by
  obtain ⟨⟨hx, hZ, hby, hml, hown, hnm, hret, hlk, h00⟩, hT, locs, X, N⟩ := X
  subst hp
  exact w.step fun t kk => XS.lrem X.here hx rfl (hb hby hd) rfl hz (by rw [lrem_mod]; exact kk)
theorem w_ishl (X : St p l e R s m args below meth c Z n0 y code maxL ret T h cells slots) {x z : Int32} (hd : decode code pc = .ok (.ishl, 1)) (hp : pc' = pc + 1) (w : WP p e below s n0 k n Q T (mkF m pc' Ls (.int (x <<< (z &&& 31)) :: S))) : WP p e below s n0 k n Q T (mkF m pc Ls (.int z :: .int x :: S)) := by
  obtain ⟨⟨hx, hZ, hby, hml, hown, hnm, hret, hlk, h00⟩, hT, locs, X, N⟩ := X
  subst hp
  exact w.step fun t kk => XS.ishl X.here hx rfl (hb hby hd) rfl kk
theorem w_ishr (X : St p l e R s m args below meth c Z n0 y code maxL ret T h cells slots) {x z : Int32} (hd : decode code pc = .ok (.ishr, 1)) (hp : pc' = pc + 1) (w : WP p e below s n0 k n Q T (mkF m pc' Ls (.int (x >>> (z &&& 31)) :: S))) : WP p e below s n0 k n Q T (mkF m pc Ls (.int z :: .int x :: S)) := by
  obtain ⟨⟨hx, hZ, hby, hml, hown, hnm, hret, hlk, h00⟩, hT, locs, X, N⟩ := X
  subst hp
  exact w.step fun t kk => XS.ishr X.here hx rfl (hb hby hd) rfl kk
theorem w_iushr (X : St p l e R s m args below meth c Z n0 y code maxL ret T h cells slots) {x z : Int32} (hd : decode code pc = .ok (.iushr, 1)) (hp : pc' = pc + 1) (w : WP p e below s n0 k n Q T (mkF m pc' Ls (.int ((x.toUInt32 >>> (z &&& 31).toUInt32).toInt32) :: S))) : WP p e below s n0 k n Q T (mkF m pc Ls (.int z :: .int x :: S)) := by
  obtain ⟨⟨hx, hZ, hby, hml, hown, hnm, hret, hlk, h00⟩, hT, locs, X, N⟩ := X
  subst hp
  exact w.step fun t kk => XS.iushr X.here hx rfl (hb hby hd) rfl kk
theorem w_lshl (X : St p l e R s m args below meth c Z n0 y code maxL ret T h cells slots) {x : Int64} {z : Int32} (hd : decode code pc = .ok (.lshl, 1)) (hp : pc' = pc + 1) (w : WP p e below s n0 k n Q T (mkF m pc' Ls (.long (x <<< (z &&& 0x3f).toInt64) :: S))) : WP p e below s n0 k n Q T (mkF m pc Ls (.int z :: .long x :: S)) := by
  obtain ⟨⟨hx, hZ, hby, hml, hown, hnm, hret, hlk, h00⟩, hT, locs, X, N⟩ := X
  subst hp
  exact w.step fun t kk => XS.lshl X.here hx rfl (hb hby hd) rfl kk
theorem w_lshr (X : St p l e R s m args below meth c Z n0 y code maxL ret T h cells slots) {x : Int64} {z : Int32} (hd : decode code pc = .ok (.lshr, 1)) (hp : pc' = pc + 1) (w : WP p e below s n0 k n Q T (mkF m pc' Ls (.long (x >>> (z &&& 0x3f).toInt64) :: S))) : WP p e below s n0 k n Q T (mkF m pc Ls (.int z :: .long x :: S)) := by
  obtain ⟨⟨hx, hZ, hby, hml, hown, hnm, hret, hlk, h00⟩, hT, locs, X, N⟩ := X
  subst hp
  exact w.step fun t kk => XS.lshr X.here hx rfl (hb hby hd) rfl kk
theorem w_lushr (X : St p l e R s m args below meth c Z n0 y code maxL ret T h cells slots) {x : Int64} {z : Int32} (hd : decode code pc = .ok (.lushr, 1)) (hp : pc' = pc + 1) (w : WP p e below s n0 k n Q T (mkF m pc' Ls (.long ((x.toUInt64 >>> (z &&& 0x3f).toInt64.toUInt64).toInt64) :: S))) : WP p e below s n0 k n Q T (mkF m pc Ls (.int z :: .long x :: S)) := by
  obtain ⟨⟨hx, hZ, hby, hml, hown, hnm, hret, hlk, h00⟩, hT, locs, X, N⟩ := X
  subst hp
  exact w.step fun t kk => XS.lushr X.here hx rfl (hb hby hd) rfl kk
theorem w_i2b (X : St p l e R s m args below meth c Z n0 y code maxL ret T h cells slots) {x : Int32} (hd : decode code pc = .ok (.i2b, 1)) (hp : pc' = pc + 1) (w : WP p e below s n0 k n Q T (mkF m pc' Ls (.int x.toInt8.toInt32 :: S))) : WP p e below s n0 k n Q T (mkF m pc Ls (.int x :: S)) := by
  obtain ⟨⟨hx, hZ, hby, hml, hown, hnm, hret, hlk, h00⟩, hT, locs, X, N⟩ := X
  subst hp
  exact w.step fun t kk => XS.i2b X.here hx rfl (hb hby hd) rfl kk
theorem w_i2c (X : St p l e R s m args below meth c Z n0 y code maxL ret T h cells slots) {x : Int32} (hd : decode code pc = .ok (.i2c, 1)) (hp : pc' = pc + 1) (w : WP p e below s n0 k n Q T (mkF m pc' Ls (.int x.toUInt32.toUInt16.toUInt32.toInt32 :: S))) : WP p e below s n0 k n Q T (mkF m pc Ls (.int x :: S)) := by
  obtain ⟨⟨hx, hZ, hby, hml, hown, hnm, hret, hlk, h00⟩, hT, locs, X, N⟩ := X
  subst hp
  exact w.step fun t kk => XS.i2c X.here hx rfl (hb hby hd) rfl kk
theorem w_i2s (X : St p l e R s m args below meth c Z n0 y code maxL ret T h cells slots) {x : Int32} (hd : decode code pc = .ok (.i2s, 1)) (hp : pc' = pc + 1) (w : WP p e below s n0 k n Q T (mkF m pc' Ls (.int x.toInt16.toInt32 :: S))) : WP p e below s n0 k n Q T (mkF m pc Ls (.int x :: S)) := by
  obtain ⟨⟨hx, hZ, hby, hml, hown, hnm, hret, hlk, h00⟩, hT, locs, X, N⟩ := X
  subst hp
  exact w.step fun t kk => XS.i2s X.here hx rfl (hb hby hd) rfl kk
theorem w_i2l (X : St p l e R s m args below meth c Z n0 y code maxL ret T h cells slots) {x : Int32} (hd : decode code pc = .ok (.i2l, 1)) (hp : pc' = pc + 1) (w : WP p e below s n0 k n Q T (mkF m pc' Ls (.long x.toInt64 :: S))) : WP p e below s n0 k n Q T (mkF m pc Ls (.int x :: S)) := by
  obtain ⟨⟨hx, hZ, hby, hml, hown, hnm, hret, hlk, h00⟩, hT, locs, X, N⟩ := X
  subst hp
  exact w.step fun t kk => XS.i2l X.here hx rfl (hb hby hd) rfl kk
theorem w_l2i (X : St p l e R s m args below meth c Z n0 y code maxL ret T h cells slots) {x : Int64} (hd : decode code pc = .ok (.l2i, 1)) (hp : pc' = pc + 1) (w : WP p e below s n0 k n Q T (mkF m pc' Ls (.int x.toInt32 :: S))) : WP p e below s n0 k n Q T (mkF m pc Ls (.long x :: S)) := by
  obtain ⟨⟨hx, hZ, hby, hml, hown, hnm, hret, hlk, h00⟩, hT, locs, X, N⟩ := X
  subst hp
  exact w.step fun t kk => XS.l2i X.here hx rfl (hb hby hd) rfl kk
theorem w_lcmp (X : St p l e R s m args below meth c Z n0 y code maxL ret T h cells slots) {x z : Int64} (hd : decode code pc = .ok (.lcmp, 1)) (hp : pc' = pc + 1) (w : WP p e below s n0 k n Q T (mkF m pc' Ls (.int (lcmpW x z) :: S))) : WP p e below s n0 k n Q T (mkF m pc Ls (.long z :: .long x :: S)) := by
  obtain ⟨⟨hx, hZ, hby, hml, hown, hnm, hret, hlk, h00⟩, hT, locs, X, N⟩ := X
  subst hp
  exact w.step fun t kk => XS.lcmp X.here hx rfl (hb hby hd) rfl kk
theorem w_dup (X : St p l e R s m args below meth c Z n0 y code maxL ret T h cells slots) {v : Value} (hd : decode code pc = .ok (.dup, 1)) (hv : v.category = 1) (hp : pc' = pc + 1) (w : WP p e below s n0 k n Q T (mkF m pc' Ls (v :: v :: S))) : WP p e below s n0 k n Q T (mkF m pc Ls (v :: S)) := by
  obtain ⟨⟨hx, hZ, hby, hml, hown, hnm, hret, hlk, h00⟩, hT, locs, X, N⟩ := X
  subst hp
  exact w.step fun t kk => XS.dup X.here hx rfl (hb hby hd) rfl hv kk
theorem w_pop (X : St p l e R s m args below meth c Z n0 y code maxL ret T h cells slots) {v : Value} (hd : decode code pc = .ok (.pop, 1)) (hv : v.category = 1) (hp : pc' = pc + 1) (w : WP p e below s n0 k n Q T (mkF m pc' Ls (S))) : WP p e below s n0 k n Q T (mkF m pc Ls (v :: S)) := by
  obtain ⟨⟨hx, hZ, hby, hml, hown, hnm, hret, hlk, h00⟩, hT, locs, X, N⟩ := X
  subst hp
  exact w.step fun t kk => XS.pop X.here hx rfl (hb hby hd) rfl hv kk
theorem w_dup_x1 (X : St p l e R s m args below meth c Z n0 y code maxL ret T h cells slots) {v u : Value} (hd : decode code pc = .ok (.dup_x1, 1)) (hv : v.category = 1) (hu : u.category = 1) (hp : pc' = pc + 1) (w : WP p e below s n0 k n Q T (mkF m pc' Ls (v :: u :: v :: S))) : WP p e below s n0 k n Q T (mkF m pc Ls (v :: u :: S)) := by
  obtain ⟨⟨hx, hZ, hby, hml, hown, hnm, hret, hlk, h00⟩, hT, locs, X, N⟩ := X
  subst hp
  exact w.step fun t kk => XS.dupX1 X.here hx rfl (hb hby hd) rfl hv hu kk
theorem w_dup2 (X : St p l e R s m args below meth c Z n0 y code maxL ret T h cells slots) {j : Int32} {a : Addr} (hd : decode code pc = .ok (.dup2, 1)) (hp : pc' = pc + 1) (w : WP p e below s n0 k n Q T (mkF m pc' Ls (.int j :: .ref a :: .int j :: .ref a :: S))) : WP p e below s n0 k n Q T (mkF m pc Ls (.int j :: .ref a :: S)) := by
  obtain ⟨⟨hx, hZ, hby, hml, hown, hnm, hret, hlk, h00⟩, hT, locs, X, N⟩ := X
  subst hp
  refine w.step fun t kk => ?_
  have hd' := hb hby hd
  jvm_step X.here [X.here.top, hx, hd', Value.category]
  exact kk
theorem w_goto (X : St p l e R s m args below meth c Z n0 y code maxL ret T h cells slots) {o : Int} (hd : decode code pc = .ok (.goto o, 3)) (ho : 0 ≤ (pc : Int) + o) (hp : ((pc : Int) + o).toNat = pc') (w : WP p e below s n0 k n Q T (mkF m pc' Ls S)) : WP p e below s n0 k n Q T (mkF m pc Ls S) := by
  obtain ⟨⟨hx, hZ, hby, hml, hown, hnm, hret, hlk, h00⟩, hT, locs, X, N⟩ := X
  exact w.step fun t kk => XS.goto X.here hx rfl rfl (hb hby hd) ho hp kk
theorem w_icmp_lt (X : St p l e R s m args below meth c Z n0 y code maxL ret T h cells slots) {o : Int} {x z : Int32} {p1 p2 : Nat} (hd : decode code pc = .ok (.if_icmp .lt o, 3)) (ho : 0 ≤ (pc : Int) + o) (h1 : ((pc : Int) + o).toNat = p1) (h2 : p2 = pc + 3) (wt : x < z → WP p e below s n0 k n Q T (mkF m p1 Ls S)) (wf : ¬ x < z → WP p e below s n0 k n Q T (mkF m p2 Ls S)) : WP p e below s n0 k n Q T (mkF m pc Ls (.int z :: .int x :: S)) := by
  obtain ⟨⟨hx, hZ, hby, hml, hown, hnm, hret, hlk, h00⟩, hT, locs, X, N⟩ := X
  subst h2
  by_cases q0 : x < z
  · have q := q0
    exact (wt q).step fun t kk => XS.icmpYes X.here hx rfl rfl (hb hby hd) rfl (tlt q).1 ho h1 kk
  · have q := q0
    exact (wf q).step fun t kk => XS.icmpNo X.here hx rfl (hb hby hd) rfl (flt q).1 kk
theorem w_if_lt (X : St p l e R s m args below meth c Z n0 y code maxL ret T h cells slots) {o : Int} {x : Int32} {p1 p2 : Nat} (hd : decode code pc = .ok (.ifCond .lt o, 3)) (ho : 0 ≤ (pc : Int) + o) (h1 : ((pc : Int) + o).toNat = p1) (h2 : p2 = pc + 3) (wt : x < (0 : Int32) → WP p e below s n0 k n Q T (mkF m p1 Ls S)) (wf : ¬ x < (0 : Int32) → WP p e below s n0 k n Q T (mkF m p2 Ls S)) : WP p e below s n0 k n Q T (mkF m pc Ls (.int x :: S)) := by
  obtain ⟨⟨hx, hZ, hby, hml, hown, hnm, hret, hlk, h00⟩, hT, locs, X, N⟩ := X
  subst h2
  by_cases q0 : x < (0 : Int32)
  · have q := q0
    exact (wt q).step fun t kk => XS.ifYes X.here hx rfl rfl (hb hby hd) rfl ((if0 _ _).trans (tlt q).1) ho h1 kk
  · have q := q0
    exact (wf q).step fun t kk => XS.ifNo X.here hx rfl (hb hby hd) rfl ((if0 _ _).trans (flt q).1) kk
theorem w_lcmp_lt (X : St p l e R s m args below meth c Z n0 y code maxL ret T h cells slots) {o : Int} {x z : Int64} {p0 p1 p2 : Nat} (hd0 : decode code pc = .ok (.lcmp, 1)) (h0 : p0 = pc + 1) (hd : decode code p0 = .ok (.ifCond .lt o, 3)) (ho : 0 ≤ (p0 : Int) + o) (h1 : ((p0 : Int) + o).toNat = p1) (h2 : p2 = p0 + 3) (wt : x < z → WP p e below s n0 k n Q T (mkF m p1 Ls S)) (wf : ¬ x < z → WP p e below s n0 k n Q T (mkF m p2 Ls S)) : WP p e below s n0 k n Q T (mkF m pc Ls (.long z :: .long x :: S)) :=
  w_lcmp X hd0 h0 (w_if_lt X hd ho h1 h2 (fun q => wt ((lw_lt _ _).mp q)) (fun q => wf (fun u => q ((lw_lt _ _).mpr u))))
theorem w_icmp_ge (X : St p l e R s m args below meth c Z n0 y code maxL ret T h cells slots) {o : Int} {x z : Int32} {p1 p2 : Nat} (hd : decode code pc = .ok (.if_icmp .ge o, 3)) (ho : 0 ≤ (pc : Int) + o) (h1 : ((pc : Int) + o).toNat = p1) (h2 : p2 = pc + 3) (wt : ¬ x < z → WP p e below s n0 k n Q T (mkF m p1 Ls S)) (wf : x < z → WP p e below s n0 k n Q T (mkF m p2 Ls S)) : WP p e below s n0 k n Q T (mkF m pc Ls (.int z :: .int x :: S)) := by
  obtain ⟨⟨hx, hZ, hby, hml, hown, hnm, hret, hlk, h00⟩, hT, locs, X, N⟩ := X
  subst h2
  by_cases q0 : x < z
  · have q := q0
    exact (wf q).step fun t kk => XS.icmpNo X.here hx rfl (hb hby hd) rfl (tlt q).2.1 kk
  · have q := q0
    exact (wt q).step fun t kk => XS.icmpYes X.here hx rfl rfl (hb hby hd) rfl (flt q).2.1 ho h1 kk
theorem w_if_ge (X : St p l e R s m args below meth c Z n0 y code maxL ret T h cells slots) {o : Int} {x : Int32} {p1 p2 : Nat} (hd : decode code pc = .ok (.ifCond .ge o, 3)) (ho : 0 ≤ (pc : Int) + o) (h1 : ((pc : Int) + o).toNat = p1) (h2 : p2 = pc + 3) (wt : ¬ x < (0 : Int32) → WP p e below s n0 k n Q T (mkF m p1 Ls S)) (wf : x < (0 : Int32) → WP p e below s n0 k n Q T (mkF m p2 Ls S)) : WP p e below s n0 k n Q T (mkF m pc Ls (.int x :: S)) := by
  obtain ⟨⟨hx, hZ, hby, hml, hown, hnm, hret, hlk, h00⟩, hT, locs, X, N⟩ := X
  subst h2
  by_cases q0 : x < (0 : Int32)
  · have q := q0
    exact (wf q).step fun t kk => XS.ifNo X.here hx rfl (hb hby hd) rfl ((if0 _ _).trans (tlt q).2.1) kk
  · have q := q0
    exact (wt q).step fun t kk => XS.ifYes X.here hx rfl rfl (hb hby hd) rfl ((if0 _ _).trans (flt q).2.1) ho h1 kk
theorem w_lcmp_ge (X : St p l e R s m args below meth c Z n0 y code maxL ret T h cells slots) {o : Int} {x z : Int64} {p0 p1 p2 : Nat} (hd0 : decode code pc = .ok (.lcmp, 1)) (h0 : p0 = pc + 1) (hd : decode code p0 = .ok (.ifCond .ge o, 3)) (ho : 0 ≤ (p0 : Int) + o) (h1 : ((p0 : Int) + o).toNat = p1) (h2 : p2 = p0 + 3) (wt : ¬ x < z → WP p e below s n0 k n Q T (mkF m p1 Ls S)) (wf : x < z → WP p e below s n0 k n Q T (mkF m p2 Ls S)) : WP p e below s n0 k n Q T (mkF m pc Ls (.long z :: .long x :: S)) :=
  w_lcmp X hd0 h0 (w_if_ge X hd ho h1 h2 (fun q => wt (fun u => q ((lw_lt _ _).mpr u))) (fun q => wf ((lw_lt _ _).mp q)))
theorem w_icmp_gt (X : St p l e R s m args below meth c Z n0 y code maxL ret T h cells slots) {o : Int} {x z : Int32} {p1 p2 : Nat} (hd : decode code pc = .ok (.if_icmp .gt o, 3)) (ho : 0 ≤ (pc : Int) + o) (h1 : ((pc : Int) + o).toNat = p1) (h2 : p2 = pc + 3) (wt : z < x → WP p e below s n0 k n Q T (mkF m p1 Ls S)) (wf : ¬ z < x → WP p e below s n0 k n Q T (mkF m p2 Ls S)) : WP p e below s n0 k n Q T (mkF m pc Ls (.int z :: .int x :: S)) := by
  obtain ⟨⟨hx, hZ, hby, hml, hown, hnm, hret, hlk, h00⟩, hT, locs, X, N⟩ := X
  subst h2
  by_cases q0 : z < x
  · have q := q0
    exact (wt q).step fun t kk => XS.icmpYes X.here hx rfl rfl (hb hby hd) rfl (tlt q).2.2.1 ho h1 kk
  · have q := q0
    exact (wf q).step fun t kk => XS.icmpNo X.here hx rfl (hb hby hd) rfl (flt q).2.2.1 kk
theorem w_if_gt (X : St p l e R s m args below meth c Z n0 y code maxL ret T h cells slots) {o : Int} {x : Int32} {p1 p2 : Nat} (hd : decode code pc = .ok (.ifCond .gt o, 3)) (ho : 0 ≤ (pc : Int) + o) (h1 : ((pc : Int) + o).toNat = p1) (h2 : p2 = pc + 3) (wt : (0 : Int32) < x → WP p e below s n0 k n Q T (mkF m p1 Ls S)) (wf : ¬ (0 : Int32) < x → WP p e below s n0 k n Q T (mkF m p2 Ls S)) : WP p e below s n0 k n Q T (mkF m pc Ls (.int x :: S)) := by
  obtain ⟨⟨hx, hZ, hby, hml, hown, hnm, hret, hlk, h00⟩, hT, locs, X, N⟩ := X
  subst h2
  by_cases q0 : (0 : Int32) < x
  · have q := q0
    exact (wt q).step fun t kk => XS.ifYes X.here hx rfl rfl (hb hby hd) rfl ((if0 _ _).trans (tlt q).2.2.1) ho h1 kk
  · have q := q0
    exact (wf q).step fun t kk => XS.ifNo X.here hx rfl (hb hby hd) rfl ((if0 _ _).trans (flt q).2.2.1) kk
theorem w_lcmp_gt (X : St p l e R s m args below meth c Z n0 y code maxL ret T h cells slots) {o : Int} {x z : Int64} {p0 p1 p2 : Nat} (hd0 : decode code pc = .ok (.lcmp, 1)) (h0 : p0 = pc + 1) (hd : decode code p0 = .ok (.ifCond .gt o, 3)) (ho : 0 ≤ (p0 : Int) + o) (h1 : ((p0 : Int) + o).toNat = p1) (h2 : p2 = p0 + 3) (wt : z < x → WP p e below s n0 k n Q T (mkF m p1 Ls S)) (wf : ¬ z < x → WP p e below s n0 k n Q T (mkF m p2 Ls S)) : WP p e below s n0 k n Q T (mkF m pc Ls (.long z :: .long x :: S)) :=
  w_lcmp X hd0 h0 (w_if_gt X hd ho h1 h2 (fun q => wt ((lw_gt _ _).mp q)) (fun q => wf (fun u => q ((lw_gt _ _).mpr u))))
theorem w_icmp_le (X : St p l e R s m args below meth c Z n0 y code maxL ret T h cells slots) {o : Int} {x z : Int32} {p1 p2 : Nat} (hd : decode code pc = .ok (.if_icmp .le o, 3)) (ho : 0 ≤ (pc : Int) + o) (h1 : ((pc : Int) + o).toNat = p1) (h2 : p2 = pc + 3) (wt : ¬ z < x → WP p e below s n0 k n Q T (mkF m p1 Ls S)) (wf : z < x → WP p e below s n0 k n Q T (mkF m p2 Ls S)) : WP p e below s n0 k n Q T (mkF m pc Ls (.int z :: .int x :: S)) := by
  obtain ⟨⟨hx, hZ, hby, hml, hown, hnm, hret, hlk, h00⟩, hT, locs, X, N⟩ := X
  subst h2
  by_cases q0 : z < x
  · have q := q0
    exact (wf q).step fun t kk => XS.icmpNo X.here hx rfl (hb hby hd) rfl (tlt q).2.2.2 kk
  · have q := q0
    exact (wt q).step fun t kk => XS.icmpYes X.here hx rfl rfl (hb hby hd) rfl (flt q).2.2.2 ho h1 kk
theorem w_if_le (X : St p l e R s m args below meth c Z n0 y code maxL ret T h cells slots) {o : Int} {x : Int32} {p1 p2 : Nat} (hd : decode code pc = .ok (.ifCond .le o, 3)) (ho : 0 ≤ (pc : Int) + o) (h1 : ((pc : Int) + o).toNat = p1) (h2 : p2 = pc + 3) (wt : ¬ (0 : Int32) < x → WP p e below s n0 k n Q T (mkF m p1 Ls S)) (wf : (0 : Int32) < x → WP p e below s n0 k n Q T (mkF m p2 Ls S)) : WP p e below s n0 k n Q T (mkF m pc Ls (.int x :: S)) := by
  obtain ⟨⟨hx, hZ, hby, hml, hown, hnm, hret, hlk, h00⟩, hT, locs, X, N⟩ := X
  subst h2
  by_cases q0 : (0 : Int32) < x
  · have q := q0
    exact (wf q).step fun t kk => XS.ifNo X.here hx rfl (hb hby hd) rfl ((if0 _ _).trans (tlt q).2.2.2) kk
  · have q := q0
    exact (wt q).step fun t kk => XS.ifYes X.here hx rfl rfl (hb hby hd) rfl ((if0 _ _).trans (flt q).2.2.2) ho h1 kk
theorem w_lcmp_le (X : St p l e R s m args below meth c Z n0 y code maxL ret T h cells slots) {o : Int} {x z : Int64} {p0 p1 p2 : Nat} (hd0 : decode code pc = .ok (.lcmp, 1)) (h0 : p0 = pc + 1) (hd : decode code p0 = .ok (.ifCond .le o, 3)) (ho : 0 ≤ (p0 : Int) + o) (h1 : ((p0 : Int) + o).toNat = p1) (h2 : p2 = p0 + 3) (wt : ¬ z < x → WP p e below s n0 k n Q T (mkF m p1 Ls S)) (wf : z < x → WP p e below s n0 k n Q T (mkF m p2 Ls S)) : WP p e below s n0 k n Q T (mkF m pc Ls (.long z :: .long x :: S)) :=
  w_lcmp X hd0 h0 (w_if_le X hd ho h1 h2 (fun q => wt (fun u => q ((lw_gt _ _).mpr u))) (fun q => wf ((lw_gt _ _).mp q)))
theorem w_icmp_eq (X : St p l e R s m args below meth c Z n0 y code maxL ret T h cells slots) {o : Int} {x z : Int32} {p1 p2 : Nat} (hd : decode code pc = .ok (.if_icmp .eq o, 3)) (ho : 0 ≤ (pc : Int) + o) (h1 : ((pc : Int) + o).toNat = p1) (h2 : p2 = pc + 3) (wt : x = z → WP p e below s n0 k n Q T (mkF m p1 Ls S)) (wf : ¬ x = z → WP p e below s n0 k n Q T (mkF m p2 Ls S)) : WP p e below s n0 k n Q T (mkF m pc Ls (.int z :: .int x :: S)) := by
  obtain ⟨⟨hx, hZ, hby, hml, hown, hnm, hret, hlk, h00⟩, hT, locs, X, N⟩ := X
  subst h2
  by_cases q0 : x = z
  · have q := q0
    exact (wt q).step fun t kk => XS.icmpYes X.here hx rfl rfl (hb hby hd) rfl (teq q).1 ho h1 kk
  · have q := q0
    exact (wf q).step fun t kk => XS.icmpNo X.here hx rfl (hb hby hd) rfl (feq q).1 kk
theorem w_if_eq (X : St p l e R s m args below meth c Z n0 y code maxL ret T h cells slots) {o : Int} {x : Int32} {p1 p2 : Nat} (hd : decode code pc = .ok (.ifCond .eq o, 3)) (ho : 0 ≤ (pc : Int) + o) (h1 : ((pc : Int) + o).toNat = p1) (h2 : p2 = pc + 3) (wt : x = (0 : Int32) → WP p e below s n0 k n Q T (mkF m p1 Ls S)) (wf : ¬ x = (0 : Int32) → WP p e below s n0 k n Q T (mkF m p2 Ls S)) : WP p e below s n0 k n Q T (mkF m pc Ls (.int x :: S)) := by
  obtain ⟨⟨hx, hZ, hby, hml, hown, hnm, hret, hlk, h00⟩, hT, locs, X, N⟩ := X
  subst h2
  by_cases q0 : x = (0 : Int32)
  · have q := q0
    exact (wt q).step fun t kk => XS.ifYes X.here hx rfl rfl (hb hby hd) rfl ((if0 _ _).trans (teq q).1) ho h1 kk
  · have q := q0
    exact (wf q).step fun t kk => XS.ifNo X.here hx rfl (hb hby hd) rfl ((if0 _ _).trans (feq q).1) kk
theorem w_lcmp_eq (X : St p l e R s m args below meth c Z n0 y code maxL ret T h cells slots) {o : Int} {x z : Int64} {p0 p1 p2 : Nat} (hd0 : decode code pc = .ok (.lcmp, 1)) (h0 : p0 = pc + 1) (hd : decode code p0 = .ok (.ifCond .eq o, 3)) (ho : 0 ≤ (p0 : Int) + o) (h1 : ((p0 : Int) + o).toNat = p1) (h2 : p2 = p0 + 3) (wt : x = z → WP p e below s n0 k n Q T (mkF m p1 Ls S)) (wf : ¬ x = z → WP p e below s n0 k n Q T (mkF m p2 Ls S)) : WP p e below s n0 k n Q T (mkF m pc Ls (.long z :: .long x :: S)) :=
  w_lcmp X hd0 h0 (w_if_eq X hd ho h1 h2 (fun q => wt ((lw_eq _ _).mp q)) (fun q => wf (fun u => q ((lw_eq _ _).mpr u))))
theorem w_icmp_ne (X : St p l e R s m args below meth c Z n0 y code maxL ret T h cells slots) {o : Int} {x z : Int32} {p1 p2 : Nat} (hd : decode code pc = .ok (.if_icmp .ne o, 3)) (ho : 0 ≤ (pc : Int) + o) (h1 : ((pc : Int) + o).toNat = p1) (h2 : p2 = pc + 3) (wt : ¬ x = z → WP p e below s n0 k n Q T (mkF m p1 Ls S)) (wf : x = z → WP p e below s n0 k n Q T (mkF m p2 Ls S)) : WP p e below s n0 k n Q T (mkF m pc Ls (.int z :: .int x :: S)) := by
  obtain ⟨⟨hx, hZ, hby, hml, hown, hnm, hret, hlk, h00⟩, hT, locs, X, N⟩ := X
  subst h2
  by_cases q0 : x = z
  · have q := q0
    exact (wf q).step fun t kk => XS.icmpNo X.here hx rfl (hb hby hd) rfl (teq q).2 kk
  · have q := q0
    exact (wt q).step fun t kk => XS.icmpYes X.here hx rfl rfl (hb hby hd) rfl (feq q).2 ho h1 kk
theorem w_if_ne (X : St p l e R s m args below meth c Z n0 y code maxL ret T h cells slots) {o : Int} {x : Int32} {p1 p2 : Nat} (hd : decode code pc = .ok (.ifCond .ne o, 3)) (ho : 0 ≤ (pc : Int) + o) (h1 : ((pc : Int) + o).toNat = p1) (h2 : p2 = pc + 3) (wt : ¬ x = (0 : Int32) → WP p e below s n0 k n Q T (mkF m p1 Ls S)) (wf : x = (0 : Int32) → WP p e below s n0 k n Q T (mkF m p2 Ls S)) : WP p e below s n0 k n Q T (mkF m pc Ls (.int x :: S)) := by
  obtain ⟨⟨hx, hZ, hby, hml, hown, hnm, hret, hlk, h00⟩, hT, locs, X, N⟩ := X
  subst h2
  by_cases q0 : x = (0 : Int32)
  · have q := q0
    exact (wf q).step fun t kk => XS.ifNo X.here hx rfl (hb hby hd) rfl ((if0 _ _).trans (teq q).2) kk
  · have q := q0
    exact (wt q).step fun t kk => XS.ifYes X.here hx rfl rfl (hb hby hd) rfl ((if0 _ _).trans (feq q).2) ho h1 kk
theorem w_lcmp_ne (X : St p l e R s m args below meth c Z n0 y code maxL ret T h cells slots) {o : Int} {x z : Int64} {p0 p1 p2 : Nat} (hd0 : decode code pc = .ok (.lcmp, 1)) (h0 : p0 = pc + 1) (hd : decode code p0 = .ok (.ifCond .ne o, 3)) (ho : 0 ≤ (p0 : Int) + o) (h1 : ((p0 : Int) + o).toNat = p1) (h2 : p2 = p0 + 3) (wt : ¬ x = z → WP p e below s n0 k n Q T (mkF m p1 Ls S)) (wf : x = z → WP p e below s n0 k n Q T (mkF m p2 Ls S)) : WP p e below s n0 k n Q T (mkF m pc Ls (.long z :: .long x :: S)) :=
  w_lcmp X hd0 h0 (w_if_ne X hd ho h1 h2 (fun q => wt (fun u => q ((lw_eq _ _).mpr u))) (fun q => wf ((lw_eq _ _).mp q)))
theorem w_ifnull_ref (X : St p l e R s m args below meth c Z n0 y code maxL ret T h cells slots) {o : Int} {a : Addr} (hd : decode code pc = .ok (.ifnull o, 3)) (hp : pc' = pc + 3) (w : WP p e below s n0 k n Q T (mkF m pc' Ls S)) : WP p e below s n0 k n Q T (mkF m pc Ls (.ref a :: S)) := by
  obtain ⟨⟨hx, hZ, hby, hml, hown, hnm, hret, hlk, h00⟩, hT, locs, X, N⟩ := X
  subst hp
  exact w.step fun t kk => XS.ifnullNo X.here hx rfl (hb hby hd) rfl kk
theorem w_end (X : St p l e R s m args below meth c Z n0 y code maxL ret T h cells slots) {g : JFrame} {v : Option Value} (hv : ret = none → v = none) (hk : cells ≤ k) (hn : slots ≤ n) (hq : Q v h)
    (st : ∀ (locs : List Loc) (fs : List Frame), p.tables.exec = Jvm.exec → c.code = code → meth.sig.returnType = ret → Stand p l e R s m args below meth c T locs cells slots → (∀ (f : JFrame) (acts : List Action), f.method = m → f.locked = none → f.entered = [] → (doReturn e (T.setTop f) acts v).1 = T.setFrames fs) → Steps p.tables e below (T.setTop g) (T.setFrames fs)) : WP p e below s n0 k n Q T g := by
  obtain ⟨⟨hx, hZ, hby, hml, hown, hnm, hret, hlk, h00⟩, hT, locs, X, N⟩ := X
  obtain ⟨fs, hr, hrun, hended, hW, hsame⟩ := X.leave (v := v) (fun q => hv (hret ▸ q)) hlk
  refine ⟨_, _, st locs fs hx hby hret X hr, hrun, hended, _, _, rfl, ⟨?_, N⟩, ⟨_, rfl⟩, hW, hsame.mono hk hn⟩
  show Q v T.heap
  rw [hT]; exact hq
theorem w_retI (X : St p l e R s m args below meth c Z n0 y code maxL ret T h cells slots) {z : Int32} (hr : ret = some .int) (hd : decode code pc = .ok (.ireturn, 1)) (hk : cells ≤ k) (hn : slots ≤ n) (hq : Q (some (.int z)) h) : WP p e below s n0 k n Q T (mkF m pc Ls (.int z :: S)) :=
  w_end X (v := some (.int z)) (fun q => by rw [hr] at q; cases q) hk hn hq fun locs fs hx hby hret X hl => retOut X hx (hret.trans hr) rfl (Or.inl ⟨rfl, Or.inl rfl, z, rfl⟩) (hb hby hd) hl
theorem w_retJ (X : St p l e R s m args below meth c Z n0 y code maxL ret T h cells slots) {z : Int64} (hr : ret = some .long) (hd : decode code pc = .ok (.lreturn, 1)) (hk : cells ≤ k) (hn : slots ≤ n) (hq : Q (some (.long z)) h) : WP p e below s n0 k n Q T (mkF m pc Ls (.long z :: S)) :=
  w_end X (v := some (.long z)) (fun q => by rw [hr] at q; cases q) hk hn hq fun locs fs hx hby hret X hl => retOut X hx (hret.trans hr) rfl (Or.inr (Or.inl ⟨rfl, rfl, z, rfl⟩)) (hb hby hd) hl
theorem w_retA (X : St p l e R s m args below meth c Z n0 y code maxL ret T h cells slots) {a : Addr} {t : FieldType} (hr : ret = some t) (ht : t.isReference = true) (hnn : narrow t (.ref a) = .ref a) (hd : decode code pc = .ok (.areturn, 1)) (hk : cells ≤ k) (hn : slots ≤ n) (hq : Q (some (.ref a)) h) : WP p e below s n0 k n Q T (mkF m pc Ls (.ref a :: S)) :=
  w_end X (v := some (.ref a)) (fun q => by rw [hr] at q; cases q) hk hn hq fun locs fs hx hby hret X hl => retOut X hx (hret.trans hr) hnn (Or.inr (Or.inr (Or.inr (Or.inr ⟨rfl, ht, rfl⟩)))) (hb hby hd) hl
theorem w_retN (X : St p l e R s m args below meth c Z n0 y code maxL ret T h cells slots) {z z' : Int32} {t : FieldType} (hr : ret = some t) (ht : t = .boolean ∨ t = .byte ∨ t = .char ∨ t = .short) (hd : decode code pc = .ok (.ireturn, 1)) (hz : nar t z = z') (hk : cells ≤ k) (hn : slots ≤ n) (hq : Q (some (.int z')) h) : WP p e below s n0 k n Q T (mkF m pc Ls (.int z :: S)) :=
  w_end X (v := some (.int z')) (fun q => by rw [hr] at q; cases q) hk hn hq fun locs fs hx hby hret X hl => retN X hx (hret.trans hr) ht (hb hby hd) (by rw [hz]; exact hl)
theorem w_retZ (X : St p l e R s m args below meth c Z n0 y code maxL ret T h cells slots) {z : Int32} (hr : ret = some .boolean) (hd : decode code pc = .ok (.ireturn, 1)) (hz : z &&& 1 = z) (hk : cells ≤ k) (hn : slots ≤ n) (hq : Q (some (.int z)) h) : WP p e below s n0 k n Q T (mkF m pc Ls (.int z :: S)) :=
  w_retN X hr (Or.inl rfl) hd hz hk hn hq
theorem w_retV (X : St p l e R s m args below meth c Z n0 y code maxL ret T h cells slots) (hr : ret = none) (hd : decode code pc = .ok (.return_, 1)) (hk : cells ≤ k) (hn : slots ≤ n) (hq : Q none h) : WP p e below s n0 k n Q T (mkF m pc Ls []) :=
  w_end X (v := none) (fun _ => rfl) hk hn hq fun locs fs hx hby hret X hl => X.returnOut hx (hret.trans hr) (hb hby hd) hl
theorem St.of_back (X : St p l e R s m args below meth c Z n0 y code maxL ret T h cells slots) {locs : List Loc} (N : Fr n0 locs) {T' : State} {L' : List Loc} {cells' slots' : Nat} (X' : Stand p l e R s m args below meth c T' (locs ++ L') cells' slots') (N' : Fr n0 L') : St p l e R s m args below meth c Z n0 y code maxL ret T' T'.heap cells' slots' :=
  ⟨X.1, rfl, _, X', N.app N'⟩
theorem w_callS (X : St p l e R s m args below meth c Z n0 y code maxL ret T h cells slots) {z : MethodName} {idx : Nat} {code' : ByteArray} {maxL' : Nat} {ret' : Option FieldType} {rm : Room} (argsL rest : List Value) {Q' : Option Value → Heap → Prop} {ps : List FieldType} {r : Option FieldType} (W : Nat)
    (wl : (Jvm.Cond.methodLink y.cls idx z).before a0 Z = true) (wt : (Jvm.Cond.static z).before a0 Z = true) (wi : (Jvm.Cond.initialized z.cls).before a0 Z = true) (wc : (Jvm.Cond.code z code' maxL' ret').before a0 Z = true)
    (ct : Ct l Z z code' maxL' ret' rm argsL.toArray h n0 Q') (hd : decode code pc = .ok (.invokestatic idx, 3)) (pd : parseMethodDescriptor z.desc = some ⟨ps, r⟩) (hlen : argsL.length = ps.length) (hy : z.cls ≠ "java/lang/invoke/MethodHandle" ∧ z.cls ≠ "java/lang/invoke/VarHandle")
    (hsz : Ls.size = maxL) (hS : S = argsL.reverse ++ rest) (hW : (rest.map fun v => v.category).sum = W) (hfr : rm.frames + 1 ≤ R.frames) (hlo : W + (maxL' + 11) + rm.locals ≤ R.locals) (hc : cells + rm.cells ≤ R.cells) (hs : slots + rm.slots ≤ R.slots) (hp : pc' = pc + 3)
    (w : ∀ T' h' v, St p l e R s m args below meth c Z n0 y code maxL ret T' h' (cells + rm.cells) (slots + rm.slots) → Q' v h' → WP p e below s n0 k n Q T' (mkF m pc' Ls (v.toList ++ rest))) : WP p e below s n0 k n Q T (mkF m pc Ls S) := by
  have X1 := X
  obtain ⟨⟨hx, hZ, hby, hml, hown, hnm, hret, hlk, h00⟩, hT, locs, X, N⟩ := X
  subst hp hS
  obtain ⟨v, _, ⟨T', L', k', n'⟩, -, X', ⟨Lc, hQ, l1, y1, z1⟩, st⟩ := Jvm.LawKit.callS X hx (y := z) hown (mvT hZ wl) (mvT hZ wt) (mvT hZ wi) (mvT hZ wc) hy (backOf (W := W) (Q := fun v h L => Q' v h ∧ Fr n0 L) (ct []) hZ wc wi hfr hlo) (g := mkF m pc Ls (argsL.reverse ++ rest)) rfl (hsz.trans hml.symm) (argsL := argsL) (rest := rest) (lenOf pd hlen) rfl (by show 2 * 0 + _ ≤ _; omega) (hb hby hd) (fun _ _ => ⟨rfl, hT, hc, hs⟩)
  dsimp only [Pt.U, Pt.locs, Pt.cells, Pt.slots] at X' l1 y1 z1 st hQ
  subst l1 y1 z1
  exact (w T' T'.heap v (X1.of_back N X' hQ.2) hQ.1).step fun t kk => st t kk
theorem w_callV (X : St p l e R s m args below meth c Z n0 y code maxL ret T h cells slots) {z : MethodName} {C : String} {idx : Nat} {code' : ByteArray} {maxL' : Nat} {ret' : Option FieldType} {rm : Room} {a : Addr} (argsL rest : List Value) {Q' : Option Value → Heap → Prop} {ps : List FieldType} {r : Option FieldType} (W : Nat)
    (wl : (Jvm.Cond.methodLink y.cls idx z).before a0 Z = true) (wdc : (Jvm.Cond.declares z).before a0 Z = true) (wsel : (Jvm.Cond.selects C z z).before a0 Z = true) (wt : (Jvm.Cond.instanceMethod z).before a0 Z = true) (wi : (Jvm.Cond.initialized z.cls).before a0 Z = true) (wc : (Jvm.Cond.code z code' maxL' ret').before a0 Z = true)
    (E : Exa Z h a C) (ct : Ct l Z z code' maxL' ret' rm (.ref a :: argsL).toArray h n0 Q') (hd : decode code pc = .ok (.invokevirtual idx, 3)) (pd : parseMethodDescriptor z.desc = some ⟨ps, r⟩) (hlen : argsL.length = ps.length) (hy : z.cls ≠ "java/lang/invoke/MethodHandle" ∧ z.cls ≠ "java/lang/invoke/VarHandle")
    (hsz : Ls.size = maxL) (hS : S = argsL.reverse ++ .ref a :: rest) (hW : (rest.map fun v => v.category).sum = W) (hfr : rm.frames + 1 ≤ R.frames) (hlo : W + (maxL' + 11) + rm.locals ≤ R.locals) (hc : cells + rm.cells ≤ R.cells) (hs : slots + rm.slots ≤ R.slots) (hp : pc' = pc + 3)
    (w : ∀ T' h' v, St p l e R s m args below meth c Z n0 y code maxL ret T' h' (cells + rm.cells) (slots + rm.slots) → Q' v h' → WP p e below s n0 k n Q T' (mkF m pc' Ls (v.toList ++ rest))) : WP p e below s n0 k n Q T (mkF m pc Ls S) := by
  have X1 := X
  obtain ⟨⟨hx, hZ, hby, hml, hown, hnm, hret, hlk, h00⟩, hT, locs, X, N⟩ := X
  subst hp hS
  obtain ⟨cq, kq, qa, qb, qc⟩ := isOf hZ hT E
  obtain ⟨v, _, ⟨T', L', k', n'⟩, -, X', ⟨Lc, hQ, l1, y1, z1⟩, st⟩ := X.virtualBack hx (y := z) (z := z) hown (mvT hZ wl) (mvT hZ wdc) (notFace_of_selects (args := #[]) (mvT hZ wsel)) (mvT hZ wsel) (mvT hZ wt) hy (backOf (W := W) (Q := fun v h L => Q' v h ∧ Fr n0 L) (ct []) hZ wc wi hfr hlo) qa qc (g := mkF m pc Ls (argsL.reverse ++ .ref a :: rest)) rfl (hsz.trans hml.symm) (Steps.refl _) (argsL := argsL) (rest := rest) (lenOf pd hlen) rfl (by show 2 * 0 + _ ≤ _; omega) (hb hby hd) (fun _ _ => ⟨rfl, hT, hc, hs⟩)
  dsimp only [Pt.U, Pt.locs, Pt.cells, Pt.slots] at X' l1 y1 z1 st hQ
  subst l1 y1 z1
  exact (w T' T'.heap v (X1.of_back N X' hQ.2) hQ.1).trans st
theorem w_callC (X : St p l e R s m args below meth c Z n0 y code maxL ret T h cells slots) {z : MethodName} {idx : Nat} {code' : ByteArray} {maxL' : Nat} {rm : Room} {a : Addr} (argsL rest : List Value) {Q' : Option Value → Heap → Prop} {ps : List FieldType} {r : Option FieldType} (W : Nat)
    (hi : z.name = "<init>") (wl : (Jvm.Cond.methodLink y.cls idx z).before a0 Z = true) (wt : (Jvm.Cond.instanceMethod z).before a0 Z = true) (wi : (Jvm.Cond.initialized z.cls).before a0 Z = true) (wc : (Jvm.Cond.code z code' maxL' none).before a0 Z = true)
    (ct : Ct l Z z code' maxL' none rm (.ref a :: argsL).toArray h n0 Q') (hd : decode code pc = .ok (.invokespecial idx, 3)) (pd : parseMethodDescriptor z.desc = some ⟨ps, r⟩) (hlen : argsL.length = ps.length) (hy : z.cls ≠ "java/lang/invoke/MethodHandle" ∧ z.cls ≠ "java/lang/invoke/VarHandle")
    (hsz : Ls.size = maxL) (hS : S = argsL.reverse ++ .ref a :: rest) (hW : (rest.map fun v => v.category).sum = W) (hfr : rm.frames + 1 ≤ R.frames) (hlo : W + (maxL' + 11) + rm.locals ≤ R.locals) (hc : cells + rm.cells ≤ R.cells) (hs : slots + rm.slots ≤ R.slots) (hp : pc' = pc + 3)
    (w : ∀ T' h' v, St p l e R s m args below meth c Z n0 y code maxL ret T' h' (cells + rm.cells) (slots + rm.slots) → Q' v h' → WP p e below s n0 k n Q T' (mkF m pc' Ls (v.toList ++ rest))) : WP p e below s n0 k n Q T (mkF m pc Ls S) := by
  have X1 := X
  obtain ⟨⟨hx, hZ, hby, hml, hown, hnm, hret, hlk, h00⟩, hT, locs, X, N⟩ := X
  subst hp hS
  obtain ⟨v, _, ⟨T', L', k', n'⟩, -, X', ⟨Lc, hQ, l1, y1, z1⟩, st⟩ := X.specialBack hx (y := z) hi hown (mvT hZ wl) (mvT hZ wt) (mvT hZ wc) hy (backOf (W := W) (Q := fun v h L => Q' v h ∧ Fr n0 L) (ct []) hZ wc wi hfr hlo) (g := mkF m pc Ls (argsL.reverse ++ .ref a :: rest)) rfl (hsz.trans hml.symm) (Steps.refl _) (a := a) (argsL := argsL) (rest := rest) (lenOf pd hlen) rfl (by show 2 * 0 + _ ≤ _; omega) (hb hby hd) (fun _ _ => ⟨rfl, hT, hc, hs⟩)
  dsimp only [Pt.U, Pt.locs, Pt.cells, Pt.slots] at X' l1 y1 z1 st hQ
  subst l1 y1 z1
  exact (w T' T'.heap v (X1.of_back N X' hQ.2) hQ.1).trans st
theorem w_callP (X : St p l e R s m args below meth c Z n0 y code maxL ret T h cells slots) {z z0 : MethodName} {idx : Nat} {code' : ByteArray} {maxL' : Nat} {ret' : Option FieldType} {rm : Room} {a : Addr} (argsL rest : List Value) {Q' : Option Value → Heap → Prop} {ps : List FieldType} {r : Option FieldType} (W : Nat)
    (wl : (Jvm.Cond.methodLink y.cls idx z).before a0 Z = true) (wt : (Jvm.Cond.instanceMethod z).before a0 Z = true) (wp : (Jvm.Cond.privateMethod z).before a0 Z = true) (wsel : (Jvm.Cond.selects z0.cls z0 z0).before a0 Z = true) (h0 : z0.cls = z.cls) (wi : (Jvm.Cond.initialized z.cls).before a0 Z = true) (wc : (Jvm.Cond.code z code' maxL' ret').before a0 Z = true)
    (E : Exa Z h a z.cls) (ct : Ct l Z z code' maxL' ret' rm (.ref a :: argsL).toArray h n0 Q') (hd : decode code pc = .ok (.invokevirtual idx, 3)) (pd : parseMethodDescriptor z.desc = some ⟨ps, r⟩) (hlen : argsL.length = ps.length) (hy : z.cls ≠ "java/lang/invoke/MethodHandle" ∧ z.cls ≠ "java/lang/invoke/VarHandle")
    (hsz : Ls.size = maxL) (hS : S = argsL.reverse ++ .ref a :: rest) (hW : (rest.map fun v => v.category).sum = W) (hfr : rm.frames + 1 ≤ R.frames) (hlo : W + (maxL' + 11) + rm.locals ≤ R.locals) (hc : cells + rm.cells ≤ R.cells) (hs : slots + rm.slots ≤ R.slots) (hp : pc' = pc + 3)
    (w : ∀ T' h' v, St p l e R s m args below meth c Z n0 y code maxL ret T' h' (cells + rm.cells) (slots + rm.slots) → Q' v h' → WP p e below s n0 k n Q T' (mkF m pc' Ls (v.toList ++ rest))) : WP p e below s n0 k n Q T (mkF m pc Ls S) := by
  have X1 := X
  obtain ⟨⟨hx, hZ, hby, hml, hown, hnm, hret, hlk, h00⟩, hT, locs, X, N⟩ := X
  subst hp hS
  obtain ⟨cq, q, q'⟩ := E.cell
  obtain ⟨c2, r2, m2, e1, e2, e3, e4, kP, hkP, hkPi⟩ := Cond.selects_spec (mvT (args := args) hZ wsel)
  have e5 : s.vm.findClass z.cls = some m2.cls := h0 ▸ findClass_of_methodNamed e3
  have hpr : s.PrivateAt z := Cond.privateMethod_at (mvP hZ wp (args := args))
  have hsel : (Jvm.Cond.selects z.cls z z).before args s = true := selects_self_of_private e5 hkP hkPi hpr (mvT hZ wt) hy
  obtain ⟨v, _, ⟨T', L', k', n'⟩, -, X', ⟨Lc, hQ, l1, y1, z1⟩, st⟩ := X.privateBack hx (y := z) hown (mvT hZ wl) (mvT hZ wt) hsel hpr (mvT hZ wc) hy (backOf (W := W) (Q := fun v h L => Q' v h ∧ Fr n0 L) (ct []) hZ wc wi hfr hlo) (g := mkF m pc Ls (argsL.reverse ++ .ref a :: rest)) rfl (hsz.trans hml.symm) (Steps.refl _) (a := a) (by rw [hT]; exact q) q' (argsL := argsL) (rest := rest) (lenOf pd hlen) rfl (by show 2 * 0 + _ ≤ _; omega) (hb hby hd) (fun _ _ => ⟨rfl, hT, hc, hs⟩)
  dsimp only [Pt.U, Pt.locs, Pt.cells, Pt.slots] at X' l1 y1 z1 st hQ
  subst l1 y1 z1
  exact (w T' T'.heap v (X1.of_back N X' hQ.2) hQ.1).trans st
theorem w_initO (X : St p l e R s m args below meth c Z n0 y code maxL ret T h cells slots) {idx : Nat} {a : Addr} {W : Nat} (w1 : (Jvm.Cond.methodLink y.cls idx Lib.objectInit).before a0 Z = true) (w2 : (Jvm.Cond.instanceMethod Lib.objectInit).before a0 Z = true) (w3 : (Jvm.Cond.code Lib.objectInit ⟨#[0xb1]⟩ 1 none).before a0 Z = true)
    (hd : decode code pc = .ok (.invokespecial idx, 3)) (hsz : Ls.size = maxL) (hf : 1 ≤ R.frames) (hW : (S.map fun v => v.category).sum = W) (hl : W + 12 ≤ R.locals) (hp : pc' = pc + 3)
    (w : ∀ T', St p l e R s m args below meth c Z n0 y code maxL ret T' h cells slots → WP p e below s n0 k n Q T' (mkF m pc' Ls S)) : WP p e below s n0 k n Q T (mkF m pc Ls (.ref a :: S)) := by
  have X1 := X
  obtain ⟨⟨hx, hZ, hby, hml, hown, hnm, hret, hlk, h00⟩, hT, locs, X, N⟩ := X
  subst hp
  obtain ⟨T', X', e', st⟩ := initO X hx hZ hown w1 w2 w3 hT (g := mkF m pc Ls (.ref a :: S)) rfl (hsz.trans hml.symm) rfl (hb hby hd) hf (W := W) (by show 2 * 0 + _ ≤ _; omega) hl
  exact (w T' ⟨X1.1, e', locs, X', N⟩).step st
theorem w_getF (X : St p l e R s m args below meth c Z n0 y code maxL ret T h cells slots) {idx : Nat} {O nm d : String} {a : Addr} {v : Value} (wl : (Jvm.Cond.fieldLink y.cls idx O nm d).before a0 Z = true) (F : Fld Z h a O nm d v) (hd : decode code pc = .ok (.getfield idx, 3)) (hp : pc' = pc + 3)
    (w : ∀ T', St p l e R s m args below meth c Z n0 y code maxL ret T' h cells slots → WP p e below s n0 k n Q T' (mkF m pc' Ls (v :: S))) : WP p e below s n0 k n Q T (mkF m pc Ls (.ref a :: S)) := by
  have X1 := X
  obtain ⟨⟨hx, hZ, hby, hml, hown, hnm, hret, hlk, h00⟩, hT, locs, X, N⟩ := X
  subst hp
  obtain ⟨T', X', e', st⟩ := getF X hx hZ hown (host := "") (Or.inl wl) Via.refl hT F (g := mkF m pc Ls (.ref a :: S)) rfl rfl (hb hby hd)
  exact (w T' ⟨X1.1, e', locs, X', N⟩).step st
theorem w_putF (X : St p l e R s m args below meth c Z n0 y code maxL ret T h cells slots) {idx kk : Nat} {O nm d C : String} {ty : FieldType} {a : Addr} {v v' old : Value} (wl : (Jvm.Cond.fieldLink y.cls idx O nm d).before a0 Z = true) (F : Fld Z h a O nm d old) (E : Exa Z h a C) (L : (Jvm.Cond.lays C O nm d).before a0 Z = true ∨ ((Jvm.Cond.laysFinal C O nm d).before a0 Z = true ∧ y.cls = O ∧ y.name = "<init>")) (wi : (Jvm.Cond.instantiable C kk).before a0 Z = true) (ga : n0 ≤ a)
    (hd : decode code pc = .ok (.putfield idx, 3)) (hty : parseFieldDescriptor d = some ty) (hv : narrow ty v = v') (hf : fits ty v' = true) (hp : pc' = pc + 3)
    (w : ∀ T' h', St p l e R s m args below meth c Z n0 y code maxL ret T' h' cells slots → Wr h h' a (Jvm.RoadKit.slotOf Z O nm d) v' → WP p e below s n0 k n Q T' (mkF m pc' Ls S)) : WP p e below s n0 k n Q T (mkF m pc Ls (v :: .ref a :: S)) := by
  have X1 := X
  obtain ⟨⟨hx, hZ, hby, hml, hown, hnm, hret, hlk, h00⟩, hT, locs, X, N⟩ := X
  subst hp
  obtain ⟨T', h', X', e', W', st⟩ := putFN X hx hZ hown wl Via.refl hT F E (L.imp id fun q => ⟨q.1, q.2.1, hnm.trans q.2.2⟩) wi hty hv hf (g := mkF m pc Ls (v :: .ref a :: S)) rfl rfl (hb hby hd)
  exact (w T' h' ⟨X1.1, e', _, X', Fr.snoc X' N ga⟩ W').step st
theorem w_new (X : St p l e R s m args below meth c Z n0 y code maxL ret T h cells slots) {idx nn : Nat} {C : String} (wl : (Jvm.Cond.classLink y.cls idx C).before a0 Z = true) (wi : (Jvm.Cond.instantiable C nn).before a0 Z = true) (wz : (Jvm.Cond.initialized C).before a0 Z = true) (hd : decode code pc = .ok (.new idx, 3)) (hc : cells + 1 ≤ R.cells) (hl : slots + nn ≤ R.slots) (hp : pc' = pc + 3)
    (w : ∀ T' h' a, St p l e R s m args below meth c Z n0 y code maxL ret T' h' (cells + 1) (slots + nn) → a = h.size → n0 ≤ a → Ext h h' → Exa Z h' a C → (∀ {O f d : String} {ty : FieldType}, Laid Z a0 C O f d → parseFieldDescriptor d = some ty → Fld Z h' a O f d (defaultValue ty)) → WP p e below s n0 k n Q T' (mkF m pc' Ls (.ref a :: S))) : WP p e below s n0 k n Q T (mkF m pc Ls S) := by
  have X1 := X
  obtain ⟨⟨hx, hZ, hby, hml, hown, hnm, hret, hlk, h00⟩, hT, locs, X, N⟩ := X
  subst hp
  obtain ⟨T', h', X', e', E', A', D', -, st⟩ := newO X hx hZ hown wl wi wz hT (g := mkF m pc Ls S) rfl (hb hby hd) hc hl
  exact (w T' h' h.size ⟨X1.1, e', _, X', N⟩ rfl X1.n0le E' A' D').step st
theorem w_newarray (X : St p l e R s m args below meth c Z n0 y code maxL ret T h cells slots) {aty : ArrayType} {sz : Int32} (cap : Nat) (wa : (Jvm.Cond.arrayClass (newarray.typeOf aty)).before a0 Z = true) (hd : decode code pc = .ok (.newarray aty, 2)) (hz : ¬ sz < 0) (hcap : sz.toNatClampNeg ≤ cap) (hbig : cap * 8 ≤ 536870912) (hc : cells + 1 ≤ R.cells) (hl : slots + cap ≤ R.slots) (hp : pc' = pc + 2)
    (w : ∀ T' h' a cA, St p l e R s m args below meth c Z n0 y code maxL ret T' h' (cells + 1) (slots + cap) → a = h.size → n0 ≤ a → Ext h h' → Arr Z h' a (newA cA (newarray.typeOf aty) sz) (newarray.typeOf aty) → WP p e below s n0 k n Q T' (mkF m pc' Ls (.ref a :: S))) : WP p e below s n0 k n Q T (mkF m pc Ls (.int sz :: S)) := by
  have X1 := X
  obtain ⟨⟨hx, hZ, hby, hml, hown, hnm, hret, hlk, h00⟩, hT, locs, X, N⟩ := X
  subst hp
  obtain ⟨T', h', cA, X', e', E', A', st⟩ := newP X hx hZ wa hT (g := mkF m pc Ls (.int sz :: S)) rfl (hb hby hd) rfl hz hcap hbig hc hl
  exact (w T' h' h.size cA ⟨X1.1, e', _, X', N⟩ rfl X1.n0le E' A').step st
/-- the array at a: its kind, its length, what stands at each place -/
def AV (Z : State) (h : Heap) (a : Addr) (ty : FieldType) (n : Nat) (f : Nat → Value) : Prop := ∃ c : Cell, Arr Z h a c ty ∧ c.slots.size = n ∧ n < 2 ^ 31 ∧ ∀ i, i < n → c.slots[i]? = some (f i)
theorem AV.ext {a : Addr} {ty : FieldType} {n : Nat} {f : Nat → Value} {h' : Heap} (A : AV Z h a ty n f) (E : Ext h h') : AV Z h' a ty n f := by
  obtain ⟨c, A, r⟩ := A; exact ⟨c, A.ext E, r⟩
theorem AV.keep {a : Addr} {ty : FieldType} {n : Nat} {f : Nat → Value} {h' : Heap} {ws : List Addr} (A : AV Z h a ty n f) (K : Keep h h' ws) (q : a ∉ ws) : AV Z h' a ty n f := by
  obtain ⟨c, A, r⟩ := A; exact ⟨c, ⟨K.2.1 a c A.1 q, A.2⟩, r⟩
theorem AV.lt {a : Addr} {ty : FieldType} {n : Nat} {f : Nat → Value} (A : AV Z h a ty n f) : a < h.size := by
  obtain ⟨c, A, r⟩ := A; exact A.lt
theorem AV.len {a : Addr} {ty : FieldType} {n : Nat} {f : Nat → Value} (A : AV Z h a ty n f) : n < 2 ^ 31 := by
  obtain ⟨c, A, r⟩ := A; exact r.2.1
theorem AV.congr {a : Addr} {ty : FieldType} {n : Nat} {f g : Nat → Value} (A : AV Z h a ty n f) (q : ∀ i, i < n → f i = g i) : AV Z h a ty n g := by
  obtain ⟨c, A, r1, r2, r3⟩ := A; exact ⟨c, A, r1, r2, fun i hi => by rw [← q i hi]; exact r3 i hi⟩
theorem AV.new {a : Addr} {ty : FieldType} {sz : Int32} {cA : ClassId} {n : Nat} (A : Arr Z h a (newA cA ty sz) ty) (hn : sz.toInt = n) : AV Z h a ty n (fun _ => defaultValue ty) := by
  have q1 : sz.toNatClampNeg = n := by simp only [Int32.toNatClampNeg, hn]; omega
  have q2 := Int32.toInt_lt sz
  refine ⟨_, A, by rw [sz_new, q1], by omega, fun i hi => ?_⟩
  simp [newA, q1, hi]
theorem nat_at {j : Int32} {i : Nat} (hi : j.toInt = i) : j.toNatClampNeg = i := by simp only [Int32.toNatClampNeg, hi]; omega
theorem in_at {j : Int32} {i sz n : Nat} (hi : j.toInt = i) (hz : sz = n) (hlt : i < n) : ¬ (j < 0 ∨ sz ≤ j.toNatClampNeg) := by
  rw [nat_at hi, Int32.lt_iff_toInt_lt, hi]; simp only [Int32.reduceToInt]; omega
theorem AV.set {a : Addr} {ty : FieldType} {n i : Nat} {f : Nat → Value} {h' : Heap} {v : Value} (A : AV Z h a ty n f) (W : Wr h h' a i v) : AV Z h' a ty n (fun q => if q = i then v else f q) := by
  obtain ⟨c, A, r1, r2, r3⟩ := A
  obtain ⟨cell, w1, w2, w3, w4⟩ := id W
  have e1 : cell = c := by have := w1.symm.trans A.1; exact Option.some.inj this
  subst e1
  refine ⟨_, A.same W, by rw [sz_set]; exact r1, r2, fun q hq => ?_⟩
  by_cases e : q = i
  · subst e; simp [Cell.setSlot, w3]
  · have e' : ¬ i = q := fun u => e u.symm
    simp only [e, if_false, Cell.setSlot]
    rw [Array.getElem?_setIfInBounds_ne e']; exact r3 q hq
abbrev AI (Z : State) (h : Heap) (a : Addr) (ty : FieldType) (n : Nat) (g : Nat → Int32) : Prop := AV Z h a ty n (fun q => .int (g q))
abbrev AJ (Z : State) (h : Heap) (a : Addr) (n : Nat) (g : Nat → Int64) : Prop := AV Z h a .long n (fun q => .long (g q))
theorem AI.new {a : Addr} {ty : FieldType} {sz : Int32} {cA : ClassId} {n : Nat} (A : Arr Z h a (newA cA ty sz) ty) (hn : sz.toInt = n) (hd : defaultValue ty = .int 0) : AI Z h a ty n (fun _ => 0) := by
  have q := AV.new A hn; rw [hd] at q; exact q
theorem AJ.new {a : Addr} {sz : Int32} {cA : ClassId} {n : Nat} (A : Arr Z h a (newA cA .long sz) .long) (hn : sz.toInt = n) : AJ Z h a n (fun _ => 0) := AV.new A hn
theorem AI.set {a : Addr} {ty : FieldType} {n i : Nat} {g : Nat → Int32} {h' : Heap} {x : Int32} (A : AI Z h a ty n g) (W : Wr h h' a i (.int x)) : AI Z h' a ty n (fun q => if q = i then x else g q) :=
  (AV.set A W).congr fun q _ => by by_cases e : q = i <;> simp [e]
theorem AJ.set {a : Addr} {n i : Nat} {g : Nat → Int64} {h' : Heap} {x : Int64} (A : AJ Z h a n g) (W : Wr h h' a i (.long x)) : AJ Z h' a n (fun q => if q = i then x else g q) :=
  (AV.set A W).congr fun q _ => by by_cases e : q = i <;> simp [e]
theorem AI.congr {a : Addr} {ty : FieldType} {n : Nat} {f g : Nat → Int32} (A : AI Z h a ty n f) (q : ∀ i, i < n → f i = g i) : AI Z h a ty n g := AV.congr A fun i hi => by rw [q i hi]
theorem AJ.congr {a : Addr} {n : Nat} {f g : Nat → Int64} (A : AJ Z h a n f) (q : ∀ i, i < n → f i = g i) : AJ Z h a n g := AV.congr A fun i hi => by rw [q i hi]
theorem w_iaload (X : St p l e R s m args below meth c Z n0 y code maxL ret T h cells slots) {a : Addr} {N : Nat} {g : Nat → Int32} {j : Int32} {i : Nat} {v : Int32} (A : AI Z h a .int N g) (hd : decode code pc = .ok (.iaload, 1)) (hi : j.toInt = i) (hlt : i < N) (hv : g i = v) (hp : pc' = pc + 1) (w : WP p e below s n0 k n Q T (mkF m pc' Ls (.int v :: S))) : WP p e below s n0 k n Q T (mkF m pc Ls (.int j :: .ref a :: S)) := by
  obtain ⟨⟨hx, hZ, hby, hml, hown, hnm, hret, hlk, h00⟩, hT, locs, X, N⟩ := X
  subst hp hv
  obtain ⟨cl, A, r1, r2, r3⟩ := A
  exact w.step fun t kk => X.iaload hx (j := j) (v := .int (g i)) (by rw [hT]; exact A.1) (State.isArrayOf_alike hZ.alike A.2.1) A.2.2 (in_at hi r1 hlt) (by rw [nat_at hi]; exact r3 i hlt) (g := mkF m pc Ls (.int j :: .ref a :: S)) rfl rfl (hb hby hd) t kk
theorem w_laload (X : St p l e R s m args below meth c Z n0 y code maxL ret T h cells slots) {a : Addr} {N : Nat} {g : Nat → Int64} {j : Int32} {i : Nat} {v : Int64} (A : AJ Z h a N g) (hd : decode code pc = .ok (.laload, 1)) (hi : j.toInt = i) (hlt : i < N) (hv : g i = v) (hp : pc' = pc + 1) (w : WP p e below s n0 k n Q T (mkF m pc' Ls (.long v :: S))) : WP p e below s n0 k n Q T (mkF m pc Ls (.int j :: .ref a :: S)) := by
  obtain ⟨⟨hx, hZ, hby, hml, hown, hnm, hret, hlk, h00⟩, hT, locs, X, N⟩ := X
  subst hp hv
  obtain ⟨cl, A, r1, r2, r3⟩ := A
  exact w.step fun t kk => X.laload hx (j := j) (v := .long (g i)) (by rw [hT]; exact A.1) (State.isArrayOf_alike hZ.alike A.2.1) A.2.2 (in_at hi r1 hlt) (by rw [nat_at hi]; exact r3 i hlt) (g := mkF m pc Ls (.int j :: .ref a :: S)) rfl rfl (hb hby hd) t kk
theorem w_caload (X : St p l e R s m args below meth c Z n0 y code maxL ret T h cells slots) {a : Addr} {N : Nat} {g : Nat → Int32} {j : Int32} {i : Nat} {v : Int32} (A : AI Z h a .char N g) (hd : decode code pc = .ok (.caload, 1)) (hi : j.toInt = i) (hlt : i < N) (hv : g i = v) (hp : pc' = pc + 1) (w : WP p e below s n0 k n Q T (mkF m pc' Ls (.int v :: S))) : WP p e below s n0 k n Q T (mkF m pc Ls (.int j :: .ref a :: S)) := by
  obtain ⟨⟨hx, hZ, hby, hml, hown, hnm, hret, hlk, h00⟩, hT, locs, X, N⟩ := X
  subst hp hv
  obtain ⟨cl, A, r1, r2, r3⟩ := A
  exact w.step fun t kk => X.caload hx (j := j) (v := .int (g i)) (by rw [hT]; exact A.1) (State.isArrayOf_alike hZ.alike A.2.1) A.2.2 (in_at hi r1 hlt) (by rw [nat_at hi]; exact r3 i hlt) (g := mkF m pc Ls (.int j :: .ref a :: S)) rfl rfl (hb hby hd) t kk
theorem w_baload (X : St p l e R s m args below meth c Z n0 y code maxL ret T h cells slots) {a : Addr} {N : Nat} {g : Nat → Int32} {j : Int32} {i : Nat} {v : Int32} (A : AI Z h a .byte N g) (hd : decode code pc = .ok (.baload, 1)) (hi : j.toInt = i) (hlt : i < N) (hv : g i = v) (hp : pc' = pc + 1) (w : WP p e below s n0 k n Q T (mkF m pc' Ls (.int v :: S))) : WP p e below s n0 k n Q T (mkF m pc Ls (.int j :: .ref a :: S)) := by
  obtain ⟨⟨hx, hZ, hby, hml, hown, hnm, hret, hlk, h00⟩, hT, locs, X, N⟩ := X
  subst hp hv
  obtain ⟨cl, A, r1, r2, r3⟩ := A
  exact w.step fun t kk => X.baloadBytes hx (j := j) (v := .int (g i)) (by rw [hT]; exact A.1) (State.isArrayOf_alike hZ.alike A.2.1) A.2.2 (in_at hi r1 hlt) (by rw [nat_at hi]; exact r3 i hlt) (g := mkF m pc Ls (.int j :: .ref a :: S)) rfl rfl (hb hby hd) t kk
theorem w_arraylength (X : St p l e R s m args below meth c Z n0 y code maxL ret T h cells slots) {a : Addr} {ty : FieldType} {N : Nat} {f : Nat → Value} {z : Int32} (A : AV Z h a ty N f) (hd : decode code pc = .ok (.arraylength, 1)) (hz : N.toInt32 = z) (hp : pc' = pc + 1) (w : WP p e below s n0 k n Q T (mkF m pc' Ls (.int z :: S))) : WP p e below s n0 k n Q T (mkF m pc Ls (.ref a :: S)) := by
  obtain ⟨⟨hx, hZ, hby, hml, hown, hnm, hret, hlk, h00⟩, hT, locs, X, N⟩ := X
  subst hp hz
  obtain ⟨cl, A, r1, r2, r3⟩ := A
  refine w.step fun t kk => X.arraylength hx (by rw [hT]; exact A.1) (State.isArrayOf_alike hZ.alike A.2.1) (g := mkF m pc Ls (.ref a :: S)) rfl rfl (hb hby hd) t ?_
  rw [r1]; exact kk
theorem w_iastore (X : St p l e R s m args below meth c Z n0 y code maxL ret T h cells slots) {a : Addr} {N : Nat} {g : Nat → Int32} {j : Int32} {i : Nat} {x x' : Int32} (A : AI Z h a .int N g) (ga : n0 ≤ a) (hd : decode code pc = .ok (.iastore, 1)) (hi : j.toInt = i) (hlt : i < N) (hx' : x = x') (hp : pc' = pc + 1) (w : ∀ T' h', St p l e R s m args below meth c Z n0 y code maxL ret T' h' cells slots → Keep h h' [a] → AI Z h' a .int N (fun q => if q = i then x' else g q) → WP p e below s n0 k n Q T' (mkF m pc' Ls S)) : WP p e below s n0 k n Q T (mkF m pc Ls (.int x :: .int j :: .ref a :: S)) := by
  have X1 := X
  have A1 := A
  obtain ⟨⟨hx, hZ, hby, hml, hown, hnm, hret, hlk, h00⟩, hT, locs, X, N⟩ := X
  subst hp hx'
  obtain ⟨cl, A, r1, r2, r3⟩ := A
  obtain ⟨T', h', X', e', W', st⟩ := stI X hx hZ hT A (j := j) (x := x) (in_at hi r1 hlt) (g := mkF m pc Ls (.int x :: .int j :: .ref a :: S)) rfl rfl (hb hby hd)
  have N' := Fr.snoc X' N ga
  rw [nat_at hi] at W'
  exact (w T' h' ⟨X1.1, e', _, X', N'⟩ (Keep.of_wr W') (AI.set A1 W')).step st
theorem w_lastore (X : St p l e R s m args below meth c Z n0 y code maxL ret T h cells slots) {a : Addr} {N : Nat} {g : Nat → Int64} {j : Int32} {i : Nat} {x x' : Int64} (A : AJ Z h a N g) (ga : n0 ≤ a) (hd : decode code pc = .ok (.lastore, 1)) (hi : j.toInt = i) (hlt : i < N) (hx' : x = x') (hp : pc' = pc + 1) (w : ∀ T' h', St p l e R s m args below meth c Z n0 y code maxL ret T' h' cells slots → Keep h h' [a] → AJ Z h' a N (fun q => if q = i then x' else g q) → WP p e below s n0 k n Q T' (mkF m pc' Ls S)) : WP p e below s n0 k n Q T (mkF m pc Ls (.long x :: .int j :: .ref a :: S)) := by
  have X1 := X
  have A1 := A
  obtain ⟨⟨hx, hZ, hby, hml, hown, hnm, hret, hlk, h00⟩, hT, locs, X, N⟩ := X
  subst hp hx'
  obtain ⟨cl, A, r1, r2, r3⟩ := A
  obtain ⟨T', h', X', e', W', st⟩ := stJ X hx hZ hT A (j := j) (x := x) (in_at hi r1 hlt) (g := mkF m pc Ls (.long x :: .int j :: .ref a :: S)) rfl rfl (hb hby hd)
  have N' := Fr.snoc X' N ga
  rw [nat_at hi] at W'
  exact (w T' h' ⟨X1.1, e', _, X', N'⟩ (Keep.of_wr W') (AJ.set A1 W')).step st
theorem w_castore (X : St p l e R s m args below meth c Z n0 y code maxL ret T h cells slots) {a : Addr} {N : Nat} {g : Nat → Int32} {j : Int32} {i : Nat} {x x' : Int32} (A : AI Z h a .char N g) (ga : n0 ≤ a) (hd : decode code pc = .ok (.castore, 1)) (hi : j.toInt = i) (hlt : i < N) (hx' : nar .char x = x') (hp : pc' = pc + 1) (w : ∀ T' h', St p l e R s m args below meth c Z n0 y code maxL ret T' h' cells slots → Keep h h' [a] → AI Z h' a .char N (fun q => if q = i then x' else g q) → WP p e below s n0 k n Q T' (mkF m pc' Ls S)) : WP p e below s n0 k n Q T (mkF m pc Ls (.int x :: .int j :: .ref a :: S)) := by
  have X1 := X
  have A1 := A
  obtain ⟨⟨hx, hZ, hby, hml, hown, hnm, hret, hlk, h00⟩, hT, locs, X, N⟩ := X
  subst hp hx'
  obtain ⟨cl, A, r1, r2, r3⟩ := A
  obtain ⟨T', h', X', e', W', st⟩ := stC X hx hZ hT A (j := j) (x := x) (in_at hi r1 hlt) (g := mkF m pc Ls (.int x :: .int j :: .ref a :: S)) rfl rfl (hb hby hd)
  have N' := Fr.snoc X' N ga
  rw [nat_at hi] at W'
  exact (w T' h' ⟨X1.1, e', _, X', N'⟩ (Keep.of_wr W') (AI.set A1 W')).step st
theorem w_bastore (X : St p l e R s m args below meth c Z n0 y code maxL ret T h cells slots) {a : Addr} {N : Nat} {g : Nat → Int32} {j : Int32} {i : Nat} {x x' : Int32} (A : AI Z h a .byte N g) (ga : n0 ≤ a) (hd : decode code pc = .ok (.bastore, 1)) (hi : j.toInt = i) (hlt : i < N) (hx' : nar .byte x = x') (hp : pc' = pc + 1) (w : ∀ T' h', St p l e R s m args below meth c Z n0 y code maxL ret T' h' cells slots → Keep h h' [a] → AI Z h' a .byte N (fun q => if q = i then x' else g q) → WP p e below s n0 k n Q T' (mkF m pc' Ls S)) : WP p e below s n0 k n Q T (mkF m pc Ls (.int x :: .int j :: .ref a :: S)) := by
  have X1 := X
  have A1 := A
  obtain ⟨⟨hx, hZ, hby, hml, hown, hnm, hret, hlk, h00⟩, hT, locs, X, N⟩ := X
  subst hp hx'
  obtain ⟨cl, A, r1, r2, r3⟩ := A
  obtain ⟨T', h', X', e', W', st⟩ := stB X hx hZ hT A (j := j) (x := x) (in_at hi r1 hlt) (g := mkF m pc Ls (.int x :: .int j :: .ref a :: S)) rfl rfl (hb hby hd)
  have N' := Fr.snoc X' N ga
  rw [nat_at hi] at W'
  exact (w T' h' ⟨X1.1, e', _, X', N'⟩ (Keep.of_wr W') (AI.set A1 W')).step st
end Steps
end Jvm.Own
namespace Jvm.Pilot.@@N@@
open Jvm Jvm.ClassFile Sem Op Lib Jvm.Free Jvm.Stand Jvm.LawKit Jvm.RoadKit Bundle Jvm.Own Jvm.Pilot.@@N@@.Jvm.D
theorem tw0 {a0 : Array Value} {Z : State} (hw : ∀ d ∈ tables_1, d.before a0 Z = true) : (Jvm.Cond.arrayClass Jvm.ClassFile.FieldType.int).before a0 Z = true := hw _ (List.mem_of_getElem? (i := 0) rfl)
theorem tw1 {a0 : Array Value} {Z : State} (hw : ∀ d ∈ tables_1, d.before a0 Z = true) : (Jvm.Cond.constant "com/example/xtent/xtent/document/XmlNamesIsCharacterPinLaw" (12 : Nat) (55295 : Int32)).before a0 Z = true := hw _ (List.mem_of_getElem? (i := 1) rfl)
theorem tw2 {a0 : Array Value} {Z : State} (hw : ∀ d ∈ tables_1, d.before a0 Z = true) : (Jvm.Cond.constant "com/example/xtent/xtent/document/XmlNamesIsCharacterPinLaw" (8 : Nat) (55296 : Int32)).before a0 Z = true := hw _ (List.mem_of_getElem? (i := 2) rfl)
theorem tw3 {a0 : Array Value} {Z : State} (hw : ∀ d ∈ tables_1, d.before a0 Z = true) : (Jvm.Cond.constant "com/example/xtent/xtent/document/XmlNamesIsCharacterPinLaw" (9 : Nat) (57343 : Int32)).before a0 Z = true := hw _ (List.mem_of_getElem? (i := 3) rfl)
theorem tw4 {a0 : Array Value} {Z : State} (hw : ∀ d ∈ tables_1, d.before a0 Z = true) : (Jvm.Cond.constant "com/example/xtent/xtent/document/XmlNamesIsCharacterPinLaw" (13 : Nat) (57344 : Int32)).before a0 Z = true := hw _ (List.mem_of_getElem? (i := 4) rfl)
theorem tw5 {a0 : Array Value} {Z : State} (hw : ∀ d ∈ tables_1, d.before a0 Z = true) : (Jvm.Cond.constant "com/example/xtent/xtent/document/XmlNamesIsCharacterPinLaw" (14 : Nat) (65533 : Int32)).before a0 Z = true := hw _ (List.mem_of_getElem? (i := 5) rfl)
theorem tw6 {a0 : Array Value} {Z : State} (hw : ∀ d ∈ tables_1, d.before a0 Z = true) : (Jvm.Cond.constant "com/example/xtent/xtent/document/XmlNamesIsCharacterPinLaw" (10 : Nat) (65534 : Int32)).before a0 Z = true := hw _ (List.mem_of_getElem? (i := 6) rfl)
theorem tw7 {a0 : Array Value} {Z : State} (hw : ∀ d ∈ tables_1, d.before a0 Z = true) : (Jvm.Cond.constant "com/example/xtent/xtent/document/XmlNamesIsCharacterPinLaw" (15 : Nat) (65536 : Int32)).before a0 Z = true := hw _ (List.mem_of_getElem? (i := 7) rfl)
theorem tw8 {a0 : Array Value} {Z : State} (hw : ∀ d ∈ tables_1, d.before a0 Z = true) : (Jvm.Cond.constant "com/example/xtent/xtent/document/XmlNamesIsCharacterPinLaw" (7 : Nat) (1114111 : Int32)).before a0 Z = true := hw _ (List.mem_of_getElem? (i := 8) rfl)
theorem tw9 {a0 : Array Value} {Z : State} (hw : ∀ d ∈ tables_1, d.before a0 Z = true) : (Jvm.Cond.constant "com/example/xtent/xtent/document/XmlNamesIsCharacterPinLaw" (16 : Nat) (1114112 : Int32)).before a0 Z = true := hw _ (List.mem_of_getElem? (i := 9) rfl)
theorem tw10 {a0 : Array Value} {Z : State} (hw : ∀ d ∈ tables_1, d.before a0 Z = true) : (Jvm.Cond.constant "com/example/xtent/xtent/document/XmlNamesIsCharacterPinLaw" (19 : Nat) (-2147483648 : Int32)).before a0 Z = true := hw _ (List.mem_of_getElem? (i := 10) rfl)
theorem tw11 {a0 : Array Value} {Z : State} (hw : ∀ d ∈ tables_1, d.before a0 Z = true) : (Jvm.Cond.constant "com/example/xtent/xtent/document/XmlNamesIsCharacterPinLaw" (20 : Nat) (2147483647 : Int32)).before a0 Z = true := hw _ (List.mem_of_getElem? (i := 11) rfl)
theorem tw12 {a0 : Array Value} {Z : State} (hw : ∀ d ∈ tables_1, d.before a0 Z = true) : (Jvm.Cond.methodLink "com/example/xtent/xtent/document/XmlNamesIsCharacterPinLaw" (21 : Nat) ({ cls := "com/example/xtent/xtent/document/XmlNames", name := "isCharacter", desc := "(I)Z" } : Jvm.MethodName)).before a0 Z = true := hw _ (List.mem_of_getElem? (i := 12) rfl)
theorem tw13 {a0 : Array Value} {Z : State} (hw : ∀ d ∈ tables_1, d.before a0 Z = true) : (Jvm.Cond.static ({ cls := "com/example/xtent/xtent/document/XmlNames", name := "isCharacter", desc := "(I)Z" } : Jvm.MethodName)).before a0 Z = true := hw _ (List.mem_of_getElem? (i := 13) rfl)
theorem tw14 {a0 : Array Value} {Z : State} (hw : ∀ d ∈ tables_1, d.before a0 Z = true) : (Jvm.Cond.initialized "com/example/xtent/xtent/document/XmlNames").before a0 Z = true := hw _ (List.mem_of_getElem? (i := 14) rfl)
theorem tw15 {a0 : Array Value} {Z : State} (hw : ∀ d ∈ tables_1, d.before a0 Z = true) : (Jvm.Cond.code ({ cls := "com/example/xtent/xtent/document/XmlNames", name := "isCharacter", desc := "(I)Z" } : Jvm.MethodName) prog_26_method_7_code (1 : Nat) (Option.some Jvm.ClassFile.FieldType.boolean)).before a0 Z = true := hw _ (List.mem_of_getElem? (i := 15) rfl)
theorem tw16 {a0 : Array Value} {Z : State} (hw : ∀ d ∈ tables_1, d.before a0 Z = true) : (Jvm.Cond.constant "com/example/xtent/xtent/document/XmlNames" (61 : Nat) (57344 : Int32)).before a0 Z = true := hw _ (List.mem_of_getElem? (i := 16) rfl)
theorem tw17 {a0 : Array Value} {Z : State} (hw : ∀ d ∈ tables_1, d.before a0 Z = true) : (Jvm.Cond.constant "com/example/xtent/xtent/document/XmlNames" (63 : Nat) (65536 : Int32)).before a0 Z = true := hw _ (List.mem_of_getElem? (i := 17) rfl)
theorem tw18 {a0 : Array Value} {Z : State} (hw : ∀ d ∈ tables_1, d.before a0 Z = true) : (Jvm.Cond.methodLink "com/example/xtent/xtent/document/XmlNamesIsCharacterPinLaw" (27 : Nat) ({ cls := "com/example/xtent/xtent/document/XmlNamesIsCharacterPinLaw", name := "reference", desc := "(I)Z" } : Jvm.MethodName)).before a0 Z = true := hw _ (List.mem_of_getElem? (i := 18) rfl)
theorem tw19 {a0 : Array Value} {Z : State} (hw : ∀ d ∈ tables_1, d.before a0 Z = true) : (Jvm.Cond.static ({ cls := "com/example/xtent/xtent/document/XmlNamesIsCharacterPinLaw", name := "reference", desc := "(I)Z" } : Jvm.MethodName)).before a0 Z = true := hw _ (List.mem_of_getElem? (i := 19) rfl)
theorem tw20 {a0 : Array Value} {Z : State} (hw : ∀ d ∈ tables_1, d.before a0 Z = true) : (Jvm.Cond.initialized "com/example/xtent/xtent/document/XmlNamesIsCharacterPinLaw").before a0 Z = true := hw _ (List.mem_of_getElem? (i := 20) rfl)
theorem tw21 {a0 : Array Value} {Z : State} (hw : ∀ d ∈ tables_1, d.before a0 Z = true) : (Jvm.Cond.code ({ cls := "com/example/xtent/xtent/document/XmlNamesIsCharacterPinLaw", name := "reference", desc := "(I)Z" } : Jvm.MethodName) method_2_code (1 : Nat) (Option.some Jvm.ClassFile.FieldType.boolean)).before a0 Z = true := hw _ (List.mem_of_getElem? (i := 21) rfl)
theorem tw22 {a0 : Array Value} {Z : State} (hw : ∀ d ∈ tables_1, d.before a0 Z = true) : (Jvm.Cond.constant "com/example/xtent/xtent/document/XmlNames" (60 : Nat) (55295 : Int32)).before a0 Z = true := hw _ (List.mem_of_getElem? (i := 22) rfl)
theorem tw23 {a0 : Array Value} {Z : State} (hw : ∀ d ∈ tables_1, d.before a0 Z = true) : (Jvm.Cond.constant "com/example/xtent/xtent/document/XmlNames" (62 : Nat) (65533 : Int32)).before a0 Z = true := hw _ (List.mem_of_getElem? (i := 23) rfl)
theorem tw24 {a0 : Array Value} {Z : State} (hw : ∀ d ∈ tables_1, d.before a0 Z = true) : (Jvm.Cond.constant "com/example/xtent/xtent/document/XmlNames" (64 : Nat) (1114111 : Int32)).before a0 Z = true := hw _ (List.mem_of_getElem? (i := 24) rfl)
theorem tw25 {a0 : Array Value} {Z : State} (hw : ∀ d ∈ tables_1, d.before a0 Z = true) : (Jvm.Cond.constant "com/example/xtent/xtent/document/XmlNamesIsCharacterPinLaw" (11 : Nat) (65535 : Int32)).before a0 Z = true := hw _ (List.mem_of_getElem? (i := 25) rfl)
theorem d1_0 : decode prog_26_method_7_code 0 = .ok (.iload_n 0, 1) := by decide +kernel
theorem d1_1 : decode prog_26_method_7_code 1 = .ok (.bipush 9, 2) := by decide +kernel
theorem d1_3 : decode prog_26_method_7_code 3 = .ok (.if_icmp .eq 51, 3) := by decide +kernel
theorem d1_6 : decode prog_26_method_7_code 6 = .ok (.iload_n 0, 1) := by decide +kernel
theorem d1_7 : decode prog_26_method_7_code 7 = .ok (.bipush 10, 2) := by decide +kernel
theorem d1_9 : decode prog_26_method_7_code 9 = .ok (.if_icmp .eq 45, 3) := by decide +kernel
theorem d1_12 : decode prog_26_method_7_code 12 = .ok (.iload_n 0, 1) := by decide +kernel
theorem d1_13 : decode prog_26_method_7_code 13 = .ok (.bipush 13, 2) := by decide +kernel
theorem d1_15 : decode prog_26_method_7_code 15 = .ok (.if_icmp .eq 39, 3) := by decide +kernel
theorem d1_18 : decode prog_26_method_7_code 18 = .ok (.iload_n 0, 1) := by decide +kernel
theorem d1_19 : decode prog_26_method_7_code 19 = .ok (.bipush 32, 2) := by decide +kernel
theorem d1_21 : decode prog_26_method_7_code 21 = .ok (.if_icmp .lt 9, 3) := by decide +kernel
theorem d1_24 : decode prog_26_method_7_code 24 = .ok (.iload_n 0, 1) := by decide +kernel
theorem d1_25 : decode prog_26_method_7_code 25 = .ok (.ldc 60, 2) := by decide +kernel
theorem d1_27 : decode prog_26_method_7_code 27 = .ok (.if_icmp .le 27, 3) := by decide +kernel
theorem d1_30 : decode prog_26_method_7_code 30 = .ok (.iload_n 0, 1) := by decide +kernel
theorem d1_31 : decode prog_26_method_7_code 31 = .ok (.ldc 61, 2) := by decide +kernel
theorem d1_33 : decode prog_26_method_7_code 33 = .ok (.if_icmp .lt 9, 3) := by decide +kernel
theorem d1_36 : decode prog_26_method_7_code 36 = .ok (.iload_n 0, 1) := by decide +kernel
theorem d1_37 : decode prog_26_method_7_code 37 = .ok (.ldc 62, 2) := by decide +kernel
theorem d1_39 : decode prog_26_method_7_code 39 = .ok (.if_icmp .le 15, 3) := by decide +kernel
theorem d1_42 : decode prog_26_method_7_code 42 = .ok (.iload_n 0, 1) := by decide +kernel
theorem d1_43 : decode prog_26_method_7_code 43 = .ok (.ldc 63, 2) := by decide +kernel
theorem d1_45 : decode prog_26_method_7_code 45 = .ok (.if_icmp .lt 13, 3) := by decide +kernel
theorem d1_48 : decode prog_26_method_7_code 48 = .ok (.iload_n 0, 1) := by decide +kernel
theorem d1_49 : decode prog_26_method_7_code 49 = .ok (.ldc 64, 2) := by decide +kernel
theorem d1_51 : decode prog_26_method_7_code 51 = .ok (.if_icmp .gt 7, 3) := by decide +kernel
theorem d1_54 : decode prog_26_method_7_code 54 = .ok (.iconst 1, 1) := by decide +kernel
theorem d1_55 : decode prog_26_method_7_code 55 = .ok (.goto 4, 3) := by decide +kernel
theorem d1_58 : decode prog_26_method_7_code 58 = .ok (.iconst 0, 1) := by decide +kernel
theorem d1_59 : decode prog_26_method_7_code 59 = .ok (.ireturn, 1) := by decide +kernel
theorem d2_0 : decode method_2_code 0 = .ok (.iload_n 0, 1) := by decide +kernel
theorem d2_1 : decode method_2_code 1 = .ok (.ifCond .lt 9, 3) := by decide +kernel
theorem d2_4 : decode method_2_code 4 = .ok (.iload_n 0, 1) := by decide +kernel
theorem d2_5 : decode method_2_code 5 = .ok (.ldc 7, 2) := by decide +kernel
theorem d2_7 : decode method_2_code 7 = .ok (.if_icmp .le 5, 3) := by decide +kernel
theorem d2_10 : decode method_2_code 10 = .ok (.iconst 0, 1) := by decide +kernel
theorem d2_11 : decode method_2_code 11 = .ok (.ireturn, 1) := by decide +kernel
theorem d2_12 : decode method_2_code 12 = .ok (.iload_n 0, 1) := by decide +kernel
theorem d2_13 : decode method_2_code 13 = .ok (.bipush 32, 2) := by decide +kernel
theorem d2_15 : decode method_2_code 15 = .ok (.if_icmp .ge 27, 3) := by decide +kernel
theorem d2_18 : decode method_2_code 18 = .ok (.iload_n 0, 1) := by decide +kernel
theorem d2_19 : decode method_2_code 19 = .ok (.bipush 9, 2) := by decide +kernel
theorem d2_21 : decode method_2_code 21 = .ok (.if_icmp .eq 15, 3) := by decide +kernel
theorem d2_24 : decode method_2_code 24 = .ok (.iload_n 0, 1) := by decide +kernel
theorem d2_25 : decode method_2_code 25 = .ok (.bipush 10, 2) := by decide +kernel
theorem d2_27 : decode method_2_code 27 = .ok (.if_icmp .eq 9, 3) := by decide +kernel
theorem d2_30 : decode method_2_code 30 = .ok (.iload_n 0, 1) := by decide +kernel
theorem d2_31 : decode method_2_code 31 = .ok (.bipush 13, 2) := by decide +kernel
theorem d2_33 : decode method_2_code 33 = .ok (.if_icmp .ne 7, 3) := by decide +kernel
theorem d2_36 : decode method_2_code 36 = .ok (.iconst 1, 1) := by decide +kernel
theorem d2_37 : decode method_2_code 37 = .ok (.goto 4, 3) := by decide +kernel
theorem d2_40 : decode method_2_code 40 = .ok (.iconst 0, 1) := by decide +kernel
theorem d2_41 : decode method_2_code 41 = .ok (.ireturn, 1) := by decide +kernel
theorem d2_42 : decode method_2_code 42 = .ok (.iload_n 0, 1) := by decide +kernel
theorem d2_43 : decode method_2_code 43 = .ok (.ldc 8, 2) := by decide +kernel
theorem d2_45 : decode method_2_code 45 = .ok (.if_icmp .lt 11, 3) := by decide +kernel
theorem d2_48 : decode method_2_code 48 = .ok (.iload_n 0, 1) := by decide +kernel
theorem d2_49 : decode method_2_code 49 = .ok (.ldc 9, 2) := by decide +kernel
theorem d2_51 : decode method_2_code 51 = .ok (.if_icmp .gt 5, 3) := by decide +kernel
theorem d2_54 : decode method_2_code 54 = .ok (.iconst 0, 1) := by decide +kernel
theorem d2_55 : decode method_2_code 55 = .ok (.ireturn, 1) := by decide +kernel
theorem d2_56 : decode method_2_code 56 = .ok (.iload_n 0, 1) := by decide +kernel
theorem d2_57 : decode method_2_code 57 = .ok (.ldc 10, 2) := by decide +kernel
theorem d2_59 : decode method_2_code 59 = .ok (.if_icmp .eq 13, 3) := by decide +kernel
theorem d2_62 : decode method_2_code 62 = .ok (.iload_n 0, 1) := by decide +kernel
theorem d2_63 : decode method_2_code 63 = .ok (.ldc 11, 2) := by decide +kernel
theorem d2_65 : decode method_2_code 65 = .ok (.if_icmp .eq 7, 3) := by decide +kernel
theorem d2_68 : decode method_2_code 68 = .ok (.iconst 1, 1) := by decide +kernel
theorem d2_69 : decode method_2_code 69 = .ok (.goto 4, 3) := by decide +kernel
theorem d2_72 : decode method_2_code 72 = .ok (.iconst 0, 1) := by decide +kernel
theorem d2_73 : decode method_2_code 73 = .ok (.ireturn, 1) := by decide +kernel
theorem pd0 : parseMethodDescriptor "(I)Z" = some ⟨[.int], some .boolean⟩ := by decide +kernel
def fIs_58 (a : Int32) : Int32 :=
  (0 : Int32)
def fIs_54 (a : Int32) : Int32 :=
  (1 : Int32)
def fIs_42 (a : Int32) : Int32 :=
  if a < (65536 : Int32) then
    fIs_58 a
  else
    if (1114111 : Int32) < a then
      fIs_58 a
    else
      fIs_54 a
def fIs_30 (a : Int32) : Int32 :=
  if a < (57344 : Int32) then
    fIs_42 a
  else
    if (65533 : Int32) < a then
      fIs_42 a
    else
      fIs_54 a
def fIs (a : Int32) : Int32 :=
  if a = (9 : Int32) then
    fIs_54 a
  else
    if a = (10 : Int32) then
      fIs_54 a
    else
      if a = (13 : Int32) then
        fIs_54 a
      else
        if a < (32 : Int32) then
          fIs_30 a
        else
          if (55295 : Int32) < a then
            fIs_30 a
          else
            fIs_54 a
set_option maxRecDepth 65536 in
set_option maxHeartbeats 4000000 in
theorem ct_fIs (l : Launch) (Z : State) (a0 : Array Value) (hw : ∀ d ∈ tables_1, d.before a0 Z = true) (a : Int32) (h0 : Heap) (n0 : Nat) (Z0 : n0 ≤ h0.size) :
    Ct l Z (⟨"com/example/xtent/xtent/document/XmlNames", "isCharacter", "(I)Z"⟩ : MethodName) prog_26_method_7_code 1 (some .boolean) ({ frames := 0, cells := 0, slots := 0, locals := 0 } : Room) #[(.int a)] h0 n0 (fun v h => v = some (.int (fIs a)) ∧ h = h0) := by
  refine Ct.intro (plainFor_of_name (by first | (simp [plainName, overriddenIn]; done) | decide +kernel)) Z0 ?_
  intro p e s m below meth c T X
  have J58 : ∀ T, St p l e ({ frames := 0, cells := 0, slots := 0, locals := 0 } : Room) s m #[(.int a)] below meth c Z n0 (⟨"com/example/xtent/xtent/document/XmlNames", "isCharacter", "(I)Z"⟩ : MethodName) prog_26_method_7_code 1 (some .boolean) T h0 0 0 → WP p e below s n0 ({ frames := 0, cells := 0, slots := 0, locals := 0 } : Room).cells ({ frames := 0, cells := 0, slots := 0, locals := 0 } : Room).slots (fun v h => v = some (.int (fIs_58 a)) ∧ h = h0) T (mkF m 58 #[.val (.int a)] []) := by
    intro T X
    refine w_iconst X d1_58 (v := (0 : Int32)) (by decide) (pc' := 59) rfl ?_
    exact w_retZ X rfl d1_59 (by decide) (by decide) (by decide) ⟨by rw [fIs_58], rfl⟩
  have J54 : ∀ T, St p l e ({ frames := 0, cells := 0, slots := 0, locals := 0 } : Room) s m #[(.int a)] below meth c Z n0 (⟨"com/example/xtent/xtent/document/XmlNames", "isCharacter", "(I)Z"⟩ : MethodName) prog_26_method_7_code 1 (some .boolean) T h0 0 0 → WP p e below s n0 ({ frames := 0, cells := 0, slots := 0, locals := 0 } : Room).cells ({ frames := 0, cells := 0, slots := 0, locals := 0 } : Room).slots (fun v h => v = some (.int (fIs_54 a)) ∧ h = h0) T (mkF m 54 #[.val (.int a)] []) := by
    intro T X
    refine w_iconst X d1_54 (v := (1 : Int32)) (by decide) (pc' := 55) rfl ?_
    refine w_goto X d1_55 (by decide) (pc' := 59) (by decide) ?_
    exact w_retZ X rfl d1_59 (by decide) (by decide) (by decide) ⟨by rw [fIs_54], rfl⟩
  have J42 : ∀ T, St p l e ({ frames := 0, cells := 0, slots := 0, locals := 0 } : Room) s m #[(.int a)] below meth c Z n0 (⟨"com/example/xtent/xtent/document/XmlNames", "isCharacter", "(I)Z"⟩ : MethodName) prog_26_method_7_code 1 (some .boolean) T h0 0 0 → WP p e below s n0 ({ frames := 0, cells := 0, slots := 0, locals := 0 } : Room).cells ({ frames := 0, cells := 0, slots := 0, locals := 0 } : Room).slots (fun v h => v = some (.int (fIs_42 a)) ∧ h = h0) T (mkF m 42 #[.val (.int a)] []) := by
    intro T X
    refine w_iloadN X d1_42 rfl (pc' := 43) rfl ?_
    refine w_ldcI X d1_43 (tw17 hw) (pc' := 45) rfl ?_
    refine w_icmp_lt X d1_45 (by decide) (p1 := 58) (by decide) (p2 := 48) rfl (fun c45 => ?_) (fun c45 => ?_)
    · -- c45 taken
      exact (J58 T X).imp fun v h q => by rw [fIs_42, if_pos c45]; exact q
    · -- c45 not taken
      refine w_iloadN X d1_48 rfl (pc' := 49) rfl ?_
      refine w_ldcI X d1_49 (tw24 hw) (pc' := 51) rfl ?_
      refine w_icmp_gt X d1_51 (by decide) (p1 := 58) (by decide) (p2 := 54) rfl (fun c51 => ?_) (fun c51 => ?_)
      · -- c51 taken
        exact (J58 T X).imp fun v h q => by rw [fIs_42, if_neg c45, if_pos c51]; exact q
      · -- c51 not taken
        exact (J54 T X).imp fun v h q => by rw [fIs_42, if_neg c45, if_neg c51]; exact q
  have J30 : ∀ T, St p l e ({ frames := 0, cells := 0, slots := 0, locals := 0 } : Room) s m #[(.int a)] below meth c Z n0 (⟨"com/example/xtent/xtent/document/XmlNames", "isCharacter", "(I)Z"⟩ : MethodName) prog_26_method_7_code 1 (some .boolean) T h0 0 0 → WP p e below s n0 ({ frames := 0, cells := 0, slots := 0, locals := 0 } : Room).cells ({ frames := 0, cells := 0, slots := 0, locals := 0 } : Room).slots (fun v h => v = some (.int (fIs_30 a)) ∧ h = h0) T (mkF m 30 #[.val (.int a)] []) := by
    intro T X
    refine w_iloadN X d1_30 rfl (pc' := 31) rfl ?_
    refine w_ldcI X d1_31 (tw16 hw) (pc' := 33) rfl ?_
    refine w_icmp_lt X d1_33 (by decide) (p1 := 42) (by decide) (p2 := 36) rfl (fun c33 => ?_) (fun c33 => ?_)
    · -- c33 taken
      exact (J42 T X).imp fun v h q => by rw [fIs_30, if_pos c33]; exact q
    · -- c33 not taken
      refine w_iloadN X d1_36 rfl (pc' := 37) rfl ?_
      refine w_ldcI X d1_37 (tw23 hw) (pc' := 39) rfl ?_
      refine w_icmp_le X d1_39 (by decide) (p1 := 54) (by decide) (p2 := 42) rfl (fun c39 => ?_) (fun c39 => ?_)
      · -- c39 taken
        exact (J54 T X).imp fun v h q => by rw [fIs_30, if_neg c33, if_neg c39]; exact q
      · -- c39 not taken
        exact (J42 T X).imp fun v h q => by rw [fIs_30, if_neg c33, if_pos c39]; exact q
  refine WP.cast (g' := (mkF m 0 #[.val (.int a)] [])) (by first | rfl | (simp [entryFrame, mkF, argsToLocals, Value.category]; done)) ?_
  refine w_iloadN X d1_0 rfl (pc' := 1) rfl ?_
  refine w_bipush X d1_1 (v := (9 : Int32)) (by decide) (pc' := 3) rfl ?_
  refine w_icmp_eq X d1_3 (by decide) (p1 := 54) (by decide) (p2 := 6) rfl (fun c3 => ?_) (fun c3 => ?_)
  · -- c3 taken
    exact (J54 T X).imp fun v h q => by rw [fIs, if_pos c3]; exact q
  · -- c3 not taken
    refine w_iloadN X d1_6 rfl (pc' := 7) rfl ?_
    refine w_bipush X d1_7 (v := (10 : Int32)) (by decide) (pc' := 9) rfl ?_
    refine w_icmp_eq X d1_9 (by decide) (p1 := 54) (by decide) (p2 := 12) rfl (fun c9 => ?_) (fun c9 => ?_)
    · -- c9 taken
      exact (J54 T X).imp fun v h q => by rw [fIs, if_neg c3, if_pos c9]; exact q
    · -- c9 not taken
      refine w_iloadN X d1_12 rfl (pc' := 13) rfl ?_
      refine w_bipush X d1_13 (v := (13 : Int32)) (by decide) (pc' := 15) rfl ?_
      refine w_icmp_eq X d1_15 (by decide) (p1 := 54) (by decide) (p2 := 18) rfl (fun c15 => ?_) (fun c15 => ?_)
      · -- c15 taken
        exact (J54 T X).imp fun v h q => by rw [fIs, if_neg c3, if_neg c9, if_pos c15]; exact q
      · -- c15 not taken
        refine w_iloadN X d1_18 rfl (pc' := 19) rfl ?_
        refine w_bipush X d1_19 (v := (32 : Int32)) (by decide) (pc' := 21) rfl ?_
        refine w_icmp_lt X d1_21 (by decide) (p1 := 30) (by decide) (p2 := 24) rfl (fun c21 => ?_) (fun c21 => ?_)
        · -- c21 taken
          exact (J30 T X).imp fun v h q => by rw [fIs, if_neg c3, if_neg c9, if_neg c15, if_pos c21]; exact q
        · -- c21 not taken
          refine w_iloadN X d1_24 rfl (pc' := 25) rfl ?_
          refine w_ldcI X d1_25 (tw22 hw) (pc' := 27) rfl ?_
          refine w_icmp_le X d1_27 (by decide) (p1 := 54) (by decide) (p2 := 30) rfl (fun c27 => ?_) (fun c27 => ?_)
          · -- c27 taken
            exact (J54 T X).imp fun v h q => by rw [fIs, if_neg c3, if_neg c9, if_neg c15, if_neg c21, if_neg c27]; exact q
          · -- c27 not taken
            exact (J30 T X).imp fun v h q => by rw [fIs, if_neg c3, if_neg c9, if_neg c15, if_neg c21, if_pos c27]; exact q
def fRef_72 (a : Int32) : Int32 :=
  (0 : Int32)
def fRef_56 (a : Int32) : Int32 :=
  if a = (65534 : Int32) then
    fRef_72 a
  else
    if a = (65535 : Int32) then
      fRef_72 a
    else
      (1 : Int32)
def fRef_36 (a : Int32) : Int32 :=
  (1 : Int32)
def fRef_10 (a : Int32) : Int32 :=
  (0 : Int32)
def fRef (a : Int32) : Int32 :=
  if a < (0 : Int32) then
    fRef_10 a
  else
    if (1114111 : Int32) < a then
      fRef_10 a
    else
      if a < (32 : Int32) then
        if a = (9 : Int32) then
          fRef_36 a
        else
          if a = (10 : Int32) then
            fRef_36 a
          else
            if a = (13 : Int32) then
              fRef_36 a
            else
              (0 : Int32)
      else
        if a < (55296 : Int32) then
          fRef_56 a
        else
          if (57343 : Int32) < a then
            fRef_56 a
          else
            (0 : Int32)
set_option maxRecDepth 65536 in
set_option maxHeartbeats 4000000 in
theorem ct_fRef (l : Launch) (Z : State) (a0 : Array Value) (hw : ∀ d ∈ tables_1, d.before a0 Z = true) (a : Int32) (h0 : Heap) (n0 : Nat) (Z0 : n0 ≤ h0.size) :
    Ct l Z (⟨"com/example/xtent/xtent/document/XmlNamesIsCharacterPinLaw", "reference", "(I)Z"⟩ : MethodName) method_2_code 1 (some .boolean) ({ frames := 0, cells := 0, slots := 0, locals := 0 } : Room) #[(.int a)] h0 n0 (fun v h => v = some (.int (fRef a)) ∧ h = h0) := by
  refine Ct.intro (plainFor_of_name (by first | (simp [plainName, overriddenIn]; done) | decide +kernel)) Z0 ?_
  intro p e s m below meth c T X
  have J72 : ∀ T, St p l e ({ frames := 0, cells := 0, slots := 0, locals := 0 } : Room) s m #[(.int a)] below meth c Z n0 (⟨"com/example/xtent/xtent/document/XmlNamesIsCharacterPinLaw", "reference", "(I)Z"⟩ : MethodName) method_2_code 1 (some .boolean) T h0 0 0 → WP p e below s n0 ({ frames := 0, cells := 0, slots := 0, locals := 0 } : Room).cells ({ frames := 0, cells := 0, slots := 0, locals := 0 } : Room).slots (fun v h => v = some (.int (fRef_72 a)) ∧ h = h0) T (mkF m 72 #[.val (.int a)] []) := by
    intro T X
    refine w_iconst X d2_72 (v := (0 : Int32)) (by decide) (pc' := 73) rfl ?_
    exact w_retZ X rfl d2_73 (by decide) (by decide) (by decide) ⟨by rw [fRef_72], rfl⟩
  have J56 : ∀ T, St p l e ({ frames := 0, cells := 0, slots := 0, locals := 0 } : Room) s m #[(.int a)] below meth c Z n0 (⟨"com/example/xtent/xtent/document/XmlNamesIsCharacterPinLaw", "reference", "(I)Z"⟩ : MethodName) method_2_code 1 (some .boolean) T h0 0 0 → WP p e below s n0 ({ frames := 0, cells := 0, slots := 0, locals := 0 } : Room).cells ({ frames := 0, cells := 0, slots := 0, locals := 0 } : Room).slots (fun v h => v = some (.int (fRef_56 a)) ∧ h = h0) T (mkF m 56 #[.val (.int a)] []) := by
    intro T X
    refine w_iloadN X d2_56 rfl (pc' := 57) rfl ?_
    refine w_ldcI X d2_57 (tw6 hw) (pc' := 59) rfl ?_
    refine w_icmp_eq X d2_59 (by decide) (p1 := 72) (by decide) (p2 := 62) rfl (fun c59 => ?_) (fun c59 => ?_)
    · -- c59 taken
      exact (J72 T X).imp fun v h q => by rw [fRef_56, if_pos c59]; exact q
    · -- c59 not taken
      refine w_iloadN X d2_62 rfl (pc' := 63) rfl ?_
      refine w_ldcI X d2_63 (tw25 hw) (pc' := 65) rfl ?_
      refine w_icmp_eq X d2_65 (by decide) (p1 := 72) (by decide) (p2 := 68) rfl (fun c65 => ?_) (fun c65 => ?_)
      · -- c65 taken
        exact (J72 T X).imp fun v h q => by rw [fRef_56, if_neg c59, if_pos c65]; exact q
      · -- c65 not taken
        refine w_iconst X d2_68 (v := (1 : Int32)) (by decide) (pc' := 69) rfl ?_
        refine w_goto X d2_69 (by decide) (pc' := 73) (by decide) ?_
        exact w_retZ X rfl d2_73 (by decide) (by decide) (by decide) ⟨by rw [fRef_56, if_neg c59, if_neg c65], rfl⟩
  have J36 : ∀ T, St p l e ({ frames := 0, cells := 0, slots := 0, locals := 0 } : Room) s m #[(.int a)] below meth c Z n0 (⟨"com/example/xtent/xtent/document/XmlNamesIsCharacterPinLaw", "reference", "(I)Z"⟩ : MethodName) method_2_code 1 (some .boolean) T h0 0 0 → WP p e below s n0 ({ frames := 0, cells := 0, slots := 0, locals := 0 } : Room).cells ({ frames := 0, cells := 0, slots := 0, locals := 0 } : Room).slots (fun v h => v = some (.int (fRef_36 a)) ∧ h = h0) T (mkF m 36 #[.val (.int a)] []) := by
    intro T X
    refine w_iconst X d2_36 (v := (1 : Int32)) (by decide) (pc' := 37) rfl ?_
    refine w_goto X d2_37 (by decide) (pc' := 41) (by decide) ?_
    exact w_retZ X rfl d2_41 (by decide) (by decide) (by decide) ⟨by rw [fRef_36], rfl⟩
  have J10 : ∀ T, St p l e ({ frames := 0, cells := 0, slots := 0, locals := 0 } : Room) s m #[(.int a)] below meth c Z n0 (⟨"com/example/xtent/xtent/document/XmlNamesIsCharacterPinLaw", "reference", "(I)Z"⟩ : MethodName) method_2_code 1 (some .boolean) T h0 0 0 → WP p e below s n0 ({ frames := 0, cells := 0, slots := 0, locals := 0 } : Room).cells ({ frames := 0, cells := 0, slots := 0, locals := 0 } : Room).slots (fun v h => v = some (.int (fRef_10 a)) ∧ h = h0) T (mkF m 10 #[.val (.int a)] []) := by
    intro T X
    refine w_iconst X d2_10 (v := (0 : Int32)) (by decide) (pc' := 11) rfl ?_
    exact w_retZ X rfl d2_11 (by decide) (by decide) (by decide) ⟨by rw [fRef_10], rfl⟩
  refine WP.cast (g' := (mkF m 0 #[.val (.int a)] [])) (by first | rfl | (simp [entryFrame, mkF, argsToLocals, Value.category]; done)) ?_
  refine w_iloadN X d2_0 rfl (pc' := 1) rfl ?_
  refine w_if_lt X d2_1 (by decide) (p1 := 10) (by decide) (p2 := 4) rfl (fun c1 => ?_) (fun c1 => ?_)
  · -- c1 taken
    exact (J10 T X).imp fun v h q => by rw [fRef, if_pos c1]; exact q
  · -- c1 not taken
    refine w_iloadN X d2_4 rfl (pc' := 5) rfl ?_
    refine w_ldcI X d2_5 (tw8 hw) (pc' := 7) rfl ?_
    refine w_icmp_le X d2_7 (by decide) (p1 := 12) (by decide) (p2 := 10) rfl (fun c7 => ?_) (fun c7 => ?_)
    · -- c7 taken
      refine w_iloadN X d2_12 rfl (pc' := 13) rfl ?_
      refine w_bipush X d2_13 (v := (32 : Int32)) (by decide) (pc' := 15) rfl ?_
      refine w_icmp_ge X d2_15 (by decide) (p1 := 42) (by decide) (p2 := 18) rfl (fun c15 => ?_) (fun c15 => ?_)
      · -- c15 taken
        refine w_iloadN X d2_42 rfl (pc' := 43) rfl ?_
        refine w_ldcI X d2_43 (tw2 hw) (pc' := 45) rfl ?_
        refine w_icmp_lt X d2_45 (by decide) (p1 := 56) (by decide) (p2 := 48) rfl (fun c45 => ?_) (fun c45 => ?_)
        · -- c45 taken
          exact (J56 T X).imp fun v h q => by rw [fRef, if_neg c1, if_neg c7, if_neg c15, if_pos c45]; exact q
        · -- c45 not taken
          refine w_iloadN X d2_48 rfl (pc' := 49) rfl ?_
          refine w_ldcI X d2_49 (tw3 hw) (pc' := 51) rfl ?_
          refine w_icmp_gt X d2_51 (by decide) (p1 := 56) (by decide) (p2 := 54) rfl (fun c51 => ?_) (fun c51 => ?_)
          · -- c51 taken
            exact (J56 T X).imp fun v h q => by rw [fRef, if_neg c1, if_neg c7, if_neg c15, if_neg c45, if_pos c51]; exact q
          · -- c51 not taken
            refine w_iconst X d2_54 (v := (0 : Int32)) (by decide) (pc' := 55) rfl ?_
            exact w_retZ X rfl d2_55 (by decide) (by decide) (by decide) ⟨by rw [fRef, if_neg c1, if_neg c7, if_neg c15, if_neg c45, if_neg c51], rfl⟩
      · -- c15 not taken
        refine w_iloadN X d2_18 rfl (pc' := 19) rfl ?_
        refine w_bipush X d2_19 (v := (9 : Int32)) (by decide) (pc' := 21) rfl ?_
        refine w_icmp_eq X d2_21 (by decide) (p1 := 36) (by decide) (p2 := 24) rfl (fun c21 => ?_) (fun c21 => ?_)
        · -- c21 taken
          exact (J36 T X).imp fun v h q => by rw [fRef, if_neg c1, if_neg c7, if_pos c15, if_pos c21]; exact q
        · -- c21 not taken
          refine w_iloadN X d2_24 rfl (pc' := 25) rfl ?_
          refine w_bipush X d2_25 (v := (10 : Int32)) (by decide) (pc' := 27) rfl ?_
          refine w_icmp_eq X d2_27 (by decide) (p1 := 36) (by decide) (p2 := 30) rfl (fun c27 => ?_) (fun c27 => ?_)
          · -- c27 taken
            exact (J36 T X).imp fun v h q => by rw [fRef, if_neg c1, if_neg c7, if_pos c15, if_neg c21, if_pos c27]; exact q
          · -- c27 not taken
            refine w_iloadN X d2_30 rfl (pc' := 31) rfl ?_
            refine w_bipush X d2_31 (v := (13 : Int32)) (by decide) (pc' := 33) rfl ?_
            refine w_icmp_ne X d2_33 (by decide) (p1 := 40) (by decide) (p2 := 36) rfl (fun c33 => ?_) (fun c33 => ?_)
            · -- c33 taken
              refine w_iconst X d2_40 (v := (0 : Int32)) (by decide) (pc' := 41) rfl ?_
              exact w_retZ X rfl d2_41 (by decide) (by decide) (by decide) ⟨by rw [fRef, if_neg c1, if_neg c7, if_pos c15, if_neg c21, if_neg c27, if_neg c33], rfl⟩
            · -- c33 not taken
              exact (J36 T X).imp fun v h q => by rw [fRef, if_neg c1, if_neg c7, if_pos c15, if_neg c21, if_neg c27, if_pos c33]; exact q
    · -- c7 not taken
      exact (J10 T X).imp fun v h q => by rw [fRef, if_neg c1, if_pos c7]; exact q
set_option maxHeartbeats 4000000 in
theorem chr_eq (a : Int32) : fIs a = fRef a := by
  have e : ∀ k : Int32, a = k ↔ a.toInt = k.toInt := fun k => Int32.toInt_inj.symm
  unfold fIs fIs_30 fIs_42 fIs_54 fIs_58 fRef fRef_10 fRef_36 fRef_56 fRef_72
  simp only [e, Int32.lt_iff_toInt_lt, Int32.reduceToInt]
  generalize a.toInt = n
  repeat' split
  all_goals first | rfl | (exfalso; omega)
theorem ix15 (t : Int32) : (t &&& 15).toInt = ((t &&& 15).toInt.toNat : Nat) := by
  have := c_mask t 15 4 (by decide) (by decide); omega
theorem lt16 (t : Int32) : (t &&& 15).toInt.toNat < 16 := by
  have := c_mask t 15 4 (by decide) (by decide); omega
set_option maxRecDepth 65536 in
set_option maxHeartbeats 4000000 in
theorem ct_law (l : Launch) (Z : State) (a0 : Array Value) (hw : ∀ d ∈ tables_1, d.before a0 Z = true) (a t d : Int32) (h0 : Heap) (n0 : Nat) (Z0 : n0 ≤ h0.size) :
    Ct l Z x code maxLocals ret room_1 #[(.int a), (.int t), (.int d)] h0 n0 (fun r _ => r = some (.int 1)) := by
  refine Ct.intro (plainFor_of_name (by first | (simp [plainName, overriddenIn, x]; done) | decide +kernel)) Z0 ?_
  intro p e s m below meth c T X
  refine WP.cast (g' := (mkF m 0 #[.val (.int a), .val (.int t), .val (.int d), .unset, .unset, .unset, .unset] [])) (by first | rfl | (simp [entryFrame, mkF, argsToLocals, Value.category, maxLocals]; done)) ?_
  refine w_bipush X at_0 (v := (16 : Int32)) (by decide) (pc' := 2) rfl ?_
  refine w_newarray X (aty := .int) 16 (tw0 hw) at_2 (by decide) (by decide) (by decide) (by decide) (by decide) (pc' := 4) rfl ?_; intro T h1 b1 cA1 X eq1 ga1 E1 A1
  have O2 : AI Z h1 b1 .int 16 (fun _ => 0) := AI.new A1 (by decide) rfl
  refine w_dup X at_4 rfl (pc' := 5) rfl ?_
  refine w_iconst X at_5 (v := (0 : Int32)) (by decide) (pc' := 6) rfl ?_
  refine w_iconst X at_6 (v := (0 : Int32)) (by decide) (pc' := 7) rfl ?_
  refine w_iastore X (i := 0) (x' := (0 : Int32)) O2 ga1 at_7 (by decide) (by decide) rfl (pc' := 8) rfl ?_; intro T h3 X K4 O5
  obtain ⟨g6, O7⟩ : ∃ g : Nat → Int32, AI Z h3 b1 .int 16 g := ⟨_, O5⟩
  refine w_dup X at_8 rfl (pc' := 9) rfl ?_
  refine w_iconst X at_9 (v := (1 : Int32)) (by decide) (pc' := 10) rfl ?_
  refine w_bipush X at_10 (v := (9 : Int32)) (by decide) (pc' := 12) rfl ?_
  refine w_iastore X (i := 1) (x' := (9 : Int32)) O7 ga1 at_12 (by decide) (by decide) rfl (pc' := 13) rfl ?_; intro T h8 X K9 O10
  obtain ⟨g11, O12⟩ : ∃ g : Nat → Int32, AI Z h8 b1 .int 16 g := ⟨_, O10⟩
  refine w_dup X at_13 rfl (pc' := 14) rfl ?_
  refine w_iconst X at_14 (v := (2 : Int32)) (by decide) (pc' := 15) rfl ?_
  refine w_bipush X at_15 (v := (10 : Int32)) (by decide) (pc' := 17) rfl ?_
  refine w_iastore X (i := 2) (x' := (10 : Int32)) O12 ga1 at_17 (by decide) (by decide) rfl (pc' := 18) rfl ?_; intro T h13 X K14 O15
  obtain ⟨g16, O17⟩ : ∃ g : Nat → Int32, AI Z h13 b1 .int 16 g := ⟨_, O15⟩
  refine w_dup X at_18 rfl (pc' := 19) rfl ?_
  refine w_iconst X at_19 (v := (3 : Int32)) (by decide) (pc' := 20) rfl ?_
  refine w_bipush X at_20 (v := (13 : Int32)) (by decide) (pc' := 22) rfl ?_
  refine w_iastore X (i := 3) (x' := (13 : Int32)) O17 ga1 at_22 (by decide) (by decide) rfl (pc' := 23) rfl ?_; intro T h18 X K19 O20
  obtain ⟨g21, O22⟩ : ∃ g : Nat → Int32, AI Z h18 b1 .int 16 g := ⟨_, O20⟩
  refine w_dup X at_23 rfl (pc' := 24) rfl ?_
  refine w_iconst X at_24 (v := (4 : Int32)) (by decide) (pc' := 25) rfl ?_
  refine w_bipush X at_25 (v := (32 : Int32)) (by decide) (pc' := 27) rfl ?_
  refine w_iastore X (i := 4) (x' := (32 : Int32)) O22 ga1 at_27 (by decide) (by decide) rfl (pc' := 28) rfl ?_; intro T h23 X K24 O25
  obtain ⟨g26, O27⟩ : ∃ g : Nat → Int32, AI Z h23 b1 .int 16 g := ⟨_, O25⟩
  refine w_dup X at_28 rfl (pc' := 29) rfl ?_
  refine w_iconst X at_29 (v := (5 : Int32)) (by decide) (pc' := 30) rfl ?_
  refine w_ldcI X at_30 (tw1 hw) (pc' := 32) rfl ?_
  refine w_iastore X (i := 5) (x' := (55295 : Int32)) O27 ga1 at_32 (by decide) (by decide) rfl (pc' := 33) rfl ?_; intro T h28 X K29 O30
  obtain ⟨g31, O32⟩ : ∃ g : Nat → Int32, AI Z h28 b1 .int 16 g := ⟨_, O30⟩
  refine w_dup X at_33 rfl (pc' := 34) rfl ?_
  refine w_bipush X at_34 (v := (6 : Int32)) (by decide) (pc' := 36) rfl ?_
  refine w_ldcI X at_36 (tw2 hw) (pc' := 38) rfl ?_
  refine w_iastore X (i := 6) (x' := (55296 : Int32)) O32 ga1 at_38 (by decide) (by decide) rfl (pc' := 39) rfl ?_; intro T h33 X K34 O35
  obtain ⟨g36, O37⟩ : ∃ g : Nat → Int32, AI Z h33 b1 .int 16 g := ⟨_, O35⟩
  refine w_dup X at_39 rfl (pc' := 40) rfl ?_
  refine w_bipush X at_40 (v := (7 : Int32)) (by decide) (pc' := 42) rfl ?_
  refine w_ldcI X at_42 (tw3 hw) (pc' := 44) rfl ?_
  refine w_iastore X (i := 7) (x' := (57343 : Int32)) O37 ga1 at_44 (by decide) (by decide) rfl (pc' := 45) rfl ?_; intro T h38 X K39 O40
  obtain ⟨g41, O42⟩ : ∃ g : Nat → Int32, AI Z h38 b1 .int 16 g := ⟨_, O40⟩
  refine w_dup X at_45 rfl (pc' := 46) rfl ?_
  refine w_bipush X at_46 (v := (8 : Int32)) (by decide) (pc' := 48) rfl ?_
  refine w_ldcI X at_48 (tw4 hw) (pc' := 50) rfl ?_
  refine w_iastore X (i := 8) (x' := (57344 : Int32)) O42 ga1 at_50 (by decide) (by decide) rfl (pc' := 51) rfl ?_; intro T h43 X K44 O45
  obtain ⟨g46, O47⟩ : ∃ g : Nat → Int32, AI Z h43 b1 .int 16 g := ⟨_, O45⟩
  refine w_dup X at_51 rfl (pc' := 52) rfl ?_
  refine w_bipush X at_52 (v := (9 : Int32)) (by decide) (pc' := 54) rfl ?_
  refine w_ldcI X at_54 (tw5 hw) (pc' := 56) rfl ?_
  refine w_iastore X (i := 9) (x' := (65533 : Int32)) O47 ga1 at_56 (by decide) (by decide) rfl (pc' := 57) rfl ?_; intro T h48 X K49 O50
  obtain ⟨g51, O52⟩ : ∃ g : Nat → Int32, AI Z h48 b1 .int 16 g := ⟨_, O50⟩
  refine w_dup X at_57 rfl (pc' := 58) rfl ?_
  refine w_bipush X at_58 (v := (10 : Int32)) (by decide) (pc' := 60) rfl ?_
  refine w_ldcI X at_60 (tw6 hw) (pc' := 62) rfl ?_
  refine w_iastore X (i := 10) (x' := (65534 : Int32)) O52 ga1 at_62 (by decide) (by decide) rfl (pc' := 63) rfl ?_; intro T h53 X K54 O55
  obtain ⟨g56, O57⟩ : ∃ g : Nat → Int32, AI Z h53 b1 .int 16 g := ⟨_, O55⟩
  refine w_dup X at_63 rfl (pc' := 64) rfl ?_
  refine w_bipush X at_64 (v := (11 : Int32)) (by decide) (pc' := 66) rfl ?_
  refine w_ldcI X at_66 (tw7 hw) (pc' := 68) rfl ?_
  refine w_iastore X (i := 11) (x' := (65536 : Int32)) O57 ga1 at_68 (by decide) (by decide) rfl (pc' := 69) rfl ?_; intro T h58 X K59 O60
  obtain ⟨g61, O62⟩ : ∃ g : Nat → Int32, AI Z h58 b1 .int 16 g := ⟨_, O60⟩
  refine w_dup X at_69 rfl (pc' := 70) rfl ?_
  refine w_bipush X at_70 (v := (12 : Int32)) (by decide) (pc' := 72) rfl ?_
  refine w_ldcI X at_72 (tw8 hw) (pc' := 74) rfl ?_
  refine w_iastore X (i := 12) (x' := (1114111 : Int32)) O62 ga1 at_74 (by decide) (by decide) rfl (pc' := 75) rfl ?_; intro T h63 X K64 O65
  obtain ⟨g66, O67⟩ : ∃ g : Nat → Int32, AI Z h63 b1 .int 16 g := ⟨_, O65⟩
  refine w_dup X at_75 rfl (pc' := 76) rfl ?_
  refine w_bipush X at_76 (v := (13 : Int32)) (by decide) (pc' := 78) rfl ?_
  refine w_ldcI X at_78 (tw9 hw) (pc' := 80) rfl ?_
  refine w_iastore X (i := 13) (x' := (1114112 : Int32)) O67 ga1 at_80 (by decide) (by decide) rfl (pc' := 81) rfl ?_; intro T h68 X K69 O70
  obtain ⟨g71, O72⟩ : ∃ g : Nat → Int32, AI Z h68 b1 .int 16 g := ⟨_, O70⟩
  refine w_dup X at_81 rfl (pc' := 82) rfl ?_
  refine w_bipush X at_82 (v := (14 : Int32)) (by decide) (pc' := 84) rfl ?_
  refine w_ldcI X at_84 (tw10 hw) (pc' := 86) rfl ?_
  refine w_iastore X (i := 14) (x' := (-2147483648 : Int32)) O72 ga1 at_86 (by decide) (by decide) rfl (pc' := 87) rfl ?_; intro T h73 X K74 O75
  obtain ⟨g76, O77⟩ : ∃ g : Nat → Int32, AI Z h73 b1 .int 16 g := ⟨_, O75⟩
  refine w_dup X at_87 rfl (pc' := 88) rfl ?_
  refine w_bipush X at_88 (v := (15 : Int32)) (by decide) (pc' := 90) rfl ?_
  refine w_ldcI X at_90 (tw11 hw) (pc' := 92) rfl ?_
  refine w_iastore X (i := 15) (x' := (2147483647 : Int32)) O77 ga1 at_92 (by decide) (by decide) rfl (pc' := 93) rfl ?_; intro T h78 X K79 O80
  obtain ⟨g81, O82⟩ : ∃ g : Nat → Int32, AI Z h78 b1 .int 16 g := ⟨_, O80⟩
  refine w_astoreN X at_93 (L' := #[.val (.int a), .val (.int t), .val (.int d), .val (.ref b1), .unset, .unset, .unset]) rfl rfl (pc' := 94) rfl ?_
  refine w_aloadN X at_94 rfl rfl (pc' := 95) rfl ?_
  refine w_iloadN X at_95 rfl (pc' := 96) rfl ?_
  refine w_bipush X at_96 (v := (15 : Int32)) (by decide) (pc' := 98) rfl ?_
  refine w_iand X at_98 (pc' := 99) rfl ?_
  refine w_iaload X (i := (t &&& 15).toInt.toNat) O82 at_99 (ix15 t) (lt16 t) rfl (pc' := 100) rfl ?_
  refine w_nameI ?_; intro ed h_ed
  refine w_iloadN X at_100 rfl (pc' := 101) rfl ?_
  refine w_iconst X at_101 (v := (3 : Int32)) (by decide) (pc' := 102) rfl ?_
  refine w_irem X at_102 (by decide) (pc' := 103) rfl ?_
  refine w_iadd X at_103 (pc' := 104) rfl ?_
  refine w_nameI ?_; intro pp h_pp
  refine w_istore X at_104 (L' := #[.val (.int a), .val (.int t), .val (.int d), .val (.ref b1), .val (.int pp), .unset, .unset]) rfl (pc' := 106) rfl ?_
  refine w_iloadN X at_106 rfl (pc' := 107) rfl ?_
  refine w_callS X [(.int a)] [] 0 (tw12 hw) (tw13 hw) (tw14 hw) (tw15 hw) (ct_fIs l Z a0 hw a h78 n0 X.n0le) at_107 pd0 rfl (by decide) rfl rfl rfl (by decide) (by decide) (by decide) (by decide) (pc' := 110) rfl ?_
  intro T hz v X hQ
  obtain ⟨rfl, hz1⟩ := hQ; replace hz1 := hz1.symm; subst hz1
  show WP _ _ _ _ _ _ _ _ _ (mkF m 110 #[.val (.int a), .val (.int t), .val (.int d), .val (.ref b1), .val (.int pp), .unset, .unset] [(.int (fIs a))])
  refine w_iloadN X at_110 rfl (pc' := 111) rfl ?_
  refine w_callS X [(.int a)] [(.int (fIs a))] 1 (tw18 hw) (tw19 hw) (tw20 hw) (tw21 hw) (ct_fRef l Z a0 hw a h78 n0 X.n0le) at_111 pd0 rfl (by decide) rfl rfl rfl (by decide) (by decide) (by decide) (by decide) (pc' := 114) rfl ?_
  intro T hz v X hQ
  obtain ⟨rfl, hz1⟩ := hQ; replace hz1 := hz1.symm; subst hz1
  show WP _ _ _ _ _ _ _ _ _ (mkF m 114 #[.val (.int a), .val (.int t), .val (.int d), .val (.ref b1), .val (.int pp), .unset, .unset] [(.int (fRef a)), (.int (fIs a))])
  refine w_icmp_ne X at_114 (by decide) (p1 := 121) (by decide) (p2 := 117) rfl (fun c114 => False.elim (c114 (chr_eq _))) (fun c114 => ?_)
  refine w_iconst X at_117 (v := (1 : Int32)) (by decide) (pc' := 118) rfl ?_
  refine w_goto X at_118 (by decide) (pc' := 122) (by decide) ?_
  refine w_istore X at_122 (L' := #[.val (.int a), .val (.int t), .val (.int d), .val (.ref b1), .val (.int pp), .val (.int (1 : Int32)), .unset]) rfl (pc' := 124) rfl ?_
  refine w_iload X at_124 rfl (pc' := 126) rfl ?_
  refine w_callS X [(.int pp)] [] 0 (tw12 hw) (tw13 hw) (tw14 hw) (tw15 hw) (ct_fIs l Z a0 hw pp h78 n0 X.n0le) at_126 pd0 rfl (by decide) rfl rfl rfl (by decide) (by decide) (by decide) (by decide) (pc' := 129) rfl ?_
  intro T hz v X hQ
  obtain ⟨rfl, hz1⟩ := hQ; replace hz1 := hz1.symm; subst hz1
  show WP _ _ _ _ _ _ _ _ _ (mkF m 129 #[.val (.int a), .val (.int t), .val (.int d), .val (.ref b1), .val (.int pp), .val (.int (1 : Int32)), .unset] [(.int (fIs pp))])
  refine w_iload X at_129 rfl (pc' := 131) rfl ?_
  refine w_callS X [(.int pp)] [(.int (fIs pp))] 1 (tw18 hw) (tw19 hw) (tw20 hw) (tw21 hw) (ct_fRef l Z a0 hw pp h78 n0 X.n0le) at_131 pd0 rfl (by decide) rfl rfl rfl (by decide) (by decide) (by decide) (by decide) (pc' := 134) rfl ?_
  intro T hz v X hQ
  obtain ⟨rfl, hz1⟩ := hQ; replace hz1 := hz1.symm; subst hz1
  show WP _ _ _ _ _ _ _ _ _ (mkF m 134 #[.val (.int a), .val (.int t), .val (.int d), .val (.ref b1), .val (.int pp), .val (.int (1 : Int32)), .unset] [(.int (fRef pp)), (.int (fIs pp))])
  refine w_icmp_ne X at_134 (by decide) (p1 := 141) (by decide) (p2 := 137) rfl (fun c134 => False.elim (c134 (chr_eq _))) (fun c134 => ?_)
  refine w_iconst X at_137 (v := (1 : Int32)) (by decide) (pc' := 138) rfl ?_
  refine w_goto X at_138 (by decide) (pc' := 142) (by decide) ?_
  refine w_istore X at_142 (L' := #[.val (.int a), .val (.int t), .val (.int d), .val (.ref b1), .val (.int pp), .val (.int (1 : Int32)), .val (.int (1 : Int32))]) rfl (pc' := 144) rfl ?_
  refine w_iload X at_144 rfl (pc' := 146) rfl ?_
  refine w_if_eq X at_146 (by decide) (p1 := 158) (by decide) (p2 := 149) rfl (fun c146 => False.elim (absurd c146 (by decide))) (fun c146 => ?_)
  refine w_iload X at_149 rfl (pc' := 151) rfl ?_
  refine w_if_eq X at_151 (by decide) (p1 := 158) (by decide) (p2 := 154) rfl (fun c151 => False.elim (absurd c151 (by decide))) (fun c151 => ?_)
  refine w_iconst X at_154 (v := (1 : Int32)) (by decide) (pc' := 155) rfl ?_
  refine w_goto X at_155 (by decide) (pc' := 159) (by decide) ?_
  exact w_retZ X rfl at_159 (by decide) (by decide) (by decide) rfl
set_option maxRecDepth 65536 in
set_option maxHeartbeats 4000000 in
theorem comes_1 {Post : Tables → Env → Array Value → State → Outcome → State → Prop} (hpost : ∀ tb e args s v u, (limb_1_1.after args s (.returned v) u = true ∧ limb_1_2.after args s (.returned v) u = true ∧ True) → FrameEnd s (.returned v) u (Jvm.fieldLocs frame_1_writes args s ++ Jvm.arrayLocs frame_1_arrays args s ++ Jvm.staticLocs frame_1_statics s) 16 128 → Post tb e args s (.returned v) u) :
    ArmFor flags0 classFile x code maxLocals ret World_1 tables_1 room_1 Calls_1 rest_1 Pre_1 Post := by
  intro l hfl _ _ p e ha hc hk s m args below hf hA hF happ hP
  obtain ⟨hcalls, hrest, hpre⟩ := hP
  obtain ⟨-, -, -, hnamed, -, -, -, hat⟩ := (Spec.applies_iff hf).mp happ
  obtain ⟨hg, hn⟩ := and_e (Cond.before_iff.mp (show (Jvm.Cond.and given_1 narrow_1).before args s = true from hpre))
  obtain ⟨g1a, g1b⟩ := and_e hg
  obtain ⟨g2a, g2b⟩ := and_e g1b
  obtain ⟨g3a, g3b⟩ := and_e g2b
  obtain ⟨w0, w1, w2, rfl⟩ : ∃ w0 w1 w2 : Value, args = #[w0, w1, w2] := by
    have hs : args.size = 3 := by simpa [Cond.value, given_1] using g1a
    obtain ⟨L⟩ := args
    match L, hs with
    | [w0, w1, w2], _ => exact ⟨w0, w1, w2, rfl⟩
  have hw := fun d (hd : d ∈ tables_1) => atoms_spec (ws := Jvm.Cond.code x code maxLocals ret :: tables_1) hat d (List.mem_cons_of_mem _ hd)
  obtain ⟨i0, ei0⟩ := is_v g2a
  obtain rfl : w0 = (.int i0) := Option.some.inj ei0
  obtain ⟨i1, ei1⟩ := is_v g3a
  obtain rfl : w1 = (.int i1) := Option.some.inj ei1
  obtain ⟨i2, ei2⟩ := is_v g3b
  obtain rfl : w2 = (.int i2) := Option.some.inj ei2
  obtain ⟨n, o, h1, h2, h3, _, L, rfl, ⟨rfl, N⟩, hq⟩ := ct_law l s _ hw i0 i1 i2 s.heap s.heap.size (Nat.le_refl _) tables_1 p e ha hc hk s m _ below hf ((Spec.applies_iff_loose hf).mp happ).1 ⟨rfl, State.Warmed39.refl s, rfl⟩ trivial
  exact ⟨n, _, h1, h2, h3, hpost _ _ _ _ _ _ ⟨Cond.after_iff.mpr rfl, Cond.after_iff.mpr (eq_i res_at (Term.int_eval (1)) rfl), trivial⟩ ⟨hq.1, hq.2.1, (hq.2.2.sift fun y hy => Or.inr (N y hy)).mono (by decide) (by decide)⟩⟩
theorem main_1_1 : Claimed_1_1 := comes_1 fun _ _ _ _ _ _ h hF => ⟨h.1, hF⟩
theorem main_1_2 : Claimed_1_2 := comes_1 fun _ _ _ _ _ _ h hF => ⟨h.2.1, hF⟩
end Jvm.Pilot.@@N@@
namespace Jvm.Pilot.@@N@@
open Jvm Jvm.ClassFile Sem Op Lib Jvm.Free Jvm.Stand Jvm.Pilot.@@N@@.Jvm.D
/-! MADE BY PROGRAM (witnessworld.py) out of the Statement's table words and the real class files: 9 classes; the members and pool entries that the words name. The judged class is class 1, her method 2. -/
namespace start1
open Jvm.ClassFile
def u (s : String) : CpInfo := .utf8 (stringToUtf16 s)
/-- a pool by its gaps: so many unusable entries, then the entry; so many at the end -/
def gap : Nat → List CpInfo → List CpInfo
  | 0, r => r
  | n + 1, r => .unusable :: gap n r
def poolList (es : List (Nat × CpInfo)) (last : Nat) : List CpInfo := es.foldr (fun e r => gap e.1 (e.2 :: r)) (gap last [])
def pool (es : List (Nat × CpInfo)) (last : Nat) : Array CpInfo := ⟨poolList es last⟩
def fileOf (pool : Array CpInfo) (this : Nat) (attrs : Array Attribute := #[]) (ms : Array MethodInfo := #[]) (fl : Nat := 33) (sup : Nat := 0) (ifs : Array Nat := #[]) (fds : Array FieldInfo := #[]) : ClassFile where
  minorVersion := 0
  majorVersion := 65
  constantPool := pool
  accessFlags := fl
  thisClass := this
  superClass := sup
  interfaces := ifs
  fields := fds
  methods := ms
  attributes := attrs
def plain (name : String) (sup : Option ClassId) : Class where
  name := name
  kind := .ordinary
  loader := none
  accessFlags := 33
  super := sup
  interfaces := #[]
  cf := none
  fields := #[]
  methods := #[]
  instanceTypes := #[]
  staticTypes := #[]
  resolved := #[]
  callSites := []
  init := .initialized
  statics := none
  mirror := none

def pool0 : Array CpInfo := pool [(5, u "<init>"), (0, u "()V"), (1, .class_ 10), (1, u "java/lang/Object")] 113

def k0m0 : Method := { name := "<init>", desc := "()V", sig := { parameters := [], returnType := none }, accessFlags := 1, code := none }
/-- java/lang/Object -/
def k0 : Class := { plain "java/lang/Object" none with
  accessFlags := 33
  interfaces := #[]
  cf := some (fileOf pool0 8 #[] #[{ accessFlags := 1, nameIndex := 5, descriptorIndex := 6, attributes := #[] }] 33 0 #[] #[])
  fields := #[]
  methods := #[k0m0]
  instanceTypes := #[]
  staticTypes := #[]
  resolved := Array.replicate 124 none
  statics := none }

def pool1 : Array CpInfo := pool [(2, .class_ 4), (1, u "java/lang/Object"), (0, u "<init>"), (0, u "()V"), (0, .integer 1114111), (0, .integer 55296), (0, .integer 57343), (0, .integer 65534), (0, .integer 65535), (0, .integer 55295), (0, .integer 57344), (0, .integer 65533), (0, .integer 65536), (0, .integer 1114112), (2, .integer 2147483648), (0, .integer 2147483647), (0, .methodref 22 23), (0, .class_ 24), (0, .nameAndType 25 26), (0, u "com/example/xtent/xtent/document/XmlNames"), (0, u "isCharacter"), (0, u "(I)Z"), (0, .methodref 28 29), (0, .class_ 30), (0, .nameAndType 31 26), (0, u "com/example/xtent/xtent/document/XmlNamesIsCharacterPinLaw"), (0, u "reference"), (3, u "law"), (0, u "(III)Z")] 4

def k1m0 : Method := { name := "<init>", desc := "()V", sig := { parameters := [], returnType := none }, accessFlags := 2, code := none }
def k1c1 : Code := { maxStack := 2, maxLocals := 1, code := method_2_code, exceptionTable := #[], attributes := #[] }
def k1m1 : Method := { name := "reference", desc := "(I)Z", sig := { parameters := [.int], returnType := some .boolean }, accessFlags := 10, code := some k1c1 }
def k1c2 : Code := { maxStack := 4, maxLocals := 7, code := code, exceptionTable := #[], attributes := #[] }
def k1m2 : Method := { name := "law", desc := "(III)Z", sig := { parameters := [.int, .int, .int], returnType := some .boolean }, accessFlags := 9, code := some k1c2 }
/-- com/example/xtent/xtent/document/XmlNamesIsCharacterPinLaw -/
def k1 : Class := { plain "com/example/xtent/xtent/document/XmlNamesIsCharacterPinLaw" (some 0) with
  accessFlags := 49
  interfaces := #[]
  cf := some (fileOf pool1 28 #[] #[{ accessFlags := 2, nameIndex := 5, descriptorIndex := 6, attributes := #[] }, { accessFlags := 10, nameIndex := 31, descriptorIndex := 26, attributes := #[] }, { accessFlags := 9, nameIndex := 35, descriptorIndex := 36, attributes := #[] }] 49 2 #[] #[])
  fields := #[]
  methods := #[k1m0, k1m1, k1m2]
  instanceTypes := #[]
  staticTypes := #[]
  resolved := Array.replicate 41 none
  statics := none }

def pool2 : Array CpInfo := pool [(2, .class_ 4), (1, u "java/lang/Object"), (0, u "<init>"), (0, u "()V"), (36, .class_ 45), (1, u "com/example/xtent/xtent/document/XmlNames"), (1, u "(I)Z"), (12, .integer 55295), (0, .integer 57344), (0, .integer 65533), (0, .integer 65536), (0, .integer 1114111), (31, u "isCharacter")] 40

def k2m0 : Method := { name := "<init>", desc := "()V", sig := { parameters := [], returnType := none }, accessFlags := 2, code := none }
def k2c1 : Code := { maxStack := 2, maxLocals := 1, code := prog_26_method_7_code, exceptionTable := #[], attributes := #[] }
def k2m1 : Method := { name := "isCharacter", desc := "(I)Z", sig := { parameters := [.int], returnType := some .boolean }, accessFlags := 8, code := some k2c1 }
/-- com/example/xtent/xtent/document/XmlNames -/
def k2 : Class := { plain "com/example/xtent/xtent/document/XmlNames" (some 0) with
  accessFlags := 33
  interfaces := #[]
  cf := some (fileOf pool2 43 #[] #[{ accessFlags := 2, nameIndex := 5, descriptorIndex := 6, attributes := #[] }, { accessFlags := 8, nameIndex := 96, descriptorIndex := 47, attributes := #[] }] 33 2 #[] #[])
  fields := #[]
  methods := #[k2m0, k2m1]
  instanceTypes := #[]
  staticTypes := #[]
  resolved := Array.replicate 137 none
  statics := none }

def pool3 : Array CpInfo := pool [(1, u "java/lang/Cloneable"), (0, .class_ 1), (0, u "java/lang/Object"), (0, .class_ 3)] 3

/-- java/lang/Cloneable -/
def k3 : Class := { plain "java/lang/Cloneable" (some 0) with
  accessFlags := 1537
  interfaces := #[]
  cf := some (fileOf pool3 2 #[] #[] 1537 4 #[] #[])
  fields := #[]
  methods := #[]
  instanceTypes := #[]
  staticTypes := #[]
  resolved := Array.replicate 8 none
  statics := none }

def pool4 : Array CpInfo := pool [(1, u "java/io/Serializable"), (0, .class_ 1), (0, u "java/lang/Object"), (0, .class_ 3)] 3

/-- java/io/Serializable -/
def k4 : Class := { plain "java/io/Serializable" (some 0) with
  accessFlags := 1537
  interfaces := #[]
  cf := some (fileOf pool4 2 #[] #[] 1537 4 #[] #[])
  fields := #[]
  methods := #[]
  instanceTypes := #[]
  staticTypes := #[]
  resolved := Array.replicate 8 none
  statics := none }

/-- the primitive byte -/
def k5 : Class := { plain "byte" none with kind := .primitive 'B', accessFlags := 0x411 }
/-- [B -/
def k6 : Class := { plain "[B" (some 0) with kind := .array 5 .byte, interfaces := #[3, 4], accessFlags := 1041 }

/-- the primitive int -/
def k7 : Class := { plain "int" none with kind := .primitive 'I', accessFlags := 0x411 }
/-- [I -/
def k8 : Class := { plain "[I" (some 0) with kind := .array 7 .int, interfaces := #[3, 4], accessFlags := 1041 }

def heap : Heap := #[]
def classes : Array Class := #[k0, k1, k2, k3, k4, k5, k6, k7, k8]
def interned : List (Array UInt16 × Addr) := []
def slotsUsed : Nat := 0
def theMethod : MethodId := ⟨1, 2⟩
def args0 : Array Value := #[.int 5, .int 5, .int 5]
def aboutOver (below : List Frame) : State where
  vm := { classes := classes, interned := interned.toArray }
  heap := heap
  slotsUsed := slotsUsed
  threads := #[{ frames := .invoking theMethod args0 :: below }]
def below0 : List Frame := [.native { method := ⟨0, 0⟩, args := #[] }]
def about1 : State := aboutOver below0
def p0 : Program := .bare "" "" ""
def e0 : Env := launch0.env 0 0 0
theorem w_frames : about1.frames = Frame.invoking theMethod args0 :: below0 := rfl
set_option maxRecDepth 65536 in
theorem w_args : argsFit about1.vm theMethod args0 = true := by decide +kernel
set_option maxRecDepth 65536 in
theorem w_heap : heapFits about1 = true := by decide +kernel
set_option maxRecDepth 65536 in
theorem w_runnable : about1.curStatus? = some .runnable := by decide +kernel
set_option maxRecDepth 65536 in
theorem w_alone : about1.alone = true := by decide +kernel
set_option maxRecDepth 65536 in
theorem w_named : about1.methodNamed? x = some theMethod := by decide +kernel
set_option maxRecDepth 65536 in
theorem w_hears : about1.hears theMethod below0 = true := by decide +kernel
set_option maxRecDepth 65536 in
theorem w_ripe : about1.ripe theMethod args0 below0 = true := by decide +kernel
theorem w_running : about1.status = .running := rfl
set_option maxRecDepth 65536 in
theorem w_room : about1.hasRoom e0.platform room_1 = true :=
  launch0.hasRoom_least _ room_1 (by decide +kernel) (by decide +kernel) (by decide +kernel) (by decide +kernel) (by decide +kernel) (by decide +kernel)
theorem allAtoms_all (ts : List Jvm.Cond) (a : Array Jvm.Value) (st : Jvm.State) : (allAtoms ts).before a st = ts.all (fun c => c.before a st) := by
  induction ts with
  | nil => rfl
  | cons c t ih =>
    show (Jvm.Cond.and c (allAtoms t)).before a st = _
    rw [Jvm.Cond.before_and, ih, List.all_cons]
def words1 : List Jvm.Cond := Jvm.Cond.code x code maxLocals ret :: tables_1
/-- a 'code' word, met by the world's own term for the bytes: nothing is compared byte by byte -/
theorem code_word {y : MethodName} {bytes : ByteArray} {mx : Nat} {rt : Option FieldType} {a : Array Value} {s : State} {m : MethodId} {meth : Method} {c : Code} (h1 : s.methodNamed? y = some m) (h2 : s.vm.method? m = some meth) (h3 : meth.code = some c) (h4 : c.code = bytes)
    (h5 : (c.maxLocals == mx && c.exceptionTable.isEmpty && decide (c.maxStack ≤ mostOperands) && decide (meth.sig.returnType = rt) && !meth.locks && decide (parseMethodDescriptor y.desc = some meth.sig)) = true) : (Jvm.Cond.code y bytes mx rt).before a s = true := by
  simp only [Bool.and_eq_true, beq_iff_eq, Bool.not_eq_true', decide_eq_true_eq] at h5
  obtain ⟨⟨⟨⟨⟨g1, g2⟩, g3⟩, g4⟩, g5⟩, g6⟩ := h5
  simp [Cond.before, Cond.holds, Cond.value, h1, h2, h3, h4, g1, g2, g3, g4, g5, g6]
def isCode : Jvm.Cond → Bool
  | .code _ _ _ _ => true
  | _ => false
theorem all_split {L : List Jvm.Cond} {P : Jvm.Cond → Bool} (h1 : L.all (fun c => isCode c || P c) = true) (h2 : ∀ c ∈ L.filter isCode, P c = true) : L.all P = true := by
  refine List.all_eq_true.mpr fun c hc => ?_
  have h := List.all_eq_true.mp h1 c hc
  rcases Bool.eq_false_or_eq_true (isCode c) with hi | hi
  · exact h2 c (List.mem_filter.mpr ⟨hc, hi⟩)
  · simpa [hi] using h
set_option maxRecDepth 65536 in
theorem w_c0 : (Jvm.Cond.code x code maxLocals ret).before args0 about1 = true := code_word (m := ⟨1, 2⟩) (meth := k1m2) (c := k1c2) (by decide +kernel) rfl rfl rfl (by decide +kernel)
set_option maxRecDepth 65536 in
theorem w_c1 : (Jvm.Cond.code ({ cls := "com/example/xtent/xtent/document/XmlNames", name := "isCharacter", desc := "(I)Z" } : Jvm.MethodName) prog_26_method_7_code (1 : Nat) (Option.some Jvm.ClassFile.FieldType.boolean)).before args0 about1 = true := code_word (m := ⟨2, 1⟩) (meth := k2m1) (c := k2c1) (by decide +kernel) rfl rfl rfl (by decide +kernel)
set_option maxRecDepth 65536 in
theorem w_c2 : (Jvm.Cond.code ({ cls := "com/example/xtent/xtent/document/XmlNamesIsCharacterPinLaw", name := "reference", desc := "(I)Z" } : Jvm.MethodName) method_2_code (1 : Nat) (Option.some Jvm.ClassFile.FieldType.boolean)).before args0 about1 = true := code_word (m := ⟨1, 1⟩) (meth := k1m1) (c := k1c1) (by decide +kernel) rfl rfl rfl (by decide +kernel)
def codes1 : List Jvm.Cond := [Jvm.Cond.code x code maxLocals ret, Jvm.Cond.code ({ cls := "com/example/xtent/xtent/document/XmlNames", name := "isCharacter", desc := "(I)Z" } : Jvm.MethodName) prog_26_method_7_code (1 : Nat) (Option.some Jvm.ClassFile.FieldType.boolean), Jvm.Cond.code ({ cls := "com/example/xtent/xtent/document/XmlNamesIsCharacterPinLaw", name := "reference", desc := "(I)Z" } : Jvm.MethodName) method_2_code (1 : Nat) (Option.some Jvm.ClassFile.FieldType.boolean)]
set_option maxRecDepth 65536 in
theorem codes_eq : words1.filter isCode = codes1 := rfl
theorem w_codes : ∀ c ∈ words1.filter isCode, c.before args0 about1 = true := by
  rw [codes_eq]
  intro c hc
  simp only [codes1, List.mem_cons, List.not_mem_nil, or_false] at hc
  rcases hc with rfl | rfl | rfl
  · exact w_c0
  · exact w_c1
  · exact w_c2
set_option maxRecDepth 65536 in
theorem w_t1 : (words1.take 24).all (fun c => isCode c || c.before args0 about1) = true := by decide +kernel
set_option maxRecDepth 65536 in
theorem w_t2 : (words1.drop 24).all (fun c => isCode c || c.before args0 about1) = true := by decide +kernel
theorem w_tables : (allAtoms (Jvm.Cond.code x code maxLocals ret :: tables_1)).before args0 about1 = true := by
  rw [allAtoms_all]
  show words1.all (fun c => c.before args0 about1) = true
  refine all_split ?_ w_codes
  rw [← List.take_append_drop 24 words1, List.all_append, w_t1, w_t2]
  rfl
set_option maxRecDepth 65536 in
theorem w_case : (Jvm.Cond.and given_1 narrow_1).before args0 about1 = true := by decide +kernel
theorem w_applies : (headSpec (Jvm.Cond.code x code maxLocals ret :: tables_1) room_1).applies x e0.platform about1 = true :=
  (Spec.applies_iff w_frames).mpr ⟨w_running, w_runnable, w_alone, w_named, w_hears, w_ripe, w_room, w_tables⟩
theorem atStart : AtStart classFile x code maxLocals ret World_1 tables_1 room_1 Calls_1 rest_1 Pre_1 launch0 p0 e0 about1 theMethod args0 below0 :=
  ⟨lists_1, trivial, launch0.admits_env _ _ _, launch0.least_env, fairChoices_fair.cas, fairChoices_fair.clock, w_frames, w_args, w_heap, w_applies, trivial, trivial, w_case⟩
end start1
theorem witness_1 : WitnessClaimed_1 := ⟨start1.p0, start1.e0, start1.about1, start1.theMethod, start1.args0, start1.below0, start1.atStart⟩
end Jvm.Pilot.@@N@@
