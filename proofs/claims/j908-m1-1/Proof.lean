import JvmDerived
import JvmDerived.Pilot.@@N@@Statement
import JvmDerived.Pilot.@@N@@Code
set_option linter.unusedVariables false
set_option linter.unusedSimpArgs false
namespace Jvm.OwnK
open Sem ClassFile Op Lib Jvm.Stand Jvm.Free Jvm.LawKit Jvm.RoadKit
def Ctx : Type := Program × Launch × Env × State × MethodId × Array Value × List Frame × Method × Code
def Ctx.p (K : Ctx) : Program := K.1
def Ctx.l (K : Ctx) : Launch := K.2.1
def Ctx.e (K : Ctx) : Env := K.2.2.1
def Ctx.s (K : Ctx) : State := K.2.2.2.1
def Ctx.m (K : Ctx) : MethodId := K.2.2.2.2.1
def Ctx.args (K : Ctx) : Array Value := K.2.2.2.2.2.1
def Ctx.below (K : Ctx) : List Frame := K.2.2.2.2.2.2.1
def Ctx.meth (K : Ctx) : Method := K.2.2.2.2.2.2.2.1
def Ctx.c (K : Ctx) : Code := K.2.2.2.2.2.2.2.2
/-- from here the run ends by a return that answers Q -/
def Go (K : Ctx) (R : Room) (n0 : Nat) (Q : Option Value → Heap → Prop) (T : State) (pc : Nat) (L : Array Slot) (st : List Value) : Prop :=
  ∃ (s₂ : State) (o : Outcome), Steps K.p.tables K.e K.below (T.setTop (mkF K.m pc L st)) s₂ ∧ s₂.status = .running ∧ Ended s₂ K.below o ∧
    ∃ (v : Option Value) (Lc : List Loc), o = .returned v ∧ (Q v s₂.heap ∧ Fr n0 Lc) ∧ FrameEnd K.s o s₂ Lc R.cells R.slots
/-- where the run stands -/
def St (K : Ctx) (Z : State) (R : Room) (y : MethodName) (bytes : ByteArray) (maxL : Nat) (ret : Option FieldType) (n0 : Nat) (T : State) (h : Heap) (cells slots : Nat) : Prop :=
  (∃ locs, Stand K.p K.l K.e R K.s K.m K.args K.below K.meth K.c T locs cells slots ∧ Fr n0 locs) ∧ T.heap = h ∧ n0 ≤ K.s.heap.size ∧ K.p.tables.exec = Jvm.exec ∧ Z.Warmed39 K.s.vm ∧ K.c.code = bytes ∧ K.c.maxLocals = maxL ∧
    K.meth.sig.returnType = ret ∧ K.meth.locks = false ∧ K.s.vm.findClass y.cls = some K.m.cls ∧ K.meth.name = y.name
/-- what a body does, called with the arguments as' at the heap h -/
def Ctr (Z : State) (n0 : Nat) (y : MethodName) (bytes : ByteArray) (maxL : Nat) (ret : Option FieldType) (R : Room) (as' : List Value) (h : Heap) (Q : Option Value → Heap → Prop) : Prop :=
  ∀ (l : Launch) (ws : List Jvm.Cond), MetFree l y (head1 (Jvm.Cond.code y bytes maxL ret :: ws) R) (fun a U => a = as'.toArray ∧ Z.Warmed39 U.vm ∧ U.heap = h) (fun _ _ _ _ _ => True)
    (fun _ U o U' => ∃ v L, o = .returned v ∧ (Q v U'.heap ∧ Fr n0 L) ∧ FrameEnd U o U' L R.cells R.slots)
section Kit
variable {K : Ctx} {Z : State} {R : Room} {y : MethodName} {bytes : ByteArray} {maxL : Nat} {ret : Option FieldType} {n0 : Nat} {T : State} {h : Heap} {cl sl : Nat} {Q : Option Value → Heap → Prop} {pc pc' : Nat} {L L' : Array Slot} {st : List Value} {a0 : Array Value}
theorem Go.step {T' : State} {st' : List Value} (hs : ∀ target, Steps K.p.tables K.e K.below (T'.setTop (mkF K.m pc' L' st')) target → Steps K.p.tables K.e K.below (T.setTop (mkF K.m pc L st)) target) (k : Go K R n0 Q T' pc' L' st') : Go K R n0 Q T pc L st := by
  obtain ⟨s₂, o, h1, r⟩ := k
  exact ⟨s₂, o, hs _ h1, r⟩
theorem St.size (S : St K Z R y bytes maxL ret n0 T h cl sl) : n0 ≤ h.size := by
  obtain ⟨⟨locs, X, hF⟩, e0, hn, -⟩ := S
  have q : K.s.heap.size ≤ T.heap.size := X.same.2.1
  rw [← e0]; exact Nat.le_trans hn q
theorem St.more (S : St K Z R y bytes maxL ret n0 T h cl sl) {cl' sl' : Nat} (h1 : cl ≤ cl') (h2 : sl ≤ sl') : St K Z R y bytes maxL ret n0 T h cl' sl' := by
  obtain ⟨⟨locs, X, hF⟩, r⟩ := S
  exact ⟨⟨locs, X.more h1 h2, hF⟩, r⟩
theorem Ctr.of {as' : List Value} (hpl : plainFor y = true) (hn : n0 ≤ h.size) (hef : ∀ m, entryFrame m as'.toArray maxL = mkF m 0 L []) (body : ∀ (K : Ctx) (T : State), St K Z R y bytes maxL ret n0 T h 0 0 → Go K R n0 Q T 0 L []) : Ctr Z n0 y bytes maxL ret R as' h Q := by
  intro l ws
  refine MetFree.of_bodySF hpl hisR ?_
  intro p e s m args below meth c s₁ Bd hml0 hP hK
  obtain ⟨rfl, hZ, hh⟩ := hP
  have e0 : s₁.heap = h := by rw [← hh, Bd.state]; rfl
  have X0 : Stand p l e R s m as'.toArray below meth c s₁ [] 0 0 := Stand.of_body Bd
  obtain ⟨s₂, o, h1, h2, h3, h4⟩ := body (p, l, e, s, m, as'.toArray, below, meth, c) s₁ ⟨⟨[], X0, Fr.nil _⟩, e0, by rw [← hh] at hn; exact hn, Bd.exec, hZ, Bd.bytes, hml0, Bd.returns, BodyLoose.notSynchronized Bd, findClass_of_methodNamed Bd.named, (name_of_methodNamed Bd.named Bd.method).1⟩
  exact ⟨s₂, o, castTop (hef m) h1, h2, h3, h4⟩
theorem Ctr.imp {as' : List Value} {Q' : Option Value → Heap → Prop} (C : Ctr Z n0 y bytes maxL ret R as' h Q) (hq : ∀ v h', Q v h' → Q' v h') : Ctr Z n0 y bytes maxL ret R as' h Q' := by
  intro l ws p e ha hc hk s m args below hf happ hP hK
  obtain ⟨n, o, h1, h2, h3, v, L, e1, ⟨e2, e3⟩, e4⟩ := C l ws p e ha hc hk s m args below hf happ hP hK
  exact ⟨n, o, h1, h2, h3, v, L, e1, ⟨hq _ _ e2, e3⟩, e4⟩

theorem px_iload (S : St K Z R y bytes maxL ret n0 T h cl sl) {k : Nat} {v : Int32} (hd : decode bytes pc = .ok (.iload k, 2)) (hp : pc + 2 = pc') (hl : L[k]? = some (.val (.int v))) (k : Go K R n0 Q T pc' L (.int v :: st)) : Go K R n0 Q T pc L st := by
  subst hp
  obtain ⟨⟨locs, X, hF⟩, e0, hn0, hx, hZ, hby, hml, hret, hlk, hown, hnm⟩ := S
  exact Go.step (fun _ t => XS.iload X.here hx rfl (hb hby hd) hl t) k
theorem px_iloadN (S : St K Z R y bytes maxL ret n0 T h cl sl) {k : Fin 4} {v : Int32} (hd : decode bytes pc = .ok (.iload_n k, 1)) (hp : pc + 1 = pc') (hl : L[k.val]? = some (.val (.int v))) (k : Go K R n0 Q T pc' L (.int v :: st)) : Go K R n0 Q T pc L st := by
  subst hp
  obtain ⟨⟨locs, X, hF⟩, e0, hn0, hx, hZ, hby, hml, hret, hlk, hown, hnm⟩ := S
  exact Go.step (fun _ t => XS.iloadN X.here hx rfl (hb hby hd) hl t) k
theorem px_lload (S : St K Z R y bytes maxL ret n0 T h cl sl) {k : Nat} {v : Int64} (hd : decode bytes pc = .ok (.lload k, 2)) (hp : pc + 2 = pc') (hl : L[k]? = some (.val (.long v))) (k : Go K R n0 Q T pc' L (.long v :: st)) : Go K R n0 Q T pc L st := by
  subst hp
  obtain ⟨⟨locs, X, hF⟩, e0, hn0, hx, hZ, hby, hml, hret, hlk, hown, hnm⟩ := S
  exact Go.step (fun _ t => XS.lload X.here hx rfl (hb hby hd) hl t) k
theorem px_lloadN (S : St K Z R y bytes maxL ret n0 T h cl sl) {k : Fin 4} {v : Int64} (hd : decode bytes pc = .ok (.lload_n k, 1)) (hp : pc + 1 = pc') (hl : L[k.val]? = some (.val (.long v))) (k : Go K R n0 Q T pc' L (.long v :: st)) : Go K R n0 Q T pc L st := by
  subst hp
  obtain ⟨⟨locs, X, hF⟩, e0, hn0, hx, hZ, hby, hml, hret, hlk, hown, hnm⟩ := S
  exact Go.step (fun _ t => XS.lloadN X.here hx rfl (hb hby hd) hl t) k
theorem px_aload (S : St K Z R y bytes maxL ret n0 T h cl sl) {k : Nat} {v : Value} (hd : decode bytes pc = .ok (.aload k, 2)) (hp : pc + 2 = pc') (hl : L[k]? = some (.val v)) (hv : v.isRef = true) (k : Go K R n0 Q T pc' L (v :: st)) : Go K R n0 Q T pc L st := by
  subst hp
  obtain ⟨⟨locs, X, hF⟩, e0, hn0, hx, hZ, hby, hml, hret, hlk, hown, hnm⟩ := S
  exact Go.step (fun _ t => XS.aload X.here hx rfl (hb hby hd) hl hv t) k
theorem px_aloadN (S : St K Z R y bytes maxL ret n0 T h cl sl) {k : Fin 4} {v : Value} (hd : decode bytes pc = .ok (.aload_n k, 1)) (hp : pc + 1 = pc') (hl : L[k.val]? = some (.val v)) (hv : v.isRef = true) (k : Go K R n0 Q T pc' L (v :: st)) : Go K R n0 Q T pc L st := by
  subst hp
  obtain ⟨⟨locs, X, hF⟩, e0, hn0, hx, hZ, hby, hml, hret, hlk, hown, hnm⟩ := S
  exact Go.step (fun _ t => XS.aloadN X.here hx rfl (hb hby hd) hl hv t) k
theorem px_istore (S : St K Z R y bytes maxL ret n0 T h cl sl) {k : Nat} {v : Int32} (hd : decode bytes pc = .ok (.istore k, 2)) (hp : pc + 2 = pc') (hl : storeLocals L k (.int v) = some L') (k : Go K R n0 Q T pc' L' st) : Go K R n0 Q T pc L (.int v :: st) := by
  subst hp
  obtain ⟨⟨locs, X, hF⟩, e0, hn0, hx, hZ, hby, hml, hret, hlk, hown, hnm⟩ := S
  exact Go.step (fun _ t => XS.istore X.here hx rfl (hb hby hd) rfl hl t) k
theorem px_istoreN (S : St K Z R y bytes maxL ret n0 T h cl sl) {k : Fin 4} {v : Int32} (hd : decode bytes pc = .ok (.istore_n k, 1)) (hp : pc + 1 = pc') (hl : storeLocals L k.val (.int v) = some L') (k : Go K R n0 Q T pc' L' st) : Go K R n0 Q T pc L (.int v :: st) := by
  subst hp
  obtain ⟨⟨locs, X, hF⟩, e0, hn0, hx, hZ, hby, hml, hret, hlk, hown, hnm⟩ := S
  exact Go.step (fun _ t => XS.istoreN X.here hx rfl (hb hby hd) rfl hl t) k
theorem px_lstore (S : St K Z R y bytes maxL ret n0 T h cl sl) {k : Nat} {v : Int64} (hd : decode bytes pc = .ok (.lstore k, 2)) (hp : pc + 2 = pc') (hl : storeLocals L k (.long v) = some L') (k : Go K R n0 Q T pc' L' st) : Go K R n0 Q T pc L (.long v :: st) := by
  subst hp
  obtain ⟨⟨locs, X, hF⟩, e0, hn0, hx, hZ, hby, hml, hret, hlk, hown, hnm⟩ := S
  exact Go.step (fun _ t => XS.lstore X.here hx rfl (hb hby hd) rfl hl t) k
theorem px_lstoreN (S : St K Z R y bytes maxL ret n0 T h cl sl) {k : Fin 4} {v : Int64} (hd : decode bytes pc = .ok (.lstore_n k, 1)) (hp : pc + 1 = pc') (hl : storeLocals L k.val (.long v) = some L') (k : Go K R n0 Q T pc' L' st) : Go K R n0 Q T pc L (.long v :: st) := by
  subst hp
  obtain ⟨⟨locs, X, hF⟩, e0, hn0, hx, hZ, hby, hml, hret, hlk, hown, hnm⟩ := S
  exact Go.step (fun _ t => XS.lstoreN X.here hx rfl (hb hby hd) rfl hl t) k
theorem px_astore (S : St K Z R y bytes maxL ret n0 T h cl sl) {k : Nat} {v : Value} (hd : decode bytes pc = .ok (.astore k, 2)) (hp : pc + 2 = pc') (hv : v.isRef = true) (hl : storeLocals L k v = some L') (k : Go K R n0 Q T pc' L' st) : Go K R n0 Q T pc L (v :: st) := by
  subst hp
  obtain ⟨⟨locs, X, hF⟩, e0, hn0, hx, hZ, hby, hml, hret, hlk, hown, hnm⟩ := S
  exact Go.step (fun _ t => XS.astore X.here hx rfl (hb hby hd) rfl hv hl t) k
theorem px_astoreN (S : St K Z R y bytes maxL ret n0 T h cl sl) {k : Fin 4} {v : Value} (hd : decode bytes pc = .ok (.astore_n k, 1)) (hp : pc + 1 = pc') (hv : v.isRef = true) (hl : storeLocals L k.val v = some L') (k : Go K R n0 Q T pc' L' st) : Go K R n0 Q T pc L (v :: st) := by
  subst hp
  obtain ⟨⟨locs, X, hF⟩, e0, hn0, hx, hZ, hby, hml, hret, hlk, hown, hnm⟩ := S
  exact Go.step (fun _ t => XS.astoreN X.here hx rfl (hb hby hd) rfl hv hl t) k
theorem px_iconst (S : St K Z R y bytes maxL ret n0 T h cl sl) {i : Int} {v : Int32} (hd : decode bytes pc = .ok (.iconst i, 1)) (hp : pc + 1 = pc') (hv : Int32.ofInt i = v) (k : Go K R n0 Q T pc' L (.int v :: st)) : Go K R n0 Q T pc L st := by
  subst hp
  obtain ⟨⟨locs, X, hF⟩, e0, hn0, hx, hZ, hby, hml, hret, hlk, hown, hnm⟩ := S
  exact Go.step (fun _ t => XS.iconst X.here hx rfl (hb hby hd) (by rw [hv]; exact t)) k
theorem px_bipush (S : St K Z R y bytes maxL ret n0 T h cl sl) {i : Int} {v : Int32} (hd : decode bytes pc = .ok (.bipush i, 2)) (hp : pc + 2 = pc') (hv : (Int8.ofInt i).toInt32 = v) (k : Go K R n0 Q T pc' L (.int v :: st)) : Go K R n0 Q T pc L st := by
  subst hp
  obtain ⟨⟨locs, X, hF⟩, e0, hn0, hx, hZ, hby, hml, hret, hlk, hown, hnm⟩ := S
  exact Go.step (fun _ t => XS.bipush X.here hx rfl (hb hby hd) (by rw [hv]; exact t)) k
theorem px_sipush (S : St K Z R y bytes maxL ret n0 T h cl sl) {i : Int} {v : Int32} (hd : decode bytes pc = .ok (.sipush i, 3)) (hp : pc + 3 = pc') (hv : (Int16.ofInt i).toInt32 = v) (k : Go K R n0 Q T pc' L (.int v :: st)) : Go K R n0 Q T pc L st := by
  subst hp
  obtain ⟨⟨locs, X, hF⟩, e0, hn0, hx, hZ, hby, hml, hret, hlk, hown, hnm⟩ := S
  exact Go.step (fun _ t => XS.sipush X.here hx rfl (hb hby hd) (by rw [hv]; exact t)) k
theorem px_lconst (S : St K Z R y bytes maxL ret n0 T h cl sl) {i : Fin 2} {v : Int64} (hd : decode bytes pc = .ok (.lconst i, 1)) (hp : pc + 1 = pc') (hv : Int64.ofNat i = v) (k : Go K R n0 Q T pc' L (.long v :: st)) : Go K R n0 Q T pc L st := by
  subst hp
  obtain ⟨⟨locs, X, hF⟩, e0, hn0, hx, hZ, hby, hml, hret, hlk, hown, hnm⟩ := S
  exact Go.step (fun _ t => XS.lconst X.here hx rfl (hb hby hd) (by rw [hv]; exact t)) k
theorem px_aconstNull (S : St K Z R y bytes maxL ret n0 T h cl sl) (hd : decode bytes pc = .ok (.aconst_null, 1)) (hp : pc + 1 = pc') (k : Go K R n0 Q T pc' L (.null :: st)) : Go K R n0 Q T pc L st := by
  subst hp
  obtain ⟨⟨locs, X, hF⟩, e0, hn0, hx, hZ, hby, hml, hret, hlk, hown, hnm⟩ := S
  exact Go.step (fun _ t => XS.aconstNull X.here hx rfl (hb hby hd) t) k
theorem px_iadd (S : St K Z R y bytes maxL ret n0 T h cl sl) {u v : Int32} (hd : decode bytes pc = .ok (.iadd, 1)) (hp : pc + 1 = pc') (k : Go K R n0 Q T pc' L (.int (u + v) :: st)) : Go K R n0 Q T pc L (.int v :: .int u :: st) := by
  subst hp
  obtain ⟨⟨locs, X, hF⟩, e0, hn0, hx, hZ, hby, hml, hret, hlk, hown, hnm⟩ := S
  exact Go.step (fun _ t => XS.iadd X.here hx rfl (hb hby hd) rfl t) k
theorem px_ladd (S : St K Z R y bytes maxL ret n0 T h cl sl) {u v : Int64} (hd : decode bytes pc = .ok (.ladd, 1)) (hp : pc + 1 = pc') (k : Go K R n0 Q T pc' L (.long (u + v) :: st)) : Go K R n0 Q T pc L (.long v :: .long u :: st) := by
  subst hp
  obtain ⟨⟨locs, X, hF⟩, e0, hn0, hx, hZ, hby, hml, hret, hlk, hown, hnm⟩ := S
  exact Go.step (fun _ t => XS.ladd X.here hx rfl (hb hby hd) rfl t) k
theorem px_isub (S : St K Z R y bytes maxL ret n0 T h cl sl) {u v : Int32} (hd : decode bytes pc = .ok (.isub, 1)) (hp : pc + 1 = pc') (k : Go K R n0 Q T pc' L (.int (u - v) :: st)) : Go K R n0 Q T pc L (.int v :: .int u :: st) := by
  subst hp
  obtain ⟨⟨locs, X, hF⟩, e0, hn0, hx, hZ, hby, hml, hret, hlk, hown, hnm⟩ := S
  exact Go.step (fun _ t => XS.isub X.here hx rfl (hb hby hd) rfl t) k
theorem px_lsub (S : St K Z R y bytes maxL ret n0 T h cl sl) {u v : Int64} (hd : decode bytes pc = .ok (.lsub, 1)) (hp : pc + 1 = pc') (k : Go K R n0 Q T pc' L (.long (u - v) :: st)) : Go K R n0 Q T pc L (.long v :: .long u :: st) := by
  subst hp
  obtain ⟨⟨locs, X, hF⟩, e0, hn0, hx, hZ, hby, hml, hret, hlk, hown, hnm⟩ := S
  exact Go.step (fun _ t => XS.lsub X.here hx rfl (hb hby hd) rfl t) k
theorem px_imul (S : St K Z R y bytes maxL ret n0 T h cl sl) {u v : Int32} (hd : decode bytes pc = .ok (.imul, 1)) (hp : pc + 1 = pc') (k : Go K R n0 Q T pc' L (.int (u * v) :: st)) : Go K R n0 Q T pc L (.int v :: .int u :: st) := by
  subst hp
  obtain ⟨⟨locs, X, hF⟩, e0, hn0, hx, hZ, hby, hml, hret, hlk, hown, hnm⟩ := S
  exact Go.step (fun _ t => XS.imul X.here hx rfl (hb hby hd) rfl t) k
theorem px_lmul (S : St K Z R y bytes maxL ret n0 T h cl sl) {u v : Int64} (hd : decode bytes pc = .ok (.lmul, 1)) (hp : pc + 1 = pc') (k : Go K R n0 Q T pc' L (.long (u * v) :: st)) : Go K R n0 Q T pc L (.long v :: .long u :: st) := by
  subst hp
  obtain ⟨⟨locs, X, hF⟩, e0, hn0, hx, hZ, hby, hml, hret, hlk, hown, hnm⟩ := S
  exact Go.step (fun _ t => XS.lmul X.here hx rfl (hb hby hd) rfl t) k
theorem px_iand (S : St K Z R y bytes maxL ret n0 T h cl sl) {u v : Int32} (hd : decode bytes pc = .ok (.iand, 1)) (hp : pc + 1 = pc') (k : Go K R n0 Q T pc' L (.int (u &&& v) :: st)) : Go K R n0 Q T pc L (.int v :: .int u :: st) := by
  subst hp
  obtain ⟨⟨locs, X, hF⟩, e0, hn0, hx, hZ, hby, hml, hret, hlk, hown, hnm⟩ := S
  exact Go.step (fun _ t => XS.iand X.here hx rfl (hb hby hd) rfl t) k
theorem px_land (S : St K Z R y bytes maxL ret n0 T h cl sl) {u v : Int64} (hd : decode bytes pc = .ok (.land, 1)) (hp : pc + 1 = pc') (k : Go K R n0 Q T pc' L (.long (u &&& v) :: st)) : Go K R n0 Q T pc L (.long v :: .long u :: st) := by
  subst hp
  obtain ⟨⟨locs, X, hF⟩, e0, hn0, hx, hZ, hby, hml, hret, hlk, hown, hnm⟩ := S
  exact Go.step (fun _ t => XS.land X.here hx rfl (hb hby hd) rfl t) k
theorem px_ior (S : St K Z R y bytes maxL ret n0 T h cl sl) {u v : Int32} (hd : decode bytes pc = .ok (.ior, 1)) (hp : pc + 1 = pc') (k : Go K R n0 Q T pc' L (.int (u ||| v) :: st)) : Go K R n0 Q T pc L (.int v :: .int u :: st) := by
  subst hp
  obtain ⟨⟨locs, X, hF⟩, e0, hn0, hx, hZ, hby, hml, hret, hlk, hown, hnm⟩ := S
  exact Go.step (fun _ t => XS.ior X.here hx rfl (hb hby hd) rfl t) k
theorem px_lor (S : St K Z R y bytes maxL ret n0 T h cl sl) {u v : Int64} (hd : decode bytes pc = .ok (.lor, 1)) (hp : pc + 1 = pc') (k : Go K R n0 Q T pc' L (.long (u ||| v) :: st)) : Go K R n0 Q T pc L (.long v :: .long u :: st) := by
  subst hp
  obtain ⟨⟨locs, X, hF⟩, e0, hn0, hx, hZ, hby, hml, hret, hlk, hown, hnm⟩ := S
  exact Go.step (fun _ t => XS.lor X.here hx rfl (hb hby hd) rfl t) k
theorem px_ixor (S : St K Z R y bytes maxL ret n0 T h cl sl) {u v : Int32} (hd : decode bytes pc = .ok (.ixor, 1)) (hp : pc + 1 = pc') (k : Go K R n0 Q T pc' L (.int (u ^^^ v) :: st)) : Go K R n0 Q T pc L (.int v :: .int u :: st) := by
  subst hp
  obtain ⟨⟨locs, X, hF⟩, e0, hn0, hx, hZ, hby, hml, hret, hlk, hown, hnm⟩ := S
  exact Go.step (fun _ t => XS.ixor X.here hx rfl (hb hby hd) rfl t) k
theorem px_lxor (S : St K Z R y bytes maxL ret n0 T h cl sl) {u v : Int64} (hd : decode bytes pc = .ok (.lxor, 1)) (hp : pc + 1 = pc') (k : Go K R n0 Q T pc' L (.long (u ^^^ v) :: st)) : Go K R n0 Q T pc L (.long v :: .long u :: st) := by
  subst hp
  obtain ⟨⟨locs, X, hF⟩, e0, hn0, hx, hZ, hby, hml, hret, hlk, hown, hnm⟩ := S
  exact Go.step (fun _ t => XS.lxor X.here hx rfl (hb hby hd) rfl t) k
def ushr (u v : Int32) : Int32 := (u.toUInt32 >>> (v &&& 31).toUInt32).toInt32
def ushrL (u : Int64) (v : Int32) : Int64 := (u.toUInt64 >>> (v &&& 0x3f).toInt64.toUInt64).toInt64
def i2c (v : Int32) : Int32 := v.toUInt32.toUInt16.toUInt32.toInt32
def i2b (v : Int32) : Int32 := v.toInt8.toInt32
def i2s (v : Int32) : Int32 := v.toInt16.toInt32
theorem px_ishl (S : St K Z R y bytes maxL ret n0 T h cl sl) {u v : Int32} (hd : decode bytes pc = .ok (.ishl, 1)) (hp : pc + 1 = pc') (k : Go K R n0 Q T pc' L (.int (u <<< (v &&& 31)) :: st)) : Go K R n0 Q T pc L (.int v :: .int u :: st) := by
  subst hp
  obtain ⟨⟨locs, X, hF⟩, e0, hn0, hx, hZ, hby, hml, hret, hlk, hown, hnm⟩ := S
  exact Go.step (fun _ t => XS.ishl X.here hx rfl (hb hby hd) rfl t) k
theorem px_ishr (S : St K Z R y bytes maxL ret n0 T h cl sl) {u v : Int32} (hd : decode bytes pc = .ok (.ishr, 1)) (hp : pc + 1 = pc') (k : Go K R n0 Q T pc' L (.int (u >>> (v &&& 31)) :: st)) : Go K R n0 Q T pc L (.int v :: .int u :: st) := by
  subst hp
  obtain ⟨⟨locs, X, hF⟩, e0, hn0, hx, hZ, hby, hml, hret, hlk, hown, hnm⟩ := S
  exact Go.step (fun _ t => XS.ishr X.here hx rfl (hb hby hd) rfl t) k
theorem px_iushr (S : St K Z R y bytes maxL ret n0 T h cl sl) {u v : Int32} (hd : decode bytes pc = .ok (.iushr, 1)) (hp : pc + 1 = pc') (k : Go K R n0 Q T pc' L (.int (ushr u v) :: st)) : Go K R n0 Q T pc L (.int v :: .int u :: st) := by
  subst hp
  obtain ⟨⟨locs, X, hF⟩, e0, hn0, hx, hZ, hby, hml, hret, hlk, hown, hnm⟩ := S
  exact Go.step (fun _ t => XS.iushr X.here hx rfl (hb hby hd) rfl t) k
theorem px_lshl (S : St K Z R y bytes maxL ret n0 T h cl sl) {u : Int64} {v : Int32} (hd : decode bytes pc = .ok (.lshl, 1)) (hp : pc + 1 = pc') (k : Go K R n0 Q T pc' L (.long (u <<< (v &&& 0x3f).toInt64) :: st)) : Go K R n0 Q T pc L (.int v :: .long u :: st) := by
  subst hp
  obtain ⟨⟨locs, X, hF⟩, e0, hn0, hx, hZ, hby, hml, hret, hlk, hown, hnm⟩ := S
  exact Go.step (fun _ t => XS.lshl X.here hx rfl (hb hby hd) rfl t) k
theorem px_lshr (S : St K Z R y bytes maxL ret n0 T h cl sl) {u : Int64} {v : Int32} (hd : decode bytes pc = .ok (.lshr, 1)) (hp : pc + 1 = pc') (k : Go K R n0 Q T pc' L (.long (u >>> (v &&& 0x3f).toInt64) :: st)) : Go K R n0 Q T pc L (.int v :: .long u :: st) := by
  subst hp
  obtain ⟨⟨locs, X, hF⟩, e0, hn0, hx, hZ, hby, hml, hret, hlk, hown, hnm⟩ := S
  exact Go.step (fun _ t => XS.lshr X.here hx rfl (hb hby hd) rfl t) k
theorem px_lushr (S : St K Z R y bytes maxL ret n0 T h cl sl) {u : Int64} {v : Int32} (hd : decode bytes pc = .ok (.lushr, 1)) (hp : pc + 1 = pc') (k : Go K R n0 Q T pc' L (.long (ushrL u v) :: st)) : Go K R n0 Q T pc L (.int v :: .long u :: st) := by
  subst hp
  obtain ⟨⟨locs, X, hF⟩, e0, hn0, hx, hZ, hby, hml, hret, hlk, hown, hnm⟩ := S
  exact Go.step (fun _ t => XS.lushr X.here hx rfl (hb hby hd) rfl t) k
theorem px_idiv (S : St K Z R y bytes maxL ret n0 T h cl sl) {u v : Int32} (hd : decode bytes pc = .ok (.idiv, 1)) (hp : pc + 1 = pc') (hz : v ≠ 0) (k : Go K R n0 Q T pc' L (.int (u / v) :: st)) : Go K R n0 Q T pc L (.int v :: .int u :: st) := by
  subst hp
  obtain ⟨⟨locs, X, hF⟩, e0, hn0, hx, hZ, hby, hml, hret, hlk, hown, hnm⟩ := S
  exact Go.step (fun _ t => XS.idiv X.here hx rfl (hb hby hd) rfl hz t) k
theorem px_irem (S : St K Z R y bytes maxL ret n0 T h cl sl) {u v : Int32} (hd : decode bytes pc = .ok (.irem, 1)) (hp : pc + 1 = pc') (hz : v ≠ 0) (k : Go K R n0 Q T pc' L (.int (u % v) :: st)) : Go K R n0 Q T pc L (.int v :: .int u :: st) := by
  subst hp
  obtain ⟨⟨locs, X, hF⟩, e0, hn0, hx, hZ, hby, hml, hret, hlk, hown, hnm⟩ := S
  exact Go.step (fun _ t => iremM X hx rfl (hb hby hd) rfl hz t) k
theorem px_ldiv (S : St K Z R y bytes maxL ret n0 T h cl sl) {u v : Int64} (hd : decode bytes pc = .ok (.ldiv, 1)) (hp : pc + 1 = pc') (hz : v ≠ 0) (k : Go K R n0 Q T pc' L (.long (u / v) :: st)) : Go K R n0 Q T pc L (.long v :: .long u :: st) := by
  subst hp
  obtain ⟨⟨locs, X, hF⟩, e0, hn0, hx, hZ, hby, hml, hret, hlk, hown, hnm⟩ := S
  exact Go.step (fun _ t => XS.ldiv X.here hx rfl (hb hby hd) rfl hz t) k
theorem px_ineg (S : St K Z R y bytes maxL ret n0 T h cl sl) {u : Int32} (hd : decode bytes pc = .ok (.ineg, 1)) (hp : pc + 1 = pc') (k : Go K R n0 Q T pc' L (.int (-u) :: st)) : Go K R n0 Q T pc L (.int u :: st) := by
  subst hp
  obtain ⟨⟨locs, X, hF⟩, e0, hn0, hx, hZ, hby, hml, hret, hlk, hown, hnm⟩ := S
  exact Go.step (fun _ t => XS.ineg X.here hx rfl (hb hby hd) rfl t) k
theorem px_lneg (S : St K Z R y bytes maxL ret n0 T h cl sl) {u : Int64} (hd : decode bytes pc = .ok (.lneg, 1)) (hp : pc + 1 = pc') (k : Go K R n0 Q T pc' L (.long (-u) :: st)) : Go K R n0 Q T pc L (.long u :: st) := by
  subst hp
  obtain ⟨⟨locs, X, hF⟩, e0, hn0, hx, hZ, hby, hml, hret, hlk, hown, hnm⟩ := S
  exact Go.step (fun _ t => XS.lneg X.here hx rfl (hb hby hd) rfl t) k
theorem px_i2l (S : St K Z R y bytes maxL ret n0 T h cl sl) {u : Int32} (hd : decode bytes pc = .ok (.i2l, 1)) (hp : pc + 1 = pc') (k : Go K R n0 Q T pc' L (.long u.toInt64 :: st)) : Go K R n0 Q T pc L (.int u :: st) := by
  subst hp
  obtain ⟨⟨locs, X, hF⟩, e0, hn0, hx, hZ, hby, hml, hret, hlk, hown, hnm⟩ := S
  exact Go.step (fun _ t => XS.i2l X.here hx rfl (hb hby hd) rfl t) k
theorem px_l2i (S : St K Z R y bytes maxL ret n0 T h cl sl) {u : Int64} (hd : decode bytes pc = .ok (.l2i, 1)) (hp : pc + 1 = pc') (k : Go K R n0 Q T pc' L (.int u.toInt32 :: st)) : Go K R n0 Q T pc L (.long u :: st) := by
  subst hp
  obtain ⟨⟨locs, X, hF⟩, e0, hn0, hx, hZ, hby, hml, hret, hlk, hown, hnm⟩ := S
  exact Go.step (fun _ t => XS.l2i X.here hx rfl (hb hby hd) rfl t) k
theorem px_i2b (S : St K Z R y bytes maxL ret n0 T h cl sl) {u : Int32} (hd : decode bytes pc = .ok (.i2b, 1)) (hp : pc + 1 = pc') (k : Go K R n0 Q T pc' L (.int (i2b u) :: st)) : Go K R n0 Q T pc L (.int u :: st) := by
  subst hp
  obtain ⟨⟨locs, X, hF⟩, e0, hn0, hx, hZ, hby, hml, hret, hlk, hown, hnm⟩ := S
  exact Go.step (fun _ t => XS.i2b X.here hx rfl (hb hby hd) rfl t) k
theorem px_i2c (S : St K Z R y bytes maxL ret n0 T h cl sl) {u : Int32} (hd : decode bytes pc = .ok (.i2c, 1)) (hp : pc + 1 = pc') (k : Go K R n0 Q T pc' L (.int (i2c u) :: st)) : Go K R n0 Q T pc L (.int u :: st) := by
  subst hp
  obtain ⟨⟨locs, X, hF⟩, e0, hn0, hx, hZ, hby, hml, hret, hlk, hown, hnm⟩ := S
  exact Go.step (fun _ t => XS.i2c X.here hx rfl (hb hby hd) rfl t) k
theorem px_i2s (S : St K Z R y bytes maxL ret n0 T h cl sl) {u : Int32} (hd : decode bytes pc = .ok (.i2s, 1)) (hp : pc + 1 = pc') (k : Go K R n0 Q T pc' L (.int (i2s u) :: st)) : Go K R n0 Q T pc L (.int u :: st) := by
  subst hp
  obtain ⟨⟨locs, X, hF⟩, e0, hn0, hx, hZ, hby, hml, hret, hlk, hown, hnm⟩ := S
  exact Go.step (fun _ t => XS.i2s X.here hx rfl (hb hby hd) rfl t) k
theorem px_lcmp (S : St K Z R y bytes maxL ret n0 T h cl sl) {u v : Int64} (hd : decode bytes pc = .ok (.lcmp, 1)) (hp : pc + 1 = pc') (k : Go K R n0 Q T pc' L (.int (lcmpW u v) :: st)) : Go K R n0 Q T pc L (.long v :: .long u :: st) := by
  subst hp
  obtain ⟨⟨locs, X, hF⟩, e0, hn0, hx, hZ, hby, hml, hret, hlk, hown, hnm⟩ := S
  exact Go.step (fun _ t => XS.lcmp X.here hx rfl (hb hby hd) rfl t) k
theorem px_pop (S : St K Z R y bytes maxL ret n0 T h cl sl) {u : Value} (hd : decode bytes pc = .ok (.pop, 1)) (hp : pc + 1 = pc') (hc : u.category = 1) (k : Go K R n0 Q T pc' L st) : Go K R n0 Q T pc L (u :: st) := by
  subst hp
  obtain ⟨⟨locs, X, hF⟩, e0, hn0, hx, hZ, hby, hml, hret, hlk, hown, hnm⟩ := S
  exact Go.step (fun _ t => XS.pop X.here hx rfl (hb hby hd) rfl hc t) k
theorem px_dup (S : St K Z R y bytes maxL ret n0 T h cl sl) {u : Value} (hd : decode bytes pc = .ok (.dup, 1)) (hp : pc + 1 = pc') (hc : u.category = 1) (k : Go K R n0 Q T pc' L (u :: u :: st)) : Go K R n0 Q T pc L (u :: st) := by
  subst hp
  obtain ⟨⟨locs, X, hF⟩, e0, hn0, hx, hZ, hby, hml, hret, hlk, hown, hnm⟩ := S
  exact Go.step (fun _ t => XS.dup X.here hx rfl (hb hby hd) rfl hc t) k
theorem px_dupX1 (S : St K Z R y bytes maxL ret n0 T h cl sl) {u v : Value} (hd : decode bytes pc = .ok (.dup_x1, 1)) (hp : pc + 1 = pc') (hc : u.category = 1) (hc2 : v.category = 1) (k : Go K R n0 Q T pc' L (u :: v :: u :: st)) : Go K R n0 Q T pc L (u :: v :: st) := by
  subst hp
  obtain ⟨⟨locs, X, hF⟩, e0, hn0, hx, hZ, hby, hml, hret, hlk, hown, hnm⟩ := S
  exact Go.step (fun _ t => XS.dupX1 X.here hx rfl (hb hby hd) rfl hc hc2 t) k
theorem px_dup2 (S : St K Z R y bytes maxL ret n0 T h cl sl) {u v : Value} (hd : decode bytes pc = .ok (.dup2, 1)) (hp : pc + 1 = pc') (hc : u.category = 1) (hc2 : v.category = 1) (k : Go K R n0 Q T pc' L (u :: v :: u :: v :: st)) : Go K R n0 Q T pc L (u :: v :: st) := by
  subst hp
  obtain ⟨⟨locs, X, hF⟩, e0, hn0, hx, hZ, hby, hml, hret, hlk, hown, hnm⟩ := S
  exact Go.step (fun _ t => Jvm.Free.XT.dup2 X.here hx rfl (hb hby hd) rfl hc hc2 t) k
theorem px_iinc (S : St K Z R y bytes maxL ret n0 T h cl sl) {k : Nat} {cst : Int} {u v r : Int32} (hd : decode bytes pc = .ok (.iinc k cst, 3)) (hp : pc + 3 = pc') (hl : L[k]? = some (.val (.int u))) (hv : Int32.ofInt cst = v) (hr : u + v = r) (hl' : storeLocals L k (.int r) = some L') (k' : Go K R n0 Q T pc' L' st) : Go K R n0 Q T pc L st := by
  subst hp
  subst hv
  subst hr
  obtain ⟨⟨locs, X, hF⟩, e0, hn0, hx, hZ, hby, hml, hret, hlk, hown, hnm⟩ := S
  exact Go.step (fun _ t => XS.iinc X.here hx rfl (hb hby hd) hl hl' t) k'
theorem px_goto (S : St K Z R y bytes maxL ret n0 T h cl sl) {o : Int} (hd : decode bytes pc = .ok (.goto o, 3)) (ho : 0 ≤ (pc : Int) + o) (hp : ((pc : Int) + o).toNat = pc') (k : Go K R n0 Q T pc' L st) : Go K R n0 Q T pc L st := by
  obtain ⟨⟨locs, X, hF⟩, e0, hn0, hx, hZ, hby, hml, hret, hlk, hown, hnm⟩ := S
  exact Go.step (fun _ t => XS.goto X.here hx rfl rfl (hb hby hd) ho hp t) k
def yesC : ClassFile.Cond → Int → Int → Prop
  | .eq, x, y => x = y
  | .ne, x, y => ¬ x = y
  | .lt, x, y => x < y
  | .ge, x, y => y ≤ x
  | .gt, x, y => y < x
  | .le, x, y => x ≤ y
def noC : ClassFile.Cond → Int → Int → Prop
  | .eq, x, y => ¬ x = y
  | .ne, x, y => x = y
  | .lt, x, y => y ≤ x
  | .ge, x, y => x < y
  | .gt, x, y => x ≤ y
  | .le, x, y => y < x
theorem yesC_of {cd : ClassFile.Cond} {x y : Int32} (h : if_icmp.holds cd x y = true) : yesC cd x.toInt y.toInt := by
  cases cd <;> simp [if_icmp.holds, yesC, Int32.lt_iff_toInt_lt, Int32.le_iff_toInt_le, ← Int32.toInt_inj] at h ⊢ <;> omega
theorem noC_of {cd : ClassFile.Cond} {x y : Int32} (h : if_icmp.holds cd x y = false) : noC cd x.toInt y.toInt := by
  cases cd <;> simp [if_icmp.holds, noC, Int32.lt_iff_toInt_lt, Int32.le_iff_toInt_le, ← Int32.toInt_inj] at h ⊢ <;> omega
theorem px_icmp (S : St K Z R y bytes maxL ret n0 T h cl sl) {cd : ClassFile.Cond} {o : Int} {u v : Int32} {pcn : Nat} (hd : decode bytes pc = .ok (.if_icmp cd o, 3)) (ho : 0 ≤ (pc : Int) + o) (hp : ((pc : Int) + o).toNat = pc') (hn : pc + 3 = pcn)
    (ky : yesC cd u.toInt v.toInt → Go K R n0 Q T pc' L st) (kn : noC cd u.toInt v.toInt → Go K R n0 Q T pcn L st) : Go K R n0 Q T pc L (.int v :: .int u :: st) := by
  subst hn
  obtain ⟨⟨locs, X, hF⟩, e0, hn0, hx, hZ, hby, hml, hret, hlk, hown, hnm⟩ := S
  cases hc : if_icmp.holds cd u v
  · exact Go.step (fun _ t => XS.icmpNo X.here hx rfl (hb hby hd) rfl hc t) (kn (noC_of hc))
  · exact Go.step (fun _ t => XS.icmpYes X.here hx rfl rfl (hb hby hd) rfl hc ho hp t) (ky (yesC_of hc))
theorem px_if0 (S : St K Z R y bytes maxL ret n0 T h cl sl) {cd : ClassFile.Cond} {o : Int} {u : Int32} {pcn : Nat} (hd : decode bytes pc = .ok (.ifCond cd o, 3)) (ho : 0 ≤ (pc : Int) + o) (hp : ((pc : Int) + o).toNat = pc') (hn : pc + 3 = pcn)
    (ky : yesC cd u.toInt 0 → Go K R n0 Q T pc' L st) (kn : noC cd u.toInt 0 → Go K R n0 Q T pcn L st) : Go K R n0 Q T pc L (.int u :: st) := by
  subst hn
  obtain ⟨⟨locs, X, hF⟩, e0, hn0, hx, hZ, hby, hml, hret, hlk, hown, hnm⟩ := S
  cases hc : ifCond.holds cd u
  · exact Go.step (fun _ t => XS.ifNo X.here hx rfl (hb hby hd) rfl hc t) (kn (noC_of (y := 0) ((if0 cd u).symm.trans hc)))
  · exact Go.step (fun _ t => XS.ifYes X.here hx rfl rfl (hb hby hd) rfl hc ho hp t) (ky (yesC_of (y := 0) ((if0 cd u).symm.trans hc)))
theorem yesL {cd : ClassFile.Cond} {x y : Int64} (h : yesC cd (lcmpW x y).toInt 0) : yesC cd x.toInt y.toInt := by
  have q := c_lcmp x y
  cases cd <;> simp only [yesC] at h ⊢ <;> omega
theorem noL {cd : ClassFile.Cond} {x y : Int64} (h : noC cd (lcmpW x y).toInt 0) : noC cd x.toInt y.toInt := by
  have q := c_lcmp x y
  cases cd <;> simp only [noC] at h ⊢ <;> omega
theorem px_lif (S : St K Z R y bytes maxL ret n0 T h cl sl) {cd : ClassFile.Cond} {o : Int} {u v : Int64} {pc1 pcn : Nat} (hd1 : decode bytes pc = .ok (.lcmp, 1)) (hp1 : pc + 1 = pc1) (hd : decode bytes pc1 = .ok (.ifCond cd o, 3)) (ho : 0 ≤ (pc1 : Int) + o) (hp : ((pc1 : Int) + o).toNat = pc') (hn : pc1 + 3 = pcn)
    (ky : yesC cd u.toInt v.toInt → Go K R n0 Q T pc' L st) (kn : noC cd u.toInt v.toInt → Go K R n0 Q T pcn L st) : Go K R n0 Q T pc L (.long v :: .long u :: st) :=
  px_lcmp S hd1 hp1 (px_if0 S hd ho hp hn (fun q => ky (yesL q)) (fun q => kn (noL q)))
theorem px_ifnull (S : St K Z R y bytes maxL ret n0 T h cl sl) {o : Int} {a : Addr} (hd : decode bytes pc = .ok (.ifnull o, 3)) (hp : pc + 3 = pc') (k : Go K R n0 Q T pc' L st) : Go K R n0 Q T pc L (.ref a :: st) := by
  subst hp
  obtain ⟨⟨locs, X, hF⟩, e0, hn0, hx, hZ, hby, hml, hret, hlk, hown, hnm⟩ := S
  exact Go.step (fun _ t => XS.ifnullNo X.here hx rfl (hb hby hd) rfl t) k
theorem px_ifnullY (S : St K Z R y bytes maxL ret n0 T h cl sl) {o : Int} (hd : decode bytes pc = .ok (.ifnull o, 3)) (ho : 0 ≤ (pc : Int) + o) (hp : ((pc : Int) + o).toNat = pc') (k : Go K R n0 Q T pc' L st) : Go K R n0 Q T pc L (.null :: st) := by
  obtain ⟨⟨locs, X, hF⟩, e0, hn0, hx, hZ, hby, hml, hret, hlk, hown, hnm⟩ := S
  exact Go.step (fun _ t => XS.ifnullYes X.here hx rfl rfl (hb hby hd) rfl ho hp t) k
theorem px_ifnonnull (S : St K Z R y bytes maxL ret n0 T h cl sl) {o : Int} {a : Addr} (hd : decode bytes pc = .ok (.ifnonnull o, 3)) (ho : 0 ≤ (pc : Int) + o) (hp : ((pc : Int) + o).toNat = pc') (k : Go K R n0 Q T pc' L st) : Go K R n0 Q T pc L (.ref a :: st) := by
  obtain ⟨⟨locs, X, hF⟩, e0, hn0, hx, hZ, hby, hml, hret, hlk, hown, hnm⟩ := S
  exact Go.step (fun _ t => XS.ifnonnullYes X.here hx rfl rfl (hb hby hd) rfl ho hp t) k
theorem px_ifnonnullN (S : St K Z R y bytes maxL ret n0 T h cl sl) {o : Int} (hd : decode bytes pc = .ok (.ifnonnull o, 3)) (hp : pc + 3 = pc') (k : Go K R n0 Q T pc' L st) : Go K R n0 Q T pc L (.null :: st) := by
  subst hp
  obtain ⟨⟨locs, X, hF⟩, e0, hn0, hx, hZ, hby, hml, hret, hlk, hown, hnm⟩ := S
  exact Go.step (fun _ t => XS.ifnonnullNo X.here hx rfl (hb hby hd) rfl t) k
theorem px_ldcI (S : St K Z R y bytes maxL ret n0 T h cl sl) {idx : Nat} {v : Int32} (w : (Jvm.Cond.constant y.cls idx v).before a0 Z = true) (hd : decode bytes pc = .ok (.ldc idx, 2)) (hp : pc + 2 = pc') (k : Go K R n0 Q T pc' L (.int v :: st)) : Go K R n0 Q T pc L st := by
  subst hp
  obtain ⟨⟨locs, X, hF⟩, e0, hn0, hx, hZ, hby, hml, hret, hlk, hown, hnm⟩ := S
  exact Go.step (fun _ t => X.ldcInt hx hown (mvT hZ w) (g := mkF K.m pc L st) rfl (hb hby hd) _ t) k
theorem px_ldcwI (S : St K Z R y bytes maxL ret n0 T h cl sl) {idx : Nat} {v : Int32} (w : (Jvm.Cond.constant y.cls idx v).before a0 Z = true) (hd : decode bytes pc = .ok (.ldc_w idx, 3)) (hp : pc + 3 = pc') (k : Go K R n0 Q T pc' L (.int v :: st)) : Go K R n0 Q T pc L st := by
  subst hp
  obtain ⟨⟨locs, X, hF⟩, e0, hn0, hx, hZ, hby, hml, hret, hlk, hown, hnm⟩ := S
  exact Go.step (fun _ t => X.ldcwInt hx hown (mvT hZ w) (g := mkF K.m pc L st) rfl (hb hby hd) _ t) k
theorem px_ldc2 (S : St K Z R y bytes maxL ret n0 T h cl sl) {idx : Nat} {v : Int64} (w : (Jvm.Cond.constantLong y.cls idx v).before a0 Z = true) (hd : decode bytes pc = .ok (.ldc2_w idx, 3)) (hp : pc + 3 = pc') (k : Go K R n0 Q T pc' L (.long v :: st)) : Go K R n0 Q T pc L st := by
  subst hp
  obtain ⟨⟨locs, X, hF⟩, e0, hn0, hx, hZ, hby, hml, hret, hlk, hown, hnm⟩ := S
  exact Go.step (fun _ t => X.ldc2Long hx hown (mvT hZ w) (g := mkF K.m pc L st) rfl (hb hby hd) _ t) k
theorem px_ret {v : Option Value} (S : St K Z R y bytes maxL ret n0 T h cl sl) (hv : ret = none → v = none) (hc : cl ≤ R.cells) (hs : sl ≤ R.slots)
    (hd : ∀ (locs : List Loc) (fs : List Frame), Stand K.p K.l K.e R K.s K.m K.args K.below K.meth K.c T locs cl sl → K.p.tables.exec = Jvm.exec → K.c.code = bytes → K.meth.sig.returnType = ret → (∀ (f : JFrame) (acts : List Action), f.method = K.m → f.locked = none → f.entered = [] → (doReturn K.e (T.setTop f) acts v).1 = T.setFrames fs) → Steps K.p.tables K.e K.below (T.setTop (mkF K.m pc L st)) (T.setFrames fs))
    (hq : Q v h) : Go K R n0 Q T pc L st := by
  obtain ⟨⟨locs, X, hF⟩, e0, hn0, hx, hZ, hby, hml, hret, hlk, hown, hnm⟩ := S
  obtain ⟨fs, hr, hrun, hended, hW, hsame⟩ := X.leave (v := v) (fun q => hv (hret ▸ q)) hlk
  refine ⟨_, _, hd locs fs X hx hby hret hr, hrun, hended, _, _, rfl, ⟨?_, hF⟩, ⟨_, rfl⟩, hW, hsame.mono hc hs⟩
  show Q v T.heap
  rw [e0]; exact hq
theorem px_return (S : St K Z R y bytes maxL ret n0 T h cl sl) (hd : decode bytes pc = .ok (.return_, 1)) (hrt : ret = none) (hc : cl ≤ R.cells) (hs : sl ≤ R.slots) (hq : Q none h) : Go K R n0 Q T pc L [] :=
  px_ret S (fun _ => rfl) hc hs (fun _ _ X hx hby hret hr => X.returnOut hx (hret.trans hrt) (hb hby hd) hr) hq
theorem px_retN {t : FieldType} {z z' : Int32} (S : St K Z R y bytes maxL ret n0 T h cl sl) (hd : decode bytes pc = .ok (.ireturn, 1)) (hrt : ret = some t) (ht : t = .boolean ∨ t = .byte ∨ t = .char ∨ t = .short) (hz : nar t z = z') (hc : cl ≤ R.cells) (hs : sl ≤ R.slots) (hq : Q (some (.int z')) h) : Go K R n0 Q T pc L (.int z :: st) := by
  subst hz
  exact px_ret S (fun q => by rw [hrt] at q; cases q) hc hs (fun _ _ X hx hby hret hr => retN X hx (hret.trans hrt) ht (hb hby hd) hr) hq
theorem px_retI {z : Int32} (S : St K Z R y bytes maxL ret n0 T h cl sl) (hd : decode bytes pc = .ok (.ireturn, 1)) (hrt : ret = some .int) (hc : cl ≤ R.cells) (hs : sl ≤ R.slots) (hq : Q (some (.int z)) h) : Go K R n0 Q T pc L (.int z :: st) :=
  px_ret S (fun q => by rw [hrt] at q; cases q) hc hs (fun _ _ X hx hby hret hr => retOut X hx (hret.trans hrt) rfl (Or.inl ⟨rfl, Or.inl rfl, z, rfl⟩) (hb hby hd) hr) hq
theorem px_retJ {z : Int64} (S : St K Z R y bytes maxL ret n0 T h cl sl) (hd : decode bytes pc = .ok (.lreturn, 1)) (hrt : ret = some .long) (hc : cl ≤ R.cells) (hs : sl ≤ R.slots) (hq : Q (some (.long z)) h) : Go K R n0 Q T pc L (.long z :: st) :=
  px_ret S (fun q => by rw [hrt] at q; cases q) hc hs (fun _ _ X hx hby hret hr => retOut X hx (hret.trans hrt) rfl (Or.inr (Or.inl ⟨rfl, rfl, z, rfl⟩)) (hb hby hd) hr) hq
theorem narrow_ref {t : FieldType} {v : Value} (ht : t.isReference = true) : narrow t v = v := by cases t <;> simp [FieldType.isReference] at ht <;> cases v <;> rfl
theorem px_retA {t : FieldType} {v : Value} (S : St K Z R y bytes maxL ret n0 T h cl sl) (hd : decode bytes pc = .ok (.areturn, 1)) (hrt : ret = some t) (ht : t.isReference = true) (hv : v.isRef = true) (hc : cl ≤ R.cells) (hs : sl ≤ R.slots) (hq : Q (some v) h) : Go K R n0 Q T pc L (v :: st) :=
  px_ret S (fun q => by rw [hrt] at q; cases q) hc hs (fun _ _ X hx hby hret hr => retOut X hx (hret.trans hrt) (narrow_ref ht) (Or.inr (Or.inr (Or.inr (Or.inr ⟨rfl, ht, hv⟩)))) (hb hby hd) hr) hq
/-- an array of ints (or of bytes, chars, shorts, booleans) of n places that hold f 0 .. -/
def AI (Z : State) (h : Heap) (a : Addr) (ty : FieldType) (n : Nat) (f : Nat → Int32) : Prop := ∃ c : Cell, Arr Z h a c ty ∧ c.slots.size = n ∧ n < 2147483648 ∧ ∀ i, i < n → c.slots[i]? = some (.int (f i)) ∧ fits ty (.int (f i)) = true
def AJ (Z : State) (h : Heap) (a : Addr) (n : Nat) (f : Nat → Int64) : Prop := ∃ c : Cell, Arr Z h a c .long ∧ c.slots.size = n ∧ n < 2147483648 ∧ ∀ i, i < n → c.slots[i]? = some (.long (f i))
def updF {α : Type} (f : Nat → α) (i : Nat) (v : α) : Nat → α := fun j => if j = i then v else f j
theorem updF_same {α : Type} (f : Nat → α) (i : Nat) (v : α) : updF f i v i = v := by simp [updF]
theorem updF_ne {α : Type} (f : Nat → α) {i j : Nat} (v : α) (q : ¬ j = i) : updF f i v j = f j := by simp [updF, q]
variable {h' : Heap} {a b : Addr} {ty : FieldType} {n : Nat} {f : Nat → Int32} {fj : Nat → Int64}
theorem AI.lt (A : AI Z h a ty n f) : a < h.size := by obtain ⟨c, A, -⟩ := A; exact A.lt
theorem AJ.lt (A : AJ Z h a n fj) : a < h.size := by obtain ⟨c, A, -⟩ := A; exact A.lt
theorem AI.len (A : AI Z h a ty n f) : n < 2147483648 := by obtain ⟨c, -, -, q, -⟩ := A; exact q
theorem AJ.len (A : AJ Z h a n fj) : n < 2147483648 := by obtain ⟨c, -, -, q, -⟩ := A; exact q
theorem AI.ext (A : AI Z h a ty n f) (E : Ext h h') : AI Z h' a ty n f := by obtain ⟨c, A, r⟩ := A; exact ⟨c, A.ext E, r⟩
theorem AJ.ext (A : AJ Z h a n fj) (E : Ext h h') : AJ Z h' a n fj := by obtain ⟨c, A, r⟩ := A; exact ⟨c, A.ext E, r⟩
theorem AI.other {s0 : Nat} {v : Value} (A : AI Z h a ty n f) (W : Wr h h' b s0 v) (q : a ≠ b) : AI Z h' a ty n f := by obtain ⟨c, A, r⟩ := A; exact ⟨c, A.other W q, r⟩
theorem AJ.other {s0 : Nat} {v : Value} (A : AJ Z h a n fj) (W : Wr h h' b s0 v) (q : a ≠ b) : AJ Z h' a n fj := by obtain ⟨c, A, r⟩ := A; exact ⟨c, A.other W q, r⟩
theorem AI.keep {ws : List Addr} (A : AI Z h a ty n f) (W : Keep h h' ws) (q : a ∉ ws) : AI Z h' a ty n f := by obtain ⟨c, A, r⟩ := A; exact ⟨c, ⟨W.2.1 a c A.1 q, A.2⟩, r⟩
theorem AJ.keep {ws : List Addr} (A : AJ Z h a n fj) (W : Keep h h' ws) (q : a ∉ ws) : AJ Z h' a n fj := by obtain ⟨c, A, r⟩ := A; exact ⟨c, ⟨W.2.1 a c A.1 q, A.2⟩, r⟩
theorem AI.congr {g : Nat → Int32} (A : AI Z h a ty n f) (q : ∀ i, i < n → f i = g i) : AI Z h a ty n g := by obtain ⟨c, A, r1, r2, r3⟩ := A; exact ⟨c, A, r1, r2, fun i hi => by rw [← q i hi]; exact r3 i hi⟩
theorem AJ.congr {g : Nat → Int64} (A : AJ Z h a n fj) (q : ∀ i, i < n → fj i = g i) : AJ Z h a n g := by obtain ⟨c, A, r1, r2, r3⟩ := A; exact ⟨c, A, r1, r2, fun i hi => by rw [r3 i hi, q i hi]⟩
theorem clampI {j : Int32} {i : Nat} (hj : j.toInt = (i : Int)) : j.toNatClampNeg = i := by
  have q : j.toNatClampNeg = j.toInt.toNat := rfl
  rw [q, hj]; rfl
theorem inbI {c : Cell} {j : Int32} {i : Nat} (hj : j.toInt = (i : Int)) (hi : i < c.slots.size) : ¬ (j < 0 ∨ c.slots.size ≤ j.toNatClampNeg) := by
  rw [clampI hj]
  intro q
  rcases q with q | q
  · have q2 := Int32.lt_iff_toInt_lt.mp q
    have z : (0 : Int32).toInt = 0 := rfl
    omega
  · omega
theorem AI.same {c : Cell} {i : Nat} {v : Int32} (A : Arr Z h a c ty) (h1 : c.slots.size = n) (h2 : n < 2147483648) (h3 : ∀ i, i < n → c.slots[i]? = some (.int (f i)) ∧ fits ty (.int (f i)) = true) (W : Wr h h' a i (.int v)) (hi : i < n) (hft : fits ty (.int v) = true) : AI Z h' a ty n (updF f i v) := by
  refine ⟨_, A.same W, by simp [Cell.setSlot, h1], h2, fun j hj => ?_⟩
  by_cases q : j = i
  · subst q
    rw [updF_same]
    exact ⟨by simp [Cell.setSlot, h1, hj], hft⟩
  · rw [updF_ne _ _ q]
    have q' : ¬ i = j := fun e => q e.symm
    exact ⟨by simp [Cell.setSlot, Array.getElem?_setIfInBounds, q', (h3 j hj).1], (h3 j hj).2⟩
theorem AJ.same {c : Cell} {i : Nat} {v : Int64} (A : Arr Z h a c .long) (h1 : c.slots.size = n) (h2 : n < 2147483648) (h3 : ∀ i, i < n → c.slots[i]? = some (.long (fj i))) (W : Wr h h' a i (.long v)) (hi : i < n) : AJ Z h' a n (updF fj i v) := by
  refine ⟨_, A.same W, by simp [Cell.setSlot, h1], h2, fun j hj => ?_⟩
  by_cases q : j = i
  · subst q
    rw [updF_same]
    simp [Cell.setSlot, h1, hj]
  · rw [updF_ne _ _ q]
    have q' : ¬ i = j := fun e => q e.symm
    simp [Cell.setSlot, Array.getElem?_setIfInBounds, q', h3 j hj]
theorem px_iaload (S : St K Z R y bytes maxL ret n0 T h cl sl) (A : AI Z h a .int n f) {j v : Int32} {i : Nat} (hj : j.toInt = (i : Int)) (hi : i < n) (hv : f i = v) (hd : decode bytes pc = .ok (.iaload, 1)) (hp : pc + 1 = pc') (k : Go K R n0 Q T pc' L (.int v :: st)) : Go K R n0 Q T pc L (.int j :: .ref a :: st) := by
  subst hp
  subst hv
  obtain ⟨⟨locs, X, hF⟩, e0, hn0, hx, hZ, hby, hml, hret, hlk, hown, hnm⟩ := S
  obtain ⟨c, A, h1, h2, h3⟩ := A
  exact Go.step (fun _ t => X.iaload hx (j := j) (v := .int (f i)) (by rw [e0]; exact A.1) (State.isArrayOf_alike hZ.alike A.2.1) A.2.2 (inbI hj (h1 ▸ hi)) (by rw [clampI hj]; exact (h3 i hi).1) (g := mkF K.m pc L (.int j :: .ref a :: st)) rfl rfl (hb hby hd) _ t) k
theorem px_caload (S : St K Z R y bytes maxL ret n0 T h cl sl) (A : AI Z h a .char n f) {j v : Int32} {i : Nat} (hj : j.toInt = (i : Int)) (hi : i < n) (hv : f i = v) (hd : decode bytes pc = .ok (.caload, 1)) (hp : pc + 1 = pc') (k : Go K R n0 Q T pc' L (.int v :: st)) : Go K R n0 Q T pc L (.int j :: .ref a :: st) := by
  subst hp
  subst hv
  obtain ⟨⟨locs, X, hF⟩, e0, hn0, hx, hZ, hby, hml, hret, hlk, hown, hnm⟩ := S
  obtain ⟨c, A, h1, h2, h3⟩ := A
  exact Go.step (fun _ t => X.caload hx (j := j) (v := .int (f i)) (by rw [e0]; exact A.1) (State.isArrayOf_alike hZ.alike A.2.1) A.2.2 (inbI hj (h1 ▸ hi)) (by rw [clampI hj]; exact (h3 i hi).1) (g := mkF K.m pc L (.int j :: .ref a :: st)) rfl rfl (hb hby hd) _ t) k
theorem px_saload (S : St K Z R y bytes maxL ret n0 T h cl sl) (A : AI Z h a .short n f) {j v : Int32} {i : Nat} (hj : j.toInt = (i : Int)) (hi : i < n) (hv : f i = v) (hd : decode bytes pc = .ok (.saload, 1)) (hp : pc + 1 = pc') (k : Go K R n0 Q T pc' L (.int v :: st)) : Go K R n0 Q T pc L (.int j :: .ref a :: st) := by
  subst hp
  subst hv
  obtain ⟨⟨locs, X, hF⟩, e0, hn0, hx, hZ, hby, hml, hret, hlk, hown, hnm⟩ := S
  obtain ⟨c, A, h1, h2, h3⟩ := A
  exact Go.step (fun _ t => X.saload hx (j := j) (v := .int (f i)) (by rw [e0]; exact A.1) (State.isArrayOf_alike hZ.alike A.2.1) A.2.2 (inbI hj (h1 ▸ hi)) (by rw [clampI hj]; exact (h3 i hi).1) (g := mkF K.m pc L (.int j :: .ref a :: st)) rfl rfl (hb hby hd) _ t) k
theorem px_baload (S : St K Z R y bytes maxL ret n0 T h cl sl) (A : AI Z h a .byte n f) {j v : Int32} {i : Nat} (hj : j.toInt = (i : Int)) (hi : i < n) (hv : f i = v) (hd : decode bytes pc = .ok (.baload, 1)) (hp : pc + 1 = pc') (k : Go K R n0 Q T pc' L (.int v :: st)) : Go K R n0 Q T pc L (.int j :: .ref a :: st) := by
  subst hp
  subst hv
  obtain ⟨⟨locs, X, hF⟩, e0, hn0, hx, hZ, hby, hml, hret, hlk, hown, hnm⟩ := S
  obtain ⟨c, A, h1, h2, h3⟩ := A
  exact Go.step (fun _ t => X.baloadBytes hx (j := j) (v := .int (f i)) (by rw [e0]; exact A.1) (State.isArrayOf_alike hZ.alike A.2.1) A.2.2 (inbI hj (h1 ▸ hi)) (by rw [clampI hj]; exact (h3 i hi).1) (g := mkF K.m pc L (.int j :: .ref a :: st)) rfl rfl (hb hby hd) _ t) k
theorem px_laload (S : St K Z R y bytes maxL ret n0 T h cl sl) (A : AJ Z h a n fj) {j : Int32} {v : Int64} {i : Nat} (hj : j.toInt = (i : Int)) (hi : i < n) (hv : fj i = v) (hd : decode bytes pc = .ok (.laload, 1)) (hp : pc + 1 = pc') (k : Go K R n0 Q T pc' L (.long v :: st)) : Go K R n0 Q T pc L (.int j :: .ref a :: st) := by
  subst hp
  subst hv
  obtain ⟨⟨locs, X, hF⟩, e0, hn0, hx, hZ, hby, hml, hret, hlk, hown, hnm⟩ := S
  obtain ⟨c, A, h1, h2, h3⟩ := A
  exact Go.step (fun _ t => X.laload hx (j := j) (v := .long (fj i)) (by rw [e0]; exact A.1) (State.isArrayOf_alike hZ.alike A.2.1) A.2.2 (inbI hj (h1 ▸ hi)) (by rw [clampI hj]; exact h3 i hi) (g := mkF K.m pc L (.int j :: .ref a :: st)) rfl rfl (hb hby hd) _ t) k
theorem len32 {c : Cell} (h1 : c.slots.size = n) (h2 : n < 2147483648) {v : Int32} (hv : v.toInt = (n : Int)) : c.slots.size.toInt32 = v := by
  rw [h1]
  apply Int32.toInt_inj.mp
  rw [hv]
  have := Int32.toInt_ofNat_of_lt (n := n) h2
  exact this
theorem px_alenI (S : St K Z R y bytes maxL ret n0 T h cl sl) (A : AI Z h a ty n f) {v : Int32} (hv : v.toInt = (n : Int)) (hd : decode bytes pc = .ok (.arraylength, 1)) (hp : pc + 1 = pc') (k : Go K R n0 Q T pc' L (.int v :: st)) : Go K R n0 Q T pc L (.ref a :: st) := by
  subst hp
  obtain ⟨⟨locs, X, hF⟩, e0, hn0, hx, hZ, hby, hml, hret, hlk, hown, hnm⟩ := S
  obtain ⟨c, A, h1, h2, h3⟩ := A
  refine Go.step (fun _ t => X.arraylength hx (by rw [e0]; exact A.1) (State.isArrayOf_alike hZ.alike A.2.1) (g := mkF K.m pc L (.ref a :: st)) rfl rfl (hb hby hd) _ t) ?_
  rw [len32 h1 h2 hv]
  exact k
theorem px_alenJ (S : St K Z R y bytes maxL ret n0 T h cl sl) (A : AJ Z h a n fj) {v : Int32} (hv : v.toInt = (n : Int)) (hd : decode bytes pc = .ok (.arraylength, 1)) (hp : pc + 1 = pc') (k : Go K R n0 Q T pc' L (.int v :: st)) : Go K R n0 Q T pc L (.ref a :: st) := by
  subst hp
  obtain ⟨⟨locs, X, hF⟩, e0, hn0, hx, hZ, hby, hml, hret, hlk, hown, hnm⟩ := S
  obtain ⟨c, A, h1, h2, h3⟩ := A
  refine Go.step (fun _ t => X.arraylength hx (by rw [e0]; exact A.1) (State.isArrayOf_alike hZ.alike A.2.1) (g := mkF K.m pc L (.ref a :: st)) rfl rfl (hb hby hd) _ t) ?_
  rw [len32 h1 h2 hv]
  exact k
theorem px_iastore (S : St K Z R y bytes maxL ret n0 T h cl sl) (A : AI Z h a .int n f) (ha : n0 ≤ a) {j u v : Int32} {i : Nat} (hj : j.toInt = (i : Int)) (hi : i < n) (hv : u = v) (hd : decode bytes pc = .ok (.iastore, 1)) (hp : pc + 1 = pc')
    (k : ∀ (T' : State) (h' : Heap), St K Z R y bytes maxL ret n0 T' h' cl sl → Wr h h' a i (.int v) → AI Z h' a .int n (updF f i v) → Go K R n0 Q T' pc' L st) : Go K R n0 Q T pc L (.int u :: .int j :: .ref a :: st) := by
  subst hp
  subst hv
  obtain ⟨⟨locs, X, hF⟩, e0, hn0, hx, hZ, hby, hml, hret, hlk, hown, hnm⟩ := S
  obtain ⟨c, A, h1, h2, h3⟩ := A
  obtain ⟨T', h', X', e', W, stp⟩ := stI X hx hZ e0 A (j := j) (inbI hj (h1 ▸ hi)) (g := mkF K.m pc L (.int u :: .int j :: .ref a :: st)) rfl rfl (hb hby hd)
  have hF' := Fr.snoc X' hF ha
  rw [clampI hj] at W
  exact Go.step stp (k T' h' ⟨⟨_, X', hF'⟩, e', hn0, hx, hZ, hby, hml, hret, hlk, hown, hnm⟩ W (AI.same A h1 h2 h3 W hi rfl))
theorem px_castore (S : St K Z R y bytes maxL ret n0 T h cl sl) (A : AI Z h a .char n f) (ha : n0 ≤ a) {j u v : Int32} {i : Nat} (hj : j.toInt = (i : Int)) (hi : i < n) (hv : (nar .char u) = v) (hd : decode bytes pc = .ok (.castore, 1)) (hp : pc + 1 = pc')
    (k : ∀ (T' : State) (h' : Heap), St K Z R y bytes maxL ret n0 T' h' cl sl → Wr h h' a i (.int v) → AI Z h' a .char n (updF f i v) → Go K R n0 Q T' pc' L st) : Go K R n0 Q T pc L (.int u :: .int j :: .ref a :: st) := by
  subst hp
  subst hv
  obtain ⟨⟨locs, X, hF⟩, e0, hn0, hx, hZ, hby, hml, hret, hlk, hown, hnm⟩ := S
  obtain ⟨c, A, h1, h2, h3⟩ := A
  obtain ⟨T', h', X', e', W, stp⟩ := stC X hx hZ e0 A (j := j) (inbI hj (h1 ▸ hi)) (g := mkF K.m pc L (.int u :: .int j :: .ref a :: st)) rfl rfl (hb hby hd)
  have hF' := Fr.snoc X' hF ha
  rw [clampI hj] at W
  exact Go.step stp (k T' h' ⟨⟨_, X', hF'⟩, e', hn0, hx, hZ, hby, hml, hret, hlk, hown, hnm⟩ W (AI.same A h1 h2 h3 W hi (fits_nar_char _)))
theorem px_sastore (S : St K Z R y bytes maxL ret n0 T h cl sl) (A : AI Z h a .short n f) (ha : n0 ≤ a) {j u v : Int32} {i : Nat} (hj : j.toInt = (i : Int)) (hi : i < n) (hv : (nar .short u) = v) (hd : decode bytes pc = .ok (.sastore, 1)) (hp : pc + 1 = pc')
    (k : ∀ (T' : State) (h' : Heap), St K Z R y bytes maxL ret n0 T' h' cl sl → Wr h h' a i (.int v) → AI Z h' a .short n (updF f i v) → Go K R n0 Q T' pc' L st) : Go K R n0 Q T pc L (.int u :: .int j :: .ref a :: st) := by
  subst hp
  subst hv
  obtain ⟨⟨locs, X, hF⟩, e0, hn0, hx, hZ, hby, hml, hret, hlk, hown, hnm⟩ := S
  obtain ⟨c, A, h1, h2, h3⟩ := A
  obtain ⟨T', h', X', e', W, stp⟩ := stS X hx hZ e0 A (j := j) (inbI hj (h1 ▸ hi)) (g := mkF K.m pc L (.int u :: .int j :: .ref a :: st)) rfl rfl (hb hby hd)
  have hF' := Fr.snoc X' hF ha
  rw [clampI hj] at W
  exact Go.step stp (k T' h' ⟨⟨_, X', hF'⟩, e', hn0, hx, hZ, hby, hml, hret, hlk, hown, hnm⟩ W (AI.same A h1 h2 h3 W hi (fits_nar_short _)))
theorem px_bastore (S : St K Z R y bytes maxL ret n0 T h cl sl) (A : AI Z h a .byte n f) (ha : n0 ≤ a) {j u v : Int32} {i : Nat} (hj : j.toInt = (i : Int)) (hi : i < n) (hv : (nar .byte u) = v) (hd : decode bytes pc = .ok (.bastore, 1)) (hp : pc + 1 = pc')
    (k : ∀ (T' : State) (h' : Heap), St K Z R y bytes maxL ret n0 T' h' cl sl → Wr h h' a i (.int v) → AI Z h' a .byte n (updF f i v) → Go K R n0 Q T' pc' L st) : Go K R n0 Q T pc L (.int u :: .int j :: .ref a :: st) := by
  subst hp
  subst hv
  obtain ⟨⟨locs, X, hF⟩, e0, hn0, hx, hZ, hby, hml, hret, hlk, hown, hnm⟩ := S
  obtain ⟨c, A, h1, h2, h3⟩ := A
  obtain ⟨T', h', X', e', W, stp⟩ := stB X hx hZ e0 A (j := j) (inbI hj (h1 ▸ hi)) (g := mkF K.m pc L (.int u :: .int j :: .ref a :: st)) rfl rfl (hb hby hd)
  have hF' := Fr.snoc X' hF ha
  rw [clampI hj] at W
  exact Go.step stp (k T' h' ⟨⟨_, X', hF'⟩, e', hn0, hx, hZ, hby, hml, hret, hlk, hown, hnm⟩ W (AI.same A h1 h2 h3 W hi (fits_nar_byte _)))
theorem px_lastore (S : St K Z R y bytes maxL ret n0 T h cl sl) (A : AJ Z h a n fj) (ha : n0 ≤ a) {j : Int32} {u : Int64} {i : Nat} (hj : j.toInt = (i : Int)) (hi : i < n) (hd : decode bytes pc = .ok (.lastore, 1)) (hp : pc + 1 = pc')
    (k : ∀ (T' : State) (h' : Heap), St K Z R y bytes maxL ret n0 T' h' cl sl → Wr h h' a i (.long u) → AJ Z h' a n (updF fj i u) → Go K R n0 Q T' pc' L st) : Go K R n0 Q T pc L (.long u :: .int j :: .ref a :: st) := by
  subst hp
  obtain ⟨⟨locs, X, hF⟩, e0, hn0, hx, hZ, hby, hml, hret, hlk, hown, hnm⟩ := S
  obtain ⟨c, A, h1, h2, h3⟩ := A
  obtain ⟨T', h', X', e', W, stp⟩ := stJ X hx hZ e0 A (j := j) (inbI hj (h1 ▸ hi)) (g := mkF K.m pc L (.long u :: .int j :: .ref a :: st)) rfl rfl (hb hby hd)
  have hF' := Fr.snoc X' hF ha
  rw [clampI hj] at W
  exact Go.step stp (k T' h' ⟨⟨_, X', hF'⟩, e', hn0, hx, hZ, hby, hml, hret, hlk, hown, hnm⟩ W (AJ.same A h1 h2 h3 W hi))
theorem nneg {u : Int32} (hu : u.toInt = (n : Int)) : ¬ u < 0 := fun q => by
  have q2 := Int32.lt_iff_toInt_lt.mp q
  have z : (0 : Int32).toInt = 0 := rfl
  omega
theorem small {u : Int32} (hu : u.toInt = (n : Int)) : n < 2147483648 := by
  have := (rng32 u).2
  omega
theorem px_newarr {aty : ArrayType} (S : St K Z R y bytes maxL ret n0 T h cl sl) (w : (Jvm.Cond.arrayClass (newarray.typeOf aty)).before a0 Z = true) (hdv : defaultValue (newarray.typeOf aty) = .int 0) {u : Int32} {cap : Nat} (hu : u.toInt = (n : Int)) (hcap : n ≤ cap) (hb8 : cap * 8 ≤ 536870912) (hc : cl + 1 ≤ R.cells) (hs : sl + cap ≤ R.slots)
    (hd : decode bytes pc = .ok (.newarray aty, 2)) (hp : pc + 2 = pc')
    (k : ∀ (T' : State) (h' : Heap) (a : Addr), a = h.size → n0 ≤ a → St K Z R y bytes maxL ret n0 T' h' (cl + 1) (sl + cap) → Ext h h' → AI Z h' a (newarray.typeOf aty) n (fun _ => 0) → Go K R n0 Q T' pc' L (.ref a :: st)) : Go K R n0 Q T pc L (.int u :: st) := by
  subst hp
  have hsz := S.size
  obtain ⟨⟨locs, X, hF⟩, e0, hn0, hx, hZ, hby, hml, hret, hlk, hown, hnm⟩ := S
  obtain ⟨T', h', cA, X', e', E, A, stp⟩ := newP X hx hZ w e0 (g := mkF K.m pc L (.int u :: st)) rfl (hb hby hd) rfl (nneg hu) (cap := cap) (by rw [clampI hu]; exact hcap) hb8 hc hs
  refine Go.step stp (k T' h' h.size rfl hsz ⟨⟨_, X', hF⟩, e', hn0, hx, hZ, hby, hml, hret, hlk, hown, hnm⟩ E ⟨_, A, by rw [sz_new, clampI hu], small hu, fun i hi => ⟨?_, ?_⟩⟩)
  · simp [newA, clampI hu, hi, hdv]
  · rw [← hdv]; cases aty <;> first | rfl | (simp [newarray.typeOf, defaultValue] at hdv)
theorem px_newarrJ (S : St K Z R y bytes maxL ret n0 T h cl sl) (w : (Jvm.Cond.arrayClass FieldType.long).before a0 Z = true) {u : Int32} {cap : Nat} (hu : u.toInt = (n : Int)) (hcap : n ≤ cap) (hb8 : cap * 8 ≤ 536870912) (hc : cl + 1 ≤ R.cells) (hs : sl + cap ≤ R.slots)
    (hd : decode bytes pc = .ok (.newarray .long, 2)) (hp : pc + 2 = pc')
    (k : ∀ (T' : State) (h' : Heap) (a : Addr), a = h.size → n0 ≤ a → St K Z R y bytes maxL ret n0 T' h' (cl + 1) (sl + cap) → Ext h h' → AJ Z h' a n (fun _ => 0) → Go K R n0 Q T' pc' L (.ref a :: st)) : Go K R n0 Q T pc L (.int u :: st) := by
  subst hp
  have hsz := S.size
  obtain ⟨⟨locs, X, hF⟩, e0, hn0, hx, hZ, hby, hml, hret, hlk, hown, hnm⟩ := S
  obtain ⟨T', h', cA, X', e', E, A, stp⟩ := newP X hx hZ (aty := .long) w e0 (g := mkF K.m pc L (.int u :: st)) rfl (hb hby hd) rfl (nneg hu) (cap := cap) (by rw [clampI hu]; exact hcap) hb8 hc hs
  refine Go.step stp (k T' h' h.size rfl hsz ⟨⟨_, X', hF⟩, e', hn0, hx, hZ, hby, hml, hret, hlk, hown, hnm⟩ E ⟨_, A, by rw [sz_new, clampI hu], small hu, fun i hi => ?_⟩)
  simp [newA, clampI hu, hi, defaultValue, newarray.typeOf]
theorem px_new {C : String} {idx k0 : Nat} (S : St K Z R y bytes maxL ret n0 T h cl sl) (w : (Jvm.Cond.classLink y.cls idx C).before a0 Z = true) (wi : (Jvm.Cond.instantiable C k0).before a0 Z = true) (wz : (Jvm.Cond.initialized C).before a0 Z = true) (hc : cl + 1 ≤ R.cells) (hs : sl + k0 ≤ R.slots) (hd : decode bytes pc = .ok (.new idx, 3)) (hp : pc + 3 = pc')
    (k : ∀ (T' : State) (h' : Heap) (a : Addr), a = h.size → n0 ≤ a → St K Z R y bytes maxL ret n0 T' h' (cl + 1) (sl + k0) → Ext h h' → Exa Z h' a C → (∀ {O nm d : String} {ty : FieldType}, Laid Z a0 C O nm d → parseFieldDescriptor d = some ty → Fld Z h' a O nm d (defaultValue ty)) → Go K R n0 Q T' pc' L (.ref a :: st)) : Go K R n0 Q T pc L st := by
  subst hp
  have hsz := S.size
  obtain ⟨⟨locs, X, hF⟩, e0, hn0, hx, hZ, hby, hml, hret, hlk, hown, hnm⟩ := S
  obtain ⟨T', h', X', e', E, A, D, -, stp⟩ := newO X hx hZ hown w wi wz e0 (g := mkF K.m pc L st) rfl (hb hby hd) hc hs
  exact Go.step stp (k T' h' h.size rfl hsz ⟨⟨_, X', hF⟩, e', hn0, hx, hZ, hby, hml, hret, hlk, hown, hnm⟩ E A (fun {O nm d ty} => D))
theorem px_getfield {C nm d : String} {idx : Nat} {v : Value} (S : St K Z R y bytes maxL ret n0 T h cl sl) (w : (Jvm.Cond.fieldLink y.cls idx C nm d).before a0 Z = true) (F : Fld Z h a C nm d v) (hd : decode bytes pc = .ok (.getfield idx, 3)) (hp : pc + 3 = pc')
    (k : ∀ (T' : State), St K Z R y bytes maxL ret n0 T' h cl sl → Go K R n0 Q T' pc' L (v :: st)) : Go K R n0 Q T pc L (.ref a :: st) := by
  subst hp
  obtain ⟨⟨locs, X, hF⟩, e0, hn0, hx, hZ, hby, hml, hret, hlk, hown, hnm⟩ := S
  obtain ⟨T', X', e', stp⟩ := getF X hx hZ hown (host := "") (Or.inl w) Via.refl e0 F (g := mkF K.m pc L (.ref a :: st)) rfl rfl (hb hby hd)
  exact Go.step stp (k T' ⟨⟨_, X', hF⟩, e', hn0, hx, hZ, hby, hml, hret, hlk, hown, hnm⟩)
theorem px_putfield {C nm d : String} {idx kk : Nat} {v v' old : Value} {ty : FieldType} (S : St K Z R y bytes maxL ret n0 T h cl sl) (w : (Jvm.Cond.fieldLink y.cls idx C nm d).before a0 Z = true) (F : Fld Z h a C nm d old) (E : Exa Z h a C) (ha : n0 ≤ a)
    (hl : (Jvm.Cond.lays C C nm d).before a0 Z = true ∨ ((Jvm.Cond.laysFinal C C nm d).before a0 Z = true ∧ y.cls = C ∧ y.name = "<init>")) (wi : (Jvm.Cond.instantiable C kk).before a0 Z = true) (hty : parseFieldDescriptor d = some ty) (hv : narrow ty v = v') (hf : fits ty v' = true) (hd : decode bytes pc = .ok (.putfield idx, 3)) (hp : pc + 3 = pc')
    (k : ∀ (T' : State) (h' : Heap), St K Z R y bytes maxL ret n0 T' h' cl sl → Wr h h' a (Jvm.RoadKit.slotOf Z C nm d) v' → Fld Z h' a C nm d v' → Exa Z h' a C → Go K R n0 Q T' pc' L st) : Go K R n0 Q T pc L (v :: .ref a :: st) := by
  subst hp
  obtain ⟨⟨locs, X, hF⟩, e0, hn0, hx, hZ, hby, hml, hret, hlk, hown, hnm⟩ := S
  obtain ⟨T', h', X', e', W, stp⟩ := putFN X hx hZ hown w Via.refl e0 F E (hl.imp id fun q => ⟨q.1, q.2.1, hnm.trans q.2.2⟩) wi hty hv hf (g := mkF K.m pc L (v :: .ref a :: st)) rfl rfl (hb hby hd)
  have hF' := Fr.snoc X' hF ha
  exact Go.step stp (k T' h' ⟨⟨_, X', hF'⟩, e', hn0, hx, hZ, hby, hml, hret, hlk, hown, hnm⟩ W (F.same W) (E.wr W))
theorem px_initO {idx W : Nat} (S : St K Z R y bytes maxL ret n0 T h cl sl) (w1 : (Jvm.Cond.methodLink y.cls idx Lib.objectInit).before a0 Z = true) (w2 : (Jvm.Cond.instanceMethod Lib.objectInit).before a0 Z = true) (w3 : (Jvm.Cond.code Lib.objectInit ⟨#[0xb1]⟩ 1 none).before a0 Z = true) (hL : L.size = maxL) (hfr : 1 ≤ R.frames) (hW : (st.map fun v => v.category).sum = W) (hlo : W + 12 ≤ R.locals) (hd : decode bytes pc = .ok (.invokespecial idx, 3)) (hp : pc + 3 = pc')
    (k : ∀ (T' : State), St K Z R y bytes maxL ret n0 T' h cl sl → Go K R n0 Q T' pc' L st) : Go K R n0 Q T pc L (.ref a :: st) := by
  subst hp
  obtain ⟨⟨locs, X, hF⟩, e0, hn0, hx, hZ, hby, hml, hret, hlk, hown, hnm⟩ := S
  obtain ⟨T', X', e', stp⟩ := initO X hx hZ hown w1 w2 w3 e0 (g := mkF K.m pc L (.ref a :: st)) rfl (hL.trans hml.symm) rfl (hb hby hd) hfr (W := W) (by show 2 * 0 + _ ≤ _; rw [hW]; omega) hlo
  exact Go.step stp (k T' ⟨⟨_, X', hF⟩, e', hn0, hx, hZ, hby, hml, hret, hlk, hown, hnm⟩)
theorem px_callS {y' : MethodName} {b' : ByteArray} {mx' : Nat} {rt' : Option FieldType} {rm : Room} {as' : List Value} {Q' : Option Value → Heap → Prop} {W idx : Nat} {ps : List FieldType} {rr : Option FieldType} (S : St K Z R y bytes maxL ret n0 T h cl sl) (C : Ctr Z n0 y' b' mx' rt' rm as' h Q') (w1 : (Jvm.Cond.methodLink y.cls idx y').before a0 Z = true) (w2 : (Jvm.Cond.static y').before a0 Z = true) (w3 : (Jvm.Cond.initialized y'.cls).before a0 Z = true) (w4 : (Jvm.Cond.code y' b' mx' rt').before a0 Z = true) (hy : y'.cls ≠ "java/lang/invoke/MethodHandle" ∧ y'.cls ≠ "java/lang/invoke/VarHandle")
    (hps : parseMethodDescriptor y'.desc = some ⟨ps, rr⟩) (hlen : as'.length = ps.length) (hL : L.size = maxL) (hfr : rm.frames + 1 ≤ R.frames) (hW : (st.map fun v => v.category).sum = W) (hlo : W + (mx' + 11) + rm.locals ≤ R.locals) (hc : cl + rm.cells ≤ R.cells) (hs : sl + rm.slots ≤ R.slots) (hd : decode bytes pc = .ok (.invokestatic idx, 3)) (hp : pc + 3 = pc') {stk : List Value} (hst : stk = as'.reverse ++ st)
    (k : ∀ (T' : State) (h' : Heap) (v : Option Value), St K Z R y bytes maxL ret n0 T' h' (cl + rm.cells) (sl + rm.slots) → Q' v h' → Go K R n0 Q T' pc' L (v.toList ++ st)) : Go K R n0 Q T pc L stk := by
  subst hp
  subst hst
  obtain ⟨⟨locs, X, hF⟩, e0, hn0, hx, hZ, hby, hml, hret, hlk, hown, hnm⟩ := S
  obtain ⟨v, _, ⟨T1, L1, c1, n1⟩, -, X1, ⟨Lc, hq, hl1, hc1, hs1⟩, stp⟩ := Jvm.LawKit.callS X hx (y := y') hown (mvT hZ w1) (mvT hZ w2) (mvT hZ w3) (mvT hZ w4) hy (backOf (Q := fun v h' L => Q' v h' ∧ Fr n0 L) (W := W) (C K.l []) hZ w4 w3 hfr hlo) (g := mkF K.m pc L (as'.reverse ++ st)) rfl (hL.trans hml.symm) (argsL := as') (rest := st) (lenOf hps hlen) rfl (by show 2 * 0 + _ ≤ _; rw [hW]; omega) (hb hby hd) (fun _ _ => ⟨rfl, e0, hc, hs⟩)
  dsimp only [Pt.U, Pt.locs, Pt.cells, Pt.slots] at X1 hl1 hc1 hs1 stp hq
  subst hl1 hc1 hs1
  obtain ⟨hq, hFc⟩ := hq
  exact Go.step stp (k T1 T1.heap v ⟨⟨_, X1, Fr.app hF hFc⟩, rfl, hn0, hx, hZ, hby, hml, hret, hlk, hown, hnm⟩ hq)
theorem Go.trans {T' : State} {st' : List Value} (hs : Steps K.p.tables K.e K.below (T.setTop (mkF K.m pc L st)) (T'.setTop (mkF K.m pc' L' st'))) (k : Go K R n0 Q T' pc' L' st') : Go K R n0 Q T pc L st := by
  obtain ⟨s₂, o, h1, r⟩ := k
  exact ⟨s₂, o, hs.trans h1, r⟩
theorem px_callC {y' : MethodName} {b' : ByteArray} {mx' : Nat} {rm : Room} {as' : List Value} {Q' : Option Value → Heap → Prop} {W idx : Nat} {ps : List FieldType} {rr : Option FieldType} (S : St K Z R y bytes maxL ret n0 T h cl sl) (C : Ctr Z n0 y' b' mx' none rm (.ref a :: as') h Q') (hin : y'.name = "<init>") (w1 : (Jvm.Cond.methodLink y.cls idx y').before a0 Z = true) (w2 : (Jvm.Cond.instanceMethod y').before a0 Z = true) (w3 : (Jvm.Cond.initialized y'.cls).before a0 Z = true) (w4 : (Jvm.Cond.code y' b' mx' none).before a0 Z = true) (hy : y'.cls ≠ "java/lang/invoke/MethodHandle" ∧ y'.cls ≠ "java/lang/invoke/VarHandle")
    (hps : parseMethodDescriptor y'.desc = some ⟨ps, rr⟩) (hlen : as'.length = ps.length) (hL : L.size = maxL) (hfr : rm.frames + 1 ≤ R.frames) (hW : (st.map fun v => v.category).sum = W) (hlo : W + (mx' + 11) + rm.locals ≤ R.locals) (hc : cl + rm.cells ≤ R.cells) (hs : sl + rm.slots ≤ R.slots) (hd : decode bytes pc = .ok (.invokespecial idx, 3)) (hp : pc + 3 = pc') {stk : List Value} (hst : stk = as'.reverse ++ .ref a :: st)
    (k : ∀ (T' : State) (h' : Heap) (v : Option Value), St K Z R y bytes maxL ret n0 T' h' (cl + rm.cells) (sl + rm.slots) → Q' v h' → Go K R n0 Q T' pc' L (v.toList ++ st)) : Go K R n0 Q T pc L stk := by
  subst hp
  subst hst
  obtain ⟨⟨locs, X, hF⟩, e0, hn0, hx, hZ, hby, hml, hret, hlk, hown, hnm⟩ := S
  obtain ⟨v, _, ⟨T1, L1, c1, n1⟩, -, X1, ⟨Lc, hq, hl1, hc1, hs1⟩, stp⟩ := X.specialBack hx (y := y') hin hown (mvT hZ w1) (mvT hZ w2) (mvT hZ w4) hy (backOf (Q := fun v h' L => Q' v h' ∧ Fr n0 L) (W := W) (C K.l []) hZ w4 w3 hfr hlo) (g := mkF K.m pc L (as'.reverse ++ .ref a :: st)) rfl (hL.trans hml.symm) (Steps.refl _) (a := a) (argsL := as') (rest := st) (lenOf hps hlen) rfl (by show 2 * 0 + _ ≤ _; rw [hW]; omega) (hb hby hd) (fun _ _ => ⟨rfl, e0, hc, hs⟩)
  dsimp only [Pt.U, Pt.locs, Pt.cells, Pt.slots] at X1 hl1 hc1 hs1 stp hq
  subst hl1 hc1 hs1
  obtain ⟨hq, hFc⟩ := hq
  exact Go.trans stp (k T1 T1.heap v ⟨⟨_, X1, Fr.app hF hFc⟩, rfl, hn0, hx, hZ, hby, hml, hret, hlk, hown, hnm⟩ hq)
theorem px_callV {y' : MethodName} {b' : ByteArray} {mx' : Nat} {rt' : Option FieldType} {rm : Room} {as' : List Value} {Q' : Option Value → Heap → Prop} {W idx : Nat} {ps : List FieldType} {rr : Option FieldType} {Cn : String} (S : St K Z R y bytes maxL ret n0 T h cl sl) (C : Ctr Z n0 y' b' mx' rt' rm (.ref a :: as') h Q') (E : Exa Z h a Cn) (w1 : (Jvm.Cond.methodLink y.cls idx y').before a0 Z = true) (w2 : (Jvm.Cond.declares y').before a0 Z = true) (w5 : (Jvm.Cond.selects Cn y' y').before a0 Z = true) (w6 : (Jvm.Cond.instanceMethod y').before a0 Z = true) (w3 : (Jvm.Cond.initialized y'.cls).before a0 Z = true) (w4 : (Jvm.Cond.code y' b' mx' rt').before a0 Z = true) (hnf : NotFace K.s y') (hy : y'.cls ≠ "java/lang/invoke/MethodHandle" ∧ y'.cls ≠ "java/lang/invoke/VarHandle")
    (hps : parseMethodDescriptor y'.desc = some ⟨ps, rr⟩) (hlen : as'.length = ps.length) (hL : L.size = maxL) (hfr : rm.frames + 1 ≤ R.frames) (hW : (st.map fun v => v.category).sum = W) (hlo : W + (mx' + 11) + rm.locals ≤ R.locals) (hc : cl + rm.cells ≤ R.cells) (hs : sl + rm.slots ≤ R.slots) (hd : decode bytes pc = .ok (.invokevirtual idx, 3)) (hp : pc + 3 = pc') {stk : List Value} (hst : stk = as'.reverse ++ .ref a :: st)
    (k : ∀ (T' : State) (h' : Heap) (v : Option Value), St K Z R y bytes maxL ret n0 T' h' (cl + rm.cells) (sl + rm.slots) → Q' v h' → Go K R n0 Q T' pc' L (v.toList ++ st)) : Go K R n0 Q T pc L stk := by
  subst hp
  subst hst
  obtain ⟨⟨locs, X, hF⟩, e0, hn0, hx, hZ, hby, hml, hret, hlk, hown, hnm⟩ := S
  obtain ⟨cq, kq, qa, qb, qc⟩ := isOf hZ e0 E
  obtain ⟨v, _, ⟨T1, L1, c1, n1⟩, -, X1, ⟨Lc, hq, hl1, hc1, hs1⟩, stp⟩ := X.virtualBack hx (y := y') (z := y') hown (mvT hZ w1) (mvT hZ w2) hnf (mvT hZ w5) (mvT hZ w6) hy (backOf (Q := fun v h' L => Q' v h' ∧ Fr n0 L) (W := W) (C K.l []) hZ w4 w3 hfr hlo) qa qc (g := mkF K.m pc L (as'.reverse ++ .ref a :: st)) rfl (hL.trans hml.symm) (Steps.refl _) (argsL := as') (rest := st) (lenOf hps hlen) rfl (by show 2 * 0 + _ ≤ _; rw [hW]; omega) (hb hby hd) (fun _ _ => ⟨rfl, e0, hc, hs⟩)
  dsimp only [Pt.U, Pt.locs, Pt.cells, Pt.slots] at X1 hl1 hc1 hs1 stp hq
  subst hl1 hc1 hs1
  obtain ⟨hq, hFc⟩ := hq
  exact Go.trans stp (k T1 T1.heap v ⟨⟨_, X1, Fr.app hF hFc⟩, rfl, hn0, hx, hZ, hby, hml, hret, hlk, hown, hnm⟩ hq)
theorem px_callI {y' : MethodName} {b' : ByteArray} {mx' : Nat} {rt' : Option FieldType} {rm : Room} {as' : List Value} {Q' : Option Value → Heap → Prop} {W idx : Nat} {ps : List FieldType} {rr : Option FieldType} {Cn : String} {xi : MethodName} {count : Nat} (S : St K Z R y bytes maxL ret n0 T h cl sl) (C : Ctr Z n0 y' b' mx' rt' rm (.ref a :: as') h Q') (E : Exa Z h a Cn) (w1 : (Jvm.Cond.methodLink y.cls idx xi).before a0 Z = true) (w2 : (Jvm.Cond.declares xi).before a0 Z = true) (w7 : (Jvm.Cond.interfaceMethod xi.cls xi.cls xi.name xi.desc).before a0 Z = true) (hface : ((Jvm.Cond.interfaceMethod xi.cls xi.cls xi.name xi.desc).onTables && (Jvm.Cond.interfaceMethod xi.cls xi.cls xi.name xi.desc).keepsFace) = true) (w5 : (Jvm.Cond.selects Cn xi y').before a0 Z = true) (w6 : (Jvm.Cond.instanceMethod y').before a0 Z = true) (w8 : (Jvm.Cond.publicMethod y').before a0 Z = true) (w9 : (Jvm.Cond.unhidden Cn xi.name xi.desc).before a0 Z = true) (w10 : (Jvm.Cond.castable Cn xi.cls).before a0 Z = true) (w3 : (Jvm.Cond.initialized y'.cls).before a0 Z = true) (w4 : (Jvm.Cond.code y' b' mx' rt').before a0 Z = true) (hy : xi.cls ≠ "java/lang/invoke/MethodHandle" ∧ xi.cls ≠ "java/lang/invoke/VarHandle")
    (hps : parseMethodDescriptor xi.desc = some ⟨ps, rr⟩) (hlen : as'.length = ps.length) (hL : L.size = maxL) (hfr : rm.frames + 1 ≤ R.frames) (hW : (st.map fun v => v.category).sum = W) (hlo : W + (mx' + 11) + rm.locals ≤ R.locals) (hc : cl + rm.cells ≤ R.cells) (hs : sl + rm.slots ≤ R.slots) (hd : decode bytes pc = .ok (.invokeinterface idx count, 5)) (hp : pc + 5 = pc') {stk : List Value} (hst : stk = as'.reverse ++ .ref a :: st)
    (k : ∀ (T' : State) (h' : Heap) (v : Option Value), St K Z R y bytes maxL ret n0 T' h' (cl + rm.cells) (sl + rm.slots) → Q' v h' → Go K R n0 Q T' pc' L (v.toList ++ st)) : Go K R n0 Q T pc L stk := by
  subst hp
  subst hst
  obtain ⟨⟨locs, X, hF⟩, e0, hn0, hx, hZ, hby, hml, hret, hlk, hown, hnm⟩ := S
  obtain ⟨cq, kq, qa, qb, qc⟩ := isOf hZ e0 E
  obtain ⟨v, _, ⟨T1, L1, c1, n1⟩, -, X1, ⟨Lc, hq, hl1, hc1, hs1⟩, stp⟩ := X.interfaceBack hx (xi := xi) (y := y') hown (mvT hZ w1) (mvT hZ w2) (mvT hZ w7 hface) (mvT hZ w5) (mvT hZ w6) (mvT hZ w8) (mvT hZ w9) (mvT hZ w10) hy (backOf (Q := fun v h' L => Q' v h' ∧ Fr n0 L) (W := W) (C K.l []) hZ w4 w3 hfr hlo) qa qb qc (g := mkF K.m pc L (as'.reverse ++ .ref a :: st)) rfl (hL.trans hml.symm) (Steps.refl _) (argsL := as') (rest := st) (lenOf hps hlen) rfl (by show 2 * 0 + _ ≤ _; rw [hW]; omega) (hb hby hd) (fun _ _ => ⟨rfl, e0, hc, hs⟩)
  dsimp only [Pt.U, Pt.locs, Pt.cells, Pt.slots] at X1 hl1 hc1 hs1 stp hq
  subst hl1 hc1 hs1
  obtain ⟨hq, hFc⟩ := hq
  exact Go.trans stp (k T1 T1.heap v ⟨⟨_, X1, Fr.app hF hFc⟩, rfl, hn0, hx, hZ, hby, hml, hret, hlk, hown, hnm⟩ hq)
theorem St.nf {y' : MethodName} (S : St K Z R y bytes maxL ret n0 T h cl sl) (w : (Jvm.Cond.selects y'.cls y' y').before a0 Z = true) : NotFace K.s y' := by
  obtain ⟨⟨locs, X, hF⟩, e0, hn0, hx, hZ, hby, hml, hret, hlk, hown, hnm⟩ := S
  exact notFace_of_selects (args := #[]) (mvT hZ w)
theorem px_lsw (S : St K Z R y bytes maxL ret n0 T h cl sl) {df o : Int} {ps : Array (Int × Int)} {pl : List (Int × Int)} {ln : Nat} {u : Int32} (hd : decode bytes pc = .ok (.lookupswitch df ps, ln)) (hpl : ps.toList = pl) (hm : (pl.zip (pl.drop 1)).all (fun (a, next) => a.1 < next.1) = true) (hu : lookupswitch.offset pl df u.toInt = o) (ho : 0 ≤ (pc : Int) + o) (hp : ((pc : Int) + o).toNat = pc') (k : Go K R n0 Q T pc' L st) : Go K R n0 Q T pc L (.int u :: st) := by
  subst hp
  subst hpl
  obtain ⟨⟨locs, X, hF⟩, e0, hn0, hx, hZ, hby, hml, hret, hlk, hown, hnm⟩ := S
  refine Go.step (fun _ t => ?_) k
  have hd' := hb hby hd
  show Steps K.p.tables K.e K.below (T.setTop { method := K.m, pc := pc, locals := L, stack := .int u :: st, locked := none }) _
  jvm_step X.here [X.here.top, hx, hd', lookupswitch.wp_chain, hu, ho]
  exact ⟨by simpa using hm, t⟩
theorem Go.join {α : Type} {P : α → Prop} {pcj : Nat} {Lj : α → Array Slot} {stj : α → List Value} (h1 : ∀ x, P x → Go K R n0 Q T pcj (Lj x) (stj x)) (h2 : (∀ x, P x → Go K R n0 Q T pcj (Lj x) (stj x)) → Go K R n0 Q T pc L st) : Go K R n0 Q T pc L st := h2 h1
theorem Go.joinT {α : Type} {P : α → Prop} {pcj cl' sl' : Nat} {Lj : α → Array Slot} {stj : α → List Value} (S : St K Z R y bytes maxL ret n0 T h cl sl) (h1 : ∀ (x : α) (T' : State), St K Z R y bytes maxL ret n0 T' h cl' sl' → P x → Go K R n0 Q T' pcj (Lj x) (stj x)) (h2 : (∀ (x : α) (T' : State), St K Z R y bytes maxL ret n0 T' h cl' sl' → P x → Go K R n0 Q T' pcj (Lj x) (stj x)) → Go K R n0 Q T pc L st) : Go K R n0 Q T pc L st := h2 h1
theorem Go.joinH {α : Type} {P : α → Heap → Prop} {pcj cl' sl' : Nat} {Lj : α → Array Slot} {stj : α → List Value} (S : St K Z R y bytes maxL ret n0 T h cl sl) (h1 : ∀ (x : α) (T' : State) (h' : Heap), St K Z R y bytes maxL ret n0 T' h' cl' sl' → P x h' → Go K R n0 Q T' pcj (Lj x) (stj x)) (h2 : (∀ (x : α) (T' : State) (h' : Heap), St K Z R y bytes maxL ret n0 T' h' cl' sl' → P x h' → Go K R n0 Q T' pcj (Lj x) (stj x)) → Go K R n0 Q T pc L st) : Go K R n0 Q T pc L st := h2 h1
theorem Go.loopH {α : Type} {Inv : Nat → α → Heap → Prop} {pcj cl' sl' : Nat} {Lj : α → Array Slot} {stj : α → List Value} (S : St K Z R y bytes maxL ret n0 T h cl sl)
    (h1 : ∀ k, (∀ j, j < k → ∀ (x : α) (T' : State) (h' : Heap), St K Z R y bytes maxL ret n0 T' h' cl' sl' → Inv j x h' → Go K R n0 Q T' pcj (Lj x) (stj x)) → ∀ (x : α) (T' : State) (h' : Heap), St K Z R y bytes maxL ret n0 T' h' cl' sl' → Inv k x h' → Go K R n0 Q T' pcj (Lj x) (stj x))
    (h2 : (∀ (k : Nat) (x : α) (T' : State) (h' : Heap), St K Z R y bytes maxL ret n0 T' h' cl' sl' → Inv k x h' → Go K R n0 Q T' pcj (Lj x) (stj x)) → Go K R n0 Q T pc L st) : Go K R n0 Q T pc L st := h2 (fun k => Nat.strongRecOn k h1)
theorem i32_of {x y : Int32} {n : Int} (h : x.toInt = n) (hy : y.toInt = n) : x = y := Int32.toInt_inj.mp (h.trans hy.symm)
theorem i64_of {x y : Int64} {n : Int} (h : x.toInt = n) (hy : y.toInt = n) : x = y := Int64.toInt_inj.mp (h.trans hy.symm)
theorem ne_new {a b n : Nat} (e : a = n) (h : b < n) : b ≠ a := by omega
theorem f_imul (x y : Int32) (n : Int) (hy : y.toInt = n) : ((x * y).toInt - x.toInt * n) % 4294967296 = 0 := by rw [← hy]; exact c_imul x y
theorem f_imul' (x y : Int32) (n : Int) (hx : x.toInt = n) : ((x * y).toInt - n * y.toInt) % 4294967296 = 0 := by rw [← hx]; exact c_imul x y
theorem f_lmul (x y : Int64) (n : Int) (hy : y.toInt = n) : ((x * y).toInt - x.toInt * n) % 18446744073709551616 = 0 := by rw [← hy]; exact c_lmul x y
theorem f_lmul' (x y : Int64) (n : Int) (hx : x.toInt = n) : ((x * y).toInt - n * y.toInt) % 18446744073709551616 = 0 := by rw [← hx]; exact c_lmul x y
theorem f_imask (x m : Int32) (k : Nat) (P : Int) (hk : k ≤ 31) (hm : m.toBitVec.toNat = 2 ^ k - 1) (hP : ((2 ^ k : Nat) : Int) = P) : (x &&& m).toInt = x.toInt % P := by rw [← hP]; exact c_mask x m k hk hm
theorem f_imask' (m x : Int32) (k : Nat) (P : Int) (hk : k ≤ 31) (hm : m.toBitVec.toNat = 2 ^ k - 1) (hP : ((2 ^ k : Nat) : Int) = P) : (m &&& x).toInt = x.toInt % P := by rw [Int32.and_comm]; exact f_imask x m k P hk hm hP
theorem f_lmask (x m : Int64) (k : Nat) (P : Int) (hk : k ≤ 63) (hm : m.toBitVec.toNat = 2 ^ k - 1) (hP : ((2 ^ k : Nat) : Int) = P) : (x &&& m).toInt = x.toInt % P := by rw [← hP]; exact c_maskL x m k hk hm
theorem f_lmask' (m x : Int64) (k : Nat) (P : Int) (hk : k ≤ 63) (hm : m.toBitVec.toNat = 2 ^ k - 1) (hP : ((2 ^ k : Nat) : Int) = P) : (m &&& x).toInt = x.toInt % P := by rw [Int64.and_comm]; exact f_lmask x m k P hk hm hP
theorem f_ishl (x q : Int32) (k : Nat) (P : Int) (hk : q.toBitVec.toNat % 32 = k) (hP : ((2 ^ k : Nat) : Int) = P) : ((x <<< (q &&& 31)).toInt - x.toInt * P) % 4294967296 = 0 := by rw [← hP]; exact c_ishl x q k hk
theorem f_ishr (x q : Int32) (k : Nat) (P : Int) (hk : q.toBitVec.toNat % 32 = k) (hP : ((2 ^ k : Nat) : Int) = P) : (x >>> (q &&& 31)).toInt = x.toInt / P := by rw [← hP]; exact c_ishr x q k hk
theorem f_iushr (x q : Int32) (k : Nat) (P : Int) (hk : q.toBitVec.toNat % 32 = k) (h0 : 0 < k) (hP : ((2 ^ k : Nat) : Int) = P) : (ushr x q).toInt = (x.toInt % 4294967296) / P := by rw [← hP]; exact c_iushr x q k hk h0
theorem f_lshl (x : Int64) (q : Int32) (k : Nat) (P : Int) (hk : q.toBitVec.toNat % 64 = k) (hP : ((2 ^ k : Nat) : Int) = P) : ((x <<< (q &&& 0x3f).toInt64).toInt - x.toInt * P) % 18446744073709551616 = 0 := by rw [← hP]; exact c_lshl x q k hk
theorem f_lshr (x : Int64) (q : Int32) (k : Nat) (P : Int) (hk : q.toBitVec.toNat % 64 = k) (hP : ((2 ^ k : Nat) : Int) = P) : (x >>> (q &&& 0x3f).toInt64).toInt = x.toInt / P := by rw [← hP]; exact c_lshr x q k hk
theorem f_lushr (x : Int64) (q : Int32) (k : Nat) (P : Int) (hk : q.toBitVec.toNat % 64 = k) (h0 : 0 < k) (hP : ((2 ^ k : Nat) : Int) = P) : (ushrL x q).toInt = (x.toInt % 18446744073709551616) / P := by rw [← hP]; exact c_lushr x q k hk h0
theorem f_idiv (x y : Int32) (d : Int) (hy : y.toInt = d) (hd : y ≠ -1) : (0 ≤ x.toInt → (x / y).toInt = x.toInt / d) ∧ (x.toInt < 0 → (x / y).toInt = -((-x.toInt) / d)) := c_idiv x y d hy hd
theorem f_irem (x y : Int32) (d : Int) (hy : y.toInt = d) : (0 ≤ x.toInt → (x % y).toInt = x.toInt % d) ∧ (x.toInt < 0 → (x % y).toInt = -((-x.toInt) % d)) := c_irem x y d hy
theorem f_ldiv (x y : Int64) (d : Int) (hy : y.toInt = d) (hd : y ≠ -1) : (0 ≤ x.toInt → (x / y).toInt = x.toInt / d) ∧ (x.toInt < 0 → (x / y).toInt = -((-x.toInt) / d)) := c_ldiv x y d hy hd
theorem f_i2b (x : Int32) : ((i2b x).toInt - x.toInt) % 256 = 0 ∧ -128 ≤ (i2b x).toInt ∧ (i2b x).toInt < 128 := c_i2b x
theorem f_i2s (x : Int32) : ((i2s x).toInt - x.toInt) % 65536 = 0 ∧ -32768 ≤ (i2s x).toInt ∧ (i2s x).toInt < 32768 := c_i2s x
theorem f_i2c (x : Int32) : ((i2c x).toInt - x.toInt) % 65536 = 0 ∧ 0 ≤ (i2c x).toInt ∧ (i2c x).toInt < 65536 := c_i2c x
theorem x_iadd {a b : Int32} {la ha lb hb : Int} (p : la ≤ a.toInt ∧ a.toInt ≤ ha) (q : lb ≤ b.toInt ∧ b.toInt ≤ hb) (h1 : -2147483648 ≤ la + lb) (h2 : ha + hb < 2147483648) : (a + b).toInt = a.toInt + b.toInt := by have r := c_iadd a b; have s := rng32 (a + b); omega
theorem x_isub {a b : Int32} {la ha lb hb : Int} (p : la ≤ a.toInt ∧ a.toInt ≤ ha) (q : lb ≤ b.toInt ∧ b.toInt ≤ hb) (h1 : -2147483648 ≤ la - hb) (h2 : ha - lb < 2147483648) : (a - b).toInt = a.toInt - b.toInt := by have r := c_isub a b; have s := rng32 (a - b); omega
theorem x_imask {a m : Int32} {P : Int} (k : Nat) (hk : k ≤ 32 - 1) (hm : m.toBitVec.toNat = 2 ^ k - 1) (hP : ((2 ^ k : Nat) : Int) = P) : (a &&& m).toInt = a.toInt % P := f_imask a m k P hk hm hP
theorem x_ineg {a : Int32} {la ha : Int} (p : la ≤ a.toInt ∧ a.toInt ≤ ha) (h1 : -2147483648 < la) : (-a).toInt = -a.toInt := by have r := c_ineg a; have s := rng32 (-a); have t := rng32 a; omega
theorem x_ishr {x : Int32} {q : Int32} {P : Int} (k : Nat) (hk : q.toBitVec.toNat % 32 = k) (hP : ((2 ^ k : Nat) : Int) = P) : (x >>> (q &&& 31)).toInt = x.toInt / P := f_ishr x q k P hk hP
theorem x_iushr {x : Int32} {q : Int32} {P la ha : Int} (p : la ≤ x.toInt ∧ x.toInt ≤ ha) (h1 : 0 ≤ la) (k : Nat) (hk : q.toBitVec.toNat % 32 = k) (h0 : 0 < k) (hP : ((2 ^ k : Nat) : Int) = P) : (ushr x q).toInt = x.toInt / P := by
  have r := f_iushr x q k P hk h0 hP
  have s := rng32 x
  rw [r]; congr 1; omega
theorem x_imul {a b : Int32} {la ha n : Int} (p : la ≤ a.toInt ∧ a.toInt ≤ ha) (hn : b.toInt = n) (h0 : 0 ≤ n) (h1 : -2147483648 ≤ la * n) (h2 : ha * n < 2147483648) : (a * b).toInt = a.toInt * n := by
  have r := f_imul a b n hn
  have s := rng32 (a * b)
  have m1 := Int.mul_le_mul_of_nonneg_right p.1 h0
  have m2 := Int.mul_le_mul_of_nonneg_right p.2 h0
  generalize a.toInt * n = z at *
  generalize la * n = z1 at *
  generalize ha * n = z2 at *
  omega
theorem x_imulN {a b : Int32} {la ha n : Int} (p : la ≤ a.toInt ∧ a.toInt ≤ ha) (hn : b.toInt = n) (h0 : n ≤ 0) (h1 : -2147483648 ≤ ha * n) (h2 : la * n < 2147483648) : (a * b).toInt = a.toInt * n := by
  have r := f_imul a b n hn
  have s := rng32 (a * b)
  have m1 := Int.mul_le_mul_of_nonpos_right p.1 h0
  have m2 := Int.mul_le_mul_of_nonpos_right p.2 h0
  generalize a.toInt * n = z at *
  generalize la * n = z1 at *
  generalize ha * n = z2 at *
  omega
theorem x_imulN' {a b : Int32} {la ha n : Int} (p : la ≤ b.toInt ∧ b.toInt ≤ ha) (hn : a.toInt = n) (h0 : n ≤ 0) (h1 : -2147483648 ≤ ha * n) (h2 : la * n < 2147483648) : (a * b).toInt = b.toInt * n := by
  rw [Int32.mul_comm]; exact x_imulN p hn h0 h1 h2
theorem x_imul' {a b : Int32} {la ha n : Int} (p : la ≤ b.toInt ∧ b.toInt ≤ ha) (hn : a.toInt = n) (h0 : 0 ≤ n) (h1 : -2147483648 ≤ la * n) (h2 : ha * n < 2147483648) : (a * b).toInt = b.toInt * n := by
  rw [Int32.mul_comm]; exact x_imul p hn h0 h1 h2
theorem x_ladd {a b : Int64} {la ha lb hb : Int} (p : la ≤ a.toInt ∧ a.toInt ≤ ha) (q : lb ≤ b.toInt ∧ b.toInt ≤ hb) (h1 : -9223372036854775808 ≤ la + lb) (h2 : ha + hb < 9223372036854775808) : (a + b).toInt = a.toInt + b.toInt := by have r := c_ladd a b; have s := rng64 (a + b); omega
theorem x_lsub {a b : Int64} {la ha lb hb : Int} (p : la ≤ a.toInt ∧ a.toInt ≤ ha) (q : lb ≤ b.toInt ∧ b.toInt ≤ hb) (h1 : -9223372036854775808 ≤ la - hb) (h2 : ha - lb < 9223372036854775808) : (a - b).toInt = a.toInt - b.toInt := by have r := c_lsub a b; have s := rng64 (a - b); omega
theorem x_lmask {a m : Int64} {P : Int} (k : Nat) (hk : k ≤ 64 - 1) (hm : m.toBitVec.toNat = 2 ^ k - 1) (hP : ((2 ^ k : Nat) : Int) = P) : (a &&& m).toInt = a.toInt % P := f_lmask a m k P hk hm hP
theorem x_lneg {a : Int64} {la ha : Int} (p : la ≤ a.toInt ∧ a.toInt ≤ ha) (h1 : -9223372036854775808 < la) : (-a).toInt = -a.toInt := by have r := c_lneg a; have s := rng64 (-a); have t := rng64 a; omega
theorem x_lshr {x : Int64} {q : Int32} {P : Int} (k : Nat) (hk : q.toBitVec.toNat % 64 = k) (hP : ((2 ^ k : Nat) : Int) = P) : (x >>> (q &&& 0x3f).toInt64).toInt = x.toInt / P := f_lshr x q k P hk hP
theorem x_lushr {x : Int64} {q : Int32} {P la ha : Int} (p : la ≤ x.toInt ∧ x.toInt ≤ ha) (h1 : 0 ≤ la) (k : Nat) (hk : q.toBitVec.toNat % 64 = k) (h0 : 0 < k) (hP : ((2 ^ k : Nat) : Int) = P) : (ushrL x q).toInt = x.toInt / P := by
  have r := f_lushr x q k P hk h0 hP
  have s := rng64 x
  rw [r]; congr 1; omega
theorem x_lmul {a b : Int64} {la ha n : Int} (p : la ≤ a.toInt ∧ a.toInt ≤ ha) (hn : b.toInt = n) (h0 : 0 ≤ n) (h1 : -9223372036854775808 ≤ la * n) (h2 : ha * n < 9223372036854775808) : (a * b).toInt = a.toInt * n := by
  have r := f_lmul a b n hn
  have s := rng64 (a * b)
  have m1 := Int.mul_le_mul_of_nonneg_right p.1 h0
  have m2 := Int.mul_le_mul_of_nonneg_right p.2 h0
  generalize a.toInt * n = z at *
  generalize la * n = z1 at *
  generalize ha * n = z2 at *
  omega
theorem x_lmulN {a b : Int64} {la ha n : Int} (p : la ≤ a.toInt ∧ a.toInt ≤ ha) (hn : b.toInt = n) (h0 : n ≤ 0) (h1 : -9223372036854775808 ≤ ha * n) (h2 : la * n < 9223372036854775808) : (a * b).toInt = a.toInt * n := by
  have r := f_lmul a b n hn
  have s := rng64 (a * b)
  have m1 := Int.mul_le_mul_of_nonpos_right p.1 h0
  have m2 := Int.mul_le_mul_of_nonpos_right p.2 h0
  generalize a.toInt * n = z at *
  generalize la * n = z1 at *
  generalize ha * n = z2 at *
  omega
theorem x_lmulN' {a b : Int64} {la ha n : Int} (p : la ≤ b.toInt ∧ b.toInt ≤ ha) (hn : a.toInt = n) (h0 : n ≤ 0) (h1 : -9223372036854775808 ≤ ha * n) (h2 : la * n < 9223372036854775808) : (a * b).toInt = b.toInt * n := by
  rw [Int64.mul_comm]; exact x_lmulN p hn h0 h1 h2
theorem x_lmul' {a b : Int64} {la ha n : Int} (p : la ≤ b.toInt ∧ b.toInt ≤ ha) (hn : a.toInt = n) (h0 : 0 ≤ n) (h1 : -9223372036854775808 ≤ la * n) (h2 : ha * n < 9223372036854775808) : (a * b).toInt = b.toInt * n := by
  rw [Int64.mul_comm]; exact x_lmul p hn h0 h1 h2
theorem ib_add {a b la ha lb hb lo hi : Int} (p : la ≤ a ∧ a ≤ ha) (q : lb ≤ b ∧ b ≤ hb) (h1 : lo ≤ la + lb) (h2 : ha + hb ≤ hi) : lo ≤ a + b ∧ a + b ≤ hi := by omega
theorem ib_sub {a b la ha lb hb lo hi : Int} (p : la ≤ a ∧ a ≤ ha) (q : lb ≤ b ∧ b ≤ hb) (h1 : lo ≤ la - hb) (h2 : ha - lb ≤ hi) : lo ≤ a - b ∧ a - b ≤ hi := by omega
theorem ib_neg {a la ha lo hi : Int} (p : la ≤ a ∧ a ≤ ha) (h1 : lo ≤ -ha) (h2 : -la ≤ hi) : lo ≤ -a ∧ -a ≤ hi := by omega
theorem ib_mod {a lo hi : Int} (P : Int) (hP : 0 < P) (h1 : lo ≤ 0) (h2 : P - 1 ≤ hi) : lo ≤ a % P ∧ a % P ≤ hi := by have := Int.emod_nonneg a (Int.ne_of_gt hP); have := Int.emod_lt_of_pos a hP; omega
theorem ib_div {a la ha lo hi : Int} (P : Int) (hP : 0 < P) (p : la ≤ a ∧ a ≤ ha) (h1 : lo ≤ la / P) (h2 : ha / P ≤ hi) : lo ≤ a / P ∧ a / P ≤ hi := ⟨Int.le_trans h1 (Int.ediv_le_ediv hP p.1), Int.le_trans (Int.ediv_le_ediv hP p.2) h2⟩
theorem ib_mul {a la ha lo hi : Int} (n : Int) (h0 : 0 ≤ n) (p : la ≤ a ∧ a ≤ ha) (h1 : lo ≤ la * n) (h2 : ha * n ≤ hi) : lo ≤ a * n ∧ a * n ≤ hi := ⟨Int.le_trans h1 (Int.mul_le_mul_of_nonneg_right p.1 h0), Int.le_trans (Int.mul_le_mul_of_nonneg_right p.2 h0) h2⟩
theorem ib_mulN {a la ha lo hi : Int} (n : Int) (h0 : n ≤ 0) (p : la ≤ a ∧ a ≤ ha) (h1 : lo ≤ ha * n) (h2 : la * n ≤ hi) : lo ≤ a * n ∧ a * n ≤ hi := ⟨Int.le_trans h1 (Int.mul_le_mul_of_nonpos_right p.2 h0), Int.le_trans (Int.mul_le_mul_of_nonpos_right p.1 h0) h2⟩
theorem x_idiv {a b : Int32} {la ha d : Int} (p : la ≤ a.toInt ∧ a.toInt ≤ ha) (hy : b.toInt = d) (h0 : 0 ≤ la) (hd : b ≠ -1) : (a / b).toInt = a.toInt / d := (c_idiv a b d hy hd).1 (Int.le_trans h0 p.1)
theorem x_irem {a b : Int32} {la ha d : Int} (p : la ≤ a.toInt ∧ a.toInt ≤ ha) (hy : b.toInt = d) (h0 : 0 ≤ la) : (a % b).toInt = a.toInt % d := (c_irem a b d hy).1 (Int.le_trans h0 p.1)
theorem x_iremV {a b : Int32} {la ha lb hb : Int} (p : la ≤ a.toInt ∧ a.toInt ≤ ha) (q : lb ≤ b.toInt ∧ b.toInt ≤ hb) (h0 : 0 ≤ la) (h1 : 0 < lb) : 0 ≤ (a % b).toInt ∧ (a % b).toInt < b.toInt := by
  have r := (c_iremV a b).1 (Int.le_trans h0 p.1) (Int.lt_of_lt_of_le h1 q.1)
  exact ⟨r.1, r.2.1⟩
theorem ib_rem {r y lb hb hi : Int} (x : 0 ≤ r ∧ r < y) (q : lb ≤ y ∧ y ≤ hb) (h : hb - 1 ≤ hi) : 0 ≤ r ∧ r ≤ hi := by omega
theorem rb32 (x : Int32) : -2147483648 ≤ x.toInt ∧ x.toInt ≤ 2147483647 := by have := rng32 x; omega
theorem rb64 (x : Int64) : -9223372036854775808 ≤ x.toInt ∧ x.toInt ≤ 9223372036854775807 := by have := rng64 x; omega
theorem x_l2i {x : Int64} {la ha : Int} (p : la ≤ x.toInt ∧ x.toInt ≤ ha) (h1 : -2147483648 ≤ la) (h2 : ha < 2147483648) : x.toInt32.toInt = x.toInt := by have r := c_l2i x; have s := rng32 x.toInt32; omega
end Kit
end Jvm.OwnK
namespace Jvm.Pilot.@@N@@
open Jvm Jvm.ClassFile Sem Op Lib Jvm.Free Jvm.Stand Jvm.LawKit Jvm.RoadKit Bundle Jvm.OwnK Jvm.Pilot.@@N@@.Jvm.D
def fV (V : Int) : Int := V - V / 115792089237316195423570985008687907853269984665640564039457584007913129639936 * 115792089210356248762697446949407573530086143415290314195533631308867097853951
theorem fV_same {V : Int} (h0 : 0 ≤ V) (h1 : V < 115792089237316195423570985008687907853269984665640564039457584007913129639936) : fV V = V := by unfold fV; omega
def A8 (g0 g1 g2 g3 g4 g5 g6 g7 : Int64) : Nat → Int64 := (updF (updF (updF (updF (updF (updF (updF (updF (fun _ => 0) 0 g0) 1 g1) 2 g2) 3 g3) 4 g4) 5 g5) 6 g6) 7 g7)
theorem all8 {P : Nat → Prop} (h0 : P 0) (h1 : P 1) (h2 : P 2) (h3 : P 3) (h4 : P 4) (h5 : P 5) (h6 : P 6) (h7 : P 7) : ∀ i, i < 8 → P i
  | 0, _ => h0
  | 1, _ => h1
  | 2, _ => h2
  | 3, _ => h3
  | 4, _ => h4
  | 5, _ => h5
  | 6, _ => h6
  | 7, _ => h7
  | n + 8, h => absurd h (by omega)
theorem nstep {c0 c1 c2 c3 c4 c5 c6 c7 d1 d2 d3 d4 d5 d6 d7 tp : Int} (e1 : d1 = c1 + c0 / 4294967296) (e2 : d2 = c2 + d1 / 4294967296) (e3 : d3 = c3 + d2 / 4294967296) (e4 : d4 = c4 + d3 / 4294967296) (e5 : d5 = c5 + d4 / 4294967296) (e6 : d6 = c6 + d5 / 4294967296) (e7 : d7 = c7 + d6 / 4294967296) (et : tp = d7 / 4294967296) : tp = (c0 + c1 * 4294967296 + c2 * 18446744073709551616 + c3 * 79228162514264337593543950336 + c4 * 340282366920938463463374607431768211456 + c5 * 1461501637330902918203684832716283019655932542976 + c6 * 6277101735386680763835789423207666416102355444464034512896 + c7 * 26959946667150639794667015087019630673637144422540572481103610249216) / 115792089237316195423570985008687907853269984665640564039457584007913129639936 ∧ (c0 % 4294967296 + tp) + (d1 % 4294967296) * 4294967296 + (d2 % 4294967296) * 18446744073709551616 + (d3 % 4294967296 - tp) * 79228162514264337593543950336 + (d4 % 4294967296) * 340282366920938463463374607431768211456 + (d5 % 4294967296) * 1461501637330902918203684832716283019655932542976 + (d6 % 4294967296 - tp) * 6277101735386680763835789423207666416102355444464034512896 + (d7 % 4294967296 + tp) * 26959946667150639794667015087019630673637144422540572481103610249216 = (c0 + c1 * 4294967296 + c2 * 18446744073709551616 + c3 * 79228162514264337593543950336 + c4 * 340282366920938463463374607431768211456 + c5 * 1461501637330902918203684832716283019655932542976 + c6 * 6277101735386680763835789423207666416102355444464034512896 + c7 * 26959946667150639794667015087019630673637144422540572481103610249216) - tp * 115792089210356248762697446949407573530086143415290314195533631308867097853951 := by
  omega
theorem nb3 {V V' t : Int} (ht : t = V / 115792089237316195423570985008687907853269984665640564039457584007913129639936) (hV : V' = V - t * 115792089210356248762697446949407573530086143415290314195533631308867097853951) (h1 : -115792089237316195423570985008687907853269984665640564039457584007913129639936 ≤ V) (h2 : V < 231584178474632390847141970017375815706539969331281128078915168015826259279872) : -53919893334301279589334030174039261347274288845081144962207220498432 ≤ V' ∧ V' < 115792089291236088757872264598021938027309246012914852884538728970120350138368 := by omega
theorem nb2 {V V' t : Int} (ht : t = V / 115792089237316195423570985008687907853269984665640564039457584007913129639936) (hV : V' = V - t * 115792089210356248762697446949407573530086143415290314195533631308867097853951) (h1 : -53919893334301279589334030174039261347274288845081144962207220498432 ≤ V) (h2 : V < 115792089291236088757872264598021938027309246012914852884538728970120350138368) : 0 ≤ V' ∧ V' < 115792089237316195423570985008687907853269984665640564039457584007913129639936 := by omega
theorem nb1 {V t : Int} (ht : t = V / 115792089237316195423570985008687907853269984665640564039457584007913129639936) (h1 : 0 ≤ V) (h2 : V < 115792089237316195423570985008687907853269984665640564039457584007913129639936) : t = 0 := by omega
theorem nb0 {V t : Int} (ht : t = V / 115792089237316195423570985008687907853269984665640564039457584007913129639936) (hz : t = 0) : 0 ≤ V ∧ V < 115792089237316195423570985008687907853269984665640564039457584007913129639936 := by omega
theorem nz_a {a b c : Int} (h : a = b + c) (hb : 0 ≤ b ∧ b ≤ 4294967295) (hc : c = 0) : 0 ≤ a ∧ a < 4294967296 := by omega
theorem nz_s {a b c : Int} (h : a = b - c) (hb : 0 ≤ b ∧ b ≤ 4294967295) (hc : c = 0) : 0 ≤ a ∧ a < 4294967296 := by omega
theorem nz_i {b : Int} (hb : 0 ≤ b ∧ b ≤ 4294967295) : 0 ≤ b ∧ b < 4294967296 := by omega
theorem nw {a lo hi : Int} (b : lo ≤ a ∧ a ≤ hi) (h1 : -8589934592 ≤ lo) (h2 : hi ≤ 8589934592) : -8589934592 ≤ a ∧ a ≤ 8589934592 := by omega
theorem vb {x0 x1 x2 x3 x4 x5 x6 x7 : Int} (h0 : 0 ≤ x0 ∧ x0 < 4294967296) (h1 : 0 ≤ x1 ∧ x1 < 4294967296) (h2 : 0 ≤ x2 ∧ x2 < 4294967296) (h3 : 0 ≤ x3 ∧ x3 < 4294967296) (h4 : 0 ≤ x4 ∧ x4 < 4294967296) (h5 : 0 ≤ x5 ∧ x5 < 4294967296) (h6 : 0 ≤ x6 ∧ x6 < 4294967296) (h7 : 0 ≤ x7 ∧ x7 < 4294967296) : 0 ≤ x0 + x1 * 4294967296 + x2 * 18446744073709551616 + x3 * 79228162514264337593543950336 + x4 * 340282366920938463463374607431768211456 + x5 * 1461501637330902918203684832716283019655932542976 + x6 * 6277101735386680763835789423207666416102355444464034512896 + x7 * 26959946667150639794667015087019630673637144422540572481103610249216 ∧ x0 + x1 * 4294967296 + x2 * 18446744073709551616 + x3 * 79228162514264337593543950336 + x4 * 340282366920938463463374607431768211456 + x5 * 1461501637330902918203684832716283019655932542976 + x6 * 6277101735386680763835789423207666416102355444464034512896 + x7 * 26959946667150639794667015087019630673637144422540572481103610249216 < 115792089237316195423570985008687907853269984665640564039457584007913129639936 := by omega
theorem vadd {x0 x1 x2 x3 x4 x5 x6 x7 y0 y1 y2 y3 y4 y5 y6 y7 : Int} : (x0 + y0) + (x1 + y1) * 4294967296 + (x2 + y2) * 18446744073709551616 + (x3 + y3) * 79228162514264337593543950336 + (x4 + y4) * 340282366920938463463374607431768211456 + (x5 + y5) * 1461501637330902918203684832716283019655932542976 + (x6 + y6) * 6277101735386680763835789423207666416102355444464034512896 + (x7 + y7) * 26959946667150639794667015087019630673637144422540572481103610249216 = (x0 + x1 * 4294967296 + x2 * 18446744073709551616 + x3 * 79228162514264337593543950336 + x4 * 340282366920938463463374607431768211456 + x5 * 1461501637330902918203684832716283019655932542976 + x6 * 6277101735386680763835789423207666416102355444464034512896 + x7 * 26959946667150639794667015087019630673637144422540572481103610249216) + (y0 + y1 * 4294967296 + y2 * 18446744073709551616 + y3 * 79228162514264337593543950336 + y4 * 340282366920938463463374607431768211456 + y5 * 1461501637330902918203684832716283019655932542976 + y6 * 6277101735386680763835789423207666416102355444464034512896 + y7 * 26959946667150639794667015087019630673637144422540572481103610249216) := by omega
theorem vneg {x0 x1 x2 x3 x4 x5 x6 x7 : Int} : (-x0) + (-x1) * 4294967296 + (-x2) * 18446744073709551616 + (-x3) * 79228162514264337593543950336 + (-x4) * 340282366920938463463374607431768211456 + (-x5) * 1461501637330902918203684832716283019655932542976 + (-x6) * 6277101735386680763835789423207666416102355444464034512896 + (-x7) * 26959946667150639794667015087019630673637144422540572481103610249216 = -(x0 + x1 * 4294967296 + x2 * 18446744073709551616 + x3 * 79228162514264337593543950336 + x4 * 340282366920938463463374607431768211456 + x5 * 1461501637330902918203684832716283019655932542976 + x6 * 6277101735386680763835789423207666416102355444464034512896 + x7 * 26959946667150639794667015087019630673637144422540572481103610249216) := by omega
theorem va {x y : Int} (h : 0 ≤ x ∧ x < 115792089237316195423570985008687907853269984665640564039457584007913129639936) (k : 0 ≤ y ∧ y < 115792089237316195423570985008687907853269984665640564039457584007913129639936) : -115792089237316195423570985008687907853269984665640564039457584007913129639936 ≤ x + y ∧ x + y < 231584178474632390847141970017375815706539969331281128078915168015826259279872 := by omega
theorem vn {x : Int} (h : 0 ≤ x ∧ x < 115792089237316195423570985008687907853269984665640564039457584007913129639936) : -115792089237316195423570985008687907853269984665640564039457584007913129639936 ≤ -x ∧ -x < 231584178474632390847141970017375815706539969331281128078915168015826259279872 := by omega
theorem bs {a x y : Int} (h : a = x + y) (hx : 0 ≤ x ∧ x < 4294967296) (hy : 0 ≤ y ∧ y < 4294967296) : -8589934592 ≤ a ∧ a ≤ 8589934592 := by omega
theorem bn {a x : Int} (h : a = -x) (hx : 0 ≤ x ∧ x < 4294967296) : -8589934592 ≤ a ∧ a ≤ 8589934592 := by omega
theorem r01 {x : Int} (h : 0 ≤ x ∧ x < 4294967296) : 0 ≤ x ∧ x ≤ 4294967295 := by omega
theorem sadd {x y : Int64} (h : 0 ≤ x.toInt ∧ x.toInt < 4294967296) (k : 0 ≤ y.toInt ∧ y.toInt < 4294967296) : (x + y).toInt = x.toInt + y.toInt := x_ladd (r01 h) (r01 k) (by decide) (by decide)
theorem sneg {x : Int64} (h : 0 ≤ x.toInt ∧ x.toInt < 4294967296) : (-x).toInt = -x.toInt := x_lneg (r01 h) (by decide)
def A9 (g0 g1 g2 g3 g4 g5 g6 g7 g8 : Int64) : Nat → Int64 := (updF (updF (updF (updF (updF (updF (updF (updF (updF (fun _ => 0) 0 g0) 1 g1) 2 g2) 3 g3) 4 g4) 5 g5) 6 g6) 7 g7) 8 g8)
theorem f3 {S : Int} (h0 : 0 ≤ S) (h1 : S < 231584178474632390847141970017375815706539969331281128078915168015826259279872) : fV (fV (fV S)) = S ∨ fV (fV (fV S)) = S - 115792089210356248762697446949407573530086143415290314195533631308867097853951 ∨ fV (fV (fV S)) = S - 231584178420712497525394893898815147060172286830580628391067262617734195707902 := by
  unfold fV; omega
theorem dig8 {x0 x1 x2 x3 x4 x5 x6 x7 y0 y1 y2 y3 y4 y5 y6 y7 : Int} (hx : (0 ≤ x0 ∧ x0 < 4294967296) ∧ (0 ≤ x1 ∧ x1 < 4294967296) ∧ (0 ≤ x2 ∧ x2 < 4294967296) ∧ (0 ≤ x3 ∧ x3 < 4294967296) ∧ (0 ≤ x4 ∧ x4 < 4294967296) ∧ (0 ≤ x5 ∧ x5 < 4294967296) ∧ (0 ≤ x6 ∧ x6 < 4294967296) ∧ (0 ≤ x7 ∧ x7 < 4294967296)) (hy : (0 ≤ y0 ∧ y0 < 4294967296) ∧ (0 ≤ y1 ∧ y1 < 4294967296) ∧ (0 ≤ y2 ∧ y2 < 4294967296) ∧ (0 ≤ y3 ∧ y3 < 4294967296) ∧ (0 ≤ y4 ∧ y4 < 4294967296) ∧ (0 ≤ y5 ∧ y5 < 4294967296) ∧ (0 ≤ y6 ∧ y6 < 4294967296) ∧ (0 ≤ y7 ∧ y7 < 4294967296)) (h : x0 + x1 * 4294967296 + x2 * 18446744073709551616 + x3 * 79228162514264337593543950336 + x4 * 340282366920938463463374607431768211456 + x5 * 1461501637330902918203684832716283019655932542976 + x6 * 6277101735386680763835789423207666416102355444464034512896 + x7 * 26959946667150639794667015087019630673637144422540572481103610249216 = y0 + y1 * 4294967296 + y2 * 18446744073709551616 + y3 * 79228162514264337593543950336 + y4 * 340282366920938463463374607431768211456 + y5 * 1461501637330902918203684832716283019655932542976 + y6 * 6277101735386680763835789423207666416102355444464034512896 + y7 * 26959946667150639794667015087019630673637144422540572481103610249216) : x0 = y0 ∧ x1 = y1 ∧ x2 = y2 ∧ x3 = y3 ∧ x4 = y4 ∧ x5 = y5 ∧ x6 = y6 ∧ x7 = y7 := by omega
theorem dig9 {x0 x1 x2 x3 x4 x5 x6 x7 x8 y0 y1 y2 y3 y4 y5 y6 y7 y8 : Int} (hx : (0 ≤ x0 ∧ x0 < 4294967296) ∧ (0 ≤ x1 ∧ x1 < 4294967296) ∧ (0 ≤ x2 ∧ x2 < 4294967296) ∧ (0 ≤ x3 ∧ x3 < 4294967296) ∧ (0 ≤ x4 ∧ x4 < 4294967296) ∧ (0 ≤ x5 ∧ x5 < 4294967296) ∧ (0 ≤ x6 ∧ x6 < 4294967296) ∧ (0 ≤ x7 ∧ x7 < 4294967296)) (hy : (0 ≤ y0 ∧ y0 < 4294967296) ∧ (0 ≤ y1 ∧ y1 < 4294967296) ∧ (0 ≤ y2 ∧ y2 < 4294967296) ∧ (0 ≤ y3 ∧ y3 < 4294967296) ∧ (0 ≤ y4 ∧ y4 < 4294967296) ∧ (0 ≤ y5 ∧ y5 < 4294967296) ∧ (0 ≤ y6 ∧ y6 < 4294967296) ∧ (0 ≤ y7 ∧ y7 < 4294967296)) (h : x0 + x1 * 4294967296 + x2 * 18446744073709551616 + x3 * 79228162514264337593543950336 + x4 * 340282366920938463463374607431768211456 + x5 * 1461501637330902918203684832716283019655932542976 + x6 * 6277101735386680763835789423207666416102355444464034512896 + x7 * 26959946667150639794667015087019630673637144422540572481103610249216 + x8 * 115792089237316195423570985008687907853269984665640564039457584007913129639936 = y0 + y1 * 4294967296 + y2 * 18446744073709551616 + y3 * 79228162514264337593543950336 + y4 * 340282366920938463463374607431768211456 + y5 * 1461501637330902918203684832716283019655932542976 + y6 * 6277101735386680763835789423207666416102355444464034512896 + y7 * 26959946667150639794667015087019630673637144422540572481103610249216 + y8 * 115792089237316195423570985008687907853269984665640564039457584007913129639936) : (x0 = y0 ∧ x1 = y1 ∧ x2 = y2 ∧ x3 = y3 ∧ x4 = y4 ∧ x5 = y5 ∧ x6 = y6 ∧ x7 = y7) ∧ x8 = y8 := by omega
theorem vs0 {x y : Int} (h : 0 ≤ x ∧ x < 115792089237316195423570985008687907853269984665640564039457584007913129639936) (k : 0 ≤ y ∧ y < 115792089237316195423570985008687907853269984665640564039457584007913129639936) : 0 ≤ x + y ∧ x + y < 231584178474632390847141970017375815706539969331281128078915168015826259279872 := by omega
theorem l0 {A B G Pp s t : Int} (vs : s = A + B * 1) (vt : t = G + Pp * 0) (e : G = A + B) : s = t := by omega
theorem l1 {A B G Pp s t : Int} (vs : s = A + B * 1) (vt : t = G + Pp * 1) (hP : Pp = 115792089210356248762697446949407573530086143415290314195533631308867097853951) (e : G = A + B - 115792089210356248762697446949407573530086143415290314195533631308867097853951) : s = t := by omega
theorem l2 {A B G Pp s t : Int} (vs : s = A + B * 1) (vt : t = G + Pp * 2) (hP : Pp = 115792089210356248762697446949407573530086143415290314195533631308867097853951) (e : G = A + B - 231584178420712497525394893898815147060172286830580628391067262617734195707902) : s = t := by omega
theorem ne_new' {a b n : Nat} (e : n ≤ a) (h : b < n) : b ≠ a := by omega
theorem sstep0 {x0 x1 x2 x3 x4 x5 x6 x7 y0 y1 y2 y3 y4 y5 y6 y7 t0 t1 t2 t3 t4 t5 t6 t7 : Int} (e0 : t0 = x0 + y0 * 0) (e1 : t1 = x1 + y1 * 0 + t0 / 4294967296) (e2 : t2 = x2 + y2 * 0 + t1 / 4294967296) (e3 : t3 = x3 + y3 * 0 + t2 / 4294967296) (e4 : t4 = x4 + y4 * 0 + t3 / 4294967296) (e5 : t5 = x5 + y5 * 0 + t4 / 4294967296) (e6 : t6 = x6 + y6 * 0 + t5 / 4294967296) (e7 : t7 = x7 + y7 * 0 + t6 / 4294967296) : t0 % 4294967296 + t1 % 4294967296 * 4294967296 + t2 % 4294967296 * 18446744073709551616 + t3 % 4294967296 * 79228162514264337593543950336 + t4 % 4294967296 * 340282366920938463463374607431768211456 + t5 % 4294967296 * 1461501637330902918203684832716283019655932542976 + t6 % 4294967296 * 6277101735386680763835789423207666416102355444464034512896 + t7 % 4294967296 * 26959946667150639794667015087019630673637144422540572481103610249216 + t7 / 4294967296 * 115792089237316195423570985008687907853269984665640564039457584007913129639936 = (x0 + x1 * 4294967296 + x2 * 18446744073709551616 + x3 * 79228162514264337593543950336 + x4 * 340282366920938463463374607431768211456 + x5 * 1461501637330902918203684832716283019655932542976 + x6 * 6277101735386680763835789423207666416102355444464034512896 + x7 * 26959946667150639794667015087019630673637144422540572481103610249216) + (y0 + y1 * 4294967296 + y2 * 18446744073709551616 + y3 * 79228162514264337593543950336 + y4 * 340282366920938463463374607431768211456 + y5 * 1461501637330902918203684832716283019655932542976 + y6 * 6277101735386680763835789423207666416102355444464034512896 + y7 * 26959946667150639794667015087019630673637144422540572481103610249216) * 0 := by omega
theorem sstep1 {x0 x1 x2 x3 x4 x5 x6 x7 y0 y1 y2 y3 y4 y5 y6 y7 t0 t1 t2 t3 t4 t5 t6 t7 : Int} (e0 : t0 = x0 + y0 * 1) (e1 : t1 = x1 + y1 * 1 + t0 / 4294967296) (e2 : t2 = x2 + y2 * 1 + t1 / 4294967296) (e3 : t3 = x3 + y3 * 1 + t2 / 4294967296) (e4 : t4 = x4 + y4 * 1 + t3 / 4294967296) (e5 : t5 = x5 + y5 * 1 + t4 / 4294967296) (e6 : t6 = x6 + y6 * 1 + t5 / 4294967296) (e7 : t7 = x7 + y7 * 1 + t6 / 4294967296) : t0 % 4294967296 + t1 % 4294967296 * 4294967296 + t2 % 4294967296 * 18446744073709551616 + t3 % 4294967296 * 79228162514264337593543950336 + t4 % 4294967296 * 340282366920938463463374607431768211456 + t5 % 4294967296 * 1461501637330902918203684832716283019655932542976 + t6 % 4294967296 * 6277101735386680763835789423207666416102355444464034512896 + t7 % 4294967296 * 26959946667150639794667015087019630673637144422540572481103610249216 + t7 / 4294967296 * 115792089237316195423570985008687907853269984665640564039457584007913129639936 = (x0 + x1 * 4294967296 + x2 * 18446744073709551616 + x3 * 79228162514264337593543950336 + x4 * 340282366920938463463374607431768211456 + x5 * 1461501637330902918203684832716283019655932542976 + x6 * 6277101735386680763835789423207666416102355444464034512896 + x7 * 26959946667150639794667015087019630673637144422540572481103610249216) + (y0 + y1 * 4294967296 + y2 * 18446744073709551616 + y3 * 79228162514264337593543950336 + y4 * 340282366920938463463374607431768211456 + y5 * 1461501637330902918203684832716283019655932542976 + y6 * 6277101735386680763835789423207666416102355444464034512896 + y7 * 26959946667150639794667015087019630673637144422540572481103610249216) * 1 := by omega
theorem sstep2 {x0 x1 x2 x3 x4 x5 x6 x7 y0 y1 y2 y3 y4 y5 y6 y7 t0 t1 t2 t3 t4 t5 t6 t7 : Int} (e0 : t0 = x0 + y0 * 2) (e1 : t1 = x1 + y1 * 2 + t0 / 4294967296) (e2 : t2 = x2 + y2 * 2 + t1 / 4294967296) (e3 : t3 = x3 + y3 * 2 + t2 / 4294967296) (e4 : t4 = x4 + y4 * 2 + t3 / 4294967296) (e5 : t5 = x5 + y5 * 2 + t4 / 4294967296) (e6 : t6 = x6 + y6 * 2 + t5 / 4294967296) (e7 : t7 = x7 + y7 * 2 + t6 / 4294967296) : t0 % 4294967296 + t1 % 4294967296 * 4294967296 + t2 % 4294967296 * 18446744073709551616 + t3 % 4294967296 * 79228162514264337593543950336 + t4 % 4294967296 * 340282366920938463463374607431768211456 + t5 % 4294967296 * 1461501637330902918203684832716283019655932542976 + t6 % 4294967296 * 6277101735386680763835789423207666416102355444464034512896 + t7 % 4294967296 * 26959946667150639794667015087019630673637144422540572481103610249216 + t7 / 4294967296 * 115792089237316195423570985008687907853269984665640564039457584007913129639936 = (x0 + x1 * 4294967296 + x2 * 18446744073709551616 + x3 * 79228162514264337593543950336 + x4 * 340282366920938463463374607431768211456 + x5 * 1461501637330902918203684832716283019655932542976 + x6 * 6277101735386680763835789423207666416102355444464034512896 + x7 * 26959946667150639794667015087019630673637144422540572481103610249216) + (y0 + y1 * 4294967296 + y2 * 18446744073709551616 + y3 * 79228162514264337593543950336 + y4 * 340282366920938463463374607431768211456 + y5 * 1461501637330902918203684832716283019655932542976 + y6 * 6277101735386680763835789423207666416102355444464034512896 + y7 * 26959946667150639794667015087019630673637144422540572481103610249216) * 2 := by omega
theorem all9 {P : Nat → Prop} (h0 : P 0) (h1 : P 1) (h2 : P 2) (h3 : P 3) (h4 : P 4) (h5 : P 5) (h6 : P 6) (h7 : P 7) (h8 : P 8) : ∀ i, i < 9 → P i
  | 0, _ => h0
  | 1, _ => h1
  | 2, _ => h2
  | 3, _ => h3
  | 4, _ => h4
  | 5, _ => h5
  | 6, _ => h6
  | 7, _ => h7
  | 8, _ => h8
  | n + 9, h => absurd h (by omega)
theorem d2_0 : decode prog_24_method_14_code 0 = .ok (.lconst 1, 1) := by decide +kernel
theorem d2_1 : decode prog_24_method_14_code 1 = .ok (.lstore 17, 2) := by decide +kernel
theorem d2_3 : decode prog_24_method_14_code 3 = .ok (.lload 17, 2) := by decide +kernel
theorem d2_5 : decode prog_24_method_14_code 5 = .ok (.lconst 0, 1) := by decide +kernel
theorem d2_6 : decode prog_24_method_14_code 6 = .ok (.lcmp, 1) := by decide +kernel
theorem d2_7 : decode prog_24_method_14_code 7 = .ok (.ifCond .eq 165, 3) := by decide +kernel
theorem d2_10 : decode prog_24_method_14_code 10 = .ok (.lload_n 2, 1) := by decide +kernel
theorem d2_11 : decode prog_24_method_14_code 11 = .ok (.lload_n 0, 1) := by decide +kernel
theorem d2_12 : decode prog_24_method_14_code 12 = .ok (.bipush 32, 2) := by decide +kernel
theorem d2_14 : decode prog_24_method_14_code 14 = .ok (.lshr, 1) := by decide +kernel
theorem d2_15 : decode prog_24_method_14_code 15 = .ok (.ladd, 1) := by decide +kernel
theorem d2_16 : decode prog_24_method_14_code 16 = .ok (.lstore_n 2, 1) := by decide +kernel
theorem d2_17 : decode prog_24_method_14_code 17 = .ok (.lload_n 0, 1) := by decide +kernel
theorem d2_18 : decode prog_24_method_14_code 18 = .ok (.ldc2_w 38, 3) := by decide +kernel
theorem d2_21 : decode prog_24_method_14_code 21 = .ok (.land, 1) := by decide +kernel
theorem d2_22 : decode prog_24_method_14_code 22 = .ok (.lstore_n 0, 1) := by decide +kernel
theorem d2_23 : decode prog_24_method_14_code 23 = .ok (.lload 4, 2) := by decide +kernel
theorem d2_25 : decode prog_24_method_14_code 25 = .ok (.lload_n 2, 1) := by decide +kernel
theorem d2_26 : decode prog_24_method_14_code 26 = .ok (.bipush 32, 2) := by decide +kernel
theorem d2_28 : decode prog_24_method_14_code 28 = .ok (.lshr, 1) := by decide +kernel
theorem d2_29 : decode prog_24_method_14_code 29 = .ok (.ladd, 1) := by decide +kernel
theorem d2_30 : decode prog_24_method_14_code 30 = .ok (.lstore 4, 2) := by decide +kernel
theorem d2_32 : decode prog_24_method_14_code 32 = .ok (.lload_n 2, 1) := by decide +kernel
theorem d2_33 : decode prog_24_method_14_code 33 = .ok (.ldc2_w 38, 3) := by decide +kernel
theorem d2_36 : decode prog_24_method_14_code 36 = .ok (.land, 1) := by decide +kernel
theorem d2_37 : decode prog_24_method_14_code 37 = .ok (.lstore_n 2, 1) := by decide +kernel
theorem d2_38 : decode prog_24_method_14_code 38 = .ok (.lload 6, 2) := by decide +kernel
theorem d2_40 : decode prog_24_method_14_code 40 = .ok (.lload 4, 2) := by decide +kernel
theorem d2_42 : decode prog_24_method_14_code 42 = .ok (.bipush 32, 2) := by decide +kernel
theorem d2_44 : decode prog_24_method_14_code 44 = .ok (.lshr, 1) := by decide +kernel
theorem d2_45 : decode prog_24_method_14_code 45 = .ok (.ladd, 1) := by decide +kernel
theorem d2_46 : decode prog_24_method_14_code 46 = .ok (.lstore 6, 2) := by decide +kernel
theorem d2_48 : decode prog_24_method_14_code 48 = .ok (.lload 4, 2) := by decide +kernel
theorem d2_50 : decode prog_24_method_14_code 50 = .ok (.ldc2_w 38, 3) := by decide +kernel
theorem d2_53 : decode prog_24_method_14_code 53 = .ok (.land, 1) := by decide +kernel
theorem d2_54 : decode prog_24_method_14_code 54 = .ok (.lstore 4, 2) := by decide +kernel
theorem d2_56 : decode prog_24_method_14_code 56 = .ok (.lload 8, 2) := by decide +kernel
theorem d2_58 : decode prog_24_method_14_code 58 = .ok (.lload 6, 2) := by decide +kernel
theorem d2_60 : decode prog_24_method_14_code 60 = .ok (.bipush 32, 2) := by decide +kernel
theorem d2_62 : decode prog_24_method_14_code 62 = .ok (.lshr, 1) := by decide +kernel
theorem d2_63 : decode prog_24_method_14_code 63 = .ok (.ladd, 1) := by decide +kernel
theorem d2_64 : decode prog_24_method_14_code 64 = .ok (.lstore 8, 2) := by decide +kernel
theorem d2_66 : decode prog_24_method_14_code 66 = .ok (.lload 6, 2) := by decide +kernel
theorem d2_68 : decode prog_24_method_14_code 68 = .ok (.ldc2_w 38, 3) := by decide +kernel
theorem d2_71 : decode prog_24_method_14_code 71 = .ok (.land, 1) := by decide +kernel
theorem d2_72 : decode prog_24_method_14_code 72 = .ok (.lstore 6, 2) := by decide +kernel
theorem d2_74 : decode prog_24_method_14_code 74 = .ok (.lload 10, 2) := by decide +kernel
theorem d2_76 : decode prog_24_method_14_code 76 = .ok (.lload 8, 2) := by decide +kernel
theorem d2_78 : decode prog_24_method_14_code 78 = .ok (.bipush 32, 2) := by decide +kernel
theorem d2_80 : decode prog_24_method_14_code 80 = .ok (.lshr, 1) := by decide +kernel
theorem d2_81 : decode prog_24_method_14_code 81 = .ok (.ladd, 1) := by decide +kernel
theorem d2_82 : decode prog_24_method_14_code 82 = .ok (.lstore 10, 2) := by decide +kernel
theorem d2_84 : decode prog_24_method_14_code 84 = .ok (.lload 8, 2) := by decide +kernel
theorem d2_86 : decode prog_24_method_14_code 86 = .ok (.ldc2_w 38, 3) := by decide +kernel
theorem d2_89 : decode prog_24_method_14_code 89 = .ok (.land, 1) := by decide +kernel
theorem d2_90 : decode prog_24_method_14_code 90 = .ok (.lstore 8, 2) := by decide +kernel
theorem d2_92 : decode prog_24_method_14_code 92 = .ok (.lload 12, 2) := by decide +kernel
theorem d2_94 : decode prog_24_method_14_code 94 = .ok (.lload 10, 2) := by decide +kernel
theorem d2_96 : decode prog_24_method_14_code 96 = .ok (.bipush 32, 2) := by decide +kernel
theorem d2_98 : decode prog_24_method_14_code 98 = .ok (.lshr, 1) := by decide +kernel
theorem d2_99 : decode prog_24_method_14_code 99 = .ok (.ladd, 1) := by decide +kernel
theorem d2_100 : decode prog_24_method_14_code 100 = .ok (.lstore 12, 2) := by decide +kernel
theorem d2_102 : decode prog_24_method_14_code 102 = .ok (.lload 10, 2) := by decide +kernel
theorem d2_104 : decode prog_24_method_14_code 104 = .ok (.ldc2_w 38, 3) := by decide +kernel
theorem d2_107 : decode prog_24_method_14_code 107 = .ok (.land, 1) := by decide +kernel
theorem d2_108 : decode prog_24_method_14_code 108 = .ok (.lstore 10, 2) := by decide +kernel
theorem d2_110 : decode prog_24_method_14_code 110 = .ok (.lload 14, 2) := by decide +kernel
theorem d2_112 : decode prog_24_method_14_code 112 = .ok (.lload 12, 2) := by decide +kernel
theorem d2_114 : decode prog_24_method_14_code 114 = .ok (.bipush 32, 2) := by decide +kernel
theorem d2_116 : decode prog_24_method_14_code 116 = .ok (.lshr, 1) := by decide +kernel
theorem d2_117 : decode prog_24_method_14_code 117 = .ok (.ladd, 1) := by decide +kernel
theorem d2_118 : decode prog_24_method_14_code 118 = .ok (.lstore 14, 2) := by decide +kernel
theorem d2_120 : decode prog_24_method_14_code 120 = .ok (.lload 12, 2) := by decide +kernel
theorem d2_122 : decode prog_24_method_14_code 122 = .ok (.ldc2_w 38, 3) := by decide +kernel
theorem d2_125 : decode prog_24_method_14_code 125 = .ok (.land, 1) := by decide +kernel
theorem d2_126 : decode prog_24_method_14_code 126 = .ok (.lstore 12, 2) := by decide +kernel
theorem d2_128 : decode prog_24_method_14_code 128 = .ok (.lload 14, 2) := by decide +kernel
theorem d2_130 : decode prog_24_method_14_code 130 = .ok (.bipush 32, 2) := by decide +kernel
theorem d2_132 : decode prog_24_method_14_code 132 = .ok (.lshr, 1) := by decide +kernel
theorem d2_133 : decode prog_24_method_14_code 133 = .ok (.lstore 17, 2) := by decide +kernel
theorem d2_135 : decode prog_24_method_14_code 135 = .ok (.lload 14, 2) := by decide +kernel
theorem d2_137 : decode prog_24_method_14_code 137 = .ok (.ldc2_w 38, 3) := by decide +kernel
theorem d2_140 : decode prog_24_method_14_code 140 = .ok (.land, 1) := by decide +kernel
theorem d2_141 : decode prog_24_method_14_code 141 = .ok (.lstore 14, 2) := by decide +kernel
theorem d2_143 : decode prog_24_method_14_code 143 = .ok (.lload_n 0, 1) := by decide +kernel
theorem d2_144 : decode prog_24_method_14_code 144 = .ok (.lload 17, 2) := by decide +kernel
theorem d2_146 : decode prog_24_method_14_code 146 = .ok (.ladd, 1) := by decide +kernel
theorem d2_147 : decode prog_24_method_14_code 147 = .ok (.lstore_n 0, 1) := by decide +kernel
theorem d2_148 : decode prog_24_method_14_code 148 = .ok (.lload 6, 2) := by decide +kernel
theorem d2_150 : decode prog_24_method_14_code 150 = .ok (.lload 17, 2) := by decide +kernel
theorem d2_152 : decode prog_24_method_14_code 152 = .ok (.lsub, 1) := by decide +kernel
theorem d2_153 : decode prog_24_method_14_code 153 = .ok (.lstore 6, 2) := by decide +kernel
theorem d2_155 : decode prog_24_method_14_code 155 = .ok (.lload 12, 2) := by decide +kernel
theorem d2_157 : decode prog_24_method_14_code 157 = .ok (.lload 17, 2) := by decide +kernel
theorem d2_159 : decode prog_24_method_14_code 159 = .ok (.lsub, 1) := by decide +kernel
theorem d2_160 : decode prog_24_method_14_code 160 = .ok (.lstore 12, 2) := by decide +kernel
theorem d2_162 : decode prog_24_method_14_code 162 = .ok (.lload 14, 2) := by decide +kernel
theorem d2_164 : decode prog_24_method_14_code 164 = .ok (.lload 17, 2) := by decide +kernel
theorem d2_166 : decode prog_24_method_14_code 166 = .ok (.ladd, 1) := by decide +kernel
theorem d2_167 : decode prog_24_method_14_code 167 = .ok (.lstore 14, 2) := by decide +kernel
theorem d2_169 : decode prog_24_method_14_code 169 = .ok (.goto (-166), 3) := by decide +kernel
theorem d2_172 : decode prog_24_method_14_code 172 = .ok (.aload 16, 2) := by decide +kernel
theorem d2_174 : decode prog_24_method_14_code 174 = .ok (.iconst 0, 1) := by decide +kernel
theorem d2_175 : decode prog_24_method_14_code 175 = .ok (.lload_n 0, 1) := by decide +kernel
theorem d2_176 : decode prog_24_method_14_code 176 = .ok (.lastore, 1) := by decide +kernel
theorem d2_177 : decode prog_24_method_14_code 177 = .ok (.aload 16, 2) := by decide +kernel
theorem d2_179 : decode prog_24_method_14_code 179 = .ok (.iconst 1, 1) := by decide +kernel
theorem d2_180 : decode prog_24_method_14_code 180 = .ok (.lload_n 2, 1) := by decide +kernel
theorem d2_181 : decode prog_24_method_14_code 181 = .ok (.lastore, 1) := by decide +kernel
theorem d2_182 : decode prog_24_method_14_code 182 = .ok (.aload 16, 2) := by decide +kernel
theorem d2_184 : decode prog_24_method_14_code 184 = .ok (.iconst 2, 1) := by decide +kernel
theorem d2_185 : decode prog_24_method_14_code 185 = .ok (.lload 4, 2) := by decide +kernel
theorem d2_187 : decode prog_24_method_14_code 187 = .ok (.lastore, 1) := by decide +kernel
theorem d2_188 : decode prog_24_method_14_code 188 = .ok (.aload 16, 2) := by decide +kernel
theorem d2_190 : decode prog_24_method_14_code 190 = .ok (.iconst 3, 1) := by decide +kernel
theorem d2_191 : decode prog_24_method_14_code 191 = .ok (.lload 6, 2) := by decide +kernel
theorem d2_193 : decode prog_24_method_14_code 193 = .ok (.lastore, 1) := by decide +kernel
theorem d2_194 : decode prog_24_method_14_code 194 = .ok (.aload 16, 2) := by decide +kernel
theorem d2_196 : decode prog_24_method_14_code 196 = .ok (.iconst 4, 1) := by decide +kernel
theorem d2_197 : decode prog_24_method_14_code 197 = .ok (.lload 8, 2) := by decide +kernel
theorem d2_199 : decode prog_24_method_14_code 199 = .ok (.lastore, 1) := by decide +kernel
theorem d2_200 : decode prog_24_method_14_code 200 = .ok (.aload 16, 2) := by decide +kernel
theorem d2_202 : decode prog_24_method_14_code 202 = .ok (.iconst 5, 1) := by decide +kernel
theorem d2_203 : decode prog_24_method_14_code 203 = .ok (.lload 10, 2) := by decide +kernel
theorem d2_205 : decode prog_24_method_14_code 205 = .ok (.lastore, 1) := by decide +kernel
theorem d2_206 : decode prog_24_method_14_code 206 = .ok (.aload 16, 2) := by decide +kernel
theorem d2_208 : decode prog_24_method_14_code 208 = .ok (.bipush 6, 2) := by decide +kernel
theorem d2_210 : decode prog_24_method_14_code 210 = .ok (.lload 12, 2) := by decide +kernel
theorem d2_212 : decode prog_24_method_14_code 212 = .ok (.lastore, 1) := by decide +kernel
theorem d2_213 : decode prog_24_method_14_code 213 = .ok (.aload 16, 2) := by decide +kernel
theorem d2_215 : decode prog_24_method_14_code 215 = .ok (.bipush 7, 2) := by decide +kernel
theorem d2_217 : decode prog_24_method_14_code 217 = .ok (.lload 14, 2) := by decide +kernel
theorem d2_219 : decode prog_24_method_14_code 219 = .ok (.lastore, 1) := by decide +kernel
theorem d2_220 : decode prog_24_method_14_code 220 = .ok (.return_, 1) := by decide +kernel
theorem pn_2 : plainFor (⟨"com/example/gatewarden/gatewarden/P256Field", "normalize", "(JJJJJJJJ[J)V"⟩ : MethodName) = true := plainFor_of_name (by first | (simp [plainName, overriddenIn]; done) | decide +kernel)
set_option maxRecDepth 65536 in
set_option maxHeartbeats 40000000 in
theorem c_norm {Z : State} {a0 : Array Value} (hw : ∀ d ∈ tables_1, d.before a0 Z = true) {a : Addr} {k0 k1 k2 k3 k4 k5 k6 k7 : Int64} {f : Nat → Int64} {h0 : Heap} {n0 : Nat} (Z0 : n0 ≤ h0.size) (hb0 : -8589934592 ≤ k0.toInt ∧ k0.toInt ≤ 8589934592) (hb1 : -8589934592 ≤ k1.toInt ∧ k1.toInt ≤ 8589934592) (hb2 : -8589934592 ≤ k2.toInt ∧ k2.toInt ≤ 8589934592) (hb3 : -8589934592 ≤ k3.toInt ∧ k3.toInt ≤ 8589934592) (hb4 : -8589934592 ≤ k4.toInt ∧ k4.toInt ≤ 8589934592) (hb5 : -8589934592 ≤ k5.toInt ∧ k5.toInt ≤ 8589934592) (hb6 : -8589934592 ≤ k6.toInt ∧ k6.toInt ≤ 8589934592) (hb7 : -8589934592 ≤ k7.toInt ∧ k7.toInt ≤ 8589934592) (hV0 : -115792089237316195423570985008687907853269984665640564039457584007913129639936 ≤ k0.toInt + k1.toInt * 4294967296 + k2.toInt * 18446744073709551616 + k3.toInt * 79228162514264337593543950336 + k4.toInt * 340282366920938463463374607431768211456 + k5.toInt * 1461501637330902918203684832716283019655932542976 + k6.toInt * 6277101735386680763835789423207666416102355444464034512896 + k7.toInt * 26959946667150639794667015087019630673637144422540572481103610249216 ∧ k0.toInt + k1.toInt * 4294967296 + k2.toInt * 18446744073709551616 + k3.toInt * 79228162514264337593543950336 + k4.toInt * 340282366920938463463374607431768211456 + k5.toInt * 1461501637330902918203684832716283019655932542976 + k6.toInt * 6277101735386680763835789423207666416102355444464034512896 + k7.toInt * 26959946667150639794667015087019630673637144422540572481103610249216 < 231584178474632390847141970017375815706539969331281128078915168015826259279872) (A0 : AJ Z h0 a 8 f) (g_a : n0 ≤ a) :
    Ctr Z n0 (⟨"com/example/gatewarden/gatewarden/P256Field", "normalize", "(JJJJJJJJ[J)V"⟩ : MethodName) prog_24_method_14_code 19 none ({ frames := 0, cells := 0, slots := 0, locals := 0 } : Room) [(.long k0), (.long k1), (.long k2), (.long k3), (.long k4), (.long k5), (.long k6), (.long k7), (.ref a)] h0 (fun v h => v = none ∧ Keep h0 h [a] ∧ ∃ g0 g1 g2 g3 g4 g5 g6 g7 : Int64, AJ Z h a 8 (A8 g0 g1 g2 g3 g4 g5 g6 g7) ∧ ((0 ≤ g0.toInt ∧ g0.toInt < 4294967296) ∧ (0 ≤ g1.toInt ∧ g1.toInt < 4294967296) ∧ (0 ≤ g2.toInt ∧ g2.toInt < 4294967296) ∧ (0 ≤ g3.toInt ∧ g3.toInt < 4294967296) ∧ (0 ≤ g4.toInt ∧ g4.toInt < 4294967296) ∧ (0 ≤ g5.toInt ∧ g5.toInt < 4294967296) ∧ (0 ≤ g6.toInt ∧ g6.toInt < 4294967296) ∧ (0 ≤ g7.toInt ∧ g7.toInt < 4294967296)) ∧ g0.toInt + g1.toInt * 4294967296 + g2.toInt * 18446744073709551616 + g3.toInt * 79228162514264337593543950336 + g4.toInt * 340282366920938463463374607431768211456 + g5.toInt * 1461501637330902918203684832716283019655932542976 + g6.toInt * 6277101735386680763835789423207666416102355444464034512896 + g7.toInt * 26959946667150639794667015087019630673637144422540572481103610249216 = fV (fV (fV (k0.toInt + k1.toInt * 4294967296 + k2.toInt * 18446744073709551616 + k3.toInt * 79228162514264337593543950336 + k4.toInt * 340282366920938463463374607431768211456 + k5.toInt * 1461501637330902918203684832716283019655932542976 + k6.toInt * 6277101735386680763835789423207666416102355444464034512896 + k7.toInt * 26959946667150639794667015087019630673637144422540572481103610249216)))) := by
  refine Ctr.of (L := #[.val (.long k0), .second, .val (.long k1), .second, .val (.long k2), .second, .val (.long k3), .second, .val (.long k4), .second, .val (.long k5), .second, .val (.long k6), .second, .val (.long k7), .second, .val (.ref a), .unset, .unset]) pn_2 Z0 (fun m => by first | (simp [entryFrame, mkF, argsToLocals, Value.category]; done) | rfl) ?_
  intro K T S0
  generalize hW : fV (fV (fV (k0.toInt + k1.toInt * 4294967296 + k2.toInt * 18446744073709551616 + k3.toInt * 79228162514264337593543950336 + k4.toInt * 340282366920938463463374607431768211456 + k5.toInt * 1461501637330902918203684832716283019655932542976 + k6.toInt * 6277101735386680763835789423207666416102355444464034512896 + k7.toInt * 26959946667150639794667015087019630673637144422540572481103610249216))) = W
  replace hW := hW.symm
  refine px_lconst (v := (1 : Int64)) S0 d2_0 rfl rfl ?_
  refine px_lstore S0 d2_1 rfl (L' := #[.val (.long k0), .second, .val (.long k1), .second, .val (.long k2), .second, .val (.long k3), .second, .val (.long k4), .second, .val (.long k5), .second, .val (.long k6), .second, .val (.long k7), .second, .val (.ref a), .val (.long (1 : Int64)), .second]) rfl ?_
  refine Go.loopH (α := (Int64) × (Int64) × (Int64) × (Int64) × (Int64) × (Int64) × (Int64) × (Int64) × (Int64) × (Int)) (Inv := fun k x h => h = h0 ∧ x.2.2.2.2.2.2.2.2.2 = x.1.toInt + x.2.1.toInt * 4294967296 + x.2.2.1.toInt * 18446744073709551616 + x.2.2.2.1.toInt * 79228162514264337593543950336 + x.2.2.2.2.1.toInt * 340282366920938463463374607431768211456 + x.2.2.2.2.2.1.toInt * 1461501637330902918203684832716283019655932542976 + x.2.2.2.2.2.2.1.toInt * 6277101735386680763835789423207666416102355444464034512896 + x.2.2.2.2.2.2.2.1.toInt * 26959946667150639794667015087019630673637144422540572481103610249216 ∧ ((-8589934592 ≤ x.1.toInt ∧ x.1.toInt ≤ 8589934592) ∧ (-8589934592 ≤ x.2.1.toInt ∧ x.2.1.toInt ≤ 8589934592) ∧ (-8589934592 ≤ x.2.2.1.toInt ∧ x.2.2.1.toInt ≤ 8589934592) ∧ (-8589934592 ≤ x.2.2.2.1.toInt ∧ x.2.2.2.1.toInt ≤ 8589934592) ∧ (-8589934592 ≤ x.2.2.2.2.1.toInt ∧ x.2.2.2.2.1.toInt ≤ 8589934592) ∧ (-8589934592 ≤ x.2.2.2.2.2.1.toInt ∧ x.2.2.2.2.2.1.toInt ≤ 8589934592) ∧ (-8589934592 ≤ x.2.2.2.2.2.2.1.toInt ∧ x.2.2.2.2.2.2.1.toInt ≤ 8589934592) ∧ (-8589934592 ≤ x.2.2.2.2.2.2.2.1.toInt ∧ x.2.2.2.2.2.2.2.1.toInt ≤ 8589934592)) ∧ ((x.2.2.2.2.2.2.2.2.1.toInt = 0 ∧ ((0 ≤ x.1.toInt ∧ x.1.toInt < 4294967296) ∧ (0 ≤ x.2.1.toInt ∧ x.2.1.toInt < 4294967296) ∧ (0 ≤ x.2.2.1.toInt ∧ x.2.2.1.toInt < 4294967296) ∧ (0 ≤ x.2.2.2.1.toInt ∧ x.2.2.2.1.toInt < 4294967296) ∧ (0 ≤ x.2.2.2.2.1.toInt ∧ x.2.2.2.2.1.toInt < 4294967296) ∧ (0 ≤ x.2.2.2.2.2.1.toInt ∧ x.2.2.2.2.2.1.toInt < 4294967296) ∧ (0 ≤ x.2.2.2.2.2.2.1.toInt ∧ x.2.2.2.2.2.2.1.toInt < 4294967296) ∧ (0 ≤ x.2.2.2.2.2.2.2.1.toInt ∧ x.2.2.2.2.2.2.2.1.toInt < 4294967296)) ∧ x.2.2.2.2.2.2.2.2.2 = W) ∨ (¬ x.2.2.2.2.2.2.2.2.1.toInt = 0 ∧ ((k = 3 ∧ -115792089237316195423570985008687907853269984665640564039457584007913129639936 ≤ x.2.2.2.2.2.2.2.2.2 ∧ x.2.2.2.2.2.2.2.2.2 < 231584178474632390847141970017375815706539969331281128078915168015826259279872 ∧ W = fV (fV (fV x.2.2.2.2.2.2.2.2.2))) ∨ (k = 2 ∧ -53919893334301279589334030174039261347274288845081144962207220498432 ≤ x.2.2.2.2.2.2.2.2.2 ∧ x.2.2.2.2.2.2.2.2.2 < 115792089291236088757872264598021938027309246012914852884538728970120350138368 ∧ W = fV (fV x.2.2.2.2.2.2.2.2.2)) ∨ (k = 1 ∧ 0 ≤ x.2.2.2.2.2.2.2.2.2 ∧ x.2.2.2.2.2.2.2.2.2 < 115792089237316195423570985008687907853269984665640564039457584007913129639936 ∧ W = fV x.2.2.2.2.2.2.2.2.2))))) (pcj := 3) (cl' := 0) (sl' := 0) (Lj := fun x => #[.val (.long x.1), .second, .val (.long x.2.1), .second, .val (.long x.2.2.1), .second, .val (.long x.2.2.2.1), .second, .val (.long x.2.2.2.2.1), .second, .val (.long x.2.2.2.2.2.1), .second, .val (.long x.2.2.2.2.2.2.1), .second, .val (.long x.2.2.2.2.2.2.2.1), .second, .val (.ref a), .val (.long x.2.2.2.2.2.2.2.2.1), .second]) (stj := fun x => []) S0 (fun k IHJ1 x T2 h2 S2 p2 => ?_) (fun J1 => ?_)
  · obtain ⟨c0, c1, c2, c3, c4, c5, c6, c7, top, V⟩ := x
    try dsimp only at p2
    obtain ⟨rfl, hV, ⟨b_c0, b_c1, b_c2, b_c3, b_c4, b_c5, b_c6, b_c7⟩, hI⟩ := p2
    show Go _ _ _ _ _ 3 #[.val (.long c0), .second, .val (.long c1), .second, .val (.long c2), .second, .val (.long c3), .second, .val (.long c4), .second, .val (.long c5), .second, .val (.long c6), .second, .val (.long c7), .second, .val (.ref a), .val (.long top), .second] []
    refine px_lload S2 d2_3 rfl rfl ?_
    refine px_lconst (v := (0 : Int64)) S2 d2_5 rfl rfl ?_
    refine px_lif S2 d2_6 rfl d2_7 (by decide) (pc' := 172) rfl rfl (fun (hc3 : top.toInt = (0 : Int64).toInt) => ?_) (fun (hc3 : ¬ top.toInt = (0 : Int64).toInt) => ?_)
    · obtain ⟨⟨r0, r1, r2, r3, r4, r5, r6, r7⟩, hVW⟩ : ((0 ≤ c0.toInt ∧ c0.toInt < 4294967296) ∧ (0 ≤ c1.toInt ∧ c1.toInt < 4294967296) ∧ (0 ≤ c2.toInt ∧ c2.toInt < 4294967296) ∧ (0 ≤ c3.toInt ∧ c3.toInt < 4294967296) ∧ (0 ≤ c4.toInt ∧ c4.toInt < 4294967296) ∧ (0 ≤ c5.toInt ∧ c5.toInt < 4294967296) ∧ (0 ≤ c6.toInt ∧ c6.toInt < 4294967296) ∧ (0 ≤ c7.toInt ∧ c7.toInt < 4294967296)) ∧ V = W := hI.elim (fun q => q.2) (fun q => absurd hc3 q.1)
      refine px_aload S2 d2_172 rfl rfl rfl ?_
      refine px_iconst (v := (0 : Int32)) S2 d2_174 rfl rfl ?_
      refine px_lloadN S2 d2_175 rfl rfl ?_
      refine px_lastore S2 A0 g_a (i := 0) rfl (by decide) d2_176 rfl (fun T4 h4 S4 W4 A0 => ?_)
      refine px_aload S4 d2_177 rfl rfl rfl ?_
      refine px_iconst (v := (1 : Int32)) S4 d2_179 rfl rfl ?_
      refine px_lloadN S4 d2_180 rfl rfl ?_
      refine px_lastore S4 A0 g_a (i := 1) rfl (by decide) d2_181 rfl (fun T5 h5 S5 W5 A0 => ?_)
      refine px_aload S5 d2_182 rfl rfl rfl ?_
      refine px_iconst (v := (2 : Int32)) S5 d2_184 rfl rfl ?_
      refine px_lload S5 d2_185 rfl rfl ?_
      refine px_lastore S5 A0 g_a (i := 2) rfl (by decide) d2_187 rfl (fun T6 h6 S6 W6 A0 => ?_)
      refine px_aload S6 d2_188 rfl rfl rfl ?_
      refine px_iconst (v := (3 : Int32)) S6 d2_190 rfl rfl ?_
      refine px_lload S6 d2_191 rfl rfl ?_
      refine px_lastore S6 A0 g_a (i := 3) rfl (by decide) d2_193 rfl (fun T7 h7 S7 W7 A0 => ?_)
      refine px_aload S7 d2_194 rfl rfl rfl ?_
      refine px_iconst (v := (4 : Int32)) S7 d2_196 rfl rfl ?_
      refine px_lload S7 d2_197 rfl rfl ?_
      refine px_lastore S7 A0 g_a (i := 4) rfl (by decide) d2_199 rfl (fun T8 h8 S8 W8 A0 => ?_)
      refine px_aload S8 d2_200 rfl rfl rfl ?_
      refine px_iconst (v := (5 : Int32)) S8 d2_202 rfl rfl ?_
      refine px_lload S8 d2_203 rfl rfl ?_
      refine px_lastore S8 A0 g_a (i := 5) rfl (by decide) d2_205 rfl (fun T9 h9 S9 W9 A0 => ?_)
      refine px_aload S9 d2_206 rfl rfl rfl ?_
      refine px_bipush (v := (6 : Int32)) S9 d2_208 rfl rfl ?_
      refine px_lload S9 d2_210 rfl rfl ?_
      refine px_lastore S9 A0 g_a (i := 6) rfl (by decide) d2_212 rfl (fun T10 h10 S10 W10 A0 => ?_)
      refine px_aload S10 d2_213 rfl rfl rfl ?_
      refine px_bipush (v := (7 : Int32)) S10 d2_215 rfl rfl ?_
      refine px_lload S10 d2_217 rfl rfl ?_
      refine px_lastore S10 A0 g_a (i := 7) rfl (by decide) d2_219 rfl (fun T11 h11 S11 W11 A0 => ?_)
      exact px_return S11 d2_220 rfl (by decide) (by decide) (⟨rfl, (((((((((Keep.refl _ _).wr W4 (Or.inl (List.mem_singleton.mpr rfl))).wr W5 (Or.inl (List.mem_singleton.mpr rfl))).wr W6 (Or.inl (List.mem_singleton.mpr rfl))).wr W7 (Or.inl (List.mem_singleton.mpr rfl))).wr W8 (Or.inl (List.mem_singleton.mpr rfl))).wr W9 (Or.inl (List.mem_singleton.mpr rfl))).wr W10 (Or.inl (List.mem_singleton.mpr rfl))).wr W11 (Or.inl (List.mem_singleton.mpr rfl))), c0, c1, c2, c3, c4, c5, c6, c7, A0.congr (all8 rfl rfl rfl rfl rfl rfl rfl rfl), ⟨r0, r1, r2, r3, r4, r5, r6, r7⟩, hV.symm.trans hVW⟩)
    · have hI2 : (k = 3 ∧ -115792089237316195423570985008687907853269984665640564039457584007913129639936 ≤ V ∧ V < 231584178474632390847141970017375815706539969331281128078915168015826259279872 ∧ W = fV (fV (fV V))) ∨ (k = 2 ∧ -53919893334301279589334030174039261347274288845081144962207220498432 ≤ V ∧ V < 115792089291236088757872264598021938027309246012914852884538728970120350138368 ∧ W = fV (fV V)) ∨ (k = 1 ∧ 0 ≤ V ∧ V < 115792089237316195423570985008687907853269984665640564039457584007913129639936 ∧ W = fV V) := hI.elim (fun q => absurd q.1 hc3) (fun q => q.2)
      refine px_lloadN S2 d2_10 rfl rfl ?_
      refine px_lloadN S2 d2_11 rfl rfl ?_
      refine px_bipush (v := (32 : Int32)) S2 d2_12 rfl rfl ?_
      refine px_lshr S2 d2_14 rfl ?_
      refine px_ladd S2 d2_15 rfl ?_
      have x_13 := (x_lshr 32 (by decide) (by decide) : (c0 >>> ((32 : Int32) &&& 0x3f).toInt64).toInt = c0.toInt / 4294967296)
      have l_14 : (32 : Int32).toInt = 32 := rfl
      have bx_13 : (-2 : Int) ≤ (c0 >>> ((32 : Int32) &&& 0x3f).toInt64).toInt ∧ (c0 >>> ((32 : Int32) &&& 0x3f).toInt64).toInt ≤ 2 := by rw [x_13]; exact ib_div 4294967296 (by decide) b_c0 (by decide) (by decide)
      have x_12 := (x_ladd b_c1 bx_13 (by decide) (by decide) : (c1 + (c0 >>> ((32 : Int32) &&& 0x3f).toInt64)).toInt = c1.toInt + (c0 >>> ((32 : Int32) &&& 0x3f).toInt64).toInt)
      have bx_12 : (-8589934594 : Int) ≤ (c1 + (c0 >>> ((32 : Int32) &&& 0x3f).toInt64)).toInt ∧ (c1 + (c0 >>> ((32 : Int32) &&& 0x3f).toInt64)).toInt ≤ 8589934594 := by rw [x_12]; exact ib_add b_c1 bx_13 (by decide) (by decide)
      generalize h_v15 : (c1 + (c0 >>> ((32 : Int32) &&& 0x3f).toInt64)) = v15
      rw [h_v15] at x_12 bx_12
      refine px_lstoreN S2 d2_16 rfl (L' := #[.val (.long c0), .second, .val (.long v15), .second, .val (.long c2), .second, .val (.long c3), .second, .val (.long c4), .second, .val (.long c5), .second, .val (.long c6), .second, .val (.long c7), .second, .val (.ref a), .val (.long top), .second]) rfl ?_
      refine px_lloadN S2 d2_17 rfl rfl ?_
      refine px_ldc2 S2 (hw _ (List.mem_of_getElem? (i := 9) rfl)) d2_18 rfl ?_
      refine px_land S2 d2_21 rfl ?_
      have x_16 := (x_lmask 32 (by decide) (by decide) (by decide) : (c0 &&& (4294967295 : Int64)).toInt = c0.toInt % 4294967296)
      have l_17 : (4294967295 : Int64).toInt = 4294967295 := rfl
      have bx_16 : (0 : Int) ≤ (c0 &&& (4294967295 : Int64)).toInt ∧ (c0 &&& (4294967295 : Int64)).toInt ≤ 4294967295 := by rw [x_16]; exact ib_mod 4294967296 (by decide) (by decide) (by decide)
      generalize h_v18 : (c0 &&& (4294967295 : Int64)) = v18
      rw [h_v18] at x_16 bx_16
      refine px_lstoreN S2 d2_22 rfl (L' := #[.val (.long v18), .second, .val (.long v15), .second, .val (.long c2), .second, .val (.long c3), .second, .val (.long c4), .second, .val (.long c5), .second, .val (.long c6), .second, .val (.long c7), .second, .val (.ref a), .val (.long top), .second]) rfl ?_
      refine px_lload S2 d2_23 rfl rfl ?_
      refine px_lloadN S2 d2_25 rfl rfl ?_
      refine px_bipush (v := (32 : Int32)) S2 d2_26 rfl rfl ?_
      refine px_lshr S2 d2_28 rfl ?_
      refine px_ladd S2 d2_29 rfl ?_
      have x_20 := (x_lshr 32 (by decide) (by decide) : (v15 >>> ((32 : Int32) &&& 0x3f).toInt64).toInt = v15.toInt / 4294967296)
      have bx_20 : (-3 : Int) ≤ (v15 >>> ((32 : Int32) &&& 0x3f).toInt64).toInt ∧ (v15 >>> ((32 : Int32) &&& 0x3f).toInt64).toInt ≤ 2 := by rw [x_20]; exact ib_div 4294967296 (by decide) bx_12 (by decide) (by decide)
      have x_19 := (x_ladd b_c2 bx_20 (by decide) (by decide) : (c2 + (v15 >>> ((32 : Int32) &&& 0x3f).toInt64)).toInt = c2.toInt + (v15 >>> ((32 : Int32) &&& 0x3f).toInt64).toInt)
      have bx_19 : (-8589934595 : Int) ≤ (c2 + (v15 >>> ((32 : Int32) &&& 0x3f).toInt64)).toInt ∧ (c2 + (v15 >>> ((32 : Int32) &&& 0x3f).toInt64)).toInt ≤ 8589934594 := by rw [x_19]; exact ib_add b_c2 bx_20 (by decide) (by decide)
      generalize h_v21 : (c2 + (v15 >>> ((32 : Int32) &&& 0x3f).toInt64)) = v21
      rw [h_v21] at x_19 bx_19
      refine px_lstore S2 d2_30 rfl (L' := #[.val (.long v18), .second, .val (.long v15), .second, .val (.long v21), .second, .val (.long c3), .second, .val (.long c4), .second, .val (.long c5), .second, .val (.long c6), .second, .val (.long c7), .second, .val (.ref a), .val (.long top), .second]) rfl ?_
      refine px_lloadN S2 d2_32 rfl rfl ?_
      refine px_ldc2 S2 (hw _ (List.mem_of_getElem? (i := 9) rfl)) d2_33 rfl ?_
      refine px_land S2 d2_36 rfl ?_
      have x_22 := (x_lmask 32 (by decide) (by decide) (by decide) : (v15 &&& (4294967295 : Int64)).toInt = v15.toInt % 4294967296)
      have bx_22 : (0 : Int) ≤ (v15 &&& (4294967295 : Int64)).toInt ∧ (v15 &&& (4294967295 : Int64)).toInt ≤ 4294967295 := by rw [x_22]; exact ib_mod 4294967296 (by decide) (by decide) (by decide)
      generalize h_v23 : (v15 &&& (4294967295 : Int64)) = v23
      rw [h_v23] at x_22 bx_22
      refine px_lstoreN S2 d2_37 rfl (L' := #[.val (.long v18), .second, .val (.long v23), .second, .val (.long v21), .second, .val (.long c3), .second, .val (.long c4), .second, .val (.long c5), .second, .val (.long c6), .second, .val (.long c7), .second, .val (.ref a), .val (.long top), .second]) rfl ?_
      refine px_lload S2 d2_38 rfl rfl ?_
      refine px_lload S2 d2_40 rfl rfl ?_
      refine px_bipush (v := (32 : Int32)) S2 d2_42 rfl rfl ?_
      refine px_lshr S2 d2_44 rfl ?_
      refine px_ladd S2 d2_45 rfl ?_
      have x_25 := (x_lshr 32 (by decide) (by decide) : (v21 >>> ((32 : Int32) &&& 0x3f).toInt64).toInt = v21.toInt / 4294967296)
      have bx_25 : (-3 : Int) ≤ (v21 >>> ((32 : Int32) &&& 0x3f).toInt64).toInt ∧ (v21 >>> ((32 : Int32) &&& 0x3f).toInt64).toInt ≤ 2 := by rw [x_25]; exact ib_div 4294967296 (by decide) bx_19 (by decide) (by decide)
      have x_24 := (x_ladd b_c3 bx_25 (by decide) (by decide) : (c3 + (v21 >>> ((32 : Int32) &&& 0x3f).toInt64)).toInt = c3.toInt + (v21 >>> ((32 : Int32) &&& 0x3f).toInt64).toInt)
      have bx_24 : (-8589934595 : Int) ≤ (c3 + (v21 >>> ((32 : Int32) &&& 0x3f).toInt64)).toInt ∧ (c3 + (v21 >>> ((32 : Int32) &&& 0x3f).toInt64)).toInt ≤ 8589934594 := by rw [x_24]; exact ib_add b_c3 bx_25 (by decide) (by decide)
      generalize h_v26 : (c3 + (v21 >>> ((32 : Int32) &&& 0x3f).toInt64)) = v26
      rw [h_v26] at x_24 bx_24
      refine px_lstore S2 d2_46 rfl (L' := #[.val (.long v18), .second, .val (.long v23), .second, .val (.long v21), .second, .val (.long v26), .second, .val (.long c4), .second, .val (.long c5), .second, .val (.long c6), .second, .val (.long c7), .second, .val (.ref a), .val (.long top), .second]) rfl ?_
      refine px_lload S2 d2_48 rfl rfl ?_
      refine px_ldc2 S2 (hw _ (List.mem_of_getElem? (i := 9) rfl)) d2_50 rfl ?_
      refine px_land S2 d2_53 rfl ?_
      have x_27 := (x_lmask 32 (by decide) (by decide) (by decide) : (v21 &&& (4294967295 : Int64)).toInt = v21.toInt % 4294967296)
      have bx_27 : (0 : Int) ≤ (v21 &&& (4294967295 : Int64)).toInt ∧ (v21 &&& (4294967295 : Int64)).toInt ≤ 4294967295 := by rw [x_27]; exact ib_mod 4294967296 (by decide) (by decide) (by decide)
      generalize h_v28 : (v21 &&& (4294967295 : Int64)) = v28
      rw [h_v28] at x_27 bx_27
      refine px_lstore S2 d2_54 rfl (L' := #[.val (.long v18), .second, .val (.long v23), .second, .val (.long v28), .second, .val (.long v26), .second, .val (.long c4), .second, .val (.long c5), .second, .val (.long c6), .second, .val (.long c7), .second, .val (.ref a), .val (.long top), .second]) rfl ?_
      refine px_lload S2 d2_56 rfl rfl ?_
      refine px_lload S2 d2_58 rfl rfl ?_
      refine px_bipush (v := (32 : Int32)) S2 d2_60 rfl rfl ?_
      refine px_lshr S2 d2_62 rfl ?_
      refine px_ladd S2 d2_63 rfl ?_
      have x_30 := (x_lshr 32 (by decide) (by decide) : (v26 >>> ((32 : Int32) &&& 0x3f).toInt64).toInt = v26.toInt / 4294967296)
      have bx_30 : (-3 : Int) ≤ (v26 >>> ((32 : Int32) &&& 0x3f).toInt64).toInt ∧ (v26 >>> ((32 : Int32) &&& 0x3f).toInt64).toInt ≤ 2 := by rw [x_30]; exact ib_div 4294967296 (by decide) bx_24 (by decide) (by decide)
      have x_29 := (x_ladd b_c4 bx_30 (by decide) (by decide) : (c4 + (v26 >>> ((32 : Int32) &&& 0x3f).toInt64)).toInt = c4.toInt + (v26 >>> ((32 : Int32) &&& 0x3f).toInt64).toInt)
      have bx_29 : (-8589934595 : Int) ≤ (c4 + (v26 >>> ((32 : Int32) &&& 0x3f).toInt64)).toInt ∧ (c4 + (v26 >>> ((32 : Int32) &&& 0x3f).toInt64)).toInt ≤ 8589934594 := by rw [x_29]; exact ib_add b_c4 bx_30 (by decide) (by decide)
      generalize h_v31 : (c4 + (v26 >>> ((32 : Int32) &&& 0x3f).toInt64)) = v31
      rw [h_v31] at x_29 bx_29
      refine px_lstore S2 d2_64 rfl (L' := #[.val (.long v18), .second, .val (.long v23), .second, .val (.long v28), .second, .val (.long v26), .second, .val (.long v31), .second, .val (.long c5), .second, .val (.long c6), .second, .val (.long c7), .second, .val (.ref a), .val (.long top), .second]) rfl ?_
      refine px_lload S2 d2_66 rfl rfl ?_
      refine px_ldc2 S2 (hw _ (List.mem_of_getElem? (i := 9) rfl)) d2_68 rfl ?_
      refine px_land S2 d2_71 rfl ?_
      have x_32 := (x_lmask 32 (by decide) (by decide) (by decide) : (v26 &&& (4294967295 : Int64)).toInt = v26.toInt % 4294967296)
      have bx_32 : (0 : Int) ≤ (v26 &&& (4294967295 : Int64)).toInt ∧ (v26 &&& (4294967295 : Int64)).toInt ≤ 4294967295 := by rw [x_32]; exact ib_mod 4294967296 (by decide) (by decide) (by decide)
      generalize h_v33 : (v26 &&& (4294967295 : Int64)) = v33
      rw [h_v33] at x_32 bx_32
      refine px_lstore S2 d2_72 rfl (L' := #[.val (.long v18), .second, .val (.long v23), .second, .val (.long v28), .second, .val (.long v33), .second, .val (.long v31), .second, .val (.long c5), .second, .val (.long c6), .second, .val (.long c7), .second, .val (.ref a), .val (.long top), .second]) rfl ?_
      refine px_lload S2 d2_74 rfl rfl ?_
      refine px_lload S2 d2_76 rfl rfl ?_
      refine px_bipush (v := (32 : Int32)) S2 d2_78 rfl rfl ?_
      refine px_lshr S2 d2_80 rfl ?_
      refine px_ladd S2 d2_81 rfl ?_
      have x_35 := (x_lshr 32 (by decide) (by decide) : (v31 >>> ((32 : Int32) &&& 0x3f).toInt64).toInt = v31.toInt / 4294967296)
      have bx_35 : (-3 : Int) ≤ (v31 >>> ((32 : Int32) &&& 0x3f).toInt64).toInt ∧ (v31 >>> ((32 : Int32) &&& 0x3f).toInt64).toInt ≤ 2 := by rw [x_35]; exact ib_div 4294967296 (by decide) bx_29 (by decide) (by decide)
      have x_34 := (x_ladd b_c5 bx_35 (by decide) (by decide) : (c5 + (v31 >>> ((32 : Int32) &&& 0x3f).toInt64)).toInt = c5.toInt + (v31 >>> ((32 : Int32) &&& 0x3f).toInt64).toInt)
      have bx_34 : (-8589934595 : Int) ≤ (c5 + (v31 >>> ((32 : Int32) &&& 0x3f).toInt64)).toInt ∧ (c5 + (v31 >>> ((32 : Int32) &&& 0x3f).toInt64)).toInt ≤ 8589934594 := by rw [x_34]; exact ib_add b_c5 bx_35 (by decide) (by decide)
      generalize h_v36 : (c5 + (v31 >>> ((32 : Int32) &&& 0x3f).toInt64)) = v36
      rw [h_v36] at x_34 bx_34
      refine px_lstore S2 d2_82 rfl (L' := #[.val (.long v18), .second, .val (.long v23), .second, .val (.long v28), .second, .val (.long v33), .second, .val (.long v31), .second, .val (.long v36), .second, .val (.long c6), .second, .val (.long c7), .second, .val (.ref a), .val (.long top), .second]) rfl ?_
      refine px_lload S2 d2_84 rfl rfl ?_
      refine px_ldc2 S2 (hw _ (List.mem_of_getElem? (i := 9) rfl)) d2_86 rfl ?_
      refine px_land S2 d2_89 rfl ?_
      have x_37 := (x_lmask 32 (by decide) (by decide) (by decide) : (v31 &&& (4294967295 : Int64)).toInt = v31.toInt % 4294967296)
      have bx_37 : (0 : Int) ≤ (v31 &&& (4294967295 : Int64)).toInt ∧ (v31 &&& (4294967295 : Int64)).toInt ≤ 4294967295 := by rw [x_37]; exact ib_mod 4294967296 (by decide) (by decide) (by decide)
      generalize h_v38 : (v31 &&& (4294967295 : Int64)) = v38
      rw [h_v38] at x_37 bx_37
      refine px_lstore S2 d2_90 rfl (L' := #[.val (.long v18), .second, .val (.long v23), .second, .val (.long v28), .second, .val (.long v33), .second, .val (.long v38), .second, .val (.long v36), .second, .val (.long c6), .second, .val (.long c7), .second, .val (.ref a), .val (.long top), .second]) rfl ?_
      refine px_lload S2 d2_92 rfl rfl ?_
      refine px_lload S2 d2_94 rfl rfl ?_
      refine px_bipush (v := (32 : Int32)) S2 d2_96 rfl rfl ?_
      refine px_lshr S2 d2_98 rfl ?_
      refine px_ladd S2 d2_99 rfl ?_
      have x_40 := (x_lshr 32 (by decide) (by decide) : (v36 >>> ((32 : Int32) &&& 0x3f).toInt64).toInt = v36.toInt / 4294967296)
      have bx_40 : (-3 : Int) ≤ (v36 >>> ((32 : Int32) &&& 0x3f).toInt64).toInt ∧ (v36 >>> ((32 : Int32) &&& 0x3f).toInt64).toInt ≤ 2 := by rw [x_40]; exact ib_div 4294967296 (by decide) bx_34 (by decide) (by decide)
      have x_39 := (x_ladd b_c6 bx_40 (by decide) (by decide) : (c6 + (v36 >>> ((32 : Int32) &&& 0x3f).toInt64)).toInt = c6.toInt + (v36 >>> ((32 : Int32) &&& 0x3f).toInt64).toInt)
      have bx_39 : (-8589934595 : Int) ≤ (c6 + (v36 >>> ((32 : Int32) &&& 0x3f).toInt64)).toInt ∧ (c6 + (v36 >>> ((32 : Int32) &&& 0x3f).toInt64)).toInt ≤ 8589934594 := by rw [x_39]; exact ib_add b_c6 bx_40 (by decide) (by decide)
      generalize h_v41 : (c6 + (v36 >>> ((32 : Int32) &&& 0x3f).toInt64)) = v41
      rw [h_v41] at x_39 bx_39
      refine px_lstore S2 d2_100 rfl (L' := #[.val (.long v18), .second, .val (.long v23), .second, .val (.long v28), .second, .val (.long v33), .second, .val (.long v38), .second, .val (.long v36), .second, .val (.long v41), .second, .val (.long c7), .second, .val (.ref a), .val (.long top), .second]) rfl ?_
      refine px_lload S2 d2_102 rfl rfl ?_
      refine px_ldc2 S2 (hw _ (List.mem_of_getElem? (i := 9) rfl)) d2_104 rfl ?_
      refine px_land S2 d2_107 rfl ?_
      have x_42 := (x_lmask 32 (by decide) (by decide) (by decide) : (v36 &&& (4294967295 : Int64)).toInt = v36.toInt % 4294967296)
      have bx_42 : (0 : Int) ≤ (v36 &&& (4294967295 : Int64)).toInt ∧ (v36 &&& (4294967295 : Int64)).toInt ≤ 4294967295 := by rw [x_42]; exact ib_mod 4294967296 (by decide) (by decide) (by decide)
      generalize h_v43 : (v36 &&& (4294967295 : Int64)) = v43
      rw [h_v43] at x_42 bx_42
      refine px_lstore S2 d2_108 rfl (L' := #[.val (.long v18), .second, .val (.long v23), .second, .val (.long v28), .second, .val (.long v33), .second, .val (.long v38), .second, .val (.long v43), .second, .val (.long v41), .second, .val (.long c7), .second, .val (.ref a), .val (.long top), .second]) rfl ?_
      refine px_lload S2 d2_110 rfl rfl ?_
      refine px_lload S2 d2_112 rfl rfl ?_
      refine px_bipush (v := (32 : Int32)) S2 d2_114 rfl rfl ?_
      refine px_lshr S2 d2_116 rfl ?_
      refine px_ladd S2 d2_117 rfl ?_
      have x_45 := (x_lshr 32 (by decide) (by decide) : (v41 >>> ((32 : Int32) &&& 0x3f).toInt64).toInt = v41.toInt / 4294967296)
      have bx_45 : (-3 : Int) ≤ (v41 >>> ((32 : Int32) &&& 0x3f).toInt64).toInt ∧ (v41 >>> ((32 : Int32) &&& 0x3f).toInt64).toInt ≤ 2 := by rw [x_45]; exact ib_div 4294967296 (by decide) bx_39 (by decide) (by decide)
      have x_44 := (x_ladd b_c7 bx_45 (by decide) (by decide) : (c7 + (v41 >>> ((32 : Int32) &&& 0x3f).toInt64)).toInt = c7.toInt + (v41 >>> ((32 : Int32) &&& 0x3f).toInt64).toInt)
      have bx_44 : (-8589934595 : Int) ≤ (c7 + (v41 >>> ((32 : Int32) &&& 0x3f).toInt64)).toInt ∧ (c7 + (v41 >>> ((32 : Int32) &&& 0x3f).toInt64)).toInt ≤ 8589934594 := by rw [x_44]; exact ib_add b_c7 bx_45 (by decide) (by decide)
      generalize h_v46 : (c7 + (v41 >>> ((32 : Int32) &&& 0x3f).toInt64)) = v46
      rw [h_v46] at x_44 bx_44
      refine px_lstore S2 d2_118 rfl (L' := #[.val (.long v18), .second, .val (.long v23), .second, .val (.long v28), .second, .val (.long v33), .second, .val (.long v38), .second, .val (.long v43), .second, .val (.long v41), .second, .val (.long v46), .second, .val (.ref a), .val (.long top), .second]) rfl ?_
      refine px_lload S2 d2_120 rfl rfl ?_
      refine px_ldc2 S2 (hw _ (List.mem_of_getElem? (i := 9) rfl)) d2_122 rfl ?_
      refine px_land S2 d2_125 rfl ?_
      have x_47 := (x_lmask 32 (by decide) (by decide) (by decide) : (v41 &&& (4294967295 : Int64)).toInt = v41.toInt % 4294967296)
      have bx_47 : (0 : Int) ≤ (v41 &&& (4294967295 : Int64)).toInt ∧ (v41 &&& (4294967295 : Int64)).toInt ≤ 4294967295 := by rw [x_47]; exact ib_mod 4294967296 (by decide) (by decide) (by decide)
      generalize h_v48 : (v41 &&& (4294967295 : Int64)) = v48
      rw [h_v48] at x_47 bx_47
      refine px_lstore S2 d2_126 rfl (L' := #[.val (.long v18), .second, .val (.long v23), .second, .val (.long v28), .second, .val (.long v33), .second, .val (.long v38), .second, .val (.long v43), .second, .val (.long v48), .second, .val (.long v46), .second, .val (.ref a), .val (.long top), .second]) rfl ?_
      refine px_lload S2 d2_128 rfl rfl ?_
      refine px_bipush (v := (32 : Int32)) S2 d2_130 rfl rfl ?_
      refine px_lshr S2 d2_132 rfl ?_
      have x_49 := (x_lshr 32 (by decide) (by decide) : (v46 >>> ((32 : Int32) &&& 0x3f).toInt64).toInt = v46.toInt / 4294967296)
      have bx_49 : (-3 : Int) ≤ (v46 >>> ((32 : Int32) &&& 0x3f).toInt64).toInt ∧ (v46 >>> ((32 : Int32) &&& 0x3f).toInt64).toInt ≤ 2 := by rw [x_49]; exact ib_div 4294967296 (by decide) bx_44 (by decide) (by decide)
      generalize h_v50 : (v46 >>> ((32 : Int32) &&& 0x3f).toInt64) = v50
      rw [h_v50] at x_49 bx_49
      refine px_lstore S2 d2_133 rfl (L' := #[.val (.long v18), .second, .val (.long v23), .second, .val (.long v28), .second, .val (.long v33), .second, .val (.long v38), .second, .val (.long v43), .second, .val (.long v48), .second, .val (.long v46), .second, .val (.ref a), .val (.long v50), .second]) rfl ?_
      refine px_lload S2 d2_135 rfl rfl ?_
      refine px_ldc2 S2 (hw _ (List.mem_of_getElem? (i := 9) rfl)) d2_137 rfl ?_
      refine px_land S2 d2_140 rfl ?_
      have x_51 := (x_lmask 32 (by decide) (by decide) (by decide) : (v46 &&& (4294967295 : Int64)).toInt = v46.toInt % 4294967296)
      have bx_51 : (0 : Int) ≤ (v46 &&& (4294967295 : Int64)).toInt ∧ (v46 &&& (4294967295 : Int64)).toInt ≤ 4294967295 := by rw [x_51]; exact ib_mod 4294967296 (by decide) (by decide) (by decide)
      generalize h_v52 : (v46 &&& (4294967295 : Int64)) = v52
      rw [h_v52] at x_51 bx_51
      refine px_lstore S2 d2_141 rfl (L' := #[.val (.long v18), .second, .val (.long v23), .second, .val (.long v28), .second, .val (.long v33), .second, .val (.long v38), .second, .val (.long v43), .second, .val (.long v48), .second, .val (.long v52), .second, .val (.ref a), .val (.long v50), .second]) rfl ?_
      refine px_lloadN S2 d2_143 rfl rfl ?_
      refine px_lload S2 d2_144 rfl rfl ?_
      refine px_ladd S2 d2_146 rfl ?_
      have x_53 := (x_ladd bx_16 bx_49 (by decide) (by decide) : (v18 + v50).toInt = v18.toInt + v50.toInt)
      have bx_53 : (-3 : Int) ≤ (v18 + v50).toInt ∧ (v18 + v50).toInt ≤ 4294967297 := by rw [x_53]; exact ib_add bx_16 bx_49 (by decide) (by decide)
      generalize h_v54 : (v18 + v50) = v54
      rw [h_v54] at x_53 bx_53
      refine px_lstoreN S2 d2_147 rfl (L' := #[.val (.long v54), .second, .val (.long v23), .second, .val (.long v28), .second, .val (.long v33), .second, .val (.long v38), .second, .val (.long v43), .second, .val (.long v48), .second, .val (.long v52), .second, .val (.ref a), .val (.long v50), .second]) rfl ?_
      refine px_lload S2 d2_148 rfl rfl ?_
      refine px_lload S2 d2_150 rfl rfl ?_
      refine px_lsub S2 d2_152 rfl ?_
      have x_55 := (x_lsub bx_32 bx_49 (by decide) (by decide) : (v33 - v50).toInt = v33.toInt - v50.toInt)
      have bx_55 : (-2 : Int) ≤ (v33 - v50).toInt ∧ (v33 - v50).toInt ≤ 4294967298 := by rw [x_55]; exact ib_sub bx_32 bx_49 (by decide) (by decide)
      generalize h_v56 : (v33 - v50) = v56
      rw [h_v56] at x_55 bx_55
      refine px_lstore S2 d2_153 rfl (L' := #[.val (.long v54), .second, .val (.long v23), .second, .val (.long v28), .second, .val (.long v56), .second, .val (.long v38), .second, .val (.long v43), .second, .val (.long v48), .second, .val (.long v52), .second, .val (.ref a), .val (.long v50), .second]) rfl ?_
      refine px_lload S2 d2_155 rfl rfl ?_
      refine px_lload S2 d2_157 rfl rfl ?_
      refine px_lsub S2 d2_159 rfl ?_
      have x_57 := (x_lsub bx_47 bx_49 (by decide) (by decide) : (v48 - v50).toInt = v48.toInt - v50.toInt)
      have bx_57 : (-2 : Int) ≤ (v48 - v50).toInt ∧ (v48 - v50).toInt ≤ 4294967298 := by rw [x_57]; exact ib_sub bx_47 bx_49 (by decide) (by decide)
      generalize h_v58 : (v48 - v50) = v58
      rw [h_v58] at x_57 bx_57
      refine px_lstore S2 d2_160 rfl (L' := #[.val (.long v54), .second, .val (.long v23), .second, .val (.long v28), .second, .val (.long v56), .second, .val (.long v38), .second, .val (.long v43), .second, .val (.long v58), .second, .val (.long v52), .second, .val (.ref a), .val (.long v50), .second]) rfl ?_
      refine px_lload S2 d2_162 rfl rfl ?_
      refine px_lload S2 d2_164 rfl rfl ?_
      refine px_ladd S2 d2_166 rfl ?_
      have x_59 := (x_ladd bx_51 bx_49 (by decide) (by decide) : (v52 + v50).toInt = v52.toInt + v50.toInt)
      have bx_59 : (-3 : Int) ≤ (v52 + v50).toInt ∧ (v52 + v50).toInt ≤ 4294967297 := by rw [x_59]; exact ib_add bx_51 bx_49 (by decide) (by decide)
      generalize h_v60 : (v52 + v50) = v60
      rw [h_v60] at x_59 bx_59
      refine px_lstore S2 d2_167 rfl (L' := #[.val (.long v54), .second, .val (.long v23), .second, .val (.long v28), .second, .val (.long v56), .second, .val (.long v38), .second, .val (.long v43), .second, .val (.long v58), .second, .val (.long v60), .second, .val (.ref a), .val (.long v50), .second]) rfl ?_
      refine px_goto S2 d2_169 (by decide) (pc' := 3) rfl ?_
      have hs := nstep (by rw [x_12, x_13] : v15.toInt = c1.toInt + c0.toInt / 4294967296) (by rw [x_19, x_20] : v21.toInt = c2.toInt + v15.toInt / 4294967296) (by rw [x_24, x_25] : v26.toInt = c3.toInt + v21.toInt / 4294967296) (by rw [x_29, x_30] : v31.toInt = c4.toInt + v26.toInt / 4294967296) (by rw [x_34, x_35] : v36.toInt = c5.toInt + v31.toInt / 4294967296) (by rw [x_39, x_40] : v41.toInt = c6.toInt + v36.toInt / 4294967296) (by rw [x_44, x_45] : v46.toInt = c7.toInt + v41.toInt / 4294967296) (x_49 : v50.toInt = v46.toInt / 4294967296)
      have hT : v50.toInt = V / 115792089237316195423570985008687907853269984665640564039457584007913129639936 := by rw [hV]; exact hs.1
      have hN : v54.toInt + v23.toInt * 4294967296 + v28.toInt * 18446744073709551616 + v56.toInt * 79228162514264337593543950336 + v38.toInt * 340282366920938463463374607431768211456 + v43.toInt * 1461501637330902918203684832716283019655932542976 + v58.toInt * 6277101735386680763835789423207666416102355444464034512896 + v60.toInt * 26959946667150639794667015087019630673637144422540572481103610249216 = V - v50.toInt * 115792089210356248762697446949407573530086143415290314195533631308867097853951 := by rw [hV, ← hs.2, x_53, x_55, x_57, x_59, x_16, x_22, x_27, x_32, x_37, x_42, x_47, x_51]
      have hF : fV V = v54.toInt + v23.toInt * 4294967296 + v28.toInt * 18446744073709551616 + v56.toInt * 79228162514264337593543950336 + v38.toInt * 340282366920938463463374607431768211456 + v43.toInt * 1461501637330902918203684832716283019655932542976 + v58.toInt * 6277101735386680763835789423207666416102355444464034512896 + v60.toInt * 26959946667150639794667015087019630673637144422540572481103610249216 := by unfold fV; rw [← hT]; exact hN.symm
      by_cases hz : v50.toInt = 0
      · refine IHJ1 0 (by rcases hI2 with ⟨rfl, _⟩ | ⟨rfl, _⟩ | ⟨rfl, _⟩ <;> decide) (v54, v23, v28, v56, v38, v43, v58, v60, v50, v54.toInt + v23.toInt * 4294967296 + v28.toInt * 18446744073709551616 + v56.toInt * 79228162514264337593543950336 + v38.toInt * 340282366920938463463374607431768211456 + v43.toInt * 1461501637330902918203684832716283019655932542976 + v58.toInt * 6277101735386680763835789423207666416102355444464034512896 + v60.toInt * 26959946667150639794667015087019630673637144422540572481103610249216) _ _ S2 ⟨rfl, rfl, ⟨nw bx_53 (by decide) (by decide), nw bx_22 (by decide) (by decide), nw bx_27 (by decide) (by decide), nw bx_55 (by decide) (by decide), nw bx_37 (by decide) (by decide), nw bx_42 (by decide) (by decide), nw bx_57 (by decide) (by decide), nw bx_59 (by decide) (by decide)⟩, Or.inl ⟨hz, ⟨nz_a x_53 bx_16 hz, nz_i bx_22, nz_i bx_27, nz_s x_55 bx_32 hz, nz_i bx_37, nz_i bx_42, nz_s x_57 bx_47 hz, nz_a x_59 bx_51 hz⟩, ?_⟩⟩
        have e : fV V = V := fV_same (nb0 hT hz).1 (nb0 hT hz).2
        show v54.toInt + v23.toInt * 4294967296 + v28.toInt * 18446744073709551616 + v56.toInt * 79228162514264337593543950336 + v38.toInt * 340282366920938463463374607431768211456 + v43.toInt * 1461501637330902918203684832716283019655932542976 + v58.toInt * 6277101735386680763835789423207666416102355444464034512896 + v60.toInt * 26959946667150639794667015087019630673637144422540572481103610249216 = W
        rw [← hF]
        rcases hI2 with ⟨_, q1, q2, q3⟩ | ⟨_, q1, q2, q3⟩ | ⟨_, q1, q2, q3⟩ <;> simp only [q3, e]
      · rcases hI2 with ⟨rfl, q1, q2, q3⟩ | ⟨rfl, q1, q2, q3⟩ | ⟨rfl, q1, q2, q3⟩
        · exact IHJ1 2 (by decide) (v54, v23, v28, v56, v38, v43, v58, v60, v50, v54.toInt + v23.toInt * 4294967296 + v28.toInt * 18446744073709551616 + v56.toInt * 79228162514264337593543950336 + v38.toInt * 340282366920938463463374607431768211456 + v43.toInt * 1461501637330902918203684832716283019655932542976 + v58.toInt * 6277101735386680763835789423207666416102355444464034512896 + v60.toInt * 26959946667150639794667015087019630673637144422540572481103610249216) _ _ S2 ⟨rfl, rfl, ⟨nw bx_53 (by decide) (by decide), nw bx_22 (by decide) (by decide), nw bx_27 (by decide) (by decide), nw bx_55 (by decide) (by decide), nw bx_37 (by decide) (by decide), nw bx_42 (by decide) (by decide), nw bx_57 (by decide) (by decide), nw bx_59 (by decide) (by decide)⟩, Or.inr ⟨hz, Or.inr (Or.inl ⟨rfl, (nb3 hT hN q1 q2).1, (nb3 hT hN q1 q2).2, by rw [q3, hF]⟩)⟩⟩
        · exact IHJ1 1 (by decide) (v54, v23, v28, v56, v38, v43, v58, v60, v50, v54.toInt + v23.toInt * 4294967296 + v28.toInt * 18446744073709551616 + v56.toInt * 79228162514264337593543950336 + v38.toInt * 340282366920938463463374607431768211456 + v43.toInt * 1461501637330902918203684832716283019655932542976 + v58.toInt * 6277101735386680763835789423207666416102355444464034512896 + v60.toInt * 26959946667150639794667015087019630673637144422540572481103610249216) _ _ S2 ⟨rfl, rfl, ⟨nw bx_53 (by decide) (by decide), nw bx_22 (by decide) (by decide), nw bx_27 (by decide) (by decide), nw bx_55 (by decide) (by decide), nw bx_37 (by decide) (by decide), nw bx_42 (by decide) (by decide), nw bx_57 (by decide) (by decide), nw bx_59 (by decide) (by decide)⟩, Or.inr ⟨hz, Or.inr (Or.inr ⟨rfl, (nb2 hT hN q1 q2).1, (nb2 hT hN q1 q2).2, by rw [q3, hF]⟩)⟩⟩
        · exact absurd (nb1 hT q1 q2) hz
  · exact J1 3 (k0, k1, k2, k3, k4, k5, k6, k7, (1 : Int64), _) _ _ S0 ⟨rfl, rfl, ⟨hb0, hb1, hb2, hb3, hb4, hb5, hb6, hb7⟩, Or.inr ⟨show ¬ (1 : Int64).toInt = 0 from by decide, Or.inl ⟨rfl, hV0.1, hV0.2, hW⟩⟩⟩
theorem d1_0 : decode prog_24_method_6_code 0 = .ok (.aload_n 0, 1) := by decide +kernel
theorem d1_1 : decode prog_24_method_6_code 1 = .ok (.iconst 0, 1) := by decide +kernel
theorem d1_2 : decode prog_24_method_6_code 2 = .ok (.laload, 1) := by decide +kernel
theorem d1_3 : decode prog_24_method_6_code 3 = .ok (.aload_n 1, 1) := by decide +kernel
theorem d1_4 : decode prog_24_method_6_code 4 = .ok (.iconst 0, 1) := by decide +kernel
theorem d1_5 : decode prog_24_method_6_code 5 = .ok (.laload, 1) := by decide +kernel
theorem d1_6 : decode prog_24_method_6_code 6 = .ok (.ladd, 1) := by decide +kernel
theorem d1_7 : decode prog_24_method_6_code 7 = .ok (.aload_n 0, 1) := by decide +kernel
theorem d1_8 : decode prog_24_method_6_code 8 = .ok (.iconst 1, 1) := by decide +kernel
theorem d1_9 : decode prog_24_method_6_code 9 = .ok (.laload, 1) := by decide +kernel
theorem d1_10 : decode prog_24_method_6_code 10 = .ok (.aload_n 1, 1) := by decide +kernel
theorem d1_11 : decode prog_24_method_6_code 11 = .ok (.iconst 1, 1) := by decide +kernel
theorem d1_12 : decode prog_24_method_6_code 12 = .ok (.laload, 1) := by decide +kernel
theorem d1_13 : decode prog_24_method_6_code 13 = .ok (.ladd, 1) := by decide +kernel
theorem d1_14 : decode prog_24_method_6_code 14 = .ok (.aload_n 0, 1) := by decide +kernel
theorem d1_15 : decode prog_24_method_6_code 15 = .ok (.iconst 2, 1) := by decide +kernel
theorem d1_16 : decode prog_24_method_6_code 16 = .ok (.laload, 1) := by decide +kernel
theorem d1_17 : decode prog_24_method_6_code 17 = .ok (.aload_n 1, 1) := by decide +kernel
theorem d1_18 : decode prog_24_method_6_code 18 = .ok (.iconst 2, 1) := by decide +kernel
theorem d1_19 : decode prog_24_method_6_code 19 = .ok (.laload, 1) := by decide +kernel
theorem d1_20 : decode prog_24_method_6_code 20 = .ok (.ladd, 1) := by decide +kernel
theorem d1_21 : decode prog_24_method_6_code 21 = .ok (.aload_n 0, 1) := by decide +kernel
theorem d1_22 : decode prog_24_method_6_code 22 = .ok (.iconst 3, 1) := by decide +kernel
theorem d1_23 : decode prog_24_method_6_code 23 = .ok (.laload, 1) := by decide +kernel
theorem d1_24 : decode prog_24_method_6_code 24 = .ok (.aload_n 1, 1) := by decide +kernel
theorem d1_25 : decode prog_24_method_6_code 25 = .ok (.iconst 3, 1) := by decide +kernel
theorem d1_26 : decode prog_24_method_6_code 26 = .ok (.laload, 1) := by decide +kernel
theorem d1_27 : decode prog_24_method_6_code 27 = .ok (.ladd, 1) := by decide +kernel
theorem d1_28 : decode prog_24_method_6_code 28 = .ok (.aload_n 0, 1) := by decide +kernel
theorem d1_29 : decode prog_24_method_6_code 29 = .ok (.iconst 4, 1) := by decide +kernel
theorem d1_30 : decode prog_24_method_6_code 30 = .ok (.laload, 1) := by decide +kernel
theorem d1_31 : decode prog_24_method_6_code 31 = .ok (.aload_n 1, 1) := by decide +kernel
theorem d1_32 : decode prog_24_method_6_code 32 = .ok (.iconst 4, 1) := by decide +kernel
theorem d1_33 : decode prog_24_method_6_code 33 = .ok (.laload, 1) := by decide +kernel
theorem d1_34 : decode prog_24_method_6_code 34 = .ok (.ladd, 1) := by decide +kernel
theorem d1_35 : decode prog_24_method_6_code 35 = .ok (.aload_n 0, 1) := by decide +kernel
theorem d1_36 : decode prog_24_method_6_code 36 = .ok (.iconst 5, 1) := by decide +kernel
theorem d1_37 : decode prog_24_method_6_code 37 = .ok (.laload, 1) := by decide +kernel
theorem d1_38 : decode prog_24_method_6_code 38 = .ok (.aload_n 1, 1) := by decide +kernel
theorem d1_39 : decode prog_24_method_6_code 39 = .ok (.iconst 5, 1) := by decide +kernel
theorem d1_40 : decode prog_24_method_6_code 40 = .ok (.laload, 1) := by decide +kernel
theorem d1_41 : decode prog_24_method_6_code 41 = .ok (.ladd, 1) := by decide +kernel
theorem d1_42 : decode prog_24_method_6_code 42 = .ok (.aload_n 0, 1) := by decide +kernel
theorem d1_43 : decode prog_24_method_6_code 43 = .ok (.bipush 6, 2) := by decide +kernel
theorem d1_45 : decode prog_24_method_6_code 45 = .ok (.laload, 1) := by decide +kernel
theorem d1_46 : decode prog_24_method_6_code 46 = .ok (.aload_n 1, 1) := by decide +kernel
theorem d1_47 : decode prog_24_method_6_code 47 = .ok (.bipush 6, 2) := by decide +kernel
theorem d1_49 : decode prog_24_method_6_code 49 = .ok (.laload, 1) := by decide +kernel
theorem d1_50 : decode prog_24_method_6_code 50 = .ok (.ladd, 1) := by decide +kernel
theorem d1_51 : decode prog_24_method_6_code 51 = .ok (.aload_n 0, 1) := by decide +kernel
theorem d1_52 : decode prog_24_method_6_code 52 = .ok (.bipush 7, 2) := by decide +kernel
theorem d1_54 : decode prog_24_method_6_code 54 = .ok (.laload, 1) := by decide +kernel
theorem d1_55 : decode prog_24_method_6_code 55 = .ok (.aload_n 1, 1) := by decide +kernel
theorem d1_56 : decode prog_24_method_6_code 56 = .ok (.bipush 7, 2) := by decide +kernel
theorem d1_58 : decode prog_24_method_6_code 58 = .ok (.laload, 1) := by decide +kernel
theorem d1_59 : decode prog_24_method_6_code 59 = .ok (.ladd, 1) := by decide +kernel
theorem d1_60 : decode prog_24_method_6_code 60 = .ok (.aload_n 2, 1) := by decide +kernel
theorem d1_61 : decode prog_24_method_6_code 61 = .ok (.invokestatic 63, 3) := by decide +kernel
theorem d1_64 : decode prog_24_method_6_code 64 = .ok (.return_, 1) := by decide +kernel
theorem pd_1_0 : parseMethodDescriptor "(JJJJJJJJ[J)V" = some ⟨[.long, .long, .long, .long, .long, .long, .long, .long, (.array .long)], none⟩ := by decide +kernel
theorem pn_1 : plainFor (⟨"com/example/gatewarden/gatewarden/P256Field", "add", "([J[J[J)V"⟩ : MethodName) = true := plainFor_of_name (by first | (simp [plainName, overriddenIn]; done) | decide +kernel)
set_option maxRecDepth 65536 in
set_option maxHeartbeats 40000000 in
theorem c_add {Z : State} {a0 : Array Value} (hw : ∀ d ∈ tables_1, d.before a0 Z = true) {a b r : Addr} {x0 x1 x2 x3 x4 x5 x6 x7 y0 y1 y2 y3 y4 y5 y6 y7 : Int64} {fa fb fr : Nat → Int64} {h0 : Heap} {n0 : Nat} (Z0 : n0 ≤ h0.size) (A1 : AJ Z h0 a 8 fa) (A2 : AJ Z h0 b 8 fb) (A3 : AJ Z h0 r 8 fr) (g_r : n0 ≤ r) (e_x0 : fa 0 = x0) (e_x1 : fa 1 = x1) (e_x2 : fa 2 = x2) (e_x3 : fa 3 = x3) (e_x4 : fa 4 = x4) (e_x5 : fa 5 = x5) (e_x6 : fa 6 = x6) (e_x7 : fa 7 = x7) (e_y0 : fb 0 = y0) (e_y1 : fb 1 = y1) (e_y2 : fb 2 = y2) (e_y3 : fb 3 = y3) (e_y4 : fb 4 = y4) (e_y5 : fb 5 = y5) (e_y6 : fb 6 = y6) (e_y7 : fb 7 = y7) (r_x0 : 0 ≤ x0.toInt ∧ x0.toInt < 4294967296) (r_x1 : 0 ≤ x1.toInt ∧ x1.toInt < 4294967296) (r_x2 : 0 ≤ x2.toInt ∧ x2.toInt < 4294967296) (r_x3 : 0 ≤ x3.toInt ∧ x3.toInt < 4294967296) (r_x4 : 0 ≤ x4.toInt ∧ x4.toInt < 4294967296) (r_x5 : 0 ≤ x5.toInt ∧ x5.toInt < 4294967296) (r_x6 : 0 ≤ x6.toInt ∧ x6.toInt < 4294967296) (r_x7 : 0 ≤ x7.toInt ∧ x7.toInt < 4294967296) (r_y0 : 0 ≤ y0.toInt ∧ y0.toInt < 4294967296) (r_y1 : 0 ≤ y1.toInt ∧ y1.toInt < 4294967296) (r_y2 : 0 ≤ y2.toInt ∧ y2.toInt < 4294967296) (r_y3 : 0 ≤ y3.toInt ∧ y3.toInt < 4294967296) (r_y4 : 0 ≤ y4.toInt ∧ y4.toInt < 4294967296) (r_y5 : 0 ≤ y5.toInt ∧ y5.toInt < 4294967296) (r_y6 : 0 ≤ y6.toInt ∧ y6.toInt < 4294967296) (r_y7 : 0 ≤ y7.toInt ∧ y7.toInt < 4294967296) :
    Ctr Z n0 (⟨"com/example/gatewarden/gatewarden/P256Field", "add", "([J[J[J)V"⟩ : MethodName) prog_24_method_6_code 3 none ({ frames := 1, cells := 0, slots := 0, locals := 30 } : Room) [(.ref a), (.ref b), (.ref r)] h0 (fun v h => v = none ∧ Keep h0 h [r] ∧ ∃ g0 g1 g2 g3 g4 g5 g6 g7 : Int64, AJ Z h r 8 (A8 g0 g1 g2 g3 g4 g5 g6 g7) ∧ ((0 ≤ g0.toInt ∧ g0.toInt < 4294967296) ∧ (0 ≤ g1.toInt ∧ g1.toInt < 4294967296) ∧ (0 ≤ g2.toInt ∧ g2.toInt < 4294967296) ∧ (0 ≤ g3.toInt ∧ g3.toInt < 4294967296) ∧ (0 ≤ g4.toInt ∧ g4.toInt < 4294967296) ∧ (0 ≤ g5.toInt ∧ g5.toInt < 4294967296) ∧ (0 ≤ g6.toInt ∧ g6.toInt < 4294967296) ∧ (0 ≤ g7.toInt ∧ g7.toInt < 4294967296)) ∧ g0.toInt + g1.toInt * 4294967296 + g2.toInt * 18446744073709551616 + g3.toInt * 79228162514264337593543950336 + g4.toInt * 340282366920938463463374607431768211456 + g5.toInt * 1461501637330902918203684832716283019655932542976 + g6.toInt * 6277101735386680763835789423207666416102355444464034512896 + g7.toInt * 26959946667150639794667015087019630673637144422540572481103610249216 = fV (fV (fV ((x0.toInt + x1.toInt * 4294967296 + x2.toInt * 18446744073709551616 + x3.toInt * 79228162514264337593543950336 + x4.toInt * 340282366920938463463374607431768211456 + x5.toInt * 1461501637330902918203684832716283019655932542976 + x6.toInt * 6277101735386680763835789423207666416102355444464034512896 + x7.toInt * 26959946667150639794667015087019630673637144422540572481103610249216) + (y0.toInt + y1.toInt * 4294967296 + y2.toInt * 18446744073709551616 + y3.toInt * 79228162514264337593543950336 + y4.toInt * 340282366920938463463374607431768211456 + y5.toInt * 1461501637330902918203684832716283019655932542976 + y6.toInt * 6277101735386680763835789423207666416102355444464034512896 + y7.toInt * 26959946667150639794667015087019630673637144422540572481103610249216))))) := by
  refine Ctr.of (L := #[.val (.ref a), .val (.ref b), .val (.ref r)]) pn_1 Z0 (fun m => by first | (simp [entryFrame, mkF, argsToLocals, Value.category]; done) | rfl) ?_
  intro K T S0
  refine px_aloadN S0 d1_0 rfl rfl rfl ?_
  refine px_iconst (v := (0 : Int32)) S0 d1_1 rfl rfl ?_
  refine px_laload (v := x0) S0 A1 (i := 0) rfl (by decide) e_x0 d1_2 rfl ?_
  refine px_aloadN S0 d1_3 rfl rfl rfl ?_
  refine px_iconst (v := (0 : Int32)) S0 d1_4 rfl rfl ?_
  refine px_laload (v := y0) S0 A2 (i := 0) rfl (by decide) e_y0 d1_5 rfl ?_
  refine px_ladd S0 d1_6 rfl ?_
  refine px_aloadN S0 d1_7 rfl rfl rfl ?_
  refine px_iconst (v := (1 : Int32)) S0 d1_8 rfl rfl ?_
  refine px_laload (v := x1) S0 A1 (i := 1) rfl (by decide) e_x1 d1_9 rfl ?_
  refine px_aloadN S0 d1_10 rfl rfl rfl ?_
  refine px_iconst (v := (1 : Int32)) S0 d1_11 rfl rfl ?_
  refine px_laload (v := y1) S0 A2 (i := 1) rfl (by decide) e_y1 d1_12 rfl ?_
  refine px_ladd S0 d1_13 rfl ?_
  refine px_aloadN S0 d1_14 rfl rfl rfl ?_
  refine px_iconst (v := (2 : Int32)) S0 d1_15 rfl rfl ?_
  refine px_laload (v := x2) S0 A1 (i := 2) rfl (by decide) e_x2 d1_16 rfl ?_
  refine px_aloadN S0 d1_17 rfl rfl rfl ?_
  refine px_iconst (v := (2 : Int32)) S0 d1_18 rfl rfl ?_
  refine px_laload (v := y2) S0 A2 (i := 2) rfl (by decide) e_y2 d1_19 rfl ?_
  refine px_ladd S0 d1_20 rfl ?_
  refine px_aloadN S0 d1_21 rfl rfl rfl ?_
  refine px_iconst (v := (3 : Int32)) S0 d1_22 rfl rfl ?_
  refine px_laload (v := x3) S0 A1 (i := 3) rfl (by decide) e_x3 d1_23 rfl ?_
  refine px_aloadN S0 d1_24 rfl rfl rfl ?_
  refine px_iconst (v := (3 : Int32)) S0 d1_25 rfl rfl ?_
  refine px_laload (v := y3) S0 A2 (i := 3) rfl (by decide) e_y3 d1_26 rfl ?_
  refine px_ladd S0 d1_27 rfl ?_
  refine px_aloadN S0 d1_28 rfl rfl rfl ?_
  refine px_iconst (v := (4 : Int32)) S0 d1_29 rfl rfl ?_
  refine px_laload (v := x4) S0 A1 (i := 4) rfl (by decide) e_x4 d1_30 rfl ?_
  refine px_aloadN S0 d1_31 rfl rfl rfl ?_
  refine px_iconst (v := (4 : Int32)) S0 d1_32 rfl rfl ?_
  refine px_laload (v := y4) S0 A2 (i := 4) rfl (by decide) e_y4 d1_33 rfl ?_
  refine px_ladd S0 d1_34 rfl ?_
  refine px_aloadN S0 d1_35 rfl rfl rfl ?_
  refine px_iconst (v := (5 : Int32)) S0 d1_36 rfl rfl ?_
  refine px_laload (v := x5) S0 A1 (i := 5) rfl (by decide) e_x5 d1_37 rfl ?_
  refine px_aloadN S0 d1_38 rfl rfl rfl ?_
  refine px_iconst (v := (5 : Int32)) S0 d1_39 rfl rfl ?_
  refine px_laload (v := y5) S0 A2 (i := 5) rfl (by decide) e_y5 d1_40 rfl ?_
  refine px_ladd S0 d1_41 rfl ?_
  refine px_aloadN S0 d1_42 rfl rfl rfl ?_
  refine px_bipush (v := (6 : Int32)) S0 d1_43 rfl rfl ?_
  refine px_laload (v := x6) S0 A1 (i := 6) rfl (by decide) e_x6 d1_45 rfl ?_
  refine px_aloadN S0 d1_46 rfl rfl rfl ?_
  refine px_bipush (v := (6 : Int32)) S0 d1_47 rfl rfl ?_
  refine px_laload (v := y6) S0 A2 (i := 6) rfl (by decide) e_y6 d1_49 rfl ?_
  refine px_ladd S0 d1_50 rfl ?_
  refine px_aloadN S0 d1_51 rfl rfl rfl ?_
  refine px_bipush (v := (7 : Int32)) S0 d1_52 rfl rfl ?_
  refine px_laload (v := x7) S0 A1 (i := 7) rfl (by decide) e_x7 d1_54 rfl ?_
  refine px_aloadN S0 d1_55 rfl rfl rfl ?_
  refine px_bipush (v := (7 : Int32)) S0 d1_56 rfl rfl ?_
  refine px_laload (v := y7) S0 A2 (i := 7) rfl (by decide) e_y7 d1_58 rfl ?_
  refine px_ladd S0 d1_59 rfl ?_
  refine px_aloadN S0 d1_60 rfl rfl rfl ?_
  have hS : (x0 + y0).toInt + (x1 + y1).toInt * 4294967296 + (x2 + y2).toInt * 18446744073709551616 + (x3 + y3).toInt * 79228162514264337593543950336 + (x4 + y4).toInt * 340282366920938463463374607431768211456 + (x5 + y5).toInt * 1461501637330902918203684832716283019655932542976 + (x6 + y6).toInt * 6277101735386680763835789423207666416102355444464034512896 + (x7 + y7).toInt * 26959946667150639794667015087019630673637144422540572481103610249216 = (x0.toInt + x1.toInt * 4294967296 + x2.toInt * 18446744073709551616 + x3.toInt * 79228162514264337593543950336 + x4.toInt * 340282366920938463463374607431768211456 + x5.toInt * 1461501637330902918203684832716283019655932542976 + x6.toInt * 6277101735386680763835789423207666416102355444464034512896 + x7.toInt * 26959946667150639794667015087019630673637144422540572481103610249216) + (y0.toInt + y1.toInt * 4294967296 + y2.toInt * 18446744073709551616 + y3.toInt * 79228162514264337593543950336 + y4.toInt * 340282366920938463463374607431768211456 + y5.toInt * 1461501637330902918203684832716283019655932542976 + y6.toInt * 6277101735386680763835789423207666416102355444464034512896 + y7.toInt * 26959946667150639794667015087019630673637144422540572481103610249216) := by rw [sadd r_x0 r_y0, sadd r_x1 r_y1, sadd r_x2 r_y2, sadd r_x3 r_y3, sadd r_x4 r_y4, sadd r_x5 r_y5, sadd r_x6 r_y6, sadd r_x7 r_y7]; exact vadd
  refine px_callS (as' := [(.long (x0 + y0)), (.long (x1 + y1)), (.long (x2 + y2)), (.long (x3 + y3)), (.long (x4 + y4)), (.long (x5 + y5)), (.long (x6 + y6)), (.long (x7 + y7)), (.ref r)]) (st := []) (W := 0) S0 (c_norm (f := fr) hw S0.size (bs (sadd r_x0 r_y0) r_x0 r_y0) (bs (sadd r_x1 r_y1) r_x1 r_y1) (bs (sadd r_x2 r_y2) r_x2 r_y2) (bs (sadd r_x3 r_y3) r_x3 r_y3) (bs (sadd r_x4 r_y4) r_x4 r_y4) (bs (sadd r_x5 r_y5) r_x5 r_y5) (bs (sadd r_x6 r_y6) r_x6 r_y6) (bs (sadd r_x7 r_y7) r_x7 r_y7) (by rw [hS]; exact va (vb r_x0 r_x1 r_x2 r_x3 r_x4 r_x5 r_x6 r_x7) (vb r_y0 r_y1 r_y2 r_y3 r_y4 r_y5 r_y6 r_y7)) A3 g_r) (hw _ (List.mem_of_getElem? (i := 6) rfl)) (hw _ (List.mem_of_getElem? (i := 7) rfl)) (hw _ (List.mem_of_getElem? (i := 4) rfl)) (hw _ (List.mem_of_getElem? (i := 8) rfl)) (by decide) pd_1_0 rfl rfl (by decide) rfl (by decide) (by decide) (by decide) d1_61 rfl rfl (fun T1 h1 v1 S1 q1 => ?_)
  rw [hS] at q1
  obtain ⟨rfl, q1⟩ := q1
  show Go _ _ _ _ _ _ _ []
  exact px_return S1 d1_64 rfl (by decide) (by decide) (⟨rfl, q1⟩)
theorem d3_0 : decode method_3_code 0 = .ok (.ldc2_w 7, 3) := by decide +kernel
theorem d3_3 : decode method_3_code 3 = .ok (.lstore_n 1, 1) := by decide +kernel
theorem d3_4 : decode method_3_code 4 = .ok (.aload_n 0, 1) := by decide +kernel
theorem d3_5 : decode method_3_code 5 = .ok (.iconst 0, 1) := by decide +kernel
theorem d3_6 : decode method_3_code 6 = .ok (.laload, 1) := by decide +kernel
theorem d3_7 : decode method_3_code 7 = .ok (.lconst 0, 1) := by decide +kernel
theorem d3_8 : decode method_3_code 8 = .ok (.lcmp, 1) := by decide +kernel
theorem d3_9 : decode method_3_code 9 = .ok (.ifCond .lt 131, 3) := by decide +kernel
theorem d3_12 : decode method_3_code 12 = .ok (.aload_n 0, 1) := by decide +kernel
theorem d3_13 : decode method_3_code 13 = .ok (.iconst 0, 1) := by decide +kernel
theorem d3_14 : decode method_3_code 14 = .ok (.laload, 1) := by decide +kernel
theorem d3_15 : decode method_3_code 15 = .ok (.lload_n 1, 1) := by decide +kernel
theorem d3_16 : decode method_3_code 16 = .ok (.lcmp, 1) := by decide +kernel
theorem d3_17 : decode method_3_code 17 = .ok (.ifCond .gt 123, 3) := by decide +kernel
theorem d3_20 : decode method_3_code 20 = .ok (.aload_n 0, 1) := by decide +kernel
theorem d3_21 : decode method_3_code 21 = .ok (.iconst 1, 1) := by decide +kernel
theorem d3_22 : decode method_3_code 22 = .ok (.laload, 1) := by decide +kernel
theorem d3_23 : decode method_3_code 23 = .ok (.lconst 0, 1) := by decide +kernel
theorem d3_24 : decode method_3_code 24 = .ok (.lcmp, 1) := by decide +kernel
theorem d3_25 : decode method_3_code 25 = .ok (.ifCond .lt 115, 3) := by decide +kernel
theorem d3_28 : decode method_3_code 28 = .ok (.aload_n 0, 1) := by decide +kernel
theorem d3_29 : decode method_3_code 29 = .ok (.iconst 1, 1) := by decide +kernel
theorem d3_30 : decode method_3_code 30 = .ok (.laload, 1) := by decide +kernel
theorem d3_31 : decode method_3_code 31 = .ok (.lload_n 1, 1) := by decide +kernel
theorem d3_32 : decode method_3_code 32 = .ok (.lcmp, 1) := by decide +kernel
theorem d3_33 : decode method_3_code 33 = .ok (.ifCond .gt 107, 3) := by decide +kernel
theorem d3_36 : decode method_3_code 36 = .ok (.aload_n 0, 1) := by decide +kernel
theorem d3_37 : decode method_3_code 37 = .ok (.iconst 2, 1) := by decide +kernel
theorem d3_38 : decode method_3_code 38 = .ok (.laload, 1) := by decide +kernel
theorem d3_39 : decode method_3_code 39 = .ok (.lconst 0, 1) := by decide +kernel
theorem d3_40 : decode method_3_code 40 = .ok (.lcmp, 1) := by decide +kernel
theorem d3_41 : decode method_3_code 41 = .ok (.ifCond .lt 99, 3) := by decide +kernel
theorem d3_44 : decode method_3_code 44 = .ok (.aload_n 0, 1) := by decide +kernel
theorem d3_45 : decode method_3_code 45 = .ok (.iconst 2, 1) := by decide +kernel
theorem d3_46 : decode method_3_code 46 = .ok (.laload, 1) := by decide +kernel
theorem d3_47 : decode method_3_code 47 = .ok (.lload_n 1, 1) := by decide +kernel
theorem d3_48 : decode method_3_code 48 = .ok (.lcmp, 1) := by decide +kernel
theorem d3_49 : decode method_3_code 49 = .ok (.ifCond .gt 91, 3) := by decide +kernel
theorem d3_52 : decode method_3_code 52 = .ok (.aload_n 0, 1) := by decide +kernel
theorem d3_53 : decode method_3_code 53 = .ok (.iconst 3, 1) := by decide +kernel
theorem d3_54 : decode method_3_code 54 = .ok (.laload, 1) := by decide +kernel
theorem d3_55 : decode method_3_code 55 = .ok (.lconst 0, 1) := by decide +kernel
theorem d3_56 : decode method_3_code 56 = .ok (.lcmp, 1) := by decide +kernel
theorem d3_57 : decode method_3_code 57 = .ok (.ifCond .lt 83, 3) := by decide +kernel
theorem d3_60 : decode method_3_code 60 = .ok (.aload_n 0, 1) := by decide +kernel
theorem d3_61 : decode method_3_code 61 = .ok (.iconst 3, 1) := by decide +kernel
theorem d3_62 : decode method_3_code 62 = .ok (.laload, 1) := by decide +kernel
theorem d3_63 : decode method_3_code 63 = .ok (.lload_n 1, 1) := by decide +kernel
theorem d3_64 : decode method_3_code 64 = .ok (.lcmp, 1) := by decide +kernel
theorem d3_65 : decode method_3_code 65 = .ok (.ifCond .gt 75, 3) := by decide +kernel
theorem d3_68 : decode method_3_code 68 = .ok (.aload_n 0, 1) := by decide +kernel
theorem d3_69 : decode method_3_code 69 = .ok (.iconst 4, 1) := by decide +kernel
theorem d3_70 : decode method_3_code 70 = .ok (.laload, 1) := by decide +kernel
theorem d3_71 : decode method_3_code 71 = .ok (.lconst 0, 1) := by decide +kernel
theorem d3_72 : decode method_3_code 72 = .ok (.lcmp, 1) := by decide +kernel
theorem d3_73 : decode method_3_code 73 = .ok (.ifCond .lt 67, 3) := by decide +kernel
theorem d3_76 : decode method_3_code 76 = .ok (.aload_n 0, 1) := by decide +kernel
theorem d3_77 : decode method_3_code 77 = .ok (.iconst 4, 1) := by decide +kernel
theorem d3_78 : decode method_3_code 78 = .ok (.laload, 1) := by decide +kernel
theorem d3_79 : decode method_3_code 79 = .ok (.lload_n 1, 1) := by decide +kernel
theorem d3_80 : decode method_3_code 80 = .ok (.lcmp, 1) := by decide +kernel
theorem d3_81 : decode method_3_code 81 = .ok (.ifCond .gt 59, 3) := by decide +kernel
theorem d3_84 : decode method_3_code 84 = .ok (.aload_n 0, 1) := by decide +kernel
theorem d3_85 : decode method_3_code 85 = .ok (.iconst 5, 1) := by decide +kernel
theorem d3_86 : decode method_3_code 86 = .ok (.laload, 1) := by decide +kernel
theorem d3_87 : decode method_3_code 87 = .ok (.lconst 0, 1) := by decide +kernel
theorem d3_88 : decode method_3_code 88 = .ok (.lcmp, 1) := by decide +kernel
theorem d3_89 : decode method_3_code 89 = .ok (.ifCond .lt 51, 3) := by decide +kernel
theorem d3_92 : decode method_3_code 92 = .ok (.aload_n 0, 1) := by decide +kernel
theorem d3_93 : decode method_3_code 93 = .ok (.iconst 5, 1) := by decide +kernel
theorem d3_94 : decode method_3_code 94 = .ok (.laload, 1) := by decide +kernel
theorem d3_95 : decode method_3_code 95 = .ok (.lload_n 1, 1) := by decide +kernel
theorem d3_96 : decode method_3_code 96 = .ok (.lcmp, 1) := by decide +kernel
theorem d3_97 : decode method_3_code 97 = .ok (.ifCond .gt 43, 3) := by decide +kernel
theorem d3_100 : decode method_3_code 100 = .ok (.aload_n 0, 1) := by decide +kernel
theorem d3_101 : decode method_3_code 101 = .ok (.bipush 6, 2) := by decide +kernel
theorem d3_103 : decode method_3_code 103 = .ok (.laload, 1) := by decide +kernel
theorem d3_104 : decode method_3_code 104 = .ok (.lconst 0, 1) := by decide +kernel
theorem d3_105 : decode method_3_code 105 = .ok (.lcmp, 1) := by decide +kernel
theorem d3_106 : decode method_3_code 106 = .ok (.ifCond .lt 34, 3) := by decide +kernel
theorem d3_109 : decode method_3_code 109 = .ok (.aload_n 0, 1) := by decide +kernel
theorem d3_110 : decode method_3_code 110 = .ok (.bipush 6, 2) := by decide +kernel
theorem d3_112 : decode method_3_code 112 = .ok (.laload, 1) := by decide +kernel
theorem d3_113 : decode method_3_code 113 = .ok (.lload_n 1, 1) := by decide +kernel
theorem d3_114 : decode method_3_code 114 = .ok (.lcmp, 1) := by decide +kernel
theorem d3_115 : decode method_3_code 115 = .ok (.ifCond .gt 25, 3) := by decide +kernel
theorem d3_118 : decode method_3_code 118 = .ok (.aload_n 0, 1) := by decide +kernel
theorem d3_119 : decode method_3_code 119 = .ok (.bipush 7, 2) := by decide +kernel
theorem d3_121 : decode method_3_code 121 = .ok (.laload, 1) := by decide +kernel
theorem d3_122 : decode method_3_code 122 = .ok (.lconst 0, 1) := by decide +kernel
theorem d3_123 : decode method_3_code 123 = .ok (.lcmp, 1) := by decide +kernel
theorem d3_124 : decode method_3_code 124 = .ok (.ifCond .lt 16, 3) := by decide +kernel
theorem d3_127 : decode method_3_code 127 = .ok (.aload_n 0, 1) := by decide +kernel
theorem d3_128 : decode method_3_code 128 = .ok (.bipush 7, 2) := by decide +kernel
theorem d3_130 : decode method_3_code 130 = .ok (.laload, 1) := by decide +kernel
theorem d3_131 : decode method_3_code 131 = .ok (.lload_n 1, 1) := by decide +kernel
theorem d3_132 : decode method_3_code 132 = .ok (.lcmp, 1) := by decide +kernel
theorem d3_133 : decode method_3_code 133 = .ok (.ifCond .gt 7, 3) := by decide +kernel
theorem d3_136 : decode method_3_code 136 = .ok (.iconst 1, 1) := by decide +kernel
theorem d3_137 : decode method_3_code 137 = .ok (.goto 4, 3) := by decide +kernel
theorem d3_141 : decode method_3_code 141 = .ok (.ireturn, 1) := by decide +kernel
theorem pn_3 : plainFor (⟨"com/example/gatewarden/gatewarden/P256FieldAddPinLaw", "inRange", "([J)Z"⟩ : MethodName) = true := plainFor_of_name (by first | (simp [plainName, overriddenIn]; done) | decide +kernel)
set_option maxRecDepth 65536 in
set_option maxHeartbeats 40000000 in
theorem c_rng {Z : State} {a0 : Array Value} (hw : ∀ d ∈ tables_1, d.before a0 Z = true) {a : Addr} {x0 x1 x2 x3 x4 x5 x6 x7 : Int64} {fa : Nat → Int64} {h0 : Heap} {n0 : Nat} (Z0 : n0 ≤ h0.size) (A1 : AJ Z h0 a 8 fa) (e_x0 : fa 0 = x0) (e_x1 : fa 1 = x1) (e_x2 : fa 2 = x2) (e_x3 : fa 3 = x3) (e_x4 : fa 4 = x4) (e_x5 : fa 5 = x5) (e_x6 : fa 6 = x6) (e_x7 : fa 7 = x7) (r_x0 : 0 ≤ x0.toInt ∧ x0.toInt < 4294967296) (r_x1 : 0 ≤ x1.toInt ∧ x1.toInt < 4294967296) (r_x2 : 0 ≤ x2.toInt ∧ x2.toInt < 4294967296) (r_x3 : 0 ≤ x3.toInt ∧ x3.toInt < 4294967296) (r_x4 : 0 ≤ x4.toInt ∧ x4.toInt < 4294967296) (r_x5 : 0 ≤ x5.toInt ∧ x5.toInt < 4294967296) (r_x6 : 0 ≤ x6.toInt ∧ x6.toInt < 4294967296) (r_x7 : 0 ≤ x7.toInt ∧ x7.toInt < 4294967296) :
    Ctr Z n0 (⟨"com/example/gatewarden/gatewarden/P256FieldAddPinLaw", "inRange", "([J)Z"⟩ : MethodName) method_3_code 3 (some .boolean) ({ frames := 0, cells := 0, slots := 0, locals := 0 } : Room) [(.ref a)] h0 (fun v h => v = some (.int 1) ∧ h = h0) := by
  refine Ctr.of (L := #[.val (.ref a), .unset, .unset]) pn_3 Z0 (fun m => by first | (simp [entryFrame, mkF, argsToLocals, Value.category]; done) | rfl) ?_
  intro K T S0
  refine px_ldc2 S0 (hw _ (List.mem_of_getElem? (i := 0) rfl)) d3_0 rfl ?_
  refine px_lstoreN S0 d3_3 rfl (L' := #[.val (.ref a), .val (.long (4294967295 : Int64)), .second]) rfl ?_
  refine px_aloadN S0 d3_4 rfl rfl rfl ?_
  refine px_iconst (v := (0 : Int32)) S0 d3_5 rfl rfl ?_
  refine px_laload (v := x0) S0 A1 (i := 0) rfl (by decide) e_x0 d3_6 rfl ?_
  refine px_lconst (v := (0 : Int64)) S0 d3_7 rfl rfl ?_
  refine px_lif S0 d3_8 rfl d3_9 (by decide) (pc' := 140) rfl rfl (fun (hc1 : x0.toInt < (0 : Int64).toInt) => by exfalso; have q := r_x0; have q1 : (0 : Int64).toInt = 0 := rfl; have q2 : (4294967295 : Int64).toInt = 4294967295 := rfl; clear r_x0 r_x1 r_x2 r_x3 r_x4 r_x5 r_x6 r_x7; omega) (fun (hc1 : x0.toInt ≥ (0 : Int64).toInt) => ?_)
  refine px_aloadN S0 d3_12 rfl rfl rfl ?_
  refine px_iconst (v := (0 : Int32)) S0 d3_13 rfl rfl ?_
  refine px_laload (v := x0) S0 A1 (i := 0) rfl (by decide) e_x0 d3_14 rfl ?_
  refine px_lloadN S0 d3_15 rfl rfl ?_
  refine px_lif S0 d3_16 rfl d3_17 (by decide) (pc' := 140) rfl rfl (fun (hc2 : x0.toInt > (4294967295 : Int64).toInt) => by exfalso; have q := r_x0; have q1 : (0 : Int64).toInt = 0 := rfl; have q2 : (4294967295 : Int64).toInt = 4294967295 := rfl; clear r_x0 r_x1 r_x2 r_x3 r_x4 r_x5 r_x6 r_x7; omega) (fun (hc2 : x0.toInt ≤ (4294967295 : Int64).toInt) => ?_)
  refine px_aloadN S0 d3_20 rfl rfl rfl ?_
  refine px_iconst (v := (1 : Int32)) S0 d3_21 rfl rfl ?_
  refine px_laload (v := x1) S0 A1 (i := 1) rfl (by decide) e_x1 d3_22 rfl ?_
  refine px_lconst (v := (0 : Int64)) S0 d3_23 rfl rfl ?_
  refine px_lif S0 d3_24 rfl d3_25 (by decide) (pc' := 140) rfl rfl (fun (hc3 : x1.toInt < (0 : Int64).toInt) => by exfalso; have q := r_x1; have q1 : (0 : Int64).toInt = 0 := rfl; have q2 : (4294967295 : Int64).toInt = 4294967295 := rfl; clear r_x0 r_x1 r_x2 r_x3 r_x4 r_x5 r_x6 r_x7; omega) (fun (hc3 : x1.toInt ≥ (0 : Int64).toInt) => ?_)
  refine px_aloadN S0 d3_28 rfl rfl rfl ?_
  refine px_iconst (v := (1 : Int32)) S0 d3_29 rfl rfl ?_
  refine px_laload (v := x1) S0 A1 (i := 1) rfl (by decide) e_x1 d3_30 rfl ?_
  refine px_lloadN S0 d3_31 rfl rfl ?_
  refine px_lif S0 d3_32 rfl d3_33 (by decide) (pc' := 140) rfl rfl (fun (hc4 : x1.toInt > (4294967295 : Int64).toInt) => by exfalso; have q := r_x1; have q1 : (0 : Int64).toInt = 0 := rfl; have q2 : (4294967295 : Int64).toInt = 4294967295 := rfl; clear r_x0 r_x1 r_x2 r_x3 r_x4 r_x5 r_x6 r_x7; omega) (fun (hc4 : x1.toInt ≤ (4294967295 : Int64).toInt) => ?_)
  refine px_aloadN S0 d3_36 rfl rfl rfl ?_
  refine px_iconst (v := (2 : Int32)) S0 d3_37 rfl rfl ?_
  refine px_laload (v := x2) S0 A1 (i := 2) rfl (by decide) e_x2 d3_38 rfl ?_
  refine px_lconst (v := (0 : Int64)) S0 d3_39 rfl rfl ?_
  refine px_lif S0 d3_40 rfl d3_41 (by decide) (pc' := 140) rfl rfl (fun (hc5 : x2.toInt < (0 : Int64).toInt) => by exfalso; have q := r_x2; have q1 : (0 : Int64).toInt = 0 := rfl; have q2 : (4294967295 : Int64).toInt = 4294967295 := rfl; clear r_x0 r_x1 r_x2 r_x3 r_x4 r_x5 r_x6 r_x7; omega) (fun (hc5 : x2.toInt ≥ (0 : Int64).toInt) => ?_)
  refine px_aloadN S0 d3_44 rfl rfl rfl ?_
  refine px_iconst (v := (2 : Int32)) S0 d3_45 rfl rfl ?_
  refine px_laload (v := x2) S0 A1 (i := 2) rfl (by decide) e_x2 d3_46 rfl ?_
  refine px_lloadN S0 d3_47 rfl rfl ?_
  refine px_lif S0 d3_48 rfl d3_49 (by decide) (pc' := 140) rfl rfl (fun (hc6 : x2.toInt > (4294967295 : Int64).toInt) => by exfalso; have q := r_x2; have q1 : (0 : Int64).toInt = 0 := rfl; have q2 : (4294967295 : Int64).toInt = 4294967295 := rfl; clear r_x0 r_x1 r_x2 r_x3 r_x4 r_x5 r_x6 r_x7; omega) (fun (hc6 : x2.toInt ≤ (4294967295 : Int64).toInt) => ?_)
  refine px_aloadN S0 d3_52 rfl rfl rfl ?_
  refine px_iconst (v := (3 : Int32)) S0 d3_53 rfl rfl ?_
  refine px_laload (v := x3) S0 A1 (i := 3) rfl (by decide) e_x3 d3_54 rfl ?_
  refine px_lconst (v := (0 : Int64)) S0 d3_55 rfl rfl ?_
  refine px_lif S0 d3_56 rfl d3_57 (by decide) (pc' := 140) rfl rfl (fun (hc7 : x3.toInt < (0 : Int64).toInt) => by exfalso; have q := r_x3; have q1 : (0 : Int64).toInt = 0 := rfl; have q2 : (4294967295 : Int64).toInt = 4294967295 := rfl; clear r_x0 r_x1 r_x2 r_x3 r_x4 r_x5 r_x6 r_x7; omega) (fun (hc7 : x3.toInt ≥ (0 : Int64).toInt) => ?_)
  refine px_aloadN S0 d3_60 rfl rfl rfl ?_
  refine px_iconst (v := (3 : Int32)) S0 d3_61 rfl rfl ?_
  refine px_laload (v := x3) S0 A1 (i := 3) rfl (by decide) e_x3 d3_62 rfl ?_
  refine px_lloadN S0 d3_63 rfl rfl ?_
  refine px_lif S0 d3_64 rfl d3_65 (by decide) (pc' := 140) rfl rfl (fun (hc8 : x3.toInt > (4294967295 : Int64).toInt) => by exfalso; have q := r_x3; have q1 : (0 : Int64).toInt = 0 := rfl; have q2 : (4294967295 : Int64).toInt = 4294967295 := rfl; clear r_x0 r_x1 r_x2 r_x3 r_x4 r_x5 r_x6 r_x7; omega) (fun (hc8 : x3.toInt ≤ (4294967295 : Int64).toInt) => ?_)
  refine px_aloadN S0 d3_68 rfl rfl rfl ?_
  refine px_iconst (v := (4 : Int32)) S0 d3_69 rfl rfl ?_
  refine px_laload (v := x4) S0 A1 (i := 4) rfl (by decide) e_x4 d3_70 rfl ?_
  refine px_lconst (v := (0 : Int64)) S0 d3_71 rfl rfl ?_
  refine px_lif S0 d3_72 rfl d3_73 (by decide) (pc' := 140) rfl rfl (fun (hc9 : x4.toInt < (0 : Int64).toInt) => by exfalso; have q := r_x4; have q1 : (0 : Int64).toInt = 0 := rfl; have q2 : (4294967295 : Int64).toInt = 4294967295 := rfl; clear r_x0 r_x1 r_x2 r_x3 r_x4 r_x5 r_x6 r_x7; omega) (fun (hc9 : x4.toInt ≥ (0 : Int64).toInt) => ?_)
  refine px_aloadN S0 d3_76 rfl rfl rfl ?_
  refine px_iconst (v := (4 : Int32)) S0 d3_77 rfl rfl ?_
  refine px_laload (v := x4) S0 A1 (i := 4) rfl (by decide) e_x4 d3_78 rfl ?_
  refine px_lloadN S0 d3_79 rfl rfl ?_
  refine px_lif S0 d3_80 rfl d3_81 (by decide) (pc' := 140) rfl rfl (fun (hc10 : x4.toInt > (4294967295 : Int64).toInt) => by exfalso; have q := r_x4; have q1 : (0 : Int64).toInt = 0 := rfl; have q2 : (4294967295 : Int64).toInt = 4294967295 := rfl; clear r_x0 r_x1 r_x2 r_x3 r_x4 r_x5 r_x6 r_x7; omega) (fun (hc10 : x4.toInt ≤ (4294967295 : Int64).toInt) => ?_)
  refine px_aloadN S0 d3_84 rfl rfl rfl ?_
  refine px_iconst (v := (5 : Int32)) S0 d3_85 rfl rfl ?_
  refine px_laload (v := x5) S0 A1 (i := 5) rfl (by decide) e_x5 d3_86 rfl ?_
  refine px_lconst (v := (0 : Int64)) S0 d3_87 rfl rfl ?_
  refine px_lif S0 d3_88 rfl d3_89 (by decide) (pc' := 140) rfl rfl (fun (hc11 : x5.toInt < (0 : Int64).toInt) => by exfalso; have q := r_x5; have q1 : (0 : Int64).toInt = 0 := rfl; have q2 : (4294967295 : Int64).toInt = 4294967295 := rfl; clear r_x0 r_x1 r_x2 r_x3 r_x4 r_x5 r_x6 r_x7; omega) (fun (hc11 : x5.toInt ≥ (0 : Int64).toInt) => ?_)
  refine px_aloadN S0 d3_92 rfl rfl rfl ?_
  refine px_iconst (v := (5 : Int32)) S0 d3_93 rfl rfl ?_
  refine px_laload (v := x5) S0 A1 (i := 5) rfl (by decide) e_x5 d3_94 rfl ?_
  refine px_lloadN S0 d3_95 rfl rfl ?_
  refine px_lif S0 d3_96 rfl d3_97 (by decide) (pc' := 140) rfl rfl (fun (hc12 : x5.toInt > (4294967295 : Int64).toInt) => by exfalso; have q := r_x5; have q1 : (0 : Int64).toInt = 0 := rfl; have q2 : (4294967295 : Int64).toInt = 4294967295 := rfl; clear r_x0 r_x1 r_x2 r_x3 r_x4 r_x5 r_x6 r_x7; omega) (fun (hc12 : x5.toInt ≤ (4294967295 : Int64).toInt) => ?_)
  refine px_aloadN S0 d3_100 rfl rfl rfl ?_
  refine px_bipush (v := (6 : Int32)) S0 d3_101 rfl rfl ?_
  refine px_laload (v := x6) S0 A1 (i := 6) rfl (by decide) e_x6 d3_103 rfl ?_
  refine px_lconst (v := (0 : Int64)) S0 d3_104 rfl rfl ?_
  refine px_lif S0 d3_105 rfl d3_106 (by decide) (pc' := 140) rfl rfl (fun (hc13 : x6.toInt < (0 : Int64).toInt) => by exfalso; have q := r_x6; have q1 : (0 : Int64).toInt = 0 := rfl; have q2 : (4294967295 : Int64).toInt = 4294967295 := rfl; clear r_x0 r_x1 r_x2 r_x3 r_x4 r_x5 r_x6 r_x7; omega) (fun (hc13 : x6.toInt ≥ (0 : Int64).toInt) => ?_)
  refine px_aloadN S0 d3_109 rfl rfl rfl ?_
  refine px_bipush (v := (6 : Int32)) S0 d3_110 rfl rfl ?_
  refine px_laload (v := x6) S0 A1 (i := 6) rfl (by decide) e_x6 d3_112 rfl ?_
  refine px_lloadN S0 d3_113 rfl rfl ?_
  refine px_lif S0 d3_114 rfl d3_115 (by decide) (pc' := 140) rfl rfl (fun (hc14 : x6.toInt > (4294967295 : Int64).toInt) => by exfalso; have q := r_x6; have q1 : (0 : Int64).toInt = 0 := rfl; have q2 : (4294967295 : Int64).toInt = 4294967295 := rfl; clear r_x0 r_x1 r_x2 r_x3 r_x4 r_x5 r_x6 r_x7; omega) (fun (hc14 : x6.toInt ≤ (4294967295 : Int64).toInt) => ?_)
  refine px_aloadN S0 d3_118 rfl rfl rfl ?_
  refine px_bipush (v := (7 : Int32)) S0 d3_119 rfl rfl ?_
  refine px_laload (v := x7) S0 A1 (i := 7) rfl (by decide) e_x7 d3_121 rfl ?_
  refine px_lconst (v := (0 : Int64)) S0 d3_122 rfl rfl ?_
  refine px_lif S0 d3_123 rfl d3_124 (by decide) (pc' := 140) rfl rfl (fun (hc15 : x7.toInt < (0 : Int64).toInt) => by exfalso; have q := r_x7; have q1 : (0 : Int64).toInt = 0 := rfl; have q2 : (4294967295 : Int64).toInt = 4294967295 := rfl; clear r_x0 r_x1 r_x2 r_x3 r_x4 r_x5 r_x6 r_x7; omega) (fun (hc15 : x7.toInt ≥ (0 : Int64).toInt) => ?_)
  refine px_aloadN S0 d3_127 rfl rfl rfl ?_
  refine px_bipush (v := (7 : Int32)) S0 d3_128 rfl rfl ?_
  refine px_laload (v := x7) S0 A1 (i := 7) rfl (by decide) e_x7 d3_130 rfl ?_
  refine px_lloadN S0 d3_131 rfl rfl ?_
  refine px_lif S0 d3_132 rfl d3_133 (by decide) (pc' := 140) rfl rfl (fun (hc16 : x7.toInt > (4294967295 : Int64).toInt) => by exfalso; have q := r_x7; have q1 : (0 : Int64).toInt = 0 := rfl; have q2 : (4294967295 : Int64).toInt = 4294967295 := rfl; clear r_x0 r_x1 r_x2 r_x3 r_x4 r_x5 r_x6 r_x7; omega) (fun (hc16 : x7.toInt ≤ (4294967295 : Int64).toInt) => ?_)
  refine px_iconst (v := (1 : Int32)) S0 d3_136 rfl rfl ?_
  refine px_goto S0 d3_137 (by decide) (pc' := 141) rfl ?_
  exact px_retN (t := .boolean) (z' := (1 : Int32)) S0 d3_141 rfl (by simp) rfl (by decide) (by decide) (⟨rfl, rfl⟩)
theorem d4_0 : decode method_5_code 0 = .ok (.aload_n 0, 1) := by decide +kernel
theorem d4_1 : decode method_5_code 1 = .ok (.iconst 0, 1) := by decide +kernel
theorem d4_2 : decode method_5_code 2 = .ok (.laload, 1) := by decide +kernel
theorem d4_3 : decode method_5_code 3 = .ok (.aload_n 1, 1) := by decide +kernel
theorem d4_4 : decode method_5_code 4 = .ok (.iconst 0, 1) := by decide +kernel
theorem d4_5 : decode method_5_code 5 = .ok (.laload, 1) := by decide +kernel
theorem d4_6 : decode method_5_code 6 = .ok (.lcmp, 1) := by decide +kernel
theorem d4_7 : decode method_5_code 7 = .ok (.ifCond .ne 81, 3) := by decide +kernel
theorem d4_10 : decode method_5_code 10 = .ok (.aload_n 0, 1) := by decide +kernel
theorem d4_11 : decode method_5_code 11 = .ok (.iconst 1, 1) := by decide +kernel
theorem d4_12 : decode method_5_code 12 = .ok (.laload, 1) := by decide +kernel
theorem d4_13 : decode method_5_code 13 = .ok (.aload_n 1, 1) := by decide +kernel
theorem d4_14 : decode method_5_code 14 = .ok (.iconst 1, 1) := by decide +kernel
theorem d4_15 : decode method_5_code 15 = .ok (.laload, 1) := by decide +kernel
theorem d4_16 : decode method_5_code 16 = .ok (.lcmp, 1) := by decide +kernel
theorem d4_17 : decode method_5_code 17 = .ok (.ifCond .ne 71, 3) := by decide +kernel
theorem d4_20 : decode method_5_code 20 = .ok (.aload_n 0, 1) := by decide +kernel
theorem d4_21 : decode method_5_code 21 = .ok (.iconst 2, 1) := by decide +kernel
theorem d4_22 : decode method_5_code 22 = .ok (.laload, 1) := by decide +kernel
theorem d4_23 : decode method_5_code 23 = .ok (.aload_n 1, 1) := by decide +kernel
theorem d4_24 : decode method_5_code 24 = .ok (.iconst 2, 1) := by decide +kernel
theorem d4_25 : decode method_5_code 25 = .ok (.laload, 1) := by decide +kernel
theorem d4_26 : decode method_5_code 26 = .ok (.lcmp, 1) := by decide +kernel
theorem d4_27 : decode method_5_code 27 = .ok (.ifCond .ne 61, 3) := by decide +kernel
theorem d4_30 : decode method_5_code 30 = .ok (.aload_n 0, 1) := by decide +kernel
theorem d4_31 : decode method_5_code 31 = .ok (.iconst 3, 1) := by decide +kernel
theorem d4_32 : decode method_5_code 32 = .ok (.laload, 1) := by decide +kernel
theorem d4_33 : decode method_5_code 33 = .ok (.aload_n 1, 1) := by decide +kernel
theorem d4_34 : decode method_5_code 34 = .ok (.iconst 3, 1) := by decide +kernel
theorem d4_35 : decode method_5_code 35 = .ok (.laload, 1) := by decide +kernel
theorem d4_36 : decode method_5_code 36 = .ok (.lcmp, 1) := by decide +kernel
theorem d4_37 : decode method_5_code 37 = .ok (.ifCond .ne 51, 3) := by decide +kernel
theorem d4_40 : decode method_5_code 40 = .ok (.aload_n 0, 1) := by decide +kernel
theorem d4_41 : decode method_5_code 41 = .ok (.iconst 4, 1) := by decide +kernel
theorem d4_42 : decode method_5_code 42 = .ok (.laload, 1) := by decide +kernel
theorem d4_43 : decode method_5_code 43 = .ok (.aload_n 1, 1) := by decide +kernel
theorem d4_44 : decode method_5_code 44 = .ok (.iconst 4, 1) := by decide +kernel
theorem d4_45 : decode method_5_code 45 = .ok (.laload, 1) := by decide +kernel
theorem d4_46 : decode method_5_code 46 = .ok (.lcmp, 1) := by decide +kernel
theorem d4_47 : decode method_5_code 47 = .ok (.ifCond .ne 41, 3) := by decide +kernel
theorem d4_50 : decode method_5_code 50 = .ok (.aload_n 0, 1) := by decide +kernel
theorem d4_51 : decode method_5_code 51 = .ok (.iconst 5, 1) := by decide +kernel
theorem d4_52 : decode method_5_code 52 = .ok (.laload, 1) := by decide +kernel
theorem d4_53 : decode method_5_code 53 = .ok (.aload_n 1, 1) := by decide +kernel
theorem d4_54 : decode method_5_code 54 = .ok (.iconst 5, 1) := by decide +kernel
theorem d4_55 : decode method_5_code 55 = .ok (.laload, 1) := by decide +kernel
theorem d4_56 : decode method_5_code 56 = .ok (.lcmp, 1) := by decide +kernel
theorem d4_57 : decode method_5_code 57 = .ok (.ifCond .ne 31, 3) := by decide +kernel
theorem d4_60 : decode method_5_code 60 = .ok (.aload_n 0, 1) := by decide +kernel
theorem d4_61 : decode method_5_code 61 = .ok (.bipush 6, 2) := by decide +kernel
theorem d4_63 : decode method_5_code 63 = .ok (.laload, 1) := by decide +kernel
theorem d4_64 : decode method_5_code 64 = .ok (.aload_n 1, 1) := by decide +kernel
theorem d4_65 : decode method_5_code 65 = .ok (.bipush 6, 2) := by decide +kernel
theorem d4_67 : decode method_5_code 67 = .ok (.laload, 1) := by decide +kernel
theorem d4_68 : decode method_5_code 68 = .ok (.lcmp, 1) := by decide +kernel
theorem d4_69 : decode method_5_code 69 = .ok (.ifCond .ne 19, 3) := by decide +kernel
theorem d4_72 : decode method_5_code 72 = .ok (.aload_n 0, 1) := by decide +kernel
theorem d4_73 : decode method_5_code 73 = .ok (.bipush 7, 2) := by decide +kernel
theorem d4_75 : decode method_5_code 75 = .ok (.laload, 1) := by decide +kernel
theorem d4_76 : decode method_5_code 76 = .ok (.aload_n 1, 1) := by decide +kernel
theorem d4_77 : decode method_5_code 77 = .ok (.bipush 7, 2) := by decide +kernel
theorem d4_79 : decode method_5_code 79 = .ok (.laload, 1) := by decide +kernel
theorem d4_80 : decode method_5_code 80 = .ok (.lcmp, 1) := by decide +kernel
theorem d4_81 : decode method_5_code 81 = .ok (.ifCond .ne 7, 3) := by decide +kernel
theorem d4_84 : decode method_5_code 84 = .ok (.iconst 1, 1) := by decide +kernel
theorem d4_85 : decode method_5_code 85 = .ok (.goto 4, 3) := by decide +kernel
theorem d4_88 : decode method_5_code 88 = .ok (.iconst 0, 1) := by decide +kernel
theorem d4_89 : decode method_5_code 89 = .ok (.ireturn, 1) := by decide +kernel
theorem pn_4 : plainFor (⟨"com/example/gatewarden/gatewarden/P256FieldAddPinLaw", "same8", "([J[J)Z"⟩ : MethodName) = true := plainFor_of_name (by first | (simp [plainName, overriddenIn]; done) | decide +kernel)
set_option maxRecDepth 65536 in
set_option maxHeartbeats 40000000 in
theorem c_same8 {Z : State} {a0 : Array Value} (hw : ∀ d ∈ tables_1, d.before a0 Z = true) {a b : Addr} {n : Nat} {x0 x1 x2 x3 x4 x5 x6 x7 y0 y1 y2 y3 y4 y5 y6 y7 : Int64} {fa fb : Nat → Int64} {h0 : Heap} {n0 : Nat} (Z0 : n0 ≤ h0.size) (hn8 : 8 ≤ n) (A1 : AJ Z h0 a n fa) (A2 : AJ Z h0 b n fb) (e_x0 : fa 0 = x0) (e_x1 : fa 1 = x1) (e_x2 : fa 2 = x2) (e_x3 : fa 3 = x3) (e_x4 : fa 4 = x4) (e_x5 : fa 5 = x5) (e_x6 : fa 6 = x6) (e_x7 : fa 7 = x7) (e_y0 : fb 0 = y0) (e_y1 : fb 1 = y1) (e_y2 : fb 2 = y2) (e_y3 : fb 3 = y3) (e_y4 : fb 4 = y4) (e_y5 : fb 5 = y5) (e_y6 : fb 6 = y6) (e_y7 : fb 7 = y7) :
    Ctr Z n0 (⟨"com/example/gatewarden/gatewarden/P256FieldAddPinLaw", "same8", "([J[J)Z"⟩ : MethodName) method_5_code 2 (some .boolean) ({ frames := 0, cells := 0, slots := 0, locals := 0 } : Room) [(.ref a), (.ref b)] h0 (fun v h => h = h0 ∧ (((x0.toInt = y0.toInt ∧ x1.toInt = y1.toInt ∧ x2.toInt = y2.toInt ∧ x3.toInt = y3.toInt ∧ x4.toInt = y4.toInt ∧ x5.toInt = y5.toInt ∧ x6.toInt = y6.toInt ∧ x7.toInt = y7.toInt) ∧ v = some (.int 1)) ∨ (¬ (x0.toInt = y0.toInt ∧ x1.toInt = y1.toInt ∧ x2.toInt = y2.toInt ∧ x3.toInt = y3.toInt ∧ x4.toInt = y4.toInt ∧ x5.toInt = y5.toInt ∧ x6.toInt = y6.toInt ∧ x7.toInt = y7.toInt) ∧ v = some (.int 0)))) := by
  refine Ctr.of (L := #[.val (.ref a), .val (.ref b)]) pn_4 Z0 (fun m => by first | (simp [entryFrame, mkF, argsToLocals, Value.category]; done) | rfl) ?_
  intro K T S0
  refine px_aloadN S0 d4_0 rfl rfl rfl ?_
  refine px_iconst (v := (0 : Int32)) S0 d4_1 rfl rfl ?_
  refine px_laload (v := x0) S0 A1 (i := 0) rfl (by omega) e_x0 d4_2 rfl ?_
  refine px_aloadN S0 d4_3 rfl rfl rfl ?_
  refine px_iconst (v := (0 : Int32)) S0 d4_4 rfl rfl ?_
  refine px_laload (v := y0) S0 A2 (i := 0) rfl (by omega) e_y0 d4_5 rfl ?_
  refine px_lif S0 d4_6 rfl d4_7 (by decide) (pc' := 88) rfl rfl (fun (hc1 : ¬ x0.toInt = y0.toInt) => ?_) (fun (hc1 : x0.toInt = y0.toInt) => ?_)
  · refine px_iconst (v := (0 : Int32)) S0 d4_88 rfl rfl ?_
    exact px_retN (t := .boolean) (z' := (0 : Int32)) S0 d4_89 rfl (by simp) rfl (by decide) (by decide) (⟨rfl, Or.inr ⟨fun q => hc1 q.1, rfl⟩⟩)
  · refine px_aloadN S0 d4_10 rfl rfl rfl ?_
    refine px_iconst (v := (1 : Int32)) S0 d4_11 rfl rfl ?_
    refine px_laload (v := x1) S0 A1 (i := 1) rfl (by omega) e_x1 d4_12 rfl ?_
    refine px_aloadN S0 d4_13 rfl rfl rfl ?_
    refine px_iconst (v := (1 : Int32)) S0 d4_14 rfl rfl ?_
    refine px_laload (v := y1) S0 A2 (i := 1) rfl (by omega) e_y1 d4_15 rfl ?_
    refine px_lif S0 d4_16 rfl d4_17 (by decide) (pc' := 88) rfl rfl (fun (hc2 : ¬ x1.toInt = y1.toInt) => ?_) (fun (hc2 : x1.toInt = y1.toInt) => ?_)
    · refine px_iconst (v := (0 : Int32)) S0 d4_88 rfl rfl ?_
      exact px_retN (t := .boolean) (z' := (0 : Int32)) S0 d4_89 rfl (by simp) rfl (by decide) (by decide) (⟨rfl, Or.inr ⟨fun q => hc2 q.2.1, rfl⟩⟩)
    · refine px_aloadN S0 d4_20 rfl rfl rfl ?_
      refine px_iconst (v := (2 : Int32)) S0 d4_21 rfl rfl ?_
      refine px_laload (v := x2) S0 A1 (i := 2) rfl (by omega) e_x2 d4_22 rfl ?_
      refine px_aloadN S0 d4_23 rfl rfl rfl ?_
      refine px_iconst (v := (2 : Int32)) S0 d4_24 rfl rfl ?_
      refine px_laload (v := y2) S0 A2 (i := 2) rfl (by omega) e_y2 d4_25 rfl ?_
      refine px_lif S0 d4_26 rfl d4_27 (by decide) (pc' := 88) rfl rfl (fun (hc3 : ¬ x2.toInt = y2.toInt) => ?_) (fun (hc3 : x2.toInt = y2.toInt) => ?_)
      · refine px_iconst (v := (0 : Int32)) S0 d4_88 rfl rfl ?_
        exact px_retN (t := .boolean) (z' := (0 : Int32)) S0 d4_89 rfl (by simp) rfl (by decide) (by decide) (⟨rfl, Or.inr ⟨fun q => hc3 q.2.2.1, rfl⟩⟩)
      · refine px_aloadN S0 d4_30 rfl rfl rfl ?_
        refine px_iconst (v := (3 : Int32)) S0 d4_31 rfl rfl ?_
        refine px_laload (v := x3) S0 A1 (i := 3) rfl (by omega) e_x3 d4_32 rfl ?_
        refine px_aloadN S0 d4_33 rfl rfl rfl ?_
        refine px_iconst (v := (3 : Int32)) S0 d4_34 rfl rfl ?_
        refine px_laload (v := y3) S0 A2 (i := 3) rfl (by omega) e_y3 d4_35 rfl ?_
        refine px_lif S0 d4_36 rfl d4_37 (by decide) (pc' := 88) rfl rfl (fun (hc4 : ¬ x3.toInt = y3.toInt) => ?_) (fun (hc4 : x3.toInt = y3.toInt) => ?_)
        · refine px_iconst (v := (0 : Int32)) S0 d4_88 rfl rfl ?_
          exact px_retN (t := .boolean) (z' := (0 : Int32)) S0 d4_89 rfl (by simp) rfl (by decide) (by decide) (⟨rfl, Or.inr ⟨fun q => hc4 q.2.2.2.1, rfl⟩⟩)
        · refine px_aloadN S0 d4_40 rfl rfl rfl ?_
          refine px_iconst (v := (4 : Int32)) S0 d4_41 rfl rfl ?_
          refine px_laload (v := x4) S0 A1 (i := 4) rfl (by omega) e_x4 d4_42 rfl ?_
          refine px_aloadN S0 d4_43 rfl rfl rfl ?_
          refine px_iconst (v := (4 : Int32)) S0 d4_44 rfl rfl ?_
          refine px_laload (v := y4) S0 A2 (i := 4) rfl (by omega) e_y4 d4_45 rfl ?_
          refine px_lif S0 d4_46 rfl d4_47 (by decide) (pc' := 88) rfl rfl (fun (hc5 : ¬ x4.toInt = y4.toInt) => ?_) (fun (hc5 : x4.toInt = y4.toInt) => ?_)
          · refine px_iconst (v := (0 : Int32)) S0 d4_88 rfl rfl ?_
            exact px_retN (t := .boolean) (z' := (0 : Int32)) S0 d4_89 rfl (by simp) rfl (by decide) (by decide) (⟨rfl, Or.inr ⟨fun q => hc5 q.2.2.2.2.1, rfl⟩⟩)
          · refine px_aloadN S0 d4_50 rfl rfl rfl ?_
            refine px_iconst (v := (5 : Int32)) S0 d4_51 rfl rfl ?_
            refine px_laload (v := x5) S0 A1 (i := 5) rfl (by omega) e_x5 d4_52 rfl ?_
            refine px_aloadN S0 d4_53 rfl rfl rfl ?_
            refine px_iconst (v := (5 : Int32)) S0 d4_54 rfl rfl ?_
            refine px_laload (v := y5) S0 A2 (i := 5) rfl (by omega) e_y5 d4_55 rfl ?_
            refine px_lif S0 d4_56 rfl d4_57 (by decide) (pc' := 88) rfl rfl (fun (hc6 : ¬ x5.toInt = y5.toInt) => ?_) (fun (hc6 : x5.toInt = y5.toInt) => ?_)
            · refine px_iconst (v := (0 : Int32)) S0 d4_88 rfl rfl ?_
              exact px_retN (t := .boolean) (z' := (0 : Int32)) S0 d4_89 rfl (by simp) rfl (by decide) (by decide) (⟨rfl, Or.inr ⟨fun q => hc6 q.2.2.2.2.2.1, rfl⟩⟩)
            · refine px_aloadN S0 d4_60 rfl rfl rfl ?_
              refine px_bipush (v := (6 : Int32)) S0 d4_61 rfl rfl ?_
              refine px_laload (v := x6) S0 A1 (i := 6) rfl (by omega) e_x6 d4_63 rfl ?_
              refine px_aloadN S0 d4_64 rfl rfl rfl ?_
              refine px_bipush (v := (6 : Int32)) S0 d4_65 rfl rfl ?_
              refine px_laload (v := y6) S0 A2 (i := 6) rfl (by omega) e_y6 d4_67 rfl ?_
              refine px_lif S0 d4_68 rfl d4_69 (by decide) (pc' := 88) rfl rfl (fun (hc7 : ¬ x6.toInt = y6.toInt) => ?_) (fun (hc7 : x6.toInt = y6.toInt) => ?_)
              · refine px_iconst (v := (0 : Int32)) S0 d4_88 rfl rfl ?_
                exact px_retN (t := .boolean) (z' := (0 : Int32)) S0 d4_89 rfl (by simp) rfl (by decide) (by decide) (⟨rfl, Or.inr ⟨fun q => hc7 q.2.2.2.2.2.2.1, rfl⟩⟩)
              · refine px_aloadN S0 d4_72 rfl rfl rfl ?_
                refine px_bipush (v := (7 : Int32)) S0 d4_73 rfl rfl ?_
                refine px_laload (v := x7) S0 A1 (i := 7) rfl (by omega) e_x7 d4_75 rfl ?_
                refine px_aloadN S0 d4_76 rfl rfl rfl ?_
                refine px_bipush (v := (7 : Int32)) S0 d4_77 rfl rfl ?_
                refine px_laload (v := y7) S0 A2 (i := 7) rfl (by omega) e_y7 d4_79 rfl ?_
                refine px_lif S0 d4_80 rfl d4_81 (by decide) (pc' := 88) rfl rfl (fun (hc8 : ¬ x7.toInt = y7.toInt) => ?_) (fun (hc8 : x7.toInt = y7.toInt) => ?_)
                · refine px_iconst (v := (0 : Int32)) S0 d4_88 rfl rfl ?_
                  exact px_retN (t := .boolean) (z' := (0 : Int32)) S0 d4_89 rfl (by simp) rfl (by decide) (by decide) (⟨rfl, Or.inr ⟨fun q => hc8 q.2.2.2.2.2.2.2, rfl⟩⟩)
                · refine px_iconst (v := (1 : Int32)) S0 d4_84 rfl rfl ?_
                  refine px_goto S0 d4_85 (by decide) (pc' := 89) rfl ?_
                  exact px_retN (t := .boolean) (z' := (1 : Int32)) S0 d4_89 rfl (by simp) rfl (by decide) (by decide) (⟨rfl, Or.inl ⟨⟨hc1, hc2, hc3, hc4, hc5, hc6, hc7, hc8⟩, rfl⟩⟩)
theorem d6_0 : decode method_6_code 0 = .ok (.aload_n 0, 1) := by decide +kernel
theorem d6_1 : decode method_6_code 1 = .ok (.aload_n 1, 1) := by decide +kernel
theorem d6_2 : decode method_6_code 2 = .ok (.invokestatic 21, 3) := by decide +kernel
theorem d6_5 : decode method_6_code 5 = .ok (.ifCond .eq 19, 3) := by decide +kernel
theorem d6_8 : decode method_6_code 8 = .ok (.aload_n 0, 1) := by decide +kernel
theorem d6_9 : decode method_6_code 9 = .ok (.bipush 8, 2) := by decide +kernel
theorem d6_11 : decode method_6_code 11 = .ok (.laload, 1) := by decide +kernel
theorem d6_12 : decode method_6_code 12 = .ok (.aload_n 1, 1) := by decide +kernel
theorem d6_13 : decode method_6_code 13 = .ok (.bipush 8, 2) := by decide +kernel
theorem d6_15 : decode method_6_code 15 = .ok (.laload, 1) := by decide +kernel
theorem d6_16 : decode method_6_code 16 = .ok (.lcmp, 1) := by decide +kernel
theorem d6_17 : decode method_6_code 17 = .ok (.ifCond .ne 7, 3) := by decide +kernel
theorem d6_20 : decode method_6_code 20 = .ok (.iconst 1, 1) := by decide +kernel
theorem d6_21 : decode method_6_code 21 = .ok (.goto 4, 3) := by decide +kernel
theorem d6_24 : decode method_6_code 24 = .ok (.iconst 0, 1) := by decide +kernel
theorem d6_25 : decode method_6_code 25 = .ok (.ireturn, 1) := by decide +kernel
theorem pd_6_0 : parseMethodDescriptor "([J[J)Z" = some ⟨[(.array .long), (.array .long)], some .boolean⟩ := by decide +kernel
theorem pn_6 : plainFor (⟨"com/example/gatewarden/gatewarden/P256FieldAddPinLaw", "same9", "([J[J)Z"⟩ : MethodName) = true := plainFor_of_name (by first | (simp [plainName, overriddenIn]; done) | decide +kernel)
set_option maxRecDepth 65536 in
set_option maxHeartbeats 40000000 in
theorem c_same9 {Z : State} {a0 : Array Value} (hw : ∀ d ∈ tables_1, d.before a0 Z = true) {a b : Addr} {x0 x1 x2 x3 x4 x5 x6 x7 x8 y0 y1 y2 y3 y4 y5 y6 y7 y8 : Int64} {fa fb : Nat → Int64} {h0 : Heap} {n0 : Nat} (Z0 : n0 ≤ h0.size) (A1 : AJ Z h0 a 9 fa) (A2 : AJ Z h0 b 9 fb) (e_x0 : fa 0 = x0) (e_x1 : fa 1 = x1) (e_x2 : fa 2 = x2) (e_x3 : fa 3 = x3) (e_x4 : fa 4 = x4) (e_x5 : fa 5 = x5) (e_x6 : fa 6 = x6) (e_x7 : fa 7 = x7) (e_x8 : fa 8 = x8) (e_y0 : fb 0 = y0) (e_y1 : fb 1 = y1) (e_y2 : fb 2 = y2) (e_y3 : fb 3 = y3) (e_y4 : fb 4 = y4) (e_y5 : fb 5 = y5) (e_y6 : fb 6 = y6) (e_y7 : fb 7 = y7) (e_y8 : fb 8 = y8) :
    Ctr Z n0 (⟨"com/example/gatewarden/gatewarden/P256FieldAddPinLaw", "same9", "([J[J)Z"⟩ : MethodName) method_6_code 2 (some .boolean) ({ frames := 1, cells := 0, slots := 0, locals := 13 } : Room) [(.ref a), (.ref b)] h0 (fun v h => h = h0 ∧ (((x0.toInt = y0.toInt ∧ x1.toInt = y1.toInt ∧ x2.toInt = y2.toInt ∧ x3.toInt = y3.toInt ∧ x4.toInt = y4.toInt ∧ x5.toInt = y5.toInt ∧ x6.toInt = y6.toInt ∧ x7.toInt = y7.toInt) ∧ x8.toInt = y8.toInt ∧ v = some (.int 1)) ∨ (¬ ((x0.toInt = y0.toInt ∧ x1.toInt = y1.toInt ∧ x2.toInt = y2.toInt ∧ x3.toInt = y3.toInt ∧ x4.toInt = y4.toInt ∧ x5.toInt = y5.toInt ∧ x6.toInt = y6.toInt ∧ x7.toInt = y7.toInt) ∧ x8.toInt = y8.toInt) ∧ v = some (.int 0)))) := by
  refine Ctr.of (L := #[.val (.ref a), .val (.ref b)]) pn_6 Z0 (fun m => by first | (simp [entryFrame, mkF, argsToLocals, Value.category]; done) | rfl) ?_
  intro K T S0
  refine px_aloadN S0 d6_0 rfl rfl rfl ?_
  refine px_aloadN S0 d6_1 rfl rfl rfl ?_
  refine px_callS (as' := [(.ref a), (.ref b)]) (st := []) (W := 0) S0 (c_same8 hw S0.size (by decide) A1 A2 e_x0 e_x1 e_x2 e_x3 e_x4 e_x5 e_x6 e_x7 e_y0 e_y1 e_y2 e_y3 e_y4 e_y5 e_y6 e_y7) (hw _ (List.mem_of_getElem? (i := 14) rfl)) (hw _ (List.mem_of_getElem? (i := 15) rfl)) (hw _ (List.mem_of_getElem? (i := 12) rfl)) (hw _ (List.mem_of_getElem? (i := 16) rfl)) (by decide) pd_6_0 rfl rfl (by decide) rfl (by decide) (by decide) (by decide) d6_2 rfl rfl (fun T1 h1 v1 S1 q1 => ?_)
  obtain ⟨rfl, q1⟩ := q1
  rcases q1 with ⟨k8, rfl⟩ | ⟨k8, rfl⟩
  · show Go _ _ _ _ _ _ _ [(.int (1 : Int32))]
    refine px_if0 S1 d6_5 (by decide) (pc' := 24) rfl rfl (fun (hc2 : (1 : Int32).toInt = 0) => by exfalso; revert hc2; decide) (fun (hc2 : ¬ (1 : Int32).toInt = 0) => ?_)
    refine px_aloadN S1 d6_8 rfl rfl rfl ?_
    refine px_bipush (v := (8 : Int32)) S1 d6_9 rfl rfl ?_
    refine px_laload (v := x8) S1 A1 (i := 8) rfl (by decide) e_x8 d6_11 rfl ?_
    refine px_aloadN S1 d6_12 rfl rfl rfl ?_
    refine px_bipush (v := (8 : Int32)) S1 d6_13 rfl rfl ?_
    refine px_laload (v := y8) S1 A2 (i := 8) rfl (by decide) e_y8 d6_15 rfl ?_
    refine px_lif S1 d6_16 rfl d6_17 (by decide) (pc' := 24) rfl rfl (fun (hc3 : ¬ x8.toInt = y8.toInt) => ?_) (fun (hc3 : x8.toInt = y8.toInt) => ?_)
    · refine px_iconst (v := (0 : Int32)) S1 d6_24 rfl rfl ?_
      exact px_retN (t := .boolean) (z' := (0 : Int32)) S1 d6_25 rfl (by simp) rfl (by decide) (by decide) (⟨rfl, Or.inr ⟨fun q => hc3 q.2, rfl⟩⟩)
    · refine px_iconst (v := (1 : Int32)) S1 d6_20 rfl rfl ?_
      refine px_goto S1 d6_21 (by decide) (pc' := 25) rfl ?_
      exact px_retN (t := .boolean) (z' := (1 : Int32)) S1 d6_25 rfl (by simp) rfl (by decide) (by decide) (⟨rfl, Or.inl ⟨k8, hc3, rfl⟩⟩)
  · show Go _ _ _ _ _ _ _ [(.int (0 : Int32))]
    refine px_if0 S1 d6_5 (by decide) (pc' := 24) rfl rfl (fun (hc4 : (0 : Int32).toInt = 0) => ?_) (fun (hc4 : ¬ (0 : Int32).toInt = 0) => by exfalso; revert hc4; decide)
    refine px_iconst (v := (0 : Int32)) S1 d6_24 rfl rfl ?_
    exact px_retN (t := .boolean) (z' := (0 : Int32)) S1 d6_25 rfl (by simp) rfl (by decide) (by decide) (⟨rfl, Or.inr ⟨fun q => k8 q.1, rfl⟩⟩)
theorem d5_0 : decode method_4_code 0 = .ok (.ldc2_w 7, 3) := by decide +kernel
theorem d5_3 : decode method_4_code 3 = .ok (.lstore 4, 2) := by decide +kernel
theorem d5_5 : decode method_4_code 5 = .ok (.bipush 9, 2) := by decide +kernel
theorem d5_7 : decode method_4_code 7 = .ok (.newarray .long, 2) := by decide +kernel
theorem d5_9 : decode method_4_code 9 = .ok (.astore 6, 2) := by decide +kernel
theorem d5_11 : decode method_4_code 11 = .ok (.aload_n 0, 1) := by decide +kernel
theorem d5_12 : decode method_4_code 12 = .ok (.iconst 0, 1) := by decide +kernel
theorem d5_13 : decode method_4_code 13 = .ok (.laload, 1) := by decide +kernel
theorem d5_14 : decode method_4_code 14 = .ok (.lload_n 2, 1) := by decide +kernel
theorem d5_15 : decode method_4_code 15 = .ok (.aload_n 1, 1) := by decide +kernel
theorem d5_16 : decode method_4_code 16 = .ok (.iconst 0, 1) := by decide +kernel
theorem d5_17 : decode method_4_code 17 = .ok (.laload, 1) := by decide +kernel
theorem d5_18 : decode method_4_code 18 = .ok (.lmul, 1) := by decide +kernel
theorem d5_19 : decode method_4_code 19 = .ok (.ladd, 1) := by decide +kernel
theorem d5_20 : decode method_4_code 20 = .ok (.lstore 7, 2) := by decide +kernel
theorem d5_22 : decode method_4_code 22 = .ok (.aload 6, 2) := by decide +kernel
theorem d5_24 : decode method_4_code 24 = .ok (.iconst 0, 1) := by decide +kernel
theorem d5_25 : decode method_4_code 25 = .ok (.lload 7, 2) := by decide +kernel
theorem d5_27 : decode method_4_code 27 = .ok (.lload 4, 2) := by decide +kernel
theorem d5_29 : decode method_4_code 29 = .ok (.land, 1) := by decide +kernel
theorem d5_30 : decode method_4_code 30 = .ok (.lastore, 1) := by decide +kernel
theorem d5_31 : decode method_4_code 31 = .ok (.aload_n 0, 1) := by decide +kernel
theorem d5_32 : decode method_4_code 32 = .ok (.iconst 1, 1) := by decide +kernel
theorem d5_33 : decode method_4_code 33 = .ok (.laload, 1) := by decide +kernel
theorem d5_34 : decode method_4_code 34 = .ok (.lload_n 2, 1) := by decide +kernel
theorem d5_35 : decode method_4_code 35 = .ok (.aload_n 1, 1) := by decide +kernel
theorem d5_36 : decode method_4_code 36 = .ok (.iconst 1, 1) := by decide +kernel
theorem d5_37 : decode method_4_code 37 = .ok (.laload, 1) := by decide +kernel
theorem d5_38 : decode method_4_code 38 = .ok (.lmul, 1) := by decide +kernel
theorem d5_39 : decode method_4_code 39 = .ok (.ladd, 1) := by decide +kernel
theorem d5_40 : decode method_4_code 40 = .ok (.lload 7, 2) := by decide +kernel
theorem d5_42 : decode method_4_code 42 = .ok (.bipush 32, 2) := by decide +kernel
theorem d5_44 : decode method_4_code 44 = .ok (.lushr, 1) := by decide +kernel
theorem d5_45 : decode method_4_code 45 = .ok (.ladd, 1) := by decide +kernel
theorem d5_46 : decode method_4_code 46 = .ok (.lstore 7, 2) := by decide +kernel
theorem d5_48 : decode method_4_code 48 = .ok (.aload 6, 2) := by decide +kernel
theorem d5_50 : decode method_4_code 50 = .ok (.iconst 1, 1) := by decide +kernel
theorem d5_51 : decode method_4_code 51 = .ok (.lload 7, 2) := by decide +kernel
theorem d5_53 : decode method_4_code 53 = .ok (.lload 4, 2) := by decide +kernel
theorem d5_55 : decode method_4_code 55 = .ok (.land, 1) := by decide +kernel
theorem d5_56 : decode method_4_code 56 = .ok (.lastore, 1) := by decide +kernel
theorem d5_57 : decode method_4_code 57 = .ok (.aload_n 0, 1) := by decide +kernel
theorem d5_58 : decode method_4_code 58 = .ok (.iconst 2, 1) := by decide +kernel
theorem d5_59 : decode method_4_code 59 = .ok (.laload, 1) := by decide +kernel
theorem d5_60 : decode method_4_code 60 = .ok (.lload_n 2, 1) := by decide +kernel
theorem d5_61 : decode method_4_code 61 = .ok (.aload_n 1, 1) := by decide +kernel
theorem d5_62 : decode method_4_code 62 = .ok (.iconst 2, 1) := by decide +kernel
theorem d5_63 : decode method_4_code 63 = .ok (.laload, 1) := by decide +kernel
theorem d5_64 : decode method_4_code 64 = .ok (.lmul, 1) := by decide +kernel
theorem d5_65 : decode method_4_code 65 = .ok (.ladd, 1) := by decide +kernel
theorem d5_66 : decode method_4_code 66 = .ok (.lload 7, 2) := by decide +kernel
theorem d5_68 : decode method_4_code 68 = .ok (.bipush 32, 2) := by decide +kernel
theorem d5_70 : decode method_4_code 70 = .ok (.lushr, 1) := by decide +kernel
theorem d5_71 : decode method_4_code 71 = .ok (.ladd, 1) := by decide +kernel
theorem d5_72 : decode method_4_code 72 = .ok (.lstore 7, 2) := by decide +kernel
theorem d5_74 : decode method_4_code 74 = .ok (.aload 6, 2) := by decide +kernel
theorem d5_76 : decode method_4_code 76 = .ok (.iconst 2, 1) := by decide +kernel
theorem d5_77 : decode method_4_code 77 = .ok (.lload 7, 2) := by decide +kernel
theorem d5_79 : decode method_4_code 79 = .ok (.lload 4, 2) := by decide +kernel
theorem d5_81 : decode method_4_code 81 = .ok (.land, 1) := by decide +kernel
theorem d5_82 : decode method_4_code 82 = .ok (.lastore, 1) := by decide +kernel
theorem d5_83 : decode method_4_code 83 = .ok (.aload_n 0, 1) := by decide +kernel
theorem d5_84 : decode method_4_code 84 = .ok (.iconst 3, 1) := by decide +kernel
theorem d5_85 : decode method_4_code 85 = .ok (.laload, 1) := by decide +kernel
theorem d5_86 : decode method_4_code 86 = .ok (.lload_n 2, 1) := by decide +kernel
theorem d5_87 : decode method_4_code 87 = .ok (.aload_n 1, 1) := by decide +kernel
theorem d5_88 : decode method_4_code 88 = .ok (.iconst 3, 1) := by decide +kernel
theorem d5_89 : decode method_4_code 89 = .ok (.laload, 1) := by decide +kernel
theorem d5_90 : decode method_4_code 90 = .ok (.lmul, 1) := by decide +kernel
theorem d5_91 : decode method_4_code 91 = .ok (.ladd, 1) := by decide +kernel
theorem d5_92 : decode method_4_code 92 = .ok (.lload 7, 2) := by decide +kernel
theorem d5_94 : decode method_4_code 94 = .ok (.bipush 32, 2) := by decide +kernel
theorem d5_96 : decode method_4_code 96 = .ok (.lushr, 1) := by decide +kernel
theorem d5_97 : decode method_4_code 97 = .ok (.ladd, 1) := by decide +kernel
theorem d5_98 : decode method_4_code 98 = .ok (.lstore 7, 2) := by decide +kernel
theorem d5_100 : decode method_4_code 100 = .ok (.aload 6, 2) := by decide +kernel
theorem d5_102 : decode method_4_code 102 = .ok (.iconst 3, 1) := by decide +kernel
theorem d5_103 : decode method_4_code 103 = .ok (.lload 7, 2) := by decide +kernel
theorem d5_105 : decode method_4_code 105 = .ok (.lload 4, 2) := by decide +kernel
theorem d5_107 : decode method_4_code 107 = .ok (.land, 1) := by decide +kernel
theorem d5_108 : decode method_4_code 108 = .ok (.lastore, 1) := by decide +kernel
theorem d5_109 : decode method_4_code 109 = .ok (.aload_n 0, 1) := by decide +kernel
theorem d5_110 : decode method_4_code 110 = .ok (.iconst 4, 1) := by decide +kernel
theorem d5_111 : decode method_4_code 111 = .ok (.laload, 1) := by decide +kernel
theorem d5_112 : decode method_4_code 112 = .ok (.lload_n 2, 1) := by decide +kernel
theorem d5_113 : decode method_4_code 113 = .ok (.aload_n 1, 1) := by decide +kernel
theorem d5_114 : decode method_4_code 114 = .ok (.iconst 4, 1) := by decide +kernel
theorem d5_115 : decode method_4_code 115 = .ok (.laload, 1) := by decide +kernel
theorem d5_116 : decode method_4_code 116 = .ok (.lmul, 1) := by decide +kernel
theorem d5_117 : decode method_4_code 117 = .ok (.ladd, 1) := by decide +kernel
theorem d5_118 : decode method_4_code 118 = .ok (.lload 7, 2) := by decide +kernel
theorem d5_120 : decode method_4_code 120 = .ok (.bipush 32, 2) := by decide +kernel
theorem d5_122 : decode method_4_code 122 = .ok (.lushr, 1) := by decide +kernel
theorem d5_123 : decode method_4_code 123 = .ok (.ladd, 1) := by decide +kernel
theorem d5_124 : decode method_4_code 124 = .ok (.lstore 7, 2) := by decide +kernel
theorem d5_126 : decode method_4_code 126 = .ok (.aload 6, 2) := by decide +kernel
theorem d5_128 : decode method_4_code 128 = .ok (.iconst 4, 1) := by decide +kernel
theorem d5_129 : decode method_4_code 129 = .ok (.lload 7, 2) := by decide +kernel
theorem d5_131 : decode method_4_code 131 = .ok (.lload 4, 2) := by decide +kernel
theorem d5_133 : decode method_4_code 133 = .ok (.land, 1) := by decide +kernel
theorem d5_134 : decode method_4_code 134 = .ok (.lastore, 1) := by decide +kernel
theorem d5_135 : decode method_4_code 135 = .ok (.aload_n 0, 1) := by decide +kernel
theorem d5_136 : decode method_4_code 136 = .ok (.iconst 5, 1) := by decide +kernel
theorem d5_137 : decode method_4_code 137 = .ok (.laload, 1) := by decide +kernel
theorem d5_138 : decode method_4_code 138 = .ok (.lload_n 2, 1) := by decide +kernel
theorem d5_139 : decode method_4_code 139 = .ok (.aload_n 1, 1) := by decide +kernel
theorem d5_140 : decode method_4_code 140 = .ok (.iconst 5, 1) := by decide +kernel
theorem d5_141 : decode method_4_code 141 = .ok (.laload, 1) := by decide +kernel
theorem d5_142 : decode method_4_code 142 = .ok (.lmul, 1) := by decide +kernel
theorem d5_143 : decode method_4_code 143 = .ok (.ladd, 1) := by decide +kernel
theorem d5_144 : decode method_4_code 144 = .ok (.lload 7, 2) := by decide +kernel
theorem d5_146 : decode method_4_code 146 = .ok (.bipush 32, 2) := by decide +kernel
theorem d5_148 : decode method_4_code 148 = .ok (.lushr, 1) := by decide +kernel
theorem d5_149 : decode method_4_code 149 = .ok (.ladd, 1) := by decide +kernel
theorem d5_150 : decode method_4_code 150 = .ok (.lstore 7, 2) := by decide +kernel
theorem d5_152 : decode method_4_code 152 = .ok (.aload 6, 2) := by decide +kernel
theorem d5_154 : decode method_4_code 154 = .ok (.iconst 5, 1) := by decide +kernel
theorem d5_155 : decode method_4_code 155 = .ok (.lload 7, 2) := by decide +kernel
theorem d5_157 : decode method_4_code 157 = .ok (.lload 4, 2) := by decide +kernel
theorem d5_159 : decode method_4_code 159 = .ok (.land, 1) := by decide +kernel
theorem d5_160 : decode method_4_code 160 = .ok (.lastore, 1) := by decide +kernel
theorem d5_161 : decode method_4_code 161 = .ok (.aload_n 0, 1) := by decide +kernel
theorem d5_162 : decode method_4_code 162 = .ok (.bipush 6, 2) := by decide +kernel
theorem d5_164 : decode method_4_code 164 = .ok (.laload, 1) := by decide +kernel
theorem d5_165 : decode method_4_code 165 = .ok (.lload_n 2, 1) := by decide +kernel
theorem d5_166 : decode method_4_code 166 = .ok (.aload_n 1, 1) := by decide +kernel
theorem d5_167 : decode method_4_code 167 = .ok (.bipush 6, 2) := by decide +kernel
theorem d5_169 : decode method_4_code 169 = .ok (.laload, 1) := by decide +kernel
theorem d5_170 : decode method_4_code 170 = .ok (.lmul, 1) := by decide +kernel
theorem d5_171 : decode method_4_code 171 = .ok (.ladd, 1) := by decide +kernel
theorem d5_172 : decode method_4_code 172 = .ok (.lload 7, 2) := by decide +kernel
theorem d5_174 : decode method_4_code 174 = .ok (.bipush 32, 2) := by decide +kernel
theorem d5_176 : decode method_4_code 176 = .ok (.lushr, 1) := by decide +kernel
theorem d5_177 : decode method_4_code 177 = .ok (.ladd, 1) := by decide +kernel
theorem d5_178 : decode method_4_code 178 = .ok (.lstore 7, 2) := by decide +kernel
theorem d5_180 : decode method_4_code 180 = .ok (.aload 6, 2) := by decide +kernel
theorem d5_182 : decode method_4_code 182 = .ok (.bipush 6, 2) := by decide +kernel
theorem d5_184 : decode method_4_code 184 = .ok (.lload 7, 2) := by decide +kernel
theorem d5_186 : decode method_4_code 186 = .ok (.lload 4, 2) := by decide +kernel
theorem d5_188 : decode method_4_code 188 = .ok (.land, 1) := by decide +kernel
theorem d5_189 : decode method_4_code 189 = .ok (.lastore, 1) := by decide +kernel
theorem d5_190 : decode method_4_code 190 = .ok (.aload_n 0, 1) := by decide +kernel
theorem d5_191 : decode method_4_code 191 = .ok (.bipush 7, 2) := by decide +kernel
theorem d5_193 : decode method_4_code 193 = .ok (.laload, 1) := by decide +kernel
theorem d5_194 : decode method_4_code 194 = .ok (.lload_n 2, 1) := by decide +kernel
theorem d5_195 : decode method_4_code 195 = .ok (.aload_n 1, 1) := by decide +kernel
theorem d5_196 : decode method_4_code 196 = .ok (.bipush 7, 2) := by decide +kernel
theorem d5_198 : decode method_4_code 198 = .ok (.laload, 1) := by decide +kernel
theorem d5_199 : decode method_4_code 199 = .ok (.lmul, 1) := by decide +kernel
theorem d5_200 : decode method_4_code 200 = .ok (.ladd, 1) := by decide +kernel
theorem d5_201 : decode method_4_code 201 = .ok (.lload 7, 2) := by decide +kernel
theorem d5_203 : decode method_4_code 203 = .ok (.bipush 32, 2) := by decide +kernel
theorem d5_205 : decode method_4_code 205 = .ok (.lushr, 1) := by decide +kernel
theorem d5_206 : decode method_4_code 206 = .ok (.ladd, 1) := by decide +kernel
theorem d5_207 : decode method_4_code 207 = .ok (.lstore 7, 2) := by decide +kernel
theorem d5_209 : decode method_4_code 209 = .ok (.aload 6, 2) := by decide +kernel
theorem d5_211 : decode method_4_code 211 = .ok (.bipush 7, 2) := by decide +kernel
theorem d5_213 : decode method_4_code 213 = .ok (.lload 7, 2) := by decide +kernel
theorem d5_215 : decode method_4_code 215 = .ok (.lload 4, 2) := by decide +kernel
theorem d5_217 : decode method_4_code 217 = .ok (.land, 1) := by decide +kernel
theorem d5_218 : decode method_4_code 218 = .ok (.lastore, 1) := by decide +kernel
theorem d5_219 : decode method_4_code 219 = .ok (.aload 6, 2) := by decide +kernel
theorem d5_221 : decode method_4_code 221 = .ok (.bipush 8, 2) := by decide +kernel
theorem d5_223 : decode method_4_code 223 = .ok (.lload 7, 2) := by decide +kernel
theorem d5_225 : decode method_4_code 225 = .ok (.bipush 32, 2) := by decide +kernel
theorem d5_227 : decode method_4_code 227 = .ok (.lushr, 1) := by decide +kernel
theorem d5_228 : decode method_4_code 228 = .ok (.lastore, 1) := by decide +kernel
theorem d5_229 : decode method_4_code 229 = .ok (.aload 6, 2) := by decide +kernel
theorem d5_231 : decode method_4_code 231 = .ok (.areturn, 1) := by decide +kernel
theorem pn_5 : plainFor (⟨"com/example/gatewarden/gatewarden/P256FieldAddPinLaw", "addScaled", "([J[JJ)[J"⟩ : MethodName) = true := plainFor_of_name (by first | (simp [plainName, overriddenIn]; done) | decide +kernel)
set_option maxRecDepth 65536 in
set_option maxHeartbeats 40000000 in
theorem c_sc0 {Z : State} {a0 : Array Value} (hw : ∀ d ∈ tables_1, d.before a0 Z = true) {a b : Addr} {x0 x1 x2 x3 x4 x5 x6 x7 y0 y1 y2 y3 y4 y5 y6 y7 : Int64} {fa fb : Nat → Int64} {h0 : Heap} {n0 : Nat} (Z0 : n0 ≤ h0.size) (A1 : AJ Z h0 a 8 fa) (A2 : AJ Z h0 b 8 fb) (e_x0 : fa 0 = x0) (e_x1 : fa 1 = x1) (e_x2 : fa 2 = x2) (e_x3 : fa 3 = x3) (e_x4 : fa 4 = x4) (e_x5 : fa 5 = x5) (e_x6 : fa 6 = x6) (e_x7 : fa 7 = x7) (e_y0 : fb 0 = y0) (e_y1 : fb 1 = y1) (e_y2 : fb 2 = y2) (e_y3 : fb 3 = y3) (e_y4 : fb 4 = y4) (e_y5 : fb 5 = y5) (e_y6 : fb 6 = y6) (e_y7 : fb 7 = y7) (r_x0 : 0 ≤ x0.toInt ∧ x0.toInt < 4294967296) (r_x1 : 0 ≤ x1.toInt ∧ x1.toInt < 4294967296) (r_x2 : 0 ≤ x2.toInt ∧ x2.toInt < 4294967296) (r_x3 : 0 ≤ x3.toInt ∧ x3.toInt < 4294967296) (r_x4 : 0 ≤ x4.toInt ∧ x4.toInt < 4294967296) (r_x5 : 0 ≤ x5.toInt ∧ x5.toInt < 4294967296) (r_x6 : 0 ≤ x6.toInt ∧ x6.toInt < 4294967296) (r_x7 : 0 ≤ x7.toInt ∧ x7.toInt < 4294967296) (r_y0 : 0 ≤ y0.toInt ∧ y0.toInt < 4294967296) (r_y1 : 0 ≤ y1.toInt ∧ y1.toInt < 4294967296) (r_y2 : 0 ≤ y2.toInt ∧ y2.toInt < 4294967296) (r_y3 : 0 ≤ y3.toInt ∧ y3.toInt < 4294967296) (r_y4 : 0 ≤ y4.toInt ∧ y4.toInt < 4294967296) (r_y5 : 0 ≤ y5.toInt ∧ y5.toInt < 4294967296) (r_y6 : 0 ≤ y6.toInt ∧ y6.toInt < 4294967296) (r_y7 : 0 ≤ y7.toInt ∧ y7.toInt < 4294967296) :
    Ctr Z n0 (⟨"com/example/gatewarden/gatewarden/P256FieldAddPinLaw", "addScaled", "([J[JJ)[J"⟩ : MethodName) method_4_code 9 (some (.array .long)) ({ frames := 0, cells := 1, slots := 9, locals := 0 } : Room) [(.ref a), (.ref b), (.long (0 : Int64))] h0 (fun v h => ∃ (b' : Addr) (z0 z1 z2 z3 z4 z5 z6 z7 z8 : Int64), v = some (.ref b') ∧ n0 ≤ b' ∧ h0.size ≤ b' ∧ Keep h0 h [] ∧ AJ Z h b' 9 (A9 z0 z1 z2 z3 z4 z5 z6 z7 z8) ∧ ((0 ≤ z0.toInt ∧ z0.toInt < 4294967296) ∧ (0 ≤ z1.toInt ∧ z1.toInt < 4294967296) ∧ (0 ≤ z2.toInt ∧ z2.toInt < 4294967296) ∧ (0 ≤ z3.toInt ∧ z3.toInt < 4294967296) ∧ (0 ≤ z4.toInt ∧ z4.toInt < 4294967296) ∧ (0 ≤ z5.toInt ∧ z5.toInt < 4294967296) ∧ (0 ≤ z6.toInt ∧ z6.toInt < 4294967296) ∧ (0 ≤ z7.toInt ∧ z7.toInt < 4294967296)) ∧ z0.toInt + z1.toInt * 4294967296 + z2.toInt * 18446744073709551616 + z3.toInt * 79228162514264337593543950336 + z4.toInt * 340282366920938463463374607431768211456 + z5.toInt * 1461501637330902918203684832716283019655932542976 + z6.toInt * 6277101735386680763835789423207666416102355444464034512896 + z7.toInt * 26959946667150639794667015087019630673637144422540572481103610249216 + z8.toInt * 115792089237316195423570985008687907853269984665640564039457584007913129639936 = (x0.toInt + x1.toInt * 4294967296 + x2.toInt * 18446744073709551616 + x3.toInt * 79228162514264337593543950336 + x4.toInt * 340282366920938463463374607431768211456 + x5.toInt * 1461501637330902918203684832716283019655932542976 + x6.toInt * 6277101735386680763835789423207666416102355444464034512896 + x7.toInt * 26959946667150639794667015087019630673637144422540572481103610249216) + (y0.toInt + y1.toInt * 4294967296 + y2.toInt * 18446744073709551616 + y3.toInt * 79228162514264337593543950336 + y4.toInt * 340282366920938463463374607431768211456 + y5.toInt * 1461501637330902918203684832716283019655932542976 + y6.toInt * 6277101735386680763835789423207666416102355444464034512896 + y7.toInt * 26959946667150639794667015087019630673637144422540572481103610249216) * 0) := by
  refine Ctr.of (L := #[.val (.ref a), .val (.ref b), .val (.long (0 : Int64)), .second, .unset, .unset, .unset, .unset, .unset]) pn_5 Z0 (fun m => by first | (simp [entryFrame, mkF, argsToLocals, Value.category]; done) | rfl) ?_
  intro K T S0
  refine px_ldc2 S0 (hw _ (List.mem_of_getElem? (i := 0) rfl)) d5_0 rfl ?_
  refine px_lstore S0 d5_3 rfl (L' := #[.val (.ref a), .val (.ref b), .val (.long (0 : Int64)), .second, .val (.long (4294967295 : Int64)), .second, .unset, .unset, .unset]) rfl ?_
  refine px_bipush (v := (9 : Int32)) S0 d5_5 rfl rfl ?_
  refine px_newarrJ (cap := 9) S0 (hw _ (List.mem_of_getElem? (i := 1) rfl)) (n := 9) rfl (by decide) (by decide) (by decide) (by decide) d5_7 rfl (fun T1 h1 b1 z1 g_b1 S1 E1 A_b1 => ?_)
  have ne_a_b1 : a ≠ b1 := ne_new z1 A1.lt
  have ne_b_b1 : b ≠ b1 := ne_new z1 A2.lt
  replace A1 := A1.ext E1
  replace A2 := A2.ext E1
  refine px_astore S1 d5_9 rfl rfl (L' := #[.val (.ref a), .val (.ref b), .val (.long (0 : Int64)), .second, .val (.long (4294967295 : Int64)), .second, .val (.ref b1), .unset, .unset]) rfl ?_
  refine px_aloadN S1 d5_11 rfl rfl rfl ?_
  refine px_iconst (v := (0 : Int32)) S1 d5_12 rfl rfl ?_
  refine px_laload (v := x0) S1 A1 (i := 0) rfl (by decide) e_x0 d5_13 rfl ?_
  refine px_lloadN S1 d5_14 rfl rfl ?_
  refine px_aloadN S1 d5_15 rfl rfl rfl ?_
  refine px_iconst (v := (0 : Int32)) S1 d5_16 rfl rfl ?_
  refine px_laload (v := y0) S1 A2 (i := 0) rfl (by decide) e_y0 d5_17 rfl ?_
  refine px_lmul S1 d5_18 rfl ?_
  refine px_ladd S1 d5_19 rfl ?_
  have x_3 := (x_lmul' (r01 r_y0) rfl (by decide) (by decide) (by decide) : ((0 : Int64) * y0).toInt = y0.toInt * (0))
  have l_4 : (0 : Int64).toInt = 0 := rfl
  have bx_3 : (0 : Int) ≤ ((0 : Int64) * y0).toInt ∧ ((0 : Int64) * y0).toInt ≤ 0 := by rw [x_3]; exact ib_mul (0) (by decide) (r01 r_y0) (by decide) (by decide)
  have x_2 := (x_ladd (r01 r_x0) bx_3 (by decide) (by decide) : (x0 + ((0 : Int64) * y0)).toInt = x0.toInt + ((0 : Int64) * y0).toInt)
  have bx_2 : (0 : Int) ≤ (x0 + ((0 : Int64) * y0)).toInt ∧ (x0 + ((0 : Int64) * y0)).toInt ≤ 4294967295 := by rw [x_2]; exact ib_add (r01 r_x0) bx_3 (by decide) (by decide)
  generalize h_v5 : (x0 + ((0 : Int64) * y0)) = v5
  rw [h_v5] at x_2 bx_2
  refine px_lstore S1 d5_20 rfl (L' := #[.val (.ref a), .val (.ref b), .val (.long (0 : Int64)), .second, .val (.long (4294967295 : Int64)), .second, .val (.ref b1), .val (.long v5), .second]) rfl ?_
  refine px_aload S1 d5_22 rfl rfl rfl ?_
  refine px_iconst (v := (0 : Int32)) S1 d5_24 rfl rfl ?_
  refine px_lload S1 d5_25 rfl rfl ?_
  refine px_lload S1 d5_27 rfl rfl ?_
  refine px_land S1 d5_29 rfl ?_
  refine px_lastore S1 A_b1 g_b1 (i := 0) rfl (by decide) d5_30 rfl (fun T6 h6 S6 W6 A_b1 => ?_)
  replace A1 := A1.other W6 ne_a_b1
  replace A2 := A2.other W6 ne_b_b1
  refine px_aloadN S6 d5_31 rfl rfl rfl ?_
  refine px_iconst (v := (1 : Int32)) S6 d5_32 rfl rfl ?_
  refine px_laload (v := x1) S6 A1 (i := 1) rfl (by decide) e_x1 d5_33 rfl ?_
  refine px_lloadN S6 d5_34 rfl rfl ?_
  refine px_aloadN S6 d5_35 rfl rfl rfl ?_
  refine px_iconst (v := (1 : Int32)) S6 d5_36 rfl rfl ?_
  refine px_laload (v := y1) S6 A2 (i := 1) rfl (by decide) e_y1 d5_37 rfl ?_
  refine px_lmul S6 d5_38 rfl ?_
  refine px_ladd S6 d5_39 rfl ?_
  refine px_lload S6 d5_40 rfl rfl ?_
  refine px_bipush (v := (32 : Int32)) S6 d5_42 rfl rfl ?_
  refine px_lushr S6 d5_44 rfl ?_
  refine px_ladd S6 d5_45 rfl ?_
  have x_9 := (x_lmul' (r01 r_y1) rfl (by decide) (by decide) (by decide) : ((0 : Int64) * y1).toInt = y1.toInt * (0))
  have bx_9 : (0 : Int) ≤ ((0 : Int64) * y1).toInt ∧ ((0 : Int64) * y1).toInt ≤ 0 := by rw [x_9]; exact ib_mul (0) (by decide) (r01 r_y1) (by decide) (by decide)
  have x_8 := (x_ladd (r01 r_x1) bx_9 (by decide) (by decide) : (x1 + ((0 : Int64) * y1)).toInt = x1.toInt + ((0 : Int64) * y1).toInt)
  have bx_8 : (0 : Int) ≤ (x1 + ((0 : Int64) * y1)).toInt ∧ (x1 + ((0 : Int64) * y1)).toInt ≤ 4294967295 := by rw [x_8]; exact ib_add (r01 r_x1) bx_9 (by decide) (by decide)
  have x_10 := (x_lushr bx_2 (by decide) 32 (by decide) (by decide) (by decide) : (ushrL v5 (32 : Int32)).toInt = v5.toInt / 4294967296)
  have l_11 : (32 : Int32).toInt = 32 := rfl
  have bx_10 : (0 : Int) ≤ (ushrL v5 (32 : Int32)).toInt ∧ (ushrL v5 (32 : Int32)).toInt ≤ 0 := by rw [x_10]; exact ib_div 4294967296 (by decide) bx_2 (by decide) (by decide)
  have x_7 := (x_ladd bx_8 bx_10 (by decide) (by decide) : ((x1 + ((0 : Int64) * y1)) + (ushrL v5 (32 : Int32))).toInt = (x1 + ((0 : Int64) * y1)).toInt + (ushrL v5 (32 : Int32)).toInt)
  have bx_7 : (0 : Int) ≤ ((x1 + ((0 : Int64) * y1)) + (ushrL v5 (32 : Int32))).toInt ∧ ((x1 + ((0 : Int64) * y1)) + (ushrL v5 (32 : Int32))).toInt ≤ 4294967295 := by rw [x_7]; exact ib_add bx_8 bx_10 (by decide) (by decide)
  generalize h_v12 : ((x1 + ((0 : Int64) * y1)) + (ushrL v5 (32 : Int32))) = v12
  rw [h_v12] at x_7 bx_7
  refine px_lstore S6 d5_46 rfl (L' := #[.val (.ref a), .val (.ref b), .val (.long (0 : Int64)), .second, .val (.long (4294967295 : Int64)), .second, .val (.ref b1), .val (.long v12), .second]) rfl ?_
  refine px_aload S6 d5_48 rfl rfl rfl ?_
  refine px_iconst (v := (1 : Int32)) S6 d5_50 rfl rfl ?_
  refine px_lload S6 d5_51 rfl rfl ?_
  refine px_lload S6 d5_53 rfl rfl ?_
  refine px_land S6 d5_55 rfl ?_
  refine px_lastore S6 A_b1 g_b1 (i := 1) rfl (by decide) d5_56 rfl (fun T13 h13 S13 W13 A_b1 => ?_)
  replace A1 := A1.other W13 ne_a_b1
  replace A2 := A2.other W13 ne_b_b1
  refine px_aloadN S13 d5_57 rfl rfl rfl ?_
  refine px_iconst (v := (2 : Int32)) S13 d5_58 rfl rfl ?_
  refine px_laload (v := x2) S13 A1 (i := 2) rfl (by decide) e_x2 d5_59 rfl ?_
  refine px_lloadN S13 d5_60 rfl rfl ?_
  refine px_aloadN S13 d5_61 rfl rfl rfl ?_
  refine px_iconst (v := (2 : Int32)) S13 d5_62 rfl rfl ?_
  refine px_laload (v := y2) S13 A2 (i := 2) rfl (by decide) e_y2 d5_63 rfl ?_
  refine px_lmul S13 d5_64 rfl ?_
  refine px_ladd S13 d5_65 rfl ?_
  refine px_lload S13 d5_66 rfl rfl ?_
  refine px_bipush (v := (32 : Int32)) S13 d5_68 rfl rfl ?_
  refine px_lushr S13 d5_70 rfl ?_
  refine px_ladd S13 d5_71 rfl ?_
  have x_16 := (x_lmul' (r01 r_y2) rfl (by decide) (by decide) (by decide) : ((0 : Int64) * y2).toInt = y2.toInt * (0))
  have bx_16 : (0 : Int) ≤ ((0 : Int64) * y2).toInt ∧ ((0 : Int64) * y2).toInt ≤ 0 := by rw [x_16]; exact ib_mul (0) (by decide) (r01 r_y2) (by decide) (by decide)
  have x_15 := (x_ladd (r01 r_x2) bx_16 (by decide) (by decide) : (x2 + ((0 : Int64) * y2)).toInt = x2.toInt + ((0 : Int64) * y2).toInt)
  have bx_15 : (0 : Int) ≤ (x2 + ((0 : Int64) * y2)).toInt ∧ (x2 + ((0 : Int64) * y2)).toInt ≤ 4294967295 := by rw [x_15]; exact ib_add (r01 r_x2) bx_16 (by decide) (by decide)
  have x_17 := (x_lushr bx_7 (by decide) 32 (by decide) (by decide) (by decide) : (ushrL v12 (32 : Int32)).toInt = v12.toInt / 4294967296)
  have bx_17 : (0 : Int) ≤ (ushrL v12 (32 : Int32)).toInt ∧ (ushrL v12 (32 : Int32)).toInt ≤ 0 := by rw [x_17]; exact ib_div 4294967296 (by decide) bx_7 (by decide) (by decide)
  have x_14 := (x_ladd bx_15 bx_17 (by decide) (by decide) : ((x2 + ((0 : Int64) * y2)) + (ushrL v12 (32 : Int32))).toInt = (x2 + ((0 : Int64) * y2)).toInt + (ushrL v12 (32 : Int32)).toInt)
  have bx_14 : (0 : Int) ≤ ((x2 + ((0 : Int64) * y2)) + (ushrL v12 (32 : Int32))).toInt ∧ ((x2 + ((0 : Int64) * y2)) + (ushrL v12 (32 : Int32))).toInt ≤ 4294967295 := by rw [x_14]; exact ib_add bx_15 bx_17 (by decide) (by decide)
  generalize h_v18 : ((x2 + ((0 : Int64) * y2)) + (ushrL v12 (32 : Int32))) = v18
  rw [h_v18] at x_14 bx_14
  refine px_lstore S13 d5_72 rfl (L' := #[.val (.ref a), .val (.ref b), .val (.long (0 : Int64)), .second, .val (.long (4294967295 : Int64)), .second, .val (.ref b1), .val (.long v18), .second]) rfl ?_
  refine px_aload S13 d5_74 rfl rfl rfl ?_
  refine px_iconst (v := (2 : Int32)) S13 d5_76 rfl rfl ?_
  refine px_lload S13 d5_77 rfl rfl ?_
  refine px_lload S13 d5_79 rfl rfl ?_
  refine px_land S13 d5_81 rfl ?_
  refine px_lastore S13 A_b1 g_b1 (i := 2) rfl (by decide) d5_82 rfl (fun T19 h19 S19 W19 A_b1 => ?_)
  replace A1 := A1.other W19 ne_a_b1
  replace A2 := A2.other W19 ne_b_b1
  refine px_aloadN S19 d5_83 rfl rfl rfl ?_
  refine px_iconst (v := (3 : Int32)) S19 d5_84 rfl rfl ?_
  refine px_laload (v := x3) S19 A1 (i := 3) rfl (by decide) e_x3 d5_85 rfl ?_
  refine px_lloadN S19 d5_86 rfl rfl ?_
  refine px_aloadN S19 d5_87 rfl rfl rfl ?_
  refine px_iconst (v := (3 : Int32)) S19 d5_88 rfl rfl ?_
  refine px_laload (v := y3) S19 A2 (i := 3) rfl (by decide) e_y3 d5_89 rfl ?_
  refine px_lmul S19 d5_90 rfl ?_
  refine px_ladd S19 d5_91 rfl ?_
  refine px_lload S19 d5_92 rfl rfl ?_
  refine px_bipush (v := (32 : Int32)) S19 d5_94 rfl rfl ?_
  refine px_lushr S19 d5_96 rfl ?_
  refine px_ladd S19 d5_97 rfl ?_
  have x_22 := (x_lmul' (r01 r_y3) rfl (by decide) (by decide) (by decide) : ((0 : Int64) * y3).toInt = y3.toInt * (0))
  have bx_22 : (0 : Int) ≤ ((0 : Int64) * y3).toInt ∧ ((0 : Int64) * y3).toInt ≤ 0 := by rw [x_22]; exact ib_mul (0) (by decide) (r01 r_y3) (by decide) (by decide)
  have x_21 := (x_ladd (r01 r_x3) bx_22 (by decide) (by decide) : (x3 + ((0 : Int64) * y3)).toInt = x3.toInt + ((0 : Int64) * y3).toInt)
  have bx_21 : (0 : Int) ≤ (x3 + ((0 : Int64) * y3)).toInt ∧ (x3 + ((0 : Int64) * y3)).toInt ≤ 4294967295 := by rw [x_21]; exact ib_add (r01 r_x3) bx_22 (by decide) (by decide)
  have x_23 := (x_lushr bx_14 (by decide) 32 (by decide) (by decide) (by decide) : (ushrL v18 (32 : Int32)).toInt = v18.toInt / 4294967296)
  have bx_23 : (0 : Int) ≤ (ushrL v18 (32 : Int32)).toInt ∧ (ushrL v18 (32 : Int32)).toInt ≤ 0 := by rw [x_23]; exact ib_div 4294967296 (by decide) bx_14 (by decide) (by decide)
  have x_20 := (x_ladd bx_21 bx_23 (by decide) (by decide) : ((x3 + ((0 : Int64) * y3)) + (ushrL v18 (32 : Int32))).toInt = (x3 + ((0 : Int64) * y3)).toInt + (ushrL v18 (32 : Int32)).toInt)
  have bx_20 : (0 : Int) ≤ ((x3 + ((0 : Int64) * y3)) + (ushrL v18 (32 : Int32))).toInt ∧ ((x3 + ((0 : Int64) * y3)) + (ushrL v18 (32 : Int32))).toInt ≤ 4294967295 := by rw [x_20]; exact ib_add bx_21 bx_23 (by decide) (by decide)
  generalize h_v24 : ((x3 + ((0 : Int64) * y3)) + (ushrL v18 (32 : Int32))) = v24
  rw [h_v24] at x_20 bx_20
  refine px_lstore S19 d5_98 rfl (L' := #[.val (.ref a), .val (.ref b), .val (.long (0 : Int64)), .second, .val (.long (4294967295 : Int64)), .second, .val (.ref b1), .val (.long v24), .second]) rfl ?_
  refine px_aload S19 d5_100 rfl rfl rfl ?_
  refine px_iconst (v := (3 : Int32)) S19 d5_102 rfl rfl ?_
  refine px_lload S19 d5_103 rfl rfl ?_
  refine px_lload S19 d5_105 rfl rfl ?_
  refine px_land S19 d5_107 rfl ?_
  refine px_lastore S19 A_b1 g_b1 (i := 3) rfl (by decide) d5_108 rfl (fun T25 h25 S25 W25 A_b1 => ?_)
  replace A1 := A1.other W25 ne_a_b1
  replace A2 := A2.other W25 ne_b_b1
  refine px_aloadN S25 d5_109 rfl rfl rfl ?_
  refine px_iconst (v := (4 : Int32)) S25 d5_110 rfl rfl ?_
  refine px_laload (v := x4) S25 A1 (i := 4) rfl (by decide) e_x4 d5_111 rfl ?_
  refine px_lloadN S25 d5_112 rfl rfl ?_
  refine px_aloadN S25 d5_113 rfl rfl rfl ?_
  refine px_iconst (v := (4 : Int32)) S25 d5_114 rfl rfl ?_
  refine px_laload (v := y4) S25 A2 (i := 4) rfl (by decide) e_y4 d5_115 rfl ?_
  refine px_lmul S25 d5_116 rfl ?_
  refine px_ladd S25 d5_117 rfl ?_
  refine px_lload S25 d5_118 rfl rfl ?_
  refine px_bipush (v := (32 : Int32)) S25 d5_120 rfl rfl ?_
  refine px_lushr S25 d5_122 rfl ?_
  refine px_ladd S25 d5_123 rfl ?_
  have x_28 := (x_lmul' (r01 r_y4) rfl (by decide) (by decide) (by decide) : ((0 : Int64) * y4).toInt = y4.toInt * (0))
  have bx_28 : (0 : Int) ≤ ((0 : Int64) * y4).toInt ∧ ((0 : Int64) * y4).toInt ≤ 0 := by rw [x_28]; exact ib_mul (0) (by decide) (r01 r_y4) (by decide) (by decide)
  have x_27 := (x_ladd (r01 r_x4) bx_28 (by decide) (by decide) : (x4 + ((0 : Int64) * y4)).toInt = x4.toInt + ((0 : Int64) * y4).toInt)
  have bx_27 : (0 : Int) ≤ (x4 + ((0 : Int64) * y4)).toInt ∧ (x4 + ((0 : Int64) * y4)).toInt ≤ 4294967295 := by rw [x_27]; exact ib_add (r01 r_x4) bx_28 (by decide) (by decide)
  have x_29 := (x_lushr bx_20 (by decide) 32 (by decide) (by decide) (by decide) : (ushrL v24 (32 : Int32)).toInt = v24.toInt / 4294967296)
  have bx_29 : (0 : Int) ≤ (ushrL v24 (32 : Int32)).toInt ∧ (ushrL v24 (32 : Int32)).toInt ≤ 0 := by rw [x_29]; exact ib_div 4294967296 (by decide) bx_20 (by decide) (by decide)
  have x_26 := (x_ladd bx_27 bx_29 (by decide) (by decide) : ((x4 + ((0 : Int64) * y4)) + (ushrL v24 (32 : Int32))).toInt = (x4 + ((0 : Int64) * y4)).toInt + (ushrL v24 (32 : Int32)).toInt)
  have bx_26 : (0 : Int) ≤ ((x4 + ((0 : Int64) * y4)) + (ushrL v24 (32 : Int32))).toInt ∧ ((x4 + ((0 : Int64) * y4)) + (ushrL v24 (32 : Int32))).toInt ≤ 4294967295 := by rw [x_26]; exact ib_add bx_27 bx_29 (by decide) (by decide)
  generalize h_v30 : ((x4 + ((0 : Int64) * y4)) + (ushrL v24 (32 : Int32))) = v30
  rw [h_v30] at x_26 bx_26
  refine px_lstore S25 d5_124 rfl (L' := #[.val (.ref a), .val (.ref b), .val (.long (0 : Int64)), .second, .val (.long (4294967295 : Int64)), .second, .val (.ref b1), .val (.long v30), .second]) rfl ?_
  refine px_aload S25 d5_126 rfl rfl rfl ?_
  refine px_iconst (v := (4 : Int32)) S25 d5_128 rfl rfl ?_
  refine px_lload S25 d5_129 rfl rfl ?_
  refine px_lload S25 d5_131 rfl rfl ?_
  refine px_land S25 d5_133 rfl ?_
  refine px_lastore S25 A_b1 g_b1 (i := 4) rfl (by decide) d5_134 rfl (fun T31 h31 S31 W31 A_b1 => ?_)
  replace A1 := A1.other W31 ne_a_b1
  replace A2 := A2.other W31 ne_b_b1
  refine px_aloadN S31 d5_135 rfl rfl rfl ?_
  refine px_iconst (v := (5 : Int32)) S31 d5_136 rfl rfl ?_
  refine px_laload (v := x5) S31 A1 (i := 5) rfl (by decide) e_x5 d5_137 rfl ?_
  refine px_lloadN S31 d5_138 rfl rfl ?_
  refine px_aloadN S31 d5_139 rfl rfl rfl ?_
  refine px_iconst (v := (5 : Int32)) S31 d5_140 rfl rfl ?_
  refine px_laload (v := y5) S31 A2 (i := 5) rfl (by decide) e_y5 d5_141 rfl ?_
  refine px_lmul S31 d5_142 rfl ?_
  refine px_ladd S31 d5_143 rfl ?_
  refine px_lload S31 d5_144 rfl rfl ?_
  refine px_bipush (v := (32 : Int32)) S31 d5_146 rfl rfl ?_
  refine px_lushr S31 d5_148 rfl ?_
  refine px_ladd S31 d5_149 rfl ?_
  have x_34 := (x_lmul' (r01 r_y5) rfl (by decide) (by decide) (by decide) : ((0 : Int64) * y5).toInt = y5.toInt * (0))
  have bx_34 : (0 : Int) ≤ ((0 : Int64) * y5).toInt ∧ ((0 : Int64) * y5).toInt ≤ 0 := by rw [x_34]; exact ib_mul (0) (by decide) (r01 r_y5) (by decide) (by decide)
  have x_33 := (x_ladd (r01 r_x5) bx_34 (by decide) (by decide) : (x5 + ((0 : Int64) * y5)).toInt = x5.toInt + ((0 : Int64) * y5).toInt)
  have bx_33 : (0 : Int) ≤ (x5 + ((0 : Int64) * y5)).toInt ∧ (x5 + ((0 : Int64) * y5)).toInt ≤ 4294967295 := by rw [x_33]; exact ib_add (r01 r_x5) bx_34 (by decide) (by decide)
  have x_35 := (x_lushr bx_26 (by decide) 32 (by decide) (by decide) (by decide) : (ushrL v30 (32 : Int32)).toInt = v30.toInt / 4294967296)
  have bx_35 : (0 : Int) ≤ (ushrL v30 (32 : Int32)).toInt ∧ (ushrL v30 (32 : Int32)).toInt ≤ 0 := by rw [x_35]; exact ib_div 4294967296 (by decide) bx_26 (by decide) (by decide)
  have x_32 := (x_ladd bx_33 bx_35 (by decide) (by decide) : ((x5 + ((0 : Int64) * y5)) + (ushrL v30 (32 : Int32))).toInt = (x5 + ((0 : Int64) * y5)).toInt + (ushrL v30 (32 : Int32)).toInt)
  have bx_32 : (0 : Int) ≤ ((x5 + ((0 : Int64) * y5)) + (ushrL v30 (32 : Int32))).toInt ∧ ((x5 + ((0 : Int64) * y5)) + (ushrL v30 (32 : Int32))).toInt ≤ 4294967295 := by rw [x_32]; exact ib_add bx_33 bx_35 (by decide) (by decide)
  generalize h_v36 : ((x5 + ((0 : Int64) * y5)) + (ushrL v30 (32 : Int32))) = v36
  rw [h_v36] at x_32 bx_32
  refine px_lstore S31 d5_150 rfl (L' := #[.val (.ref a), .val (.ref b), .val (.long (0 : Int64)), .second, .val (.long (4294967295 : Int64)), .second, .val (.ref b1), .val (.long v36), .second]) rfl ?_
  refine px_aload S31 d5_152 rfl rfl rfl ?_
  refine px_iconst (v := (5 : Int32)) S31 d5_154 rfl rfl ?_
  refine px_lload S31 d5_155 rfl rfl ?_
  refine px_lload S31 d5_157 rfl rfl ?_
  refine px_land S31 d5_159 rfl ?_
  refine px_lastore S31 A_b1 g_b1 (i := 5) rfl (by decide) d5_160 rfl (fun T37 h37 S37 W37 A_b1 => ?_)
  replace A1 := A1.other W37 ne_a_b1
  replace A2 := A2.other W37 ne_b_b1
  refine px_aloadN S37 d5_161 rfl rfl rfl ?_
  refine px_bipush (v := (6 : Int32)) S37 d5_162 rfl rfl ?_
  refine px_laload (v := x6) S37 A1 (i := 6) rfl (by decide) e_x6 d5_164 rfl ?_
  refine px_lloadN S37 d5_165 rfl rfl ?_
  refine px_aloadN S37 d5_166 rfl rfl rfl ?_
  refine px_bipush (v := (6 : Int32)) S37 d5_167 rfl rfl ?_
  refine px_laload (v := y6) S37 A2 (i := 6) rfl (by decide) e_y6 d5_169 rfl ?_
  refine px_lmul S37 d5_170 rfl ?_
  refine px_ladd S37 d5_171 rfl ?_
  refine px_lload S37 d5_172 rfl rfl ?_
  refine px_bipush (v := (32 : Int32)) S37 d5_174 rfl rfl ?_
  refine px_lushr S37 d5_176 rfl ?_
  refine px_ladd S37 d5_177 rfl ?_
  have x_40 := (x_lmul' (r01 r_y6) rfl (by decide) (by decide) (by decide) : ((0 : Int64) * y6).toInt = y6.toInt * (0))
  have bx_40 : (0 : Int) ≤ ((0 : Int64) * y6).toInt ∧ ((0 : Int64) * y6).toInt ≤ 0 := by rw [x_40]; exact ib_mul (0) (by decide) (r01 r_y6) (by decide) (by decide)
  have x_39 := (x_ladd (r01 r_x6) bx_40 (by decide) (by decide) : (x6 + ((0 : Int64) * y6)).toInt = x6.toInt + ((0 : Int64) * y6).toInt)
  have bx_39 : (0 : Int) ≤ (x6 + ((0 : Int64) * y6)).toInt ∧ (x6 + ((0 : Int64) * y6)).toInt ≤ 4294967295 := by rw [x_39]; exact ib_add (r01 r_x6) bx_40 (by decide) (by decide)
  have x_41 := (x_lushr bx_32 (by decide) 32 (by decide) (by decide) (by decide) : (ushrL v36 (32 : Int32)).toInt = v36.toInt / 4294967296)
  have bx_41 : (0 : Int) ≤ (ushrL v36 (32 : Int32)).toInt ∧ (ushrL v36 (32 : Int32)).toInt ≤ 0 := by rw [x_41]; exact ib_div 4294967296 (by decide) bx_32 (by decide) (by decide)
  have x_38 := (x_ladd bx_39 bx_41 (by decide) (by decide) : ((x6 + ((0 : Int64) * y6)) + (ushrL v36 (32 : Int32))).toInt = (x6 + ((0 : Int64) * y6)).toInt + (ushrL v36 (32 : Int32)).toInt)
  have bx_38 : (0 : Int) ≤ ((x6 + ((0 : Int64) * y6)) + (ushrL v36 (32 : Int32))).toInt ∧ ((x6 + ((0 : Int64) * y6)) + (ushrL v36 (32 : Int32))).toInt ≤ 4294967295 := by rw [x_38]; exact ib_add bx_39 bx_41 (by decide) (by decide)
  generalize h_v42 : ((x6 + ((0 : Int64) * y6)) + (ushrL v36 (32 : Int32))) = v42
  rw [h_v42] at x_38 bx_38
  refine px_lstore S37 d5_178 rfl (L' := #[.val (.ref a), .val (.ref b), .val (.long (0 : Int64)), .second, .val (.long (4294967295 : Int64)), .second, .val (.ref b1), .val (.long v42), .second]) rfl ?_
  refine px_aload S37 d5_180 rfl rfl rfl ?_
  refine px_bipush (v := (6 : Int32)) S37 d5_182 rfl rfl ?_
  refine px_lload S37 d5_184 rfl rfl ?_
  refine px_lload S37 d5_186 rfl rfl ?_
  refine px_land S37 d5_188 rfl ?_
  refine px_lastore S37 A_b1 g_b1 (i := 6) rfl (by decide) d5_189 rfl (fun T43 h43 S43 W43 A_b1 => ?_)
  replace A1 := A1.other W43 ne_a_b1
  replace A2 := A2.other W43 ne_b_b1
  refine px_aloadN S43 d5_190 rfl rfl rfl ?_
  refine px_bipush (v := (7 : Int32)) S43 d5_191 rfl rfl ?_
  refine px_laload (v := x7) S43 A1 (i := 7) rfl (by decide) e_x7 d5_193 rfl ?_
  refine px_lloadN S43 d5_194 rfl rfl ?_
  refine px_aloadN S43 d5_195 rfl rfl rfl ?_
  refine px_bipush (v := (7 : Int32)) S43 d5_196 rfl rfl ?_
  refine px_laload (v := y7) S43 A2 (i := 7) rfl (by decide) e_y7 d5_198 rfl ?_
  refine px_lmul S43 d5_199 rfl ?_
  refine px_ladd S43 d5_200 rfl ?_
  refine px_lload S43 d5_201 rfl rfl ?_
  refine px_bipush (v := (32 : Int32)) S43 d5_203 rfl rfl ?_
  refine px_lushr S43 d5_205 rfl ?_
  refine px_ladd S43 d5_206 rfl ?_
  have x_46 := (x_lmul' (r01 r_y7) rfl (by decide) (by decide) (by decide) : ((0 : Int64) * y7).toInt = y7.toInt * (0))
  have bx_46 : (0 : Int) ≤ ((0 : Int64) * y7).toInt ∧ ((0 : Int64) * y7).toInt ≤ 0 := by rw [x_46]; exact ib_mul (0) (by decide) (r01 r_y7) (by decide) (by decide)
  have x_45 := (x_ladd (r01 r_x7) bx_46 (by decide) (by decide) : (x7 + ((0 : Int64) * y7)).toInt = x7.toInt + ((0 : Int64) * y7).toInt)
  have bx_45 : (0 : Int) ≤ (x7 + ((0 : Int64) * y7)).toInt ∧ (x7 + ((0 : Int64) * y7)).toInt ≤ 4294967295 := by rw [x_45]; exact ib_add (r01 r_x7) bx_46 (by decide) (by decide)
  have x_47 := (x_lushr bx_38 (by decide) 32 (by decide) (by decide) (by decide) : (ushrL v42 (32 : Int32)).toInt = v42.toInt / 4294967296)
  have bx_47 : (0 : Int) ≤ (ushrL v42 (32 : Int32)).toInt ∧ (ushrL v42 (32 : Int32)).toInt ≤ 0 := by rw [x_47]; exact ib_div 4294967296 (by decide) bx_38 (by decide) (by decide)
  have x_44 := (x_ladd bx_45 bx_47 (by decide) (by decide) : ((x7 + ((0 : Int64) * y7)) + (ushrL v42 (32 : Int32))).toInt = (x7 + ((0 : Int64) * y7)).toInt + (ushrL v42 (32 : Int32)).toInt)
  have bx_44 : (0 : Int) ≤ ((x7 + ((0 : Int64) * y7)) + (ushrL v42 (32 : Int32))).toInt ∧ ((x7 + ((0 : Int64) * y7)) + (ushrL v42 (32 : Int32))).toInt ≤ 4294967295 := by rw [x_44]; exact ib_add bx_45 bx_47 (by decide) (by decide)
  generalize h_v48 : ((x7 + ((0 : Int64) * y7)) + (ushrL v42 (32 : Int32))) = v48
  rw [h_v48] at x_44 bx_44
  refine px_lstore S43 d5_207 rfl (L' := #[.val (.ref a), .val (.ref b), .val (.long (0 : Int64)), .second, .val (.long (4294967295 : Int64)), .second, .val (.ref b1), .val (.long v48), .second]) rfl ?_
  refine px_aload S43 d5_209 rfl rfl rfl ?_
  refine px_bipush (v := (7 : Int32)) S43 d5_211 rfl rfl ?_
  refine px_lload S43 d5_213 rfl rfl ?_
  refine px_lload S43 d5_215 rfl rfl ?_
  refine px_land S43 d5_217 rfl ?_
  refine px_lastore S43 A_b1 g_b1 (i := 7) rfl (by decide) d5_218 rfl (fun T49 h49 S49 W49 A_b1 => ?_)
  replace A1 := A1.other W49 ne_a_b1
  replace A2 := A2.other W49 ne_b_b1
  refine px_aload S49 d5_219 rfl rfl rfl ?_
  refine px_bipush (v := (8 : Int32)) S49 d5_221 rfl rfl ?_
  refine px_lload S49 d5_223 rfl rfl ?_
  refine px_bipush (v := (32 : Int32)) S49 d5_225 rfl rfl ?_
  refine px_lushr S49 d5_227 rfl ?_
  refine px_lastore S49 A_b1 g_b1 (i := 8) rfl (by decide) d5_228 rfl (fun T50 h50 S50 W50 A_b1 => ?_)
  replace A1 := A1.other W50 ne_a_b1
  replace A2 := A2.other W50 ne_b_b1
  refine px_aload S50 d5_229 rfl rfl rfl ?_
  have x_51 := (x_lmask 32 (by decide) (by decide) (by decide) : (v5 &&& (4294967295 : Int64)).toInt = v5.toInt % 4294967296)
  have l_52 : (4294967295 : Int64).toInt = 4294967295 := rfl
  have bx_51 : (0 : Int) ≤ (v5 &&& (4294967295 : Int64)).toInt ∧ (v5 &&& (4294967295 : Int64)).toInt ≤ 4294967295 := by rw [x_51]; exact ib_mod 4294967296 (by decide) (by decide) (by decide)
  have x_53 := (x_lmask 32 (by decide) (by decide) (by decide) : (v12 &&& (4294967295 : Int64)).toInt = v12.toInt % 4294967296)
  have bx_53 : (0 : Int) ≤ (v12 &&& (4294967295 : Int64)).toInt ∧ (v12 &&& (4294967295 : Int64)).toInt ≤ 4294967295 := by rw [x_53]; exact ib_mod 4294967296 (by decide) (by decide) (by decide)
  have x_54 := (x_lmask 32 (by decide) (by decide) (by decide) : (v18 &&& (4294967295 : Int64)).toInt = v18.toInt % 4294967296)
  have bx_54 : (0 : Int) ≤ (v18 &&& (4294967295 : Int64)).toInt ∧ (v18 &&& (4294967295 : Int64)).toInt ≤ 4294967295 := by rw [x_54]; exact ib_mod 4294967296 (by decide) (by decide) (by decide)
  have x_55 := (x_lmask 32 (by decide) (by decide) (by decide) : (v24 &&& (4294967295 : Int64)).toInt = v24.toInt % 4294967296)
  have bx_55 : (0 : Int) ≤ (v24 &&& (4294967295 : Int64)).toInt ∧ (v24 &&& (4294967295 : Int64)).toInt ≤ 4294967295 := by rw [x_55]; exact ib_mod 4294967296 (by decide) (by decide) (by decide)
  have x_56 := (x_lmask 32 (by decide) (by decide) (by decide) : (v30 &&& (4294967295 : Int64)).toInt = v30.toInt % 4294967296)
  have bx_56 : (0 : Int) ≤ (v30 &&& (4294967295 : Int64)).toInt ∧ (v30 &&& (4294967295 : Int64)).toInt ≤ 4294967295 := by rw [x_56]; exact ib_mod 4294967296 (by decide) (by decide) (by decide)
  have x_57 := (x_lmask 32 (by decide) (by decide) (by decide) : (v36 &&& (4294967295 : Int64)).toInt = v36.toInt % 4294967296)
  have bx_57 : (0 : Int) ≤ (v36 &&& (4294967295 : Int64)).toInt ∧ (v36 &&& (4294967295 : Int64)).toInt ≤ 4294967295 := by rw [x_57]; exact ib_mod 4294967296 (by decide) (by decide) (by decide)
  have x_58 := (x_lmask 32 (by decide) (by decide) (by decide) : (v42 &&& (4294967295 : Int64)).toInt = v42.toInt % 4294967296)
  have bx_58 : (0 : Int) ≤ (v42 &&& (4294967295 : Int64)).toInt ∧ (v42 &&& (4294967295 : Int64)).toInt ≤ 4294967295 := by rw [x_58]; exact ib_mod 4294967296 (by decide) (by decide) (by decide)
  have x_59 := (x_lmask 32 (by decide) (by decide) (by decide) : (v48 &&& (4294967295 : Int64)).toInt = v48.toInt % 4294967296)
  have bx_59 : (0 : Int) ≤ (v48 &&& (4294967295 : Int64)).toInt ∧ (v48 &&& (4294967295 : Int64)).toInt ≤ 4294967295 := by rw [x_59]; exact ib_mod 4294967296 (by decide) (by decide) (by decide)
  have x_60 := (x_lushr bx_44 (by decide) 32 (by decide) (by decide) (by decide) : (ushrL v48 (32 : Int32)).toInt = v48.toInt / 4294967296)
  have bx_60 : (0 : Int) ≤ (ushrL v48 (32 : Int32)).toInt ∧ (ushrL v48 (32 : Int32)).toInt ≤ 0 := by rw [x_60]; exact ib_div 4294967296 (by decide) bx_44 (by decide) (by decide)
  have hs := sstep0 (by rw [x_2, x_3] : v5.toInt = x0.toInt + y0.toInt * 0) (by rw [x_7, x_8, x_9, x_10] : v12.toInt = x1.toInt + y1.toInt * 0 + v5.toInt / 4294967296) (by rw [x_14, x_15, x_16, x_17] : v18.toInt = x2.toInt + y2.toInt * 0 + v12.toInt / 4294967296) (by rw [x_20, x_21, x_22, x_23] : v24.toInt = x3.toInt + y3.toInt * 0 + v18.toInt / 4294967296) (by rw [x_26, x_27, x_28, x_29] : v30.toInt = x4.toInt + y4.toInt * 0 + v24.toInt / 4294967296) (by rw [x_32, x_33, x_34, x_35] : v36.toInt = x5.toInt + y5.toInt * 0 + v30.toInt / 4294967296) (by rw [x_38, x_39, x_40, x_41] : v42.toInt = x6.toInt + y6.toInt * 0 + v36.toInt / 4294967296) (by rw [x_44, x_45, x_46, x_47] : v48.toInt = x7.toInt + y7.toInt * 0 + v42.toInt / 4294967296)
  exact px_retA S50 d5_231 rfl rfl rfl (by decide) (by decide) (⟨b1, (v5 &&& (4294967295 : Int64)), (v12 &&& (4294967295 : Int64)), (v18 &&& (4294967295 : Int64)), (v24 &&& (4294967295 : Int64)), (v30 &&& (4294967295 : Int64)), (v36 &&& (4294967295 : Int64)), (v42 &&& (4294967295 : Int64)), (v48 &&& (4294967295 : Int64)), (ushrL v48 (32 : Int32)), rfl, g_b1, Nat.le_of_eq z1.symm, (((((((((((Keep.refl _ _).ext E1).wr W6 (Or.inr (Nat.le_of_eq z1.symm))).wr W13 (Or.inr (Nat.le_of_eq z1.symm))).wr W19 (Or.inr (Nat.le_of_eq z1.symm))).wr W25 (Or.inr (Nat.le_of_eq z1.symm))).wr W31 (Or.inr (Nat.le_of_eq z1.symm))).wr W37 (Or.inr (Nat.le_of_eq z1.symm))).wr W43 (Or.inr (Nat.le_of_eq z1.symm))).wr W49 (Or.inr (Nat.le_of_eq z1.symm))).wr W50 (Or.inr (Nat.le_of_eq z1.symm))), A_b1.congr (all9 rfl rfl rfl rfl rfl rfl rfl rfl rfl), ⟨nz_i bx_51, nz_i bx_53, nz_i bx_54, nz_i bx_55, nz_i bx_56, nz_i bx_57, nz_i bx_58, nz_i bx_59⟩, by rw [x_51, x_53, x_54, x_55, x_56, x_57, x_58, x_59, x_60]; exact hs⟩)
set_option maxRecDepth 65536 in
set_option maxHeartbeats 40000000 in
theorem c_sc1 {Z : State} {a0 : Array Value} (hw : ∀ d ∈ tables_1, d.before a0 Z = true) {a b : Addr} {x0 x1 x2 x3 x4 x5 x6 x7 y0 y1 y2 y3 y4 y5 y6 y7 : Int64} {fa fb : Nat → Int64} {h0 : Heap} {n0 : Nat} (Z0 : n0 ≤ h0.size) (A1 : AJ Z h0 a 8 fa) (A2 : AJ Z h0 b 8 fb) (e_x0 : fa 0 = x0) (e_x1 : fa 1 = x1) (e_x2 : fa 2 = x2) (e_x3 : fa 3 = x3) (e_x4 : fa 4 = x4) (e_x5 : fa 5 = x5) (e_x6 : fa 6 = x6) (e_x7 : fa 7 = x7) (e_y0 : fb 0 = y0) (e_y1 : fb 1 = y1) (e_y2 : fb 2 = y2) (e_y3 : fb 3 = y3) (e_y4 : fb 4 = y4) (e_y5 : fb 5 = y5) (e_y6 : fb 6 = y6) (e_y7 : fb 7 = y7) (r_x0 : 0 ≤ x0.toInt ∧ x0.toInt < 4294967296) (r_x1 : 0 ≤ x1.toInt ∧ x1.toInt < 4294967296) (r_x2 : 0 ≤ x2.toInt ∧ x2.toInt < 4294967296) (r_x3 : 0 ≤ x3.toInt ∧ x3.toInt < 4294967296) (r_x4 : 0 ≤ x4.toInt ∧ x4.toInt < 4294967296) (r_x5 : 0 ≤ x5.toInt ∧ x5.toInt < 4294967296) (r_x6 : 0 ≤ x6.toInt ∧ x6.toInt < 4294967296) (r_x7 : 0 ≤ x7.toInt ∧ x7.toInt < 4294967296) (r_y0 : 0 ≤ y0.toInt ∧ y0.toInt < 4294967296) (r_y1 : 0 ≤ y1.toInt ∧ y1.toInt < 4294967296) (r_y2 : 0 ≤ y2.toInt ∧ y2.toInt < 4294967296) (r_y3 : 0 ≤ y3.toInt ∧ y3.toInt < 4294967296) (r_y4 : 0 ≤ y4.toInt ∧ y4.toInt < 4294967296) (r_y5 : 0 ≤ y5.toInt ∧ y5.toInt < 4294967296) (r_y6 : 0 ≤ y6.toInt ∧ y6.toInt < 4294967296) (r_y7 : 0 ≤ y7.toInt ∧ y7.toInt < 4294967296) :
    Ctr Z n0 (⟨"com/example/gatewarden/gatewarden/P256FieldAddPinLaw", "addScaled", "([J[JJ)[J"⟩ : MethodName) method_4_code 9 (some (.array .long)) ({ frames := 0, cells := 1, slots := 9, locals := 0 } : Room) [(.ref a), (.ref b), (.long (1 : Int64))] h0 (fun v h => ∃ (b' : Addr) (z0 z1 z2 z3 z4 z5 z6 z7 z8 : Int64), v = some (.ref b') ∧ n0 ≤ b' ∧ h0.size ≤ b' ∧ Keep h0 h [] ∧ AJ Z h b' 9 (A9 z0 z1 z2 z3 z4 z5 z6 z7 z8) ∧ ((0 ≤ z0.toInt ∧ z0.toInt < 4294967296) ∧ (0 ≤ z1.toInt ∧ z1.toInt < 4294967296) ∧ (0 ≤ z2.toInt ∧ z2.toInt < 4294967296) ∧ (0 ≤ z3.toInt ∧ z3.toInt < 4294967296) ∧ (0 ≤ z4.toInt ∧ z4.toInt < 4294967296) ∧ (0 ≤ z5.toInt ∧ z5.toInt < 4294967296) ∧ (0 ≤ z6.toInt ∧ z6.toInt < 4294967296) ∧ (0 ≤ z7.toInt ∧ z7.toInt < 4294967296)) ∧ z0.toInt + z1.toInt * 4294967296 + z2.toInt * 18446744073709551616 + z3.toInt * 79228162514264337593543950336 + z4.toInt * 340282366920938463463374607431768211456 + z5.toInt * 1461501637330902918203684832716283019655932542976 + z6.toInt * 6277101735386680763835789423207666416102355444464034512896 + z7.toInt * 26959946667150639794667015087019630673637144422540572481103610249216 + z8.toInt * 115792089237316195423570985008687907853269984665640564039457584007913129639936 = (x0.toInt + x1.toInt * 4294967296 + x2.toInt * 18446744073709551616 + x3.toInt * 79228162514264337593543950336 + x4.toInt * 340282366920938463463374607431768211456 + x5.toInt * 1461501637330902918203684832716283019655932542976 + x6.toInt * 6277101735386680763835789423207666416102355444464034512896 + x7.toInt * 26959946667150639794667015087019630673637144422540572481103610249216) + (y0.toInt + y1.toInt * 4294967296 + y2.toInt * 18446744073709551616 + y3.toInt * 79228162514264337593543950336 + y4.toInt * 340282366920938463463374607431768211456 + y5.toInt * 1461501637330902918203684832716283019655932542976 + y6.toInt * 6277101735386680763835789423207666416102355444464034512896 + y7.toInt * 26959946667150639794667015087019630673637144422540572481103610249216) * 1) := by
  refine Ctr.of (L := #[.val (.ref a), .val (.ref b), .val (.long (1 : Int64)), .second, .unset, .unset, .unset, .unset, .unset]) pn_5 Z0 (fun m => by first | (simp [entryFrame, mkF, argsToLocals, Value.category]; done) | rfl) ?_
  intro K T S0
  refine px_ldc2 S0 (hw _ (List.mem_of_getElem? (i := 0) rfl)) d5_0 rfl ?_
  refine px_lstore S0 d5_3 rfl (L' := #[.val (.ref a), .val (.ref b), .val (.long (1 : Int64)), .second, .val (.long (4294967295 : Int64)), .second, .unset, .unset, .unset]) rfl ?_
  refine px_bipush (v := (9 : Int32)) S0 d5_5 rfl rfl ?_
  refine px_newarrJ (cap := 9) S0 (hw _ (List.mem_of_getElem? (i := 1) rfl)) (n := 9) rfl (by decide) (by decide) (by decide) (by decide) d5_7 rfl (fun T1 h1 b1 z1 g_b1 S1 E1 A_b1 => ?_)
  have ne_a_b1 : a ≠ b1 := ne_new z1 A1.lt
  have ne_b_b1 : b ≠ b1 := ne_new z1 A2.lt
  replace A1 := A1.ext E1
  replace A2 := A2.ext E1
  refine px_astore S1 d5_9 rfl rfl (L' := #[.val (.ref a), .val (.ref b), .val (.long (1 : Int64)), .second, .val (.long (4294967295 : Int64)), .second, .val (.ref b1), .unset, .unset]) rfl ?_
  refine px_aloadN S1 d5_11 rfl rfl rfl ?_
  refine px_iconst (v := (0 : Int32)) S1 d5_12 rfl rfl ?_
  refine px_laload (v := x0) S1 A1 (i := 0) rfl (by decide) e_x0 d5_13 rfl ?_
  refine px_lloadN S1 d5_14 rfl rfl ?_
  refine px_aloadN S1 d5_15 rfl rfl rfl ?_
  refine px_iconst (v := (0 : Int32)) S1 d5_16 rfl rfl ?_
  refine px_laload (v := y0) S1 A2 (i := 0) rfl (by decide) e_y0 d5_17 rfl ?_
  refine px_lmul S1 d5_18 rfl ?_
  refine px_ladd S1 d5_19 rfl ?_
  have x_3 := (x_lmul' (r01 r_y0) rfl (by decide) (by decide) (by decide) : ((1 : Int64) * y0).toInt = y0.toInt * (1))
  have l_4 : (1 : Int64).toInt = 1 := rfl
  have bx_3 : (0 : Int) ≤ ((1 : Int64) * y0).toInt ∧ ((1 : Int64) * y0).toInt ≤ 4294967295 := by rw [x_3]; exact ib_mul (1) (by decide) (r01 r_y0) (by decide) (by decide)
  have x_2 := (x_ladd (r01 r_x0) bx_3 (by decide) (by decide) : (x0 + ((1 : Int64) * y0)).toInt = x0.toInt + ((1 : Int64) * y0).toInt)
  have bx_2 : (0 : Int) ≤ (x0 + ((1 : Int64) * y0)).toInt ∧ (x0 + ((1 : Int64) * y0)).toInt ≤ 8589934590 := by rw [x_2]; exact ib_add (r01 r_x0) bx_3 (by decide) (by decide)
  generalize h_v5 : (x0 + ((1 : Int64) * y0)) = v5
  rw [h_v5] at x_2 bx_2
  refine px_lstore S1 d5_20 rfl (L' := #[.val (.ref a), .val (.ref b), .val (.long (1 : Int64)), .second, .val (.long (4294967295 : Int64)), .second, .val (.ref b1), .val (.long v5), .second]) rfl ?_
  refine px_aload S1 d5_22 rfl rfl rfl ?_
  refine px_iconst (v := (0 : Int32)) S1 d5_24 rfl rfl ?_
  refine px_lload S1 d5_25 rfl rfl ?_
  refine px_lload S1 d5_27 rfl rfl ?_
  refine px_land S1 d5_29 rfl ?_
  refine px_lastore S1 A_b1 g_b1 (i := 0) rfl (by decide) d5_30 rfl (fun T6 h6 S6 W6 A_b1 => ?_)
  replace A1 := A1.other W6 ne_a_b1
  replace A2 := A2.other W6 ne_b_b1
  refine px_aloadN S6 d5_31 rfl rfl rfl ?_
  refine px_iconst (v := (1 : Int32)) S6 d5_32 rfl rfl ?_
  refine px_laload (v := x1) S6 A1 (i := 1) rfl (by decide) e_x1 d5_33 rfl ?_
  refine px_lloadN S6 d5_34 rfl rfl ?_
  refine px_aloadN S6 d5_35 rfl rfl rfl ?_
  refine px_iconst (v := (1 : Int32)) S6 d5_36 rfl rfl ?_
  refine px_laload (v := y1) S6 A2 (i := 1) rfl (by decide) e_y1 d5_37 rfl ?_
  refine px_lmul S6 d5_38 rfl ?_
  refine px_ladd S6 d5_39 rfl ?_
  refine px_lload S6 d5_40 rfl rfl ?_
  refine px_bipush (v := (32 : Int32)) S6 d5_42 rfl rfl ?_
  refine px_lushr S6 d5_44 rfl ?_
  refine px_ladd S6 d5_45 rfl ?_
  have x_9 := (x_lmul' (r01 r_y1) rfl (by decide) (by decide) (by decide) : ((1 : Int64) * y1).toInt = y1.toInt * (1))
  have bx_9 : (0 : Int) ≤ ((1 : Int64) * y1).toInt ∧ ((1 : Int64) * y1).toInt ≤ 4294967295 := by rw [x_9]; exact ib_mul (1) (by decide) (r01 r_y1) (by decide) (by decide)
  have x_8 := (x_ladd (r01 r_x1) bx_9 (by decide) (by decide) : (x1 + ((1 : Int64) * y1)).toInt = x1.toInt + ((1 : Int64) * y1).toInt)
  have bx_8 : (0 : Int) ≤ (x1 + ((1 : Int64) * y1)).toInt ∧ (x1 + ((1 : Int64) * y1)).toInt ≤ 8589934590 := by rw [x_8]; exact ib_add (r01 r_x1) bx_9 (by decide) (by decide)
  have x_10 := (x_lushr bx_2 (by decide) 32 (by decide) (by decide) (by decide) : (ushrL v5 (32 : Int32)).toInt = v5.toInt / 4294967296)
  have l_11 : (32 : Int32).toInt = 32 := rfl
  have bx_10 : (0 : Int) ≤ (ushrL v5 (32 : Int32)).toInt ∧ (ushrL v5 (32 : Int32)).toInt ≤ 1 := by rw [x_10]; exact ib_div 4294967296 (by decide) bx_2 (by decide) (by decide)
  have x_7 := (x_ladd bx_8 bx_10 (by decide) (by decide) : ((x1 + ((1 : Int64) * y1)) + (ushrL v5 (32 : Int32))).toInt = (x1 + ((1 : Int64) * y1)).toInt + (ushrL v5 (32 : Int32)).toInt)
  have bx_7 : (0 : Int) ≤ ((x1 + ((1 : Int64) * y1)) + (ushrL v5 (32 : Int32))).toInt ∧ ((x1 + ((1 : Int64) * y1)) + (ushrL v5 (32 : Int32))).toInt ≤ 8589934591 := by rw [x_7]; exact ib_add bx_8 bx_10 (by decide) (by decide)
  generalize h_v12 : ((x1 + ((1 : Int64) * y1)) + (ushrL v5 (32 : Int32))) = v12
  rw [h_v12] at x_7 bx_7
  refine px_lstore S6 d5_46 rfl (L' := #[.val (.ref a), .val (.ref b), .val (.long (1 : Int64)), .second, .val (.long (4294967295 : Int64)), .second, .val (.ref b1), .val (.long v12), .second]) rfl ?_
  refine px_aload S6 d5_48 rfl rfl rfl ?_
  refine px_iconst (v := (1 : Int32)) S6 d5_50 rfl rfl ?_
  refine px_lload S6 d5_51 rfl rfl ?_
  refine px_lload S6 d5_53 rfl rfl ?_
  refine px_land S6 d5_55 rfl ?_
  refine px_lastore S6 A_b1 g_b1 (i := 1) rfl (by decide) d5_56 rfl (fun T13 h13 S13 W13 A_b1 => ?_)
  replace A1 := A1.other W13 ne_a_b1
  replace A2 := A2.other W13 ne_b_b1
  refine px_aloadN S13 d5_57 rfl rfl rfl ?_
  refine px_iconst (v := (2 : Int32)) S13 d5_58 rfl rfl ?_
  refine px_laload (v := x2) S13 A1 (i := 2) rfl (by decide) e_x2 d5_59 rfl ?_
  refine px_lloadN S13 d5_60 rfl rfl ?_
  refine px_aloadN S13 d5_61 rfl rfl rfl ?_
  refine px_iconst (v := (2 : Int32)) S13 d5_62 rfl rfl ?_
  refine px_laload (v := y2) S13 A2 (i := 2) rfl (by decide) e_y2 d5_63 rfl ?_
  refine px_lmul S13 d5_64 rfl ?_
  refine px_ladd S13 d5_65 rfl ?_
  refine px_lload S13 d5_66 rfl rfl ?_
  refine px_bipush (v := (32 : Int32)) S13 d5_68 rfl rfl ?_
  refine px_lushr S13 d5_70 rfl ?_
  refine px_ladd S13 d5_71 rfl ?_
  have x_16 := (x_lmul' (r01 r_y2) rfl (by decide) (by decide) (by decide) : ((1 : Int64) * y2).toInt = y2.toInt * (1))
  have bx_16 : (0 : Int) ≤ ((1 : Int64) * y2).toInt ∧ ((1 : Int64) * y2).toInt ≤ 4294967295 := by rw [x_16]; exact ib_mul (1) (by decide) (r01 r_y2) (by decide) (by decide)
  have x_15 := (x_ladd (r01 r_x2) bx_16 (by decide) (by decide) : (x2 + ((1 : Int64) * y2)).toInt = x2.toInt + ((1 : Int64) * y2).toInt)
  have bx_15 : (0 : Int) ≤ (x2 + ((1 : Int64) * y2)).toInt ∧ (x2 + ((1 : Int64) * y2)).toInt ≤ 8589934590 := by rw [x_15]; exact ib_add (r01 r_x2) bx_16 (by decide) (by decide)
  have x_17 := (x_lushr bx_7 (by decide) 32 (by decide) (by decide) (by decide) : (ushrL v12 (32 : Int32)).toInt = v12.toInt / 4294967296)
  have bx_17 : (0 : Int) ≤ (ushrL v12 (32 : Int32)).toInt ∧ (ushrL v12 (32 : Int32)).toInt ≤ 1 := by rw [x_17]; exact ib_div 4294967296 (by decide) bx_7 (by decide) (by decide)
  have x_14 := (x_ladd bx_15 bx_17 (by decide) (by decide) : ((x2 + ((1 : Int64) * y2)) + (ushrL v12 (32 : Int32))).toInt = (x2 + ((1 : Int64) * y2)).toInt + (ushrL v12 (32 : Int32)).toInt)
  have bx_14 : (0 : Int) ≤ ((x2 + ((1 : Int64) * y2)) + (ushrL v12 (32 : Int32))).toInt ∧ ((x2 + ((1 : Int64) * y2)) + (ushrL v12 (32 : Int32))).toInt ≤ 8589934591 := by rw [x_14]; exact ib_add bx_15 bx_17 (by decide) (by decide)
  generalize h_v18 : ((x2 + ((1 : Int64) * y2)) + (ushrL v12 (32 : Int32))) = v18
  rw [h_v18] at x_14 bx_14
  refine px_lstore S13 d5_72 rfl (L' := #[.val (.ref a), .val (.ref b), .val (.long (1 : Int64)), .second, .val (.long (4294967295 : Int64)), .second, .val (.ref b1), .val (.long v18), .second]) rfl ?_
  refine px_aload S13 d5_74 rfl rfl rfl ?_
  refine px_iconst (v := (2 : Int32)) S13 d5_76 rfl rfl ?_
  refine px_lload S13 d5_77 rfl rfl ?_
  refine px_lload S13 d5_79 rfl rfl ?_
  refine px_land S13 d5_81 rfl ?_
  refine px_lastore S13 A_b1 g_b1 (i := 2) rfl (by decide) d5_82 rfl (fun T19 h19 S19 W19 A_b1 => ?_)
  replace A1 := A1.other W19 ne_a_b1
  replace A2 := A2.other W19 ne_b_b1
  refine px_aloadN S19 d5_83 rfl rfl rfl ?_
  refine px_iconst (v := (3 : Int32)) S19 d5_84 rfl rfl ?_
  refine px_laload (v := x3) S19 A1 (i := 3) rfl (by decide) e_x3 d5_85 rfl ?_
  refine px_lloadN S19 d5_86 rfl rfl ?_
  refine px_aloadN S19 d5_87 rfl rfl rfl ?_
  refine px_iconst (v := (3 : Int32)) S19 d5_88 rfl rfl ?_
  refine px_laload (v := y3) S19 A2 (i := 3) rfl (by decide) e_y3 d5_89 rfl ?_
  refine px_lmul S19 d5_90 rfl ?_
  refine px_ladd S19 d5_91 rfl ?_
  refine px_lload S19 d5_92 rfl rfl ?_
  refine px_bipush (v := (32 : Int32)) S19 d5_94 rfl rfl ?_
  refine px_lushr S19 d5_96 rfl ?_
  refine px_ladd S19 d5_97 rfl ?_
  have x_22 := (x_lmul' (r01 r_y3) rfl (by decide) (by decide) (by decide) : ((1 : Int64) * y3).toInt = y3.toInt * (1))
  have bx_22 : (0 : Int) ≤ ((1 : Int64) * y3).toInt ∧ ((1 : Int64) * y3).toInt ≤ 4294967295 := by rw [x_22]; exact ib_mul (1) (by decide) (r01 r_y3) (by decide) (by decide)
  have x_21 := (x_ladd (r01 r_x3) bx_22 (by decide) (by decide) : (x3 + ((1 : Int64) * y3)).toInt = x3.toInt + ((1 : Int64) * y3).toInt)
  have bx_21 : (0 : Int) ≤ (x3 + ((1 : Int64) * y3)).toInt ∧ (x3 + ((1 : Int64) * y3)).toInt ≤ 8589934590 := by rw [x_21]; exact ib_add (r01 r_x3) bx_22 (by decide) (by decide)
  have x_23 := (x_lushr bx_14 (by decide) 32 (by decide) (by decide) (by decide) : (ushrL v18 (32 : Int32)).toInt = v18.toInt / 4294967296)
  have bx_23 : (0 : Int) ≤ (ushrL v18 (32 : Int32)).toInt ∧ (ushrL v18 (32 : Int32)).toInt ≤ 1 := by rw [x_23]; exact ib_div 4294967296 (by decide) bx_14 (by decide) (by decide)
  have x_20 := (x_ladd bx_21 bx_23 (by decide) (by decide) : ((x3 + ((1 : Int64) * y3)) + (ushrL v18 (32 : Int32))).toInt = (x3 + ((1 : Int64) * y3)).toInt + (ushrL v18 (32 : Int32)).toInt)
  have bx_20 : (0 : Int) ≤ ((x3 + ((1 : Int64) * y3)) + (ushrL v18 (32 : Int32))).toInt ∧ ((x3 + ((1 : Int64) * y3)) + (ushrL v18 (32 : Int32))).toInt ≤ 8589934591 := by rw [x_20]; exact ib_add bx_21 bx_23 (by decide) (by decide)
  generalize h_v24 : ((x3 + ((1 : Int64) * y3)) + (ushrL v18 (32 : Int32))) = v24
  rw [h_v24] at x_20 bx_20
  refine px_lstore S19 d5_98 rfl (L' := #[.val (.ref a), .val (.ref b), .val (.long (1 : Int64)), .second, .val (.long (4294967295 : Int64)), .second, .val (.ref b1), .val (.long v24), .second]) rfl ?_
  refine px_aload S19 d5_100 rfl rfl rfl ?_
  refine px_iconst (v := (3 : Int32)) S19 d5_102 rfl rfl ?_
  refine px_lload S19 d5_103 rfl rfl ?_
  refine px_lload S19 d5_105 rfl rfl ?_
  refine px_land S19 d5_107 rfl ?_
  refine px_lastore S19 A_b1 g_b1 (i := 3) rfl (by decide) d5_108 rfl (fun T25 h25 S25 W25 A_b1 => ?_)
  replace A1 := A1.other W25 ne_a_b1
  replace A2 := A2.other W25 ne_b_b1
  refine px_aloadN S25 d5_109 rfl rfl rfl ?_
  refine px_iconst (v := (4 : Int32)) S25 d5_110 rfl rfl ?_
  refine px_laload (v := x4) S25 A1 (i := 4) rfl (by decide) e_x4 d5_111 rfl ?_
  refine px_lloadN S25 d5_112 rfl rfl ?_
  refine px_aloadN S25 d5_113 rfl rfl rfl ?_
  refine px_iconst (v := (4 : Int32)) S25 d5_114 rfl rfl ?_
  refine px_laload (v := y4) S25 A2 (i := 4) rfl (by decide) e_y4 d5_115 rfl ?_
  refine px_lmul S25 d5_116 rfl ?_
  refine px_ladd S25 d5_117 rfl ?_
  refine px_lload S25 d5_118 rfl rfl ?_
  refine px_bipush (v := (32 : Int32)) S25 d5_120 rfl rfl ?_
  refine px_lushr S25 d5_122 rfl ?_
  refine px_ladd S25 d5_123 rfl ?_
  have x_28 := (x_lmul' (r01 r_y4) rfl (by decide) (by decide) (by decide) : ((1 : Int64) * y4).toInt = y4.toInt * (1))
  have bx_28 : (0 : Int) ≤ ((1 : Int64) * y4).toInt ∧ ((1 : Int64) * y4).toInt ≤ 4294967295 := by rw [x_28]; exact ib_mul (1) (by decide) (r01 r_y4) (by decide) (by decide)
  have x_27 := (x_ladd (r01 r_x4) bx_28 (by decide) (by decide) : (x4 + ((1 : Int64) * y4)).toInt = x4.toInt + ((1 : Int64) * y4).toInt)
  have bx_27 : (0 : Int) ≤ (x4 + ((1 : Int64) * y4)).toInt ∧ (x4 + ((1 : Int64) * y4)).toInt ≤ 8589934590 := by rw [x_27]; exact ib_add (r01 r_x4) bx_28 (by decide) (by decide)
  have x_29 := (x_lushr bx_20 (by decide) 32 (by decide) (by decide) (by decide) : (ushrL v24 (32 : Int32)).toInt = v24.toInt / 4294967296)
  have bx_29 : (0 : Int) ≤ (ushrL v24 (32 : Int32)).toInt ∧ (ushrL v24 (32 : Int32)).toInt ≤ 1 := by rw [x_29]; exact ib_div 4294967296 (by decide) bx_20 (by decide) (by decide)
  have x_26 := (x_ladd bx_27 bx_29 (by decide) (by decide) : ((x4 + ((1 : Int64) * y4)) + (ushrL v24 (32 : Int32))).toInt = (x4 + ((1 : Int64) * y4)).toInt + (ushrL v24 (32 : Int32)).toInt)
  have bx_26 : (0 : Int) ≤ ((x4 + ((1 : Int64) * y4)) + (ushrL v24 (32 : Int32))).toInt ∧ ((x4 + ((1 : Int64) * y4)) + (ushrL v24 (32 : Int32))).toInt ≤ 8589934591 := by rw [x_26]; exact ib_add bx_27 bx_29 (by decide) (by decide)
  generalize h_v30 : ((x4 + ((1 : Int64) * y4)) + (ushrL v24 (32 : Int32))) = v30
  rw [h_v30] at x_26 bx_26
  refine px_lstore S25 d5_124 rfl (L' := #[.val (.ref a), .val (.ref b), .val (.long (1 : Int64)), .second, .val (.long (4294967295 : Int64)), .second, .val (.ref b1), .val (.long v30), .second]) rfl ?_
  refine px_aload S25 d5_126 rfl rfl rfl ?_
  refine px_iconst (v := (4 : Int32)) S25 d5_128 rfl rfl ?_
  refine px_lload S25 d5_129 rfl rfl ?_
  refine px_lload S25 d5_131 rfl rfl ?_
  refine px_land S25 d5_133 rfl ?_
  refine px_lastore S25 A_b1 g_b1 (i := 4) rfl (by decide) d5_134 rfl (fun T31 h31 S31 W31 A_b1 => ?_)
  replace A1 := A1.other W31 ne_a_b1
  replace A2 := A2.other W31 ne_b_b1
  refine px_aloadN S31 d5_135 rfl rfl rfl ?_
  refine px_iconst (v := (5 : Int32)) S31 d5_136 rfl rfl ?_
  refine px_laload (v := x5) S31 A1 (i := 5) rfl (by decide) e_x5 d5_137 rfl ?_
  refine px_lloadN S31 d5_138 rfl rfl ?_
  refine px_aloadN S31 d5_139 rfl rfl rfl ?_
  refine px_iconst (v := (5 : Int32)) S31 d5_140 rfl rfl ?_
  refine px_laload (v := y5) S31 A2 (i := 5) rfl (by decide) e_y5 d5_141 rfl ?_
  refine px_lmul S31 d5_142 rfl ?_
  refine px_ladd S31 d5_143 rfl ?_
  refine px_lload S31 d5_144 rfl rfl ?_
  refine px_bipush (v := (32 : Int32)) S31 d5_146 rfl rfl ?_
  refine px_lushr S31 d5_148 rfl ?_
  refine px_ladd S31 d5_149 rfl ?_
  have x_34 := (x_lmul' (r01 r_y5) rfl (by decide) (by decide) (by decide) : ((1 : Int64) * y5).toInt = y5.toInt * (1))
  have bx_34 : (0 : Int) ≤ ((1 : Int64) * y5).toInt ∧ ((1 : Int64) * y5).toInt ≤ 4294967295 := by rw [x_34]; exact ib_mul (1) (by decide) (r01 r_y5) (by decide) (by decide)
  have x_33 := (x_ladd (r01 r_x5) bx_34 (by decide) (by decide) : (x5 + ((1 : Int64) * y5)).toInt = x5.toInt + ((1 : Int64) * y5).toInt)
  have bx_33 : (0 : Int) ≤ (x5 + ((1 : Int64) * y5)).toInt ∧ (x5 + ((1 : Int64) * y5)).toInt ≤ 8589934590 := by rw [x_33]; exact ib_add (r01 r_x5) bx_34 (by decide) (by decide)
  have x_35 := (x_lushr bx_26 (by decide) 32 (by decide) (by decide) (by decide) : (ushrL v30 (32 : Int32)).toInt = v30.toInt / 4294967296)
  have bx_35 : (0 : Int) ≤ (ushrL v30 (32 : Int32)).toInt ∧ (ushrL v30 (32 : Int32)).toInt ≤ 1 := by rw [x_35]; exact ib_div 4294967296 (by decide) bx_26 (by decide) (by decide)
  have x_32 := (x_ladd bx_33 bx_35 (by decide) (by decide) : ((x5 + ((1 : Int64) * y5)) + (ushrL v30 (32 : Int32))).toInt = (x5 + ((1 : Int64) * y5)).toInt + (ushrL v30 (32 : Int32)).toInt)
  have bx_32 : (0 : Int) ≤ ((x5 + ((1 : Int64) * y5)) + (ushrL v30 (32 : Int32))).toInt ∧ ((x5 + ((1 : Int64) * y5)) + (ushrL v30 (32 : Int32))).toInt ≤ 8589934591 := by rw [x_32]; exact ib_add bx_33 bx_35 (by decide) (by decide)
  generalize h_v36 : ((x5 + ((1 : Int64) * y5)) + (ushrL v30 (32 : Int32))) = v36
  rw [h_v36] at x_32 bx_32
  refine px_lstore S31 d5_150 rfl (L' := #[.val (.ref a), .val (.ref b), .val (.long (1 : Int64)), .second, .val (.long (4294967295 : Int64)), .second, .val (.ref b1), .val (.long v36), .second]) rfl ?_
  refine px_aload S31 d5_152 rfl rfl rfl ?_
  refine px_iconst (v := (5 : Int32)) S31 d5_154 rfl rfl ?_
  refine px_lload S31 d5_155 rfl rfl ?_
  refine px_lload S31 d5_157 rfl rfl ?_
  refine px_land S31 d5_159 rfl ?_
  refine px_lastore S31 A_b1 g_b1 (i := 5) rfl (by decide) d5_160 rfl (fun T37 h37 S37 W37 A_b1 => ?_)
  replace A1 := A1.other W37 ne_a_b1
  replace A2 := A2.other W37 ne_b_b1
  refine px_aloadN S37 d5_161 rfl rfl rfl ?_
  refine px_bipush (v := (6 : Int32)) S37 d5_162 rfl rfl ?_
  refine px_laload (v := x6) S37 A1 (i := 6) rfl (by decide) e_x6 d5_164 rfl ?_
  refine px_lloadN S37 d5_165 rfl rfl ?_
  refine px_aloadN S37 d5_166 rfl rfl rfl ?_
  refine px_bipush (v := (6 : Int32)) S37 d5_167 rfl rfl ?_
  refine px_laload (v := y6) S37 A2 (i := 6) rfl (by decide) e_y6 d5_169 rfl ?_
  refine px_lmul S37 d5_170 rfl ?_
  refine px_ladd S37 d5_171 rfl ?_
  refine px_lload S37 d5_172 rfl rfl ?_
  refine px_bipush (v := (32 : Int32)) S37 d5_174 rfl rfl ?_
  refine px_lushr S37 d5_176 rfl ?_
  refine px_ladd S37 d5_177 rfl ?_
  have x_40 := (x_lmul' (r01 r_y6) rfl (by decide) (by decide) (by decide) : ((1 : Int64) * y6).toInt = y6.toInt * (1))
  have bx_40 : (0 : Int) ≤ ((1 : Int64) * y6).toInt ∧ ((1 : Int64) * y6).toInt ≤ 4294967295 := by rw [x_40]; exact ib_mul (1) (by decide) (r01 r_y6) (by decide) (by decide)
  have x_39 := (x_ladd (r01 r_x6) bx_40 (by decide) (by decide) : (x6 + ((1 : Int64) * y6)).toInt = x6.toInt + ((1 : Int64) * y6).toInt)
  have bx_39 : (0 : Int) ≤ (x6 + ((1 : Int64) * y6)).toInt ∧ (x6 + ((1 : Int64) * y6)).toInt ≤ 8589934590 := by rw [x_39]; exact ib_add (r01 r_x6) bx_40 (by decide) (by decide)
  have x_41 := (x_lushr bx_32 (by decide) 32 (by decide) (by decide) (by decide) : (ushrL v36 (32 : Int32)).toInt = v36.toInt / 4294967296)
  have bx_41 : (0 : Int) ≤ (ushrL v36 (32 : Int32)).toInt ∧ (ushrL v36 (32 : Int32)).toInt ≤ 1 := by rw [x_41]; exact ib_div 4294967296 (by decide) bx_32 (by decide) (by decide)
  have x_38 := (x_ladd bx_39 bx_41 (by decide) (by decide) : ((x6 + ((1 : Int64) * y6)) + (ushrL v36 (32 : Int32))).toInt = (x6 + ((1 : Int64) * y6)).toInt + (ushrL v36 (32 : Int32)).toInt)
  have bx_38 : (0 : Int) ≤ ((x6 + ((1 : Int64) * y6)) + (ushrL v36 (32 : Int32))).toInt ∧ ((x6 + ((1 : Int64) * y6)) + (ushrL v36 (32 : Int32))).toInt ≤ 8589934591 := by rw [x_38]; exact ib_add bx_39 bx_41 (by decide) (by decide)
  generalize h_v42 : ((x6 + ((1 : Int64) * y6)) + (ushrL v36 (32 : Int32))) = v42
  rw [h_v42] at x_38 bx_38
  refine px_lstore S37 d5_178 rfl (L' := #[.val (.ref a), .val (.ref b), .val (.long (1 : Int64)), .second, .val (.long (4294967295 : Int64)), .second, .val (.ref b1), .val (.long v42), .second]) rfl ?_
  refine px_aload S37 d5_180 rfl rfl rfl ?_
  refine px_bipush (v := (6 : Int32)) S37 d5_182 rfl rfl ?_
  refine px_lload S37 d5_184 rfl rfl ?_
  refine px_lload S37 d5_186 rfl rfl ?_
  refine px_land S37 d5_188 rfl ?_
  refine px_lastore S37 A_b1 g_b1 (i := 6) rfl (by decide) d5_189 rfl (fun T43 h43 S43 W43 A_b1 => ?_)
  replace A1 := A1.other W43 ne_a_b1
  replace A2 := A2.other W43 ne_b_b1
  refine px_aloadN S43 d5_190 rfl rfl rfl ?_
  refine px_bipush (v := (7 : Int32)) S43 d5_191 rfl rfl ?_
  refine px_laload (v := x7) S43 A1 (i := 7) rfl (by decide) e_x7 d5_193 rfl ?_
  refine px_lloadN S43 d5_194 rfl rfl ?_
  refine px_aloadN S43 d5_195 rfl rfl rfl ?_
  refine px_bipush (v := (7 : Int32)) S43 d5_196 rfl rfl ?_
  refine px_laload (v := y7) S43 A2 (i := 7) rfl (by decide) e_y7 d5_198 rfl ?_
  refine px_lmul S43 d5_199 rfl ?_
  refine px_ladd S43 d5_200 rfl ?_
  refine px_lload S43 d5_201 rfl rfl ?_
  refine px_bipush (v := (32 : Int32)) S43 d5_203 rfl rfl ?_
  refine px_lushr S43 d5_205 rfl ?_
  refine px_ladd S43 d5_206 rfl ?_
  have x_46 := (x_lmul' (r01 r_y7) rfl (by decide) (by decide) (by decide) : ((1 : Int64) * y7).toInt = y7.toInt * (1))
  have bx_46 : (0 : Int) ≤ ((1 : Int64) * y7).toInt ∧ ((1 : Int64) * y7).toInt ≤ 4294967295 := by rw [x_46]; exact ib_mul (1) (by decide) (r01 r_y7) (by decide) (by decide)
  have x_45 := (x_ladd (r01 r_x7) bx_46 (by decide) (by decide) : (x7 + ((1 : Int64) * y7)).toInt = x7.toInt + ((1 : Int64) * y7).toInt)
  have bx_45 : (0 : Int) ≤ (x7 + ((1 : Int64) * y7)).toInt ∧ (x7 + ((1 : Int64) * y7)).toInt ≤ 8589934590 := by rw [x_45]; exact ib_add (r01 r_x7) bx_46 (by decide) (by decide)
  have x_47 := (x_lushr bx_38 (by decide) 32 (by decide) (by decide) (by decide) : (ushrL v42 (32 : Int32)).toInt = v42.toInt / 4294967296)
  have bx_47 : (0 : Int) ≤ (ushrL v42 (32 : Int32)).toInt ∧ (ushrL v42 (32 : Int32)).toInt ≤ 1 := by rw [x_47]; exact ib_div 4294967296 (by decide) bx_38 (by decide) (by decide)
  have x_44 := (x_ladd bx_45 bx_47 (by decide) (by decide) : ((x7 + ((1 : Int64) * y7)) + (ushrL v42 (32 : Int32))).toInt = (x7 + ((1 : Int64) * y7)).toInt + (ushrL v42 (32 : Int32)).toInt)
  have bx_44 : (0 : Int) ≤ ((x7 + ((1 : Int64) * y7)) + (ushrL v42 (32 : Int32))).toInt ∧ ((x7 + ((1 : Int64) * y7)) + (ushrL v42 (32 : Int32))).toInt ≤ 8589934591 := by rw [x_44]; exact ib_add bx_45 bx_47 (by decide) (by decide)
  generalize h_v48 : ((x7 + ((1 : Int64) * y7)) + (ushrL v42 (32 : Int32))) = v48
  rw [h_v48] at x_44 bx_44
  refine px_lstore S43 d5_207 rfl (L' := #[.val (.ref a), .val (.ref b), .val (.long (1 : Int64)), .second, .val (.long (4294967295 : Int64)), .second, .val (.ref b1), .val (.long v48), .second]) rfl ?_
  refine px_aload S43 d5_209 rfl rfl rfl ?_
  refine px_bipush (v := (7 : Int32)) S43 d5_211 rfl rfl ?_
  refine px_lload S43 d5_213 rfl rfl ?_
  refine px_lload S43 d5_215 rfl rfl ?_
  refine px_land S43 d5_217 rfl ?_
  refine px_lastore S43 A_b1 g_b1 (i := 7) rfl (by decide) d5_218 rfl (fun T49 h49 S49 W49 A_b1 => ?_)
  replace A1 := A1.other W49 ne_a_b1
  replace A2 := A2.other W49 ne_b_b1
  refine px_aload S49 d5_219 rfl rfl rfl ?_
  refine px_bipush (v := (8 : Int32)) S49 d5_221 rfl rfl ?_
  refine px_lload S49 d5_223 rfl rfl ?_
  refine px_bipush (v := (32 : Int32)) S49 d5_225 rfl rfl ?_
  refine px_lushr S49 d5_227 rfl ?_
  refine px_lastore S49 A_b1 g_b1 (i := 8) rfl (by decide) d5_228 rfl (fun T50 h50 S50 W50 A_b1 => ?_)
  replace A1 := A1.other W50 ne_a_b1
  replace A2 := A2.other W50 ne_b_b1
  refine px_aload S50 d5_229 rfl rfl rfl ?_
  have x_51 := (x_lmask 32 (by decide) (by decide) (by decide) : (v5 &&& (4294967295 : Int64)).toInt = v5.toInt % 4294967296)
  have l_52 : (4294967295 : Int64).toInt = 4294967295 := rfl
  have bx_51 : (0 : Int) ≤ (v5 &&& (4294967295 : Int64)).toInt ∧ (v5 &&& (4294967295 : Int64)).toInt ≤ 4294967295 := by rw [x_51]; exact ib_mod 4294967296 (by decide) (by decide) (by decide)
  have x_53 := (x_lmask 32 (by decide) (by decide) (by decide) : (v12 &&& (4294967295 : Int64)).toInt = v12.toInt % 4294967296)
  have bx_53 : (0 : Int) ≤ (v12 &&& (4294967295 : Int64)).toInt ∧ (v12 &&& (4294967295 : Int64)).toInt ≤ 4294967295 := by rw [x_53]; exact ib_mod 4294967296 (by decide) (by decide) (by decide)
  have x_54 := (x_lmask 32 (by decide) (by decide) (by decide) : (v18 &&& (4294967295 : Int64)).toInt = v18.toInt % 4294967296)
  have bx_54 : (0 : Int) ≤ (v18 &&& (4294967295 : Int64)).toInt ∧ (v18 &&& (4294967295 : Int64)).toInt ≤ 4294967295 := by rw [x_54]; exact ib_mod 4294967296 (by decide) (by decide) (by decide)
  have x_55 := (x_lmask 32 (by decide) (by decide) (by decide) : (v24 &&& (4294967295 : Int64)).toInt = v24.toInt % 4294967296)
  have bx_55 : (0 : Int) ≤ (v24 &&& (4294967295 : Int64)).toInt ∧ (v24 &&& (4294967295 : Int64)).toInt ≤ 4294967295 := by rw [x_55]; exact ib_mod 4294967296 (by decide) (by decide) (by decide)
  have x_56 := (x_lmask 32 (by decide) (by decide) (by decide) : (v30 &&& (4294967295 : Int64)).toInt = v30.toInt % 4294967296)
  have bx_56 : (0 : Int) ≤ (v30 &&& (4294967295 : Int64)).toInt ∧ (v30 &&& (4294967295 : Int64)).toInt ≤ 4294967295 := by rw [x_56]; exact ib_mod 4294967296 (by decide) (by decide) (by decide)
  have x_57 := (x_lmask 32 (by decide) (by decide) (by decide) : (v36 &&& (4294967295 : Int64)).toInt = v36.toInt % 4294967296)
  have bx_57 : (0 : Int) ≤ (v36 &&& (4294967295 : Int64)).toInt ∧ (v36 &&& (4294967295 : Int64)).toInt ≤ 4294967295 := by rw [x_57]; exact ib_mod 4294967296 (by decide) (by decide) (by decide)
  have x_58 := (x_lmask 32 (by decide) (by decide) (by decide) : (v42 &&& (4294967295 : Int64)).toInt = v42.toInt % 4294967296)
  have bx_58 : (0 : Int) ≤ (v42 &&& (4294967295 : Int64)).toInt ∧ (v42 &&& (4294967295 : Int64)).toInt ≤ 4294967295 := by rw [x_58]; exact ib_mod 4294967296 (by decide) (by decide) (by decide)
  have x_59 := (x_lmask 32 (by decide) (by decide) (by decide) : (v48 &&& (4294967295 : Int64)).toInt = v48.toInt % 4294967296)
  have bx_59 : (0 : Int) ≤ (v48 &&& (4294967295 : Int64)).toInt ∧ (v48 &&& (4294967295 : Int64)).toInt ≤ 4294967295 := by rw [x_59]; exact ib_mod 4294967296 (by decide) (by decide) (by decide)
  have x_60 := (x_lushr bx_44 (by decide) 32 (by decide) (by decide) (by decide) : (ushrL v48 (32 : Int32)).toInt = v48.toInt / 4294967296)
  have bx_60 : (0 : Int) ≤ (ushrL v48 (32 : Int32)).toInt ∧ (ushrL v48 (32 : Int32)).toInt ≤ 1 := by rw [x_60]; exact ib_div 4294967296 (by decide) bx_44 (by decide) (by decide)
  have hs := sstep1 (by rw [x_2, x_3] : v5.toInt = x0.toInt + y0.toInt * 1) (by rw [x_7, x_8, x_9, x_10] : v12.toInt = x1.toInt + y1.toInt * 1 + v5.toInt / 4294967296) (by rw [x_14, x_15, x_16, x_17] : v18.toInt = x2.toInt + y2.toInt * 1 + v12.toInt / 4294967296) (by rw [x_20, x_21, x_22, x_23] : v24.toInt = x3.toInt + y3.toInt * 1 + v18.toInt / 4294967296) (by rw [x_26, x_27, x_28, x_29] : v30.toInt = x4.toInt + y4.toInt * 1 + v24.toInt / 4294967296) (by rw [x_32, x_33, x_34, x_35] : v36.toInt = x5.toInt + y5.toInt * 1 + v30.toInt / 4294967296) (by rw [x_38, x_39, x_40, x_41] : v42.toInt = x6.toInt + y6.toInt * 1 + v36.toInt / 4294967296) (by rw [x_44, x_45, x_46, x_47] : v48.toInt = x7.toInt + y7.toInt * 1 + v42.toInt / 4294967296)
  exact px_retA S50 d5_231 rfl rfl rfl (by decide) (by decide) (⟨b1, (v5 &&& (4294967295 : Int64)), (v12 &&& (4294967295 : Int64)), (v18 &&& (4294967295 : Int64)), (v24 &&& (4294967295 : Int64)), (v30 &&& (4294967295 : Int64)), (v36 &&& (4294967295 : Int64)), (v42 &&& (4294967295 : Int64)), (v48 &&& (4294967295 : Int64)), (ushrL v48 (32 : Int32)), rfl, g_b1, Nat.le_of_eq z1.symm, (((((((((((Keep.refl _ _).ext E1).wr W6 (Or.inr (Nat.le_of_eq z1.symm))).wr W13 (Or.inr (Nat.le_of_eq z1.symm))).wr W19 (Or.inr (Nat.le_of_eq z1.symm))).wr W25 (Or.inr (Nat.le_of_eq z1.symm))).wr W31 (Or.inr (Nat.le_of_eq z1.symm))).wr W37 (Or.inr (Nat.le_of_eq z1.symm))).wr W43 (Or.inr (Nat.le_of_eq z1.symm))).wr W49 (Or.inr (Nat.le_of_eq z1.symm))).wr W50 (Or.inr (Nat.le_of_eq z1.symm))), A_b1.congr (all9 rfl rfl rfl rfl rfl rfl rfl rfl rfl), ⟨nz_i bx_51, nz_i bx_53, nz_i bx_54, nz_i bx_55, nz_i bx_56, nz_i bx_57, nz_i bx_58, nz_i bx_59⟩, by rw [x_51, x_53, x_54, x_55, x_56, x_57, x_58, x_59, x_60]; exact hs⟩)
set_option maxRecDepth 65536 in
set_option maxHeartbeats 40000000 in
theorem c_sc2 {Z : State} {a0 : Array Value} (hw : ∀ d ∈ tables_1, d.before a0 Z = true) {a b : Addr} {x0 x1 x2 x3 x4 x5 x6 x7 y0 y1 y2 y3 y4 y5 y6 y7 : Int64} {fa fb : Nat → Int64} {h0 : Heap} {n0 : Nat} (Z0 : n0 ≤ h0.size) (A1 : AJ Z h0 a 8 fa) (A2 : AJ Z h0 b 8 fb) (e_x0 : fa 0 = x0) (e_x1 : fa 1 = x1) (e_x2 : fa 2 = x2) (e_x3 : fa 3 = x3) (e_x4 : fa 4 = x4) (e_x5 : fa 5 = x5) (e_x6 : fa 6 = x6) (e_x7 : fa 7 = x7) (e_y0 : fb 0 = y0) (e_y1 : fb 1 = y1) (e_y2 : fb 2 = y2) (e_y3 : fb 3 = y3) (e_y4 : fb 4 = y4) (e_y5 : fb 5 = y5) (e_y6 : fb 6 = y6) (e_y7 : fb 7 = y7) (r_x0 : 0 ≤ x0.toInt ∧ x0.toInt < 4294967296) (r_x1 : 0 ≤ x1.toInt ∧ x1.toInt < 4294967296) (r_x2 : 0 ≤ x2.toInt ∧ x2.toInt < 4294967296) (r_x3 : 0 ≤ x3.toInt ∧ x3.toInt < 4294967296) (r_x4 : 0 ≤ x4.toInt ∧ x4.toInt < 4294967296) (r_x5 : 0 ≤ x5.toInt ∧ x5.toInt < 4294967296) (r_x6 : 0 ≤ x6.toInt ∧ x6.toInt < 4294967296) (r_x7 : 0 ≤ x7.toInt ∧ x7.toInt < 4294967296) (r_y0 : 0 ≤ y0.toInt ∧ y0.toInt < 4294967296) (r_y1 : 0 ≤ y1.toInt ∧ y1.toInt < 4294967296) (r_y2 : 0 ≤ y2.toInt ∧ y2.toInt < 4294967296) (r_y3 : 0 ≤ y3.toInt ∧ y3.toInt < 4294967296) (r_y4 : 0 ≤ y4.toInt ∧ y4.toInt < 4294967296) (r_y5 : 0 ≤ y5.toInt ∧ y5.toInt < 4294967296) (r_y6 : 0 ≤ y6.toInt ∧ y6.toInt < 4294967296) (r_y7 : 0 ≤ y7.toInt ∧ y7.toInt < 4294967296) :
    Ctr Z n0 (⟨"com/example/gatewarden/gatewarden/P256FieldAddPinLaw", "addScaled", "([J[JJ)[J"⟩ : MethodName) method_4_code 9 (some (.array .long)) ({ frames := 0, cells := 1, slots := 9, locals := 0 } : Room) [(.ref a), (.ref b), (.long (2 : Int64))] h0 (fun v h => ∃ (b' : Addr) (z0 z1 z2 z3 z4 z5 z6 z7 z8 : Int64), v = some (.ref b') ∧ n0 ≤ b' ∧ h0.size ≤ b' ∧ Keep h0 h [] ∧ AJ Z h b' 9 (A9 z0 z1 z2 z3 z4 z5 z6 z7 z8) ∧ ((0 ≤ z0.toInt ∧ z0.toInt < 4294967296) ∧ (0 ≤ z1.toInt ∧ z1.toInt < 4294967296) ∧ (0 ≤ z2.toInt ∧ z2.toInt < 4294967296) ∧ (0 ≤ z3.toInt ∧ z3.toInt < 4294967296) ∧ (0 ≤ z4.toInt ∧ z4.toInt < 4294967296) ∧ (0 ≤ z5.toInt ∧ z5.toInt < 4294967296) ∧ (0 ≤ z6.toInt ∧ z6.toInt < 4294967296) ∧ (0 ≤ z7.toInt ∧ z7.toInt < 4294967296)) ∧ z0.toInt + z1.toInt * 4294967296 + z2.toInt * 18446744073709551616 + z3.toInt * 79228162514264337593543950336 + z4.toInt * 340282366920938463463374607431768211456 + z5.toInt * 1461501637330902918203684832716283019655932542976 + z6.toInt * 6277101735386680763835789423207666416102355444464034512896 + z7.toInt * 26959946667150639794667015087019630673637144422540572481103610249216 + z8.toInt * 115792089237316195423570985008687907853269984665640564039457584007913129639936 = (x0.toInt + x1.toInt * 4294967296 + x2.toInt * 18446744073709551616 + x3.toInt * 79228162514264337593543950336 + x4.toInt * 340282366920938463463374607431768211456 + x5.toInt * 1461501637330902918203684832716283019655932542976 + x6.toInt * 6277101735386680763835789423207666416102355444464034512896 + x7.toInt * 26959946667150639794667015087019630673637144422540572481103610249216) + (y0.toInt + y1.toInt * 4294967296 + y2.toInt * 18446744073709551616 + y3.toInt * 79228162514264337593543950336 + y4.toInt * 340282366920938463463374607431768211456 + y5.toInt * 1461501637330902918203684832716283019655932542976 + y6.toInt * 6277101735386680763835789423207666416102355444464034512896 + y7.toInt * 26959946667150639794667015087019630673637144422540572481103610249216) * 2) := by
  refine Ctr.of (L := #[.val (.ref a), .val (.ref b), .val (.long (2 : Int64)), .second, .unset, .unset, .unset, .unset, .unset]) pn_5 Z0 (fun m => by first | (simp [entryFrame, mkF, argsToLocals, Value.category]; done) | rfl) ?_
  intro K T S0
  refine px_ldc2 S0 (hw _ (List.mem_of_getElem? (i := 0) rfl)) d5_0 rfl ?_
  refine px_lstore S0 d5_3 rfl (L' := #[.val (.ref a), .val (.ref b), .val (.long (2 : Int64)), .second, .val (.long (4294967295 : Int64)), .second, .unset, .unset, .unset]) rfl ?_
  refine px_bipush (v := (9 : Int32)) S0 d5_5 rfl rfl ?_
  refine px_newarrJ (cap := 9) S0 (hw _ (List.mem_of_getElem? (i := 1) rfl)) (n := 9) rfl (by decide) (by decide) (by decide) (by decide) d5_7 rfl (fun T1 h1 b1 z1 g_b1 S1 E1 A_b1 => ?_)
  have ne_a_b1 : a ≠ b1 := ne_new z1 A1.lt
  have ne_b_b1 : b ≠ b1 := ne_new z1 A2.lt
  replace A1 := A1.ext E1
  replace A2 := A2.ext E1
  refine px_astore S1 d5_9 rfl rfl (L' := #[.val (.ref a), .val (.ref b), .val (.long (2 : Int64)), .second, .val (.long (4294967295 : Int64)), .second, .val (.ref b1), .unset, .unset]) rfl ?_
  refine px_aloadN S1 d5_11 rfl rfl rfl ?_
  refine px_iconst (v := (0 : Int32)) S1 d5_12 rfl rfl ?_
  refine px_laload (v := x0) S1 A1 (i := 0) rfl (by decide) e_x0 d5_13 rfl ?_
  refine px_lloadN S1 d5_14 rfl rfl ?_
  refine px_aloadN S1 d5_15 rfl rfl rfl ?_
  refine px_iconst (v := (0 : Int32)) S1 d5_16 rfl rfl ?_
  refine px_laload (v := y0) S1 A2 (i := 0) rfl (by decide) e_y0 d5_17 rfl ?_
  refine px_lmul S1 d5_18 rfl ?_
  refine px_ladd S1 d5_19 rfl ?_
  have x_3 := (x_lmul' (r01 r_y0) rfl (by decide) (by decide) (by decide) : ((2 : Int64) * y0).toInt = y0.toInt * (2))
  have l_4 : (2 : Int64).toInt = 2 := rfl
  have bx_3 : (0 : Int) ≤ ((2 : Int64) * y0).toInt ∧ ((2 : Int64) * y0).toInt ≤ 8589934590 := by rw [x_3]; exact ib_mul (2) (by decide) (r01 r_y0) (by decide) (by decide)
  have x_2 := (x_ladd (r01 r_x0) bx_3 (by decide) (by decide) : (x0 + ((2 : Int64) * y0)).toInt = x0.toInt + ((2 : Int64) * y0).toInt)
  have bx_2 : (0 : Int) ≤ (x0 + ((2 : Int64) * y0)).toInt ∧ (x0 + ((2 : Int64) * y0)).toInt ≤ 12884901885 := by rw [x_2]; exact ib_add (r01 r_x0) bx_3 (by decide) (by decide)
  generalize h_v5 : (x0 + ((2 : Int64) * y0)) = v5
  rw [h_v5] at x_2 bx_2
  refine px_lstore S1 d5_20 rfl (L' := #[.val (.ref a), .val (.ref b), .val (.long (2 : Int64)), .second, .val (.long (4294967295 : Int64)), .second, .val (.ref b1), .val (.long v5), .second]) rfl ?_
  refine px_aload S1 d5_22 rfl rfl rfl ?_
  refine px_iconst (v := (0 : Int32)) S1 d5_24 rfl rfl ?_
  refine px_lload S1 d5_25 rfl rfl ?_
  refine px_lload S1 d5_27 rfl rfl ?_
  refine px_land S1 d5_29 rfl ?_
  refine px_lastore S1 A_b1 g_b1 (i := 0) rfl (by decide) d5_30 rfl (fun T6 h6 S6 W6 A_b1 => ?_)
  replace A1 := A1.other W6 ne_a_b1
  replace A2 := A2.other W6 ne_b_b1
  refine px_aloadN S6 d5_31 rfl rfl rfl ?_
  refine px_iconst (v := (1 : Int32)) S6 d5_32 rfl rfl ?_
  refine px_laload (v := x1) S6 A1 (i := 1) rfl (by decide) e_x1 d5_33 rfl ?_
  refine px_lloadN S6 d5_34 rfl rfl ?_
  refine px_aloadN S6 d5_35 rfl rfl rfl ?_
  refine px_iconst (v := (1 : Int32)) S6 d5_36 rfl rfl ?_
  refine px_laload (v := y1) S6 A2 (i := 1) rfl (by decide) e_y1 d5_37 rfl ?_
  refine px_lmul S6 d5_38 rfl ?_
  refine px_ladd S6 d5_39 rfl ?_
  refine px_lload S6 d5_40 rfl rfl ?_
  refine px_bipush (v := (32 : Int32)) S6 d5_42 rfl rfl ?_
  refine px_lushr S6 d5_44 rfl ?_
  refine px_ladd S6 d5_45 rfl ?_
  have x_9 := (x_lmul' (r01 r_y1) rfl (by decide) (by decide) (by decide) : ((2 : Int64) * y1).toInt = y1.toInt * (2))
  have bx_9 : (0 : Int) ≤ ((2 : Int64) * y1).toInt ∧ ((2 : Int64) * y1).toInt ≤ 8589934590 := by rw [x_9]; exact ib_mul (2) (by decide) (r01 r_y1) (by decide) (by decide)
  have x_8 := (x_ladd (r01 r_x1) bx_9 (by decide) (by decide) : (x1 + ((2 : Int64) * y1)).toInt = x1.toInt + ((2 : Int64) * y1).toInt)
  have bx_8 : (0 : Int) ≤ (x1 + ((2 : Int64) * y1)).toInt ∧ (x1 + ((2 : Int64) * y1)).toInt ≤ 12884901885 := by rw [x_8]; exact ib_add (r01 r_x1) bx_9 (by decide) (by decide)
  have x_10 := (x_lushr bx_2 (by decide) 32 (by decide) (by decide) (by decide) : (ushrL v5 (32 : Int32)).toInt = v5.toInt / 4294967296)
  have l_11 : (32 : Int32).toInt = 32 := rfl
  have bx_10 : (0 : Int) ≤ (ushrL v5 (32 : Int32)).toInt ∧ (ushrL v5 (32 : Int32)).toInt ≤ 2 := by rw [x_10]; exact ib_div 4294967296 (by decide) bx_2 (by decide) (by decide)
  have x_7 := (x_ladd bx_8 bx_10 (by decide) (by decide) : ((x1 + ((2 : Int64) * y1)) + (ushrL v5 (32 : Int32))).toInt = (x1 + ((2 : Int64) * y1)).toInt + (ushrL v5 (32 : Int32)).toInt)
  have bx_7 : (0 : Int) ≤ ((x1 + ((2 : Int64) * y1)) + (ushrL v5 (32 : Int32))).toInt ∧ ((x1 + ((2 : Int64) * y1)) + (ushrL v5 (32 : Int32))).toInt ≤ 12884901887 := by rw [x_7]; exact ib_add bx_8 bx_10 (by decide) (by decide)
  generalize h_v12 : ((x1 + ((2 : Int64) * y1)) + (ushrL v5 (32 : Int32))) = v12
  rw [h_v12] at x_7 bx_7
  refine px_lstore S6 d5_46 rfl (L' := #[.val (.ref a), .val (.ref b), .val (.long (2 : Int64)), .second, .val (.long (4294967295 : Int64)), .second, .val (.ref b1), .val (.long v12), .second]) rfl ?_
  refine px_aload S6 d5_48 rfl rfl rfl ?_
  refine px_iconst (v := (1 : Int32)) S6 d5_50 rfl rfl ?_
  refine px_lload S6 d5_51 rfl rfl ?_
  refine px_lload S6 d5_53 rfl rfl ?_
  refine px_land S6 d5_55 rfl ?_
  refine px_lastore S6 A_b1 g_b1 (i := 1) rfl (by decide) d5_56 rfl (fun T13 h13 S13 W13 A_b1 => ?_)
  replace A1 := A1.other W13 ne_a_b1
  replace A2 := A2.other W13 ne_b_b1
  refine px_aloadN S13 d5_57 rfl rfl rfl ?_
  refine px_iconst (v := (2 : Int32)) S13 d5_58 rfl rfl ?_
  refine px_laload (v := x2) S13 A1 (i := 2) rfl (by decide) e_x2 d5_59 rfl ?_
  refine px_lloadN S13 d5_60 rfl rfl ?_
  refine px_aloadN S13 d5_61 rfl rfl rfl ?_
  refine px_iconst (v := (2 : Int32)) S13 d5_62 rfl rfl ?_
  refine px_laload (v := y2) S13 A2 (i := 2) rfl (by decide) e_y2 d5_63 rfl ?_
  refine px_lmul S13 d5_64 rfl ?_
  refine px_ladd S13 d5_65 rfl ?_
  refine px_lload S13 d5_66 rfl rfl ?_
  refine px_bipush (v := (32 : Int32)) S13 d5_68 rfl rfl ?_
  refine px_lushr S13 d5_70 rfl ?_
  refine px_ladd S13 d5_71 rfl ?_
  have x_16 := (x_lmul' (r01 r_y2) rfl (by decide) (by decide) (by decide) : ((2 : Int64) * y2).toInt = y2.toInt * (2))
  have bx_16 : (0 : Int) ≤ ((2 : Int64) * y2).toInt ∧ ((2 : Int64) * y2).toInt ≤ 8589934590 := by rw [x_16]; exact ib_mul (2) (by decide) (r01 r_y2) (by decide) (by decide)
  have x_15 := (x_ladd (r01 r_x2) bx_16 (by decide) (by decide) : (x2 + ((2 : Int64) * y2)).toInt = x2.toInt + ((2 : Int64) * y2).toInt)
  have bx_15 : (0 : Int) ≤ (x2 + ((2 : Int64) * y2)).toInt ∧ (x2 + ((2 : Int64) * y2)).toInt ≤ 12884901885 := by rw [x_15]; exact ib_add (r01 r_x2) bx_16 (by decide) (by decide)
  have x_17 := (x_lushr bx_7 (by decide) 32 (by decide) (by decide) (by decide) : (ushrL v12 (32 : Int32)).toInt = v12.toInt / 4294967296)
  have bx_17 : (0 : Int) ≤ (ushrL v12 (32 : Int32)).toInt ∧ (ushrL v12 (32 : Int32)).toInt ≤ 2 := by rw [x_17]; exact ib_div 4294967296 (by decide) bx_7 (by decide) (by decide)
  have x_14 := (x_ladd bx_15 bx_17 (by decide) (by decide) : ((x2 + ((2 : Int64) * y2)) + (ushrL v12 (32 : Int32))).toInt = (x2 + ((2 : Int64) * y2)).toInt + (ushrL v12 (32 : Int32)).toInt)
  have bx_14 : (0 : Int) ≤ ((x2 + ((2 : Int64) * y2)) + (ushrL v12 (32 : Int32))).toInt ∧ ((x2 + ((2 : Int64) * y2)) + (ushrL v12 (32 : Int32))).toInt ≤ 12884901887 := by rw [x_14]; exact ib_add bx_15 bx_17 (by decide) (by decide)
  generalize h_v18 : ((x2 + ((2 : Int64) * y2)) + (ushrL v12 (32 : Int32))) = v18
  rw [h_v18] at x_14 bx_14
  refine px_lstore S13 d5_72 rfl (L' := #[.val (.ref a), .val (.ref b), .val (.long (2 : Int64)), .second, .val (.long (4294967295 : Int64)), .second, .val (.ref b1), .val (.long v18), .second]) rfl ?_
  refine px_aload S13 d5_74 rfl rfl rfl ?_
  refine px_iconst (v := (2 : Int32)) S13 d5_76 rfl rfl ?_
  refine px_lload S13 d5_77 rfl rfl ?_
  refine px_lload S13 d5_79 rfl rfl ?_
  refine px_land S13 d5_81 rfl ?_
  refine px_lastore S13 A_b1 g_b1 (i := 2) rfl (by decide) d5_82 rfl (fun T19 h19 S19 W19 A_b1 => ?_)
  replace A1 := A1.other W19 ne_a_b1
  replace A2 := A2.other W19 ne_b_b1
  refine px_aloadN S19 d5_83 rfl rfl rfl ?_
  refine px_iconst (v := (3 : Int32)) S19 d5_84 rfl rfl ?_
  refine px_laload (v := x3) S19 A1 (i := 3) rfl (by decide) e_x3 d5_85 rfl ?_
  refine px_lloadN S19 d5_86 rfl rfl ?_
  refine px_aloadN S19 d5_87 rfl rfl rfl ?_
  refine px_iconst (v := (3 : Int32)) S19 d5_88 rfl rfl ?_
  refine px_laload (v := y3) S19 A2 (i := 3) rfl (by decide) e_y3 d5_89 rfl ?_
  refine px_lmul S19 d5_90 rfl ?_
  refine px_ladd S19 d5_91 rfl ?_
  refine px_lload S19 d5_92 rfl rfl ?_
  refine px_bipush (v := (32 : Int32)) S19 d5_94 rfl rfl ?_
  refine px_lushr S19 d5_96 rfl ?_
  refine px_ladd S19 d5_97 rfl ?_
  have x_22 := (x_lmul' (r01 r_y3) rfl (by decide) (by decide) (by decide) : ((2 : Int64) * y3).toInt = y3.toInt * (2))
  have bx_22 : (0 : Int) ≤ ((2 : Int64) * y3).toInt ∧ ((2 : Int64) * y3).toInt ≤ 8589934590 := by rw [x_22]; exact ib_mul (2) (by decide) (r01 r_y3) (by decide) (by decide)
  have x_21 := (x_ladd (r01 r_x3) bx_22 (by decide) (by decide) : (x3 + ((2 : Int64) * y3)).toInt = x3.toInt + ((2 : Int64) * y3).toInt)
  have bx_21 : (0 : Int) ≤ (x3 + ((2 : Int64) * y3)).toInt ∧ (x3 + ((2 : Int64) * y3)).toInt ≤ 12884901885 := by rw [x_21]; exact ib_add (r01 r_x3) bx_22 (by decide) (by decide)
  have x_23 := (x_lushr bx_14 (by decide) 32 (by decide) (by decide) (by decide) : (ushrL v18 (32 : Int32)).toInt = v18.toInt / 4294967296)
  have bx_23 : (0 : Int) ≤ (ushrL v18 (32 : Int32)).toInt ∧ (ushrL v18 (32 : Int32)).toInt ≤ 2 := by rw [x_23]; exact ib_div 4294967296 (by decide) bx_14 (by decide) (by decide)
  have x_20 := (x_ladd bx_21 bx_23 (by decide) (by decide) : ((x3 + ((2 : Int64) * y3)) + (ushrL v18 (32 : Int32))).toInt = (x3 + ((2 : Int64) * y3)).toInt + (ushrL v18 (32 : Int32)).toInt)
  have bx_20 : (0 : Int) ≤ ((x3 + ((2 : Int64) * y3)) + (ushrL v18 (32 : Int32))).toInt ∧ ((x3 + ((2 : Int64) * y3)) + (ushrL v18 (32 : Int32))).toInt ≤ 12884901887 := by rw [x_20]; exact ib_add bx_21 bx_23 (by decide) (by decide)
  generalize h_v24 : ((x3 + ((2 : Int64) * y3)) + (ushrL v18 (32 : Int32))) = v24
  rw [h_v24] at x_20 bx_20
  refine px_lstore S19 d5_98 rfl (L' := #[.val (.ref a), .val (.ref b), .val (.long (2 : Int64)), .second, .val (.long (4294967295 : Int64)), .second, .val (.ref b1), .val (.long v24), .second]) rfl ?_
  refine px_aload S19 d5_100 rfl rfl rfl ?_
  refine px_iconst (v := (3 : Int32)) S19 d5_102 rfl rfl ?_
  refine px_lload S19 d5_103 rfl rfl ?_
  refine px_lload S19 d5_105 rfl rfl ?_
  refine px_land S19 d5_107 rfl ?_
  refine px_lastore S19 A_b1 g_b1 (i := 3) rfl (by decide) d5_108 rfl (fun T25 h25 S25 W25 A_b1 => ?_)
  replace A1 := A1.other W25 ne_a_b1
  replace A2 := A2.other W25 ne_b_b1
  refine px_aloadN S25 d5_109 rfl rfl rfl ?_
  refine px_iconst (v := (4 : Int32)) S25 d5_110 rfl rfl ?_
  refine px_laload (v := x4) S25 A1 (i := 4) rfl (by decide) e_x4 d5_111 rfl ?_
  refine px_lloadN S25 d5_112 rfl rfl ?_
  refine px_aloadN S25 d5_113 rfl rfl rfl ?_
  refine px_iconst (v := (4 : Int32)) S25 d5_114 rfl rfl ?_
  refine px_laload (v := y4) S25 A2 (i := 4) rfl (by decide) e_y4 d5_115 rfl ?_
  refine px_lmul S25 d5_116 rfl ?_
  refine px_ladd S25 d5_117 rfl ?_
  refine px_lload S25 d5_118 rfl rfl ?_
  refine px_bipush (v := (32 : Int32)) S25 d5_120 rfl rfl ?_
  refine px_lushr S25 d5_122 rfl ?_
  refine px_ladd S25 d5_123 rfl ?_
  have x_28 := (x_lmul' (r01 r_y4) rfl (by decide) (by decide) (by decide) : ((2 : Int64) * y4).toInt = y4.toInt * (2))
  have bx_28 : (0 : Int) ≤ ((2 : Int64) * y4).toInt ∧ ((2 : Int64) * y4).toInt ≤ 8589934590 := by rw [x_28]; exact ib_mul (2) (by decide) (r01 r_y4) (by decide) (by decide)
  have x_27 := (x_ladd (r01 r_x4) bx_28 (by decide) (by decide) : (x4 + ((2 : Int64) * y4)).toInt = x4.toInt + ((2 : Int64) * y4).toInt)
  have bx_27 : (0 : Int) ≤ (x4 + ((2 : Int64) * y4)).toInt ∧ (x4 + ((2 : Int64) * y4)).toInt ≤ 12884901885 := by rw [x_27]; exact ib_add (r01 r_x4) bx_28 (by decide) (by decide)
  have x_29 := (x_lushr bx_20 (by decide) 32 (by decide) (by decide) (by decide) : (ushrL v24 (32 : Int32)).toInt = v24.toInt / 4294967296)
  have bx_29 : (0 : Int) ≤ (ushrL v24 (32 : Int32)).toInt ∧ (ushrL v24 (32 : Int32)).toInt ≤ 2 := by rw [x_29]; exact ib_div 4294967296 (by decide) bx_20 (by decide) (by decide)
  have x_26 := (x_ladd bx_27 bx_29 (by decide) (by decide) : ((x4 + ((2 : Int64) * y4)) + (ushrL v24 (32 : Int32))).toInt = (x4 + ((2 : Int64) * y4)).toInt + (ushrL v24 (32 : Int32)).toInt)
  have bx_26 : (0 : Int) ≤ ((x4 + ((2 : Int64) * y4)) + (ushrL v24 (32 : Int32))).toInt ∧ ((x4 + ((2 : Int64) * y4)) + (ushrL v24 (32 : Int32))).toInt ≤ 12884901887 := by rw [x_26]; exact ib_add bx_27 bx_29 (by decide) (by decide)
  generalize h_v30 : ((x4 + ((2 : Int64) * y4)) + (ushrL v24 (32 : Int32))) = v30
  rw [h_v30] at x_26 bx_26
  refine px_lstore S25 d5_124 rfl (L' := #[.val (.ref a), .val (.ref b), .val (.long (2 : Int64)), .second, .val (.long (4294967295 : Int64)), .second, .val (.ref b1), .val (.long v30), .second]) rfl ?_
  refine px_aload S25 d5_126 rfl rfl rfl ?_
  refine px_iconst (v := (4 : Int32)) S25 d5_128 rfl rfl ?_
  refine px_lload S25 d5_129 rfl rfl ?_
  refine px_lload S25 d5_131 rfl rfl ?_
  refine px_land S25 d5_133 rfl ?_
  refine px_lastore S25 A_b1 g_b1 (i := 4) rfl (by decide) d5_134 rfl (fun T31 h31 S31 W31 A_b1 => ?_)
  replace A1 := A1.other W31 ne_a_b1
  replace A2 := A2.other W31 ne_b_b1
  refine px_aloadN S31 d5_135 rfl rfl rfl ?_
  refine px_iconst (v := (5 : Int32)) S31 d5_136 rfl rfl ?_
  refine px_laload (v := x5) S31 A1 (i := 5) rfl (by decide) e_x5 d5_137 rfl ?_
  refine px_lloadN S31 d5_138 rfl rfl ?_
  refine px_aloadN S31 d5_139 rfl rfl rfl ?_
  refine px_iconst (v := (5 : Int32)) S31 d5_140 rfl rfl ?_
  refine px_laload (v := y5) S31 A2 (i := 5) rfl (by decide) e_y5 d5_141 rfl ?_
  refine px_lmul S31 d5_142 rfl ?_
  refine px_ladd S31 d5_143 rfl ?_
  refine px_lload S31 d5_144 rfl rfl ?_
  refine px_bipush (v := (32 : Int32)) S31 d5_146 rfl rfl ?_
  refine px_lushr S31 d5_148 rfl ?_
  refine px_ladd S31 d5_149 rfl ?_
  have x_34 := (x_lmul' (r01 r_y5) rfl (by decide) (by decide) (by decide) : ((2 : Int64) * y5).toInt = y5.toInt * (2))
  have bx_34 : (0 : Int) ≤ ((2 : Int64) * y5).toInt ∧ ((2 : Int64) * y5).toInt ≤ 8589934590 := by rw [x_34]; exact ib_mul (2) (by decide) (r01 r_y5) (by decide) (by decide)
  have x_33 := (x_ladd (r01 r_x5) bx_34 (by decide) (by decide) : (x5 + ((2 : Int64) * y5)).toInt = x5.toInt + ((2 : Int64) * y5).toInt)
  have bx_33 : (0 : Int) ≤ (x5 + ((2 : Int64) * y5)).toInt ∧ (x5 + ((2 : Int64) * y5)).toInt ≤ 12884901885 := by rw [x_33]; exact ib_add (r01 r_x5) bx_34 (by decide) (by decide)
  have x_35 := (x_lushr bx_26 (by decide) 32 (by decide) (by decide) (by decide) : (ushrL v30 (32 : Int32)).toInt = v30.toInt / 4294967296)
  have bx_35 : (0 : Int) ≤ (ushrL v30 (32 : Int32)).toInt ∧ (ushrL v30 (32 : Int32)).toInt ≤ 2 := by rw [x_35]; exact ib_div 4294967296 (by decide) bx_26 (by decide) (by decide)
  have x_32 := (x_ladd bx_33 bx_35 (by decide) (by decide) : ((x5 + ((2 : Int64) * y5)) + (ushrL v30 (32 : Int32))).toInt = (x5 + ((2 : Int64) * y5)).toInt + (ushrL v30 (32 : Int32)).toInt)
  have bx_32 : (0 : Int) ≤ ((x5 + ((2 : Int64) * y5)) + (ushrL v30 (32 : Int32))).toInt ∧ ((x5 + ((2 : Int64) * y5)) + (ushrL v30 (32 : Int32))).toInt ≤ 12884901887 := by rw [x_32]; exact ib_add bx_33 bx_35 (by decide) (by decide)
  generalize h_v36 : ((x5 + ((2 : Int64) * y5)) + (ushrL v30 (32 : Int32))) = v36
  rw [h_v36] at x_32 bx_32
  refine px_lstore S31 d5_150 rfl (L' := #[.val (.ref a), .val (.ref b), .val (.long (2 : Int64)), .second, .val (.long (4294967295 : Int64)), .second, .val (.ref b1), .val (.long v36), .second]) rfl ?_
  refine px_aload S31 d5_152 rfl rfl rfl ?_
  refine px_iconst (v := (5 : Int32)) S31 d5_154 rfl rfl ?_
  refine px_lload S31 d5_155 rfl rfl ?_
  refine px_lload S31 d5_157 rfl rfl ?_
  refine px_land S31 d5_159 rfl ?_
  refine px_lastore S31 A_b1 g_b1 (i := 5) rfl (by decide) d5_160 rfl (fun T37 h37 S37 W37 A_b1 => ?_)
  replace A1 := A1.other W37 ne_a_b1
  replace A2 := A2.other W37 ne_b_b1
  refine px_aloadN S37 d5_161 rfl rfl rfl ?_
  refine px_bipush (v := (6 : Int32)) S37 d5_162 rfl rfl ?_
  refine px_laload (v := x6) S37 A1 (i := 6) rfl (by decide) e_x6 d5_164 rfl ?_
  refine px_lloadN S37 d5_165 rfl rfl ?_
  refine px_aloadN S37 d5_166 rfl rfl rfl ?_
  refine px_bipush (v := (6 : Int32)) S37 d5_167 rfl rfl ?_
  refine px_laload (v := y6) S37 A2 (i := 6) rfl (by decide) e_y6 d5_169 rfl ?_
  refine px_lmul S37 d5_170 rfl ?_
  refine px_ladd S37 d5_171 rfl ?_
  refine px_lload S37 d5_172 rfl rfl ?_
  refine px_bipush (v := (32 : Int32)) S37 d5_174 rfl rfl ?_
  refine px_lushr S37 d5_176 rfl ?_
  refine px_ladd S37 d5_177 rfl ?_
  have x_40 := (x_lmul' (r01 r_y6) rfl (by decide) (by decide) (by decide) : ((2 : Int64) * y6).toInt = y6.toInt * (2))
  have bx_40 : (0 : Int) ≤ ((2 : Int64) * y6).toInt ∧ ((2 : Int64) * y6).toInt ≤ 8589934590 := by rw [x_40]; exact ib_mul (2) (by decide) (r01 r_y6) (by decide) (by decide)
  have x_39 := (x_ladd (r01 r_x6) bx_40 (by decide) (by decide) : (x6 + ((2 : Int64) * y6)).toInt = x6.toInt + ((2 : Int64) * y6).toInt)
  have bx_39 : (0 : Int) ≤ (x6 + ((2 : Int64) * y6)).toInt ∧ (x6 + ((2 : Int64) * y6)).toInt ≤ 12884901885 := by rw [x_39]; exact ib_add (r01 r_x6) bx_40 (by decide) (by decide)
  have x_41 := (x_lushr bx_32 (by decide) 32 (by decide) (by decide) (by decide) : (ushrL v36 (32 : Int32)).toInt = v36.toInt / 4294967296)
  have bx_41 : (0 : Int) ≤ (ushrL v36 (32 : Int32)).toInt ∧ (ushrL v36 (32 : Int32)).toInt ≤ 2 := by rw [x_41]; exact ib_div 4294967296 (by decide) bx_32 (by decide) (by decide)
  have x_38 := (x_ladd bx_39 bx_41 (by decide) (by decide) : ((x6 + ((2 : Int64) * y6)) + (ushrL v36 (32 : Int32))).toInt = (x6 + ((2 : Int64) * y6)).toInt + (ushrL v36 (32 : Int32)).toInt)
  have bx_38 : (0 : Int) ≤ ((x6 + ((2 : Int64) * y6)) + (ushrL v36 (32 : Int32))).toInt ∧ ((x6 + ((2 : Int64) * y6)) + (ushrL v36 (32 : Int32))).toInt ≤ 12884901887 := by rw [x_38]; exact ib_add bx_39 bx_41 (by decide) (by decide)
  generalize h_v42 : ((x6 + ((2 : Int64) * y6)) + (ushrL v36 (32 : Int32))) = v42
  rw [h_v42] at x_38 bx_38
  refine px_lstore S37 d5_178 rfl (L' := #[.val (.ref a), .val (.ref b), .val (.long (2 : Int64)), .second, .val (.long (4294967295 : Int64)), .second, .val (.ref b1), .val (.long v42), .second]) rfl ?_
  refine px_aload S37 d5_180 rfl rfl rfl ?_
  refine px_bipush (v := (6 : Int32)) S37 d5_182 rfl rfl ?_
  refine px_lload S37 d5_184 rfl rfl ?_
  refine px_lload S37 d5_186 rfl rfl ?_
  refine px_land S37 d5_188 rfl ?_
  refine px_lastore S37 A_b1 g_b1 (i := 6) rfl (by decide) d5_189 rfl (fun T43 h43 S43 W43 A_b1 => ?_)
  replace A1 := A1.other W43 ne_a_b1
  replace A2 := A2.other W43 ne_b_b1
  refine px_aloadN S43 d5_190 rfl rfl rfl ?_
  refine px_bipush (v := (7 : Int32)) S43 d5_191 rfl rfl ?_
  refine px_laload (v := x7) S43 A1 (i := 7) rfl (by decide) e_x7 d5_193 rfl ?_
  refine px_lloadN S43 d5_194 rfl rfl ?_
  refine px_aloadN S43 d5_195 rfl rfl rfl ?_
  refine px_bipush (v := (7 : Int32)) S43 d5_196 rfl rfl ?_
  refine px_laload (v := y7) S43 A2 (i := 7) rfl (by decide) e_y7 d5_198 rfl ?_
  refine px_lmul S43 d5_199 rfl ?_
  refine px_ladd S43 d5_200 rfl ?_
  refine px_lload S43 d5_201 rfl rfl ?_
  refine px_bipush (v := (32 : Int32)) S43 d5_203 rfl rfl ?_
  refine px_lushr S43 d5_205 rfl ?_
  refine px_ladd S43 d5_206 rfl ?_
  have x_46 := (x_lmul' (r01 r_y7) rfl (by decide) (by decide) (by decide) : ((2 : Int64) * y7).toInt = y7.toInt * (2))
  have bx_46 : (0 : Int) ≤ ((2 : Int64) * y7).toInt ∧ ((2 : Int64) * y7).toInt ≤ 8589934590 := by rw [x_46]; exact ib_mul (2) (by decide) (r01 r_y7) (by decide) (by decide)
  have x_45 := (x_ladd (r01 r_x7) bx_46 (by decide) (by decide) : (x7 + ((2 : Int64) * y7)).toInt = x7.toInt + ((2 : Int64) * y7).toInt)
  have bx_45 : (0 : Int) ≤ (x7 + ((2 : Int64) * y7)).toInt ∧ (x7 + ((2 : Int64) * y7)).toInt ≤ 12884901885 := by rw [x_45]; exact ib_add (r01 r_x7) bx_46 (by decide) (by decide)
  have x_47 := (x_lushr bx_38 (by decide) 32 (by decide) (by decide) (by decide) : (ushrL v42 (32 : Int32)).toInt = v42.toInt / 4294967296)
  have bx_47 : (0 : Int) ≤ (ushrL v42 (32 : Int32)).toInt ∧ (ushrL v42 (32 : Int32)).toInt ≤ 2 := by rw [x_47]; exact ib_div 4294967296 (by decide) bx_38 (by decide) (by decide)
  have x_44 := (x_ladd bx_45 bx_47 (by decide) (by decide) : ((x7 + ((2 : Int64) * y7)) + (ushrL v42 (32 : Int32))).toInt = (x7 + ((2 : Int64) * y7)).toInt + (ushrL v42 (32 : Int32)).toInt)
  have bx_44 : (0 : Int) ≤ ((x7 + ((2 : Int64) * y7)) + (ushrL v42 (32 : Int32))).toInt ∧ ((x7 + ((2 : Int64) * y7)) + (ushrL v42 (32 : Int32))).toInt ≤ 12884901887 := by rw [x_44]; exact ib_add bx_45 bx_47 (by decide) (by decide)
  generalize h_v48 : ((x7 + ((2 : Int64) * y7)) + (ushrL v42 (32 : Int32))) = v48
  rw [h_v48] at x_44 bx_44
  refine px_lstore S43 d5_207 rfl (L' := #[.val (.ref a), .val (.ref b), .val (.long (2 : Int64)), .second, .val (.long (4294967295 : Int64)), .second, .val (.ref b1), .val (.long v48), .second]) rfl ?_
  refine px_aload S43 d5_209 rfl rfl rfl ?_
  refine px_bipush (v := (7 : Int32)) S43 d5_211 rfl rfl ?_
  refine px_lload S43 d5_213 rfl rfl ?_
  refine px_lload S43 d5_215 rfl rfl ?_
  refine px_land S43 d5_217 rfl ?_
  refine px_lastore S43 A_b1 g_b1 (i := 7) rfl (by decide) d5_218 rfl (fun T49 h49 S49 W49 A_b1 => ?_)
  replace A1 := A1.other W49 ne_a_b1
  replace A2 := A2.other W49 ne_b_b1
  refine px_aload S49 d5_219 rfl rfl rfl ?_
  refine px_bipush (v := (8 : Int32)) S49 d5_221 rfl rfl ?_
  refine px_lload S49 d5_223 rfl rfl ?_
  refine px_bipush (v := (32 : Int32)) S49 d5_225 rfl rfl ?_
  refine px_lushr S49 d5_227 rfl ?_
  refine px_lastore S49 A_b1 g_b1 (i := 8) rfl (by decide) d5_228 rfl (fun T50 h50 S50 W50 A_b1 => ?_)
  replace A1 := A1.other W50 ne_a_b1
  replace A2 := A2.other W50 ne_b_b1
  refine px_aload S50 d5_229 rfl rfl rfl ?_
  have x_51 := (x_lmask 32 (by decide) (by decide) (by decide) : (v5 &&& (4294967295 : Int64)).toInt = v5.toInt % 4294967296)
  have l_52 : (4294967295 : Int64).toInt = 4294967295 := rfl
  have bx_51 : (0 : Int) ≤ (v5 &&& (4294967295 : Int64)).toInt ∧ (v5 &&& (4294967295 : Int64)).toInt ≤ 4294967295 := by rw [x_51]; exact ib_mod 4294967296 (by decide) (by decide) (by decide)
  have x_53 := (x_lmask 32 (by decide) (by decide) (by decide) : (v12 &&& (4294967295 : Int64)).toInt = v12.toInt % 4294967296)
  have bx_53 : (0 : Int) ≤ (v12 &&& (4294967295 : Int64)).toInt ∧ (v12 &&& (4294967295 : Int64)).toInt ≤ 4294967295 := by rw [x_53]; exact ib_mod 4294967296 (by decide) (by decide) (by decide)
  have x_54 := (x_lmask 32 (by decide) (by decide) (by decide) : (v18 &&& (4294967295 : Int64)).toInt = v18.toInt % 4294967296)
  have bx_54 : (0 : Int) ≤ (v18 &&& (4294967295 : Int64)).toInt ∧ (v18 &&& (4294967295 : Int64)).toInt ≤ 4294967295 := by rw [x_54]; exact ib_mod 4294967296 (by decide) (by decide) (by decide)
  have x_55 := (x_lmask 32 (by decide) (by decide) (by decide) : (v24 &&& (4294967295 : Int64)).toInt = v24.toInt % 4294967296)
  have bx_55 : (0 : Int) ≤ (v24 &&& (4294967295 : Int64)).toInt ∧ (v24 &&& (4294967295 : Int64)).toInt ≤ 4294967295 := by rw [x_55]; exact ib_mod 4294967296 (by decide) (by decide) (by decide)
  have x_56 := (x_lmask 32 (by decide) (by decide) (by decide) : (v30 &&& (4294967295 : Int64)).toInt = v30.toInt % 4294967296)
  have bx_56 : (0 : Int) ≤ (v30 &&& (4294967295 : Int64)).toInt ∧ (v30 &&& (4294967295 : Int64)).toInt ≤ 4294967295 := by rw [x_56]; exact ib_mod 4294967296 (by decide) (by decide) (by decide)
  have x_57 := (x_lmask 32 (by decide) (by decide) (by decide) : (v36 &&& (4294967295 : Int64)).toInt = v36.toInt % 4294967296)
  have bx_57 : (0 : Int) ≤ (v36 &&& (4294967295 : Int64)).toInt ∧ (v36 &&& (4294967295 : Int64)).toInt ≤ 4294967295 := by rw [x_57]; exact ib_mod 4294967296 (by decide) (by decide) (by decide)
  have x_58 := (x_lmask 32 (by decide) (by decide) (by decide) : (v42 &&& (4294967295 : Int64)).toInt = v42.toInt % 4294967296)
  have bx_58 : (0 : Int) ≤ (v42 &&& (4294967295 : Int64)).toInt ∧ (v42 &&& (4294967295 : Int64)).toInt ≤ 4294967295 := by rw [x_58]; exact ib_mod 4294967296 (by decide) (by decide) (by decide)
  have x_59 := (x_lmask 32 (by decide) (by decide) (by decide) : (v48 &&& (4294967295 : Int64)).toInt = v48.toInt % 4294967296)
  have bx_59 : (0 : Int) ≤ (v48 &&& (4294967295 : Int64)).toInt ∧ (v48 &&& (4294967295 : Int64)).toInt ≤ 4294967295 := by rw [x_59]; exact ib_mod 4294967296 (by decide) (by decide) (by decide)
  have x_60 := (x_lushr bx_44 (by decide) 32 (by decide) (by decide) (by decide) : (ushrL v48 (32 : Int32)).toInt = v48.toInt / 4294967296)
  have bx_60 : (0 : Int) ≤ (ushrL v48 (32 : Int32)).toInt ∧ (ushrL v48 (32 : Int32)).toInt ≤ 2 := by rw [x_60]; exact ib_div 4294967296 (by decide) bx_44 (by decide) (by decide)
  have hs := sstep2 (by rw [x_2, x_3] : v5.toInt = x0.toInt + y0.toInt * 2) (by rw [x_7, x_8, x_9, x_10] : v12.toInt = x1.toInt + y1.toInt * 2 + v5.toInt / 4294967296) (by rw [x_14, x_15, x_16, x_17] : v18.toInt = x2.toInt + y2.toInt * 2 + v12.toInt / 4294967296) (by rw [x_20, x_21, x_22, x_23] : v24.toInt = x3.toInt + y3.toInt * 2 + v18.toInt / 4294967296) (by rw [x_26, x_27, x_28, x_29] : v30.toInt = x4.toInt + y4.toInt * 2 + v24.toInt / 4294967296) (by rw [x_32, x_33, x_34, x_35] : v36.toInt = x5.toInt + y5.toInt * 2 + v30.toInt / 4294967296) (by rw [x_38, x_39, x_40, x_41] : v42.toInt = x6.toInt + y6.toInt * 2 + v36.toInt / 4294967296) (by rw [x_44, x_45, x_46, x_47] : v48.toInt = x7.toInt + y7.toInt * 2 + v42.toInt / 4294967296)
  exact px_retA S50 d5_231 rfl rfl rfl (by decide) (by decide) (⟨b1, (v5 &&& (4294967295 : Int64)), (v12 &&& (4294967295 : Int64)), (v18 &&& (4294967295 : Int64)), (v24 &&& (4294967295 : Int64)), (v30 &&& (4294967295 : Int64)), (v36 &&& (4294967295 : Int64)), (v42 &&& (4294967295 : Int64)), (v48 &&& (4294967295 : Int64)), (ushrL v48 (32 : Int32)), rfl, g_b1, Nat.le_of_eq z1.symm, (((((((((((Keep.refl _ _).ext E1).wr W6 (Or.inr (Nat.le_of_eq z1.symm))).wr W13 (Or.inr (Nat.le_of_eq z1.symm))).wr W19 (Or.inr (Nat.le_of_eq z1.symm))).wr W25 (Or.inr (Nat.le_of_eq z1.symm))).wr W31 (Or.inr (Nat.le_of_eq z1.symm))).wr W37 (Or.inr (Nat.le_of_eq z1.symm))).wr W43 (Or.inr (Nat.le_of_eq z1.symm))).wr W49 (Or.inr (Nat.le_of_eq z1.symm))).wr W50 (Or.inr (Nat.le_of_eq z1.symm))), A_b1.congr (all9 rfl rfl rfl rfl rfl rfl rfl rfl rfl), ⟨nz_i bx_51, nz_i bx_53, nz_i bx_54, nz_i bx_55, nz_i bx_56, nz_i bx_57, nz_i bx_58, nz_i bx_59⟩, by rw [x_51, x_53, x_54, x_55, x_56, x_57, x_58, x_59, x_60]; exact hs⟩)
theorem pd_0_0 : parseMethodDescriptor "([J[J[J)V" = some ⟨[(.array .long), (.array .long), (.array .long)], none⟩ := by decide +kernel
theorem pd_0_1 : parseMethodDescriptor "([J)Z" = some ⟨[(.array .long)], some .boolean⟩ := by decide +kernel
theorem pd_0_2 : parseMethodDescriptor "([J[J)Z" = some ⟨[(.array .long), (.array .long)], some .boolean⟩ := by decide +kernel
theorem pd_0_3 : parseMethodDescriptor "([J[JJ)[J" = some ⟨[(.array .long), (.array .long), .long], some (.array .long)⟩ := by decide +kernel
theorem pn_0 : plainFor x = true := plainFor_of_name (by first | (simp [plainName, overriddenIn]; done) | decide +kernel)
set_option maxRecDepth 65536 in
set_option maxHeartbeats 40000000 in
theorem law_ctr {Z : State} {a0 : Array Value} (hw : ∀ d ∈ tables_1, d.before a0 Z = true) (i0 i1 i2 i3 i4 i5 : Int64) {h0 : Heap} {n0 : Nat} (Z0 : n0 ≤ h0.size) :
    Ctr Z n0 x code maxLocals ret room_1 [(.long i0), (.long i1), (.long i2), (.long i3), (.long i4), (.long i5)] h0 (fun v h => v = some (.int 1)) := by
  refine Ctr.of (L := #[.val (.long i0), .second, .val (.long i1), .second, .val (.long i2), .second, .val (.long i3), .second, .val (.long i4), .second, .val (.long i5), .second, .unset, .unset, .unset, .unset, .unset, .unset, .unset, .unset]) pn_0 Z0 (fun m => by first | (simp [entryFrame, mkF, argsToLocals, Value.category, maxLocals]; done) | rfl) ?_
  intro K T S0
  refine px_ldc2 S0 (hw _ (List.mem_of_getElem? (i := 0) rfl)) at_0 rfl ?_
  refine px_lstore S0 at_3 rfl (L' := #[.val (.long i0), .second, .val (.long i1), .second, .val (.long i2), .second, .val (.long i3), .second, .val (.long i4), .second, .val (.long i5), .second, .val (.long (4294967295 : Int64)), .second, .unset, .unset, .unset, .unset, .unset, .unset]) rfl ?_
  refine px_bipush (v := (8 : Int32)) S0 at_5 rfl rfl ?_
  refine px_newarrJ (cap := 8) S0 (hw _ (List.mem_of_getElem? (i := 1) rfl)) (n := 8) rfl (by decide) (by decide) (by decide) (by decide) at_7 rfl (fun T1 h1 b1 z1 g_b1 S1 E1 A_b1 => ?_)
  refine px_dup S1 at_9 rfl rfl ?_
  refine px_iconst (v := (0 : Int32)) S1 at_10 rfl rfl ?_
  refine px_lloadN S1 at_11 rfl rfl ?_
  refine px_lload S1 at_12 rfl rfl ?_
  refine px_land S1 at_14 rfl ?_
  refine px_lastore S1 A_b1 g_b1 (i := 0) rfl (by decide) at_15 rfl (fun T2 h2 S2 W2 A_b1 => ?_)
  refine px_dup S2 at_16 rfl rfl ?_
  refine px_iconst (v := (1 : Int32)) S2 at_17 rfl rfl ?_
  refine px_lloadN S2 at_18 rfl rfl ?_
  refine px_bipush (v := (32 : Int32)) S2 at_19 rfl rfl ?_
  refine px_lushr S2 at_21 rfl ?_
  refine px_lastore S2 A_b1 g_b1 (i := 1) rfl (by decide) at_22 rfl (fun T3 h3 S3 W3 A_b1 => ?_)
  refine px_dup S3 at_23 rfl rfl ?_
  refine px_iconst (v := (2 : Int32)) S3 at_24 rfl rfl ?_
  refine px_lloadN S3 at_25 rfl rfl ?_
  refine px_lload S3 at_26 rfl rfl ?_
  refine px_land S3 at_28 rfl ?_
  refine px_lastore S3 A_b1 g_b1 (i := 2) rfl (by decide) at_29 rfl (fun T4 h4 S4 W4 A_b1 => ?_)
  refine px_dup S4 at_30 rfl rfl ?_
  refine px_iconst (v := (3 : Int32)) S4 at_31 rfl rfl ?_
  refine px_lloadN S4 at_32 rfl rfl ?_
  refine px_bipush (v := (32 : Int32)) S4 at_33 rfl rfl ?_
  refine px_lushr S4 at_35 rfl ?_
  refine px_lastore S4 A_b1 g_b1 (i := 3) rfl (by decide) at_36 rfl (fun T5 h5 S5 W5 A_b1 => ?_)
  refine px_dup S5 at_37 rfl rfl ?_
  refine px_iconst (v := (4 : Int32)) S5 at_38 rfl rfl ?_
  refine px_lload S5 at_39 rfl rfl ?_
  refine px_lload S5 at_41 rfl rfl ?_
  refine px_land S5 at_43 rfl ?_
  refine px_lastore S5 A_b1 g_b1 (i := 4) rfl (by decide) at_44 rfl (fun T6 h6 S6 W6 A_b1 => ?_)
  refine px_dup S6 at_45 rfl rfl ?_
  refine px_iconst (v := (5 : Int32)) S6 at_46 rfl rfl ?_
  refine px_lload S6 at_47 rfl rfl ?_
  refine px_bipush (v := (32 : Int32)) S6 at_49 rfl rfl ?_
  refine px_lushr S6 at_51 rfl ?_
  refine px_lastore S6 A_b1 g_b1 (i := 5) rfl (by decide) at_52 rfl (fun T7 h7 S7 W7 A_b1 => ?_)
  refine px_dup S7 at_53 rfl rfl ?_
  refine px_bipush (v := (6 : Int32)) S7 at_54 rfl rfl ?_
  refine px_lload S7 at_56 rfl rfl ?_
  refine px_lload S7 at_58 rfl rfl ?_
  refine px_land S7 at_60 rfl ?_
  refine px_lastore S7 A_b1 g_b1 (i := 6) rfl (by decide) at_61 rfl (fun T8 h8 S8 W8 A_b1 => ?_)
  refine px_dup S8 at_62 rfl rfl ?_
  refine px_bipush (v := (7 : Int32)) S8 at_63 rfl rfl ?_
  refine px_lload S8 at_65 rfl rfl ?_
  refine px_bipush (v := (32 : Int32)) S8 at_67 rfl rfl ?_
  refine px_lushr S8 at_69 rfl ?_
  refine px_lastore S8 A_b1 g_b1 (i := 7) rfl (by decide) at_70 rfl (fun T9 h9 S9 W9 A_b1 => ?_)
  refine px_astore S9 at_71 rfl rfl (L' := #[.val (.long i0), .second, .val (.long i1), .second, .val (.long i2), .second, .val (.long i3), .second, .val (.long i4), .second, .val (.long i5), .second, .val (.long (4294967295 : Int64)), .second, .val (.ref b1), .unset, .unset, .unset, .unset, .unset]) rfl ?_
  refine px_bipush (v := (8 : Int32)) S9 at_73 rfl rfl ?_
  refine px_newarrJ (cap := 8) S9 (hw _ (List.mem_of_getElem? (i := 1) rfl)) (n := 8) rfl (by decide) (by decide) (by decide) (by decide) at_75 rfl (fun T10 h10 b10 z10 g_b10 S10 E10 A_b10 => ?_)
  have ne_b1_b10 : b1 ≠ b10 := ne_new z10 A_b1.lt
  replace A_b1 := A_b1.ext E10
  refine px_dup S10 at_77 rfl rfl ?_
  refine px_iconst (v := (0 : Int32)) S10 at_78 rfl rfl ?_
  refine px_lload S10 at_79 rfl rfl ?_
  refine px_lload S10 at_81 rfl rfl ?_
  refine px_land S10 at_83 rfl ?_
  refine px_lastore S10 A_b10 g_b10 (i := 0) rfl (by decide) at_84 rfl (fun T11 h11 S11 W11 A_b10 => ?_)
  replace A_b1 := A_b1.other W11 ne_b1_b10
  refine px_dup S11 at_85 rfl rfl ?_
  refine px_iconst (v := (1 : Int32)) S11 at_86 rfl rfl ?_
  refine px_lload S11 at_87 rfl rfl ?_
  refine px_bipush (v := (32 : Int32)) S11 at_89 rfl rfl ?_
  refine px_lushr S11 at_91 rfl ?_
  refine px_lastore S11 A_b10 g_b10 (i := 1) rfl (by decide) at_92 rfl (fun T12 h12 S12 W12 A_b10 => ?_)
  replace A_b1 := A_b1.other W12 ne_b1_b10
  refine px_dup S12 at_93 rfl rfl ?_
  refine px_iconst (v := (2 : Int32)) S12 at_94 rfl rfl ?_
  refine px_lload S12 at_95 rfl rfl ?_
  refine px_lload S12 at_97 rfl rfl ?_
  refine px_land S12 at_99 rfl ?_
  refine px_lastore S12 A_b10 g_b10 (i := 2) rfl (by decide) at_100 rfl (fun T13 h13 S13 W13 A_b10 => ?_)
  replace A_b1 := A_b1.other W13 ne_b1_b10
  refine px_dup S13 at_101 rfl rfl ?_
  refine px_iconst (v := (3 : Int32)) S13 at_102 rfl rfl ?_
  refine px_lload S13 at_103 rfl rfl ?_
  refine px_bipush (v := (32 : Int32)) S13 at_105 rfl rfl ?_
  refine px_lushr S13 at_107 rfl ?_
  refine px_lastore S13 A_b10 g_b10 (i := 3) rfl (by decide) at_108 rfl (fun T14 h14 S14 W14 A_b10 => ?_)
  replace A_b1 := A_b1.other W14 ne_b1_b10
  refine px_dup S14 at_109 rfl rfl ?_
  refine px_iconst (v := (4 : Int32)) S14 at_110 rfl rfl ?_
  refine px_lload S14 at_111 rfl rfl ?_
  refine px_bipush (v := (32 : Int32)) S14 at_113 rfl rfl ?_
  refine px_lushr S14 at_115 rfl ?_
  refine px_lastore S14 A_b10 g_b10 (i := 4) rfl (by decide) at_116 rfl (fun T15 h15 S15 W15 A_b10 => ?_)
  replace A_b1 := A_b1.other W15 ne_b1_b10
  refine px_dup S15 at_117 rfl rfl ?_
  refine px_iconst (v := (5 : Int32)) S15 at_118 rfl rfl ?_
  refine px_lload S15 at_119 rfl rfl ?_
  refine px_lload S15 at_121 rfl rfl ?_
  refine px_land S15 at_123 rfl ?_
  refine px_lastore S15 A_b10 g_b10 (i := 5) rfl (by decide) at_124 rfl (fun T16 h16 S16 W16 A_b10 => ?_)
  replace A_b1 := A_b1.other W16 ne_b1_b10
  refine px_dup S16 at_125 rfl rfl ?_
  refine px_bipush (v := (6 : Int32)) S16 at_126 rfl rfl ?_
  refine px_lload S16 at_128 rfl rfl ?_
  refine px_bipush (v := (32 : Int32)) S16 at_130 rfl rfl ?_
  refine px_lushr S16 at_132 rfl ?_
  refine px_lastore S16 A_b10 g_b10 (i := 6) rfl (by decide) at_133 rfl (fun T17 h17 S17 W17 A_b10 => ?_)
  replace A_b1 := A_b1.other W17 ne_b1_b10
  refine px_dup S17 at_134 rfl rfl ?_
  refine px_bipush (v := (7 : Int32)) S17 at_135 rfl rfl ?_
  refine px_lload S17 at_137 rfl rfl ?_
  refine px_lload S17 at_139 rfl rfl ?_
  refine px_land S17 at_141 rfl ?_
  refine px_lastore S17 A_b10 g_b10 (i := 7) rfl (by decide) at_142 rfl (fun T18 h18 S18 W18 A_b10 => ?_)
  replace A_b1 := A_b1.other W18 ne_b1_b10
  refine px_astore S18 at_143 rfl rfl (L' := #[.val (.long i0), .second, .val (.long i1), .second, .val (.long i2), .second, .val (.long i3), .second, .val (.long i4), .second, .val (.long i5), .second, .val (.long (4294967295 : Int64)), .second, .val (.ref b1), .val (.ref b10), .unset, .unset, .unset, .unset]) rfl ?_
  refine px_bipush (v := (8 : Int32)) S18 at_145 rfl rfl ?_
  refine px_newarrJ (cap := 8) S18 (hw _ (List.mem_of_getElem? (i := 1) rfl)) (n := 8) rfl (by decide) (by decide) (by decide) (by decide) at_147 rfl (fun T19 h19 b19 z19 g_b19 S19 E19 A_b19 => ?_)
  have ne_b1_b19 : b1 ≠ b19 := ne_new z19 A_b1.lt
  have ne_b10_b19 : b10 ≠ b19 := ne_new z19 A_b10.lt
  replace A_b1 := A_b1.ext E19
  replace A_b10 := A_b10.ext E19
  refine px_dup S19 at_149 rfl rfl ?_
  refine px_iconst (v := (0 : Int32)) S19 at_150 rfl rfl ?_
  refine px_lload S19 at_151 rfl rfl ?_
  refine px_lload S19 at_153 rfl rfl ?_
  refine px_land S19 at_155 rfl ?_
  refine px_lastore S19 A_b19 g_b19 (i := 0) rfl (by decide) at_156 rfl (fun T20 h20 S20 W20 A_b19 => ?_)
  replace A_b1 := A_b1.other W20 ne_b1_b19
  replace A_b10 := A_b10.other W20 ne_b10_b19
  refine px_dup S20 at_157 rfl rfl ?_
  refine px_iconst (v := (1 : Int32)) S20 at_158 rfl rfl ?_
  refine px_lload S20 at_159 rfl rfl ?_
  refine px_bipush (v := (32 : Int32)) S20 at_161 rfl rfl ?_
  refine px_lushr S20 at_163 rfl ?_
  refine px_lastore S20 A_b19 g_b19 (i := 1) rfl (by decide) at_164 rfl (fun T21 h21 S21 W21 A_b19 => ?_)
  replace A_b1 := A_b1.other W21 ne_b1_b19
  replace A_b10 := A_b10.other W21 ne_b10_b19
  refine px_dup S21 at_165 rfl rfl ?_
  refine px_iconst (v := (2 : Int32)) S21 at_166 rfl rfl ?_
  refine px_lload S21 at_167 rfl rfl ?_
  refine px_lload S21 at_169 rfl rfl ?_
  refine px_land S21 at_171 rfl ?_
  refine px_lastore S21 A_b19 g_b19 (i := 2) rfl (by decide) at_172 rfl (fun T22 h22 S22 W22 A_b19 => ?_)
  replace A_b1 := A_b1.other W22 ne_b1_b19
  replace A_b10 := A_b10.other W22 ne_b10_b19
  refine px_dup S22 at_173 rfl rfl ?_
  refine px_iconst (v := (3 : Int32)) S22 at_174 rfl rfl ?_
  refine px_lload S22 at_175 rfl rfl ?_
  refine px_bipush (v := (32 : Int32)) S22 at_177 rfl rfl ?_
  refine px_lushr S22 at_179 rfl ?_
  refine px_lastore S22 A_b19 g_b19 (i := 3) rfl (by decide) at_180 rfl (fun T23 h23 S23 W23 A_b19 => ?_)
  replace A_b1 := A_b1.other W23 ne_b1_b19
  replace A_b10 := A_b10.other W23 ne_b10_b19
  refine px_dup S23 at_181 rfl rfl ?_
  refine px_iconst (v := (4 : Int32)) S23 at_182 rfl rfl ?_
  refine px_lload S23 at_183 rfl rfl ?_
  refine px_bipush (v := (32 : Int32)) S23 at_185 rfl rfl ?_
  refine px_lushr S23 at_187 rfl ?_
  refine px_lastore S23 A_b19 g_b19 (i := 4) rfl (by decide) at_188 rfl (fun T24 h24 S24 W24 A_b19 => ?_)
  replace A_b1 := A_b1.other W24 ne_b1_b19
  replace A_b10 := A_b10.other W24 ne_b10_b19
  refine px_dup S24 at_189 rfl rfl ?_
  refine px_iconst (v := (5 : Int32)) S24 at_190 rfl rfl ?_
  refine px_lload S24 at_191 rfl rfl ?_
  refine px_lload S24 at_193 rfl rfl ?_
  refine px_land S24 at_195 rfl ?_
  refine px_lastore S24 A_b19 g_b19 (i := 5) rfl (by decide) at_196 rfl (fun T25 h25 S25 W25 A_b19 => ?_)
  replace A_b1 := A_b1.other W25 ne_b1_b19
  replace A_b10 := A_b10.other W25 ne_b10_b19
  refine px_dup S25 at_197 rfl rfl ?_
  refine px_bipush (v := (6 : Int32)) S25 at_198 rfl rfl ?_
  refine px_lload S25 at_200 rfl rfl ?_
  refine px_bipush (v := (32 : Int32)) S25 at_202 rfl rfl ?_
  refine px_lushr S25 at_204 rfl ?_
  refine px_lastore S25 A_b19 g_b19 (i := 6) rfl (by decide) at_205 rfl (fun T26 h26 S26 W26 A_b19 => ?_)
  replace A_b1 := A_b1.other W26 ne_b1_b19
  replace A_b10 := A_b10.other W26 ne_b10_b19
  refine px_dup S26 at_206 rfl rfl ?_
  refine px_bipush (v := (7 : Int32)) S26 at_207 rfl rfl ?_
  refine px_lload S26 at_209 rfl rfl ?_
  refine px_lload S26 at_211 rfl rfl ?_
  refine px_land S26 at_213 rfl ?_
  refine px_lastore S26 A_b19 g_b19 (i := 7) rfl (by decide) at_214 rfl (fun T27 h27 S27 W27 A_b19 => ?_)
  replace A_b1 := A_b1.other W27 ne_b1_b19
  replace A_b10 := A_b10.other W27 ne_b10_b19
  refine px_astore S27 at_215 rfl rfl (L' := #[.val (.long i0), .second, .val (.long i1), .second, .val (.long i2), .second, .val (.long i3), .second, .val (.long i4), .second, .val (.long i5), .second, .val (.long (4294967295 : Int64)), .second, .val (.ref b1), .val (.ref b10), .val (.ref b19), .unset, .unset, .unset]) rfl ?_
  refine px_bipush (v := (8 : Int32)) S27 at_217 rfl rfl ?_
  refine px_newarrJ (cap := 8) S27 (hw _ (List.mem_of_getElem? (i := 1) rfl)) (n := 8) rfl (by decide) (by decide) (by decide) (by decide) at_219 rfl (fun T28 h28 b28 z28 g_b28 S28 E28 A_b28 => ?_)
  have ne_b1_b28 : b1 ≠ b28 := ne_new z28 A_b1.lt
  have ne_b10_b28 : b10 ≠ b28 := ne_new z28 A_b10.lt
  have ne_b19_b28 : b19 ≠ b28 := ne_new z28 A_b19.lt
  replace A_b1 := A_b1.ext E28
  replace A_b10 := A_b10.ext E28
  replace A_b19 := A_b19.ext E28
  refine px_astore S28 at_221 rfl rfl (L' := #[.val (.long i0), .second, .val (.long i1), .second, .val (.long i2), .second, .val (.long i3), .second, .val (.long i4), .second, .val (.long i5), .second, .val (.long (4294967295 : Int64)), .second, .val (.ref b1), .val (.ref b10), .val (.ref b19), .val (.ref b28), .unset, .unset]) rfl ?_
  refine px_bipush (v := (8 : Int32)) S28 at_223 rfl rfl ?_
  refine px_newarrJ (cap := 8) S28 (hw _ (List.mem_of_getElem? (i := 1) rfl)) (n := 8) rfl (by decide) (by decide) (by decide) (by decide) at_225 rfl (fun T29 h29 b29 z29 g_b29 S29 E29 A_b29 => ?_)
  have ne_b1_b29 : b1 ≠ b29 := ne_new z29 A_b1.lt
  have ne_b10_b29 : b10 ≠ b29 := ne_new z29 A_b10.lt
  have ne_b19_b29 : b19 ≠ b29 := ne_new z29 A_b19.lt
  have ne_b28_b29 : b28 ≠ b29 := ne_new z29 A_b28.lt
  replace A_b1 := A_b1.ext E29
  replace A_b10 := A_b10.ext E29
  replace A_b19 := A_b19.ext E29
  replace A_b28 := A_b28.ext E29
  refine px_dup S29 at_227 rfl rfl ?_
  refine px_iconst (v := (0 : Int32)) S29 at_228 rfl rfl ?_
  refine px_lload S29 at_229 rfl rfl ?_
  refine px_lastore S29 A_b29 g_b29 (i := 0) rfl (by decide) at_231 rfl (fun T30 h30 S30 W30 A_b29 => ?_)
  replace A_b1 := A_b1.other W30 ne_b1_b29
  replace A_b10 := A_b10.other W30 ne_b10_b29
  replace A_b19 := A_b19.other W30 ne_b19_b29
  replace A_b28 := A_b28.other W30 ne_b28_b29
  refine px_dup S30 at_232 rfl rfl ?_
  refine px_iconst (v := (1 : Int32)) S30 at_233 rfl rfl ?_
  refine px_lload S30 at_234 rfl rfl ?_
  refine px_lastore S30 A_b29 g_b29 (i := 1) rfl (by decide) at_236 rfl (fun T31 h31 S31 W31 A_b29 => ?_)
  replace A_b1 := A_b1.other W31 ne_b1_b29
  replace A_b10 := A_b10.other W31 ne_b10_b29
  replace A_b19 := A_b19.other W31 ne_b19_b29
  replace A_b28 := A_b28.other W31 ne_b28_b29
  refine px_dup S31 at_237 rfl rfl ?_
  refine px_iconst (v := (2 : Int32)) S31 at_238 rfl rfl ?_
  refine px_lload S31 at_239 rfl rfl ?_
  refine px_lastore S31 A_b29 g_b29 (i := 2) rfl (by decide) at_241 rfl (fun T32 h32 S32 W32 A_b29 => ?_)
  replace A_b1 := A_b1.other W32 ne_b1_b29
  replace A_b10 := A_b10.other W32 ne_b10_b29
  replace A_b19 := A_b19.other W32 ne_b19_b29
  replace A_b28 := A_b28.other W32 ne_b28_b29
  refine px_dup S32 at_242 rfl rfl ?_
  refine px_iconst (v := (3 : Int32)) S32 at_243 rfl rfl ?_
  refine px_lconst (v := (0 : Int64)) S32 at_244 rfl rfl ?_
  refine px_lastore S32 A_b29 g_b29 (i := 3) rfl (by decide) at_245 rfl (fun T33 h33 S33 W33 A_b29 => ?_)
  replace A_b1 := A_b1.other W33 ne_b1_b29
  replace A_b10 := A_b10.other W33 ne_b10_b29
  replace A_b19 := A_b19.other W33 ne_b19_b29
  replace A_b28 := A_b28.other W33 ne_b28_b29
  refine px_dup S33 at_246 rfl rfl ?_
  refine px_iconst (v := (4 : Int32)) S33 at_247 rfl rfl ?_
  refine px_lconst (v := (0 : Int64)) S33 at_248 rfl rfl ?_
  refine px_lastore S33 A_b29 g_b29 (i := 4) rfl (by decide) at_249 rfl (fun T34 h34 S34 W34 A_b29 => ?_)
  replace A_b1 := A_b1.other W34 ne_b1_b29
  replace A_b10 := A_b10.other W34 ne_b10_b29
  replace A_b19 := A_b19.other W34 ne_b19_b29
  replace A_b28 := A_b28.other W34 ne_b28_b29
  refine px_dup S34 at_250 rfl rfl ?_
  refine px_iconst (v := (5 : Int32)) S34 at_251 rfl rfl ?_
  refine px_lconst (v := (0 : Int64)) S34 at_252 rfl rfl ?_
  refine px_lastore S34 A_b29 g_b29 (i := 5) rfl (by decide) at_253 rfl (fun T35 h35 S35 W35 A_b29 => ?_)
  replace A_b1 := A_b1.other W35 ne_b1_b29
  replace A_b10 := A_b10.other W35 ne_b10_b29
  replace A_b19 := A_b19.other W35 ne_b19_b29
  replace A_b28 := A_b28.other W35 ne_b28_b29
  refine px_dup S35 at_254 rfl rfl ?_
  refine px_bipush (v := (6 : Int32)) S35 at_255 rfl rfl ?_
  refine px_lconst (v := (1 : Int64)) S35 at_257 rfl rfl ?_
  refine px_lastore S35 A_b29 g_b29 (i := 6) rfl (by decide) at_258 rfl (fun T36 h36 S36 W36 A_b29 => ?_)
  replace A_b1 := A_b1.other W36 ne_b1_b29
  replace A_b10 := A_b10.other W36 ne_b10_b29
  replace A_b19 := A_b19.other W36 ne_b19_b29
  replace A_b28 := A_b28.other W36 ne_b28_b29
  refine px_dup S36 at_259 rfl rfl ?_
  refine px_bipush (v := (7 : Int32)) S36 at_260 rfl rfl ?_
  refine px_lload S36 at_262 rfl rfl ?_
  refine px_lastore S36 A_b29 g_b29 (i := 7) rfl (by decide) at_264 rfl (fun T37 h37 S37 W37 A_b29 => ?_)
  replace A_b1 := A_b1.other W37 ne_b1_b29
  replace A_b10 := A_b10.other W37 ne_b10_b29
  replace A_b19 := A_b19.other W37 ne_b19_b29
  replace A_b28 := A_b28.other W37 ne_b28_b29
  refine px_astore S37 at_265 rfl rfl (L' := #[.val (.long i0), .second, .val (.long i1), .second, .val (.long i2), .second, .val (.long i3), .second, .val (.long i4), .second, .val (.long i5), .second, .val (.long (4294967295 : Int64)), .second, .val (.ref b1), .val (.ref b10), .val (.ref b19), .val (.ref b28), .val (.ref b29), .unset]) rfl ?_
  refine px_aload S37 at_267 rfl rfl rfl ?_
  refine px_aload S37 at_269 rfl rfl rfl ?_
  refine px_aload S37 at_271 rfl rfl rfl ?_
  have rg_0 : 0 ≤ (i0 &&& (4294967295 : Int64)).toInt ∧ (i0 &&& (4294967295 : Int64)).toInt < 4294967296 := (nz_i (by rw [f_lmask i0 (4294967295 : Int64) 32 4294967296 (by decide) (by decide) (by decide)]; exact ib_mod 4294967296 (by decide) (by decide) (by decide)))
  have rg_1 : 0 ≤ (ushrL i0 (32 : Int32)).toInt ∧ (ushrL i0 (32 : Int32)).toInt < 4294967296 := (nz_i (by rw [f_lushr i0 (32 : Int32) 32 4294967296 (by decide) (by decide) (by decide)]; exact ib_div 4294967296 (by decide) (ib_mod (lo := 0) (hi := 18446744073709551615) 18446744073709551616 (by decide) (by decide) (by decide)) (by decide) (by decide)))
  have rg_2 : 0 ≤ (i1 &&& (4294967295 : Int64)).toInt ∧ (i1 &&& (4294967295 : Int64)).toInt < 4294967296 := (nz_i (by rw [f_lmask i1 (4294967295 : Int64) 32 4294967296 (by decide) (by decide) (by decide)]; exact ib_mod 4294967296 (by decide) (by decide) (by decide)))
  have rg_3 : 0 ≤ (ushrL i1 (32 : Int32)).toInt ∧ (ushrL i1 (32 : Int32)).toInt < 4294967296 := (nz_i (by rw [f_lushr i1 (32 : Int32) 32 4294967296 (by decide) (by decide) (by decide)]; exact ib_div 4294967296 (by decide) (ib_mod (lo := 0) (hi := 18446744073709551615) 18446744073709551616 (by decide) (by decide) (by decide)) (by decide) (by decide)))
  have rg_4 : 0 ≤ (i2 &&& (4294967295 : Int64)).toInt ∧ (i2 &&& (4294967295 : Int64)).toInt < 4294967296 := (nz_i (by rw [f_lmask i2 (4294967295 : Int64) 32 4294967296 (by decide) (by decide) (by decide)]; exact ib_mod 4294967296 (by decide) (by decide) (by decide)))
  have rg_5 : 0 ≤ (ushrL i2 (32 : Int32)).toInt ∧ (ushrL i2 (32 : Int32)).toInt < 4294967296 := (nz_i (by rw [f_lushr i2 (32 : Int32) 32 4294967296 (by decide) (by decide) (by decide)]; exact ib_div 4294967296 (by decide) (ib_mod (lo := 0) (hi := 18446744073709551615) 18446744073709551616 (by decide) (by decide) (by decide)) (by decide) (by decide)))
  have rg_6 : 0 ≤ (i3 &&& (4294967295 : Int64)).toInt ∧ (i3 &&& (4294967295 : Int64)).toInt < 4294967296 := (nz_i (by rw [f_lmask i3 (4294967295 : Int64) 32 4294967296 (by decide) (by decide) (by decide)]; exact ib_mod 4294967296 (by decide) (by decide) (by decide)))
  have rg_7 : 0 ≤ (ushrL i3 (32 : Int32)).toInt ∧ (ushrL i3 (32 : Int32)).toInt < 4294967296 := (nz_i (by rw [f_lushr i3 (32 : Int32) 32 4294967296 (by decide) (by decide) (by decide)]; exact ib_div 4294967296 (by decide) (ib_mod (lo := 0) (hi := 18446744073709551615) 18446744073709551616 (by decide) (by decide) (by decide)) (by decide) (by decide)))
  have rg_8 : 0 ≤ (i4 &&& (4294967295 : Int64)).toInt ∧ (i4 &&& (4294967295 : Int64)).toInt < 4294967296 := (nz_i (by rw [f_lmask i4 (4294967295 : Int64) 32 4294967296 (by decide) (by decide) (by decide)]; exact ib_mod 4294967296 (by decide) (by decide) (by decide)))
  have rg_9 : 0 ≤ (ushrL i4 (32 : Int32)).toInt ∧ (ushrL i4 (32 : Int32)).toInt < 4294967296 := (nz_i (by rw [f_lushr i4 (32 : Int32) 32 4294967296 (by decide) (by decide) (by decide)]; exact ib_div 4294967296 (by decide) (ib_mod (lo := 0) (hi := 18446744073709551615) 18446744073709551616 (by decide) (by decide) (by decide)) (by decide) (by decide)))
  have rg_10 : 0 ≤ (i5 &&& (4294967295 : Int64)).toInt ∧ (i5 &&& (4294967295 : Int64)).toInt < 4294967296 := (nz_i (by rw [f_lmask i5 (4294967295 : Int64) 32 4294967296 (by decide) (by decide) (by decide)]; exact ib_mod 4294967296 (by decide) (by decide) (by decide)))
  have rg_11 : 0 ≤ (ushrL i5 (32 : Int32)).toInt ∧ (ushrL i5 (32 : Int32)).toInt < 4294967296 := (nz_i (by rw [f_lushr i5 (32 : Int32) 32 4294967296 (by decide) (by decide) (by decide)]; exact ib_div 4294967296 (by decide) (ib_mod (lo := 0) (hi := 18446744073709551615) 18446744073709551616 (by decide) (by decide) (by decide)) (by decide) (by decide)))
  refine px_callS (as' := [(.ref b1), (.ref b10), (.ref b28)]) (st := []) (W := 0) S37 (c_add (x0 := (i0 &&& (4294967295 : Int64))) (x1 := (ushrL i0 (32 : Int32))) (x2 := (i1 &&& (4294967295 : Int64))) (x3 := (ushrL i1 (32 : Int32))) (x4 := (i2 &&& (4294967295 : Int64))) (x5 := (ushrL i2 (32 : Int32))) (x6 := (i3 &&& (4294967295 : Int64))) (x7 := (ushrL i3 (32 : Int32))) (y0 := (i4 &&& (4294967295 : Int64))) (y1 := (ushrL i4 (32 : Int32))) (y2 := (i5 &&& (4294967295 : Int64))) (y3 := (ushrL i5 (32 : Int32))) (y4 := (ushrL i4 (32 : Int32))) (y5 := (i4 &&& (4294967295 : Int64))) (y6 := (ushrL i5 (32 : Int32))) (y7 := (i5 &&& (4294967295 : Int64))) hw S37.size A_b1 A_b10 A_b28 g_b28 rfl rfl rfl rfl rfl rfl rfl rfl rfl rfl rfl rfl rfl rfl rfl rfl rg_0 rg_1 rg_2 rg_3 rg_4 rg_5 rg_6 rg_7 rg_8 rg_9 rg_10 rg_11 rg_9 rg_8 rg_11 rg_10) (hw _ (List.mem_of_getElem? (i := 2) rfl)) (hw _ (List.mem_of_getElem? (i := 3) rfl)) (hw _ (List.mem_of_getElem? (i := 4) rfl)) (hw _ (List.mem_of_getElem? (i := 5) rfl)) (by decide) pd_0_0 rfl rfl (by decide) rfl (by decide) (by decide) (by decide) at_273 rfl rfl (fun T38 h38 v38 S38 q38 => ?_)
  obtain ⟨rfl, K38, g0, g1, g2, g3, g4, g5, g6, g7, A_b28, ⟨r_g0, r_g1, r_g2, r_g3, r_g4, r_g5, r_g6, r_g7⟩, v_g⟩ := q38
  show Go _ _ _ _ _ _ _ []
  replace A_b1 := A_b1.keep K38 (ninS ne_b1_b28 nin0)
  replace A_b10 := A_b10.keep K38 (ninS ne_b10_b28 nin0)
  replace A_b19 := A_b19.keep K38 (ninS ne_b19_b28 nin0)
  replace A_b29 := A_b29.keep K38 (ninS (Ne.symm ne_b28_b29) nin0)
  refine px_aload S38 at_276 rfl rfl rfl ?_
  refine px_aload S38 at_278 rfl rfl rfl ?_
  refine px_aload S38 at_280 rfl rfl rfl ?_
  refine px_callS (as' := [(.ref b19), (.ref b1), (.ref b19)]) (st := []) (W := 0) S38 (c_add (x0 := (i4 &&& (4294967295 : Int64))) (x1 := (ushrL i4 (32 : Int32))) (x2 := (i5 &&& (4294967295 : Int64))) (x3 := (ushrL i5 (32 : Int32))) (x4 := (ushrL i4 (32 : Int32))) (x5 := (i4 &&& (4294967295 : Int64))) (x6 := (ushrL i5 (32 : Int32))) (x7 := (i5 &&& (4294967295 : Int64))) (y0 := (i0 &&& (4294967295 : Int64))) (y1 := (ushrL i0 (32 : Int32))) (y2 := (i1 &&& (4294967295 : Int64))) (y3 := (ushrL i1 (32 : Int32))) (y4 := (i2 &&& (4294967295 : Int64))) (y5 := (ushrL i2 (32 : Int32))) (y6 := (i3 &&& (4294967295 : Int64))) (y7 := (ushrL i3 (32 : Int32))) hw S38.size A_b19 A_b1 A_b19 g_b19 rfl rfl rfl rfl rfl rfl rfl rfl rfl rfl rfl rfl rfl rfl rfl rfl rg_8 rg_9 rg_10 rg_11 rg_9 rg_8 rg_11 rg_10 rg_0 rg_1 rg_2 rg_3 rg_4 rg_5 rg_6 rg_7) (hw _ (List.mem_of_getElem? (i := 2) rfl)) (hw _ (List.mem_of_getElem? (i := 3) rfl)) (hw _ (List.mem_of_getElem? (i := 4) rfl)) (hw _ (List.mem_of_getElem? (i := 5) rfl)) (by decide) pd_0_0 rfl rfl (by decide) rfl (by decide) (by decide) (by decide) at_282 rfl rfl (fun T39 h39 v39 S39 q39 => ?_)
  obtain ⟨rfl, K39, k0, k1, k2, k3, k4, k5, k6, k7, A_b19, ⟨r_k0, r_k1, r_k2, r_k3, r_k4, r_k5, r_k6, r_k7⟩, v_k⟩ := q39
  show Go _ _ _ _ _ _ _ []
  replace A_b1 := A_b1.keep K39 (ninS ne_b1_b19 nin0)
  replace A_b10 := A_b10.keep K39 (ninS ne_b10_b19 nin0)
  replace A_b28 := A_b28.keep K39 (ninS (Ne.symm ne_b19_b28) nin0)
  replace A_b29 := A_b29.keep K39 (ninS (Ne.symm ne_b19_b29) nin0)
  refine px_aload S39 at_285 rfl rfl rfl ?_
  refine px_callS (as' := [(.ref b28)]) (st := []) (W := 0) S39 (c_rng (x0 := g0) (x1 := g1) (x2 := g2) (x3 := g3) (x4 := g4) (x5 := g5) (x6 := g6) (x7 := g7) hw S39.size A_b28 rfl rfl rfl rfl rfl rfl rfl rfl r_g0 r_g1 r_g2 r_g3 r_g4 r_g5 r_g6 r_g7) (hw _ (List.mem_of_getElem? (i := 10) rfl)) (hw _ (List.mem_of_getElem? (i := 11) rfl)) (hw _ (List.mem_of_getElem? (i := 12) rfl)) (hw _ (List.mem_of_getElem? (i := 13) rfl)) (by decide) pd_0_1 rfl rfl (by decide) rfl (by decide) (by decide) (by decide) at_287 rfl rfl (fun T40 h40 v40 S40 q40 => ?_)
  obtain ⟨rfl, rfl⟩ := q40
  show Go _ _ _ _ _ _ _ [(.int (1 : Int32))]
  refine px_if0 S40 at_290 (by decide) (pc' := 295) rfl rfl (fun (hc41 : ¬ (1 : Int32).toInt = 0) => ?_) (fun (hc41 : (1 : Int32).toInt = 0) => by exfalso; revert hc41; decide)
  refine px_aload S40 at_295 rfl rfl rfl ?_
  refine px_aload S40 at_297 rfl rfl rfl ?_
  refine px_callS (as' := [(.ref b28), (.ref b19)]) (st := []) (W := 0) S40 (c_same8 (x0 := g0) (x1 := g1) (x2 := g2) (x3 := g3) (x4 := g4) (x5 := g5) (x6 := g6) (x7 := g7) (y0 := k0) (y1 := k1) (y2 := k2) (y3 := k3) (y4 := k4) (y5 := k5) (y6 := k6) (y7 := k7) hw S40.size (by decide) A_b28 A_b19 rfl rfl rfl rfl rfl rfl rfl rfl rfl rfl rfl rfl rfl rfl rfl rfl) (hw _ (List.mem_of_getElem? (i := 14) rfl)) (hw _ (List.mem_of_getElem? (i := 15) rfl)) (hw _ (List.mem_of_getElem? (i := 12) rfl)) (hw _ (List.mem_of_getElem? (i := 16) rfl)) (by decide) pd_0_2 rfl rfl (by decide) rfl (by decide) (by decide) (by decide) at_299 rfl rfl (fun T42 h42 v42 S42 q42 => ?_)
  obtain ⟨rfl, q42⟩ := q42
  have hgk := dig8 ⟨r_g0, r_g1, r_g2, r_g3, r_g4, r_g5, r_g6, r_g7⟩ ⟨r_k0, r_k1, r_k2, r_k3, r_k4, r_k5, r_k6, r_k7⟩ (v_g.trans ((congrArg (fun z => fV (fV (fV z))) (Int.add_comm _ _)).trans v_k.symm))
  obtain rfl : v42 = some (.int 1) := q42.elim (fun q => q.2) (fun q => absurd hgk q.1)
  show Go _ _ _ _ _ _ _ [(.int (1 : Int32))]
  refine px_if0 S42 at_302 (by decide) (pc' := 307) rfl rfl (fun (hc43 : ¬ (1 : Int32).toInt = 0) => ?_) (fun (hc43 : (1 : Int32).toInt = 0) => by exfalso; revert hc43; decide)
  refine px_aload S42 at_307 rfl rfl rfl ?_
  refine px_aload S42 at_309 rfl rfl rfl ?_
  refine px_lconst (v := (1 : Int64)) S42 at_311 rfl rfl ?_
  refine px_callS (as' := [(.ref b1), (.ref b10), (.long (1 : Int64))]) (st := []) (W := 0) S42 (c_sc1 (x0 := (i0 &&& (4294967295 : Int64))) (x1 := (ushrL i0 (32 : Int32))) (x2 := (i1 &&& (4294967295 : Int64))) (x3 := (ushrL i1 (32 : Int32))) (x4 := (i2 &&& (4294967295 : Int64))) (x5 := (ushrL i2 (32 : Int32))) (x6 := (i3 &&& (4294967295 : Int64))) (x7 := (ushrL i3 (32 : Int32))) (y0 := (i4 &&& (4294967295 : Int64))) (y1 := (ushrL i4 (32 : Int32))) (y2 := (i5 &&& (4294967295 : Int64))) (y3 := (ushrL i5 (32 : Int32))) (y4 := (ushrL i4 (32 : Int32))) (y5 := (i4 &&& (4294967295 : Int64))) (y6 := (ushrL i5 (32 : Int32))) (y7 := (i5 &&& (4294967295 : Int64))) hw S42.size A_b1 A_b10 rfl rfl rfl rfl rfl rfl rfl rfl rfl rfl rfl rfl rfl rfl rfl rfl rg_0 rg_1 rg_2 rg_3 rg_4 rg_5 rg_6 rg_7 rg_8 rg_9 rg_10 rg_11 rg_9 rg_8 rg_11 rg_10) (hw _ (List.mem_of_getElem? (i := 17) rfl)) (hw _ (List.mem_of_getElem? (i := 18) rfl)) (hw _ (List.mem_of_getElem? (i := 12) rfl)) (hw _ (List.mem_of_getElem? (i := 19) rfl)) (by decide) pd_0_3 rfl rfl (by decide) rfl (by decide) (by decide) (by decide) at_312 rfl rfl (fun T44 h44 v44 S44 q44 => ?_)
  obtain ⟨b_s, s0, s1, s2, s3, s4, s5, s6, s7, s8, rfl, g_b_s, sz_b_s, K44, A_b_s, ⟨r_s0, r_s1, r_s2, r_s3, r_s4, r_s5, r_s6, r_s7⟩, v_s⟩ := q44
  have ne_b1_b_s : b1 ≠ b_s := ne_new' sz_b_s A_b1.lt
  have ne_b10_b_s : b10 ≠ b_s := ne_new' sz_b_s A_b10.lt
  have ne_b19_b_s : b19 ≠ b_s := ne_new' sz_b_s A_b19.lt
  have ne_b28_b_s : b28 ≠ b_s := ne_new' sz_b_s A_b28.lt
  have ne_b29_b_s : b29 ≠ b_s := ne_new' sz_b_s A_b29.lt
  replace A_b1 := A_b1.keep K44 nin0
  replace A_b10 := A_b10.keep K44 nin0
  replace A_b19 := A_b19.keep K44 nin0
  replace A_b28 := A_b28.keep K44 nin0
  replace A_b29 := A_b29.keep K44 nin0
  show Go _ _ _ _ _ _ _ [(.ref b_s)]
  refine px_astore S44 at_315 rfl rfl (L' := #[.val (.long i0), .second, .val (.long i1), .second, .val (.long i2), .second, .val (.long i3), .second, .val (.long i4), .second, .val (.long i5), .second, .val (.long (4294967295 : Int64)), .second, .val (.ref b1), .val (.ref b10), .val (.ref b19), .val (.ref b28), .val (.ref b29), .val (.ref b_s)]) rfl ?_
  refine px_aload S44 at_317 rfl rfl rfl ?_
  refine px_aload S44 at_319 rfl rfl rfl ?_
  refine px_aload S44 at_321 rfl rfl rfl ?_
  refine px_lconst (v := (0 : Int64)) S44 at_323 rfl rfl ?_
  have rg_28 : 0 ≤ (4294967295 : Int64).toInt ∧ (4294967295 : Int64).toInt < 4294967296 := (show 0 ≤ (4294967295 : Int64).toInt ∧ (4294967295 : Int64).toInt < 4294967296 from by decide)
  have rg_29 : 0 ≤ (0 : Int64).toInt ∧ (0 : Int64).toInt < 4294967296 := (show 0 ≤ (0 : Int64).toInt ∧ (0 : Int64).toInt < 4294967296 from by decide)
  have rg_30 : 0 ≤ (1 : Int64).toInt ∧ (1 : Int64).toInt < 4294967296 := (show 0 ≤ (1 : Int64).toInt ∧ (1 : Int64).toInt < 4294967296 from by decide)
  refine px_callS (as' := [(.ref b28), (.ref b29), (.long (0 : Int64))]) (st := [(.ref b_s)]) (W := 1) S44 (c_sc0 (x0 := g0) (x1 := g1) (x2 := g2) (x3 := g3) (x4 := g4) (x5 := g5) (x6 := g6) (x7 := g7) (y0 := (4294967295 : Int64)) (y1 := (4294967295 : Int64)) (y2 := (4294967295 : Int64)) (y3 := (0 : Int64)) (y4 := (0 : Int64)) (y5 := (0 : Int64)) (y6 := (1 : Int64)) (y7 := (4294967295 : Int64)) hw S44.size A_b28 A_b29 rfl rfl rfl rfl rfl rfl rfl rfl rfl rfl rfl rfl rfl rfl rfl rfl r_g0 r_g1 r_g2 r_g3 r_g4 r_g5 r_g6 r_g7 rg_28 rg_28 rg_28 rg_29 rg_29 rg_29 rg_30 rg_28) (hw _ (List.mem_of_getElem? (i := 17) rfl)) (hw _ (List.mem_of_getElem? (i := 18) rfl)) (hw _ (List.mem_of_getElem? (i := 12) rfl)) (hw _ (List.mem_of_getElem? (i := 19) rfl)) (by decide) pd_0_3 rfl rfl (by decide) rfl (by decide) (by decide) (by decide) at_324 rfl rfl (fun T45 h45 v45 S45 q45 => ?_)
  obtain ⟨b_t, t0, t1, t2, t3, t4, t5, t6, t7, t8, rfl, g_b_t, sz_b_t, K45, A_b_t, ⟨r_t0, r_t1, r_t2, r_t3, r_t4, r_t5, r_t6, r_t7⟩, v_t⟩ := q45
  have ne_b1_b_t : b1 ≠ b_t := ne_new' sz_b_t A_b1.lt
  have ne_b10_b_t : b10 ≠ b_t := ne_new' sz_b_t A_b10.lt
  have ne_b19_b_t : b19 ≠ b_t := ne_new' sz_b_t A_b19.lt
  have ne_b28_b_t : b28 ≠ b_t := ne_new' sz_b_t A_b28.lt
  have ne_b29_b_t : b29 ≠ b_t := ne_new' sz_b_t A_b29.lt
  have ne_b_s_b_t : b_s ≠ b_t := ne_new' sz_b_t A_b_s.lt
  replace A_b1 := A_b1.keep K45 nin0
  replace A_b10 := A_b10.keep K45 nin0
  replace A_b19 := A_b19.keep K45 nin0
  replace A_b28 := A_b28.keep K45 nin0
  replace A_b29 := A_b29.keep K45 nin0
  replace A_b_s := A_b_s.keep K45 nin0
  show Go _ _ _ _ _ _ _ [(.ref b_t), (.ref b_s)]
  refine px_callS (as' := [(.ref b_s), (.ref b_t)]) (st := []) (W := 0) S45 (c_same9 (x0 := s0) (x1 := s1) (x2 := s2) (x3 := s3) (x4 := s4) (x5 := s5) (x6 := s6) (x7 := s7) (x8 := s8) (y0 := t0) (y1 := t1) (y2 := t2) (y3 := t3) (y4 := t4) (y5 := t5) (y6 := t6) (y7 := t7) (y8 := t8) hw S45.size A_b_s A_b_t rfl rfl rfl rfl rfl rfl rfl rfl rfl rfl rfl rfl rfl rfl rfl rfl rfl rfl) (hw _ (List.mem_of_getElem? (i := 20) rfl)) (hw _ (List.mem_of_getElem? (i := 21) rfl)) (hw _ (List.mem_of_getElem? (i := 12) rfl)) (hw _ (List.mem_of_getElem? (i := 22) rfl)) (by decide) pd_0_2 rfl rfl (by decide) rfl (by decide) (by decide) (by decide) at_327 rfl rfl (fun T46 h46 v46 S46 q46 => ?_)
  obtain ⟨rfl, q46⟩ := q46
  rcases q46 with ⟨k8, k9, rfl⟩ | ⟨k9_t, rfl⟩
  · show Go _ _ _ _ _ _ _ [(.int (1 : Int32))]
    refine px_if0 S46 at_330 (by decide) (pc' := 367) rfl rfl (fun (hc47 : ¬ (1 : Int32).toInt = 0) => ?_) (fun (hc47 : (1 : Int32).toInt = 0) => by exfalso; revert hc47; decide)
    refine px_iconst (v := (1 : Int32)) S46 at_367 rfl rfl ?_
    refine px_goto S46 at_368 (by decide) (pc' := 372) rfl ?_
    exact px_retN (t := .boolean) (z' := (1 : Int32)) S46 at_372 rfl (by simp) rfl (by decide) (by decide) (rfl)
  · show Go _ _ _ _ _ _ _ [(.int (0 : Int32))]
    refine px_if0 S46 at_330 (by decide) (pc' := 367) rfl rfl (fun (hc48 : ¬ (0 : Int32).toInt = 0) => by exfalso; revert hc48; decide) (fun (hc48 : (0 : Int32).toInt = 0) => ?_)
    refine px_aload S46 at_333 rfl rfl rfl ?_
    refine px_aload S46 at_335 rfl rfl rfl ?_
    refine px_aload S46 at_337 rfl rfl rfl ?_
    refine px_lconst (v := (1 : Int64)) S46 at_339 rfl rfl ?_
    refine px_callS (as' := [(.ref b28), (.ref b29), (.long (1 : Int64))]) (st := [(.ref b_s)]) (W := 1) S46 (c_sc1 (x0 := g0) (x1 := g1) (x2 := g2) (x3 := g3) (x4 := g4) (x5 := g5) (x6 := g6) (x7 := g7) (y0 := (4294967295 : Int64)) (y1 := (4294967295 : Int64)) (y2 := (4294967295 : Int64)) (y3 := (0 : Int64)) (y4 := (0 : Int64)) (y5 := (0 : Int64)) (y6 := (1 : Int64)) (y7 := (4294967295 : Int64)) hw S46.size A_b28 A_b29 rfl rfl rfl rfl rfl rfl rfl rfl rfl rfl rfl rfl rfl rfl rfl rfl r_g0 r_g1 r_g2 r_g3 r_g4 r_g5 r_g6 r_g7 rg_28 rg_28 rg_28 rg_29 rg_29 rg_29 rg_30 rg_28) (hw _ (List.mem_of_getElem? (i := 17) rfl)) (hw _ (List.mem_of_getElem? (i := 18) rfl)) (hw _ (List.mem_of_getElem? (i := 12) rfl)) (hw _ (List.mem_of_getElem? (i := 19) rfl)) (by decide) pd_0_3 rfl rfl (by decide) rfl (by decide) (by decide) (by decide) at_340 rfl rfl (fun T49 h49 v49 S49 q49 => ?_)
    obtain ⟨b_u, u0, u1, u2, u3, u4, u5, u6, u7, u8, rfl, g_b_u, sz_b_u, K49, A_b_u, ⟨r_u0, r_u1, r_u2, r_u3, r_u4, r_u5, r_u6, r_u7⟩, v_u⟩ := q49
    have ne_b1_b_u : b1 ≠ b_u := ne_new' sz_b_u A_b1.lt
    have ne_b10_b_u : b10 ≠ b_u := ne_new' sz_b_u A_b10.lt
    have ne_b19_b_u : b19 ≠ b_u := ne_new' sz_b_u A_b19.lt
    have ne_b28_b_u : b28 ≠ b_u := ne_new' sz_b_u A_b28.lt
    have ne_b29_b_u : b29 ≠ b_u := ne_new' sz_b_u A_b29.lt
    have ne_b_s_b_u : b_s ≠ b_u := ne_new' sz_b_u A_b_s.lt
    have ne_b_t_b_u : b_t ≠ b_u := ne_new' sz_b_u A_b_t.lt
    replace A_b1 := A_b1.keep K49 nin0
    replace A_b10 := A_b10.keep K49 nin0
    replace A_b19 := A_b19.keep K49 nin0
    replace A_b28 := A_b28.keep K49 nin0
    replace A_b29 := A_b29.keep K49 nin0
    replace A_b_s := A_b_s.keep K49 nin0
    replace A_b_t := A_b_t.keep K49 nin0
    show Go _ _ _ _ _ _ _ [(.ref b_u), (.ref b_s)]
    refine px_callS (as' := [(.ref b_s), (.ref b_u)]) (st := []) (W := 0) S49 (c_same9 (x0 := s0) (x1 := s1) (x2 := s2) (x3 := s3) (x4 := s4) (x5 := s5) (x6 := s6) (x7 := s7) (x8 := s8) (y0 := u0) (y1 := u1) (y2 := u2) (y3 := u3) (y4 := u4) (y5 := u5) (y6 := u6) (y7 := u7) (y8 := u8) hw S49.size A_b_s A_b_u rfl rfl rfl rfl rfl rfl rfl rfl rfl rfl rfl rfl rfl rfl rfl rfl rfl rfl) (hw _ (List.mem_of_getElem? (i := 20) rfl)) (hw _ (List.mem_of_getElem? (i := 21) rfl)) (hw _ (List.mem_of_getElem? (i := 12) rfl)) (hw _ (List.mem_of_getElem? (i := 22) rfl)) (by decide) pd_0_2 rfl rfl (by decide) rfl (by decide) (by decide) (by decide) at_343 rfl rfl (fun T50 h50 v50 S50 q50 => ?_)
    obtain ⟨rfl, q50⟩ := q50
    rcases q50 with ⟨k8, k9, rfl⟩ | ⟨k9_u, rfl⟩
    · show Go _ _ _ _ _ _ _ [(.int (1 : Int32))]
      refine px_if0 S50 at_346 (by decide) (pc' := 367) rfl rfl (fun (hc51 : ¬ (1 : Int32).toInt = 0) => ?_) (fun (hc51 : (1 : Int32).toInt = 0) => by exfalso; revert hc51; decide)
      refine px_iconst (v := (1 : Int32)) S50 at_367 rfl rfl ?_
      refine px_goto S50 at_368 (by decide) (pc' := 372) rfl ?_
      exact px_retN (t := .boolean) (z' := (1 : Int32)) S50 at_372 rfl (by simp) rfl (by decide) (by decide) (rfl)
    · show Go _ _ _ _ _ _ _ [(.int (0 : Int32))]
      refine px_if0 S50 at_346 (by decide) (pc' := 367) rfl rfl (fun (hc52 : ¬ (0 : Int32).toInt = 0) => by exfalso; revert hc52; decide) (fun (hc52 : (0 : Int32).toInt = 0) => ?_)
      refine px_aload S50 at_349 rfl rfl rfl ?_
      refine px_aload S50 at_351 rfl rfl rfl ?_
      refine px_aload S50 at_353 rfl rfl rfl ?_
      refine px_ldc2 S50 (hw _ (List.mem_of_getElem? (i := 23) rfl)) at_355 rfl ?_
      refine px_callS (as' := [(.ref b28), (.ref b29), (.long (2 : Int64))]) (st := [(.ref b_s)]) (W := 1) S50 (c_sc2 (x0 := g0) (x1 := g1) (x2 := g2) (x3 := g3) (x4 := g4) (x5 := g5) (x6 := g6) (x7 := g7) (y0 := (4294967295 : Int64)) (y1 := (4294967295 : Int64)) (y2 := (4294967295 : Int64)) (y3 := (0 : Int64)) (y4 := (0 : Int64)) (y5 := (0 : Int64)) (y6 := (1 : Int64)) (y7 := (4294967295 : Int64)) hw S50.size A_b28 A_b29 rfl rfl rfl rfl rfl rfl rfl rfl rfl rfl rfl rfl rfl rfl rfl rfl r_g0 r_g1 r_g2 r_g3 r_g4 r_g5 r_g6 r_g7 rg_28 rg_28 rg_28 rg_29 rg_29 rg_29 rg_30 rg_28) (hw _ (List.mem_of_getElem? (i := 17) rfl)) (hw _ (List.mem_of_getElem? (i := 18) rfl)) (hw _ (List.mem_of_getElem? (i := 12) rfl)) (hw _ (List.mem_of_getElem? (i := 19) rfl)) (by decide) pd_0_3 rfl rfl (by decide) rfl (by decide) (by decide) (by decide) at_358 rfl rfl (fun T53 h53 v53 S53 q53 => ?_)
      obtain ⟨b_w, w0, w1, w2, w3, w4, w5, w6, w7, w8, rfl, g_b_w, sz_b_w, K53, A_b_w, ⟨r_w0, r_w1, r_w2, r_w3, r_w4, r_w5, r_w6, r_w7⟩, v_w⟩ := q53
      have ne_b1_b_w : b1 ≠ b_w := ne_new' sz_b_w A_b1.lt
      have ne_b10_b_w : b10 ≠ b_w := ne_new' sz_b_w A_b10.lt
      have ne_b19_b_w : b19 ≠ b_w := ne_new' sz_b_w A_b19.lt
      have ne_b28_b_w : b28 ≠ b_w := ne_new' sz_b_w A_b28.lt
      have ne_b29_b_w : b29 ≠ b_w := ne_new' sz_b_w A_b29.lt
      have ne_b_s_b_w : b_s ≠ b_w := ne_new' sz_b_w A_b_s.lt
      have ne_b_t_b_w : b_t ≠ b_w := ne_new' sz_b_w A_b_t.lt
      have ne_b_u_b_w : b_u ≠ b_w := ne_new' sz_b_w A_b_u.lt
      replace A_b1 := A_b1.keep K53 nin0
      replace A_b10 := A_b10.keep K53 nin0
      replace A_b19 := A_b19.keep K53 nin0
      replace A_b28 := A_b28.keep K53 nin0
      replace A_b29 := A_b29.keep K53 nin0
      replace A_b_s := A_b_s.keep K53 nin0
      replace A_b_t := A_b_t.keep K53 nin0
      replace A_b_u := A_b_u.keep K53 nin0
      show Go _ _ _ _ _ _ _ [(.ref b_w), (.ref b_s)]
      refine px_callS (as' := [(.ref b_s), (.ref b_w)]) (st := []) (W := 0) S53 (c_same9 (x0 := s0) (x1 := s1) (x2 := s2) (x3 := s3) (x4 := s4) (x5 := s5) (x6 := s6) (x7 := s7) (x8 := s8) (y0 := w0) (y1 := w1) (y2 := w2) (y3 := w3) (y4 := w4) (y5 := w5) (y6 := w6) (y7 := w7) (y8 := w8) hw S53.size A_b_s A_b_w rfl rfl rfl rfl rfl rfl rfl rfl rfl rfl rfl rfl rfl rfl rfl rfl rfl rfl) (hw _ (List.mem_of_getElem? (i := 20) rfl)) (hw _ (List.mem_of_getElem? (i := 21) rfl)) (hw _ (List.mem_of_getElem? (i := 12) rfl)) (hw _ (List.mem_of_getElem? (i := 22) rfl)) (by decide) pd_0_2 rfl rfl (by decide) rfl (by decide) (by decide) (by decide) at_361 rfl rfl (fun T54 h54 v54 S54 q54 => ?_)
      obtain ⟨rfl, q54⟩ := q54
      rcases q54 with ⟨k8, k9, rfl⟩ | ⟨k9_w, rfl⟩
      · show Go _ _ _ _ _ _ _ [(.int (1 : Int32))]
        refine px_if0 S54 at_364 (by decide) (pc' := 371) rfl rfl (fun (hc55 : (1 : Int32).toInt = 0) => by exfalso; revert hc55; decide) (fun (hc55 : ¬ (1 : Int32).toInt = 0) => ?_)
        refine px_iconst (v := (1 : Int32)) S54 at_367 rfl rfl ?_
        refine px_goto S54 at_368 (by decide) (pc' := 372) rfl ?_
        exact px_retN (t := .boolean) (z' := (1 : Int32)) S54 at_372 rfl (by simp) rfl (by decide) (by decide) (rfl)
      · show Go _ _ _ _ _ _ _ [(.int (0 : Int32))]
        exfalso
        have hP : (4294967295 : Int64).toInt + (4294967295 : Int64).toInt * 4294967296 + (4294967295 : Int64).toInt * 18446744073709551616 + (0 : Int64).toInt * 79228162514264337593543950336 + (0 : Int64).toInt * 340282366920938463463374607431768211456 + (0 : Int64).toInt * 1461501637330902918203684832716283019655932542976 + (1 : Int64).toInt * 6277101735386680763835789423207666416102355444464034512896 + (4294967295 : Int64).toInt * 26959946667150639794667015087019630673637144422540572481103610249216 = 115792089210356248762697446949407573530086143415290314195533631308867097853951 := by decide
        have hS := vs0 (vb rg_0 rg_1 rg_2 rg_3 rg_4 rg_5 rg_6 rg_7) (vb rg_8 rg_9 rg_10 rg_11 rg_9 rg_8 rg_11 rg_10)
        rcases f3 hS.1 hS.2 with e | e | e
        · exact k9_t (dig9 ⟨r_s0, r_s1, r_s2, r_s3, r_s4, r_s5, r_s6, r_s7⟩ ⟨r_t0, r_t1, r_t2, r_t3, r_t4, r_t5, r_t6, r_t7⟩ (l0 v_s v_t (v_g.trans e)))
        · exact k9_u (dig9 ⟨r_s0, r_s1, r_s2, r_s3, r_s4, r_s5, r_s6, r_s7⟩ ⟨r_u0, r_u1, r_u2, r_u3, r_u4, r_u5, r_u6, r_u7⟩ (l1 v_s v_u hP (v_g.trans e)))
        · exact k9_w (dig9 ⟨r_s0, r_s1, r_s2, r_s3, r_s4, r_s5, r_s6, r_s7⟩ ⟨r_w0, r_w1, r_w2, r_w3, r_w4, r_w5, r_w6, r_w7⟩ (l2 v_s v_w hP (v_g.trans e)))
set_option maxRecDepth 65536 in
set_option maxHeartbeats 40000000 in
theorem comes_1 {Post : Tables → Env → Array Value → State → Outcome → State → Prop} (hpost : ∀ tb e args s v u, (limb_1_1.after args s (.returned v) u = true ∧ limb_1_2.after args s (.returned v) u = true ∧ True) → FrameEnd s (.returned v) u (Jvm.fieldLocs frame_1_writes args s ++ Jvm.arrayLocs frame_1_arrays args s ++ Jvm.staticLocs frame_1_statics s) 32 256 → Post tb e args s (.returned v) u) :
    ArmFor flags0 classFile x code maxLocals ret World_1 tables_1 room_1 Calls_1 rest_1 Pre_1 Post := by
  intro l hfl _ _ p e ha hc hk s m args below hf hA hF happ hP
  obtain ⟨hcalls, hrest, hpre⟩ := hP
  obtain ⟨-, -, -, hnamed, -, -, -, hat⟩ := (Spec.applies_iff hf).mp happ
  obtain ⟨hg, hn⟩ := and_e (Cond.before_iff.mp (show (Jvm.Cond.and given_1 narrow_1).before args s = true from hpre))
  obtain ⟨hcount, hg0⟩ := and_e hg
  obtain ⟨ha0, hg1⟩ := and_e hg0
  obtain ⟨ha1, hg2⟩ := and_e hg1
  obtain ⟨ha2, hg3⟩ := and_e hg2
  obtain ⟨ha3, hg4⟩ := and_e hg3
  obtain ⟨ha4, hg5⟩ := and_e hg4
  obtain ⟨w0, w1, w2, w3, w4, w5, rfl⟩ : ∃ w0 w1 w2 w3 w4 w5 : Value, args = #[w0, w1, w2, w3, w4, w5] := by
    have hs : args.size = 6 := by simpa [Cond.value, given_1] using hcount
    obtain ⟨L⟩ := args
    match L, hs with
    | [w0, w1, w2, w3, w4, w5], _ => exact ⟨w0, w1, w2, w3, w4, w5, rfl⟩
  have hw := fun d (hd : d ∈ tables_1) => atoms_spec (ws := Jvm.Cond.code x code maxLocals ret :: tables_1) hat d (List.mem_cons_of_mem _ hd)
  obtain ⟨i0, ei0⟩ := isL_v ha0
  obtain rfl : w0 = (.long i0) := Option.some.inj ei0
  obtain ⟨i1, ei1⟩ := isL_v ha1
  obtain rfl : w1 = (.long i1) := Option.some.inj ei1
  obtain ⟨i2, ei2⟩ := isL_v ha2
  obtain rfl : w2 = (.long i2) := Option.some.inj ei2
  obtain ⟨i3, ei3⟩ := isL_v ha3
  obtain rfl : w3 = (.long i3) := Option.some.inj ei3
  obtain ⟨i4, ei4⟩ := isL_v ha4
  obtain rfl : w4 = (.long i4) := Option.some.inj ei4
  obtain ⟨i5, ei5⟩ := isL_v hg5
  obtain rfl : w5 = (.long i5) := Option.some.inj ei5
  obtain ⟨n, o, h1, h2, h3, _, L, rfl, ⟨rfl, N⟩, hq⟩ := law_ctr (Z := s) hw i0 i1 i2 i3 i4 i5 (Nat.le_refl _) l tables_1 p e ha hc hk s m _ below hf ((Spec.applies_iff_loose hf).mp happ).1 ⟨rfl, State.Warmed39.refl s, rfl⟩ trivial
  refine ⟨n, _, h1, h2, h3, hpost _ _ _ _ _ _ ⟨Cond.after_iff.mpr rfl, Cond.after_iff.mpr (eq_i res_at (Term.int_eval (1)) rfl), trivial⟩ ⟨hq.1, hq.2.1, (hq.2.2.sift fun y hy => Or.inr (N y hy)).mono (Nat.le_refl _) (Nat.le_refl _)⟩⟩
theorem main_1_1 : Claimed_1_1 := comes_1 fun _ _ _ _ _ _ h hF => ⟨h.1, hF⟩
theorem main_1_2 : Claimed_1_2 := comes_1 fun _ _ _ _ _ _ h hF => ⟨h.2.1, hF⟩
end Jvm.Pilot.@@N@@
namespace Jvm.Pilot.@@N@@
open Jvm Jvm.ClassFile Sem Op Lib Jvm.Free Jvm.Stand Jvm.Pilot.@@N@@.Jvm.D
/-! MADE BY PROGRAM (witnessworld.py) out of the Statement's table words and the real class files: 11 classes; the members and pool entries that the words name. The judged class is class 1, her method 1. -/
namespace start1
open Jvm.ClassFile
def u (s : String) : CpInfo := .utf8 (stringToUtf16 s)
/-- a pool by its gaps: so many unusable entries, then the entry; so many at the end -/
def gap : Nat → List CpInfo → List CpInfo
  | 0, r => r
  | n + 1, r => .unusable :: gap n r
def poolList (es : List (Nat × CpInfo)) (last : Nat) : List CpInfo := es.foldr (fun e r => gap e.1 (e.2 :: r)) (gap last [])
def pool (es : List (Nat × CpInfo)) (last : Nat) : Array CpInfo := ⟨poolList es last⟩
def fileOf (pool : Array CpInfo) (this : Nat) (attrs : Array Attribute := #[]) (ms : Array MethodInfo := #[]) (fl : Nat := 33) (sup : Nat := 0) (ifs : Array Nat := #[]) (fds : Array FieldInfo := #[]) : ClassFile where
  minorVersion := 0
  majorVersion := 65
  constantPool := pool
  accessFlags := fl
  thisClass := this
  superClass := sup
  interfaces := ifs
  fields := fds
  methods := ms
  attributes := attrs
def plain (name : String) (sup : Option ClassId) : Class where
  name := name
  kind := .ordinary
  loader := none
  accessFlags := 33
  super := sup
  interfaces := #[]
  cf := none
  fields := #[]
  methods := #[]
  instanceTypes := #[]
  staticTypes := #[]
  resolved := #[]
  callSites := []
  init := .initialized
  statics := none
  mirror := none

def pool0 : Array CpInfo := pool [(5, u "<init>"), (0, u "()V"), (1, .class_ 10), (1, u "java/lang/Object")] 113

def k0m0 : Method := { name := "<init>", desc := "()V", sig := { parameters := [], returnType := none }, accessFlags := 1, code := none }
/-- java/lang/Object -/
def k0 : Class := { plain "java/lang/Object" none with
  accessFlags := 33
  interfaces := #[]
  cf := some (fileOf pool0 8 #[] #[{ accessFlags := 1, nameIndex := 5, descriptorIndex := 6, attributes := #[] }] 33 0 #[] #[])
  fields := #[]
  methods := #[k0m0]
  instanceTypes := #[]
  staticTypes := #[]
  resolved := Array.replicate 124 none
  statics := none }

def pool1 : Array CpInfo := pool [(2, .class_ 4), (1, u "java/lang/Object"), (0, u "<init>"), (0, u "()V"), (0, .long 4294967295), (1, .methodref 10 11), (0, .class_ 12), (0, .nameAndType 13 14), (0, u "com/example/gatewarden/gatewarden/P256Field"), (0, u "add"), (0, u "([J[J[J)V"), (0, .methodref 16 17), (0, .class_ 18), (0, .nameAndType 19 20), (0, u "com/example/gatewarden/gatewarden/P256FieldAddPinLaw"), (0, u "inRange"), (0, u "([J)Z"), (0, .methodref 16 22), (0, .nameAndType 23 24), (0, u "same8"), (0, u "([J[J)Z"), (0, .methodref 16 26), (0, .nameAndType 27 28), (0, u "addScaled"), (0, u "([J[JJ)[J"), (0, .methodref 16 30), (0, .nameAndType 31 24), (0, u "same9"), (0, .long 2), (3, u "law"), (0, u "(JJJJJJ)Z")] 5

def k1m0 : Method := { name := "<init>", desc := "()V", sig := { parameters := [], returnType := none }, accessFlags := 2, code := none }
def k1c1 : Code := { maxStack := 7, maxLocals := 20, code := code, exceptionTable := #[], attributes := #[] }
def k1m1 : Method := { name := "law", desc := "(JJJJJJ)Z", sig := { parameters := [.long, .long, .long, .long, .long, .long], returnType := some .boolean }, accessFlags := 9, code := some k1c1 }
def k1c2 : Code := { maxStack := 4, maxLocals := 3, code := method_3_code, exceptionTable := #[], attributes := #[] }
def k1m2 : Method := { name := "inRange", desc := "([J)Z", sig := { parameters := [(.array .long)], returnType := some .boolean }, accessFlags := 10, code := some k1c2 }
def k1c3 : Code := { maxStack := 6, maxLocals := 9, code := method_4_code, exceptionTable := #[], attributes := #[] }
def k1m3 : Method := { name := "addScaled", desc := "([J[JJ)[J", sig := { parameters := [(.array .long), (.array .long), .long], returnType := some (.array .long) }, accessFlags := 10, code := some k1c3 }
def k1c4 : Code := { maxStack := 4, maxLocals := 2, code := method_5_code, exceptionTable := #[], attributes := #[] }
def k1m4 : Method := { name := "same8", desc := "([J[J)Z", sig := { parameters := [(.array .long), (.array .long)], returnType := some .boolean }, accessFlags := 10, code := some k1c4 }
def k1c5 : Code := { maxStack := 4, maxLocals := 2, code := method_6_code, exceptionTable := #[], attributes := #[] }
def k1m5 : Method := { name := "same9", desc := "([J[J)Z", sig := { parameters := [(.array .long), (.array .long)], returnType := some .boolean }, accessFlags := 10, code := some k1c5 }
/-- com/example/gatewarden/gatewarden/P256FieldAddPinLaw -/
def k1 : Class := { plain "com/example/gatewarden/gatewarden/P256FieldAddPinLaw" (some 0) with
  accessFlags := 49
  interfaces := #[]
  cf := some (fileOf pool1 16 #[] #[{ accessFlags := 2, nameIndex := 5, descriptorIndex := 6, attributes := #[] }, { accessFlags := 9, nameIndex := 36, descriptorIndex := 37, attributes := #[] }, { accessFlags := 10, nameIndex := 19, descriptorIndex := 20, attributes := #[] }, { accessFlags := 10, nameIndex := 27, descriptorIndex := 28, attributes := #[] }, { accessFlags := 10, nameIndex := 23, descriptorIndex := 24, attributes := #[] }, { accessFlags := 10, nameIndex := 31, descriptorIndex := 24, attributes := #[] }] 49 2 #[] #[])
  fields := #[]
  methods := #[k1m0, k1m1, k1m2, k1m3, k1m4, k1m5]
  instanceTypes := #[]
  staticTypes := #[]
  resolved := Array.replicate 43 none
  statics := none }

def pool2 : Array CpInfo := pool [(2, .class_ 4), (1, u "java/lang/Object"), (0, u "<init>"), (0, u "()V"), (7, .class_ 16), (1, u "com/example/gatewarden/gatewarden/P256Field"), (0, u "P"), (0, u "Ljava/math/BigInteger;"), (19, .long 4294967295), (24, .methodref 14 64), (0, .nameAndType 65 66), (0, u "normalize"), (0, u "(JJJJJJJJ[J)V"), (9, u "P_MINUS_TWO"), (13, u "([J[J[J)V"), (25, u "LIMBS"), (0, u "I"), (2, u "LIMB"), (0, u "J"), (7, u "add")] 8

def k2m0 : Method := { name := "<init>", desc := "()V", sig := { parameters := [], returnType := none }, accessFlags := 2, code := none }
def k2c1 : Code := { maxStack := 18, maxLocals := 3, code := prog_24_method_6_code, exceptionTable := #[], attributes := #[] }
def k2m1 : Method := { name := "add", desc := "([J[J[J)V", sig := { parameters := [(.array .long), (.array .long), (.array .long)], returnType := none }, accessFlags := 8, code := some k2c1 }
def k2c2 : Code := { maxStack := 5, maxLocals := 19, code := prog_24_method_14_code, exceptionTable := #[], attributes := #[] }
def k2m2 : Method := { name := "normalize", desc := "(JJJJJJJJ[J)V", sig := { parameters := [.long, .long, .long, .long, .long, .long, .long, .long, (.array .long)], returnType := none }, accessFlags := 10, code := some k2c2 }
/-- com/example/gatewarden/gatewarden/P256Field -/
def k2 : Class := { plain "com/example/gatewarden/gatewarden/P256Field" (some 0) with
  accessFlags := 48
  interfaces := #[]
  cf := some (fileOf pool2 14 #[] #[{ accessFlags := 2, nameIndex := 5, descriptorIndex := 6, attributes := #[] }, { accessFlags := 8, nameIndex := 129, descriptorIndex := 90, attributes := #[] }, { accessFlags := 10, nameIndex := 65, descriptorIndex := 66, attributes := #[] }] 48 2 #[] #[{ accessFlags := 24, nameIndex := 17, descriptorIndex := 18, attributes := #[] }, { accessFlags := 24, nameIndex := 116, descriptorIndex := 117, attributes := #[] }, { accessFlags := 26, nameIndex := 120, descriptorIndex := 121, attributes := #[] }, { accessFlags := 26, nameIndex := 76, descriptorIndex := 18, attributes := #[] }])
  fields := #[{ name := "P", type := (.object "java/math/BigInteger"), accessFlags := 24, slot := 0, constantValue := 0 }, { name := "LIMBS", type := .int, accessFlags := 24, slot := 1, constantValue := 0 }, { name := "LIMB", type := .long, accessFlags := 26, slot := 2, constantValue := 0 }, { name := "P_MINUS_TWO", type := (.object "java/math/BigInteger"), accessFlags := 26, slot := 3, constantValue := 0 }]
  methods := #[k2m0, k2m1, k2m2]
  instanceTypes := #[]
  staticTypes := #[(.object "java/math/BigInteger"), .int, .long, (.object "java/math/BigInteger")]
  resolved := Array.replicate 138 none
  statics := none }

def pool3 : Array CpInfo := pool [(1, u "java/lang/Cloneable"), (0, .class_ 1), (0, u "java/lang/Object"), (0, .class_ 3)] 3

/-- java/lang/Cloneable -/
def k3 : Class := { plain "java/lang/Cloneable" (some 0) with
  accessFlags := 1537
  interfaces := #[]
  cf := some (fileOf pool3 2 #[] #[] 1537 4 #[] #[])
  fields := #[]
  methods := #[]
  instanceTypes := #[]
  staticTypes := #[]
  resolved := Array.replicate 8 none
  statics := none }

def pool4 : Array CpInfo := pool [(1, u "java/io/Serializable"), (0, .class_ 1), (0, u "java/lang/Object"), (0, .class_ 3)] 3

/-- java/io/Serializable -/
def k4 : Class := { plain "java/io/Serializable" (some 0) with
  accessFlags := 1537
  interfaces := #[]
  cf := some (fileOf pool4 2 #[] #[] 1537 4 #[] #[])
  fields := #[]
  methods := #[]
  instanceTypes := #[]
  staticTypes := #[]
  resolved := Array.replicate 8 none
  statics := none }

/-- the primitive byte -/
def k5 : Class := { plain "byte" none with kind := .primitive 'B', accessFlags := 0x411 }
/-- [B -/
def k6 : Class := { plain "[B" (some 0) with kind := .array 5 .byte, interfaces := #[3, 4], accessFlags := 1041 }

/-- the primitive int -/
def k7 : Class := { plain "int" none with kind := .primitive 'I', accessFlags := 0x411 }
/-- [I -/
def k8 : Class := { plain "[I" (some 0) with kind := .array 7 .int, interfaces := #[3, 4], accessFlags := 1041 }

/-- the primitive long -/
def k9 : Class := { plain "long" none with kind := .primitive 'J', accessFlags := 0x411 }
/-- [J -/
def k10 : Class := { plain "[J" (some 0) with kind := .array 9 .long, interfaces := #[3, 4], accessFlags := 1041 }

def heap : Heap := #[]
def classes : Array Class := #[k0, k1, k2, k3, k4, k5, k6, k7, k8, k9, k10]
def interned : List (Array UInt16 × Addr) := []
def slotsUsed : Nat := 0
def theMethod : MethodId := ⟨1, 1⟩
def args0 : Array Value := #[.long 5, .long 5, .long 5, .long 5, .long 5, .long 5]
def aboutOver (below : List Frame) : State where
  vm := { classes := classes, interned := interned.toArray }
  heap := heap
  slotsUsed := slotsUsed
  threads := #[{ frames := .invoking theMethod args0 :: below }]
def below0 : List Frame := [.native { method := ⟨0, 0⟩, args := #[] }]
def about1 : State := aboutOver below0
def p0 : Program := .bare "" "" ""
def e0 : Env := launch0.env 0 0 0
theorem w_frames : about1.frames = Frame.invoking theMethod args0 :: below0 := rfl
set_option maxRecDepth 65536 in
theorem w_args : argsFit about1.vm theMethod args0 = true := by decide +kernel
set_option maxRecDepth 65536 in
theorem w_heap : heapFits about1 = true := by decide +kernel
set_option maxRecDepth 65536 in
theorem w_runnable : about1.curStatus? = some .runnable := by decide +kernel
set_option maxRecDepth 65536 in
theorem w_alone : about1.alone = true := by decide +kernel
set_option maxRecDepth 65536 in
theorem w_named : about1.methodNamed? x = some theMethod := by decide +kernel
set_option maxRecDepth 65536 in
theorem w_hears : about1.hears theMethod below0 = true := by decide +kernel
set_option maxRecDepth 65536 in
theorem w_ripe : about1.ripe theMethod args0 below0 = true := by decide +kernel
theorem w_running : about1.status = .running := rfl
set_option maxRecDepth 65536 in
theorem w_room : about1.hasRoom e0.platform room_1 = true :=
  launch0.hasRoom_least _ room_1 (by decide +kernel) (by decide +kernel) (by decide +kernel) (by decide +kernel) (by decide +kernel) (by decide +kernel)
theorem allAtoms_all (ts : List Jvm.Cond) (a : Array Jvm.Value) (st : Jvm.State) : (allAtoms ts).before a st = ts.all (fun c => c.before a st) := by
  induction ts with
  | nil => rfl
  | cons c t ih =>
    show (Jvm.Cond.and c (allAtoms t)).before a st = _
    rw [Jvm.Cond.before_and, ih, List.all_cons]
def words1 : List Jvm.Cond := Jvm.Cond.code x code maxLocals ret :: tables_1
/-- a 'code' word, met by the world's own term for the bytes: nothing is compared byte by byte -/
theorem code_word {y : MethodName} {bytes : ByteArray} {mx : Nat} {rt : Option FieldType} {a : Array Value} {s : State} {m : MethodId} {meth : Method} {c : Code} (h1 : s.methodNamed? y = some m) (h2 : s.vm.method? m = some meth) (h3 : meth.code = some c) (h4 : c.code = bytes)
    (h5 : (c.maxLocals == mx && c.exceptionTable.isEmpty && decide (c.maxStack ≤ mostOperands) && decide (meth.sig.returnType = rt) && !meth.locks && decide (parseMethodDescriptor y.desc = some meth.sig)) = true) : (Jvm.Cond.code y bytes mx rt).before a s = true := by
  simp only [Bool.and_eq_true, beq_iff_eq, Bool.not_eq_true', decide_eq_true_eq] at h5
  obtain ⟨⟨⟨⟨⟨g1, g2⟩, g3⟩, g4⟩, g5⟩, g6⟩ := h5
  simp [Cond.before, Cond.holds, Cond.value, h1, h2, h3, h4, g1, g2, g3, g4, g5, g6]
def isCode : Jvm.Cond → Bool
  | .code _ _ _ _ => true
  | _ => false
theorem all_split {L : List Jvm.Cond} {P : Jvm.Cond → Bool} (h1 : L.all (fun c => isCode c || P c) = true) (h2 : ∀ c ∈ L.filter isCode, P c = true) : L.all P = true := by
  refine List.all_eq_true.mpr fun c hc => ?_
  have h := List.all_eq_true.mp h1 c hc
  rcases Bool.eq_false_or_eq_true (isCode c) with hi | hi
  · exact h2 c (List.mem_filter.mpr ⟨hc, hi⟩)
  · simpa [hi] using h
set_option maxRecDepth 65536 in
theorem w_c0 : (Jvm.Cond.code x code maxLocals ret).before args0 about1 = true := code_word (m := ⟨1, 1⟩) (meth := k1m1) (c := k1c1) (by decide +kernel) rfl rfl rfl (by decide +kernel)
set_option maxRecDepth 65536 in
theorem w_c1 : (Jvm.Cond.code ({ cls := "com/example/gatewarden/gatewarden/P256Field", name := "add", desc := "([J[J[J)V" } : Jvm.MethodName) prog_24_method_6_code (3 : Nat) (Option.none : Option Jvm.ClassFile.FieldType)).before args0 about1 = true := code_word (m := ⟨2, 1⟩) (meth := k2m1) (c := k2c1) (by decide +kernel) rfl rfl rfl (by decide +kernel)
set_option maxRecDepth 65536 in
theorem w_c2 : (Jvm.Cond.code ({ cls := "com/example/gatewarden/gatewarden/P256Field", name := "normalize", desc := "(JJJJJJJJ[J)V" } : Jvm.MethodName) prog_24_method_14_code (19 : Nat) (Option.none : Option Jvm.ClassFile.FieldType)).before args0 about1 = true := code_word (m := ⟨2, 2⟩) (meth := k2m2) (c := k2c2) (by decide +kernel) rfl rfl rfl (by decide +kernel)
set_option maxRecDepth 65536 in
theorem w_c3 : (Jvm.Cond.code ({ cls := "com/example/gatewarden/gatewarden/P256FieldAddPinLaw", name := "inRange", desc := "([J)Z" } : Jvm.MethodName) method_3_code (3 : Nat) (Option.some Jvm.ClassFile.FieldType.boolean)).before args0 about1 = true := code_word (m := ⟨1, 2⟩) (meth := k1m2) (c := k1c2) (by decide +kernel) rfl rfl rfl (by decide +kernel)
set_option maxRecDepth 65536 in
theorem w_c4 : (Jvm.Cond.code ({ cls := "com/example/gatewarden/gatewarden/P256FieldAddPinLaw", name := "same8", desc := "([J[J)Z" } : Jvm.MethodName) method_5_code (2 : Nat) (Option.some Jvm.ClassFile.FieldType.boolean)).before args0 about1 = true := code_word (m := ⟨1, 4⟩) (meth := k1m4) (c := k1c4) (by decide +kernel) rfl rfl rfl (by decide +kernel)
set_option maxRecDepth 65536 in
theorem w_c5 : (Jvm.Cond.code ({ cls := "com/example/gatewarden/gatewarden/P256FieldAddPinLaw", name := "addScaled", desc := "([J[JJ)[J" } : Jvm.MethodName) method_4_code (9 : Nat) (Option.some (Jvm.ClassFile.FieldType.array Jvm.ClassFile.FieldType.long))).before args0 about1 = true := code_word (m := ⟨1, 3⟩) (meth := k1m3) (c := k1c3) (by decide +kernel) rfl rfl rfl (by decide +kernel)
set_option maxRecDepth 65536 in
theorem w_c6 : (Jvm.Cond.code ({ cls := "com/example/gatewarden/gatewarden/P256FieldAddPinLaw", name := "same9", desc := "([J[J)Z" } : Jvm.MethodName) method_6_code (2 : Nat) (Option.some Jvm.ClassFile.FieldType.boolean)).before args0 about1 = true := code_word (m := ⟨1, 5⟩) (meth := k1m5) (c := k1c5) (by decide +kernel) rfl rfl rfl (by decide +kernel)
def codes1 : List Jvm.Cond := [Jvm.Cond.code x code maxLocals ret, Jvm.Cond.code ({ cls := "com/example/gatewarden/gatewarden/P256Field", name := "add", desc := "([J[J[J)V" } : Jvm.MethodName) prog_24_method_6_code (3 : Nat) (Option.none : Option Jvm.ClassFile.FieldType), Jvm.Cond.code ({ cls := "com/example/gatewarden/gatewarden/P256Field", name := "normalize", desc := "(JJJJJJJJ[J)V" } : Jvm.MethodName) prog_24_method_14_code (19 : Nat) (Option.none : Option Jvm.ClassFile.FieldType), Jvm.Cond.code ({ cls := "com/example/gatewarden/gatewarden/P256FieldAddPinLaw", name := "inRange", desc := "([J)Z" } : Jvm.MethodName) method_3_code (3 : Nat) (Option.some Jvm.ClassFile.FieldType.boolean), Jvm.Cond.code ({ cls := "com/example/gatewarden/gatewarden/P256FieldAddPinLaw", name := "same8", desc := "([J[J)Z" } : Jvm.MethodName) method_5_code (2 : Nat) (Option.some Jvm.ClassFile.FieldType.boolean), Jvm.Cond.code ({ cls := "com/example/gatewarden/gatewarden/P256FieldAddPinLaw", name := "addScaled", desc := "([J[JJ)[J" } : Jvm.MethodName) method_4_code (9 : Nat) (Option.some (Jvm.ClassFile.FieldType.array Jvm.ClassFile.FieldType.long)), Jvm.Cond.code ({ cls := "com/example/gatewarden/gatewarden/P256FieldAddPinLaw", name := "same9", desc := "([J[J)Z" } : Jvm.MethodName) method_6_code (2 : Nat) (Option.some Jvm.ClassFile.FieldType.boolean)]
set_option maxRecDepth 65536 in
theorem codes_eq : words1.filter isCode = codes1 := rfl
theorem w_codes : ∀ c ∈ words1.filter isCode, c.before args0 about1 = true := by
  rw [codes_eq]
  intro c hc
  simp only [codes1, List.mem_cons, List.not_mem_nil, or_false] at hc
  rcases hc with rfl | rfl | rfl | rfl | rfl | rfl | rfl
  · exact w_c0
  · exact w_c1
  · exact w_c2
  · exact w_c3
  · exact w_c4
  · exact w_c5
  · exact w_c6
set_option maxRecDepth 65536 in
theorem w_t1 : (words1.take 24).all (fun c => isCode c || c.before args0 about1) = true := by decide +kernel
set_option maxRecDepth 65536 in
theorem w_t2 : (words1.drop 24).all (fun c => isCode c || c.before args0 about1) = true := by decide +kernel
theorem w_tables : (allAtoms (Jvm.Cond.code x code maxLocals ret :: tables_1)).before args0 about1 = true := by
  rw [allAtoms_all]
  show words1.all (fun c => c.before args0 about1) = true
  refine all_split ?_ w_codes
  rw [← List.take_append_drop 24 words1, List.all_append, w_t1, w_t2]
  rfl
set_option maxRecDepth 65536 in
theorem w_case : (Jvm.Cond.and given_1 narrow_1).before args0 about1 = true := by decide +kernel
theorem w_applies : (headSpec (Jvm.Cond.code x code maxLocals ret :: tables_1) room_1).applies x e0.platform about1 = true :=
  (Spec.applies_iff w_frames).mpr ⟨w_running, w_runnable, w_alone, w_named, w_hears, w_ripe, w_room, w_tables⟩
theorem atStart : AtStart classFile x code maxLocals ret World_1 tables_1 room_1 Calls_1 rest_1 Pre_1 launch0 p0 e0 about1 theMethod args0 below0 :=
  ⟨lists_1, trivial, launch0.admits_env _ _ _, launch0.least_env, fairChoices_fair.cas, fairChoices_fair.clock, w_frames, w_args, w_heap, w_applies, trivial, trivial, w_case⟩
end start1
theorem witness_1 : WitnessClaimed_1 := ⟨start1.p0, start1.e0, start1.about1, start1.theMethod, start1.args0, start1.below0, start1.atStart⟩
end Jvm.Pilot.@@N@@
