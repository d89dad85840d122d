import JvmDerived
import JvmDerived.Pilot.@@N@@Statement
import JvmDerived.Pilot.@@N@@Code
set_option linter.unusedVariables false
set_option linter.unusedSimpArgs false
namespace Jvm.OwnK
open Sem ClassFile Op Lib Jvm.Stand Jvm.Free Jvm.LawKit Jvm.RoadKit
def Ctx : Type := Program × Launch × Env × State × MethodId × Array Value × List Frame × Method × Code
def Ctx.p (K : Ctx) : Program := K.1
def Ctx.l (K : Ctx) : Launch := K.2.1
def Ctx.e (K : Ctx) : Env := K.2.2.1
def Ctx.s (K : Ctx) : State := K.2.2.2.1
def Ctx.m (K : Ctx) : MethodId := K.2.2.2.2.1
def Ctx.args (K : Ctx) : Array Value := K.2.2.2.2.2.1
def Ctx.below (K : Ctx) : List Frame := K.2.2.2.2.2.2.1
def Ctx.meth (K : Ctx) : Method := K.2.2.2.2.2.2.2.1
def Ctx.c (K : Ctx) : Code := K.2.2.2.2.2.2.2.2
/-- from here the run ends by a return that answers Q -/
def Go (K : Ctx) (R : Room) (n0 : Nat) (Q : Option Value → Heap → Prop) (T : State) (pc : Nat) (L : Array Slot) (st : List Value) : Prop :=
  ∃ (s₂ : State) (o : Outcome), Steps K.p.tables K.e K.below (T.setTop (mkF K.m pc L st)) s₂ ∧ s₂.status = .running ∧ Ended s₂ K.below o ∧
    ∃ (v : Option Value) (Lc : List Loc), o = .returned v ∧ (Q v s₂.heap ∧ Fr n0 Lc) ∧ FrameEnd K.s o s₂ Lc R.cells R.slots
/-- where the run stands -/
def St (K : Ctx) (Z : State) (R : Room) (y : MethodName) (bytes : ByteArray) (maxL : Nat) (ret : Option FieldType) (n0 : Nat) (T : State) (h : Heap) (cells slots : Nat) : Prop :=
  (∃ locs, Stand K.p K.l K.e R K.s K.m K.args K.below K.meth K.c T locs cells slots ∧ Fr n0 locs) ∧ T.heap = h ∧ n0 ≤ K.s.heap.size ∧ K.p.tables.exec = Jvm.exec ∧ Z.Warmed39 K.s.vm ∧ K.c.code = bytes ∧ K.c.maxLocals = maxL ∧
    K.meth.sig.returnType = ret ∧ K.meth.locks = false ∧ K.s.vm.findClass y.cls = some K.m.cls ∧ K.meth.name = y.name
/-- what a body does, called with the arguments as' at the heap h -/
def Ctr (Z : State) (n0 : Nat) (y : MethodName) (bytes : ByteArray) (maxL : Nat) (ret : Option FieldType) (R : Room) (as' : List Value) (h : Heap) (Q : Option Value → Heap → Prop) : Prop :=
  ∀ (l : Launch) (ws : List Jvm.Cond), MetFree l y (head1 (Jvm.Cond.code y bytes maxL ret :: ws) R) (fun a U => a = as'.toArray ∧ Z.Warmed39 U.vm ∧ U.heap = h) (fun _ _ _ _ _ => True)
    (fun _ U o U' => ∃ v L, o = .returned v ∧ (Q v U'.heap ∧ Fr n0 L) ∧ FrameEnd U o U' L R.cells R.slots)
section Kit
variable {K : Ctx} {Z : State} {R : Room} {y : MethodName} {bytes : ByteArray} {maxL : Nat} {ret : Option FieldType} {n0 : Nat} {T : State} {h : Heap} {cl sl : Nat} {Q : Option Value → Heap → Prop} {pc pc' : Nat} {L L' : Array Slot} {st : List Value} {a0 : Array Value}
theorem Go.step {T' : State} {st' : List Value} (hs : ∀ target, Steps K.p.tables K.e K.below (T'.setTop (mkF K.m pc' L' st')) target → Steps K.p.tables K.e K.below (T.setTop (mkF K.m pc L st)) target) (k : Go K R n0 Q T' pc' L' st') : Go K R n0 Q T pc L st := by
  obtain ⟨s₂, o, h1, r⟩ := k
  exact ⟨s₂, o, hs _ h1, r⟩
theorem St.size (S : St K Z R y bytes maxL ret n0 T h cl sl) : n0 ≤ h.size := by
  obtain ⟨⟨locs, X, hF⟩, e0, hn, -⟩ := S
  have q : K.s.heap.size ≤ T.heap.size := X.same.2.1
  rw [← e0]; exact Nat.le_trans hn q
theorem St.more (S : St K Z R y bytes maxL ret n0 T h cl sl) {cl' sl' : Nat} (h1 : cl ≤ cl') (h2 : sl ≤ sl') : St K Z R y bytes maxL ret n0 T h cl' sl' := by
  obtain ⟨⟨locs, X, hF⟩, r⟩ := S
  exact ⟨⟨locs, X.more h1 h2, hF⟩, r⟩
theorem Ctr.of {as' : List Value} (hpl : plainFor y = true) (hn : n0 ≤ h.size) (hef : ∀ m, entryFrame m as'.toArray maxL = mkF m 0 L []) (body : ∀ (K : Ctx) (T : State), St K Z R y bytes maxL ret n0 T h 0 0 → Go K R n0 Q T 0 L []) : Ctr Z n0 y bytes maxL ret R as' h Q := by
  intro l ws
  refine MetFree.of_bodySF hpl hisR ?_
  intro p e s m args below meth c s₁ Bd hml0 hP hK
  obtain ⟨rfl, hZ, hh⟩ := hP
  have e0 : s₁.heap = h := by rw [← hh, Bd.state]; rfl
  have X0 : Stand p l e R s m as'.toArray below meth c s₁ [] 0 0 := Stand.of_body Bd
  obtain ⟨s₂, o, h1, h2, h3, h4⟩ := body (p, l, e, s, m, as'.toArray, below, meth, c) s₁ ⟨⟨[], X0, Fr.nil _⟩, e0, by rw [← hh] at hn; exact hn, Bd.exec, hZ, Bd.bytes, hml0, Bd.returns, BodyLoose.notSynchronized Bd, findClass_of_methodNamed Bd.named, (name_of_methodNamed Bd.named Bd.method).1⟩
  exact ⟨s₂, o, castTop (hef m) h1, h2, h3, h4⟩
theorem Ctr.imp {as' : List Value} {Q' : Option Value → Heap → Prop} (C : Ctr Z n0 y bytes maxL ret R as' h Q) (hq : ∀ v h', Q v h' → Q' v h') : Ctr Z n0 y bytes maxL ret R as' h Q' := by
  intro l ws p e ha hc hk s m args below hf happ hP hK
  obtain ⟨n, o, h1, h2, h3, v, L, e1, ⟨e2, e3⟩, e4⟩ := C l ws p e ha hc hk s m args below hf happ hP hK
  exact ⟨n, o, h1, h2, h3, v, L, e1, ⟨hq _ _ e2, e3⟩, e4⟩

theorem px_iload (S : St K Z R y bytes maxL ret n0 T h cl sl) {k : Nat} {v : Int32} (hd : decode bytes pc = .ok (.iload k, 2)) (hp : pc + 2 = pc') (hl : L[k]? = some (.val (.int v))) (k : Go K R n0 Q T pc' L (.int v :: st)) : Go K R n0 Q T pc L st := by
  subst hp
  obtain ⟨⟨locs, X, hF⟩, e0, hn0, hx, hZ, hby, hml, hret, hlk, hown, hnm⟩ := S
  exact Go.step (fun _ t => XS.iload X.here hx rfl (hb hby hd) hl t) k
theorem px_iloadN (S : St K Z R y bytes maxL ret n0 T h cl sl) {k : Fin 4} {v : Int32} (hd : decode bytes pc = .ok (.iload_n k, 1)) (hp : pc + 1 = pc') (hl : L[k.val]? = some (.val (.int v))) (k : Go K R n0 Q T pc' L (.int v :: st)) : Go K R n0 Q T pc L st := by
  subst hp
  obtain ⟨⟨locs, X, hF⟩, e0, hn0, hx, hZ, hby, hml, hret, hlk, hown, hnm⟩ := S
  exact Go.step (fun _ t => XS.iloadN X.here hx rfl (hb hby hd) hl t) k
theorem px_lload (S : St K Z R y bytes maxL ret n0 T h cl sl) {k : Nat} {v : Int64} (hd : decode bytes pc = .ok (.lload k, 2)) (hp : pc + 2 = pc') (hl : L[k]? = some (.val (.long v))) (k : Go K R n0 Q T pc' L (.long v :: st)) : Go K R n0 Q T pc L st := by
  subst hp
  obtain ⟨⟨locs, X, hF⟩, e0, hn0, hx, hZ, hby, hml, hret, hlk, hown, hnm⟩ := S
  exact Go.step (fun _ t => XS.lload X.here hx rfl (hb hby hd) hl t) k
theorem px_lloadN (S : St K Z R y bytes maxL ret n0 T h cl sl) {k : Fin 4} {v : Int64} (hd : decode bytes pc = .ok (.lload_n k, 1)) (hp : pc + 1 = pc') (hl : L[k.val]? = some (.val (.long v))) (k : Go K R n0 Q T pc' L (.long v :: st)) : Go K R n0 Q T pc L st := by
  subst hp
  obtain ⟨⟨locs, X, hF⟩, e0, hn0, hx, hZ, hby, hml, hret, hlk, hown, hnm⟩ := S
  exact Go.step (fun _ t => XS.lloadN X.here hx rfl (hb hby hd) hl t) k
theorem px_aload (S : St K Z R y bytes maxL ret n0 T h cl sl) {k : Nat} {v : Value} (hd : decode bytes pc = .ok (.aload k, 2)) (hp : pc + 2 = pc') (hl : L[k]? = some (.val v)) (hv : v.isRef = true) (k : Go K R n0 Q T pc' L (v :: st)) : Go K R n0 Q T pc L st := by
  subst hp
  obtain ⟨⟨locs, X, hF⟩, e0, hn0, hx, hZ, hby, hml, hret, hlk, hown, hnm⟩ := S
  exact Go.step (fun _ t => XS.aload X.here hx rfl (hb hby hd) hl hv t) k
theorem px_aloadN (S : St K Z R y bytes maxL ret n0 T h cl sl) {k : Fin 4} {v : Value} (hd : decode bytes pc = .ok (.aload_n k, 1)) (hp : pc + 1 = pc') (hl : L[k.val]? = some (.val v)) (hv : v.isRef = true) (k : Go K R n0 Q T pc' L (v :: st)) : Go K R n0 Q T pc L st := by
  subst hp
  obtain ⟨⟨locs, X, hF⟩, e0, hn0, hx, hZ, hby, hml, hret, hlk, hown, hnm⟩ := S
  exact Go.step (fun _ t => XS.aloadN X.here hx rfl (hb hby hd) hl hv t) k
theorem px_istore (S : St K Z R y bytes maxL ret n0 T h cl sl) {k : Nat} {v : Int32} (hd : decode bytes pc = .ok (.istore k, 2)) (hp : pc + 2 = pc') (hl : storeLocals L k (.int v) = some L') (k : Go K R n0 Q T pc' L' st) : Go K R n0 Q T pc L (.int v :: st) := by
  subst hp
  obtain ⟨⟨locs, X, hF⟩, e0, hn0, hx, hZ, hby, hml, hret, hlk, hown, hnm⟩ := S
  exact Go.step (fun _ t => XS.istore X.here hx rfl (hb hby hd) rfl hl t) k
theorem px_istoreN (S : St K Z R y bytes maxL ret n0 T h cl sl) {k : Fin 4} {v : Int32} (hd : decode bytes pc = .ok (.istore_n k, 1)) (hp : pc + 1 = pc') (hl : storeLocals L k.val (.int v) = some L') (k : Go K R n0 Q T pc' L' st) : Go K R n0 Q T pc L (.int v :: st) := by
  subst hp
  obtain ⟨⟨locs, X, hF⟩, e0, hn0, hx, hZ, hby, hml, hret, hlk, hown, hnm⟩ := S
  exact Go.step (fun _ t => XS.istoreN X.here hx rfl (hb hby hd) rfl hl t) k
theorem px_lstore (S : St K Z R y bytes maxL ret n0 T h cl sl) {k : Nat} {v : Int64} (hd : decode bytes pc = .ok (.lstore k, 2)) (hp : pc + 2 = pc') (hl : storeLocals L k (.long v) = some L') (k : Go K R n0 Q T pc' L' st) : Go K R n0 Q T pc L (.long v :: st) := by
  subst hp
  obtain ⟨⟨locs, X, hF⟩, e0, hn0, hx, hZ, hby, hml, hret, hlk, hown, hnm⟩ := S
  exact Go.step (fun _ t => XS.lstore X.here hx rfl (hb hby hd) rfl hl t) k
theorem px_lstoreN (S : St K Z R y bytes maxL ret n0 T h cl sl) {k : Fin 4} {v : Int64} (hd : decode bytes pc = .ok (.lstore_n k, 1)) (hp : pc + 1 = pc') (hl : storeLocals L k.val (.long v) = some L') (k : Go K R n0 Q T pc' L' st) : Go K R n0 Q T pc L (.long v :: st) := by
  subst hp
  obtain ⟨⟨locs, X, hF⟩, e0, hn0, hx, hZ, hby, hml, hret, hlk, hown, hnm⟩ := S
  exact Go.step (fun _ t => XS.lstoreN X.here hx rfl (hb hby hd) rfl hl t) k
theorem px_astore (S : St K Z R y bytes maxL ret n0 T h cl sl) {k : Nat} {v : Value} (hd : decode bytes pc = .ok (.astore k, 2)) (hp : pc + 2 = pc') (hv : v.isRef = true) (hl : storeLocals L k v = some L') (k : Go K R n0 Q T pc' L' st) : Go K R n0 Q T pc L (v :: st) := by
  subst hp
  obtain ⟨⟨locs, X, hF⟩, e0, hn0, hx, hZ, hby, hml, hret, hlk, hown, hnm⟩ := S
  exact Go.step (fun _ t => XS.astore X.here hx rfl (hb hby hd) rfl hv hl t) k
theorem px_astoreN (S : St K Z R y bytes maxL ret n0 T h cl sl) {k : Fin 4} {v : Value} (hd : decode bytes pc = .ok (.astore_n k, 1)) (hp : pc + 1 = pc') (hv : v.isRef = true) (hl : storeLocals L k.val v = some L') (k : Go K R n0 Q T pc' L' st) : Go K R n0 Q T pc L (v :: st) := by
  subst hp
  obtain ⟨⟨locs, X, hF⟩, e0, hn0, hx, hZ, hby, hml, hret, hlk, hown, hnm⟩ := S
  exact Go.step (fun _ t => XS.astoreN X.here hx rfl (hb hby hd) rfl hv hl t) k
theorem px_iconst (S : St K Z R y bytes maxL ret n0 T h cl sl) {i : Int} {v : Int32} (hd : decode bytes pc = .ok (.iconst i, 1)) (hp : pc + 1 = pc') (hv : Int32.ofInt i = v) (k : Go K R n0 Q T pc' L (.int v :: st)) : Go K R n0 Q T pc L st := by
  subst hp
  obtain ⟨⟨locs, X, hF⟩, e0, hn0, hx, hZ, hby, hml, hret, hlk, hown, hnm⟩ := S
  exact Go.step (fun _ t => XS.iconst X.here hx rfl (hb hby hd) (by rw [hv]; exact t)) k
theorem px_bipush (S : St K Z R y bytes maxL ret n0 T h cl sl) {i : Int} {v : Int32} (hd : decode bytes pc = .ok (.bipush i, 2)) (hp : pc + 2 = pc') (hv : (Int8.ofInt i).toInt32 = v) (k : Go K R n0 Q T pc' L (.int v :: st)) : Go K R n0 Q T pc L st := by
  subst hp
  obtain ⟨⟨locs, X, hF⟩, e0, hn0, hx, hZ, hby, hml, hret, hlk, hown, hnm⟩ := S
  exact Go.step (fun _ t => XS.bipush X.here hx rfl (hb hby hd) (by rw [hv]; exact t)) k
theorem px_sipush (S : St K Z R y bytes maxL ret n0 T h cl sl) {i : Int} {v : Int32} (hd : decode bytes pc = .ok (.sipush i, 3)) (hp : pc + 3 = pc') (hv : (Int16.ofInt i).toInt32 = v) (k : Go K R n0 Q T pc' L (.int v :: st)) : Go K R n0 Q T pc L st := by
  subst hp
  obtain ⟨⟨locs, X, hF⟩, e0, hn0, hx, hZ, hby, hml, hret, hlk, hown, hnm⟩ := S
  exact Go.step (fun _ t => XS.sipush X.here hx rfl (hb hby hd) (by rw [hv]; exact t)) k
theorem px_lconst (S : St K Z R y bytes maxL ret n0 T h cl sl) {i : Fin 2} {v : Int64} (hd : decode bytes pc = .ok (.lconst i, 1)) (hp : pc + 1 = pc') (hv : Int64.ofNat i = v) (k : Go K R n0 Q T pc' L (.long v :: st)) : Go K R n0 Q T pc L st := by
  subst hp
  obtain ⟨⟨locs, X, hF⟩, e0, hn0, hx, hZ, hby, hml, hret, hlk, hown, hnm⟩ := S
  exact Go.step (fun _ t => XS.lconst X.here hx rfl (hb hby hd) (by rw [hv]; exact t)) k
theorem px_aconstNull (S : St K Z R y bytes maxL ret n0 T h cl sl) (hd : decode bytes pc = .ok (.aconst_null, 1)) (hp : pc + 1 = pc') (k : Go K R n0 Q T pc' L (.null :: st)) : Go K R n0 Q T pc L st := by
  subst hp
  obtain ⟨⟨locs, X, hF⟩, e0, hn0, hx, hZ, hby, hml, hret, hlk, hown, hnm⟩ := S
  exact Go.step (fun _ t => XS.aconstNull X.here hx rfl (hb hby hd) t) k
theorem px_iadd (S : St K Z R y bytes maxL ret n0 T h cl sl) {u v : Int32} (hd : decode bytes pc = .ok (.iadd, 1)) (hp : pc + 1 = pc') (k : Go K R n0 Q T pc' L (.int (u + v) :: st)) : Go K R n0 Q T pc L (.int v :: .int u :: st) := by
  subst hp
  obtain ⟨⟨locs, X, hF⟩, e0, hn0, hx, hZ, hby, hml, hret, hlk, hown, hnm⟩ := S
  exact Go.step (fun _ t => XS.iadd X.here hx rfl (hb hby hd) rfl t) k
theorem px_ladd (S : St K Z R y bytes maxL ret n0 T h cl sl) {u v : Int64} (hd : decode bytes pc = .ok (.ladd, 1)) (hp : pc + 1 = pc') (k : Go K R n0 Q T pc' L (.long (u + v) :: st)) : Go K R n0 Q T pc L (.long v :: .long u :: st) := by
  subst hp
  obtain ⟨⟨locs, X, hF⟩, e0, hn0, hx, hZ, hby, hml, hret, hlk, hown, hnm⟩ := S
  exact Go.step (fun _ t => XS.ladd X.here hx rfl (hb hby hd) rfl t) k
theorem px_isub (S : St K Z R y bytes maxL ret n0 T h cl sl) {u v : Int32} (hd : decode bytes pc = .ok (.isub, 1)) (hp : pc + 1 = pc') (k : Go K R n0 Q T pc' L (.int (u - v) :: st)) : Go K R n0 Q T pc L (.int v :: .int u :: st) := by
  subst hp
  obtain ⟨⟨locs, X, hF⟩, e0, hn0, hx, hZ, hby, hml, hret, hlk, hown, hnm⟩ := S
  exact Go.step (fun _ t => XS.isub X.here hx rfl (hb hby hd) rfl t) k
theorem px_lsub (S : St K Z R y bytes maxL ret n0 T h cl sl) {u v : Int64} (hd : decode bytes pc = .ok (.lsub, 1)) (hp : pc + 1 = pc') (k : Go K R n0 Q T pc' L (.long (u - v) :: st)) : Go K R n0 Q T pc L (.long v :: .long u :: st) := by
  subst hp
  obtain ⟨⟨locs, X, hF⟩, e0, hn0, hx, hZ, hby, hml, hret, hlk, hown, hnm⟩ := S
  exact Go.step (fun _ t => XS.lsub X.here hx rfl (hb hby hd) rfl t) k
theorem px_imul (S : St K Z R y bytes maxL ret n0 T h cl sl) {u v : Int32} (hd : decode bytes pc = .ok (.imul, 1)) (hp : pc + 1 = pc') (k : Go K R n0 Q T pc' L (.int (u * v) :: st)) : Go K R n0 Q T pc L (.int v :: .int u :: st) := by
  subst hp
  obtain ⟨⟨locs, X, hF⟩, e0, hn0, hx, hZ, hby, hml, hret, hlk, hown, hnm⟩ := S
  exact Go.step (fun _ t => XS.imul X.here hx rfl (hb hby hd) rfl t) k
theorem px_lmul (S : St K Z R y bytes maxL ret n0 T h cl sl) {u v : Int64} (hd : decode bytes pc = .ok (.lmul, 1)) (hp : pc + 1 = pc') (k : Go K R n0 Q T pc' L (.long (u * v) :: st)) : Go K R n0 Q T pc L (.long v :: .long u :: st) := by
  subst hp
  obtain ⟨⟨locs, X, hF⟩, e0, hn0, hx, hZ, hby, hml, hret, hlk, hown, hnm⟩ := S
  exact Go.step (fun _ t => XS.lmul X.here hx rfl (hb hby hd) rfl t) k
theorem px_iand (S : St K Z R y bytes maxL ret n0 T h cl sl) {u v : Int32} (hd : decode bytes pc = .ok (.iand, 1)) (hp : pc + 1 = pc') (k : Go K R n0 Q T pc' L (.int (u &&& v) :: st)) : Go K R n0 Q T pc L (.int v :: .int u :: st) := by
  subst hp
  obtain ⟨⟨locs, X, hF⟩, e0, hn0, hx, hZ, hby, hml, hret, hlk, hown, hnm⟩ := S
  exact Go.step (fun _ t => XS.iand X.here hx rfl (hb hby hd) rfl t) k
theorem px_land (S : St K Z R y bytes maxL ret n0 T h cl sl) {u v : Int64} (hd : decode bytes pc = .ok (.land, 1)) (hp : pc + 1 = pc') (k : Go K R n0 Q T pc' L (.long (u &&& v) :: st)) : Go K R n0 Q T pc L (.long v :: .long u :: st) := by
  subst hp
  obtain ⟨⟨locs, X, hF⟩, e0, hn0, hx, hZ, hby, hml, hret, hlk, hown, hnm⟩ := S
  exact Go.step (fun _ t => XS.land X.here hx rfl (hb hby hd) rfl t) k
theorem px_ior (S : St K Z R y bytes maxL ret n0 T h cl sl) {u v : Int32} (hd : decode bytes pc = .ok (.ior, 1)) (hp : pc + 1 = pc') (k : Go K R n0 Q T pc' L (.int (u ||| v) :: st)) : Go K R n0 Q T pc L (.int v :: .int u :: st) := by
  subst hp
  obtain ⟨⟨locs, X, hF⟩, e0, hn0, hx, hZ, hby, hml, hret, hlk, hown, hnm⟩ := S
  exact Go.step (fun _ t => XS.ior X.here hx rfl (hb hby hd) rfl t) k
theorem px_lor (S : St K Z R y bytes maxL ret n0 T h cl sl) {u v : Int64} (hd : decode bytes pc = .ok (.lor, 1)) (hp : pc + 1 = pc') (k : Go K R n0 Q T pc' L (.long (u ||| v) :: st)) : Go K R n0 Q T pc L (.long v :: .long u :: st) := by
  subst hp
  obtain ⟨⟨locs, X, hF⟩, e0, hn0, hx, hZ, hby, hml, hret, hlk, hown, hnm⟩ := S
  exact Go.step (fun _ t => XS.lor X.here hx rfl (hb hby hd) rfl t) k
theorem px_ixor (S : St K Z R y bytes maxL ret n0 T h cl sl) {u v : Int32} (hd : decode bytes pc = .ok (.ixor, 1)) (hp : pc + 1 = pc') (k : Go K R n0 Q T pc' L (.int (u ^^^ v) :: st)) : Go K R n0 Q T pc L (.int v :: .int u :: st) := by
  subst hp
  obtain ⟨⟨locs, X, hF⟩, e0, hn0, hx, hZ, hby, hml, hret, hlk, hown, hnm⟩ := S
  exact Go.step (fun _ t => XS.ixor X.here hx rfl (hb hby hd) rfl t) k
theorem px_lxor (S : St K Z R y bytes maxL ret n0 T h cl sl) {u v : Int64} (hd : decode bytes pc = .ok (.lxor, 1)) (hp : pc + 1 = pc') (k : Go K R n0 Q T pc' L (.long (u ^^^ v) :: st)) : Go K R n0 Q T pc L (.long v :: .long u :: st) := by
  subst hp
  obtain ⟨⟨locs, X, hF⟩, e0, hn0, hx, hZ, hby, hml, hret, hlk, hown, hnm⟩ := S
  exact Go.step (fun _ t => XS.lxor X.here hx rfl (hb hby hd) rfl t) k
def ushr (u v : Int32) : Int32 := (u.toUInt32 >>> (v &&& 31).toUInt32).toInt32
def ushrL (u : Int64) (v : Int32) : Int64 := (u.toUInt64 >>> (v &&& 0x3f).toInt64.toUInt64).toInt64
def i2c (v : Int32) : Int32 := v.toUInt32.toUInt16.toUInt32.toInt32
def i2b (v : Int32) : Int32 := v.toInt8.toInt32
def i2s (v : Int32) : Int32 := v.toInt16.toInt32
theorem px_ishl (S : St K Z R y bytes maxL ret n0 T h cl sl) {u v : Int32} (hd : decode bytes pc = .ok (.ishl, 1)) (hp : pc + 1 = pc') (k : Go K R n0 Q T pc' L (.int (u <<< (v &&& 31)) :: st)) : Go K R n0 Q T pc L (.int v :: .int u :: st) := by
  subst hp
  obtain ⟨⟨locs, X, hF⟩, e0, hn0, hx, hZ, hby, hml, hret, hlk, hown, hnm⟩ := S
  exact Go.step (fun _ t => XS.ishl X.here hx rfl (hb hby hd) rfl t) k
theorem px_ishr (S : St K Z R y bytes maxL ret n0 T h cl sl) {u v : Int32} (hd : decode bytes pc = .ok (.ishr, 1)) (hp : pc + 1 = pc') (k : Go K R n0 Q T pc' L (.int (u >>> (v &&& 31)) :: st)) : Go K R n0 Q T pc L (.int v :: .int u :: st) := by
  subst hp
  obtain ⟨⟨locs, X, hF⟩, e0, hn0, hx, hZ, hby, hml, hret, hlk, hown, hnm⟩ := S
  exact Go.step (fun _ t => XS.ishr X.here hx rfl (hb hby hd) rfl t) k
theorem px_iushr (S : St K Z R y bytes maxL ret n0 T h cl sl) {u v : Int32} (hd : decode bytes pc = .ok (.iushr, 1)) (hp : pc + 1 = pc') (k : Go K R n0 Q T pc' L (.int (ushr u v) :: st)) : Go K R n0 Q T pc L (.int v :: .int u :: st) := by
  subst hp
  obtain ⟨⟨locs, X, hF⟩, e0, hn0, hx, hZ, hby, hml, hret, hlk, hown, hnm⟩ := S
  exact Go.step (fun _ t => XS.iushr X.here hx rfl (hb hby hd) rfl t) k
theorem px_lshl (S : St K Z R y bytes maxL ret n0 T h cl sl) {u : Int64} {v : Int32} (hd : decode bytes pc = .ok (.lshl, 1)) (hp : pc + 1 = pc') (k : Go K R n0 Q T pc' L (.long (u <<< (v &&& 0x3f).toInt64) :: st)) : Go K R n0 Q T pc L (.int v :: .long u :: st) := by
  subst hp
  obtain ⟨⟨locs, X, hF⟩, e0, hn0, hx, hZ, hby, hml, hret, hlk, hown, hnm⟩ := S
  exact Go.step (fun _ t => XS.lshl X.here hx rfl (hb hby hd) rfl t) k
theorem px_lshr (S : St K Z R y bytes maxL ret n0 T h cl sl) {u : Int64} {v : Int32} (hd : decode bytes pc = .ok (.lshr, 1)) (hp : pc + 1 = pc') (k : Go K R n0 Q T pc' L (.long (u >>> (v &&& 0x3f).toInt64) :: st)) : Go K R n0 Q T pc L (.int v :: .long u :: st) := by
  subst hp
  obtain ⟨⟨locs, X, hF⟩, e0, hn0, hx, hZ, hby, hml, hret, hlk, hown, hnm⟩ := S
  exact Go.step (fun _ t => XS.lshr X.here hx rfl (hb hby hd) rfl t) k
theorem px_lushr (S : St K Z R y bytes maxL ret n0 T h cl sl) {u : Int64} {v : Int32} (hd : decode bytes pc = .ok (.lushr, 1)) (hp : pc + 1 = pc') (k : Go K R n0 Q T pc' L (.long (ushrL u v) :: st)) : Go K R n0 Q T pc L (.int v :: .long u :: st) := by
  subst hp
  obtain ⟨⟨locs, X, hF⟩, e0, hn0, hx, hZ, hby, hml, hret, hlk, hown, hnm⟩ := S
  exact Go.step (fun _ t => XS.lushr X.here hx rfl (hb hby hd) rfl t) k
theorem px_idiv (S : St K Z R y bytes maxL ret n0 T h cl sl) {u v : Int32} (hd : decode bytes pc = .ok (.idiv, 1)) (hp : pc + 1 = pc') (hz : v ≠ 0) (k : Go K R n0 Q T pc' L (.int (u / v) :: st)) : Go K R n0 Q T pc L (.int v :: .int u :: st) := by
  subst hp
  obtain ⟨⟨locs, X, hF⟩, e0, hn0, hx, hZ, hby, hml, hret, hlk, hown, hnm⟩ := S
  exact Go.step (fun _ t => XS.idiv X.here hx rfl (hb hby hd) rfl hz t) k
theorem px_irem (S : St K Z R y bytes maxL ret n0 T h cl sl) {u v : Int32} (hd : decode bytes pc = .ok (.irem, 1)) (hp : pc + 1 = pc') (hz : v ≠ 0) (k : Go K R n0 Q T pc' L (.int (u % v) :: st)) : Go K R n0 Q T pc L (.int v :: .int u :: st) := by
  subst hp
  obtain ⟨⟨locs, X, hF⟩, e0, hn0, hx, hZ, hby, hml, hret, hlk, hown, hnm⟩ := S
  exact Go.step (fun _ t => iremM X hx rfl (hb hby hd) rfl hz t) k
theorem px_ldiv (S : St K Z R y bytes maxL ret n0 T h cl sl) {u v : Int64} (hd : decode bytes pc = .ok (.ldiv, 1)) (hp : pc + 1 = pc') (hz : v ≠ 0) (k : Go K R n0 Q T pc' L (.long (u / v) :: st)) : Go K R n0 Q T pc L (.long v :: .long u :: st) := by
  subst hp
  obtain ⟨⟨locs, X, hF⟩, e0, hn0, hx, hZ, hby, hml, hret, hlk, hown, hnm⟩ := S
  exact Go.step (fun _ t => XS.ldiv X.here hx rfl (hb hby hd) rfl hz t) k
theorem px_ineg (S : St K Z R y bytes maxL ret n0 T h cl sl) {u : Int32} (hd : decode bytes pc = .ok (.ineg, 1)) (hp : pc + 1 = pc') (k : Go K R n0 Q T pc' L (.int (-u) :: st)) : Go K R n0 Q T pc L (.int u :: st) := by
  subst hp
  obtain ⟨⟨locs, X, hF⟩, e0, hn0, hx, hZ, hby, hml, hret, hlk, hown, hnm⟩ := S
  exact Go.step (fun _ t => XS.ineg X.here hx rfl (hb hby hd) rfl t) k
theorem px_lneg (S : St K Z R y bytes maxL ret n0 T h cl sl) {u : Int64} (hd : decode bytes pc = .ok (.lneg, 1)) (hp : pc + 1 = pc') (k : Go K R n0 Q T pc' L (.long (-u) :: st)) : Go K R n0 Q T pc L (.long u :: st) := by
  subst hp
  obtain ⟨⟨locs, X, hF⟩, e0, hn0, hx, hZ, hby, hml, hret, hlk, hown, hnm⟩ := S
  exact Go.step (fun _ t => XS.lneg X.here hx rfl (hb hby hd) rfl t) k
theorem px_i2l (S : St K Z R y bytes maxL ret n0 T h cl sl) {u : Int32} (hd : decode bytes pc = .ok (.i2l, 1)) (hp : pc + 1 = pc') (k : Go K R n0 Q T pc' L (.long u.toInt64 :: st)) : Go K R n0 Q T pc L (.int u :: st) := by
  subst hp
  obtain ⟨⟨locs, X, hF⟩, e0, hn0, hx, hZ, hby, hml, hret, hlk, hown, hnm⟩ := S
  exact Go.step (fun _ t => XS.i2l X.here hx rfl (hb hby hd) rfl t) k
theorem px_l2i (S : St K Z R y bytes maxL ret n0 T h cl sl) {u : Int64} (hd : decode bytes pc = .ok (.l2i, 1)) (hp : pc + 1 = pc') (k : Go K R n0 Q T pc' L (.int u.toInt32 :: st)) : Go K R n0 Q T pc L (.long u :: st) := by
  subst hp
  obtain ⟨⟨locs, X, hF⟩, e0, hn0, hx, hZ, hby, hml, hret, hlk, hown, hnm⟩ := S
  exact Go.step (fun _ t => XS.l2i X.here hx rfl (hb hby hd) rfl t) k
theorem px_i2b (S : St K Z R y bytes maxL ret n0 T h cl sl) {u : Int32} (hd : decode bytes pc = .ok (.i2b, 1)) (hp : pc + 1 = pc') (k : Go K R n0 Q T pc' L (.int (i2b u) :: st)) : Go K R n0 Q T pc L (.int u :: st) := by
  subst hp
  obtain ⟨⟨locs, X, hF⟩, e0, hn0, hx, hZ, hby, hml, hret, hlk, hown, hnm⟩ := S
  exact Go.step (fun _ t => XS.i2b X.here hx rfl (hb hby hd) rfl t) k
theorem px_i2c (S : St K Z R y bytes maxL ret n0 T h cl sl) {u : Int32} (hd : decode bytes pc = .ok (.i2c, 1)) (hp : pc + 1 = pc') (k : Go K R n0 Q T pc' L (.int (i2c u) :: st)) : Go K R n0 Q T pc L (.int u :: st) := by
  subst hp
  obtain ⟨⟨locs, X, hF⟩, e0, hn0, hx, hZ, hby, hml, hret, hlk, hown, hnm⟩ := S
  exact Go.step (fun _ t => XS.i2c X.here hx rfl (hb hby hd) rfl t) k
theorem px_i2s (S : St K Z R y bytes maxL ret n0 T h cl sl) {u : Int32} (hd : decode bytes pc = .ok (.i2s, 1)) (hp : pc + 1 = pc') (k : Go K R n0 Q T pc' L (.int (i2s u) :: st)) : Go K R n0 Q T pc L (.int u :: st) := by
  subst hp
  obtain ⟨⟨locs, X, hF⟩, e0, hn0, hx, hZ, hby, hml, hret, hlk, hown, hnm⟩ := S
  exact Go.step (fun _ t => XS.i2s X.here hx rfl (hb hby hd) rfl t) k
theorem px_lcmp (S : St K Z R y bytes maxL ret n0 T h cl sl) {u v : Int64} (hd : decode bytes pc = .ok (.lcmp, 1)) (hp : pc + 1 = pc') (k : Go K R n0 Q T pc' L (.int (lcmpW u v) :: st)) : Go K R n0 Q T pc L (.long v :: .long u :: st) := by
  subst hp
  obtain ⟨⟨locs, X, hF⟩, e0, hn0, hx, hZ, hby, hml, hret, hlk, hown, hnm⟩ := S
  exact Go.step (fun _ t => XS.lcmp X.here hx rfl (hb hby hd) rfl t) k
theorem px_pop (S : St K Z R y bytes maxL ret n0 T h cl sl) {u : Value} (hd : decode bytes pc = .ok (.pop, 1)) (hp : pc + 1 = pc') (hc : u.category = 1) (k : Go K R n0 Q T pc' L st) : Go K R n0 Q T pc L (u :: st) := by
  subst hp
  obtain ⟨⟨locs, X, hF⟩, e0, hn0, hx, hZ, hby, hml, hret, hlk, hown, hnm⟩ := S
  exact Go.step (fun _ t => XS.pop X.here hx rfl (hb hby hd) rfl hc t) k
theorem px_dup (S : St K Z R y bytes maxL ret n0 T h cl sl) {u : Value} (hd : decode bytes pc = .ok (.dup, 1)) (hp : pc + 1 = pc') (hc : u.category = 1) (k : Go K R n0 Q T pc' L (u :: u :: st)) : Go K R n0 Q T pc L (u :: st) := by
  subst hp
  obtain ⟨⟨locs, X, hF⟩, e0, hn0, hx, hZ, hby, hml, hret, hlk, hown, hnm⟩ := S
  exact Go.step (fun _ t => XS.dup X.here hx rfl (hb hby hd) rfl hc t) k
theorem px_dupX1 (S : St K Z R y bytes maxL ret n0 T h cl sl) {u v : Value} (hd : decode bytes pc = .ok (.dup_x1, 1)) (hp : pc + 1 = pc') (hc : u.category = 1) (hc2 : v.category = 1) (k : Go K R n0 Q T pc' L (u :: v :: u :: st)) : Go K R n0 Q T pc L (u :: v :: st) := by
  subst hp
  obtain ⟨⟨locs, X, hF⟩, e0, hn0, hx, hZ, hby, hml, hret, hlk, hown, hnm⟩ := S
  exact Go.step (fun _ t => XS.dupX1 X.here hx rfl (hb hby hd) rfl hc hc2 t) k
theorem px_dup2 (S : St K Z R y bytes maxL ret n0 T h cl sl) {u v : Value} (hd : decode bytes pc = .ok (.dup2, 1)) (hp : pc + 1 = pc') (hc : u.category = 1) (hc2 : v.category = 1) (k : Go K R n0 Q T pc' L (u :: v :: u :: v :: st)) : Go K R n0 Q T pc L (u :: v :: st) := by
  subst hp
  obtain ⟨⟨locs, X, hF⟩, e0, hn0, hx, hZ, hby, hml, hret, hlk, hown, hnm⟩ := S
  exact Go.step (fun _ t => Jvm.Free.XT.dup2 X.here hx rfl (hb hby hd) rfl hc hc2 t) k
theorem px_iinc (S : St K Z R y bytes maxL ret n0 T h cl sl) {k : Nat} {cst : Int} {u v r : Int32} (hd : decode bytes pc = .ok (.iinc k cst, 3)) (hp : pc + 3 = pc') (hl : L[k]? = some (.val (.int u))) (hv : Int32.ofInt cst = v) (hr : u + v = r) (hl' : storeLocals L k (.int r) = some L') (k' : Go K R n0 Q T pc' L' st) : Go K R n0 Q T pc L st := by
  subst hp
  subst hv
  subst hr
  obtain ⟨⟨locs, X, hF⟩, e0, hn0, hx, hZ, hby, hml, hret, hlk, hown, hnm⟩ := S
  exact Go.step (fun _ t => XS.iinc X.here hx rfl (hb hby hd) hl hl' t) k'
theorem px_goto (S : St K Z R y bytes maxL ret n0 T h cl sl) {o : Int} (hd : decode bytes pc = .ok (.goto o, 3)) (ho : 0 ≤ (pc : Int) + o) (hp : ((pc : Int) + o).toNat = pc') (k : Go K R n0 Q T pc' L st) : Go K R n0 Q T pc L st := by
  obtain ⟨⟨locs, X, hF⟩, e0, hn0, hx, hZ, hby, hml, hret, hlk, hown, hnm⟩ := S
  exact Go.step (fun _ t => XS.goto X.here hx rfl rfl (hb hby hd) ho hp t) k
def yesC : ClassFile.Cond → Int → Int → Prop
  | .eq, x, y => x = y
  | .ne, x, y => ¬ x = y
  | .lt, x, y => x < y
  | .ge, x, y => y ≤ x
  | .gt, x, y => y < x
  | .le, x, y => x ≤ y
def noC : ClassFile.Cond → Int → Int → Prop
  | .eq, x, y => ¬ x = y
  | .ne, x, y => x = y
  | .lt, x, y => y ≤ x
  | .ge, x, y => x < y
  | .gt, x, y => x ≤ y
  | .le, x, y => y < x
theorem yesC_of {cd : ClassFile.Cond} {x y : Int32} (h : if_icmp.holds cd x y = true) : yesC cd x.toInt y.toInt := by
  cases cd <;> simp [if_icmp.holds, yesC, Int32.lt_iff_toInt_lt, Int32.le_iff_toInt_le, ← Int32.toInt_inj] at h ⊢ <;> omega
theorem noC_of {cd : ClassFile.Cond} {x y : Int32} (h : if_icmp.holds cd x y = false) : noC cd x.toInt y.toInt := by
  cases cd <;> simp [if_icmp.holds, noC, Int32.lt_iff_toInt_lt, Int32.le_iff_toInt_le, ← Int32.toInt_inj] at h ⊢ <;> omega
theorem px_icmp (S : St K Z R y bytes maxL ret n0 T h cl sl) {cd : ClassFile.Cond} {o : Int} {u v : Int32} {pcn : Nat} (hd : decode bytes pc = .ok (.if_icmp cd o, 3)) (ho : 0 ≤ (pc : Int) + o) (hp : ((pc : Int) + o).toNat = pc') (hn : pc + 3 = pcn)
    (ky : yesC cd u.toInt v.toInt → Go K R n0 Q T pc' L st) (kn : noC cd u.toInt v.toInt → Go K R n0 Q T pcn L st) : Go K R n0 Q T pc L (.int v :: .int u :: st) := by
  subst hn
  obtain ⟨⟨locs, X, hF⟩, e0, hn0, hx, hZ, hby, hml, hret, hlk, hown, hnm⟩ := S
  cases hc : if_icmp.holds cd u v
  · exact Go.step (fun _ t => XS.icmpNo X.here hx rfl (hb hby hd) rfl hc t) (kn (noC_of hc))
  · exact Go.step (fun _ t => XS.icmpYes X.here hx rfl rfl (hb hby hd) rfl hc ho hp t) (ky (yesC_of hc))
theorem px_if0 (S : St K Z R y bytes maxL ret n0 T h cl sl) {cd : ClassFile.Cond} {o : Int} {u : Int32} {pcn : Nat} (hd : decode bytes pc = .ok (.ifCond cd o, 3)) (ho : 0 ≤ (pc : Int) + o) (hp : ((pc : Int) + o).toNat = pc') (hn : pc + 3 = pcn)
    (ky : yesC cd u.toInt 0 → Go K R n0 Q T pc' L st) (kn : noC cd u.toInt 0 → Go K R n0 Q T pcn L st) : Go K R n0 Q T pc L (.int u :: st) := by
  subst hn
  obtain ⟨⟨locs, X, hF⟩, e0, hn0, hx, hZ, hby, hml, hret, hlk, hown, hnm⟩ := S
  cases hc : ifCond.holds cd u
  · exact Go.step (fun _ t => XS.ifNo X.here hx rfl (hb hby hd) rfl hc t) (kn (noC_of (y := 0) ((if0 cd u).symm.trans hc)))
  · exact Go.step (fun _ t => XS.ifYes X.here hx rfl rfl (hb hby hd) rfl hc ho hp t) (ky (yesC_of (y := 0) ((if0 cd u).symm.trans hc)))
theorem yesL {cd : ClassFile.Cond} {x y : Int64} (h : yesC cd (lcmpW x y).toInt 0) : yesC cd x.toInt y.toInt := by
  have q := c_lcmp x y
  cases cd <;> simp only [yesC] at h ⊢ <;> omega
theorem noL {cd : ClassFile.Cond} {x y : Int64} (h : noC cd (lcmpW x y).toInt 0) : noC cd x.toInt y.toInt := by
  have q := c_lcmp x y
  cases cd <;> simp only [noC] at h ⊢ <;> omega
theorem px_lif (S : St K Z R y bytes maxL ret n0 T h cl sl) {cd : ClassFile.Cond} {o : Int} {u v : Int64} {pc1 pcn : Nat} (hd1 : decode bytes pc = .ok (.lcmp, 1)) (hp1 : pc + 1 = pc1) (hd : decode bytes pc1 = .ok (.ifCond cd o, 3)) (ho : 0 ≤ (pc1 : Int) + o) (hp : ((pc1 : Int) + o).toNat = pc') (hn : pc1 + 3 = pcn)
    (ky : yesC cd u.toInt v.toInt → Go K R n0 Q T pc' L st) (kn : noC cd u.toInt v.toInt → Go K R n0 Q T pcn L st) : Go K R n0 Q T pc L (.long v :: .long u :: st) :=
  px_lcmp S hd1 hp1 (px_if0 S hd ho hp hn (fun q => ky (yesL q)) (fun q => kn (noL q)))
theorem px_ifnull (S : St K Z R y bytes maxL ret n0 T h cl sl) {o : Int} {a : Addr} (hd : decode bytes pc = .ok (.ifnull o, 3)) (hp : pc + 3 = pc') (k : Go K R n0 Q T pc' L st) : Go K R n0 Q T pc L (.ref a :: st) := by
  subst hp
  obtain ⟨⟨locs, X, hF⟩, e0, hn0, hx, hZ, hby, hml, hret, hlk, hown, hnm⟩ := S
  exact Go.step (fun _ t => XS.ifnullNo X.here hx rfl (hb hby hd) rfl t) k
theorem px_ifnullY (S : St K Z R y bytes maxL ret n0 T h cl sl) {o : Int} (hd : decode bytes pc = .ok (.ifnull o, 3)) (ho : 0 ≤ (pc : Int) + o) (hp : ((pc : Int) + o).toNat = pc') (k : Go K R n0 Q T pc' L st) : Go K R n0 Q T pc L (.null :: st) := by
  obtain ⟨⟨locs, X, hF⟩, e0, hn0, hx, hZ, hby, hml, hret, hlk, hown, hnm⟩ := S
  exact Go.step (fun _ t => XS.ifnullYes X.here hx rfl rfl (hb hby hd) rfl ho hp t) k
theorem px_ifnonnull (S : St K Z R y bytes maxL ret n0 T h cl sl) {o : Int} {a : Addr} (hd : decode bytes pc = .ok (.ifnonnull o, 3)) (ho : 0 ≤ (pc : Int) + o) (hp : ((pc : Int) + o).toNat = pc') (k : Go K R n0 Q T pc' L st) : Go K R n0 Q T pc L (.ref a :: st) := by
  obtain ⟨⟨locs, X, hF⟩, e0, hn0, hx, hZ, hby, hml, hret, hlk, hown, hnm⟩ := S
  exact Go.step (fun _ t => XS.ifnonnullYes X.here hx rfl rfl (hb hby hd) rfl ho hp t) k
theorem px_ifnonnullN (S : St K Z R y bytes maxL ret n0 T h cl sl) {o : Int} (hd : decode bytes pc = .ok (.ifnonnull o, 3)) (hp : pc + 3 = pc') (k : Go K R n0 Q T pc' L st) : Go K R n0 Q T pc L (.null :: st) := by
  subst hp
  obtain ⟨⟨locs, X, hF⟩, e0, hn0, hx, hZ, hby, hml, hret, hlk, hown, hnm⟩ := S
  exact Go.step (fun _ t => XS.ifnonnullNo X.here hx rfl (hb hby hd) rfl t) k
theorem px_ldcI (S : St K Z R y bytes maxL ret n0 T h cl sl) {idx : Nat} {v : Int32} (w : (Jvm.Cond.constant y.cls idx v).before a0 Z = true) (hd : decode bytes pc = .ok (.ldc idx, 2)) (hp : pc + 2 = pc') (k : Go K R n0 Q T pc' L (.int v :: st)) : Go K R n0 Q T pc L st := by
  subst hp
  obtain ⟨⟨locs, X, hF⟩, e0, hn0, hx, hZ, hby, hml, hret, hlk, hown, hnm⟩ := S
  exact Go.step (fun _ t => X.ldcInt hx hown (mvT hZ w) (g := mkF K.m pc L st) rfl (hb hby hd) _ t) k
theorem px_ldcwI (S : St K Z R y bytes maxL ret n0 T h cl sl) {idx : Nat} {v : Int32} (w : (Jvm.Cond.constant y.cls idx v).before a0 Z = true) (hd : decode bytes pc = .ok (.ldc_w idx, 3)) (hp : pc + 3 = pc') (k : Go K R n0 Q T pc' L (.int v :: st)) : Go K R n0 Q T pc L st := by
  subst hp
  obtain ⟨⟨locs, X, hF⟩, e0, hn0, hx, hZ, hby, hml, hret, hlk, hown, hnm⟩ := S
  exact Go.step (fun _ t => X.ldcwInt hx hown (mvT hZ w) (g := mkF K.m pc L st) rfl (hb hby hd) _ t) k
theorem px_ldc2 (S : St K Z R y bytes maxL ret n0 T h cl sl) {idx : Nat} {v : Int64} (w : (Jvm.Cond.constantLong y.cls idx v).before a0 Z = true) (hd : decode bytes pc = .ok (.ldc2_w idx, 3)) (hp : pc + 3 = pc') (k : Go K R n0 Q T pc' L (.long v :: st)) : Go K R n0 Q T pc L st := by
  subst hp
  obtain ⟨⟨locs, X, hF⟩, e0, hn0, hx, hZ, hby, hml, hret, hlk, hown, hnm⟩ := S
  exact Go.step (fun _ t => X.ldc2Long hx hown (mvT hZ w) (g := mkF K.m pc L st) rfl (hb hby hd) _ t) k
theorem px_ret {v : Option Value} (S : St K Z R y bytes maxL ret n0 T h cl sl) (hv : ret = none → v = none) (hc : cl ≤ R.cells) (hs : sl ≤ R.slots)
    (hd : ∀ (locs : List Loc) (fs : List Frame), Stand K.p K.l K.e R K.s K.m K.args K.below K.meth K.c T locs cl sl → K.p.tables.exec = Jvm.exec → K.c.code = bytes → K.meth.sig.returnType = ret → (∀ (f : JFrame) (acts : List Action), f.method = K.m → f.locked = none → f.entered = [] → (doReturn K.e (T.setTop f) acts v).1 = T.setFrames fs) → Steps K.p.tables K.e K.below (T.setTop (mkF K.m pc L st)) (T.setFrames fs))
    (hq : Q v h) : Go K R n0 Q T pc L st := by
  obtain ⟨⟨locs, X, hF⟩, e0, hn0, hx, hZ, hby, hml, hret, hlk, hown, hnm⟩ := S
  obtain ⟨fs, hr, hrun, hended, hW, hsame⟩ := X.leave (v := v) (fun q => hv (hret ▸ q)) hlk
  refine ⟨_, _, hd locs fs X hx hby hret hr, hrun, hended, _, _, rfl, ⟨?_, hF⟩, ⟨_, rfl⟩, hW, hsame.mono hc hs⟩
  show Q v T.heap
  rw [e0]; exact hq
theorem px_return (S : St K Z R y bytes maxL ret n0 T h cl sl) (hd : decode bytes pc = .ok (.return_, 1)) (hrt : ret = none) (hc : cl ≤ R.cells) (hs : sl ≤ R.slots) (hq : Q none h) : Go K R n0 Q T pc L [] :=
  px_ret S (fun _ => rfl) hc hs (fun _ _ X hx hby hret hr => X.returnOut hx (hret.trans hrt) (hb hby hd) hr) hq
theorem px_retN {t : FieldType} {z z' : Int32} (S : St K Z R y bytes maxL ret n0 T h cl sl) (hd : decode bytes pc = .ok (.ireturn, 1)) (hrt : ret = some t) (ht : t = .boolean ∨ t = .byte ∨ t = .char ∨ t = .short) (hz : nar t z = z') (hc : cl ≤ R.cells) (hs : sl ≤ R.slots) (hq : Q (some (.int z')) h) : Go K R n0 Q T pc L (.int z :: st) := by
  subst hz
  exact px_ret S (fun q => by rw [hrt] at q; cases q) hc hs (fun _ _ X hx hby hret hr => retN X hx (hret.trans hrt) ht (hb hby hd) hr) hq
theorem px_retI {z : Int32} (S : St K Z R y bytes maxL ret n0 T h cl sl) (hd : decode bytes pc = .ok (.ireturn, 1)) (hrt : ret = some .int) (hc : cl ≤ R.cells) (hs : sl ≤ R.slots) (hq : Q (some (.int z)) h) : Go K R n0 Q T pc L (.int z :: st) :=
  px_ret S (fun q => by rw [hrt] at q; cases q) hc hs (fun _ _ X hx hby hret hr => retOut X hx (hret.trans hrt) rfl (Or.inl ⟨rfl, Or.inl rfl, z, rfl⟩) (hb hby hd) hr) hq
theorem px_retJ {z : Int64} (S : St K Z R y bytes maxL ret n0 T h cl sl) (hd : decode bytes pc = .ok (.lreturn, 1)) (hrt : ret = some .long) (hc : cl ≤ R.cells) (hs : sl ≤ R.slots) (hq : Q (some (.long z)) h) : Go K R n0 Q T pc L (.long z :: st) :=
  px_ret S (fun q => by rw [hrt] at q; cases q) hc hs (fun _ _ X hx hby hret hr => retOut X hx (hret.trans hrt) rfl (Or.inr (Or.inl ⟨rfl, rfl, z, rfl⟩)) (hb hby hd) hr) hq
theorem narrow_ref {t : FieldType} {v : Value} (ht : t.isReference = true) : narrow t v = v := by cases t <;> simp [FieldType.isReference] at ht <;> cases v <;> rfl
theorem px_retA {t : FieldType} {v : Value} (S : St K Z R y bytes maxL ret n0 T h cl sl) (hd : decode bytes pc = .ok (.areturn, 1)) (hrt : ret = some t) (ht : t.isReference = true) (hv : v.isRef = true) (hc : cl ≤ R.cells) (hs : sl ≤ R.slots) (hq : Q (some v) h) : Go K R n0 Q T pc L (v :: st) :=
  px_ret S (fun q => by rw [hrt] at q; cases q) hc hs (fun _ _ X hx hby hret hr => retOut X hx (hret.trans hrt) (narrow_ref ht) (Or.inr (Or.inr (Or.inr (Or.inr ⟨rfl, ht, hv⟩)))) (hb hby hd) hr) hq
/-- an array of ints (or of bytes, chars, shorts, booleans) of n places that hold f 0 .. -/
def AI (Z : State) (h : Heap) (a : Addr) (ty : FieldType) (n : Nat) (f : Nat → Int32) : Prop := ∃ c : Cell, Arr Z h a c ty ∧ c.slots.size = n ∧ n < 2147483648 ∧ ∀ i, i < n → c.slots[i]? = some (.int (f i)) ∧ fits ty (.int (f i)) = true
def AJ (Z : State) (h : Heap) (a : Addr) (n : Nat) (f : Nat → Int64) : Prop := ∃ c : Cell, Arr Z h a c .long ∧ c.slots.size = n ∧ n < 2147483648 ∧ ∀ i, i < n → c.slots[i]? = some (.long (f i))
def updF {α : Type} (f : Nat → α) (i : Nat) (v : α) : Nat → α := fun j => if j = i then v else f j
theorem updF_same {α : Type} (f : Nat → α) (i : Nat) (v : α) : updF f i v i = v := by simp [updF]
theorem updF_ne {α : Type} (f : Nat → α) {i j : Nat} (v : α) (q : ¬ j = i) : updF f i v j = f j := by simp [updF, q]
variable {h' : Heap} {a b : Addr} {ty : FieldType} {n : Nat} {f : Nat → Int32} {fj : Nat → Int64}
theorem AI.lt (A : AI Z h a ty n f) : a < h.size := by obtain ⟨c, A, -⟩ := A; exact A.lt
theorem AJ.lt (A : AJ Z h a n fj) : a < h.size := by obtain ⟨c, A, -⟩ := A; exact A.lt
theorem AI.len (A : AI Z h a ty n f) : n < 2147483648 := by obtain ⟨c, -, -, q, -⟩ := A; exact q
theorem AJ.len (A : AJ Z h a n fj) : n < 2147483648 := by obtain ⟨c, -, -, q, -⟩ := A; exact q
theorem AI.ext (A : AI Z h a ty n f) (E : Ext h h') : AI Z h' a ty n f := by obtain ⟨c, A, r⟩ := A; exact ⟨c, A.ext E, r⟩
theorem AJ.ext (A : AJ Z h a n fj) (E : Ext h h') : AJ Z h' a n fj := by obtain ⟨c, A, r⟩ := A; exact ⟨c, A.ext E, r⟩
theorem AI.other {s0 : Nat} {v : Value} (A : AI Z h a ty n f) (W : Wr h h' b s0 v) (q : a ≠ b) : AI Z h' a ty n f := by obtain ⟨c, A, r⟩ := A; exact ⟨c, A.other W q, r⟩
theorem AJ.other {s0 : Nat} {v : Value} (A : AJ Z h a n fj) (W : Wr h h' b s0 v) (q : a ≠ b) : AJ Z h' a n fj := by obtain ⟨c, A, r⟩ := A; exact ⟨c, A.other W q, r⟩
theorem AI.keep {ws : List Addr} (A : AI Z h a ty n f) (W : Keep h h' ws) (q : a ∉ ws) : AI Z h' a ty n f := by obtain ⟨c, A, r⟩ := A; exact ⟨c, ⟨W.2.1 a c A.1 q, A.2⟩, r⟩
theorem AJ.keep {ws : List Addr} (A : AJ Z h a n fj) (W : Keep h h' ws) (q : a ∉ ws) : AJ Z h' a n fj := by obtain ⟨c, A, r⟩ := A; exact ⟨c, ⟨W.2.1 a c A.1 q, A.2⟩, r⟩
theorem AI.congr {g : Nat → Int32} (A : AI Z h a ty n f) (q : ∀ i, i < n → f i = g i) : AI Z h a ty n g := by obtain ⟨c, A, r1, r2, r3⟩ := A; exact ⟨c, A, r1, r2, fun i hi => by rw [← q i hi]; exact r3 i hi⟩
theorem AJ.congr {g : Nat → Int64} (A : AJ Z h a n fj) (q : ∀ i, i < n → fj i = g i) : AJ Z h a n g := by obtain ⟨c, A, r1, r2, r3⟩ := A; exact ⟨c, A, r1, r2, fun i hi => by rw [r3 i hi, q i hi]⟩
theorem clampI {j : Int32} {i : Nat} (hj : j.toInt = (i : Int)) : j.toNatClampNeg = i := by
  have q : j.toNatClampNeg = j.toInt.toNat := rfl
  rw [q, hj]; rfl
theorem inbI {c : Cell} {j : Int32} {i : Nat} (hj : j.toInt = (i : Int)) (hi : i < c.slots.size) : ¬ (j < 0 ∨ c.slots.size ≤ j.toNatClampNeg) := by
  rw [clampI hj]
  intro q
  rcases q with q | q
  · have q2 := Int32.lt_iff_toInt_lt.mp q
    have z : (0 : Int32).toInt = 0 := rfl
    omega
  · omega
theorem AI.same {c : Cell} {i : Nat} {v : Int32} (A : Arr Z h a c ty) (h1 : c.slots.size = n) (h2 : n < 2147483648) (h3 : ∀ i, i < n → c.slots[i]? = some (.int (f i)) ∧ fits ty (.int (f i)) = true) (W : Wr h h' a i (.int v)) (hi : i < n) (hft : fits ty (.int v) = true) : AI Z h' a ty n (updF f i v) := by
  refine ⟨_, A.same W, by simp [Cell.setSlot, h1], h2, fun j hj => ?_⟩
  by_cases q : j = i
  · subst q
    rw [updF_same]
    exact ⟨by simp [Cell.setSlot, h1, hj], hft⟩
  · rw [updF_ne _ _ q]
    have q' : ¬ i = j := fun e => q e.symm
    exact ⟨by simp [Cell.setSlot, Array.getElem?_setIfInBounds, q', (h3 j hj).1], (h3 j hj).2⟩
theorem AJ.same {c : Cell} {i : Nat} {v : Int64} (A : Arr Z h a c .long) (h1 : c.slots.size = n) (h2 : n < 2147483648) (h3 : ∀ i, i < n → c.slots[i]? = some (.long (fj i))) (W : Wr h h' a i (.long v)) (hi : i < n) : AJ Z h' a n (updF fj i v) := by
  refine ⟨_, A.same W, by simp [Cell.setSlot, h1], h2, fun j hj => ?_⟩
  by_cases q : j = i
  · subst q
    rw [updF_same]
    simp [Cell.setSlot, h1, hj]
  · rw [updF_ne _ _ q]
    have q' : ¬ i = j := fun e => q e.symm
    simp [Cell.setSlot, Array.getElem?_setIfInBounds, q', h3 j hj]
theorem px_iaload (S : St K Z R y bytes maxL ret n0 T h cl sl) (A : AI Z h a .int n f) {j v : Int32} {i : Nat} (hj : j.toInt = (i : Int)) (hi : i < n) (hv : f i = v) (hd : decode bytes pc = .ok (.iaload, 1)) (hp : pc + 1 = pc') (k : Go K R n0 Q T pc' L (.int v :: st)) : Go K R n0 Q T pc L (.int j :: .ref a :: st) := by
  subst hp
  subst hv
  obtain ⟨⟨locs, X, hF⟩, e0, hn0, hx, hZ, hby, hml, hret, hlk, hown, hnm⟩ := S
  obtain ⟨c, A, h1, h2, h3⟩ := A
  exact Go.step (fun _ t => X.iaload hx (j := j) (v := .int (f i)) (by rw [e0]; exact A.1) (State.isArrayOf_alike hZ.alike A.2.1) A.2.2 (inbI hj (h1 ▸ hi)) (by rw [clampI hj]; exact (h3 i hi).1) (g := mkF K.m pc L (.int j :: .ref a :: st)) rfl rfl (hb hby hd) _ t) k
theorem px_caload (S : St K Z R y bytes maxL ret n0 T h cl sl) (A : AI Z h a .char n f) {j v : Int32} {i : Nat} (hj : j.toInt = (i : Int)) (hi : i < n) (hv : f i = v) (hd : decode bytes pc = .ok (.caload, 1)) (hp : pc + 1 = pc') (k : Go K R n0 Q T pc' L (.int v :: st)) : Go K R n0 Q T pc L (.int j :: .ref a :: st) := by
  subst hp
  subst hv
  obtain ⟨⟨locs, X, hF⟩, e0, hn0, hx, hZ, hby, hml, hret, hlk, hown, hnm⟩ := S
  obtain ⟨c, A, h1, h2, h3⟩ := A
  exact Go.step (fun _ t => X.caload hx (j := j) (v := .int (f i)) (by rw [e0]; exact A.1) (State.isArrayOf_alike hZ.alike A.2.1) A.2.2 (inbI hj (h1 ▸ hi)) (by rw [clampI hj]; exact (h3 i hi).1) (g := mkF K.m pc L (.int j :: .ref a :: st)) rfl rfl (hb hby hd) _ t) k
theorem px_saload (S : St K Z R y bytes maxL ret n0 T h cl sl) (A : AI Z h a .short n f) {j v : Int32} {i : Nat} (hj : j.toInt = (i : Int)) (hi : i < n) (hv : f i = v) (hd : decode bytes pc = .ok (.saload, 1)) (hp : pc + 1 = pc') (k : Go K R n0 Q T pc' L (.int v :: st)) : Go K R n0 Q T pc L (.int j :: .ref a :: st) := by
  subst hp
  subst hv
  obtain ⟨⟨locs, X, hF⟩, e0, hn0, hx, hZ, hby, hml, hret, hlk, hown, hnm⟩ := S
  obtain ⟨c, A, h1, h2, h3⟩ := A
  exact Go.step (fun _ t => X.saload hx (j := j) (v := .int (f i)) (by rw [e0]; exact A.1) (State.isArrayOf_alike hZ.alike A.2.1) A.2.2 (inbI hj (h1 ▸ hi)) (by rw [clampI hj]; exact (h3 i hi).1) (g := mkF K.m pc L (.int j :: .ref a :: st)) rfl rfl (hb hby hd) _ t) k
theorem px_baload (S : St K Z R y bytes maxL ret n0 T h cl sl) (A : AI Z h a .byte n f) {j v : Int32} {i : Nat} (hj : j.toInt = (i : Int)) (hi : i < n) (hv : f i = v) (hd : decode bytes pc = .ok (.baload, 1)) (hp : pc + 1 = pc') (k : Go K R n0 Q T pc' L (.int v :: st)) : Go K R n0 Q T pc L (.int j :: .ref a :: st) := by
  subst hp
  subst hv
  obtain ⟨⟨locs, X, hF⟩, e0, hn0, hx, hZ, hby, hml, hret, hlk, hown, hnm⟩ := S
  obtain ⟨c, A, h1, h2, h3⟩ := A
  exact Go.step (fun _ t => X.baloadBytes hx (j := j) (v := .int (f i)) (by rw [e0]; exact A.1) (State.isArrayOf_alike hZ.alike A.2.1) A.2.2 (inbI hj (h1 ▸ hi)) (by rw [clampI hj]; exact (h3 i hi).1) (g := mkF K.m pc L (.int j :: .ref a :: st)) rfl rfl (hb hby hd) _ t) k
theorem px_laload (S : St K Z R y bytes maxL ret n0 T h cl sl) (A : AJ Z h a n fj) {j : Int32} {v : Int64} {i : Nat} (hj : j.toInt = (i : Int)) (hi : i < n) (hv : fj i = v) (hd : decode bytes pc = .ok (.laload, 1)) (hp : pc + 1 = pc') (k : Go K R n0 Q T pc' L (.long v :: st)) : Go K R n0 Q T pc L (.int j :: .ref a :: st) := by
  subst hp
  subst hv
  obtain ⟨⟨locs, X, hF⟩, e0, hn0, hx, hZ, hby, hml, hret, hlk, hown, hnm⟩ := S
  obtain ⟨c, A, h1, h2, h3⟩ := A
  exact Go.step (fun _ t => X.laload hx (j := j) (v := .long (fj i)) (by rw [e0]; exact A.1) (State.isArrayOf_alike hZ.alike A.2.1) A.2.2 (inbI hj (h1 ▸ hi)) (by rw [clampI hj]; exact h3 i hi) (g := mkF K.m pc L (.int j :: .ref a :: st)) rfl rfl (hb hby hd) _ t) k
theorem len32 {c : Cell} (h1 : c.slots.size = n) (h2 : n < 2147483648) {v : Int32} (hv : v.toInt = (n : Int)) : c.slots.size.toInt32 = v := by
  rw [h1]
  apply Int32.toInt_inj.mp
  rw [hv]
  have := Int32.toInt_ofNat_of_lt (n := n) h2
  exact this
theorem px_alenI (S : St K Z R y bytes maxL ret n0 T h cl sl) (A : AI Z h a ty n f) {v : Int32} (hv : v.toInt = (n : Int)) (hd : decode bytes pc = .ok (.arraylength, 1)) (hp : pc + 1 = pc') (k : Go K R n0 Q T pc' L (.int v :: st)) : Go K R n0 Q T pc L (.ref a :: st) := by
  subst hp
  obtain ⟨⟨locs, X, hF⟩, e0, hn0, hx, hZ, hby, hml, hret, hlk, hown, hnm⟩ := S
  obtain ⟨c, A, h1, h2, h3⟩ := A
  refine Go.step (fun _ t => X.arraylength hx (by rw [e0]; exact A.1) (State.isArrayOf_alike hZ.alike A.2.1) (g := mkF K.m pc L (.ref a :: st)) rfl rfl (hb hby hd) _ t) ?_
  rw [len32 h1 h2 hv]
  exact k
theorem px_alenJ (S : St K Z R y bytes maxL ret n0 T h cl sl) (A : AJ Z h a n fj) {v : Int32} (hv : v.toInt = (n : Int)) (hd : decode bytes pc = .ok (.arraylength, 1)) (hp : pc + 1 = pc') (k : Go K R n0 Q T pc' L (.int v :: st)) : Go K R n0 Q T pc L (.ref a :: st) := by
  subst hp
  obtain ⟨⟨locs, X, hF⟩, e0, hn0, hx, hZ, hby, hml, hret, hlk, hown, hnm⟩ := S
  obtain ⟨c, A, h1, h2, h3⟩ := A
  refine Go.step (fun _ t => X.arraylength hx (by rw [e0]; exact A.1) (State.isArrayOf_alike hZ.alike A.2.1) (g := mkF K.m pc L (.ref a :: st)) rfl rfl (hb hby hd) _ t) ?_
  rw [len32 h1 h2 hv]
  exact k
theorem px_iastore (S : St K Z R y bytes maxL ret n0 T h cl sl) (A : AI Z h a .int n f) (ha : n0 ≤ a) {j u v : Int32} {i : Nat} (hj : j.toInt = (i : Int)) (hi : i < n) (hv : u = v) (hd : decode bytes pc = .ok (.iastore, 1)) (hp : pc + 1 = pc')
    (k : ∀ (T' : State) (h' : Heap), St K Z R y bytes maxL ret n0 T' h' cl sl → Wr h h' a i (.int v) → AI Z h' a .int n (updF f i v) → Go K R n0 Q T' pc' L st) : Go K R n0 Q T pc L (.int u :: .int j :: .ref a :: st) := by
  subst hp
  subst hv
  obtain ⟨⟨locs, X, hF⟩, e0, hn0, hx, hZ, hby, hml, hret, hlk, hown, hnm⟩ := S
  obtain ⟨c, A, h1, h2, h3⟩ := A
  obtain ⟨T', h', X', e', W, stp⟩ := stI X hx hZ e0 A (j := j) (inbI hj (h1 ▸ hi)) (g := mkF K.m pc L (.int u :: .int j :: .ref a :: st)) rfl rfl (hb hby hd)
  have hF' := Fr.snoc X' hF ha
  rw [clampI hj] at W
  exact Go.step stp (k T' h' ⟨⟨_, X', hF'⟩, e', hn0, hx, hZ, hby, hml, hret, hlk, hown, hnm⟩ W (AI.same A h1 h2 h3 W hi rfl))
theorem px_castore (S : St K Z R y bytes maxL ret n0 T h cl sl) (A : AI Z h a .char n f) (ha : n0 ≤ a) {j u v : Int32} {i : Nat} (hj : j.toInt = (i : Int)) (hi : i < n) (hv : (nar .char u) = v) (hd : decode bytes pc = .ok (.castore, 1)) (hp : pc + 1 = pc')
    (k : ∀ (T' : State) (h' : Heap), St K Z R y bytes maxL ret n0 T' h' cl sl → Wr h h' a i (.int v) → AI Z h' a .char n (updF f i v) → Go K R n0 Q T' pc' L st) : Go K R n0 Q T pc L (.int u :: .int j :: .ref a :: st) := by
  subst hp
  subst hv
  obtain ⟨⟨locs, X, hF⟩, e0, hn0, hx, hZ, hby, hml, hret, hlk, hown, hnm⟩ := S
  obtain ⟨c, A, h1, h2, h3⟩ := A
  obtain ⟨T', h', X', e', W, stp⟩ := stC X hx hZ e0 A (j := j) (inbI hj (h1 ▸ hi)) (g := mkF K.m pc L (.int u :: .int j :: .ref a :: st)) rfl rfl (hb hby hd)
  have hF' := Fr.snoc X' hF ha
  rw [clampI hj] at W
  exact Go.step stp (k T' h' ⟨⟨_, X', hF'⟩, e', hn0, hx, hZ, hby, hml, hret, hlk, hown, hnm⟩ W (AI.same A h1 h2 h3 W hi (fits_nar_char _)))
theorem px_sastore (S : St K Z R y bytes maxL ret n0 T h cl sl) (A : AI Z h a .short n f) (ha : n0 ≤ a) {j u v : Int32} {i : Nat} (hj : j.toInt = (i : Int)) (hi : i < n) (hv : (nar .short u) = v) (hd : decode bytes pc = .ok (.sastore, 1)) (hp : pc + 1 = pc')
    (k : ∀ (T' : State) (h' : Heap), St K Z R y bytes maxL ret n0 T' h' cl sl → Wr h h' a i (.int v) → AI Z h' a .short n (updF f i v) → Go K R n0 Q T' pc' L st) : Go K R n0 Q T pc L (.int u :: .int j :: .ref a :: st) := by
  subst hp
  subst hv
  obtain ⟨⟨locs, X, hF⟩, e0, hn0, hx, hZ, hby, hml, hret, hlk, hown, hnm⟩ := S
  obtain ⟨c, A, h1, h2, h3⟩ := A
  obtain ⟨T', h', X', e', W, stp⟩ := stS X hx hZ e0 A (j := j) (inbI hj (h1 ▸ hi)) (g := mkF K.m pc L (.int u :: .int j :: .ref a :: st)) rfl rfl (hb hby hd)
  have hF' := Fr.snoc X' hF ha
  rw [clampI hj] at W
  exact Go.step stp (k T' h' ⟨⟨_, X', hF'⟩, e', hn0, hx, hZ, hby, hml, hret, hlk, hown, hnm⟩ W (AI.same A h1 h2 h3 W hi (fits_nar_short _)))
theorem px_bastore (S : St K Z R y bytes maxL ret n0 T h cl sl) (A : AI Z h a .byte n f) (ha : n0 ≤ a) {j u v : Int32} {i : Nat} (hj : j.toInt = (i : Int)) (hi : i < n) (hv : (nar .byte u) = v) (hd : decode bytes pc = .ok (.bastore, 1)) (hp : pc + 1 = pc')
    (k : ∀ (T' : State) (h' : Heap), St K Z R y bytes maxL ret n0 T' h' cl sl → Wr h h' a i (.int v) → AI Z h' a .byte n (updF f i v) → Go K R n0 Q T' pc' L st) : Go K R n0 Q T pc L (.int u :: .int j :: .ref a :: st) := by
  subst hp
  subst hv
  obtain ⟨⟨locs, X, hF⟩, e0, hn0, hx, hZ, hby, hml, hret, hlk, hown, hnm⟩ := S
  obtain ⟨c, A, h1, h2, h3⟩ := A
  obtain ⟨T', h', X', e', W, stp⟩ := stB X hx hZ e0 A (j := j) (inbI hj (h1 ▸ hi)) (g := mkF K.m pc L (.int u :: .int j :: .ref a :: st)) rfl rfl (hb hby hd)
  have hF' := Fr.snoc X' hF ha
  rw [clampI hj] at W
  exact Go.step stp (k T' h' ⟨⟨_, X', hF'⟩, e', hn0, hx, hZ, hby, hml, hret, hlk, hown, hnm⟩ W (AI.same A h1 h2 h3 W hi (fits_nar_byte _)))
theorem px_lastore (S : St K Z R y bytes maxL ret n0 T h cl sl) (A : AJ Z h a n fj) (ha : n0 ≤ a) {j : Int32} {u : Int64} {i : Nat} (hj : j.toInt = (i : Int)) (hi : i < n) (hd : decode bytes pc = .ok (.lastore, 1)) (hp : pc + 1 = pc')
    (k : ∀ (T' : State) (h' : Heap), St K Z R y bytes maxL ret n0 T' h' cl sl → Wr h h' a i (.long u) → AJ Z h' a n (updF fj i u) → Go K R n0 Q T' pc' L st) : Go K R n0 Q T pc L (.long u :: .int j :: .ref a :: st) := by
  subst hp
  obtain ⟨⟨locs, X, hF⟩, e0, hn0, hx, hZ, hby, hml, hret, hlk, hown, hnm⟩ := S
  obtain ⟨c, A, h1, h2, h3⟩ := A
  obtain ⟨T', h', X', e', W, stp⟩ := stJ X hx hZ e0 A (j := j) (inbI hj (h1 ▸ hi)) (g := mkF K.m pc L (.long u :: .int j :: .ref a :: st)) rfl rfl (hb hby hd)
  have hF' := Fr.snoc X' hF ha
  rw [clampI hj] at W
  exact Go.step stp (k T' h' ⟨⟨_, X', hF'⟩, e', hn0, hx, hZ, hby, hml, hret, hlk, hown, hnm⟩ W (AJ.same A h1 h2 h3 W hi))
theorem nneg {u : Int32} (hu : u.toInt = (n : Int)) : ¬ u < 0 := fun q => by
  have q2 := Int32.lt_iff_toInt_lt.mp q
  have z : (0 : Int32).toInt = 0 := rfl
  omega
theorem small {u : Int32} (hu : u.toInt = (n : Int)) : n < 2147483648 := by
  have := (rng32 u).2
  omega
theorem px_newarr {aty : ArrayType} (S : St K Z R y bytes maxL ret n0 T h cl sl) (w : (Jvm.Cond.arrayClass (newarray.typeOf aty)).before a0 Z = true) (hdv : defaultValue (newarray.typeOf aty) = .int 0) {u : Int32} {cap : Nat} (hu : u.toInt = (n : Int)) (hcap : n ≤ cap) (hb8 : cap * 8 ≤ 536870912) (hc : cl + 1 ≤ R.cells) (hs : sl + cap ≤ R.slots)
    (hd : decode bytes pc = .ok (.newarray aty, 2)) (hp : pc + 2 = pc')
    (k : ∀ (T' : State) (h' : Heap) (a : Addr), a = h.size → n0 ≤ a → St K Z R y bytes maxL ret n0 T' h' (cl + 1) (sl + cap) → Ext h h' → AI Z h' a (newarray.typeOf aty) n (fun _ => 0) → Go K R n0 Q T' pc' L (.ref a :: st)) : Go K R n0 Q T pc L (.int u :: st) := by
  subst hp
  have hsz := S.size
  obtain ⟨⟨locs, X, hF⟩, e0, hn0, hx, hZ, hby, hml, hret, hlk, hown, hnm⟩ := S
  obtain ⟨T', h', cA, X', e', E, A, stp⟩ := newP X hx hZ w e0 (g := mkF K.m pc L (.int u :: st)) rfl (hb hby hd) rfl (nneg hu) (cap := cap) (by rw [clampI hu]; exact hcap) hb8 hc hs
  refine Go.step stp (k T' h' h.size rfl hsz ⟨⟨_, X', hF⟩, e', hn0, hx, hZ, hby, hml, hret, hlk, hown, hnm⟩ E ⟨_, A, by rw [sz_new, clampI hu], small hu, fun i hi => ⟨?_, ?_⟩⟩)
  · simp [newA, clampI hu, hi, hdv]
  · rw [← hdv]; cases aty <;> first | rfl | (simp [newarray.typeOf, defaultValue] at hdv)
theorem px_newarrJ (S : St K Z R y bytes maxL ret n0 T h cl sl) (w : (Jvm.Cond.arrayClass FieldType.long).before a0 Z = true) {u : Int32} {cap : Nat} (hu : u.toInt = (n : Int)) (hcap : n ≤ cap) (hb8 : cap * 8 ≤ 536870912) (hc : cl + 1 ≤ R.cells) (hs : sl + cap ≤ R.slots)
    (hd : decode bytes pc = .ok (.newarray .long, 2)) (hp : pc + 2 = pc')
    (k : ∀ (T' : State) (h' : Heap) (a : Addr), a = h.size → n0 ≤ a → St K Z R y bytes maxL ret n0 T' h' (cl + 1) (sl + cap) → Ext h h' → AJ Z h' a n (fun _ => 0) → Go K R n0 Q T' pc' L (.ref a :: st)) : Go K R n0 Q T pc L (.int u :: st) := by
  subst hp
  have hsz := S.size
  obtain ⟨⟨locs, X, hF⟩, e0, hn0, hx, hZ, hby, hml, hret, hlk, hown, hnm⟩ := S
  obtain ⟨T', h', cA, X', e', E, A, stp⟩ := newP X hx hZ (aty := .long) w e0 (g := mkF K.m pc L (.int u :: st)) rfl (hb hby hd) rfl (nneg hu) (cap := cap) (by rw [clampI hu]; exact hcap) hb8 hc hs
  refine Go.step stp (k T' h' h.size rfl hsz ⟨⟨_, X', hF⟩, e', hn0, hx, hZ, hby, hml, hret, hlk, hown, hnm⟩ E ⟨_, A, by rw [sz_new, clampI hu], small hu, fun i hi => ?_⟩)
  simp [newA, clampI hu, hi, defaultValue, newarray.typeOf]
theorem px_new {C : String} {idx k0 : Nat} (S : St K Z R y bytes maxL ret n0 T h cl sl) (w : (Jvm.Cond.classLink y.cls idx C).before a0 Z = true) (wi : (Jvm.Cond.instantiable C k0).before a0 Z = true) (wz : (Jvm.Cond.initialized C).before a0 Z = true) (hc : cl + 1 ≤ R.cells) (hs : sl + k0 ≤ R.slots) (hd : decode bytes pc = .ok (.new idx, 3)) (hp : pc + 3 = pc')
    (k : ∀ (T' : State) (h' : Heap) (a : Addr), a = h.size → n0 ≤ a → St K Z R y bytes maxL ret n0 T' h' (cl + 1) (sl + k0) → Ext h h' → Exa Z h' a C → (∀ {O nm d : String} {ty : FieldType}, Laid Z a0 C O nm d → parseFieldDescriptor d = some ty → Fld Z h' a O nm d (defaultValue ty)) → Go K R n0 Q T' pc' L (.ref a :: st)) : Go K R n0 Q T pc L st := by
  subst hp
  have hsz := S.size
  obtain ⟨⟨locs, X, hF⟩, e0, hn0, hx, hZ, hby, hml, hret, hlk, hown, hnm⟩ := S
  obtain ⟨T', h', X', e', E, A, D, -, stp⟩ := newO X hx hZ hown w wi wz e0 (g := mkF K.m pc L st) rfl (hb hby hd) hc hs
  exact Go.step stp (k T' h' h.size rfl hsz ⟨⟨_, X', hF⟩, e', hn0, hx, hZ, hby, hml, hret, hlk, hown, hnm⟩ E A (fun {O nm d ty} => D))
theorem px_getfield {C nm d : String} {idx : Nat} {v : Value} (S : St K Z R y bytes maxL ret n0 T h cl sl) (w : (Jvm.Cond.fieldLink y.cls idx C nm d).before a0 Z = true) (F : Fld Z h a C nm d v) (hd : decode bytes pc = .ok (.getfield idx, 3)) (hp : pc + 3 = pc')
    (k : ∀ (T' : State), St K Z R y bytes maxL ret n0 T' h cl sl → Go K R n0 Q T' pc' L (v :: st)) : Go K R n0 Q T pc L (.ref a :: st) := by
  subst hp
  obtain ⟨⟨locs, X, hF⟩, e0, hn0, hx, hZ, hby, hml, hret, hlk, hown, hnm⟩ := S
  obtain ⟨T', X', e', stp⟩ := getF X hx hZ hown (host := "") (Or.inl w) Via.refl e0 F (g := mkF K.m pc L (.ref a :: st)) rfl rfl (hb hby hd)
  exact Go.step stp (k T' ⟨⟨_, X', hF⟩, e', hn0, hx, hZ, hby, hml, hret, hlk, hown, hnm⟩)
theorem px_putfield {C nm d : String} {idx kk : Nat} {v v' old : Value} {ty : FieldType} (S : St K Z R y bytes maxL ret n0 T h cl sl) (w : (Jvm.Cond.fieldLink y.cls idx C nm d).before a0 Z = true) (F : Fld Z h a C nm d old) (E : Exa Z h a C) (ha : n0 ≤ a)
    (hl : (Jvm.Cond.lays C C nm d).before a0 Z = true ∨ ((Jvm.Cond.laysFinal C C nm d).before a0 Z = true ∧ y.cls = C ∧ y.name = "<init>")) (wi : (Jvm.Cond.instantiable C kk).before a0 Z = true) (hty : parseFieldDescriptor d = some ty) (hv : narrow ty v = v') (hf : fits ty v' = true) (hd : decode bytes pc = .ok (.putfield idx, 3)) (hp : pc + 3 = pc')
    (k : ∀ (T' : State) (h' : Heap), St K Z R y bytes maxL ret n0 T' h' cl sl → Wr h h' a (Jvm.RoadKit.slotOf Z C nm d) v' → Fld Z h' a C nm d v' → Exa Z h' a C → Go K R n0 Q T' pc' L st) : Go K R n0 Q T pc L (v :: .ref a :: st) := by
  subst hp
  obtain ⟨⟨locs, X, hF⟩, e0, hn0, hx, hZ, hby, hml, hret, hlk, hown, hnm⟩ := S
  obtain ⟨T', h', X', e', W, stp⟩ := putFN X hx hZ hown w Via.refl e0 F E (hl.imp id fun q => ⟨q.1, q.2.1, hnm.trans q.2.2⟩) wi hty hv hf (g := mkF K.m pc L (v :: .ref a :: st)) rfl rfl (hb hby hd)
  have hF' := Fr.snoc X' hF ha
  exact Go.step stp (k T' h' ⟨⟨_, X', hF'⟩, e', hn0, hx, hZ, hby, hml, hret, hlk, hown, hnm⟩ W (F.same W) (E.wr W))
theorem px_initO {idx W : Nat} (S : St K Z R y bytes maxL ret n0 T h cl sl) (w1 : (Jvm.Cond.methodLink y.cls idx Lib.objectInit).before a0 Z = true) (w2 : (Jvm.Cond.instanceMethod Lib.objectInit).before a0 Z = true) (w3 : (Jvm.Cond.code Lib.objectInit ⟨#[0xb1]⟩ 1 none).before a0 Z = true) (hL : L.size = maxL) (hfr : 1 ≤ R.frames) (hW : (st.map fun v => v.category).sum = W) (hlo : W + 12 ≤ R.locals) (hd : decode bytes pc = .ok (.invokespecial idx, 3)) (hp : pc + 3 = pc')
    (k : ∀ (T' : State), St K Z R y bytes maxL ret n0 T' h cl sl → Go K R n0 Q T' pc' L st) : Go K R n0 Q T pc L (.ref a :: st) := by
  subst hp
  obtain ⟨⟨locs, X, hF⟩, e0, hn0, hx, hZ, hby, hml, hret, hlk, hown, hnm⟩ := S
  obtain ⟨T', X', e', stp⟩ := initO X hx hZ hown w1 w2 w3 e0 (g := mkF K.m pc L (.ref a :: st)) rfl (hL.trans hml.symm) rfl (hb hby hd) hfr (W := W) (by show 2 * 0 + _ ≤ _; rw [hW]; omega) hlo
  exact Go.step stp (k T' ⟨⟨_, X', hF⟩, e', hn0, hx, hZ, hby, hml, hret, hlk, hown, hnm⟩)
theorem px_callS {y' : MethodName} {b' : ByteArray} {mx' : Nat} {rt' : Option FieldType} {rm : Room} {as' : List Value} {Q' : Option Value → Heap → Prop} {W idx : Nat} {ps : List FieldType} {rr : Option FieldType} (S : St K Z R y bytes maxL ret n0 T h cl sl) (C : Ctr Z n0 y' b' mx' rt' rm as' h Q') (w1 : (Jvm.Cond.methodLink y.cls idx y').before a0 Z = true) (w2 : (Jvm.Cond.static y').before a0 Z = true) (w3 : (Jvm.Cond.initialized y'.cls).before a0 Z = true) (w4 : (Jvm.Cond.code y' b' mx' rt').before a0 Z = true) (hy : y'.cls ≠ "java/lang/invoke/MethodHandle" ∧ y'.cls ≠ "java/lang/invoke/VarHandle")
    (hps : parseMethodDescriptor y'.desc = some ⟨ps, rr⟩) (hlen : as'.length = ps.length) (hL : L.size = maxL) (hfr : rm.frames + 1 ≤ R.frames) (hW : (st.map fun v => v.category).sum = W) (hlo : W + (mx' + 11) + rm.locals ≤ R.locals) (hc : cl + rm.cells ≤ R.cells) (hs : sl + rm.slots ≤ R.slots) (hd : decode bytes pc = .ok (.invokestatic idx, 3)) (hp : pc + 3 = pc') {stk : List Value} (hst : stk = as'.reverse ++ st)
    (k : ∀ (T' : State) (h' : Heap) (v : Option Value), St K Z R y bytes maxL ret n0 T' h' (cl + rm.cells) (sl + rm.slots) → Q' v h' → Go K R n0 Q T' pc' L (v.toList ++ st)) : Go K R n0 Q T pc L stk := by
  subst hp
  subst hst
  obtain ⟨⟨locs, X, hF⟩, e0, hn0, hx, hZ, hby, hml, hret, hlk, hown, hnm⟩ := S
  obtain ⟨v, _, ⟨T1, L1, c1, n1⟩, -, X1, ⟨Lc, hq, hl1, hc1, hs1⟩, stp⟩ := Jvm.LawKit.callS X hx (y := y') hown (mvT hZ w1) (mvT hZ w2) (mvT hZ w3) (mvT hZ w4) hy (backOf (Q := fun v h' L => Q' v h' ∧ Fr n0 L) (W := W) (C K.l []) hZ w4 w3 hfr hlo) (g := mkF K.m pc L (as'.reverse ++ st)) rfl (hL.trans hml.symm) (argsL := as') (rest := st) (lenOf hps hlen) rfl (by show 2 * 0 + _ ≤ _; rw [hW]; omega) (hb hby hd) (fun _ _ => ⟨rfl, e0, hc, hs⟩)
  dsimp only [Pt.U, Pt.locs, Pt.cells, Pt.slots] at X1 hl1 hc1 hs1 stp hq
  subst hl1 hc1 hs1
  obtain ⟨hq, hFc⟩ := hq
  exact Go.step stp (k T1 T1.heap v ⟨⟨_, X1, Fr.app hF hFc⟩, rfl, hn0, hx, hZ, hby, hml, hret, hlk, hown, hnm⟩ hq)
theorem Go.trans {T' : State} {st' : List Value} (hs : Steps K.p.tables K.e K.below (T.setTop (mkF K.m pc L st)) (T'.setTop (mkF K.m pc' L' st'))) (k : Go K R n0 Q T' pc' L' st') : Go K R n0 Q T pc L st := by
  obtain ⟨s₂, o, h1, r⟩ := k
  exact ⟨s₂, o, hs.trans h1, r⟩
theorem px_callC {y' : MethodName} {b' : ByteArray} {mx' : Nat} {rm : Room} {as' : List Value} {Q' : Option Value → Heap → Prop} {W idx : Nat} {ps : List FieldType} {rr : Option FieldType} (S : St K Z R y bytes maxL ret n0 T h cl sl) (C : Ctr Z n0 y' b' mx' none rm (.ref a :: as') h Q') (hin : y'.name = "<init>") (w1 : (Jvm.Cond.methodLink y.cls idx y').before a0 Z = true) (w2 : (Jvm.Cond.instanceMethod y').before a0 Z = true) (w3 : (Jvm.Cond.initialized y'.cls).before a0 Z = true) (w4 : (Jvm.Cond.code y' b' mx' none).before a0 Z = true) (hy : y'.cls ≠ "java/lang/invoke/MethodHandle" ∧ y'.cls ≠ "java/lang/invoke/VarHandle")
    (hps : parseMethodDescriptor y'.desc = some ⟨ps, rr⟩) (hlen : as'.length = ps.length) (hL : L.size = maxL) (hfr : rm.frames + 1 ≤ R.frames) (hW : (st.map fun v => v.category).sum = W) (hlo : W + (mx' + 11) + rm.locals ≤ R.locals) (hc : cl + rm.cells ≤ R.cells) (hs : sl + rm.slots ≤ R.slots) (hd : decode bytes pc = .ok (.invokespecial idx, 3)) (hp : pc + 3 = pc') {stk : List Value} (hst : stk = as'.reverse ++ .ref a :: st)
    (k : ∀ (T' : State) (h' : Heap) (v : Option Value), St K Z R y bytes maxL ret n0 T' h' (cl + rm.cells) (sl + rm.slots) → Q' v h' → Go K R n0 Q T' pc' L (v.toList ++ st)) : Go K R n0 Q T pc L stk := by
  subst hp
  subst hst
  obtain ⟨⟨locs, X, hF⟩, e0, hn0, hx, hZ, hby, hml, hret, hlk, hown, hnm⟩ := S
  obtain ⟨v, _, ⟨T1, L1, c1, n1⟩, -, X1, ⟨Lc, hq, hl1, hc1, hs1⟩, stp⟩ := X.specialBack hx (y := y') hin hown (mvT hZ w1) (mvT hZ w2) (mvT hZ w4) hy (backOf (Q := fun v h' L => Q' v h' ∧ Fr n0 L) (W := W) (C K.l []) hZ w4 w3 hfr hlo) (g := mkF K.m pc L (as'.reverse ++ .ref a :: st)) rfl (hL.trans hml.symm) (Steps.refl _) (a := a) (argsL := as') (rest := st) (lenOf hps hlen) rfl (by show 2 * 0 + _ ≤ _; rw [hW]; omega) (hb hby hd) (fun _ _ => ⟨rfl, e0, hc, hs⟩)
  dsimp only [Pt.U, Pt.locs, Pt.cells, Pt.slots] at X1 hl1 hc1 hs1 stp hq
  subst hl1 hc1 hs1
  obtain ⟨hq, hFc⟩ := hq
  exact Go.trans stp (k T1 T1.heap v ⟨⟨_, X1, Fr.app hF hFc⟩, rfl, hn0, hx, hZ, hby, hml, hret, hlk, hown, hnm⟩ hq)
theorem px_callV {y' : MethodName} {b' : ByteArray} {mx' : Nat} {rt' : Option FieldType} {rm : Room} {as' : List Value} {Q' : Option Value → Heap → Prop} {W idx : Nat} {ps : List FieldType} {rr : Option FieldType} {Cn : String} (S : St K Z R y bytes maxL ret n0 T h cl sl) (C : Ctr Z n0 y' b' mx' rt' rm (.ref a :: as') h Q') (E : Exa Z h a Cn) (w1 : (Jvm.Cond.methodLink y.cls idx y').before a0 Z = true) (w2 : (Jvm.Cond.declares y').before a0 Z = true) (w5 : (Jvm.Cond.selects Cn y' y').before a0 Z = true) (w6 : (Jvm.Cond.instanceMethod y').before a0 Z = true) (w3 : (Jvm.Cond.initialized y'.cls).before a0 Z = true) (w4 : (Jvm.Cond.code y' b' mx' rt').before a0 Z = true) (hnf : NotFace K.s y') (hy : y'.cls ≠ "java/lang/invoke/MethodHandle" ∧ y'.cls ≠ "java/lang/invoke/VarHandle")
    (hps : parseMethodDescriptor y'.desc = some ⟨ps, rr⟩) (hlen : as'.length = ps.length) (hL : L.size = maxL) (hfr : rm.frames + 1 ≤ R.frames) (hW : (st.map fun v => v.category).sum = W) (hlo : W + (mx' + 11) + rm.locals ≤ R.locals) (hc : cl + rm.cells ≤ R.cells) (hs : sl + rm.slots ≤ R.slots) (hd : decode bytes pc = .ok (.invokevirtual idx, 3)) (hp : pc + 3 = pc') {stk : List Value} (hst : stk = as'.reverse ++ .ref a :: st)
    (k : ∀ (T' : State) (h' : Heap) (v : Option Value), St K Z R y bytes maxL ret n0 T' h' (cl + rm.cells) (sl + rm.slots) → Q' v h' → Go K R n0 Q T' pc' L (v.toList ++ st)) : Go K R n0 Q T pc L stk := by
  subst hp
  subst hst
  obtain ⟨⟨locs, X, hF⟩, e0, hn0, hx, hZ, hby, hml, hret, hlk, hown, hnm⟩ := S
  obtain ⟨cq, kq, qa, qb, qc⟩ := isOf hZ e0 E
  obtain ⟨v, _, ⟨T1, L1, c1, n1⟩, -, X1, ⟨Lc, hq, hl1, hc1, hs1⟩, stp⟩ := X.virtualBack hx (y := y') (z := y') hown (mvT hZ w1) (mvT hZ w2) hnf (mvT hZ w5) (mvT hZ w6) hy (backOf (Q := fun v h' L => Q' v h' ∧ Fr n0 L) (W := W) (C K.l []) hZ w4 w3 hfr hlo) qa qc (g := mkF K.m pc L (as'.reverse ++ .ref a :: st)) rfl (hL.trans hml.symm) (Steps.refl _) (argsL := as') (rest := st) (lenOf hps hlen) rfl (by show 2 * 0 + _ ≤ _; rw [hW]; omega) (hb hby hd) (fun _ _ => ⟨rfl, e0, hc, hs⟩)
  dsimp only [Pt.U, Pt.locs, Pt.cells, Pt.slots] at X1 hl1 hc1 hs1 stp hq
  subst hl1 hc1 hs1
  obtain ⟨hq, hFc⟩ := hq
  exact Go.trans stp (k T1 T1.heap v ⟨⟨_, X1, Fr.app hF hFc⟩, rfl, hn0, hx, hZ, hby, hml, hret, hlk, hown, hnm⟩ hq)
theorem px_callI {y' : MethodName} {b' : ByteArray} {mx' : Nat} {rt' : Option FieldType} {rm : Room} {as' : List Value} {Q' : Option Value → Heap → Prop} {W idx : Nat} {ps : List FieldType} {rr : Option FieldType} {Cn : String} {xi : MethodName} {count : Nat} (S : St K Z R y bytes maxL ret n0 T h cl sl) (C : Ctr Z n0 y' b' mx' rt' rm (.ref a :: as') h Q') (E : Exa Z h a Cn) (w1 : (Jvm.Cond.methodLink y.cls idx xi).before a0 Z = true) (w2 : (Jvm.Cond.declares xi).before a0 Z = true) (w7 : (Jvm.Cond.interfaceMethod xi.cls xi.cls xi.name xi.desc).before a0 Z = true) (hface : ((Jvm.Cond.interfaceMethod xi.cls xi.cls xi.name xi.desc).onTables && (Jvm.Cond.interfaceMethod xi.cls xi.cls xi.name xi.desc).keepsFace) = true) (w5 : (Jvm.Cond.selects Cn xi y').before a0 Z = true) (w6 : (Jvm.Cond.instanceMethod y').before a0 Z = true) (w8 : (Jvm.Cond.publicMethod y').before a0 Z = true) (w9 : (Jvm.Cond.unhidden Cn xi.name xi.desc).before a0 Z = true) (w10 : (Jvm.Cond.castable Cn xi.cls).before a0 Z = true) (w3 : (Jvm.Cond.initialized y'.cls).before a0 Z = true) (w4 : (Jvm.Cond.code y' b' mx' rt').before a0 Z = true) (hy : xi.cls ≠ "java/lang/invoke/MethodHandle" ∧ xi.cls ≠ "java/lang/invoke/VarHandle")
    (hps : parseMethodDescriptor xi.desc = some ⟨ps, rr⟩) (hlen : as'.length = ps.length) (hL : L.size = maxL) (hfr : rm.frames + 1 ≤ R.frames) (hW : (st.map fun v => v.category).sum = W) (hlo : W + (mx' + 11) + rm.locals ≤ R.locals) (hc : cl + rm.cells ≤ R.cells) (hs : sl + rm.slots ≤ R.slots) (hd : decode bytes pc = .ok (.invokeinterface idx count, 5)) (hp : pc + 5 = pc') {stk : List Value} (hst : stk = as'.reverse ++ .ref a :: st)
    (k : ∀ (T' : State) (h' : Heap) (v : Option Value), St K Z R y bytes maxL ret n0 T' h' (cl + rm.cells) (sl + rm.slots) → Q' v h' → Go K R n0 Q T' pc' L (v.toList ++ st)) : Go K R n0 Q T pc L stk := by
  subst hp
  subst hst
  obtain ⟨⟨locs, X, hF⟩, e0, hn0, hx, hZ, hby, hml, hret, hlk, hown, hnm⟩ := S
  obtain ⟨cq, kq, qa, qb, qc⟩ := isOf hZ e0 E
  obtain ⟨v, _, ⟨T1, L1, c1, n1⟩, -, X1, ⟨Lc, hq, hl1, hc1, hs1⟩, stp⟩ := X.interfaceBack hx (xi := xi) (y := y') hown (mvT hZ w1) (mvT hZ w2) (mvT hZ w7 hface) (mvT hZ w5) (mvT hZ w6) (mvT hZ w8) (mvT hZ w9) (mvT hZ w10) hy (backOf (Q := fun v h' L => Q' v h' ∧ Fr n0 L) (W := W) (C K.l []) hZ w4 w3 hfr hlo) qa qb qc (g := mkF K.m pc L (as'.reverse ++ .ref a :: st)) rfl (hL.trans hml.symm) (Steps.refl _) (argsL := as') (rest := st) (lenOf hps hlen) rfl (by show 2 * 0 + _ ≤ _; rw [hW]; omega) (hb hby hd) (fun _ _ => ⟨rfl, e0, hc, hs⟩)
  dsimp only [Pt.U, Pt.locs, Pt.cells, Pt.slots] at X1 hl1 hc1 hs1 stp hq
  subst hl1 hc1 hs1
  obtain ⟨hq, hFc⟩ := hq
  exact Go.trans stp (k T1 T1.heap v ⟨⟨_, X1, Fr.app hF hFc⟩, rfl, hn0, hx, hZ, hby, hml, hret, hlk, hown, hnm⟩ hq)
theorem St.nf {y' : MethodName} (S : St K Z R y bytes maxL ret n0 T h cl sl) (w : (Jvm.Cond.selects y'.cls y' y').before a0 Z = true) : NotFace K.s y' := by
  obtain ⟨⟨locs, X, hF⟩, e0, hn0, hx, hZ, hby, hml, hret, hlk, hown, hnm⟩ := S
  exact notFace_of_selects (args := #[]) (mvT hZ w)
theorem px_lsw (S : St K Z R y bytes maxL ret n0 T h cl sl) {df o : Int} {ps : Array (Int × Int)} {pl : List (Int × Int)} {ln : Nat} {u : Int32} (hd : decode bytes pc = .ok (.lookupswitch df ps, ln)) (hpl : ps.toList = pl) (hm : (pl.zip (pl.drop 1)).all (fun (a, next) => a.1 < next.1) = true) (hu : lookupswitch.offset pl df u.toInt = o) (ho : 0 ≤ (pc : Int) + o) (hp : ((pc : Int) + o).toNat = pc') (k : Go K R n0 Q T pc' L st) : Go K R n0 Q T pc L (.int u :: st) := by
  subst hp
  subst hpl
  obtain ⟨⟨locs, X, hF⟩, e0, hn0, hx, hZ, hby, hml, hret, hlk, hown, hnm⟩ := S
  refine Go.step (fun _ t => ?_) k
  have hd' := hb hby hd
  show Steps K.p.tables K.e K.below (T.setTop { method := K.m, pc := pc, locals := L, stack := .int u :: st, locked := none }) _
  jvm_step X.here [X.here.top, hx, hd', lookupswitch.wp_chain, hu, ho]
  exact ⟨by simpa using hm, t⟩
theorem Go.join {α : Type} {P : α → Prop} {pcj : Nat} {Lj : α → Array Slot} {stj : α → List Value} (h1 : ∀ x, P x → Go K R n0 Q T pcj (Lj x) (stj x)) (h2 : (∀ x, P x → Go K R n0 Q T pcj (Lj x) (stj x)) → Go K R n0 Q T pc L st) : Go K R n0 Q T pc L st := h2 h1
theorem Go.joinT {α : Type} {P : α → Prop} {pcj cl' sl' : Nat} {Lj : α → Array Slot} {stj : α → List Value} (S : St K Z R y bytes maxL ret n0 T h cl sl) (h1 : ∀ (x : α) (T' : State), St K Z R y bytes maxL ret n0 T' h cl' sl' → P x → Go K R n0 Q T' pcj (Lj x) (stj x)) (h2 : (∀ (x : α) (T' : State), St K Z R y bytes maxL ret n0 T' h cl' sl' → P x → Go K R n0 Q T' pcj (Lj x) (stj x)) → Go K R n0 Q T pc L st) : Go K R n0 Q T pc L st := h2 h1
theorem Go.joinH {α : Type} {P : α → Heap → Prop} {pcj cl' sl' : Nat} {Lj : α → Array Slot} {stj : α → List Value} (S : St K Z R y bytes maxL ret n0 T h cl sl) (h1 : ∀ (x : α) (T' : State) (h' : Heap), St K Z R y bytes maxL ret n0 T' h' cl' sl' → P x h' → Go K R n0 Q T' pcj (Lj x) (stj x)) (h2 : (∀ (x : α) (T' : State) (h' : Heap), St K Z R y bytes maxL ret n0 T' h' cl' sl' → P x h' → Go K R n0 Q T' pcj (Lj x) (stj x)) → Go K R n0 Q T pc L st) : Go K R n0 Q T pc L st := h2 h1
theorem Go.loopH {α : Type} {Inv : Nat → α → Heap → Prop} {pcj cl' sl' : Nat} {Lj : α → Array Slot} {stj : α → List Value} (S : St K Z R y bytes maxL ret n0 T h cl sl)
    (h1 : ∀ k, (∀ j, j < k → ∀ (x : α) (T' : State) (h' : Heap), St K Z R y bytes maxL ret n0 T' h' cl' sl' → Inv j x h' → Go K R n0 Q T' pcj (Lj x) (stj x)) → ∀ (x : α) (T' : State) (h' : Heap), St K Z R y bytes maxL ret n0 T' h' cl' sl' → Inv k x h' → Go K R n0 Q T' pcj (Lj x) (stj x))
    (h2 : (∀ (k : Nat) (x : α) (T' : State) (h' : Heap), St K Z R y bytes maxL ret n0 T' h' cl' sl' → Inv k x h' → Go K R n0 Q T' pcj (Lj x) (stj x)) → Go K R n0 Q T pc L st) : Go K R n0 Q T pc L st := h2 (fun k => Nat.strongRecOn k h1)
theorem i32_of {x y : Int32} {n : Int} (h : x.toInt = n) (hy : y.toInt = n) : x = y := Int32.toInt_inj.mp (h.trans hy.symm)
theorem i64_of {x y : Int64} {n : Int} (h : x.toInt = n) (hy : y.toInt = n) : x = y := Int64.toInt_inj.mp (h.trans hy.symm)
theorem ne_new {a b n : Nat} (e : a = n) (h : b < n) : b ≠ a := by omega
theorem f_imul (x y : Int32) (n : Int) (hy : y.toInt = n) : ((x * y).toInt - x.toInt * n) % 4294967296 = 0 := by rw [← hy]; exact c_imul x y
theorem f_imul' (x y : Int32) (n : Int) (hx : x.toInt = n) : ((x * y).toInt - n * y.toInt) % 4294967296 = 0 := by rw [← hx]; exact c_imul x y
theorem f_lmul (x y : Int64) (n : Int) (hy : y.toInt = n) : ((x * y).toInt - x.toInt * n) % 18446744073709551616 = 0 := by rw [← hy]; exact c_lmul x y
theorem f_lmul' (x y : Int64) (n : Int) (hx : x.toInt = n) : ((x * y).toInt - n * y.toInt) % 18446744073709551616 = 0 := by rw [← hx]; exact c_lmul x y
theorem f_imask (x m : Int32) (k : Nat) (P : Int) (hk : k ≤ 31) (hm : m.toBitVec.toNat = 2 ^ k - 1) (hP : ((2 ^ k : Nat) : Int) = P) : (x &&& m).toInt = x.toInt % P := by rw [← hP]; exact c_mask x m k hk hm
theorem f_imask' (m x : Int32) (k : Nat) (P : Int) (hk : k ≤ 31) (hm : m.toBitVec.toNat = 2 ^ k - 1) (hP : ((2 ^ k : Nat) : Int) = P) : (m &&& x).toInt = x.toInt % P := by rw [Int32.and_comm]; exact f_imask x m k P hk hm hP
theorem f_lmask (x m : Int64) (k : Nat) (P : Int) (hk : k ≤ 63) (hm : m.toBitVec.toNat = 2 ^ k - 1) (hP : ((2 ^ k : Nat) : Int) = P) : (x &&& m).toInt = x.toInt % P := by rw [← hP]; exact c_maskL x m k hk hm
theorem f_lmask' (m x : Int64) (k : Nat) (P : Int) (hk : k ≤ 63) (hm : m.toBitVec.toNat = 2 ^ k - 1) (hP : ((2 ^ k : Nat) : Int) = P) : (m &&& x).toInt = x.toInt % P := by rw [Int64.and_comm]; exact f_lmask x m k P hk hm hP
theorem f_ishl (x q : Int32) (k : Nat) (P : Int) (hk : q.toBitVec.toNat % 32 = k) (hP : ((2 ^ k : Nat) : Int) = P) : ((x <<< (q &&& 31)).toInt - x.toInt * P) % 4294967296 = 0 := by rw [← hP]; exact c_ishl x q k hk
theorem f_ishr (x q : Int32) (k : Nat) (P : Int) (hk : q.toBitVec.toNat % 32 = k) (hP : ((2 ^ k : Nat) : Int) = P) : (x >>> (q &&& 31)).toInt = x.toInt / P := by rw [← hP]; exact c_ishr x q k hk
theorem f_iushr (x q : Int32) (k : Nat) (P : Int) (hk : q.toBitVec.toNat % 32 = k) (h0 : 0 < k) (hP : ((2 ^ k : Nat) : Int) = P) : (ushr x q).toInt = (x.toInt % 4294967296) / P := by rw [← hP]; exact c_iushr x q k hk h0
theorem f_lshl (x : Int64) (q : Int32) (k : Nat) (P : Int) (hk : q.toBitVec.toNat % 64 = k) (hP : ((2 ^ k : Nat) : Int) = P) : ((x <<< (q &&& 0x3f).toInt64).toInt - x.toInt * P) % 18446744073709551616 = 0 := by rw [← hP]; exact c_lshl x q k hk
theorem f_lshr (x : Int64) (q : Int32) (k : Nat) (P : Int) (hk : q.toBitVec.toNat % 64 = k) (hP : ((2 ^ k : Nat) : Int) = P) : (x >>> (q &&& 0x3f).toInt64).toInt = x.toInt / P := by rw [← hP]; exact c_lshr x q k hk
theorem f_lushr (x : Int64) (q : Int32) (k : Nat) (P : Int) (hk : q.toBitVec.toNat % 64 = k) (h0 : 0 < k) (hP : ((2 ^ k : Nat) : Int) = P) : (ushrL x q).toInt = (x.toInt % 18446744073709551616) / P := by rw [← hP]; exact c_lushr x q k hk h0
theorem f_idiv (x y : Int32) (d : Int) (hy : y.toInt = d) (hd : y ≠ -1) : (0 ≤ x.toInt → (x / y).toInt = x.toInt / d) ∧ (x.toInt < 0 → (x / y).toInt = -((-x.toInt) / d)) := c_idiv x y d hy hd
theorem f_irem (x y : Int32) (d : Int) (hy : y.toInt = d) : (0 ≤ x.toInt → (x % y).toInt = x.toInt % d) ∧ (x.toInt < 0 → (x % y).toInt = -((-x.toInt) % d)) := c_irem x y d hy
theorem f_ldiv (x y : Int64) (d : Int) (hy : y.toInt = d) (hd : y ≠ -1) : (0 ≤ x.toInt → (x / y).toInt = x.toInt / d) ∧ (x.toInt < 0 → (x / y).toInt = -((-x.toInt) / d)) := c_ldiv x y d hy hd
theorem f_i2b (x : Int32) : ((i2b x).toInt - x.toInt) % 256 = 0 ∧ -128 ≤ (i2b x).toInt ∧ (i2b x).toInt < 128 := c_i2b x
theorem f_i2s (x : Int32) : ((i2s x).toInt - x.toInt) % 65536 = 0 ∧ -32768 ≤ (i2s x).toInt ∧ (i2s x).toInt < 32768 := c_i2s x
theorem f_i2c (x : Int32) : ((i2c x).toInt - x.toInt) % 65536 = 0 ∧ 0 ≤ (i2c x).toInt ∧ (i2c x).toInt < 65536 := c_i2c x
theorem x_iadd {a b : Int32} {la ha lb hb : Int} (p : la ≤ a.toInt ∧ a.toInt ≤ ha) (q : lb ≤ b.toInt ∧ b.toInt ≤ hb) (h1 : -2147483648 ≤ la + lb) (h2 : ha + hb < 2147483648) : (a + b).toInt = a.toInt + b.toInt := by have r := c_iadd a b; have s := rng32 (a + b); omega
theorem x_isub {a b : Int32} {la ha lb hb : Int} (p : la ≤ a.toInt ∧ a.toInt ≤ ha) (q : lb ≤ b.toInt ∧ b.toInt ≤ hb) (h1 : -2147483648 ≤ la - hb) (h2 : ha - lb < 2147483648) : (a - b).toInt = a.toInt - b.toInt := by have r := c_isub a b; have s := rng32 (a - b); omega
theorem x_imask {a m : Int32} {P : Int} (k : Nat) (hk : k ≤ 32 - 1) (hm : m.toBitVec.toNat = 2 ^ k - 1) (hP : ((2 ^ k : Nat) : Int) = P) : (a &&& m).toInt = a.toInt % P := f_imask a m k P hk hm hP
theorem x_ineg {a : Int32} {la ha : Int} (p : la ≤ a.toInt ∧ a.toInt ≤ ha) (h1 : -2147483648 < la) : (-a).toInt = -a.toInt := by have r := c_ineg a; have s := rng32 (-a); have t := rng32 a; omega
theorem x_ishr {x : Int32} {q : Int32} {P : Int} (k : Nat) (hk : q.toBitVec.toNat % 32 = k) (hP : ((2 ^ k : Nat) : Int) = P) : (x >>> (q &&& 31)).toInt = x.toInt / P := f_ishr x q k P hk hP
theorem x_iushr {x : Int32} {q : Int32} {P la ha : Int} (p : la ≤ x.toInt ∧ x.toInt ≤ ha) (h1 : 0 ≤ la) (k : Nat) (hk : q.toBitVec.toNat % 32 = k) (h0 : 0 < k) (hP : ((2 ^ k : Nat) : Int) = P) : (ushr x q).toInt = x.toInt / P := by
  have r := f_iushr x q k P hk h0 hP
  have s := rng32 x
  rw [r]; congr 1; omega
theorem x_imul {a b : Int32} {la ha n : Int} (p : la ≤ a.toInt ∧ a.toInt ≤ ha) (hn : b.toInt = n) (h0 : 0 ≤ n) (h1 : -2147483648 ≤ la * n) (h2 : ha * n < 2147483648) : (a * b).toInt = a.toInt * n := by
  have r := f_imul a b n hn
  have s := rng32 (a * b)
  have m1 := Int.mul_le_mul_of_nonneg_right p.1 h0
  have m2 := Int.mul_le_mul_of_nonneg_right p.2 h0
  generalize a.toInt * n = z at *
  generalize la * n = z1 at *
  generalize ha * n = z2 at *
  omega
theorem x_imulN {a b : Int32} {la ha n : Int} (p : la ≤ a.toInt ∧ a.toInt ≤ ha) (hn : b.toInt = n) (h0 : n ≤ 0) (h1 : -2147483648 ≤ ha * n) (h2 : la * n < 2147483648) : (a * b).toInt = a.toInt * n := by
  have r := f_imul a b n hn
  have s := rng32 (a * b)
  have m1 := Int.mul_le_mul_of_nonpos_right p.1 h0
  have m2 := Int.mul_le_mul_of_nonpos_right p.2 h0
  generalize a.toInt * n = z at *
  generalize la * n = z1 at *
  generalize ha * n = z2 at *
  omega
theorem x_imulN' {a b : Int32} {la ha n : Int} (p : la ≤ b.toInt ∧ b.toInt ≤ ha) (hn : a.toInt = n) (h0 : n ≤ 0) (h1 : -2147483648 ≤ ha * n) (h2 : la * n < 2147483648) : (a * b).toInt = b.toInt * n := by
  rw [Int32.mul_comm]; exact x_imulN p hn h0 h1 h2
theorem x_imul' {a b : Int32} {la ha n : Int} (p : la ≤ b.toInt ∧ b.toInt ≤ ha) (hn : a.toInt = n) (h0 : 0 ≤ n) (h1 : -2147483648 ≤ la * n) (h2 : ha * n < 2147483648) : (a * b).toInt = b.toInt * n := by
  rw [Int32.mul_comm]; exact x_imul p hn h0 h1 h2
theorem x_ladd {a b : Int64} {la ha lb hb : Int} (p : la ≤ a.toInt ∧ a.toInt ≤ ha) (q : lb ≤ b.toInt ∧ b.toInt ≤ hb) (h1 : -9223372036854775808 ≤ la + lb) (h2 : ha + hb < 9223372036854775808) : (a + b).toInt = a.toInt + b.toInt := by have r := c_ladd a b; have s := rng64 (a + b); omega
theorem x_lsub {a b : Int64} {la ha lb hb : Int} (p : la ≤ a.toInt ∧ a.toInt ≤ ha) (q : lb ≤ b.toInt ∧ b.toInt ≤ hb) (h1 : -9223372036854775808 ≤ la - hb) (h2 : ha - lb < 9223372036854775808) : (a - b).toInt = a.toInt - b.toInt := by have r := c_lsub a b; have s := rng64 (a - b); omega
theorem x_lmask {a m : Int64} {P : Int} (k : Nat) (hk : k ≤ 64 - 1) (hm : m.toBitVec.toNat = 2 ^ k - 1) (hP : ((2 ^ k : Nat) : Int) = P) : (a &&& m).toInt = a.toInt % P := f_lmask a m k P hk hm hP
theorem x_lneg {a : Int64} {la ha : Int} (p : la ≤ a.toInt ∧ a.toInt ≤ ha) (h1 : -9223372036854775808 < la) : (-a).toInt = -a.toInt := by have r := c_lneg a; have s := rng64 (-a); have t := rng64 a; omega
theorem x_lshr {x : Int64} {q : Int32} {P : Int} (k : Nat) (hk : q.toBitVec.toNat % 64 = k) (hP : ((2 ^ k : Nat) : Int) = P) : (x >>> (q &&& 0x3f).toInt64).toInt = x.toInt / P := f_lshr x q k P hk hP
theorem x_lushr {x : Int64} {q : Int32} {P la ha : Int} (p : la ≤ x.toInt ∧ x.toInt ≤ ha) (h1 : 0 ≤ la) (k : Nat) (hk : q.toBitVec.toNat % 64 = k) (h0 : 0 < k) (hP : ((2 ^ k : Nat) : Int) = P) : (ushrL x q).toInt = x.toInt / P := by
  have r := f_lushr x q k P hk h0 hP
  have s := rng64 x
  rw [r]; congr 1; omega
theorem x_lmul {a b : Int64} {la ha n : Int} (p : la ≤ a.toInt ∧ a.toInt ≤ ha) (hn : b.toInt = n) (h0 : 0 ≤ n) (h1 : -9223372036854775808 ≤ la * n) (h2 : ha * n < 9223372036854775808) : (a * b).toInt = a.toInt * n := by
  have r := f_lmul a b n hn
  have s := rng64 (a * b)
  have m1 := Int.mul_le_mul_of_nonneg_right p.1 h0
  have m2 := Int.mul_le_mul_of_nonneg_right p.2 h0
  generalize a.toInt * n = z at *
  generalize la * n = z1 at *
  generalize ha * n = z2 at *
  omega
theorem x_lmulN {a b : Int64} {la ha n : Int} (p : la ≤ a.toInt ∧ a.toInt ≤ ha) (hn : b.toInt = n) (h0 : n ≤ 0) (h1 : -9223372036854775808 ≤ ha * n) (h2 : la * n < 9223372036854775808) : (a * b).toInt = a.toInt * n := by
  have r := f_lmul a b n hn
  have s := rng64 (a * b)
  have m1 := Int.mul_le_mul_of_nonpos_right p.1 h0
  have m2 := Int.mul_le_mul_of_nonpos_right p.2 h0
  generalize a.toInt * n = z at *
  generalize la * n = z1 at *
  generalize ha * n = z2 at *
  omega
theorem x_lmulN' {a b : Int64} {la ha n : Int} (p : la ≤ b.toInt ∧ b.toInt ≤ ha) (hn : a.toInt = n) (h0 : n ≤ 0) (h1 : -9223372036854775808 ≤ ha * n) (h2 : la * n < 9223372036854775808) : (a * b).toInt = b.toInt * n := by
  rw [Int64.mul_comm]; exact x_lmulN p hn h0 h1 h2
theorem x_lmul' {a b : Int64} {la ha n : Int} (p : la ≤ b.toInt ∧ b.toInt ≤ ha) (hn : a.toInt = n) (h0 : 0 ≤ n) (h1 : -9223372036854775808 ≤ la * n) (h2 : ha * n < 9223372036854775808) : (a * b).toInt = b.toInt * n := by
  rw [Int64.mul_comm]; exact x_lmul p hn h0 h1 h2
theorem ib_add {a b la ha lb hb lo hi : Int} (p : la ≤ a ∧ a ≤ ha) (q : lb ≤ b ∧ b ≤ hb) (h1 : lo ≤ la + lb) (h2 : ha + hb ≤ hi) : lo ≤ a + b ∧ a + b ≤ hi := by omega
theorem ib_sub {a b la ha lb hb lo hi : Int} (p : la ≤ a ∧ a ≤ ha) (q : lb ≤ b ∧ b ≤ hb) (h1 : lo ≤ la - hb) (h2 : ha - lb ≤ hi) : lo ≤ a - b ∧ a - b ≤ hi := by omega
theorem ib_neg {a la ha lo hi : Int} (p : la ≤ a ∧ a ≤ ha) (h1 : lo ≤ -ha) (h2 : -la ≤ hi) : lo ≤ -a ∧ -a ≤ hi := by omega
theorem ib_mod {a lo hi : Int} (P : Int) (hP : 0 < P) (h1 : lo ≤ 0) (h2 : P - 1 ≤ hi) : lo ≤ a % P ∧ a % P ≤ hi := by have := Int.emod_nonneg a (Int.ne_of_gt hP); have := Int.emod_lt_of_pos a hP; omega
theorem ib_div {a la ha lo hi : Int} (P : Int) (hP : 0 < P) (p : la ≤ a ∧ a ≤ ha) (h1 : lo ≤ la / P) (h2 : ha / P ≤ hi) : lo ≤ a / P ∧ a / P ≤ hi := ⟨Int.le_trans h1 (Int.ediv_le_ediv hP p.1), Int.le_trans (Int.ediv_le_ediv hP p.2) h2⟩
theorem ib_mul {a la ha lo hi : Int} (n : Int) (h0 : 0 ≤ n) (p : la ≤ a ∧ a ≤ ha) (h1 : lo ≤ la * n) (h2 : ha * n ≤ hi) : lo ≤ a * n ∧ a * n ≤ hi := ⟨Int.le_trans h1 (Int.mul_le_mul_of_nonneg_right p.1 h0), Int.le_trans (Int.mul_le_mul_of_nonneg_right p.2 h0) h2⟩
theorem ib_mulN {a la ha lo hi : Int} (n : Int) (h0 : n ≤ 0) (p : la ≤ a ∧ a ≤ ha) (h1 : lo ≤ ha * n) (h2 : la * n ≤ hi) : lo ≤ a * n ∧ a * n ≤ hi := ⟨Int.le_trans h1 (Int.mul_le_mul_of_nonpos_right p.2 h0), Int.le_trans (Int.mul_le_mul_of_nonpos_right p.1 h0) h2⟩
theorem x_idiv {a b : Int32} {la ha d : Int} (p : la ≤ a.toInt ∧ a.toInt ≤ ha) (hy : b.toInt = d) (h0 : 0 ≤ la) (hd : b ≠ -1) : (a / b).toInt = a.toInt / d := (c_idiv a b d hy hd).1 (Int.le_trans h0 p.1)
theorem x_irem {a b : Int32} {la ha d : Int} (p : la ≤ a.toInt ∧ a.toInt ≤ ha) (hy : b.toInt = d) (h0 : 0 ≤ la) : (a % b).toInt = a.toInt % d := (c_irem a b d hy).1 (Int.le_trans h0 p.1)
theorem x_iremV {a b : Int32} {la ha lb hb : Int} (p : la ≤ a.toInt ∧ a.toInt ≤ ha) (q : lb ≤ b.toInt ∧ b.toInt ≤ hb) (h0 : 0 ≤ la) (h1 : 0 < lb) : 0 ≤ (a % b).toInt ∧ (a % b).toInt < b.toInt := by
  have r := (c_iremV a b).1 (Int.le_trans h0 p.1) (Int.lt_of_lt_of_le h1 q.1)
  exact ⟨r.1, r.2.1⟩
theorem ib_rem {r y lb hb hi : Int} (x : 0 ≤ r ∧ r < y) (q : lb ≤ y ∧ y ≤ hb) (h : hb - 1 ≤ hi) : 0 ≤ r ∧ r ≤ hi := by omega
theorem rb32 (x : Int32) : -2147483648 ≤ x.toInt ∧ x.toInt ≤ 2147483647 := by have := rng32 x; omega
theorem rb64 (x : Int64) : -9223372036854775808 ≤ x.toInt ∧ x.toInt ≤ 9223372036854775807 := by have := rng64 x; omega
theorem x_l2i {x : Int64} {la ha : Int} (p : la ≤ x.toInt ∧ x.toInt ≤ ha) (h1 : -2147483648 ≤ la) (h2 : ha < 2147483648) : x.toInt32.toInt = x.toInt := by have r := c_l2i x; have s := rng32 x.toInt32; omega
end Kit
end Jvm.OwnK
namespace Jvm.Pilot.@@N@@
open Jvm Jvm.ClassFile Sem Op Lib Jvm.Free Jvm.Stand Jvm.LawKit Jvm.RoadKit Bundle Jvm.OwnK Jvm.Pilot.@@N@@.Jvm.D
set_option maxRecDepth 100000
def stpM (N : Nat) : Nat := Nat.add (Nat.add (Nat.div N 2) (Nat.div N 8)) 3
def invM (N : Nat) : Nat := (cond (Nat.beq N 32) 7 (cond (Nat.beq N 64) 3 (cond (Nat.beq N 128) 91 (cond (Nat.beq N 256) 11 (cond (Nat.beq N 512) 363 0)))))
def kkM (N s : Nat) : Nat := Nat.mod (Nat.mul s (invM N)) N
def ddM (N m i k : Nat) : Nat := cond (Nat.blt i m) (cond (Nat.blt (kkM N (Nat.sub N (Nat.succ i))) k) 1 0) 0
def dsM (N m k : Nat) : Nat := Nat.add (Nat.add (ddM N m 0 k) (ddM N m 1 k)) (ddM N m 2 k)
def rkM (N m s : Nat) : Nat := Nat.sub (kkM N s) (dsM N m (kkM N s))
def nx2 (N m a : Nat) : Nat := cond (Nat.blt a (Nat.sub N m)) a (Nat.mod (Nat.add a (stpM N)) N)
def nxM (N m p : Nat) : Nat := nx2 N m (Nat.mod (Nat.add p (stpM N)) N)
def pv2 (N m a : Nat) : Nat := cond (Nat.blt a (Nat.sub N m)) a (Nat.mod (Nat.sub (Nat.add a N) (stpM N)) N)
def pvM (N m p : Nat) : Nat := pv2 N m (Nat.mod (Nat.sub (Nat.add p N) (stpM N)) N)
def okN (N m s n p : Nat) : Bool := cond (Nat.ble (dsM N m (kkM N s)) (kkM N s)) (cond (Nat.blt n (Nat.sub N m)) (cond (Nat.blt (rkM N m s) (Nat.sub N m))
  (cond (cond (Nat.beq (rkM N m n) (Nat.succ (rkM N m s))) true (cond (Nat.beq n 0) (Nat.beq (Nat.succ (rkM N m s)) (Nat.sub N m)) false))
    (cond (Nat.beq s 0) (Nat.beq (rkM N m 0) 0) (cond (Nat.blt p (Nat.sub N m)) (cond (Nat.beq (nxM N m p) s) (Nat.beq (Nat.succ (rkM N m p)) (rkM N m s)) false) false)) false) false) false) false
def okS (N m s : Nat) : Bool := okN N m s (nxM N m s) (pvM N m s)
def allN (f : Nat → Bool) : Nat → Bool
  | 0 => true
  | k + 1 => cond (f k) (allN f k) false
def okM (N m : Nat) : Bool := allN (okS N m) (Nat.sub N m)
def ok4 (N : Nat) : Bool := cond (okM N 0) (cond (okM N 1) (cond (okM N 2) (okM N 3) false) false) false
theorem ok4_32 : ok4 32 = true := by decide +kernel
theorem ok4_64 : ok4 64 = true := by decide +kernel
theorem ok4_128 : ok4 128 = true := by decide +kernel
theorem ok4_256 : ok4 256 = true := by decide +kernel
theorem ok4_512 : ok4 512 = true := by decide +kernel
def IsN (N : Nat) : Prop := N = 32 ∨ N = 64 ∨ N = 128 ∨ N = 256 ∨ N = 512
theorem ca {a b : Bool} (h : cond a b false = true) : a = true ∧ b = true := by cases a <;> simp_all
theorem allN_lt {f : Nat → Bool} : ∀ {n : Nat}, allN f n = true → ∀ {s : Nat}, s < n → f s = true
  | 0, _, s, h => absurd h (Nat.not_lt_zero s)
  | n + 1, h, s, hs => by
    obtain ⟨h1, h2⟩ := ca h
    by_cases e : s = n
    · rw [e]; exact h1
    · exact allN_lt h2 (by omega)
theorem ok_all {N m : Nat} (hN : IsN N) (hm : m ≤ 3) : okM N m = true := by
  have h4 : ok4 N = true := by
    rcases hN with h | h | h | h | h <;> subst h
    · exact ok4_32
    · exact ok4_64
    · exact ok4_128
    · exact ok4_256
    · exact ok4_512
  obtain ⟨h0, h⟩ := ca h4
  obtain ⟨h1, h⟩ := ca h
  obtain ⟨h2, h3⟩ := ca h
  match m, hm with
  | 0, _ => exact h0
  | 1, _ => exact h1
  | 2, _ => exact h2
  | 3, _ => exact h3
theorem blt_of {a b : Nat} (h : Nat.blt a b = true) : a < b := by simpa [Nat.blt_eq] using h
def OkS (N m s : Nat) : Prop := dsM N m (kkM N s) ≤ kkM N s ∧ nxM N m s < N - m ∧ rkM N m s < N - m ∧ (rkM N m (nxM N m s) = rkM N m s + 1 ∨ (nxM N m s = 0 ∧ rkM N m s + 1 = N - m)) ∧ (s = 0 → rkM N m 0 = 0) ∧ (¬ s = 0 → pvM N m s < N - m ∧ nxM N m (pvM N m s) = s ∧ rkM N m (pvM N m s) + 1 = rkM N m s)
theorem OkS.ds {N m s : Nat} (o : OkS N m s) : dsM N m (kkM N s) ≤ kkM N s := o.1
theorem OkS.nx {N m s : Nat} (o : OkS N m s) : nxM N m s < N - m := o.2.1
theorem OkS.rk {N m s : Nat} (o : OkS N m s) : rkM N m s < N - m := o.2.2.1
theorem OkS.up {N m s : Nat} (o : OkS N m s) : rkM N m (nxM N m s) = rkM N m s + 1 ∨ (nxM N m s = 0 ∧ rkM N m s + 1 = N - m) := o.2.2.2.1
theorem OkS.z {N m s : Nat} (o : OkS N m s) : s = 0 → rkM N m 0 = 0 := o.2.2.2.2.1
theorem OkS.pv {N m s : Nat} (o : OkS N m s) : ¬ s = 0 → pvM N m s < N - m ∧ nxM N m (pvM N m s) = s ∧ rkM N m (pvM N m s) + 1 = rkM N m s := o.2.2.2.2.2
theorem ok_of {N m s : Nat} (hN : IsN N) (hm : m ≤ 3) (hs : s < N - m) : OkS N m s := by
  have h := allN_lt (ok_all hN hm) hs
  obtain ⟨h1, h⟩ := ca h
  obtain ⟨h2, h⟩ := ca h
  obtain ⟨h3, h⟩ := ca h
  obtain ⟨h4, h⟩ := ca h
  refine ⟨Nat.le_of_ble_eq_true h1, blt_of h2, blt_of h3, ?_, ?_, ?_⟩
  · cases q : Nat.beq (rkM N m (nxM N m s)) (Nat.succ (rkM N m s)) with
    | true => exact Or.inl (Nat.eq_of_beq_eq_true q)
    | false =>
      rw [q] at h4
      obtain ⟨a, b⟩ := ca h4
      exact Or.inr ⟨Nat.eq_of_beq_eq_true a, Nat.eq_of_beq_eq_true b⟩
  · intro e
    subst e
    exact Nat.eq_of_beq_eq_true h
  · intro e
    have q : Nat.beq s 0 = false := by
      cases s with
      | zero => exact absurd rfl e
      | succ s => rfl
    rw [q] at h
    obtain ⟨a, h⟩ := ca h
    obtain ⟨b, c⟩ := ca h
    exact ⟨blt_of a, Nat.eq_of_beq_eq_true b, Nat.eq_of_beq_eq_true c⟩
def PP (N m : Nat) : Nat → Nat
  | 0 => 0
  | J + 1 => nxM N m (PP N m J)
theorem N_ge {N : Nat} (hN : IsN N) : 32 ≤ N ∧ N ≤ 512 := by rcases hN with h | h | h | h | h <;> omega
theorem PP_ok {N m : Nat} (hN : IsN N) (hm : m ≤ 3) : ∀ J, J < N - m → PP N m J < N - m ∧ rkM N m (PP N m J) = J
  | 0, h => ⟨h, (ok_of hN hm h).z rfl⟩
  | J + 1, h => by
    obtain ⟨h1, h2⟩ := PP_ok hN hm J (by omega)
    have o := ok_of hN hm h1
    refine ⟨o.nx, ?_⟩
    rcases o.up with u | ⟨-, u⟩
    · show rkM N m (nxM N m (PP N m J)) = J + 1
      rw [u, h2]
    · omega
theorem PP_end {N m : Nat} (hN : IsN N) (hm : m ≤ 3) : PP N m (N - m) = 0 := by
  have hn := N_ge hN
  obtain ⟨J, hJ⟩ : ∃ J, N - m = J + 1 := ⟨N - m - 1, by omega⟩
  obtain ⟨h1, h2⟩ := PP_ok hN hm J (by omega)
  have o := ok_of hN hm h1
  have o2 := (ok_of hN hm o.nx).rk
  rw [hJ]
  show nxM N m (PP N m J) = 0
  rcases o.up with u | ⟨u, -⟩
  · rw [u, h2] at o2; omega
  · exact u
theorem PP_ne {N m J J' : Nat} (hN : IsN N) (hm : m ≤ 3) (h : J < N - m) (h' : J' < N - m) (hne : ¬ J = J') : ¬ PP N m J = PP N m J' := fun e => by
  have a := (PP_ok hN hm J h).2
  have b := (PP_ok hN hm J' h').2
  rw [e] at a
  omega
theorem PP_sur {N m : Nat} (hN : IsN N) (hm : m ≤ 3) : ∀ r s, s < N - m → rkM N m s = r → PP N m r = s
  | 0, s, hs, hr => by
    by_cases e : s = 0
    · rw [e]; rfl
    · have q := ((ok_of hN hm hs).pv e).2.2
      omega
  | r + 1, s, hs, hr => by
    by_cases e : s = 0
    · rw [e, (ok_of hN hm hs).z e] at hr; omega
    · obtain ⟨a, b, c⟩ := (ok_of hN hm hs).pv e
      show nxM N m (PP N m r) = s
      rw [PP_sur hN hm r _ a (by omega)]
      exact b
theorem PP_step {N m J : Nat} (hN : IsN N) (hm : m ≤ 3) (h : J < N - m) : PP N m (J + 1) < N - m ∧ (((PP N m J + stpM N) % N < N - m ∧ PP N m (J + 1) = (PP N m J + stpM N) % N) ∨ (N - m ≤ (PP N m J + stpM N) % N ∧ PP N m (J + 1) = ((PP N m J + stpM N) % N + stpM N) % N)) := by
  have o := (ok_of hN hm (PP_ok hN hm J h).1).nx
  refine ⟨o, ?_⟩
  show _ ∧ nx2 N m ((PP N m J + stpM N) % N) = _ ∨ _ ∧ nx2 N m ((PP N m J + stpM N) % N) = _
  unfold nx2
  by_cases q : (PP N m J + stpM N) % N < N - m
  · exact Or.inl ⟨q, by rw [show Nat.blt ((PP N m J + stpM N) % N) (Nat.sub N m) = true from by simpa [Nat.blt_eq] using q]; rfl⟩
  · refine Or.inr ⟨by omega, ?_⟩
    have z : Nat.blt ((PP N m J + stpM N) % N) (Nat.sub N m) = false := by
      cases hb : Nat.blt ((PP N m J + stpM N) % N) (Nat.sub N m) with
      | true => exact absurd (blt_of hb) q
      | false => rfl
    rw [z]; rfl
def symC (q0 q1 q2 J : Nat) : Nat := if J < q0 then 0 else if J < q0 + q1 then 1 else if J < q0 + q1 + q2 then 2 else 3
set_option maxRecDepth 512
/-- an implication that omega lets lie -/
def Im (P Q : Prop) : Prop := P → Q
/-- a fact that omega lets lie -/
def Hid (P : Prop) : Prop := P
theorem Hid.mk {P : Prop} (h : P) : Hid P := h
theorem Hid.out {P : Prop} (h : Hid P) : P := h
theorem cb_1 {q b : Nat} {z : Int32} (hz : z.toInt = (q : Int) - b) (hb : b ≤ 1) (hq : q + 512 * b ≤ 512) (h : z.toInt = (-1 : Int32).toInt) : b = 1 := by have e : (-1 : Int32).toInt = -1 := rfl; omega
theorem cb_0 {q b : Nat} {z : Int32} (hz : z.toInt = (q : Int) - b) (hb : b ≤ 1) (hq : q + 512 * b ≤ 512) (h : ¬ z.toInt = (-1 : Int32).toInt) : b = 0 := by have e : (-1 : Int32).toInt = -1 := rfl; omega
theorem dec_hv {u v : Int32} {N B b : Nat} (h : u + (-1 : Int32) = v) (e : u.toInt = (N : Int) - 1 - (B : Nat)) (hN : 32 ≤ N ∧ N ≤ 512) (hB : B ≤ 3) (hb : b = 1) : v.toInt = (N : Int) - 1 - ((B + b : Nat) : Int) := by
  subst h
  have q2 := c_iadd u (-1 : Int32); have q3 := rng32 (u + (-1 : Int32)); have q5 : (-1 : Int32).toInt = -1 := rfl
  omega
theorem hv_0 {u : Int32} {N B b : Nat} (e : u.toInt = (N : Int) - 1 - (B : Nat)) (hb : b = 0) : u.toInt = (N : Int) - 1 - ((B + b : Nat) : Int) := by omega
theorem inc_iv {x v : Int32} {J C : Nat} (hv : x + (1 : Int32) = v) (h : x.toInt = (J : Int) - (C : Nat)) (h0 : C ≤ J) (h1 : J ≤ 600) : v.toInt = ((J + 1 : Nat) : Int) - (C : Nat) := by
  subst hv
  have q2 := c_iadd x (1 : Int32); have q3 := rng32 (x + (1 : Int32)); have q5 : (1 : Int32).toInt = 1 := rfl
  omega
theorem add_nn {p s : Int32} {a b : Nat} (hp : p.toInt = (a : Int)) (hs : s.toInt = (b : Int)) (ha : a ≤ 600) (hb : b ≤ 600) : (p + s).toInt = ((a + b : Nat) : Int) := by
  have q2 := c_iadd p s; have q3 := rng32 (p + s)
  omega
theorem sub_nn {p s : Int32} {a b : Nat} (hp : p.toInt = (a : Int)) (hs : s.toInt = (b : Int)) (h : b ≤ a) (ha : a ≤ 1000) : (p - s).toInt = ((a - b : Nat) : Int) := by
  have q2 := c_isub p s; have q3 := rng32 (p - s)
  omega
theorem dec1 {x v : Int32} {n : Int} (h : x + (-1 : Int32) = v) (hx : x.toInt = n) (h0 : -10 ≤ n) (h1 : n ≤ 600) : v.toInt = n - 1 := by
  subst h
  have q2 := c_iadd x (-1 : Int32); have q3 := rng32 (x + (-1 : Int32)); have q5 : (-1 : Int32).toInt = -1 := rfl
  omega
theorem flags_ok {fl u0 u1 u2 u3 : Int32} (h0 : (fl &&& (1 : Int32)) = u0) (h1 : ((fl >>> ((1 : Int32) &&& 31)) &&& (1 : Int32)) = u1) (h2 : ((fl >>> ((2 : Int32) &&& 31)) &&& (1 : Int32)) = u2) (h3 : ((fl >>> ((3 : Int32) &&& 31)) &&& (1 : Int32)) = u3) (hf : 0 ≤ fl.toInt ∧ fl.toInt ≤ 14) :
    ∃ b0 b1 b2 b3 : Nat, (b0 ≤ 1 ∧ b1 ≤ 1 ∧ b2 ≤ 1 ∧ b3 ≤ 1) ∧ (u0.toInt = (b0 : Int) ∧ u1.toInt = (b1 : Int) ∧ u2.toInt = (b2 : Int) ∧ u3.toInt = (b3 : Int)) ∧ b0 + b1 + b2 + b3 ≤ 3 := by
  subst h0 h1 h2 h3
  have a0 := f_imask fl (1 : Int32) 1 2 (by decide) (by decide) (by decide)
  have a1 := f_imask (fl >>> ((1 : Int32) &&& 31)) (1 : Int32) 1 2 (by decide) (by decide) (by decide)
  have a2 := f_imask (fl >>> ((2 : Int32) &&& 31)) (1 : Int32) 1 2 (by decide) (by decide) (by decide)
  have a3 := f_imask (fl >>> ((3 : Int32) &&& 31)) (1 : Int32) 1 2 (by decide) (by decide) (by decide)
  have c1 := f_ishr fl (1 : Int32) 1 2 (by decide) (by decide)
  have c2 := f_ishr fl (2 : Int32) 2 4 (by decide) (by decide)
  have c3 := f_ishr fl (3 : Int32) 3 8 (by decide) (by decide)
  rw [c1] at a1; rw [c2] at a2; rw [c3] at a3
  clear c1 c2 c3
  rw [a0, a1, a2, a3]
  clear a0 a1 a2 a3
  generalize fl.toInt = z at hf ⊢
  have hz : z = 0 ∨ z = 1 ∨ z = 2 ∨ z = 3 ∨ z = 4 ∨ z = 5 ∨ z = 6 ∨ z = 7 ∨ z = 8 ∨ z = 9 ∨ z = 10 ∨ z = 11 ∨ z = 12 ∨ z = 13 ∨ z = 14 := by omega
  rcases hz with h | h | h | h | h | h | h | h | h | h | h | h | h | h | h <;> subst h
  · exact ⟨0, 0, 0, 0, by decide, by decide, by decide⟩
  · exact ⟨1, 0, 0, 0, by decide, by decide, by decide⟩
  · exact ⟨0, 1, 0, 0, by decide, by decide, by decide⟩
  · exact ⟨1, 1, 0, 0, by decide, by decide, by decide⟩
  · exact ⟨0, 0, 1, 0, by decide, by decide, by decide⟩
  · exact ⟨1, 0, 1, 0, by decide, by decide, by decide⟩
  · exact ⟨0, 1, 1, 0, by decide, by decide, by decide⟩
  · exact ⟨1, 1, 1, 0, by decide, by decide, by decide⟩
  · exact ⟨0, 0, 0, 1, by decide, by decide, by decide⟩
  · exact ⟨1, 0, 0, 1, by decide, by decide, by decide⟩
  · exact ⟨0, 1, 0, 1, by decide, by decide, by decide⟩
  · exact ⟨1, 1, 0, 1, by decide, by decide, by decide⟩
  · exact ⟨0, 0, 1, 1, by decide, by decide, by decide⟩
  · exact ⟨1, 0, 1, 1, by decide, by decide, by decide⟩
  · exact ⟨0, 1, 1, 1, by decide, by decide, by decide⟩
theorem s_of {p s v : Int32} {N : Nat} (hv : ((p &&& (2147483647 : Int32)) % s) = v) (hs : s.toInt = (N : Int)) (hN : 32 ≤ N ∧ N ≤ 512) : ∃ S : Nat, S < N ∧ v.toInt = (S : Int) := by
  subst hv
  have a := f_imask p (2147483647 : Int32) 31 2147483648 (by decide) (by decide) (by decide)
  have r := (c_iremV (p &&& (2147483647 : Int32)) s).1 (by omega) (by omega)
  exact ⟨((p &&& (2147483647 : Int32)) % s).toInt.toNat, by omega, by omega⟩
theorem re_le {re c : Int32} {r q b : Nat} (er : re.toInt = (r : Int)) (ez : c.toInt = (q : Int) - b) (hb : b ≤ 1) (hq : q + 512 * b ≤ 512) (hc : c.toInt ≤ 0) : re.toInt = ((r - q : Nat) : Int) := by omega
theorem re_gt {re c v : Int32} {r q b : Nat} (hv : re - c = v) (er : re.toInt = (r : Int)) (ez : c.toInt = (q : Int) - b) (hb : b ≤ 1) (hq : q + 512 * b ≤ 512) (lq : q ≤ r) (hr : r ≤ 512) (hc : c.toInt > 0) : v.toInt = ((r - q : Nat) : Int) := by
  subst hv
  exact sub_nn er (by omega) lq (by omega)
theorem shl_N {l : Int32} (h0 : 5 ≤ l.toInt) (h1 : l.toInt ≤ 9) : ∃ N : Nat, IsN N ∧ ((1 : Int32) <<< (l &&& 31)).toInt = (N : Int) := by
  have h : l.toInt = 5 ∨ l.toInt = 6 ∨ l.toInt = 7 ∨ l.toInt = 8 ∨ l.toInt = 9 := by omega
  rcases h with h | h | h | h | h
  · obtain rfl : l = (5 : Int32) := i32_of h rfl
    exact ⟨32, by unfold IsN; omega, by decide⟩
  · obtain rfl : l = (6 : Int32) := i32_of h rfl
    exact ⟨64, by unfold IsN; omega, by decide⟩
  · obtain rfl : l = (7 : Int32) := i32_of h rfl
    exact ⟨128, by unfold IsN; omega, by decide⟩
  · obtain rfl : l = (8 : Int32) := i32_of h rfl
    exact ⟨256, by unfold IsN; omega, by decide⟩
  · obtain rfl : l = (9 : Int32) := i32_of h rfl
    exact ⟨512, by unfold IsN; omega, by decide⟩
theorem msk {x v : Int32} {N n : Nat} (hv : v.toInt = (N : Int)) (hN : IsN N) (hx : x.toInt = (n : Int)) : (x &&& (v - (1 : Int32))).toInt = ((n % N : Nat) : Int) := by
  rcases hN with h | h | h | h | h <;> subst h
  · obtain rfl : v = (32 : Int32) := i32_of hv rfl
    have a := f_imask x (31 : Int32) 5 32 (by decide) (by decide) (by decide)
    show (x &&& (31 : Int32)).toInt = _
    omega
  · obtain rfl : v = (64 : Int32) := i32_of hv rfl
    have a := f_imask x (63 : Int32) 6 64 (by decide) (by decide) (by decide)
    show (x &&& (63 : Int32)).toInt = _
    omega
  · obtain rfl : v = (128 : Int32) := i32_of hv rfl
    have a := f_imask x (127 : Int32) 7 128 (by decide) (by decide) (by decide)
    show (x &&& (127 : Int32)).toInt = _
    omega
  · obtain rfl : v = (256 : Int32) := i32_of hv rfl
    have a := f_imask x (255 : Int32) 8 256 (by decide) (by decide) (by decide)
    show (x &&& (255 : Int32)).toInt = _
    omega
  · obtain rfl : v = (512 : Int32) := i32_of hv rfl
    have a := f_imask x (511 : Int32) 9 512 (by decide) (by decide) (by decide)
    show (x &&& (511 : Int32)).toInt = _
    omega
theorem mk_32 (x : Int32) (n : Nat) (hx : x.toInt = (n : Int)) : ((x * (915814311 : Int32)) &&& (31 : Int32)).toInt = ((n * invM 32 % 32 : Nat) : Int) := by
  have a := f_imask (x * (915814311 : Int32)) (31 : Int32) 5 32 (by decide) (by decide) (by decide)
  have b := f_imul x (915814311 : Int32) (915814311) rfl
  have c : invM 32 = 7 := rfl
  rw [c]
  omega
theorem mk_64 (x : Int32) (n : Nat) (hx : x.toInt = (n : Int)) : ((x * (-648114557 : Int32)) &&& (63 : Int32)).toInt = ((n * invM 64 % 64 : Nat) : Int) := by
  have a := f_imask (x * (-648114557 : Int32)) (63 : Int32) 6 64 (by decide) (by decide) (by decide)
  have b := f_imul x (-648114557 : Int32) (-648114557) rfl
  have c : invM 64 = 3 := rfl
  rw [c]
  omega
theorem mk_128 (x : Int32) (n : Nat) (hx : x.toInt = (n : Int)) : ((x * (-1874750501 : Int32)) &&& (127 : Int32)).toInt = ((n * invM 128 % 128 : Nat) : Int) := by
  have a := f_imask (x * (-1874750501 : Int32)) (127 : Int32) 7 128 (by decide) (by decide) (by decide)
  have b := f_imul x (-1874750501 : Int32) (-1874750501) rfl
  have c : invM 128 = 91 := rfl
  rw [c]
  omega
theorem mk_256 (x : Int32) (n : Nat) (hx : x.toInt = (n : Int)) : ((x * (-1212677365 : Int32)) &&& (255 : Int32)).toInt = ((n * invM 256 % 256 : Nat) : Int) := by
  have a := f_imask (x * (-1212677365 : Int32)) (255 : Int32) 8 256 (by decide) (by decide) (by decide)
  have b := f_imul x (-1212677365 : Int32) (-1212677365) rfl
  have c : invM 256 = 11 := rfl
  rw [c]
  omega
theorem mk_512 (x : Int32) (n : Nat) (hx : x.toInt = (n : Int)) : ((x * (341304171 : Int32)) &&& (511 : Int32)).toInt = ((n * invM 512 % 512 : Nat) : Int) := by
  have a := f_imask (x * (341304171 : Int32)) (511 : Int32) 9 512 (by decide) (by decide) (by decide)
  have b := f_imul x (341304171 : Int32) (341304171) rfl
  have c : invM 512 = 363 := rfl
  rw [c]
  omega
theorem nar_s {x : Int32} (h0 : -32768 ≤ x.toInt) (h1 : x.toInt < 32768) : i2s x = x := by
  apply Int32.toInt_inj.mp
  have q := f_i2s x
  omega
theorem dd_1 {N m i k : Nat} (h : i < m) (h2 : kkM N (N - (i + 1)) < k) : ddM N m i k = 1 := by
  have a : Nat.blt i m = true := by simpa [Nat.blt_eq] using h
  have b : Nat.blt (kkM N (Nat.sub N (Nat.succ i))) k = true := by simpa [Nat.blt_eq] using h2
  unfold ddM; rw [a, b]; rfl
theorem dd_g {N m i k : Nat} (h2 : k ≤ kkM N (N - (i + 1))) : ddM N m i k = 0 := by
  have b : Nat.blt (kkM N (Nat.sub N (Nat.succ i))) k = false := by
    cases hb : Nat.blt (kkM N (Nat.sub N (Nat.succ i))) k with
    | true => have q := blt_of hb; have e : kkM N (Nat.sub N (Nat.succ i)) = kkM N (N - (i + 1)) := rfl; omega
    | false => rfl
  unfold ddM; rw [b]; cases Nat.blt i m <;> rfl
theorem dd_m {N m i k : Nat} (h : m ≤ i) : ddM N m i k = 0 := by
  have b : Nat.blt i m = false := by
    cases hb : Nat.blt i m with
    | true => have q := blt_of hb; omega
    | false => rfl
  unfold ddM; rw [b]; rfl
theorem rk_of {N m s d0 d1 d2 : Nat} (o : OkS N m s) (h0 : ddM N m 0 (kkM N s) = d0) (h1 : ddM N m 1 (kkM N s) = d1) (h2 : ddM N m 2 (kkM N s) = d2) : (rkM N m s : Int) = (kkM N s : Int) - d0 - d1 - d2 := by
  have a := o.ds
  have b : dsM N m (kkM N s) = d0 + d1 + d2 := by show ddM N m 0 (kkM N s) + ddM N m 1 (kkM N s) + ddM N m 2 (kkM N s) = _; rw [h0, h1, h2]
  have c : rkM N m s = kkM N s - dsM N m (kkM N s) := rfl
  omega
theorem sym_0 {a b c J : Nat} (h : J < a) : symC a b c J = 0 := by unfold symC; rw [if_pos h]
theorem sym_1 {a b c J : Nat} (h0 : a ≤ J) (h : J < a + b) : symC a b c J = 1 := by unfold symC; rw [if_neg (by omega), if_pos h]
theorem sym_2 {a b c J : Nat} (h0 : a + b ≤ J) (h : J < a + b + c) : symC a b c J = 2 := by unfold symC; rw [if_neg (by omega), if_neg (by omega), if_pos h]
theorem sym_3 {a b c J : Nat} (h0 : a + b + c ≤ J) : symC a b c J = 3 := by unfold symC; rw [if_neg (by omega), if_neg (by omega), if_neg (by omega)]
/- the walk -/
theorem d1_0 : decode method_2_code 0 = .ok (.iload_n 0, 1) := by decide +kernel
theorem d1_1 : decode method_2_code 1 = .ok (.iconst 1, 1) := by decide +kernel
theorem d1_2 : decode method_2_code 2 = .ok (.if_icmp .ne 5, 3) := by decide +kernel
theorem d1_5 : decode method_2_code 5 = .ok (.iconst (-1), 1) := by decide +kernel
theorem d1_6 : decode method_2_code 6 = .ok (.ireturn, 1) := by decide +kernel
theorem d1_7 : decode method_2_code 7 = .ok (.iload_n 1, 1) := by decide +kernel
theorem d1_8 : decode method_2_code 8 = .ok (.ifCond .eq 5, 3) := by decide +kernel
theorem d1_11 : decode method_2_code 11 = .ok (.iload_n 3, 1) := by decide +kernel
theorem d1_12 : decode method_2_code 12 = .ok (.ireturn, 1) := by decide +kernel
theorem d1_13 : decode method_2_code 13 = .ok (.iload_n 2, 1) := by decide +kernel
theorem d1_14 : decode method_2_code 14 = .ok (.ldc 7, 2) := by decide +kernel
theorem d1_16 : decode method_2_code 16 = .ok (.iand, 1) := by decide +kernel
theorem d1_17 : decode method_2_code 17 = .ok (.iload_n 3, 1) := by decide +kernel
theorem d1_18 : decode method_2_code 18 = .ok (.iconst 1, 1) := by decide +kernel
theorem d1_19 : decode method_2_code 19 = .ok (.iadd, 1) := by decide +kernel
theorem d1_20 : decode method_2_code 20 = .ok (.irem, 1) := by decide +kernel
theorem d1_21 : decode method_2_code 21 = .ok (.ireturn, 1) := by decide +kernel
theorem pn_1 : plainFor (⟨"com/example/colonnade/colonnade/compress/FseTableSpreadPinLaw", "draw", "(IZII)I"⟩ : MethodName) = true := plainFor_of_name (by first | (simp [plainName, overriddenIn]; done) | decide +kernel)
set_option maxRecDepth 65536 in
set_option maxHeartbeats 40000000 in
theorem c_draw {Z : State} {a0 : Array Value} (hw : ∀ d ∈ tables_1, d.before a0 Z = true) {n il pa re : Int32} {b r : Nat} {h0 : Heap} {n0 : Nat} (Z0 : n0 ≤ h0.size) (hn : n.toInt = (b : Int)) (hb : b ≤ 1) (hr : re.toInt = (r : Int)) (hr5 : r ≤ 512) :
    Ctr Z n0 (⟨"com/example/colonnade/colonnade/compress/FseTableSpreadPinLaw", "draw", "(IZII)I"⟩ : MethodName) method_2_code 4 (some .int) ({ frames := 0, cells := 0, slots := 0, locals := 0 } : Room) [(.int n), (.int il), (.int pa), (.int re)] h0 (fun v h => h = h0 ∧ ∃ (z : Int32) (q : Nat), v = some (.int z) ∧ z.toInt = (q : Int) - b ∧ q + 512 * b ≤ 512 ∧ q ≤ r ∧ (b = 0 → ¬ il.toInt = 0 → q = r)) := by
  refine Ctr.of (L := #[.val (.int n), .val (.int il), .val (.int pa), .val (.int re)]) pn_1 Z0 (fun m => by first | (simp [entryFrame, mkF, argsToLocals, Value.category]; done) | rfl) ?_
  intro K T S0
  refine px_iloadN S0 d1_0 rfl rfl ?_
  refine px_iconst (v := (1 : Int32)) S0 d1_1 rfl rfl ?_
  refine px_icmp S0 d1_2 (by decide) (pc' := 7) rfl rfl (fun (hc1 : ¬ n.toInt = (1 : Int32).toInt) => ?_) (fun (hc1 : n.toInt = (1 : Int32).toInt) => ?_)
  · refine px_iloadN S0 d1_7 rfl rfl ?_
    refine px_if0 S0 d1_8 (by decide) (pc' := 13) rfl rfl (fun (hc2 : il.toInt = 0) => ?_) (fun (hc2 : ¬ il.toInt = 0) => ?_)
    · refine px_iloadN S0 d1_13 rfl rfl ?_
      refine px_ldcI S0 (hw _ (List.mem_of_getElem? (i := 0) rfl)) d1_14 rfl ?_
      refine px_iand S0 d1_16 rfl ?_
      refine px_iloadN S0 d1_17 rfl rfl ?_
      refine px_iconst (v := (1 : Int32)) S0 d1_18 rfl rfl ?_
      refine px_iadd S0 d1_19 rfl ?_
      refine px_irem S0 d1_20 rfl (fun hz => by have hz' := congrArg Int32.toInt hz; have q0 := c_iadd re (1 : Int32); have q1 := rng32 (re + (1 : Int32)); have q2 := rng32 re; have q3 := (show (1 : Int32).toInt = 1 from rfl); have q4 := (show (0 : Int32).toInt = 0 from rfl); have q5 := rng32 n; have q6 := rng32 il; omega) ?_
      exact px_retI S0 d1_21 rfl (by decide) (by decide) (⟨rfl, _, ((pa &&& (2147483647 : Int32)) % (re + (1 : Int32))).toInt.toNat, rfl, by have q0 := c_iremV (pa &&& (2147483647 : Int32)) (re + (1 : Int32)); have q1 := rng32 ((pa &&& (2147483647 : Int32)) % (re + (1 : Int32))); have q2 := f_imask pa (2147483647 : Int32) 31 2147483648 (by decide) (by decide) (by decide); have q3 := rng32 pa; have q4 := (show (2147483647 : Int32).toInt = 2147483647 from rfl); have q5 := c_iadd re (1 : Int32); have q6 := rng32 (re + (1 : Int32)); have q7 := rng32 re; have q8 := (show (1 : Int32).toInt = 1 from rfl); have q9 := rng32 n; have q10 := rng32 il; omega, by have q0 := c_iremV (pa &&& (2147483647 : Int32)) (re + (1 : Int32)); have q1 := rng32 ((pa &&& (2147483647 : Int32)) % (re + (1 : Int32))); have q2 := f_imask pa (2147483647 : Int32) 31 2147483648 (by decide) (by decide) (by decide); have q3 := rng32 pa; have q4 := (show (2147483647 : Int32).toInt = 2147483647 from rfl); have q5 := c_iadd re (1 : Int32); have q6 := rng32 (re + (1 : Int32)); have q7 := rng32 re; have q8 := (show (1 : Int32).toInt = 1 from rfl); have q9 := rng32 n; have q10 := rng32 il; omega, by have q0 := c_iremV (pa &&& (2147483647 : Int32)) (re + (1 : Int32)); have q1 := rng32 ((pa &&& (2147483647 : Int32)) % (re + (1 : Int32))); have q2 := f_imask pa (2147483647 : Int32) 31 2147483648 (by decide) (by decide) (by decide); have q3 := rng32 pa; have q4 := (show (2147483647 : Int32).toInt = 2147483647 from rfl); have q5 := c_iadd re (1 : Int32); have q6 := rng32 (re + (1 : Int32)); have q7 := rng32 re; have q8 := (show (1 : Int32).toInt = 1 from rfl); have q9 := rng32 n; have q10 := rng32 il; omega, fun _ hl => by exfalso; have q0 := c_iremV (pa &&& (2147483647 : Int32)) (re + (1 : Int32)); have q1 := rng32 ((pa &&& (2147483647 : Int32)) % (re + (1 : Int32))); have q2 := f_imask pa (2147483647 : Int32) 31 2147483648 (by decide) (by decide) (by decide); have q3 := rng32 pa; have q4 := (show (2147483647 : Int32).toInt = 2147483647 from rfl); have q5 := c_iadd re (1 : Int32); have q6 := rng32 (re + (1 : Int32)); have q7 := rng32 re; have q8 := (show (1 : Int32).toInt = 1 from rfl); have q9 := rng32 n; have q10 := rng32 il; omega⟩)
    · refine px_iloadN S0 d1_11 rfl rfl ?_
      exact px_retI S0 d1_12 rfl (by decide) (by decide) (⟨rfl, _, r, rfl, by have q0 := rng32 re; have q1 := rng32 n; have q2 := rng32 il; have q3 := (show (1 : Int32).toInt = 1 from rfl); omega, by have q0 := rng32 re; have q1 := rng32 n; have q2 := rng32 il; have q3 := (show (1 : Int32).toInt = 1 from rfl); omega, Nat.le_refl _, fun _ _ => rfl⟩)
  · refine px_iconst (v := (-1 : Int32)) S0 d1_5 rfl rfl ?_
    exact px_retI S0 d1_6 rfl (by decide) (by decide) (⟨rfl, _, 0, rfl, by have q0 := (show (-1 : Int32).toInt = -1 from rfl); have q1 := rng32 n; have q2 := rng32 il; have q3 := rng32 re; have q4 := (show (1 : Int32).toInt = 1 from rfl); omega, by have q0 := (show (-1 : Int32).toInt = -1 from rfl); have q1 := rng32 n; have q2 := rng32 il; have q3 := rng32 re; have q4 := (show (1 : Int32).toInt = 1 from rfl); omega, Nat.zero_le _, fun hb _ => by have q0 := (show (-1 : Int32).toInt = -1 from rfl); have q1 := rng32 n; have q2 := rng32 il; have q3 := rng32 re; have q4 := (show (1 : Int32).toInt = 1 from rfl); omega⟩)
theorem d3_0 : decode jdk_29_method_65_code 0 = .ok (.iload_n 0, 1) := by decide +kernel
theorem d3_1 : decode jdk_29_method_65_code 1 = .ok (.iload_n 1, 1) := by decide +kernel
theorem d3_2 : decode jdk_29_method_65_code 2 = .ok (.if_icmp .lt 7, 3) := by decide +kernel
theorem d3_5 : decode jdk_29_method_65_code 5 = .ok (.iload_n 0, 1) := by decide +kernel
theorem d3_6 : decode jdk_29_method_65_code 6 = .ok (.goto 4, 3) := by decide +kernel
theorem d3_9 : decode jdk_29_method_65_code 9 = .ok (.iload_n 1, 1) := by decide +kernel
theorem d3_10 : decode jdk_29_method_65_code 10 = .ok (.ireturn, 1) := by decide +kernel
set_option maxRecDepth 65536 in
set_option maxHeartbeats 40000000 in
theorem c_max {Z : State} {a0 : Array Value} (hw : ∀ d ∈ tables_1, d.before a0 Z = true) {x : Int32} {q b : Nat} {h0 : Heap} {n0 : Nat} (Z0 : n0 ≤ h0.size) (hx : x.toInt = (q : Int) - b) (hb : b ≤ 1) (hq : q + 512 * b ≤ 512) :
    Ctr Z n0 (⟨"java/lang/Math", "max", "(II)I"⟩ : MethodName) jdk_29_method_65_code 2 (some .int) ({ frames := 0, cells := 0, slots := 0, locals := 0 } : Room) [(.int x), (.int (0 : Int32))] h0 (fun v h => h = h0 ∧ ∃ z : Int32, v = some (.int z) ∧ z.toInt = (q : Int)) := by
  refine Ctr.of (L := #[.val (.int x), .val (.int (0 : Int32))]) (Jvm.Free.JP.mathPlain rfl (by decide +kernel)) Z0 (fun m => by first | (simp [entryFrame, mkF, argsToLocals, Value.category]; done) | rfl) ?_
  intro K T S0
  refine px_iloadN S0 d3_0 rfl rfl ?_
  refine px_iloadN S0 d3_1 rfl rfl ?_
  refine px_icmp S0 d3_2 (by decide) (pc' := 9) rfl rfl (fun (hc1 : x.toInt < (0 : Int32).toInt) => ?_) (fun (hc1 : x.toInt ≥ (0 : Int32).toInt) => ?_)
  · refine px_iloadN S0 d3_9 rfl rfl ?_
    exact px_retI S0 d3_10 rfl (by decide) (by decide) (⟨rfl, _, rfl, by have q0 := (show (0 : Int32).toInt = 0 from rfl); have q1 := rng32 x; omega⟩)
  · refine px_iloadN S0 d3_5 rfl rfl ?_
    refine px_goto S0 d3_6 (by decide) (pc' := 10) rfl ?_
    exact px_retI S0 d3_10 rfl (by decide) (by decide) (⟨rfl, _, rfl, by have q0 := rng32 x; have q1 := (show (0 : Int32).toInt = 0 from rfl); omega⟩)
theorem d4_0 : decode method_3_code 0 = .ok (.iconst 0, 1) := by decide +kernel
theorem d4_1 : decode method_3_code 1 = .ok (.istore 5, 2) := by decide +kernel
theorem d4_3 : decode method_3_code 3 = .ok (.iload_n 0, 1) := by decide +kernel
theorem d4_4 : decode method_3_code 4 = .ok (.iconst 1, 1) := by decide +kernel
theorem d4_5 : decode method_3_code 5 = .ok (.if_icmp .ne 15, 3) := by decide +kernel
theorem d4_8 : decode method_3_code 8 = .ok (.iload 5, 2) := by decide +kernel
theorem d4_10 : decode method_3_code 10 = .ok (.iload 4, 2) := by decide +kernel
theorem d4_12 : decode method_3_code 12 = .ok (.if_icmp .ne 5, 3) := by decide +kernel
theorem d4_15 : decode method_3_code 15 = .ok (.iconst 0, 1) := by decide +kernel
theorem d4_16 : decode method_3_code 16 = .ok (.ireturn, 1) := by decide +kernel
theorem d4_17 : decode method_3_code 17 = .ok (.iinc 5 1, 3) := by decide +kernel
theorem d4_20 : decode method_3_code 20 = .ok (.iload_n 1, 1) := by decide +kernel
theorem d4_21 : decode method_3_code 21 = .ok (.iconst 1, 1) := by decide +kernel
theorem d4_22 : decode method_3_code 22 = .ok (.if_icmp .ne 15, 3) := by decide +kernel
theorem d4_25 : decode method_3_code 25 = .ok (.iload 5, 2) := by decide +kernel
theorem d4_27 : decode method_3_code 27 = .ok (.iload 4, 2) := by decide +kernel
theorem d4_29 : decode method_3_code 29 = .ok (.if_icmp .ne 5, 3) := by decide +kernel
theorem d4_32 : decode method_3_code 32 = .ok (.iconst 1, 1) := by decide +kernel
theorem d4_33 : decode method_3_code 33 = .ok (.ireturn, 1) := by decide +kernel
theorem d4_34 : decode method_3_code 34 = .ok (.iinc 5 1, 3) := by decide +kernel
theorem d4_37 : decode method_3_code 37 = .ok (.iload_n 2, 1) := by decide +kernel
theorem d4_38 : decode method_3_code 38 = .ok (.iconst 1, 1) := by decide +kernel
theorem d4_39 : decode method_3_code 39 = .ok (.if_icmp .ne 15, 3) := by decide +kernel
theorem d4_42 : decode method_3_code 42 = .ok (.iload 5, 2) := by decide +kernel
theorem d4_44 : decode method_3_code 44 = .ok (.iload 4, 2) := by decide +kernel
theorem d4_46 : decode method_3_code 46 = .ok (.if_icmp .ne 5, 3) := by decide +kernel
theorem d4_49 : decode method_3_code 49 = .ok (.iconst 2, 1) := by decide +kernel
theorem d4_50 : decode method_3_code 50 = .ok (.ireturn, 1) := by decide +kernel
theorem d4_51 : decode method_3_code 51 = .ok (.iinc 5 1, 3) := by decide +kernel
theorem d4_54 : decode method_3_code 54 = .ok (.iload_n 3, 1) := by decide +kernel
theorem d4_55 : decode method_3_code 55 = .ok (.iconst 1, 1) := by decide +kernel
theorem d4_56 : decode method_3_code 56 = .ok (.if_icmp .ne 12, 3) := by decide +kernel
theorem d4_59 : decode method_3_code 59 = .ok (.iload 5, 2) := by decide +kernel
theorem d4_61 : decode method_3_code 61 = .ok (.iload 4, 2) := by decide +kernel
theorem d4_63 : decode method_3_code 63 = .ok (.if_icmp .ne 5, 3) := by decide +kernel
theorem d4_66 : decode method_3_code 66 = .ok (.iconst 3, 1) := by decide +kernel
theorem d4_67 : decode method_3_code 67 = .ok (.ireturn, 1) := by decide +kernel
theorem pn_4 : plainFor (⟨"com/example/colonnade/colonnade/compress/FseTableSpreadPinLaw", "nthNeg", "(IIIII)I"⟩ : MethodName) = true := plainFor_of_name (by first | (simp [plainName, overriddenIn]; done) | decide +kernel)
set_option maxRecDepth 65536 in
set_option maxHeartbeats 40000000 in
theorem c_nth {Z : State} {a0 : Array Value} (hw : ∀ d ∈ tables_1, d.before a0 Z = true) {u0 u1 u2 u3 r : Int32} {b0 b1 b2 b3 rN : Nat} {h0 : Heap} {n0 : Nat} (Z0 : n0 ≤ h0.size) (hn0 : u0.toInt = (b0 : Int)) (hn1 : u1.toInt = (b1 : Int)) (hn2 : u2.toInt = (b2 : Int)) (hn3 : u3.toInt = (b3 : Int)) (hb0 : b0 ≤ 1) (hb1 : b1 ≤ 1) (hb2 : b2 ≤ 1) (hb3 : b3 ≤ 1) (hr : r.toInt = (rN : Int)) (hrm : rN < b0 + b1 + b2 + b3) :
    Ctr Z n0 (⟨"com/example/colonnade/colonnade/compress/FseTableSpreadPinLaw", "nthNeg", "(IIIII)I"⟩ : MethodName) method_3_code 6 (some .int) ({ frames := 0, cells := 0, slots := 0, locals := 0 } : Room) [(.int u0), (.int u1), (.int u2), (.int u3), (.int r)] h0 (fun v h => h = h0 ∧ ((v = some (.int (0 : Int32)) ∧ b0 = 1 ∧ rN = 0) ∨ (v = some (.int (1 : Int32)) ∧ b1 = 1 ∧ rN = b0) ∨ (v = some (.int (2 : Int32)) ∧ b2 = 1 ∧ rN = b0 + b1) ∨ (v = some (.int (3 : Int32)) ∧ b3 = 1 ∧ rN = b0 + b1 + b2))) := by
  refine Ctr.of (L := #[.val (.int u0), .val (.int u1), .val (.int u2), .val (.int u3), .val (.int r), .unset]) pn_4 Z0 (fun m => by first | (simp [entryFrame, mkF, argsToLocals, Value.category]; done) | rfl) ?_
  intro K T S0
  refine px_iconst (v := (0 : Int32)) S0 d4_0 rfl rfl ?_
  refine px_istore S0 d4_1 rfl (L' := #[.val (.int u0), .val (.int u1), .val (.int u2), .val (.int u3), .val (.int r), .val (.int (0 : Int32))]) rfl ?_
  refine px_iloadN S0 d4_3 rfl rfl ?_
  refine px_iconst (v := (1 : Int32)) S0 d4_4 rfl rfl ?_
  refine px_icmp S0 d4_5 (by decide) (pc' := 20) rfl rfl (fun (hc1 : ¬ u0.toInt = (1 : Int32).toInt) => ?_) (fun (hc1 : u0.toInt = (1 : Int32).toInt) => ?_)
  · refine px_iloadN S0 d4_20 rfl rfl ?_
    refine px_iconst (v := (1 : Int32)) S0 d4_21 rfl rfl ?_
    refine px_icmp S0 d4_22 (by decide) (pc' := 37) rfl rfl (fun (hc2 : ¬ u1.toInt = (1 : Int32).toInt) => ?_) (fun (hc2 : u1.toInt = (1 : Int32).toInt) => ?_)
    · refine px_iloadN S0 d4_37 rfl rfl ?_
      refine px_iconst (v := (1 : Int32)) S0 d4_38 rfl rfl ?_
      refine px_icmp S0 d4_39 (by decide) (pc' := 54) rfl rfl (fun (hc3 : ¬ u2.toInt = (1 : Int32).toInt) => ?_) (fun (hc3 : u2.toInt = (1 : Int32).toInt) => ?_)
      · refine px_iloadN S0 d4_54 rfl rfl ?_
        refine px_iconst (v := (1 : Int32)) S0 d4_55 rfl rfl ?_
        refine px_icmp S0 d4_56 (by decide) (pc' := 68) rfl rfl (fun (hc4 : ¬ u3.toInt = (1 : Int32).toInt) => by exfalso; have q0 := rng32 u3; have q1 := (show (1 : Int32).toInt = 1 from rfl); have q2 := rng32 u0; have q3 := rng32 u1; have q4 := rng32 u2; have q5 := rng32 r; omega) (fun (hc4 : u3.toInt = (1 : Int32).toInt) => ?_)
        refine px_iload S0 d4_59 rfl rfl ?_
        refine px_iload S0 d4_61 rfl rfl ?_
        refine px_icmp S0 d4_63 (by decide) (pc' := 68) rfl rfl (fun (hc5 : ¬ (0 : Int32).toInt = r.toInt) => by exfalso; have q0 := (show (0 : Int32).toInt = 0 from rfl); have q1 := rng32 r; have q2 := rng32 u0; have q3 := rng32 u1; have q4 := rng32 u2; have q5 := rng32 u3; have q6 := (show (1 : Int32).toInt = 1 from rfl); omega) (fun (hc5 : (0 : Int32).toInt = r.toInt) => ?_)
        refine px_iconst (v := (3 : Int32)) S0 d4_66 rfl rfl ?_
        exact px_retI S0 d4_67 rfl (by decide) (by decide) (⟨rfl, Or.inr (Or.inr (Or.inr (⟨rfl, by have q0 := (show (0 : Int32).toInt = 0 from rfl); have q1 := (show (2 : Int32).toInt = 2 from rfl); have q2 := (show (3 : Int32).toInt = 3 from rfl); have q3 := rng32 u0; have q4 := rng32 u1; have q5 := rng32 u2; have q6 := rng32 u3; have q7 := rng32 r; have q8 := (show (1 : Int32).toInt = 1 from rfl); omega, by have q0 := (show (0 : Int32).toInt = 0 from rfl); have q1 := (show (2 : Int32).toInt = 2 from rfl); have q2 := (show (3 : Int32).toInt = 3 from rfl); have q3 := rng32 u0; have q4 := rng32 u1; have q5 := rng32 u2; have q6 := rng32 u3; have q7 := rng32 r; have q8 := (show (1 : Int32).toInt = 1 from rfl); omega⟩)))⟩)
      · refine px_iload S0 d4_42 rfl rfl ?_
        refine px_iload S0 d4_44 rfl rfl ?_
        refine px_icmp S0 d4_46 (by decide) (pc' := 51) rfl rfl (fun (hc6 : ¬ (0 : Int32).toInt = r.toInt) => ?_) (fun (hc6 : (0 : Int32).toInt = r.toInt) => ?_)
        · refine px_iinc (v := (1 : Int32)) (r := (1 : Int32)) S0 d4_51 rfl rfl rfl (by decide) (L' := #[.val (.int u0), .val (.int u1), .val (.int u2), .val (.int u3), .val (.int r), .val (.int (1 : Int32))]) rfl ?_
          refine px_iloadN S0 d4_54 rfl rfl ?_
          refine px_iconst (v := (1 : Int32)) S0 d4_55 rfl rfl ?_
          refine px_icmp S0 d4_56 (by decide) (pc' := 68) rfl rfl (fun (hc7 : ¬ u3.toInt = (1 : Int32).toInt) => by exfalso; have q0 := rng32 u3; have q1 := (show (1 : Int32).toInt = 1 from rfl); have q2 := rng32 u0; have q3 := rng32 u1; have q4 := rng32 u2; have q5 := rng32 r; have q6 := (show (0 : Int32).toInt = 0 from rfl); omega) (fun (hc7 : u3.toInt = (1 : Int32).toInt) => ?_)
          refine px_iload S0 d4_59 rfl rfl ?_
          refine px_iload S0 d4_61 rfl rfl ?_
          refine px_icmp S0 d4_63 (by decide) (pc' := 68) rfl rfl (fun (hc8 : ¬ (1 : Int32).toInt = r.toInt) => by exfalso; have q0 := (show (1 : Int32).toInt = 1 from rfl); have q1 := rng32 r; have q2 := rng32 u0; have q3 := rng32 u1; have q4 := rng32 u2; have q5 := rng32 u3; have q6 := (show (0 : Int32).toInt = 0 from rfl); omega) (fun (hc8 : (1 : Int32).toInt = r.toInt) => ?_)
          refine px_iconst (v := (3 : Int32)) S0 d4_66 rfl rfl ?_
          exact px_retI S0 d4_67 rfl (by decide) (by decide) (⟨rfl, Or.inr (Or.inr (Or.inr (⟨rfl, by have q0 := (show (0 : Int32).toInt = 0 from rfl); have q1 := (show (2 : Int32).toInt = 2 from rfl); have q2 := (show (3 : Int32).toInt = 3 from rfl); have q3 := rng32 u0; have q4 := rng32 u1; have q5 := rng32 u2; have q6 := rng32 u3; have q7 := rng32 r; have q8 := (show (1 : Int32).toInt = 1 from rfl); omega, by have q0 := (show (0 : Int32).toInt = 0 from rfl); have q1 := (show (2 : Int32).toInt = 2 from rfl); have q2 := (show (3 : Int32).toInt = 3 from rfl); have q3 := rng32 u0; have q4 := rng32 u1; have q5 := rng32 u2; have q6 := rng32 u3; have q7 := rng32 r; have q8 := (show (1 : Int32).toInt = 1 from rfl); omega⟩)))⟩)
        · refine px_iconst (v := (2 : Int32)) S0 d4_49 rfl rfl ?_
          exact px_retI S0 d4_50 rfl (by decide) (by decide) (⟨rfl, Or.inr (Or.inr (Or.inl (⟨rfl, by have q0 := (show (0 : Int32).toInt = 0 from rfl); have q1 := (show (2 : Int32).toInt = 2 from rfl); have q2 := (show (3 : Int32).toInt = 3 from rfl); have q3 := rng32 u0; have q4 := rng32 u1; have q5 := rng32 u2; have q6 := rng32 u3; have q7 := rng32 r; have q8 := (show (1 : Int32).toInt = 1 from rfl); omega, by have q0 := (show (0 : Int32).toInt = 0 from rfl); have q1 := (show (2 : Int32).toInt = 2 from rfl); have q2 := (show (3 : Int32).toInt = 3 from rfl); have q3 := rng32 u0; have q4 := rng32 u1; have q5 := rng32 u2; have q6 := rng32 u3; have q7 := rng32 r; have q8 := (show (1 : Int32).toInt = 1 from rfl); omega⟩)))⟩)
    · refine px_iload S0 d4_25 rfl rfl ?_
      refine px_iload S0 d4_27 rfl rfl ?_
      refine px_icmp S0 d4_29 (by decide) (pc' := 34) rfl rfl (fun (hc9 : ¬ (0 : Int32).toInt = r.toInt) => ?_) (fun (hc9 : (0 : Int32).toInt = r.toInt) => ?_)
      · refine px_iinc (v := (1 : Int32)) (r := (1 : Int32)) S0 d4_34 rfl rfl rfl (by decide) (L' := #[.val (.int u0), .val (.int u1), .val (.int u2), .val (.int u3), .val (.int r), .val (.int (1 : Int32))]) rfl ?_
        refine px_iloadN S0 d4_37 rfl rfl ?_
        refine px_iconst (v := (1 : Int32)) S0 d4_38 rfl rfl ?_
        refine px_icmp S0 d4_39 (by decide) (pc' := 54) rfl rfl (fun (hc10 : ¬ u2.toInt = (1 : Int32).toInt) => ?_) (fun (hc10 : u2.toInt = (1 : Int32).toInt) => ?_)
        · refine px_iloadN S0 d4_54 rfl rfl ?_
          refine px_iconst (v := (1 : Int32)) S0 d4_55 rfl rfl ?_
          refine px_icmp S0 d4_56 (by decide) (pc' := 68) rfl rfl (fun (hc11 : ¬ u3.toInt = (1 : Int32).toInt) => by exfalso; have q0 := rng32 u3; have q1 := (show (1 : Int32).toInt = 1 from rfl); have q2 := rng32 u0; have q3 := rng32 u1; have q4 := rng32 u2; have q5 := rng32 r; have q6 := (show (0 : Int32).toInt = 0 from rfl); omega) (fun (hc11 : u3.toInt = (1 : Int32).toInt) => ?_)
          refine px_iload S0 d4_59 rfl rfl ?_
          refine px_iload S0 d4_61 rfl rfl ?_
          refine px_icmp S0 d4_63 (by decide) (pc' := 68) rfl rfl (fun (hc12 : ¬ (1 : Int32).toInt = r.toInt) => by exfalso; have q0 := (show (1 : Int32).toInt = 1 from rfl); have q1 := rng32 r; have q2 := rng32 u0; have q3 := rng32 u1; have q4 := rng32 u2; have q5 := rng32 u3; have q6 := (show (0 : Int32).toInt = 0 from rfl); omega) (fun (hc12 : (1 : Int32).toInt = r.toInt) => ?_)
          refine px_iconst (v := (3 : Int32)) S0 d4_66 rfl rfl ?_
          exact px_retI S0 d4_67 rfl (by decide) (by decide) (⟨rfl, Or.inr (Or.inr (Or.inr (⟨rfl, by have q0 := (show (0 : Int32).toInt = 0 from rfl); have q1 := (show (2 : Int32).toInt = 2 from rfl); have q2 := (show (3 : Int32).toInt = 3 from rfl); have q3 := rng32 u0; have q4 := rng32 u1; have q5 := rng32 u2; have q6 := rng32 u3; have q7 := rng32 r; have q8 := (show (1 : Int32).toInt = 1 from rfl); omega, by have q0 := (show (0 : Int32).toInt = 0 from rfl); have q1 := (show (2 : Int32).toInt = 2 from rfl); have q2 := (show (3 : Int32).toInt = 3 from rfl); have q3 := rng32 u0; have q4 := rng32 u1; have q5 := rng32 u2; have q6 := rng32 u3; have q7 := rng32 r; have q8 := (show (1 : Int32).toInt = 1 from rfl); omega⟩)))⟩)
        · refine px_iload S0 d4_42 rfl rfl ?_
          refine px_iload S0 d4_44 rfl rfl ?_
          refine px_icmp S0 d4_46 (by decide) (pc' := 51) rfl rfl (fun (hc13 : ¬ (1 : Int32).toInt = r.toInt) => ?_) (fun (hc13 : (1 : Int32).toInt = r.toInt) => ?_)
          · refine px_iinc (v := (1 : Int32)) (r := (2 : Int32)) S0 d4_51 rfl rfl rfl (by decide) (L' := #[.val (.int u0), .val (.int u1), .val (.int u2), .val (.int u3), .val (.int r), .val (.int (2 : Int32))]) rfl ?_
            refine px_iloadN S0 d4_54 rfl rfl ?_
            refine px_iconst (v := (1 : Int32)) S0 d4_55 rfl rfl ?_
            refine px_icmp S0 d4_56 (by decide) (pc' := 68) rfl rfl (fun (hc14 : ¬ u3.toInt = (1 : Int32).toInt) => by exfalso; have q0 := rng32 u3; have q1 := (show (1 : Int32).toInt = 1 from rfl); have q2 := rng32 u0; have q3 := rng32 u1; have q4 := rng32 u2; have q5 := rng32 r; have q6 := (show (0 : Int32).toInt = 0 from rfl); omega) (fun (hc14 : u3.toInt = (1 : Int32).toInt) => ?_)
            refine px_iload S0 d4_59 rfl rfl ?_
            refine px_iload S0 d4_61 rfl rfl ?_
            refine px_icmp S0 d4_63 (by decide) (pc' := 68) rfl rfl (fun (hc15 : ¬ (2 : Int32).toInt = r.toInt) => by exfalso; have q0 := (show (2 : Int32).toInt = 2 from rfl); have q1 := rng32 r; have q2 := rng32 u0; have q3 := rng32 u1; have q4 := rng32 u2; have q5 := rng32 u3; have q6 := (show (1 : Int32).toInt = 1 from rfl); have q7 := (show (0 : Int32).toInt = 0 from rfl); omega) (fun (hc15 : (2 : Int32).toInt = r.toInt) => ?_)
            refine px_iconst (v := (3 : Int32)) S0 d4_66 rfl rfl ?_
            exact px_retI S0 d4_67 rfl (by decide) (by decide) (⟨rfl, Or.inr (Or.inr (Or.inr (⟨rfl, by have q0 := (show (0 : Int32).toInt = 0 from rfl); have q1 := (show (2 : Int32).toInt = 2 from rfl); have q2 := (show (3 : Int32).toInt = 3 from rfl); have q3 := rng32 u0; have q4 := rng32 u1; have q5 := rng32 u2; have q6 := rng32 u3; have q7 := rng32 r; have q8 := (show (1 : Int32).toInt = 1 from rfl); omega, by have q0 := (show (0 : Int32).toInt = 0 from rfl); have q1 := (show (2 : Int32).toInt = 2 from rfl); have q2 := (show (3 : Int32).toInt = 3 from rfl); have q3 := rng32 u0; have q4 := rng32 u1; have q5 := rng32 u2; have q6 := rng32 u3; have q7 := rng32 r; have q8 := (show (1 : Int32).toInt = 1 from rfl); omega⟩)))⟩)
          · refine px_iconst (v := (2 : Int32)) S0 d4_49 rfl rfl ?_
            exact px_retI S0 d4_50 rfl (by decide) (by decide) (⟨rfl, Or.inr (Or.inr (Or.inl (⟨rfl, by have q0 := (show (0 : Int32).toInt = 0 from rfl); have q1 := (show (2 : Int32).toInt = 2 from rfl); have q2 := (show (3 : Int32).toInt = 3 from rfl); have q3 := rng32 u0; have q4 := rng32 u1; have q5 := rng32 u2; have q6 := rng32 u3; have q7 := rng32 r; have q8 := (show (1 : Int32).toInt = 1 from rfl); omega, by have q0 := (show (0 : Int32).toInt = 0 from rfl); have q1 := (show (2 : Int32).toInt = 2 from rfl); have q2 := (show (3 : Int32).toInt = 3 from rfl); have q3 := rng32 u0; have q4 := rng32 u1; have q5 := rng32 u2; have q6 := rng32 u3; have q7 := rng32 r; have q8 := (show (1 : Int32).toInt = 1 from rfl); omega⟩)))⟩)
      · refine px_iconst (v := (1 : Int32)) S0 d4_32 rfl rfl ?_
        exact px_retI S0 d4_33 rfl (by decide) (by decide) (⟨rfl, Or.inr (Or.inl (⟨rfl, by have q0 := (show (0 : Int32).toInt = 0 from rfl); have q1 := (show (2 : Int32).toInt = 2 from rfl); have q2 := (show (3 : Int32).toInt = 3 from rfl); have q3 := rng32 u0; have q4 := rng32 u1; have q5 := rng32 u2; have q6 := rng32 u3; have q7 := rng32 r; have q8 := (show (1 : Int32).toInt = 1 from rfl); omega, by have q0 := (show (0 : Int32).toInt = 0 from rfl); have q1 := (show (2 : Int32).toInt = 2 from rfl); have q2 := (show (3 : Int32).toInt = 3 from rfl); have q3 := rng32 u0; have q4 := rng32 u1; have q5 := rng32 u2; have q6 := rng32 u3; have q7 := rng32 r; have q8 := (show (1 : Int32).toInt = 1 from rfl); omega⟩))⟩)
  · refine px_iload S0 d4_8 rfl rfl ?_
    refine px_iload S0 d4_10 rfl rfl ?_
    refine px_icmp S0 d4_12 (by decide) (pc' := 17) rfl rfl (fun (hc16 : ¬ (0 : Int32).toInt = r.toInt) => ?_) (fun (hc16 : (0 : Int32).toInt = r.toInt) => ?_)
    · refine px_iinc (v := (1 : Int32)) (r := (1 : Int32)) S0 d4_17 rfl rfl rfl (by decide) (L' := #[.val (.int u0), .val (.int u1), .val (.int u2), .val (.int u3), .val (.int r), .val (.int (1 : Int32))]) rfl ?_
      refine px_iloadN S0 d4_20 rfl rfl ?_
      refine px_iconst (v := (1 : Int32)) S0 d4_21 rfl rfl ?_
      refine px_icmp S0 d4_22 (by decide) (pc' := 37) rfl rfl (fun (hc17 : ¬ u1.toInt = (1 : Int32).toInt) => ?_) (fun (hc17 : u1.toInt = (1 : Int32).toInt) => ?_)
      · refine px_iloadN S0 d4_37 rfl rfl ?_
        refine px_iconst (v := (1 : Int32)) S0 d4_38 rfl rfl ?_
        refine px_icmp S0 d4_39 (by decide) (pc' := 54) rfl rfl (fun (hc18 : ¬ u2.toInt = (1 : Int32).toInt) => ?_) (fun (hc18 : u2.toInt = (1 : Int32).toInt) => ?_)
        · refine px_iloadN S0 d4_54 rfl rfl ?_
          refine px_iconst (v := (1 : Int32)) S0 d4_55 rfl rfl ?_
          refine px_icmp S0 d4_56 (by decide) (pc' := 68) rfl rfl (fun (hc19 : ¬ u3.toInt = (1 : Int32).toInt) => by exfalso; have q0 := rng32 u3; have q1 := (show (1 : Int32).toInt = 1 from rfl); have q2 := rng32 u0; have q3 := rng32 u1; have q4 := rng32 u2; have q5 := rng32 r; have q6 := (show (0 : Int32).toInt = 0 from rfl); omega) (fun (hc19 : u3.toInt = (1 : Int32).toInt) => ?_)
          refine px_iload S0 d4_59 rfl rfl ?_
          refine px_iload S0 d4_61 rfl rfl ?_
          refine px_icmp S0 d4_63 (by decide) (pc' := 68) rfl rfl (fun (hc20 : ¬ (1 : Int32).toInt = r.toInt) => by exfalso; have q0 := (show (1 : Int32).toInt = 1 from rfl); have q1 := rng32 r; have q2 := rng32 u0; have q3 := rng32 u1; have q4 := rng32 u2; have q5 := rng32 u3; have q6 := (show (0 : Int32).toInt = 0 from rfl); omega) (fun (hc20 : (1 : Int32).toInt = r.toInt) => ?_)
          refine px_iconst (v := (3 : Int32)) S0 d4_66 rfl rfl ?_
          exact px_retI S0 d4_67 rfl (by decide) (by decide) (⟨rfl, Or.inr (Or.inr (Or.inr (⟨rfl, by have q0 := (show (0 : Int32).toInt = 0 from rfl); have q1 := (show (2 : Int32).toInt = 2 from rfl); have q2 := (show (3 : Int32).toInt = 3 from rfl); have q3 := rng32 u0; have q4 := rng32 u1; have q5 := rng32 u2; have q6 := rng32 u3; have q7 := rng32 r; have q8 := (show (1 : Int32).toInt = 1 from rfl); omega, by have q0 := (show (0 : Int32).toInt = 0 from rfl); have q1 := (show (2 : Int32).toInt = 2 from rfl); have q2 := (show (3 : Int32).toInt = 3 from rfl); have q3 := rng32 u0; have q4 := rng32 u1; have q5 := rng32 u2; have q6 := rng32 u3; have q7 := rng32 r; have q8 := (show (1 : Int32).toInt = 1 from rfl); omega⟩)))⟩)
        · refine px_iload S0 d4_42 rfl rfl ?_
          refine px_iload S0 d4_44 rfl rfl ?_
          refine px_icmp S0 d4_46 (by decide) (pc' := 51) rfl rfl (fun (hc21 : ¬ (1 : Int32).toInt = r.toInt) => ?_) (fun (hc21 : (1 : Int32).toInt = r.toInt) => ?_)
          · refine px_iinc (v := (1 : Int32)) (r := (2 : Int32)) S0 d4_51 rfl rfl rfl (by decide) (L' := #[.val (.int u0), .val (.int u1), .val (.int u2), .val (.int u3), .val (.int r), .val (.int (2 : Int32))]) rfl ?_
            refine px_iloadN S0 d4_54 rfl rfl ?_
            refine px_iconst (v := (1 : Int32)) S0 d4_55 rfl rfl ?_
            refine px_icmp S0 d4_56 (by decide) (pc' := 68) rfl rfl (fun (hc22 : ¬ u3.toInt = (1 : Int32).toInt) => by exfalso; have q0 := rng32 u3; have q1 := (show (1 : Int32).toInt = 1 from rfl); have q2 := rng32 u0; have q3 := rng32 u1; have q4 := rng32 u2; have q5 := rng32 r; have q6 := (show (0 : Int32).toInt = 0 from rfl); omega) (fun (hc22 : u3.toInt = (1 : Int32).toInt) => ?_)
            refine px_iload S0 d4_59 rfl rfl ?_
            refine px_iload S0 d4_61 rfl rfl ?_
            refine px_icmp S0 d4_63 (by decide) (pc' := 68) rfl rfl (fun (hc23 : ¬ (2 : Int32).toInt = r.toInt) => by exfalso; have q0 := (show (2 : Int32).toInt = 2 from rfl); have q1 := rng32 r; have q2 := rng32 u0; have q3 := rng32 u1; have q4 := rng32 u2; have q5 := rng32 u3; have q6 := (show (1 : Int32).toInt = 1 from rfl); have q7 := (show (0 : Int32).toInt = 0 from rfl); omega) (fun (hc23 : (2 : Int32).toInt = r.toInt) => ?_)
            refine px_iconst (v := (3 : Int32)) S0 d4_66 rfl rfl ?_
            exact px_retI S0 d4_67 rfl (by decide) (by decide) (⟨rfl, Or.inr (Or.inr (Or.inr (⟨rfl, by have q0 := (show (0 : Int32).toInt = 0 from rfl); have q1 := (show (2 : Int32).toInt = 2 from rfl); have q2 := (show (3 : Int32).toInt = 3 from rfl); have q3 := rng32 u0; have q4 := rng32 u1; have q5 := rng32 u2; have q6 := rng32 u3; have q7 := rng32 r; have q8 := (show (1 : Int32).toInt = 1 from rfl); omega, by have q0 := (show (0 : Int32).toInt = 0 from rfl); have q1 := (show (2 : Int32).toInt = 2 from rfl); have q2 := (show (3 : Int32).toInt = 3 from rfl); have q3 := rng32 u0; have q4 := rng32 u1; have q5 := rng32 u2; have q6 := rng32 u3; have q7 := rng32 r; have q8 := (show (1 : Int32).toInt = 1 from rfl); omega⟩)))⟩)
          · refine px_iconst (v := (2 : Int32)) S0 d4_49 rfl rfl ?_
            exact px_retI S0 d4_50 rfl (by decide) (by decide) (⟨rfl, Or.inr (Or.inr (Or.inl (⟨rfl, by have q0 := (show (0 : Int32).toInt = 0 from rfl); have q1 := (show (2 : Int32).toInt = 2 from rfl); have q2 := (show (3 : Int32).toInt = 3 from rfl); have q3 := rng32 u0; have q4 := rng32 u1; have q5 := rng32 u2; have q6 := rng32 u3; have q7 := rng32 r; have q8 := (show (1 : Int32).toInt = 1 from rfl); omega, by have q0 := (show (0 : Int32).toInt = 0 from rfl); have q1 := (show (2 : Int32).toInt = 2 from rfl); have q2 := (show (3 : Int32).toInt = 3 from rfl); have q3 := rng32 u0; have q4 := rng32 u1; have q5 := rng32 u2; have q6 := rng32 u3; have q7 := rng32 r; have q8 := (show (1 : Int32).toInt = 1 from rfl); omega⟩)))⟩)
      · refine px_iload S0 d4_25 rfl rfl ?_
        refine px_iload S0 d4_27 rfl rfl ?_
        refine px_icmp S0 d4_29 (by decide) (pc' := 34) rfl rfl (fun (hc24 : ¬ (1 : Int32).toInt = r.toInt) => ?_) (fun (hc24 : (1 : Int32).toInt = r.toInt) => ?_)
        · refine px_iinc (v := (1 : Int32)) (r := (2 : Int32)) S0 d4_34 rfl rfl rfl (by decide) (L' := #[.val (.int u0), .val (.int u1), .val (.int u2), .val (.int u3), .val (.int r), .val (.int (2 : Int32))]) rfl ?_
          refine px_iloadN S0 d4_37 rfl rfl ?_
          refine px_iconst (v := (1 : Int32)) S0 d4_38 rfl rfl ?_
          refine px_icmp S0 d4_39 (by decide) (pc' := 54) rfl rfl (fun (hc25 : ¬ u2.toInt = (1 : Int32).toInt) => ?_) (fun (hc25 : u2.toInt = (1 : Int32).toInt) => ?_)
          · refine px_iloadN S0 d4_54 rfl rfl ?_
            refine px_iconst (v := (1 : Int32)) S0 d4_55 rfl rfl ?_
            refine px_icmp S0 d4_56 (by decide) (pc' := 68) rfl rfl (fun (hc26 : ¬ u3.toInt = (1 : Int32).toInt) => by exfalso; have q0 := rng32 u3; have q1 := (show (1 : Int32).toInt = 1 from rfl); have q2 := rng32 u0; have q3 := rng32 u1; have q4 := rng32 u2; have q5 := rng32 r; have q6 := (show (0 : Int32).toInt = 0 from rfl); omega) (fun (hc26 : u3.toInt = (1 : Int32).toInt) => ?_)
            refine px_iload S0 d4_59 rfl rfl ?_
            refine px_iload S0 d4_61 rfl rfl ?_
            refine px_icmp S0 d4_63 (by decide) (pc' := 68) rfl rfl (fun (hc27 : ¬ (2 : Int32).toInt = r.toInt) => by exfalso; have q0 := (show (2 : Int32).toInt = 2 from rfl); have q1 := rng32 r; have q2 := rng32 u0; have q3 := rng32 u1; have q4 := rng32 u2; have q5 := rng32 u3; have q6 := (show (1 : Int32).toInt = 1 from rfl); have q7 := (show (0 : Int32).toInt = 0 from rfl); omega) (fun (hc27 : (2 : Int32).toInt = r.toInt) => ?_)
            refine px_iconst (v := (3 : Int32)) S0 d4_66 rfl rfl ?_
            exact px_retI S0 d4_67 rfl (by decide) (by decide) (⟨rfl, Or.inr (Or.inr (Or.inr (⟨rfl, by have q0 := (show (0 : Int32).toInt = 0 from rfl); have q1 := (show (2 : Int32).toInt = 2 from rfl); have q2 := (show (3 : Int32).toInt = 3 from rfl); have q3 := rng32 u0; have q4 := rng32 u1; have q5 := rng32 u2; have q6 := rng32 u3; have q7 := rng32 r; have q8 := (show (1 : Int32).toInt = 1 from rfl); omega, by have q0 := (show (0 : Int32).toInt = 0 from rfl); have q1 := (show (2 : Int32).toInt = 2 from rfl); have q2 := (show (3 : Int32).toInt = 3 from rfl); have q3 := rng32 u0; have q4 := rng32 u1; have q5 := rng32 u2; have q6 := rng32 u3; have q7 := rng32 r; have q8 := (show (1 : Int32).toInt = 1 from rfl); omega⟩)))⟩)
          · refine px_iload S0 d4_42 rfl rfl ?_
            refine px_iload S0 d4_44 rfl rfl ?_
            refine px_icmp S0 d4_46 (by decide) (pc' := 51) rfl rfl (fun (hc28 : ¬ (2 : Int32).toInt = r.toInt) => ?_) (fun (hc28 : (2 : Int32).toInt = r.toInt) => ?_)
            · refine px_iinc (v := (1 : Int32)) (r := (3 : Int32)) S0 d4_51 rfl rfl rfl (by decide) (L' := #[.val (.int u0), .val (.int u1), .val (.int u2), .val (.int u3), .val (.int r), .val (.int (3 : Int32))]) rfl ?_
              refine px_iloadN S0 d4_54 rfl rfl ?_
              refine px_iconst (v := (1 : Int32)) S0 d4_55 rfl rfl ?_
              refine px_icmp S0 d4_56 (by decide) (pc' := 68) rfl rfl (fun (hc29 : ¬ u3.toInt = (1 : Int32).toInt) => by exfalso; have q0 := rng32 u3; have q1 := (show (1 : Int32).toInt = 1 from rfl); have q2 := rng32 u0; have q3 := rng32 u1; have q4 := rng32 u2; have q5 := rng32 r; have q6 := (show (0 : Int32).toInt = 0 from rfl); have q7 := (show (2 : Int32).toInt = 2 from rfl); omega) (fun (hc29 : u3.toInt = (1 : Int32).toInt) => ?_)
              refine px_iload S0 d4_59 rfl rfl ?_
              refine px_iload S0 d4_61 rfl rfl ?_
              refine px_icmp S0 d4_63 (by decide) (pc' := 68) rfl rfl (fun (hc30 : ¬ (3 : Int32).toInt = r.toInt) => by exfalso; have q0 := (show (3 : Int32).toInt = 3 from rfl); have q1 := rng32 r; have q2 := rng32 u0; have q3 := rng32 u1; have q4 := rng32 u2; have q5 := rng32 u3; have q6 := (show (1 : Int32).toInt = 1 from rfl); have q7 := (show (0 : Int32).toInt = 0 from rfl); have q8 := (show (2 : Int32).toInt = 2 from rfl); omega) (fun (hc30 : (3 : Int32).toInt = r.toInt) => ?_)
              refine px_iconst (v := (3 : Int32)) S0 d4_66 rfl rfl ?_
              exact px_retI S0 d4_67 rfl (by decide) (by decide) (⟨rfl, Or.inr (Or.inr (Or.inr (⟨rfl, by have q0 := (show (0 : Int32).toInt = 0 from rfl); have q1 := (show (2 : Int32).toInt = 2 from rfl); have q2 := (show (3 : Int32).toInt = 3 from rfl); have q3 := rng32 u0; have q4 := rng32 u1; have q5 := rng32 u2; have q6 := rng32 u3; have q7 := rng32 r; have q8 := (show (1 : Int32).toInt = 1 from rfl); omega, by have q0 := (show (0 : Int32).toInt = 0 from rfl); have q1 := (show (2 : Int32).toInt = 2 from rfl); have q2 := (show (3 : Int32).toInt = 3 from rfl); have q3 := rng32 u0; have q4 := rng32 u1; have q5 := rng32 u2; have q6 := rng32 u3; have q7 := rng32 r; have q8 := (show (1 : Int32).toInt = 1 from rfl); omega⟩)))⟩)
            · refine px_iconst (v := (2 : Int32)) S0 d4_49 rfl rfl ?_
              exact px_retI S0 d4_50 rfl (by decide) (by decide) (⟨rfl, Or.inr (Or.inr (Or.inl (⟨rfl, by have q0 := (show (0 : Int32).toInt = 0 from rfl); have q1 := (show (2 : Int32).toInt = 2 from rfl); have q2 := (show (3 : Int32).toInt = 3 from rfl); have q3 := rng32 u0; have q4 := rng32 u1; have q5 := rng32 u2; have q6 := rng32 u3; have q7 := rng32 r; have q8 := (show (1 : Int32).toInt = 1 from rfl); omega, by have q0 := (show (0 : Int32).toInt = 0 from rfl); have q1 := (show (2 : Int32).toInt = 2 from rfl); have q2 := (show (3 : Int32).toInt = 3 from rfl); have q3 := rng32 u0; have q4 := rng32 u1; have q5 := rng32 u2; have q6 := rng32 u3; have q7 := rng32 r; have q8 := (show (1 : Int32).toInt = 1 from rfl); omega⟩)))⟩)
        · refine px_iconst (v := (1 : Int32)) S0 d4_32 rfl rfl ?_
          exact px_retI S0 d4_33 rfl (by decide) (by decide) (⟨rfl, Or.inr (Or.inl (⟨rfl, by have q0 := (show (0 : Int32).toInt = 0 from rfl); have q1 := (show (2 : Int32).toInt = 2 from rfl); have q2 := (show (3 : Int32).toInt = 3 from rfl); have q3 := rng32 u0; have q4 := rng32 u1; have q5 := rng32 u2; have q6 := rng32 u3; have q7 := rng32 r; have q8 := (show (1 : Int32).toInt = 1 from rfl); omega, by have q0 := (show (0 : Int32).toInt = 0 from rfl); have q1 := (show (2 : Int32).toInt = 2 from rfl); have q2 := (show (3 : Int32).toInt = 3 from rfl); have q3 := rng32 u0; have q4 := rng32 u1; have q5 := rng32 u2; have q6 := rng32 u3; have q7 := rng32 r; have q8 := (show (1 : Int32).toInt = 1 from rfl); omega⟩))⟩)
    · refine px_iconst (v := (0 : Int32)) S0 d4_15 rfl rfl ?_
      exact px_retI S0 d4_16 rfl (by decide) (by decide) (⟨rfl, Or.inl (⟨rfl, by have q0 := (show (0 : Int32).toInt = 0 from rfl); have q1 := (show (2 : Int32).toInt = 2 from rfl); have q2 := (show (3 : Int32).toInt = 3 from rfl); have q3 := rng32 u0; have q4 := rng32 u1; have q5 := rng32 u2; have q6 := rng32 u3; have q7 := rng32 r; have q8 := (show (1 : Int32).toInt = 1 from rfl); omega, by have q0 := (show (0 : Int32).toInt = 0 from rfl); have q1 := (show (2 : Int32).toInt = 2 from rfl); have q2 := (show (3 : Int32).toInt = 3 from rfl); have q3 := rng32 u0; have q4 := rng32 u1; have q5 := rng32 u2; have q6 := rng32 u3; have q7 := rng32 r; have q8 := (show (1 : Int32).toInt = 1 from rfl); omega⟩)⟩)
theorem d2_0 : decode prog_44_method_6_code 0 = .ok (.iconst 1, 1) := by decide +kernel
theorem d2_1 : decode prog_44_method_6_code 1 = .ok (.iload_n 2, 1) := by decide +kernel
theorem d2_2 : decode prog_44_method_6_code 2 = .ok (.ishl, 1) := by decide +kernel
theorem d2_3 : decode prog_44_method_6_code 3 = .ok (.istore 4, 2) := by decide +kernel
theorem d2_5 : decode prog_44_method_6_code 5 = .ok (.iload 4, 2) := by decide +kernel
theorem d2_7 : decode prog_44_method_6_code 7 = .ok (.iconst 1, 1) := by decide +kernel
theorem d2_8 : decode prog_44_method_6_code 8 = .ok (.isub, 1) := by decide +kernel
theorem d2_9 : decode prog_44_method_6_code 9 = .ok (.istore 5, 2) := by decide +kernel
theorem d2_11 : decode prog_44_method_6_code 11 = .ok (.iconst 0, 1) := by decide +kernel
theorem d2_12 : decode prog_44_method_6_code 12 = .ok (.istore 6, 2) := by decide +kernel
theorem d2_14 : decode prog_44_method_6_code 14 = .ok (.iload 6, 2) := by decide +kernel
theorem d2_16 : decode prog_44_method_6_code 16 = .ok (.iload_n 1, 1) := by decide +kernel
theorem d2_17 : decode prog_44_method_6_code 17 = .ok (.if_icmp .gt 27, 3) := by decide +kernel
theorem d2_20 : decode prog_44_method_6_code 20 = .ok (.aload_n 0, 1) := by decide +kernel
theorem d2_21 : decode prog_44_method_6_code 21 = .ok (.iload 6, 2) := by decide +kernel
theorem d2_23 : decode prog_44_method_6_code 23 = .ok (.saload, 1) := by decide +kernel
theorem d2_24 : decode prog_44_method_6_code 24 = .ok (.iconst (-1), 1) := by decide +kernel
theorem d2_25 : decode prog_44_method_6_code 25 = .ok (.if_icmp .ne 13, 3) := by decide +kernel
theorem d2_28 : decode prog_44_method_6_code 28 = .ok (.aload_n 3, 1) := by decide +kernel
theorem d2_29 : decode prog_44_method_6_code 29 = .ok (.iload 5, 2) := by decide +kernel
theorem d2_31 : decode prog_44_method_6_code 31 = .ok (.iinc 5 (-1), 3) := by decide +kernel
theorem d2_34 : decode prog_44_method_6_code 34 = .ok (.iload 6, 2) := by decide +kernel
theorem d2_36 : decode prog_44_method_6_code 36 = .ok (.i2b, 1) := by decide +kernel
theorem d2_37 : decode prog_44_method_6_code 37 = .ok (.bastore, 1) := by decide +kernel
theorem d2_38 : decode prog_44_method_6_code 38 = .ok (.iinc 6 1, 3) := by decide +kernel
theorem d2_41 : decode prog_44_method_6_code 41 = .ok (.goto (-27), 3) := by decide +kernel
theorem d2_44 : decode prog_44_method_6_code 44 = .ok (.iload 4, 2) := by decide +kernel
theorem d2_46 : decode prog_44_method_6_code 46 = .ok (.iconst 1, 1) := by decide +kernel
theorem d2_47 : decode prog_44_method_6_code 47 = .ok (.iushr, 1) := by decide +kernel
theorem d2_48 : decode prog_44_method_6_code 48 = .ok (.iload 4, 2) := by decide +kernel
theorem d2_50 : decode prog_44_method_6_code 50 = .ok (.iconst 3, 1) := by decide +kernel
theorem d2_51 : decode prog_44_method_6_code 51 = .ok (.iushr, 1) := by decide +kernel
theorem d2_52 : decode prog_44_method_6_code 52 = .ok (.iadd, 1) := by decide +kernel
theorem d2_53 : decode prog_44_method_6_code 53 = .ok (.iconst 3, 1) := by decide +kernel
theorem d2_54 : decode prog_44_method_6_code 54 = .ok (.iadd, 1) := by decide +kernel
theorem d2_55 : decode prog_44_method_6_code 55 = .ok (.istore 6, 2) := by decide +kernel
theorem d2_57 : decode prog_44_method_6_code 57 = .ok (.iconst 0, 1) := by decide +kernel
theorem d2_58 : decode prog_44_method_6_code 58 = .ok (.istore 7, 2) := by decide +kernel
theorem d2_60 : decode prog_44_method_6_code 60 = .ok (.iconst 0, 1) := by decide +kernel
theorem d2_61 : decode prog_44_method_6_code 61 = .ok (.istore 8, 2) := by decide +kernel
theorem d2_63 : decode prog_44_method_6_code 63 = .ok (.iload 8, 2) := by decide +kernel
theorem d2_65 : decode prog_44_method_6_code 65 = .ok (.iload_n 1, 1) := by decide +kernel
theorem d2_66 : decode prog_44_method_6_code 66 = .ok (.if_icmp .gt 53, 3) := by decide +kernel
theorem d2_69 : decode prog_44_method_6_code 69 = .ok (.iconst 0, 1) := by decide +kernel
theorem d2_70 : decode prog_44_method_6_code 70 = .ok (.istore 9, 2) := by decide +kernel
theorem d2_72 : decode prog_44_method_6_code 72 = .ok (.iload 9, 2) := by decide +kernel
theorem d2_74 : decode prog_44_method_6_code 74 = .ok (.aload_n 0, 1) := by decide +kernel
theorem d2_75 : decode prog_44_method_6_code 75 = .ok (.iload 8, 2) := by decide +kernel
theorem d2_77 : decode prog_44_method_6_code 77 = .ok (.saload, 1) := by decide +kernel
theorem d2_78 : decode prog_44_method_6_code 78 = .ok (.if_icmp .ge 35, 3) := by decide +kernel
theorem d2_81 : decode prog_44_method_6_code 81 = .ok (.aload_n 3, 1) := by decide +kernel
theorem d2_82 : decode prog_44_method_6_code 82 = .ok (.iload 7, 2) := by decide +kernel
theorem d2_84 : decode prog_44_method_6_code 84 = .ok (.iload 8, 2) := by decide +kernel
theorem d2_86 : decode prog_44_method_6_code 86 = .ok (.i2b, 1) := by decide +kernel
theorem d2_87 : decode prog_44_method_6_code 87 = .ok (.bastore, 1) := by decide +kernel
theorem d2_88 : decode prog_44_method_6_code 88 = .ok (.iload 7, 2) := by decide +kernel
theorem d2_90 : decode prog_44_method_6_code 90 = .ok (.iload 6, 2) := by decide +kernel
theorem d2_92 : decode prog_44_method_6_code 92 = .ok (.iadd, 1) := by decide +kernel
theorem d2_93 : decode prog_44_method_6_code 93 = .ok (.iload 4, 2) := by decide +kernel
theorem d2_95 : decode prog_44_method_6_code 95 = .ok (.iconst 1, 1) := by decide +kernel
theorem d2_96 : decode prog_44_method_6_code 96 = .ok (.isub, 1) := by decide +kernel
theorem d2_97 : decode prog_44_method_6_code 97 = .ok (.iand, 1) := by decide +kernel
theorem d2_98 : decode prog_44_method_6_code 98 = .ok (.istore 7, 2) := by decide +kernel
theorem d2_100 : decode prog_44_method_6_code 100 = .ok (.iload 7, 2) := by decide +kernel
theorem d2_102 : decode prog_44_method_6_code 102 = .ok (.iload 5, 2) := by decide +kernel
theorem d2_104 : decode prog_44_method_6_code 104 = .ok (.if_icmp .gt (-16), 3) := by decide +kernel
theorem d2_107 : decode prog_44_method_6_code 107 = .ok (.iinc 9 1, 3) := by decide +kernel
theorem d2_110 : decode prog_44_method_6_code 110 = .ok (.goto (-38), 3) := by decide +kernel
theorem d2_113 : decode prog_44_method_6_code 113 = .ok (.iinc 8 1, 3) := by decide +kernel
theorem d2_116 : decode prog_44_method_6_code 116 = .ok (.goto (-53), 3) := by decide +kernel
theorem d2_119 : decode prog_44_method_6_code 119 = .ok (.iload 7, 2) := by decide +kernel
theorem d2_121 : decode prog_44_method_6_code 121 = .ok (.ifCond .eq 13, 3) := by decide +kernel
theorem d2_134 : decode prog_44_method_6_code 134 = .ok (.return_, 1) := by decide +kernel
theorem pn_2 : plainFor (⟨"com/example/colonnade/colonnade/compress/FseTable", "spread", "([SII[B)V"⟩ : MethodName) = true := plainFor_of_name (by first | (simp [plainName, overriddenIn]; done) | decide +kernel)
set_option maxRecDepth 65536 in
set_option maxHeartbeats 40000000 in
theorem c_spr {Z : State} {a0 : Array Value} (hw : ∀ d ∈ tables_1, d.before a0 Z = true) {ca sa : Addr} {N M b0 b1 b2 b3 q0 q1 q2 q3 : Nat} {lg : Int32} {f g0 : Nat → Int32} {h0 : Heap} {n0 : Nat} (Z0 : n0 ≤ h0.size) (hN : IsN N) (hsz : ((1 : Int32) <<< (lg &&& 31)).toInt = (N : Int)) (hM : b0 + b1 + b2 + b3 = M) (hM3 : M ≤ 3) (hb0 : b0 ≤ 1) (hb1 : b1 ≤ 1) (hb2 : b2 ≤ 1) (hb3 : b3 ≤ 1) (hq0 : Hid (q0 + 512 * b0 ≤ 512)) (hq1 : Hid (q1 + 512 * b1 ≤ 512)) (hq2 : Hid (q2 + 512 * b2 ≤ 512)) (hq3 : Hid (q3 + 512 * b3 ≤ 512)) (hsum : Hid (q0 + q1 + q2 + q3 + M = N)) (hf0 : Hid ((f 0).toInt = (q0 : Int) - b0)) (hf1 : Hid ((f 1).toInt = (q1 : Int) - b1)) (hf2 : Hid ((f 2).toInt = (q2 : Int) - b2)) (hf3 : Hid ((f 3).toInt = (q3 : Int) - b3)) (A_c : AI Z h0 ca .short 4 f) (A_s : AI Z h0 sa .byte 512 g0) (g_s : n0 ≤ sa) (n_cs : ca ≠ sa) :
    Ctr Z n0 (⟨"com/example/colonnade/colonnade/compress/FseTable", "spread", "([SII[B)V"⟩ : MethodName) prog_44_method_6_code 10 none ({ frames := 0, cells := 0, slots := 0, locals := 0 } : Room) [(.ref ca), (.int (3 : Int32)), (.int lg), (.ref sa)] h0 (fun v h => v = none ∧ ∃ g : Nat → Int32, AI Z h sa .byte 512 g ∧ (∀ K, K < N - M → g (PP N M K) = Int32.ofNat (symC q0 q1 q2 K)) ∧ Im (b0 = 1) (g (N - 1 - 0) = (0 : Int32)) ∧ Im (b1 = 1) (g (N - 1 - b0) = (1 : Int32)) ∧ Im (b2 = 1) (g (N - 1 - (b0 + b1)) = (2 : Int32)) ∧ Im (b3 = 1) (g (N - 1 - (b0 + b1 + b2)) = (3 : Int32))) := by
  refine Ctr.of (L := #[.val (.ref ca), .val (.int (3 : Int32)), .val (.int lg), .val (.ref sa), .unset, .unset, .unset, .unset, .unset, .unset]) pn_2 Z0 (fun m => by first | (simp [entryFrame, mkF, argsToLocals, Value.category]; done) | rfl) ?_
  intro K T S0
  have hNg := N_ge hN
  refine px_iconst (v := (1 : Int32)) S0 d2_0 rfl rfl ?_
  refine px_iloadN S0 d2_1 rfl rfl ?_
  refine px_ishl S0 d2_2 rfl ?_
  generalize h_v1 : ((1 : Int32) <<< (lg &&& 31)) = v1
  refine px_istore S0 d2_3 rfl (L' := #[.val (.ref ca), .val (.int (3 : Int32)), .val (.int lg), .val (.ref sa), .val (.int v1), .unset, .unset, .unset, .unset, .unset]) rfl ?_
  have ev : v1.toInt = (N : Int) := by rw [← h_v1]; exact hsz
  clear h_v1
  refine px_iload S0 d2_5 rfl rfl ?_
  refine px_iconst (v := (1 : Int32)) S0 d2_7 rfl rfl ?_
  refine px_isub S0 d2_8 rfl ?_
  generalize h_v2 : (v1 - (1 : Int32)) = v2
  refine px_istore S0 d2_9 rfl (L' := #[.val (.ref ca), .val (.int (3 : Int32)), .val (.int lg), .val (.ref sa), .val (.int v1), .val (.int v2), .unset, .unset, .unset, .unset]) rfl ?_
  have eh : v2.toInt = (N : Int) - 1 - ((0 : Nat) : Int) := by have q0 := rng32 v2; have q1 := congrArg Int32.toInt h_v2; have q2 := c_isub v1 (1 : Int32); have q3 := rng32 (v1 - (1 : Int32)); have q4 := rng32 v1; have q5 := (show (1 : Int32).toInt = 1 from rfl); omega
  refine px_iconst (v := (0 : Int32)) S0 d2_11 rfl rfl ?_
  refine px_istore S0 d2_12 rfl (L' := #[.val (.ref ca), .val (.int (3 : Int32)), .val (.int lg), .val (.ref sa), .val (.int v1), .val (.int v2), .val (.int (0 : Int32)), .unset, .unset, .unset]) rfl ?_
  refine px_iload S0 d2_14 rfl rfl ?_
  refine px_iloadN S0 d2_16 rfl rfl ?_
  refine px_icmp S0 d2_17 (by decide) (pc' := 44) rfl rfl (fun (hc3 : (0 : Int32).toInt > (3 : Int32).toInt) => by exfalso; revert hc3; decide) (fun (hc3 : (0 : Int32).toInt ≤ (3 : Int32).toInt) => ?_)
  refine Go.joinH (α := (Int32) × (Nat → Int32)) (P := fun xx h => AI Z h ca .short 4 f ∧ AI Z h sa .byte 512 xx.2 ∧ xx.1.toInt = (N : Int) - 1 - (b0 : Nat) ∧ Im (b0 = 1) (xx.2 (N - 1 - 0) = (0 : Int32))) (pcj := 38) (cl' := 0) (sl' := 0) (Lj := fun xx => #[.val (.ref ca), .val (.int (3 : Int32)), .val (.int lg), .val (.ref sa), .val (.int v1), .val (.int xx.1), .val (.int (0 : Int32)), .unset, .unset, .unset]) (stj := fun xx => []) S0 (fun xx T5 h5 S5 p5 => ?_) (fun J4 => ?_)
  · clear eh A_c A_s hc3
    obtain ⟨hv, g⟩ := xx
    try dsimp only at p5
    obtain ⟨A_c, A_s, eh, e0⟩ := p5
    show Go _ _ _ _ _ 38 #[.val (.ref ca), .val (.int (3 : Int32)), .val (.int lg), .val (.ref sa), .val (.int v1), .val (.int hv), .val (.int (0 : Int32)), .unset, .unset, .unset] []
    refine px_iinc (v := (1 : Int32)) (r := (1 : Int32)) S5 d2_38 rfl rfl rfl (by decide) (L' := #[.val (.ref ca), .val (.int (3 : Int32)), .val (.int lg), .val (.ref sa), .val (.int v1), .val (.int hv), .val (.int (1 : Int32)), .unset, .unset, .unset]) rfl ?_
    refine px_goto S5 d2_41 (by decide) (pc' := 14) rfl ?_
    refine px_iload S5 d2_14 rfl rfl ?_
    refine px_iloadN S5 d2_16 rfl rfl ?_
    refine px_icmp S5 d2_17 (by decide) (pc' := 44) rfl rfl (fun (hc6 : (1 : Int32).toInt > (3 : Int32).toInt) => by exfalso; revert hc6; decide) (fun (hc6 : (1 : Int32).toInt ≤ (3 : Int32).toInt) => ?_)
    refine Go.joinH (α := (Int32) × (Nat → Int32)) (P := fun xx h => AI Z h ca .short 4 f ∧ AI Z h sa .byte 512 xx.2 ∧ xx.1.toInt = (N : Int) - 1 - ((b0 + b1) : Nat) ∧ Im (b0 = 1) (xx.2 (N - 1 - 0) = (0 : Int32)) ∧ Im (b1 = 1) (xx.2 (N - 1 - b0) = (1 : Int32))) (pcj := 38) (cl' := 0) (sl' := 0) (Lj := fun xx => #[.val (.ref ca), .val (.int (3 : Int32)), .val (.int lg), .val (.ref sa), .val (.int v1), .val (.int xx.1), .val (.int (1 : Int32)), .unset, .unset, .unset]) (stj := fun xx => []) S5 (fun xx T8 h8 S8 p8 => ?_) (fun J7 => ?_)
    · clear eh A_c A_s e0 hc6
      obtain ⟨hv, g⟩ := xx
      try dsimp only at p8
      obtain ⟨A_c, A_s, eh, e0, e1⟩ := p8
      show Go _ _ _ _ _ 38 #[.val (.ref ca), .val (.int (3 : Int32)), .val (.int lg), .val (.ref sa), .val (.int v1), .val (.int hv), .val (.int (1 : Int32)), .unset, .unset, .unset] []
      refine px_iinc (v := (1 : Int32)) (r := (2 : Int32)) S8 d2_38 rfl rfl rfl (by decide) (L' := #[.val (.ref ca), .val (.int (3 : Int32)), .val (.int lg), .val (.ref sa), .val (.int v1), .val (.int hv), .val (.int (2 : Int32)), .unset, .unset, .unset]) rfl ?_
      refine px_goto S8 d2_41 (by decide) (pc' := 14) rfl ?_
      refine px_iload S8 d2_14 rfl rfl ?_
      refine px_iloadN S8 d2_16 rfl rfl ?_
      refine px_icmp S8 d2_17 (by decide) (pc' := 44) rfl rfl (fun (hc9 : (2 : Int32).toInt > (3 : Int32).toInt) => by exfalso; revert hc9; decide) (fun (hc9 : (2 : Int32).toInt ≤ (3 : Int32).toInt) => ?_)
      refine Go.joinH (α := (Int32) × (Nat → Int32)) (P := fun xx h => AI Z h ca .short 4 f ∧ AI Z h sa .byte 512 xx.2 ∧ xx.1.toInt = (N : Int) - 1 - ((b0 + b1 + b2) : Nat) ∧ Im (b0 = 1) (xx.2 (N - 1 - 0) = (0 : Int32)) ∧ Im (b1 = 1) (xx.2 (N - 1 - b0) = (1 : Int32)) ∧ Im (b2 = 1) (xx.2 (N - 1 - (b0 + b1)) = (2 : Int32))) (pcj := 38) (cl' := 0) (sl' := 0) (Lj := fun xx => #[.val (.ref ca), .val (.int (3 : Int32)), .val (.int lg), .val (.ref sa), .val (.int v1), .val (.int xx.1), .val (.int (2 : Int32)), .unset, .unset, .unset]) (stj := fun xx => []) S8 (fun xx T11 h11 S11 p11 => ?_) (fun J10 => ?_)
      · clear eh A_c A_s e0 e1 hc9
        obtain ⟨hv, g⟩ := xx
        try dsimp only at p11
        obtain ⟨A_c, A_s, eh, e0, e1, e2⟩ := p11
        show Go _ _ _ _ _ 38 #[.val (.ref ca), .val (.int (3 : Int32)), .val (.int lg), .val (.ref sa), .val (.int v1), .val (.int hv), .val (.int (2 : Int32)), .unset, .unset, .unset] []
        refine px_iinc (v := (1 : Int32)) (r := (3 : Int32)) S11 d2_38 rfl rfl rfl (by decide) (L' := #[.val (.ref ca), .val (.int (3 : Int32)), .val (.int lg), .val (.ref sa), .val (.int v1), .val (.int hv), .val (.int (3 : Int32)), .unset, .unset, .unset]) rfl ?_
        refine px_goto S11 d2_41 (by decide) (pc' := 14) rfl ?_
        refine px_iload S11 d2_14 rfl rfl ?_
        refine px_iloadN S11 d2_16 rfl rfl ?_
        refine px_icmp S11 d2_17 (by decide) (pc' := 44) rfl rfl (fun (hc12 : (3 : Int32).toInt > (3 : Int32).toInt) => by exfalso; revert hc12; decide) (fun (hc12 : (3 : Int32).toInt ≤ (3 : Int32).toInt) => ?_)
        refine Go.joinH (α := (Int32) × (Nat → Int32)) (P := fun xx h => AI Z h ca .short 4 f ∧ AI Z h sa .byte 512 xx.2 ∧ xx.1.toInt = (N : Int) - 1 - ((b0 + b1 + b2 + b3) : Nat) ∧ Im (b0 = 1) (xx.2 (N - 1 - 0) = (0 : Int32)) ∧ Im (b1 = 1) (xx.2 (N - 1 - b0) = (1 : Int32)) ∧ Im (b2 = 1) (xx.2 (N - 1 - (b0 + b1)) = (2 : Int32)) ∧ Im (b3 = 1) (xx.2 (N - 1 - (b0 + b1 + b2)) = (3 : Int32))) (pcj := 38) (cl' := 0) (sl' := 0) (Lj := fun xx => #[.val (.ref ca), .val (.int (3 : Int32)), .val (.int lg), .val (.ref sa), .val (.int v1), .val (.int xx.1), .val (.int (3 : Int32)), .unset, .unset, .unset]) (stj := fun xx => []) S11 (fun xx T14 h14 S14 p14 => ?_) (fun J13 => ?_)
        · clear eh A_c A_s e0 e1 e2 hc12
          obtain ⟨hv, g⟩ := xx
          try dsimp only at p14
          obtain ⟨A_c, A_s, eh, e0, e1, e2, e3⟩ := p14
          show Go _ _ _ _ _ 38 #[.val (.ref ca), .val (.int (3 : Int32)), .val (.int lg), .val (.ref sa), .val (.int v1), .val (.int hv), .val (.int (3 : Int32)), .unset, .unset, .unset] []
          refine px_iinc (v := (1 : Int32)) (r := (4 : Int32)) S14 d2_38 rfl rfl rfl (by decide) (L' := #[.val (.ref ca), .val (.int (3 : Int32)), .val (.int lg), .val (.ref sa), .val (.int v1), .val (.int hv), .val (.int (4 : Int32)), .unset, .unset, .unset]) rfl ?_
          refine px_goto S14 d2_41 (by decide) (pc' := 14) rfl ?_
          refine px_iload S14 d2_14 rfl rfl ?_
          refine px_iloadN S14 d2_16 rfl rfl ?_
          refine px_icmp S14 d2_17 (by decide) (pc' := 44) rfl rfl (fun (hc15 : (4 : Int32).toInt > (3 : Int32).toInt) => ?_) (fun (hc15 : (4 : Int32).toInt ≤ (3 : Int32).toInt) => by exfalso; revert hc15; decide)
          refine px_iload S14 d2_44 rfl rfl ?_
          refine px_iconst (v := (1 : Int32)) S14 d2_46 rfl rfl ?_
          refine px_iushr S14 d2_47 rfl ?_
          refine px_iload S14 d2_48 rfl rfl ?_
          refine px_iconst (v := (3 : Int32)) S14 d2_50 rfl rfl ?_
          refine px_iushr S14 d2_51 rfl ?_
          refine px_iadd S14 d2_52 rfl ?_
          refine px_iconst (v := (3 : Int32)) S14 d2_53 rfl rfl ?_
          refine px_iadd S14 d2_54 rfl ?_
          generalize h_v16 : (((ushr v1 (1 : Int32)) + (ushr v1 (3 : Int32))) + (3 : Int32)) = v16
          refine px_istore S14 d2_55 rfl (L' := #[.val (.ref ca), .val (.int (3 : Int32)), .val (.int lg), .val (.ref sa), .val (.int v1), .val (.int hv), .val (.int v16), .unset, .unset, .unset]) rfl ?_
          have es : stpM N = N / 2 + N / 8 + 3 := rfl
          have est : v16.toInt = (stpM N : Int) := by rw [es]; have q0 := rng32 v16; have q1 := congrArg Int32.toInt h_v16; have q2 := c_iadd ((ushr v1 (1 : Int32)) + (ushr v1 (3 : Int32))) (3 : Int32); have q3 := rng32 (((ushr v1 (1 : Int32)) + (ushr v1 (3 : Int32))) + (3 : Int32)); have q4 := c_iadd (ushr v1 (1 : Int32)) (ushr v1 (3 : Int32)); have q5 := rng32 ((ushr v1 (1 : Int32)) + (ushr v1 (3 : Int32))); have q6 := f_iushr v1 (1 : Int32) 1 2 (by decide) (by decide) (by decide); have q7 := rng32 (ushr v1 (1 : Int32)); have q8 := rng32 v1; have q9 := (show (1 : Int32).toInt = 1 from rfl); have q10 := f_iushr v1 (3 : Int32) 3 8 (by decide) (by decide) (by decide); have q11 := rng32 (ushr v1 (3 : Int32)); have q12 := (show (3 : Int32).toInt = 3 from rfl); omega
          clear h_v16
          have sN : stpM N ≤ 600 := by rw [es]; omega
          clear es
          refine px_iconst (v := (0 : Int32)) S14 d2_57 rfl rfl ?_
          refine px_istore S14 d2_58 rfl (L' := #[.val (.ref ca), .val (.int (3 : Int32)), .val (.int lg), .val (.ref sa), .val (.int v1), .val (.int hv), .val (.int v16), .val (.int (0 : Int32)), .unset, .unset]) rfl ?_
          refine px_iconst (v := (0 : Int32)) S14 d2_60 rfl rfl ?_
          refine px_istore S14 d2_61 rfl (L' := #[.val (.ref ca), .val (.int (3 : Int32)), .val (.int lg), .val (.ref sa), .val (.int v1), .val (.int hv), .val (.int v16), .val (.int (0 : Int32)), .val (.int (0 : Int32)), .unset]) rfl ?_
          refine px_iload S14 d2_63 rfl rfl ?_
          refine px_iloadN S14 d2_65 rfl rfl ?_
          refine px_icmp S14 d2_66 (by decide) (pc' := 119) rfl rfl (fun (hc17 : (0 : Int32).toInt > (3 : Int32).toInt) => by exfalso; revert hc17; decide) (fun (hc17 : (0 : Int32).toInt ≤ (3 : Int32).toInt) => ?_)
          refine px_iconst (v := (0 : Int32)) S14 d2_69 rfl rfl ?_
          refine px_istore S14 d2_70 rfl (L' := #[.val (.ref ca), .val (.int (3 : Int32)), .val (.int lg), .val (.ref sa), .val (.int v1), .val (.int hv), .val (.int v16), .val (.int (0 : Int32)), .val (.int (0 : Int32)), .val (.int (0 : Int32))]) rfl ?_
          refine Go.loopH (α := (Nat) × (Int32) × (Int32) × (Nat → Int32)) (Inv := fun k xx h => AI Z h ca .short 4 f ∧ AI Z h sa .byte 512 xx.2.2.2 ∧ xx.1 + k = q0 ∧ xx.2.2.1.toInt = (xx.1 : Int) - (0 : Nat) ∧ (0 : Nat) ≤ xx.1 ∧ xx.2.1.toInt = (PP N M xx.1 : Int) ∧ (∀ K, K < xx.1 → xx.2.2.2 (PP N M K) = Int32.ofNat (symC q0 q1 q2 K)) ∧ Im (b0 = 1) (xx.2.2.2 (N - 1 - 0) = (0 : Int32)) ∧ Im (b1 = 1) (xx.2.2.2 (N - 1 - b0) = (1 : Int32)) ∧ Im (b2 = 1) (xx.2.2.2 (N - 1 - (b0 + b1)) = (2 : Int32)) ∧ Im (b3 = 1) (xx.2.2.2 (N - 1 - (b0 + b1 + b2)) = (3 : Int32))) (pcj := 72) (cl' := 0) (sl' := 0) (Lj := fun xx => #[.val (.ref ca), .val (.int (3 : Int32)), .val (.int lg), .val (.ref sa), .val (.int v1), .val (.int hv), .val (.int v16), .val (.int xx.2.1), .val (.int (0 : Int32)), .val (.int xx.2.2.1)]) (stj := fun xx => []) S14 (fun k IHJ18 xx T19 h19 S19 p19 => ?_) (fun J18 => ?_)
          · clear A_c A_s e0 e1 e2 e3 hc15 hc17
            obtain ⟨J, pv, iv, g⟩ := xx
            try dsimp only at p19
            obtain ⟨A_c, A_s, hk, hiv, hJ0, hp, hg, e0, e1, e2, e3⟩ := p19
            show Go _ _ _ _ _ 72 #[.val (.ref ca), .val (.int (3 : Int32)), .val (.int lg), .val (.ref sa), .val (.int v1), .val (.int hv), .val (.int v16), .val (.int pv), .val (.int (0 : Int32)), .val (.int iv)] []
            refine px_iload S19 d2_72 rfl rfl ?_
            refine px_aloadN S19 d2_74 rfl rfl rfl ?_
            refine px_iload S19 d2_75 rfl rfl ?_
            refine px_saload (v := (f 0)) S19 A_c (i := 0) rfl (by decide) rfl d2_77 rfl ?_
            refine px_icmp S19 d2_78 (by decide) (pc' := 113) rfl rfl (fun (hc20 : iv.toInt ≥ (f 0).toInt) => ?_) (fun (hc20 : iv.toInt < (f 0).toInt) => ?_)
            · have hJe : J = q0 := by have a1 := hf0.out; have a2 := hq0.out; omega
              refine px_iinc (v := (1 : Int32)) (r := (1 : Int32)) S19 d2_113 rfl rfl rfl (by decide) (L' := #[.val (.ref ca), .val (.int (3 : Int32)), .val (.int lg), .val (.ref sa), .val (.int v1), .val (.int hv), .val (.int v16), .val (.int pv), .val (.int (1 : Int32)), .val (.int iv)]) rfl ?_
              refine px_goto S19 d2_116 (by decide) (pc' := 63) rfl ?_
              refine px_iload S19 d2_63 rfl rfl ?_
              refine px_iloadN S19 d2_65 rfl rfl ?_
              refine px_icmp S19 d2_66 (by decide) (pc' := 119) rfl rfl (fun (hc21 : (1 : Int32).toInt > (3 : Int32).toInt) => by exfalso; revert hc21; decide) (fun (hc21 : (1 : Int32).toInt ≤ (3 : Int32).toInt) => ?_)
              refine px_iconst (v := (0 : Int32)) S19 d2_69 rfl rfl ?_
              refine px_istore S19 d2_70 rfl (L' := #[.val (.ref ca), .val (.int (3 : Int32)), .val (.int lg), .val (.ref sa), .val (.int v1), .val (.int hv), .val (.int v16), .val (.int pv), .val (.int (1 : Int32)), .val (.int (0 : Int32))]) rfl ?_
              refine Go.loopH (α := (Nat) × (Int32) × (Int32) × (Nat → Int32)) (Inv := fun k xx h => AI Z h ca .short 4 f ∧ AI Z h sa .byte 512 xx.2.2.2 ∧ xx.1 + k = (q0 + q1) ∧ xx.2.2.1.toInt = (xx.1 : Int) - (q0 : Nat) ∧ (q0 : Nat) ≤ xx.1 ∧ xx.2.1.toInt = (PP N M xx.1 : Int) ∧ (∀ K, K < xx.1 → xx.2.2.2 (PP N M K) = Int32.ofNat (symC q0 q1 q2 K)) ∧ Im (b0 = 1) (xx.2.2.2 (N - 1 - 0) = (0 : Int32)) ∧ Im (b1 = 1) (xx.2.2.2 (N - 1 - b0) = (1 : Int32)) ∧ Im (b2 = 1) (xx.2.2.2 (N - 1 - (b0 + b1)) = (2 : Int32)) ∧ Im (b3 = 1) (xx.2.2.2 (N - 1 - (b0 + b1 + b2)) = (3 : Int32))) (pcj := 72) (cl' := 0) (sl' := 0) (Lj := fun xx => #[.val (.ref ca), .val (.int (3 : Int32)), .val (.int lg), .val (.ref sa), .val (.int v1), .val (.int hv), .val (.int v16), .val (.int xx.2.1), .val (.int (1 : Int32)), .val (.int xx.2.2.1)]) (stj := fun xx => []) S19 (fun k IHJ22 xx T23 h23 S23 p23 => ?_) (fun J22 => ?_)
              · clear A_c A_s e0 e1 e2 e3 hk hiv hJ0 hp hg hJe hc20 hc21
                obtain ⟨J, pv, iv, g⟩ := xx
                try dsimp only at p23
                obtain ⟨A_c, A_s, hk, hiv, hJ0, hp, hg, e0, e1, e2, e3⟩ := p23
                show Go _ _ _ _ _ 72 #[.val (.ref ca), .val (.int (3 : Int32)), .val (.int lg), .val (.ref sa), .val (.int v1), .val (.int hv), .val (.int v16), .val (.int pv), .val (.int (1 : Int32)), .val (.int iv)] []
                refine px_iload S23 d2_72 rfl rfl ?_
                refine px_aloadN S23 d2_74 rfl rfl rfl ?_
                refine px_iload S23 d2_75 rfl rfl ?_
                refine px_saload (v := (f 1)) S23 A_c (i := 1) rfl (by decide) rfl d2_77 rfl ?_
                refine px_icmp S23 d2_78 (by decide) (pc' := 113) rfl rfl (fun (hc24 : iv.toInt ≥ (f 1).toInt) => ?_) (fun (hc24 : iv.toInt < (f 1).toInt) => ?_)
                · have hJe : J = (q0 + q1) := by have a1 := hf1.out; have a2 := hq1.out; omega
                  refine px_iinc (v := (1 : Int32)) (r := (2 : Int32)) S23 d2_113 rfl rfl rfl (by decide) (L' := #[.val (.ref ca), .val (.int (3 : Int32)), .val (.int lg), .val (.ref sa), .val (.int v1), .val (.int hv), .val (.int v16), .val (.int pv), .val (.int (2 : Int32)), .val (.int iv)]) rfl ?_
                  refine px_goto S23 d2_116 (by decide) (pc' := 63) rfl ?_
                  refine px_iload S23 d2_63 rfl rfl ?_
                  refine px_iloadN S23 d2_65 rfl rfl ?_
                  refine px_icmp S23 d2_66 (by decide) (pc' := 119) rfl rfl (fun (hc25 : (2 : Int32).toInt > (3 : Int32).toInt) => by exfalso; revert hc25; decide) (fun (hc25 : (2 : Int32).toInt ≤ (3 : Int32).toInt) => ?_)
                  refine px_iconst (v := (0 : Int32)) S23 d2_69 rfl rfl ?_
                  refine px_istore S23 d2_70 rfl (L' := #[.val (.ref ca), .val (.int (3 : Int32)), .val (.int lg), .val (.ref sa), .val (.int v1), .val (.int hv), .val (.int v16), .val (.int pv), .val (.int (2 : Int32)), .val (.int (0 : Int32))]) rfl ?_
                  refine Go.loopH (α := (Nat) × (Int32) × (Int32) × (Nat → Int32)) (Inv := fun k xx h => AI Z h ca .short 4 f ∧ AI Z h sa .byte 512 xx.2.2.2 ∧ xx.1 + k = (q0 + q1 + q2) ∧ xx.2.2.1.toInt = (xx.1 : Int) - ((q0 + q1) : Nat) ∧ ((q0 + q1) : Nat) ≤ xx.1 ∧ xx.2.1.toInt = (PP N M xx.1 : Int) ∧ (∀ K, K < xx.1 → xx.2.2.2 (PP N M K) = Int32.ofNat (symC q0 q1 q2 K)) ∧ Im (b0 = 1) (xx.2.2.2 (N - 1 - 0) = (0 : Int32)) ∧ Im (b1 = 1) (xx.2.2.2 (N - 1 - b0) = (1 : Int32)) ∧ Im (b2 = 1) (xx.2.2.2 (N - 1 - (b0 + b1)) = (2 : Int32)) ∧ Im (b3 = 1) (xx.2.2.2 (N - 1 - (b0 + b1 + b2)) = (3 : Int32))) (pcj := 72) (cl' := 0) (sl' := 0) (Lj := fun xx => #[.val (.ref ca), .val (.int (3 : Int32)), .val (.int lg), .val (.ref sa), .val (.int v1), .val (.int hv), .val (.int v16), .val (.int xx.2.1), .val (.int (2 : Int32)), .val (.int xx.2.2.1)]) (stj := fun xx => []) S23 (fun k IHJ26 xx T27 h27 S27 p27 => ?_) (fun J26 => ?_)
                  · clear A_c A_s e0 e1 e2 e3 hk hiv hJ0 hp hg hJe hc24 hc25
                    obtain ⟨J, pv, iv, g⟩ := xx
                    try dsimp only at p27
                    obtain ⟨A_c, A_s, hk, hiv, hJ0, hp, hg, e0, e1, e2, e3⟩ := p27
                    show Go _ _ _ _ _ 72 #[.val (.ref ca), .val (.int (3 : Int32)), .val (.int lg), .val (.ref sa), .val (.int v1), .val (.int hv), .val (.int v16), .val (.int pv), .val (.int (2 : Int32)), .val (.int iv)] []
                    refine px_iload S27 d2_72 rfl rfl ?_
                    refine px_aloadN S27 d2_74 rfl rfl rfl ?_
                    refine px_iload S27 d2_75 rfl rfl ?_
                    refine px_saload (v := (f 2)) S27 A_c (i := 2) rfl (by decide) rfl d2_77 rfl ?_
                    refine px_icmp S27 d2_78 (by decide) (pc' := 113) rfl rfl (fun (hc28 : iv.toInt ≥ (f 2).toInt) => ?_) (fun (hc28 : iv.toInt < (f 2).toInt) => ?_)
                    · have hJe : J = (q0 + q1 + q2) := by have a1 := hf2.out; have a2 := hq2.out; omega
                      refine px_iinc (v := (1 : Int32)) (r := (3 : Int32)) S27 d2_113 rfl rfl rfl (by decide) (L' := #[.val (.ref ca), .val (.int (3 : Int32)), .val (.int lg), .val (.ref sa), .val (.int v1), .val (.int hv), .val (.int v16), .val (.int pv), .val (.int (3 : Int32)), .val (.int iv)]) rfl ?_
                      refine px_goto S27 d2_116 (by decide) (pc' := 63) rfl ?_
                      refine px_iload S27 d2_63 rfl rfl ?_
                      refine px_iloadN S27 d2_65 rfl rfl ?_
                      refine px_icmp S27 d2_66 (by decide) (pc' := 119) rfl rfl (fun (hc29 : (3 : Int32).toInt > (3 : Int32).toInt) => by exfalso; revert hc29; decide) (fun (hc29 : (3 : Int32).toInt ≤ (3 : Int32).toInt) => ?_)
                      refine px_iconst (v := (0 : Int32)) S27 d2_69 rfl rfl ?_
                      refine px_istore S27 d2_70 rfl (L' := #[.val (.ref ca), .val (.int (3 : Int32)), .val (.int lg), .val (.ref sa), .val (.int v1), .val (.int hv), .val (.int v16), .val (.int pv), .val (.int (3 : Int32)), .val (.int (0 : Int32))]) rfl ?_
                      refine Go.loopH (α := (Nat) × (Int32) × (Int32) × (Nat → Int32)) (Inv := fun k xx h => AI Z h ca .short 4 f ∧ AI Z h sa .byte 512 xx.2.2.2 ∧ xx.1 + k = (q0 + q1 + q2 + q3) ∧ xx.2.2.1.toInt = (xx.1 : Int) - ((q0 + q1 + q2) : Nat) ∧ ((q0 + q1 + q2) : Nat) ≤ xx.1 ∧ xx.2.1.toInt = (PP N M xx.1 : Int) ∧ (∀ K, K < xx.1 → xx.2.2.2 (PP N M K) = Int32.ofNat (symC q0 q1 q2 K)) ∧ Im (b0 = 1) (xx.2.2.2 (N - 1 - 0) = (0 : Int32)) ∧ Im (b1 = 1) (xx.2.2.2 (N - 1 - b0) = (1 : Int32)) ∧ Im (b2 = 1) (xx.2.2.2 (N - 1 - (b0 + b1)) = (2 : Int32)) ∧ Im (b3 = 1) (xx.2.2.2 (N - 1 - (b0 + b1 + b2)) = (3 : Int32))) (pcj := 72) (cl' := 0) (sl' := 0) (Lj := fun xx => #[.val (.ref ca), .val (.int (3 : Int32)), .val (.int lg), .val (.ref sa), .val (.int v1), .val (.int hv), .val (.int v16), .val (.int xx.2.1), .val (.int (3 : Int32)), .val (.int xx.2.2.1)]) (stj := fun xx => []) S27 (fun k IHJ30 xx T31 h31 S31 p31 => ?_) (fun J30 => ?_)
                      · clear A_c A_s e0 e1 e2 e3 hk hiv hJ0 hp hg hJe hc28 hc29
                        obtain ⟨J, pv, iv, g⟩ := xx
                        try dsimp only at p31
                        obtain ⟨A_c, A_s, hk, hiv, hJ0, hp, hg, e0, e1, e2, e3⟩ := p31
                        show Go _ _ _ _ _ 72 #[.val (.ref ca), .val (.int (3 : Int32)), .val (.int lg), .val (.ref sa), .val (.int v1), .val (.int hv), .val (.int v16), .val (.int pv), .val (.int (3 : Int32)), .val (.int iv)] []
                        refine px_iload S31 d2_72 rfl rfl ?_
                        refine px_aloadN S31 d2_74 rfl rfl rfl ?_
                        refine px_iload S31 d2_75 rfl rfl ?_
                        refine px_saload (v := (f 3)) S31 A_c (i := 3) rfl (by decide) rfl d2_77 rfl ?_
                        refine px_icmp S31 d2_78 (by decide) (pc' := 113) rfl rfl (fun (hc32 : iv.toInt ≥ (f 3).toInt) => ?_) (fun (hc32 : iv.toInt < (f 3).toInt) => ?_)
                        · have hJe : J = (q0 + q1 + q2 + q3) := by have a1 := hf3.out; have a2 := hq3.out; omega
                          refine px_iinc (v := (1 : Int32)) (r := (4 : Int32)) S31 d2_113 rfl rfl rfl (by decide) (L' := #[.val (.ref ca), .val (.int (3 : Int32)), .val (.int lg), .val (.ref sa), .val (.int v1), .val (.int hv), .val (.int v16), .val (.int pv), .val (.int (4 : Int32)), .val (.int iv)]) rfl ?_
                          refine px_goto S31 d2_116 (by decide) (pc' := 63) rfl ?_
                          refine px_iload S31 d2_63 rfl rfl ?_
                          refine px_iloadN S31 d2_65 rfl rfl ?_
                          refine px_icmp S31 d2_66 (by decide) (pc' := 119) rfl rfl (fun (hc33 : (4 : Int32).toInt > (3 : Int32).toInt) => ?_) (fun (hc33 : (4 : Int32).toInt ≤ (3 : Int32).toInt) => by exfalso; revert hc33; decide)
                          have hp0 : pv.toInt = 0 := by rw [hp, hJe, show (q0 + q1 + q2 + q3) = N - M from by (have a2 := hsum.out; omega), PP_end hN hM3]; rfl
                          refine px_iload S31 d2_119 rfl rfl ?_
                          refine px_if0 S31 d2_121 (by decide) (pc' := 134) rfl rfl (fun (hc34 : pv.toInt = 0) => ?_) (fun (hc34 : ¬ pv.toInt = 0) => by exfalso; have q0 := rng32 pv; omega)
                          exact px_return S31 d2_134 rfl (by decide) (by decide) (⟨rfl, g, A_s, fun K hK => hg K (by have a2 := hsum.out; omega), e0, e1, e2, e3⟩)
                        · have hJk : J < (q0 + q1 + q2 + q3) := by have a1 := hf3.out; omega
                          have hJ : J < N - M := by have a2 := hsum.out; omega
                          clear hc32
                          obtain ⟨pl, pst⟩ := PP_step hN hM3 hJ
                          replace pst := Hid.mk pst
                          have pJ := (PP_ok hN hM3 J hJ).1
                          refine px_aloadN S31 d2_81 rfl rfl rfl ?_
                          refine px_iload S31 d2_82 rfl rfl ?_
                          refine px_iload S31 d2_84 rfl rfl ?_
                          refine px_i2b S31 d2_86 rfl ?_
                          rw [show i2b (3 : Int32) = (3 : Int32) from by decide]
                          refine px_bastore (v := (3 : Int32)) S31 A_s g_s (i := (PP N M J)) hp (by have q := (PP_ok hN hM3 J hJ).1; omega) (by decide) d2_87 rfl (fun T35 h35 S35 W35 A_s => ?_)
                          replace A_c := A_c.other W35 n_cs
                          refine px_iload S35 d2_88 rfl rfl ?_
                          refine px_iload S35 d2_90 rfl rfl ?_
                          refine px_iadd S35 d2_92 rfl ?_
                          refine px_iload S35 d2_93 rfl rfl ?_
                          refine px_iconst (v := (1 : Int32)) S35 d2_95 rfl rfl ?_
                          refine px_isub S35 d2_96 rfl ?_
                          refine px_iand S35 d2_97 rfl ?_
                          generalize h_v36 : ((pv + v16) &&& (v1 - (1 : Int32))) = v36
                          refine px_istore S35 d2_98 rfl (L' := #[.val (.ref ca), .val (.int (3 : Int32)), .val (.int lg), .val (.ref sa), .val (.int v1), .val (.int hv), .val (.int v16), .val (.int v36), .val (.int (3 : Int32)), .val (.int iv)]) rfl ?_
                          have sa1 : (pv + v16).toInt = ((PP N M J + stpM N : Nat) : Int) := add_nn hp est (by omega) sN
                          have pa1 : v36.toInt = (((PP N M J + stpM N) % N : Nat) : Int) := by rw [← h_v36]; exact msk ev hN sa1
                          have la1 : (PP N M J + stpM N) % N < N := Nat.mod_lt _ (by omega)
                          generalize hA : (PP N M J + stpM N) % N = A at pa1 la1 pst
                          clear hA sa1
                          clear h_v36
                          refine px_iload S35 d2_100 rfl rfl ?_
                          refine px_iload S35 d2_102 rfl rfl ?_
                          refine px_icmp S35 d2_104 (by decide) (pc' := 88) rfl rfl (fun (hc37 : v36.toInt > hv.toInt) => ?_) (fun (hc37 : v36.toInt ≤ hv.toInt) => ?_)
                          · refine px_iload S35 d2_88 rfl rfl ?_
                            refine px_iload S35 d2_90 rfl rfl ?_
                            refine px_iadd S35 d2_92 rfl ?_
                            refine px_iload S35 d2_93 rfl rfl ?_
                            refine px_iconst (v := (1 : Int32)) S35 d2_95 rfl rfl ?_
                            refine px_isub S35 d2_96 rfl ?_
                            refine px_iand S35 d2_97 rfl ?_
                            generalize h_v38 : ((v36 + v16) &&& (v1 - (1 : Int32))) = v38
                            refine px_istore S35 d2_98 rfl (L' := #[.val (.ref ca), .val (.int (3 : Int32)), .val (.int lg), .val (.ref sa), .val (.int v1), .val (.int hv), .val (.int v16), .val (.int v38), .val (.int (3 : Int32)), .val (.int iv)]) rfl ?_
                            have sa2 : (v36 + v16).toInt = ((A + stpM N : Nat) : Int) := add_nn pa1 est (by omega) sN
                            have pa2 : v38.toInt = (((A + stpM N) % N : Nat) : Int) := by rw [← h_v38]; exact msk ev hN sa2
                            generalize hA2 : (A + stpM N) % N = A2 at pa2 pst
                            clear hA2 sa2
                            have pc2 : A2 < N - M := by rcases pst.out with ⟨pa, pb⟩ | ⟨pa, pb⟩ <;> omega
                            clear h_v38
                            refine px_iload S35 d2_100 rfl rfl ?_
                            refine px_iload S35 d2_102 rfl rfl ?_
                            refine px_icmp S35 d2_104 (by decide) (pc' := 88) rfl rfl (fun (hc39 : v38.toInt > hv.toInt) => by exfalso; have q0 := rng32 v38; have q1 := rng32 hv; omega) (fun (hc39 : v38.toInt ≤ hv.toInt) => ?_)
                            refine px_iinc (v := (1 : Int32)) (r := (iv + (1 : Int32))) S35 d2_107 rfl rfl rfl rfl (L' := #[.val (.ref ca), .val (.int (3 : Int32)), .val (.int lg), .val (.ref sa), .val (.int v1), .val (.int hv), .val (.int v16), .val (.int v38), .val (.int (3 : Int32)), .val (.int (iv + (1 : Int32)))]) rfl ?_
                            generalize h_v40 : (iv + (1 : Int32)) = v40
                            refine px_goto S35 d2_110 (by decide) (pc' := 72) rfl ?_
                            exact IHJ30 (k - 1) (by omega) (J + 1, v38, v40, (updF g (PP N M J) (3 : Int32))) _ _ S35 ⟨A_c, A_s, by (try dsimp only); omega, inc_iv (C := (q0 + q1 + q2)) h_v40 hiv hJ0 (by omega), by (try dsimp only); omega, by (try dsimp only); rcases pst.out with ⟨pa, pb⟩ | ⟨pa, pb⟩ <;> (try rw [pb]) <;> omega, fun K hK => by (try dsimp only at hK ⊢); by_cases e : K = J; (· rw [e, updF_same, sym_3 (by omega)]; decide); (· rw [updF_ne _ _ (PP_ne hN hM3 (by omega) hJ e)]; exact hg K (by omega)), fun hb => by (try dsimp only); rw [updF_ne _ _ (by have q := (PP_ok hN hM3 J hJ).1; omega)]; exact e0 hb, fun hb => by (try dsimp only); rw [updF_ne _ _ (by have q := (PP_ok hN hM3 J hJ).1; omega)]; exact e1 hb, fun hb => by (try dsimp only); rw [updF_ne _ _ (by have q := (PP_ok hN hM3 J hJ).1; omega)]; exact e2 hb, fun hb => by (try dsimp only); rw [updF_ne _ _ (by have q := (PP_ok hN hM3 J hJ).1; omega)]; exact e3 hb⟩
                          · refine px_iinc (v := (1 : Int32)) (r := (iv + (1 : Int32))) S35 d2_107 rfl rfl rfl rfl (L' := #[.val (.ref ca), .val (.int (3 : Int32)), .val (.int lg), .val (.ref sa), .val (.int v1), .val (.int hv), .val (.int v16), .val (.int v36), .val (.int (3 : Int32)), .val (.int (iv + (1 : Int32)))]) rfl ?_
                            generalize h_v41 : (iv + (1 : Int32)) = v41
                            refine px_goto S35 d2_110 (by decide) (pc' := 72) rfl ?_
                            exact IHJ30 (k - 1) (by omega) (J + 1, v36, v41, (updF g (PP N M J) (3 : Int32))) _ _ S35 ⟨A_c, A_s, by (try dsimp only); omega, inc_iv (C := (q0 + q1 + q2)) h_v41 hiv hJ0 (by omega), by (try dsimp only); omega, by (try dsimp only); rcases pst.out with ⟨pa, pb⟩ | ⟨pa, pb⟩ <;> (try rw [pb]) <;> omega, fun K hK => by (try dsimp only at hK ⊢); by_cases e : K = J; (· rw [e, updF_same, sym_3 (by omega)]; decide); (· rw [updF_ne _ _ (PP_ne hN hM3 (by omega) hJ e)]; exact hg K (by omega)), fun hb => by (try dsimp only); rw [updF_ne _ _ (by have q := (PP_ok hN hM3 J hJ).1; omega)]; exact e0 hb, fun hb => by (try dsimp only); rw [updF_ne _ _ (by have q := (PP_ok hN hM3 J hJ).1; omega)]; exact e1 hb, fun hb => by (try dsimp only); rw [updF_ne _ _ (by have q := (PP_ok hN hM3 J hJ).1; omega)]; exact e2 hb, fun hb => by (try dsimp only); rw [updF_ne _ _ (by have q := (PP_ok hN hM3 J hJ).1; omega)]; exact e3 hb⟩
                      · exact J30 q3 (J, pv, (0 : Int32), g) _ _ S27 ⟨A_c, A_s, by (try dsimp only); have q0 := (show (0 : Int32).toInt = 0 from rfl); omega, by (try dsimp only); have q0 := (show (0 : Int32).toInt = 0 from rfl); omega, by (try dsimp only); have q0 := (show (0 : Int32).toInt = 0 from rfl); omega, hp, hg, e0, e1, e2, e3⟩
                    · have hJk : J < (q0 + q1 + q2) := by have a1 := hf2.out; omega
                      have hJ : J < N - M := by have a2 := hsum.out; omega
                      clear hc28
                      obtain ⟨pl, pst⟩ := PP_step hN hM3 hJ
                      replace pst := Hid.mk pst
                      have pJ := (PP_ok hN hM3 J hJ).1
                      refine px_aloadN S27 d2_81 rfl rfl rfl ?_
                      refine px_iload S27 d2_82 rfl rfl ?_
                      refine px_iload S27 d2_84 rfl rfl ?_
                      refine px_i2b S27 d2_86 rfl ?_
                      rw [show i2b (2 : Int32) = (2 : Int32) from by decide]
                      refine px_bastore (v := (2 : Int32)) S27 A_s g_s (i := (PP N M J)) hp (by have q := (PP_ok hN hM3 J hJ).1; omega) (by decide) d2_87 rfl (fun T42 h42 S42 W42 A_s => ?_)
                      replace A_c := A_c.other W42 n_cs
                      refine px_iload S42 d2_88 rfl rfl ?_
                      refine px_iload S42 d2_90 rfl rfl ?_
                      refine px_iadd S42 d2_92 rfl ?_
                      refine px_iload S42 d2_93 rfl rfl ?_
                      refine px_iconst (v := (1 : Int32)) S42 d2_95 rfl rfl ?_
                      refine px_isub S42 d2_96 rfl ?_
                      refine px_iand S42 d2_97 rfl ?_
                      generalize h_v43 : ((pv + v16) &&& (v1 - (1 : Int32))) = v43
                      refine px_istore S42 d2_98 rfl (L' := #[.val (.ref ca), .val (.int (3 : Int32)), .val (.int lg), .val (.ref sa), .val (.int v1), .val (.int hv), .val (.int v16), .val (.int v43), .val (.int (2 : Int32)), .val (.int iv)]) rfl ?_
                      have sa1 : (pv + v16).toInt = ((PP N M J + stpM N : Nat) : Int) := add_nn hp est (by omega) sN
                      have pa1 : v43.toInt = (((PP N M J + stpM N) % N : Nat) : Int) := by rw [← h_v43]; exact msk ev hN sa1
                      have la1 : (PP N M J + stpM N) % N < N := Nat.mod_lt _ (by omega)
                      generalize hA : (PP N M J + stpM N) % N = A at pa1 la1 pst
                      clear hA sa1
                      clear h_v43
                      refine px_iload S42 d2_100 rfl rfl ?_
                      refine px_iload S42 d2_102 rfl rfl ?_
                      refine px_icmp S42 d2_104 (by decide) (pc' := 88) rfl rfl (fun (hc44 : v43.toInt > hv.toInt) => ?_) (fun (hc44 : v43.toInt ≤ hv.toInt) => ?_)
                      · refine px_iload S42 d2_88 rfl rfl ?_
                        refine px_iload S42 d2_90 rfl rfl ?_
                        refine px_iadd S42 d2_92 rfl ?_
                        refine px_iload S42 d2_93 rfl rfl ?_
                        refine px_iconst (v := (1 : Int32)) S42 d2_95 rfl rfl ?_
                        refine px_isub S42 d2_96 rfl ?_
                        refine px_iand S42 d2_97 rfl ?_
                        generalize h_v45 : ((v43 + v16) &&& (v1 - (1 : Int32))) = v45
                        refine px_istore S42 d2_98 rfl (L' := #[.val (.ref ca), .val (.int (3 : Int32)), .val (.int lg), .val (.ref sa), .val (.int v1), .val (.int hv), .val (.int v16), .val (.int v45), .val (.int (2 : Int32)), .val (.int iv)]) rfl ?_
                        have sa2 : (v43 + v16).toInt = ((A + stpM N : Nat) : Int) := add_nn pa1 est (by omega) sN
                        have pa2 : v45.toInt = (((A + stpM N) % N : Nat) : Int) := by rw [← h_v45]; exact msk ev hN sa2
                        generalize hA2 : (A + stpM N) % N = A2 at pa2 pst
                        clear hA2 sa2
                        have pc2 : A2 < N - M := by rcases pst.out with ⟨pa, pb⟩ | ⟨pa, pb⟩ <;> omega
                        clear h_v45
                        refine px_iload S42 d2_100 rfl rfl ?_
                        refine px_iload S42 d2_102 rfl rfl ?_
                        refine px_icmp S42 d2_104 (by decide) (pc' := 88) rfl rfl (fun (hc46 : v45.toInt > hv.toInt) => by exfalso; have q0 := rng32 v45; have q1 := rng32 hv; omega) (fun (hc46 : v45.toInt ≤ hv.toInt) => ?_)
                        refine px_iinc (v := (1 : Int32)) (r := (iv + (1 : Int32))) S42 d2_107 rfl rfl rfl rfl (L' := #[.val (.ref ca), .val (.int (3 : Int32)), .val (.int lg), .val (.ref sa), .val (.int v1), .val (.int hv), .val (.int v16), .val (.int v45), .val (.int (2 : Int32)), .val (.int (iv + (1 : Int32)))]) rfl ?_
                        generalize h_v47 : (iv + (1 : Int32)) = v47
                        refine px_goto S42 d2_110 (by decide) (pc' := 72) rfl ?_
                        exact IHJ26 (k - 1) (by omega) (J + 1, v45, v47, (updF g (PP N M J) (2 : Int32))) _ _ S42 ⟨A_c, A_s, by (try dsimp only); omega, inc_iv (C := (q0 + q1)) h_v47 hiv hJ0 (by omega), by (try dsimp only); omega, by (try dsimp only); rcases pst.out with ⟨pa, pb⟩ | ⟨pa, pb⟩ <;> (try rw [pb]) <;> omega, fun K hK => by (try dsimp only at hK ⊢); by_cases e : K = J; (· rw [e, updF_same, sym_2 (by omega) (by omega)]; decide); (· rw [updF_ne _ _ (PP_ne hN hM3 (by omega) hJ e)]; exact hg K (by omega)), fun hb => by (try dsimp only); rw [updF_ne _ _ (by have q := (PP_ok hN hM3 J hJ).1; omega)]; exact e0 hb, fun hb => by (try dsimp only); rw [updF_ne _ _ (by have q := (PP_ok hN hM3 J hJ).1; omega)]; exact e1 hb, fun hb => by (try dsimp only); rw [updF_ne _ _ (by have q := (PP_ok hN hM3 J hJ).1; omega)]; exact e2 hb, fun hb => by (try dsimp only); rw [updF_ne _ _ (by have q := (PP_ok hN hM3 J hJ).1; omega)]; exact e3 hb⟩
                      · refine px_iinc (v := (1 : Int32)) (r := (iv + (1 : Int32))) S42 d2_107 rfl rfl rfl rfl (L' := #[.val (.ref ca), .val (.int (3 : Int32)), .val (.int lg), .val (.ref sa), .val (.int v1), .val (.int hv), .val (.int v16), .val (.int v43), .val (.int (2 : Int32)), .val (.int (iv + (1 : Int32)))]) rfl ?_
                        generalize h_v48 : (iv + (1 : Int32)) = v48
                        refine px_goto S42 d2_110 (by decide) (pc' := 72) rfl ?_
                        exact IHJ26 (k - 1) (by omega) (J + 1, v43, v48, (updF g (PP N M J) (2 : Int32))) _ _ S42 ⟨A_c, A_s, by (try dsimp only); omega, inc_iv (C := (q0 + q1)) h_v48 hiv hJ0 (by omega), by (try dsimp only); omega, by (try dsimp only); rcases pst.out with ⟨pa, pb⟩ | ⟨pa, pb⟩ <;> (try rw [pb]) <;> omega, fun K hK => by (try dsimp only at hK ⊢); by_cases e : K = J; (· rw [e, updF_same, sym_2 (by omega) (by omega)]; decide); (· rw [updF_ne _ _ (PP_ne hN hM3 (by omega) hJ e)]; exact hg K (by omega)), fun hb => by (try dsimp only); rw [updF_ne _ _ (by have q := (PP_ok hN hM3 J hJ).1; omega)]; exact e0 hb, fun hb => by (try dsimp only); rw [updF_ne _ _ (by have q := (PP_ok hN hM3 J hJ).1; omega)]; exact e1 hb, fun hb => by (try dsimp only); rw [updF_ne _ _ (by have q := (PP_ok hN hM3 J hJ).1; omega)]; exact e2 hb, fun hb => by (try dsimp only); rw [updF_ne _ _ (by have q := (PP_ok hN hM3 J hJ).1; omega)]; exact e3 hb⟩
                  · exact J26 q2 (J, pv, (0 : Int32), g) _ _ S23 ⟨A_c, A_s, by (try dsimp only); have q0 := (show (0 : Int32).toInt = 0 from rfl); omega, by (try dsimp only); have q0 := (show (0 : Int32).toInt = 0 from rfl); omega, by (try dsimp only); have q0 := (show (0 : Int32).toInt = 0 from rfl); omega, hp, hg, e0, e1, e2, e3⟩
                · have hJk : J < (q0 + q1) := by have a1 := hf1.out; omega
                  have hJ : J < N - M := by have a2 := hsum.out; omega
                  clear hc24
                  obtain ⟨pl, pst⟩ := PP_step hN hM3 hJ
                  replace pst := Hid.mk pst
                  have pJ := (PP_ok hN hM3 J hJ).1
                  refine px_aloadN S23 d2_81 rfl rfl rfl ?_
                  refine px_iload S23 d2_82 rfl rfl ?_
                  refine px_iload S23 d2_84 rfl rfl ?_
                  refine px_i2b S23 d2_86 rfl ?_
                  rw [show i2b (1 : Int32) = (1 : Int32) from by decide]
                  refine px_bastore (v := (1 : Int32)) S23 A_s g_s (i := (PP N M J)) hp (by have q := (PP_ok hN hM3 J hJ).1; omega) (by decide) d2_87 rfl (fun T49 h49 S49 W49 A_s => ?_)
                  replace A_c := A_c.other W49 n_cs
                  refine px_iload S49 d2_88 rfl rfl ?_
                  refine px_iload S49 d2_90 rfl rfl ?_
                  refine px_iadd S49 d2_92 rfl ?_
                  refine px_iload S49 d2_93 rfl rfl ?_
                  refine px_iconst (v := (1 : Int32)) S49 d2_95 rfl rfl ?_
                  refine px_isub S49 d2_96 rfl ?_
                  refine px_iand S49 d2_97 rfl ?_
                  generalize h_v50 : ((pv + v16) &&& (v1 - (1 : Int32))) = v50
                  refine px_istore S49 d2_98 rfl (L' := #[.val (.ref ca), .val (.int (3 : Int32)), .val (.int lg), .val (.ref sa), .val (.int v1), .val (.int hv), .val (.int v16), .val (.int v50), .val (.int (1 : Int32)), .val (.int iv)]) rfl ?_
                  have sa1 : (pv + v16).toInt = ((PP N M J + stpM N : Nat) : Int) := add_nn hp est (by omega) sN
                  have pa1 : v50.toInt = (((PP N M J + stpM N) % N : Nat) : Int) := by rw [← h_v50]; exact msk ev hN sa1
                  have la1 : (PP N M J + stpM N) % N < N := Nat.mod_lt _ (by omega)
                  generalize hA : (PP N M J + stpM N) % N = A at pa1 la1 pst
                  clear hA sa1
                  clear h_v50
                  refine px_iload S49 d2_100 rfl rfl ?_
                  refine px_iload S49 d2_102 rfl rfl ?_
                  refine px_icmp S49 d2_104 (by decide) (pc' := 88) rfl rfl (fun (hc51 : v50.toInt > hv.toInt) => ?_) (fun (hc51 : v50.toInt ≤ hv.toInt) => ?_)
                  · refine px_iload S49 d2_88 rfl rfl ?_
                    refine px_iload S49 d2_90 rfl rfl ?_
                    refine px_iadd S49 d2_92 rfl ?_
                    refine px_iload S49 d2_93 rfl rfl ?_
                    refine px_iconst (v := (1 : Int32)) S49 d2_95 rfl rfl ?_
                    refine px_isub S49 d2_96 rfl ?_
                    refine px_iand S49 d2_97 rfl ?_
                    generalize h_v52 : ((v50 + v16) &&& (v1 - (1 : Int32))) = v52
                    refine px_istore S49 d2_98 rfl (L' := #[.val (.ref ca), .val (.int (3 : Int32)), .val (.int lg), .val (.ref sa), .val (.int v1), .val (.int hv), .val (.int v16), .val (.int v52), .val (.int (1 : Int32)), .val (.int iv)]) rfl ?_
                    have sa2 : (v50 + v16).toInt = ((A + stpM N : Nat) : Int) := add_nn pa1 est (by omega) sN
                    have pa2 : v52.toInt = (((A + stpM N) % N : Nat) : Int) := by rw [← h_v52]; exact msk ev hN sa2
                    generalize hA2 : (A + stpM N) % N = A2 at pa2 pst
                    clear hA2 sa2
                    have pc2 : A2 < N - M := by rcases pst.out with ⟨pa, pb⟩ | ⟨pa, pb⟩ <;> omega
                    clear h_v52
                    refine px_iload S49 d2_100 rfl rfl ?_
                    refine px_iload S49 d2_102 rfl rfl ?_
                    refine px_icmp S49 d2_104 (by decide) (pc' := 88) rfl rfl (fun (hc53 : v52.toInt > hv.toInt) => by exfalso; have q0 := rng32 v52; have q1 := rng32 hv; omega) (fun (hc53 : v52.toInt ≤ hv.toInt) => ?_)
                    refine px_iinc (v := (1 : Int32)) (r := (iv + (1 : Int32))) S49 d2_107 rfl rfl rfl rfl (L' := #[.val (.ref ca), .val (.int (3 : Int32)), .val (.int lg), .val (.ref sa), .val (.int v1), .val (.int hv), .val (.int v16), .val (.int v52), .val (.int (1 : Int32)), .val (.int (iv + (1 : Int32)))]) rfl ?_
                    generalize h_v54 : (iv + (1 : Int32)) = v54
                    refine px_goto S49 d2_110 (by decide) (pc' := 72) rfl ?_
                    exact IHJ22 (k - 1) (by omega) (J + 1, v52, v54, (updF g (PP N M J) (1 : Int32))) _ _ S49 ⟨A_c, A_s, by (try dsimp only); omega, inc_iv (C := q0) h_v54 hiv hJ0 (by omega), by (try dsimp only); omega, by (try dsimp only); rcases pst.out with ⟨pa, pb⟩ | ⟨pa, pb⟩ <;> (try rw [pb]) <;> omega, fun K hK => by (try dsimp only at hK ⊢); by_cases e : K = J; (· rw [e, updF_same, sym_1 (by omega) (by omega)]; decide); (· rw [updF_ne _ _ (PP_ne hN hM3 (by omega) hJ e)]; exact hg K (by omega)), fun hb => by (try dsimp only); rw [updF_ne _ _ (by have q := (PP_ok hN hM3 J hJ).1; omega)]; exact e0 hb, fun hb => by (try dsimp only); rw [updF_ne _ _ (by have q := (PP_ok hN hM3 J hJ).1; omega)]; exact e1 hb, fun hb => by (try dsimp only); rw [updF_ne _ _ (by have q := (PP_ok hN hM3 J hJ).1; omega)]; exact e2 hb, fun hb => by (try dsimp only); rw [updF_ne _ _ (by have q := (PP_ok hN hM3 J hJ).1; omega)]; exact e3 hb⟩
                  · refine px_iinc (v := (1 : Int32)) (r := (iv + (1 : Int32))) S49 d2_107 rfl rfl rfl rfl (L' := #[.val (.ref ca), .val (.int (3 : Int32)), .val (.int lg), .val (.ref sa), .val (.int v1), .val (.int hv), .val (.int v16), .val (.int v50), .val (.int (1 : Int32)), .val (.int (iv + (1 : Int32)))]) rfl ?_
                    generalize h_v55 : (iv + (1 : Int32)) = v55
                    refine px_goto S49 d2_110 (by decide) (pc' := 72) rfl ?_
                    exact IHJ22 (k - 1) (by omega) (J + 1, v50, v55, (updF g (PP N M J) (1 : Int32))) _ _ S49 ⟨A_c, A_s, by (try dsimp only); omega, inc_iv (C := q0) h_v55 hiv hJ0 (by omega), by (try dsimp only); omega, by (try dsimp only); rcases pst.out with ⟨pa, pb⟩ | ⟨pa, pb⟩ <;> (try rw [pb]) <;> omega, fun K hK => by (try dsimp only at hK ⊢); by_cases e : K = J; (· rw [e, updF_same, sym_1 (by omega) (by omega)]; decide); (· rw [updF_ne _ _ (PP_ne hN hM3 (by omega) hJ e)]; exact hg K (by omega)), fun hb => by (try dsimp only); rw [updF_ne _ _ (by have q := (PP_ok hN hM3 J hJ).1; omega)]; exact e0 hb, fun hb => by (try dsimp only); rw [updF_ne _ _ (by have q := (PP_ok hN hM3 J hJ).1; omega)]; exact e1 hb, fun hb => by (try dsimp only); rw [updF_ne _ _ (by have q := (PP_ok hN hM3 J hJ).1; omega)]; exact e2 hb, fun hb => by (try dsimp only); rw [updF_ne _ _ (by have q := (PP_ok hN hM3 J hJ).1; omega)]; exact e3 hb⟩
              · exact J22 q1 (J, pv, (0 : Int32), g) _ _ S19 ⟨A_c, A_s, by (try dsimp only); have q0 := (show (0 : Int32).toInt = 0 from rfl); omega, by (try dsimp only); have q0 := (show (0 : Int32).toInt = 0 from rfl); omega, by (try dsimp only); have q0 := (show (0 : Int32).toInt = 0 from rfl); omega, hp, hg, e0, e1, e2, e3⟩
            · have hJk : J < q0 := by have a1 := hf0.out; omega
              have hJ : J < N - M := by have a2 := hsum.out; omega
              clear hc20
              obtain ⟨pl, pst⟩ := PP_step hN hM3 hJ
              replace pst := Hid.mk pst
              have pJ := (PP_ok hN hM3 J hJ).1
              refine px_aloadN S19 d2_81 rfl rfl rfl ?_
              refine px_iload S19 d2_82 rfl rfl ?_
              refine px_iload S19 d2_84 rfl rfl ?_
              refine px_i2b S19 d2_86 rfl ?_
              rw [show i2b (0 : Int32) = (0 : Int32) from by decide]
              refine px_bastore (v := (0 : Int32)) S19 A_s g_s (i := (PP N M J)) hp (by have q := (PP_ok hN hM3 J hJ).1; omega) (by decide) d2_87 rfl (fun T56 h56 S56 W56 A_s => ?_)
              replace A_c := A_c.other W56 n_cs
              refine px_iload S56 d2_88 rfl rfl ?_
              refine px_iload S56 d2_90 rfl rfl ?_
              refine px_iadd S56 d2_92 rfl ?_
              refine px_iload S56 d2_93 rfl rfl ?_
              refine px_iconst (v := (1 : Int32)) S56 d2_95 rfl rfl ?_
              refine px_isub S56 d2_96 rfl ?_
              refine px_iand S56 d2_97 rfl ?_
              generalize h_v57 : ((pv + v16) &&& (v1 - (1 : Int32))) = v57
              refine px_istore S56 d2_98 rfl (L' := #[.val (.ref ca), .val (.int (3 : Int32)), .val (.int lg), .val (.ref sa), .val (.int v1), .val (.int hv), .val (.int v16), .val (.int v57), .val (.int (0 : Int32)), .val (.int iv)]) rfl ?_
              have sa1 : (pv + v16).toInt = ((PP N M J + stpM N : Nat) : Int) := add_nn hp est (by omega) sN
              have pa1 : v57.toInt = (((PP N M J + stpM N) % N : Nat) : Int) := by rw [← h_v57]; exact msk ev hN sa1
              have la1 : (PP N M J + stpM N) % N < N := Nat.mod_lt _ (by omega)
              generalize hA : (PP N M J + stpM N) % N = A at pa1 la1 pst
              clear hA sa1
              clear h_v57
              refine px_iload S56 d2_100 rfl rfl ?_
              refine px_iload S56 d2_102 rfl rfl ?_
              refine px_icmp S56 d2_104 (by decide) (pc' := 88) rfl rfl (fun (hc58 : v57.toInt > hv.toInt) => ?_) (fun (hc58 : v57.toInt ≤ hv.toInt) => ?_)
              · refine px_iload S56 d2_88 rfl rfl ?_
                refine px_iload S56 d2_90 rfl rfl ?_
                refine px_iadd S56 d2_92 rfl ?_
                refine px_iload S56 d2_93 rfl rfl ?_
                refine px_iconst (v := (1 : Int32)) S56 d2_95 rfl rfl ?_
                refine px_isub S56 d2_96 rfl ?_
                refine px_iand S56 d2_97 rfl ?_
                generalize h_v59 : ((v57 + v16) &&& (v1 - (1 : Int32))) = v59
                refine px_istore S56 d2_98 rfl (L' := #[.val (.ref ca), .val (.int (3 : Int32)), .val (.int lg), .val (.ref sa), .val (.int v1), .val (.int hv), .val (.int v16), .val (.int v59), .val (.int (0 : Int32)), .val (.int iv)]) rfl ?_
                have sa2 : (v57 + v16).toInt = ((A + stpM N : Nat) : Int) := add_nn pa1 est (by omega) sN
                have pa2 : v59.toInt = (((A + stpM N) % N : Nat) : Int) := by rw [← h_v59]; exact msk ev hN sa2
                generalize hA2 : (A + stpM N) % N = A2 at pa2 pst
                clear hA2 sa2
                have pc2 : A2 < N - M := by rcases pst.out with ⟨pa, pb⟩ | ⟨pa, pb⟩ <;> omega
                clear h_v59
                refine px_iload S56 d2_100 rfl rfl ?_
                refine px_iload S56 d2_102 rfl rfl ?_
                refine px_icmp S56 d2_104 (by decide) (pc' := 88) rfl rfl (fun (hc60 : v59.toInt > hv.toInt) => by exfalso; have q0 := rng32 v59; have q1 := rng32 hv; omega) (fun (hc60 : v59.toInt ≤ hv.toInt) => ?_)
                refine px_iinc (v := (1 : Int32)) (r := (iv + (1 : Int32))) S56 d2_107 rfl rfl rfl rfl (L' := #[.val (.ref ca), .val (.int (3 : Int32)), .val (.int lg), .val (.ref sa), .val (.int v1), .val (.int hv), .val (.int v16), .val (.int v59), .val (.int (0 : Int32)), .val (.int (iv + (1 : Int32)))]) rfl ?_
                generalize h_v61 : (iv + (1 : Int32)) = v61
                refine px_goto S56 d2_110 (by decide) (pc' := 72) rfl ?_
                exact IHJ18 (k - 1) (by omega) (J + 1, v59, v61, (updF g (PP N M J) (0 : Int32))) _ _ S56 ⟨A_c, A_s, by (try dsimp only); omega, inc_iv (C := 0) h_v61 hiv hJ0 (by omega), by (try dsimp only); omega, by (try dsimp only); rcases pst.out with ⟨pa, pb⟩ | ⟨pa, pb⟩ <;> (try rw [pb]) <;> omega, fun K hK => by (try dsimp only at hK ⊢); by_cases e : K = J; (· rw [e, updF_same, sym_0 (by omega)]; decide); (· rw [updF_ne _ _ (PP_ne hN hM3 (by omega) hJ e)]; exact hg K (by omega)), fun hb => by (try dsimp only); rw [updF_ne _ _ (by have q := (PP_ok hN hM3 J hJ).1; omega)]; exact e0 hb, fun hb => by (try dsimp only); rw [updF_ne _ _ (by have q := (PP_ok hN hM3 J hJ).1; omega)]; exact e1 hb, fun hb => by (try dsimp only); rw [updF_ne _ _ (by have q := (PP_ok hN hM3 J hJ).1; omega)]; exact e2 hb, fun hb => by (try dsimp only); rw [updF_ne _ _ (by have q := (PP_ok hN hM3 J hJ).1; omega)]; exact e3 hb⟩
              · refine px_iinc (v := (1 : Int32)) (r := (iv + (1 : Int32))) S56 d2_107 rfl rfl rfl rfl (L' := #[.val (.ref ca), .val (.int (3 : Int32)), .val (.int lg), .val (.ref sa), .val (.int v1), .val (.int hv), .val (.int v16), .val (.int v57), .val (.int (0 : Int32)), .val (.int (iv + (1 : Int32)))]) rfl ?_
                generalize h_v62 : (iv + (1 : Int32)) = v62
                refine px_goto S56 d2_110 (by decide) (pc' := 72) rfl ?_
                exact IHJ18 (k - 1) (by omega) (J + 1, v57, v62, (updF g (PP N M J) (0 : Int32))) _ _ S56 ⟨A_c, A_s, by (try dsimp only); omega, inc_iv (C := 0) h_v62 hiv hJ0 (by omega), by (try dsimp only); omega, by (try dsimp only); rcases pst.out with ⟨pa, pb⟩ | ⟨pa, pb⟩ <;> (try rw [pb]) <;> omega, fun K hK => by (try dsimp only at hK ⊢); by_cases e : K = J; (· rw [e, updF_same, sym_0 (by omega)]; decide); (· rw [updF_ne _ _ (PP_ne hN hM3 (by omega) hJ e)]; exact hg K (by omega)), fun hb => by (try dsimp only); rw [updF_ne _ _ (by have q := (PP_ok hN hM3 J hJ).1; omega)]; exact e0 hb, fun hb => by (try dsimp only); rw [updF_ne _ _ (by have q := (PP_ok hN hM3 J hJ).1; omega)]; exact e1 hb, fun hb => by (try dsimp only); rw [updF_ne _ _ (by have q := (PP_ok hN hM3 J hJ).1; omega)]; exact e2 hb, fun hb => by (try dsimp only); rw [updF_ne _ _ (by have q := (PP_ok hN hM3 J hJ).1; omega)]; exact e3 hb⟩
          · exact J18 q0 (0, (0 : Int32), (0 : Int32), g) _ _ S14 ⟨A_c, A_s, by (try dsimp only); omega, rfl, Nat.le_refl _, rfl, fun K hK => absurd hK (Nat.not_lt_zero K), e0, e1, e2, e3⟩
        · refine px_aloadN S11 d2_20 rfl rfl rfl ?_
          refine px_iload S11 d2_21 rfl rfl ?_
          refine px_saload (v := (f 3)) S11 A_c (i := 3) rfl (by decide) rfl d2_23 rfl ?_
          refine px_iconst (v := (-1 : Int32)) S11 d2_24 rfl rfl ?_
          refine px_icmp S11 d2_25 (by decide) (pc' := 38) rfl rfl (fun (hc63 : ¬ (f 3).toInt = (-1 : Int32).toInt) => ?_) (fun (hc63 : (f 3).toInt = (-1 : Int32).toInt) => ?_)
          · have bk := cb_0 hf3.out hb3 hq3.out hc63
            clear hc63
            exact J13 (hv, g) _ _ S11 ⟨A_c, A_s, by (try dsimp only); have q := hv_0 (B := (b0 + b1 + b2)) (b := b3) eh bk; (try rw [Nat.zero_add] at q); exact q, e0, e1, e2, fun hb => by exfalso; omega⟩
          · refine px_aloadN S11 d2_28 rfl rfl rfl ?_
            refine px_iload S11 d2_29 rfl rfl ?_
            refine px_iinc (v := (-1 : Int32)) (r := (hv + (-1 : Int32))) S11 d2_31 rfl rfl rfl rfl (L' := #[.val (.ref ca), .val (.int (3 : Int32)), .val (.int lg), .val (.ref sa), .val (.int v1), .val (.int (hv + (-1 : Int32))), .val (.int (3 : Int32)), .unset, .unset, .unset]) rfl ?_
            generalize h_v64 : (hv + (-1 : Int32)) = v64
            refine px_iload S11 d2_34 rfl rfl ?_
            refine px_i2b S11 d2_36 rfl ?_
            rw [show i2b (3 : Int32) = (3 : Int32) from by decide]
            refine px_bastore (v := (3 : Int32)) S11 A_s g_s (i := (N - 1 - (b0 + b1 + b2))) (by omega) (by omega) (by decide) d2_37 rfl (fun T65 h65 S65 W65 A_s => ?_)
            replace A_c := A_c.other W65 n_cs
            have bk := cb_1 hf3.out hb3 hq3.out hc63
            clear hc63
            exact J13 (v64, (updF g (N - 1 - (b0 + b1 + b2)) (3 : Int32))) _ _ S65 ⟨A_c, A_s, by (try dsimp only); have q := dec_hv (B := (b0 + b1 + b2)) (b := b3) h_v64 eh hNg (by omega) bk; (try rw [Nat.zero_add] at q); exact q, fun hb => by (try dsimp only); rw [updF_ne _ _ (by omega)]; exact e0 hb, fun hb => by (try dsimp only); rw [updF_ne _ _ (by omega)]; exact e1 hb, fun hb => by (try dsimp only); rw [updF_ne _ _ (by omega)]; exact e2 hb, fun hb => by (try dsimp only); exact updF_same _ _ _⟩
      · refine px_aloadN S8 d2_20 rfl rfl rfl ?_
        refine px_iload S8 d2_21 rfl rfl ?_
        refine px_saload (v := (f 2)) S8 A_c (i := 2) rfl (by decide) rfl d2_23 rfl ?_
        refine px_iconst (v := (-1 : Int32)) S8 d2_24 rfl rfl ?_
        refine px_icmp S8 d2_25 (by decide) (pc' := 38) rfl rfl (fun (hc66 : ¬ (f 2).toInt = (-1 : Int32).toInt) => ?_) (fun (hc66 : (f 2).toInt = (-1 : Int32).toInt) => ?_)
        · have bk := cb_0 hf2.out hb2 hq2.out hc66
          clear hc66
          exact J10 (hv, g) _ _ S8 ⟨A_c, A_s, by (try dsimp only); have q := hv_0 (B := (b0 + b1)) (b := b2) eh bk; (try rw [Nat.zero_add] at q); exact q, e0, e1, fun hb => by exfalso; omega⟩
        · refine px_aloadN S8 d2_28 rfl rfl rfl ?_
          refine px_iload S8 d2_29 rfl rfl ?_
          refine px_iinc (v := (-1 : Int32)) (r := (hv + (-1 : Int32))) S8 d2_31 rfl rfl rfl rfl (L' := #[.val (.ref ca), .val (.int (3 : Int32)), .val (.int lg), .val (.ref sa), .val (.int v1), .val (.int (hv + (-1 : Int32))), .val (.int (2 : Int32)), .unset, .unset, .unset]) rfl ?_
          generalize h_v67 : (hv + (-1 : Int32)) = v67
          refine px_iload S8 d2_34 rfl rfl ?_
          refine px_i2b S8 d2_36 rfl ?_
          rw [show i2b (2 : Int32) = (2 : Int32) from by decide]
          refine px_bastore (v := (2 : Int32)) S8 A_s g_s (i := (N - 1 - (b0 + b1))) (by omega) (by omega) (by decide) d2_37 rfl (fun T68 h68 S68 W68 A_s => ?_)
          replace A_c := A_c.other W68 n_cs
          have bk := cb_1 hf2.out hb2 hq2.out hc66
          clear hc66
          exact J10 (v67, (updF g (N - 1 - (b0 + b1)) (2 : Int32))) _ _ S68 ⟨A_c, A_s, by (try dsimp only); have q := dec_hv (B := (b0 + b1)) (b := b2) h_v67 eh hNg (by omega) bk; (try rw [Nat.zero_add] at q); exact q, fun hb => by (try dsimp only); rw [updF_ne _ _ (by omega)]; exact e0 hb, fun hb => by (try dsimp only); rw [updF_ne _ _ (by omega)]; exact e1 hb, fun hb => by (try dsimp only); exact updF_same _ _ _⟩
    · refine px_aloadN S5 d2_20 rfl rfl rfl ?_
      refine px_iload S5 d2_21 rfl rfl ?_
      refine px_saload (v := (f 1)) S5 A_c (i := 1) rfl (by decide) rfl d2_23 rfl ?_
      refine px_iconst (v := (-1 : Int32)) S5 d2_24 rfl rfl ?_
      refine px_icmp S5 d2_25 (by decide) (pc' := 38) rfl rfl (fun (hc69 : ¬ (f 1).toInt = (-1 : Int32).toInt) => ?_) (fun (hc69 : (f 1).toInt = (-1 : Int32).toInt) => ?_)
      · have bk := cb_0 hf1.out hb1 hq1.out hc69
        clear hc69
        exact J7 (hv, g) _ _ S5 ⟨A_c, A_s, by (try dsimp only); have q := hv_0 (B := b0) (b := b1) eh bk; (try rw [Nat.zero_add] at q); exact q, e0, fun hb => by exfalso; omega⟩
      · refine px_aloadN S5 d2_28 rfl rfl rfl ?_
        refine px_iload S5 d2_29 rfl rfl ?_
        refine px_iinc (v := (-1 : Int32)) (r := (hv + (-1 : Int32))) S5 d2_31 rfl rfl rfl rfl (L' := #[.val (.ref ca), .val (.int (3 : Int32)), .val (.int lg), .val (.ref sa), .val (.int v1), .val (.int (hv + (-1 : Int32))), .val (.int (1 : Int32)), .unset, .unset, .unset]) rfl ?_
        generalize h_v70 : (hv + (-1 : Int32)) = v70
        refine px_iload S5 d2_34 rfl rfl ?_
        refine px_i2b S5 d2_36 rfl ?_
        rw [show i2b (1 : Int32) = (1 : Int32) from by decide]
        refine px_bastore (v := (1 : Int32)) S5 A_s g_s (i := (N - 1 - b0)) (by omega) (by omega) (by decide) d2_37 rfl (fun T71 h71 S71 W71 A_s => ?_)
        replace A_c := A_c.other W71 n_cs
        have bk := cb_1 hf1.out hb1 hq1.out hc69
        clear hc69
        exact J7 (v70, (updF g (N - 1 - b0) (1 : Int32))) _ _ S71 ⟨A_c, A_s, by (try dsimp only); have q := dec_hv (B := b0) (b := b1) h_v70 eh hNg (by omega) bk; (try rw [Nat.zero_add] at q); exact q, fun hb => by (try dsimp only); rw [updF_ne _ _ (by omega)]; exact e0 hb, fun hb => by (try dsimp only); exact updF_same _ _ _⟩
  · refine px_aloadN S0 d2_20 rfl rfl rfl ?_
    refine px_iload S0 d2_21 rfl rfl ?_
    refine px_saload (v := (f 0)) S0 A_c (i := 0) rfl (by decide) rfl d2_23 rfl ?_
    refine px_iconst (v := (-1 : Int32)) S0 d2_24 rfl rfl ?_
    refine px_icmp S0 d2_25 (by decide) (pc' := 38) rfl rfl (fun (hc72 : ¬ (f 0).toInt = (-1 : Int32).toInt) => ?_) (fun (hc72 : (f 0).toInt = (-1 : Int32).toInt) => ?_)
    · have bk := cb_0 hf0.out hb0 hq0.out hc72
      clear hc72
      exact J4 (v2, g0) _ _ S0 ⟨A_c, A_s, by (try dsimp only); have q := hv_0 (B := 0) (b := b0) eh bk; (try rw [Nat.zero_add] at q); exact q, fun hb => by exfalso; omega⟩
    · refine px_aloadN S0 d2_28 rfl rfl rfl ?_
      refine px_iload S0 d2_29 rfl rfl ?_
      refine px_iinc (v := (-1 : Int32)) (r := (v2 + (-1 : Int32))) S0 d2_31 rfl rfl rfl rfl (L' := #[.val (.ref ca), .val (.int (3 : Int32)), .val (.int lg), .val (.ref sa), .val (.int v1), .val (.int (v2 + (-1 : Int32))), .val (.int (0 : Int32)), .unset, .unset, .unset]) rfl ?_
      generalize h_v73 : (v2 + (-1 : Int32)) = v73
      refine px_iload S0 d2_34 rfl rfl ?_
      refine px_i2b S0 d2_36 rfl ?_
      rw [show i2b (0 : Int32) = (0 : Int32) from by decide]
      refine px_bastore (v := (0 : Int32)) S0 A_s g_s (i := (N - 1)) (by omega) (by omega) (by decide) d2_37 rfl (fun T74 h74 S74 W74 A_s => ?_)
      replace A_c := A_c.other W74 n_cs
      have bk := cb_1 hf0.out hb0 hq0.out hc72
      clear hc72
      exact J4 (v73, (updF g0 (N - 1) (0 : Int32))) _ _ S74 ⟨A_c, A_s, by (try dsimp only); have q := dec_hv (B := 0) (b := b0) h_v73 eh hNg (by omega) bk; (try rw [Nat.zero_add] at q); exact q, fun hb => by (try dsimp only); exact updF_same _ _ _⟩
theorem pd_0_0 : parseMethodDescriptor "([SII[B)V" = some ⟨[(.array .short), .int, .int, (.array .byte)], none⟩ := by decide +kernel
theorem pd_0_1 : parseMethodDescriptor "(II)I" = some ⟨[.int, .int], some .int⟩ := by decide +kernel
theorem pd_0_2 : parseMethodDescriptor "(IIIII)I" = some ⟨[.int, .int, .int, .int, .int], some .int⟩ := by decide +kernel
theorem pd_0_3 : parseMethodDescriptor "(IZII)I" = some ⟨[.int, .boolean, .int, .int], some .int⟩ := by decide +kernel
theorem pn_0 : plainFor x = true := plainFor_of_name (by first | (simp [plainName, overriddenIn]; done) | decide +kernel)
set_option maxRecDepth 65536 in
set_option maxHeartbeats 40000000 in
theorem law_ctr {Z : State} {a0 : Array Value} (hw : ∀ d ∈ tables_1, d.before a0 Z = true) (i0 i1 i2 i3 i4 i5 : Int32) {h0 : Heap} {n0 : Nat} (Z0 : n0 ≤ h0.size) :
    Ctr Z n0 x code maxLocals ret room_1 [(.int i0), (.int i1), (.int i2), (.int i3), (.int i4), (.int i5)] h0 (fun v h => v = some (.int 1)) := by
  refine Ctr.of (L := #[.val (.int i0), .val (.int i1), .val (.int i2), .val (.int i3), .val (.int i4), .val (.int i5), .unset, .unset, .unset, .unset, .unset, .unset, .unset, .unset, .unset, .unset, .unset, .unset, .unset, .unset, .unset, .unset, .unset, .unset, .unset, .unset, .unset, .unset, .unset, .unset, .unset, .unset, .unset]) pn_0 Z0 (fun m => by first | (simp [entryFrame, mkF, argsToLocals, Value.category, maxLocals]; done) | rfl) ?_
  intro K T S0
  refine px_iconst (v := (5 : Int32)) S0 at_0 rfl rfl ?_
  refine px_iloadN S0 at_1 rfl rfl ?_
  refine px_ldcI S0 (hw _ (List.mem_of_getElem? (i := 0) rfl)) at_2 rfl ?_
  refine px_iand S0 at_4 rfl ?_
  refine px_iconst (v := (5 : Int32)) S0 at_5 rfl rfl ?_
  refine px_irem S0 at_6 rfl (by decide) ?_
  refine px_iadd S0 at_7 rfl ?_
  generalize h_v1 : ((5 : Int32) + ((i0 &&& (2147483647 : Int32)) % (5 : Int32))) = v1
  refine px_istore S0 at_8 rfl (L' := #[.val (.int i0), .val (.int i1), .val (.int i2), .val (.int i3), .val (.int i4), .val (.int i5), .val (.int v1), .unset, .unset, .unset, .unset, .unset, .unset, .unset, .unset, .unset, .unset, .unset, .unset, .unset, .unset, .unset, .unset, .unset, .unset, .unset, .unset, .unset, .unset, .unset, .unset, .unset, .unset]) rfl ?_
  refine px_iconst (v := (1 : Int32)) S0 at_10 rfl rfl ?_
  refine px_iload S0 at_11 rfl rfl ?_
  refine px_ishl S0 at_13 rfl ?_
  generalize h_v2 : ((1 : Int32) <<< (v1 &&& 31)) = v2
  refine px_istore S0 at_14 rfl (L' := #[.val (.int i0), .val (.int i1), .val (.int i2), .val (.int i3), .val (.int i4), .val (.int i5), .val (.int v1), .val (.int v2), .unset, .unset, .unset, .unset, .unset, .unset, .unset, .unset, .unset, .unset, .unset, .unset, .unset, .unset, .unset, .unset, .unset, .unset, .unset, .unset, .unset, .unset, .unset, .unset, .unset]) rfl ?_
  have lg0 : 5 ≤ v1.toInt ∧ v1.toInt ≤ 9 := by have q0 := rng32 v1; have q1 := congrArg Int32.toInt h_v1; have q2 := c_iadd (5 : Int32) ((i0 &&& (2147483647 : Int32)) % (5 : Int32)); have q3 := rng32 ((5 : Int32) + ((i0 &&& (2147483647 : Int32)) % (5 : Int32))); have q4 := (show (5 : Int32).toInt = 5 from rfl); have q5 := f_irem (i0 &&& (2147483647 : Int32)) (5 : Int32) 5 rfl; have q6 := rng32 ((i0 &&& (2147483647 : Int32)) % (5 : Int32)); have q7 := f_imask i0 (2147483647 : Int32) 31 2147483648 (by decide) (by decide) (by decide); have q8 := rng32 i0; have q9 := (show (2147483647 : Int32).toInt = 2147483647 from rfl); omega
  obtain ⟨N, hN, hsz⟩ := shl_N lg0.1 lg0.2
  have ev : v2.toInt = (N : Int) := by rw [← h_v2]; exact hsz
  have hNg := N_ge hN
  clear h_v2
  refine px_iloadN S0 at_16 rfl rfl ?_
  refine px_bipush (v := (15 : Int32)) S0 at_17 rfl rfl ?_
  refine px_iand S0 at_19 rfl ?_
  generalize h_v3 : (i1 &&& (15 : Int32)) = v3
  refine px_istore S0 at_20 rfl (L' := #[.val (.int i0), .val (.int i1), .val (.int i2), .val (.int i3), .val (.int i4), .val (.int i5), .val (.int v1), .val (.int v2), .val (.int v3), .unset, .unset, .unset, .unset, .unset, .unset, .unset, .unset, .unset, .unset, .unset, .unset, .unset, .unset, .unset, .unset, .unset, .unset, .unset, .unset, .unset, .unset, .unset, .unset]) rfl ?_
  refine Go.join (P := fun fl : Int32 => 0 ≤ fl.toInt ∧ fl.toInt ≤ 14) (pcj := 33) (Lj := fun fl => #[.val (.int i0), .val (.int i1), .val (.int i2), .val (.int i3), .val (.int i4), .val (.int i5), .val (.int v1), .val (.int v2), .val (.int fl), .unset, .unset, .unset, .unset, .unset, .unset, .unset, .unset, .unset, .unset, .unset, .unset, .unset, .unset, .unset, .unset, .unset, .unset, .unset, .unset, .unset, .unset, .unset, .unset]) (stj := fun fl => []) (fun fl p_fl => ?_) (fun J4 => ?_)
  · show Go _ _ _ _ _ 33 #[.val (.int i0), .val (.int i1), .val (.int i2), .val (.int i3), .val (.int i4), .val (.int i5), .val (.int v1), .val (.int v2), .val (.int fl), .unset, .unset, .unset, .unset, .unset, .unset, .unset, .unset, .unset, .unset, .unset, .unset, .unset, .unset, .unset, .unset, .unset, .unset, .unset, .unset, .unset, .unset, .unset, .unset] []
    refine px_iload S0 at_33 rfl rfl ?_
    refine px_iconst (v := (1 : Int32)) S0 at_35 rfl rfl ?_
    refine px_iand S0 at_36 rfl ?_
    generalize h_v5 : (fl &&& (1 : Int32)) = v5
    refine px_istore S0 at_37 rfl (L' := #[.val (.int i0), .val (.int i1), .val (.int i2), .val (.int i3), .val (.int i4), .val (.int i5), .val (.int v1), .val (.int v2), .val (.int fl), .val (.int v5), .unset, .unset, .unset, .unset, .unset, .unset, .unset, .unset, .unset, .unset, .unset, .unset, .unset, .unset, .unset, .unset, .unset, .unset, .unset, .unset, .unset, .unset, .unset]) rfl ?_
    refine px_iload S0 at_39 rfl rfl ?_
    refine px_iconst (v := (1 : Int32)) S0 at_41 rfl rfl ?_
    refine px_ishr S0 at_42 rfl ?_
    refine px_iconst (v := (1 : Int32)) S0 at_43 rfl rfl ?_
    refine px_iand S0 at_44 rfl ?_
    generalize h_v6 : ((fl >>> ((1 : Int32) &&& 31)) &&& (1 : Int32)) = v6
    refine px_istore S0 at_45 rfl (L' := #[.val (.int i0), .val (.int i1), .val (.int i2), .val (.int i3), .val (.int i4), .val (.int i5), .val (.int v1), .val (.int v2), .val (.int fl), .val (.int v5), .val (.int v6), .unset, .unset, .unset, .unset, .unset, .unset, .unset, .unset, .unset, .unset, .unset, .unset, .unset, .unset, .unset, .unset, .unset, .unset, .unset, .unset, .unset, .unset]) rfl ?_
    refine px_iload S0 at_47 rfl rfl ?_
    refine px_iconst (v := (2 : Int32)) S0 at_49 rfl rfl ?_
    refine px_ishr S0 at_50 rfl ?_
    refine px_iconst (v := (1 : Int32)) S0 at_51 rfl rfl ?_
    refine px_iand S0 at_52 rfl ?_
    generalize h_v7 : ((fl >>> ((2 : Int32) &&& 31)) &&& (1 : Int32)) = v7
    refine px_istore S0 at_53 rfl (L' := #[.val (.int i0), .val (.int i1), .val (.int i2), .val (.int i3), .val (.int i4), .val (.int i5), .val (.int v1), .val (.int v2), .val (.int fl), .val (.int v5), .val (.int v6), .val (.int v7), .unset, .unset, .unset, .unset, .unset, .unset, .unset, .unset, .unset, .unset, .unset, .unset, .unset, .unset, .unset, .unset, .unset, .unset, .unset, .unset, .unset]) rfl ?_
    refine px_iload S0 at_55 rfl rfl ?_
    refine px_iconst (v := (3 : Int32)) S0 at_57 rfl rfl ?_
    refine px_ishr S0 at_58 rfl ?_
    refine px_iconst (v := (1 : Int32)) S0 at_59 rfl rfl ?_
    refine px_iand S0 at_60 rfl ?_
    generalize h_v8 : ((fl >>> ((3 : Int32) &&& 31)) &&& (1 : Int32)) = v8
    refine px_istore S0 at_61 rfl (L' := #[.val (.int i0), .val (.int i1), .val (.int i2), .val (.int i3), .val (.int i4), .val (.int i5), .val (.int v1), .val (.int v2), .val (.int fl), .val (.int v5), .val (.int v6), .val (.int v7), .val (.int v8), .unset, .unset, .unset, .unset, .unset, .unset, .unset, .unset, .unset, .unset, .unset, .unset, .unset, .unset, .unset, .unset, .unset, .unset, .unset, .unset]) rfl ?_
    obtain ⟨b0, b1, b2, b3, ⟨hb0, hb1, hb2, hb3⟩, ⟨en0, en1, en2, en3⟩, hM3'⟩ := flags_ok h_v5 h_v6 h_v7 h_v8 p_fl
    clear p_fl h_v5 h_v6 h_v7 h_v8
    refine px_iload S0 at_63 rfl rfl ?_
    refine px_iload S0 at_65 rfl rfl ?_
    refine px_iadd S0 at_67 rfl ?_
    refine px_iload S0 at_68 rfl rfl ?_
    refine px_iadd S0 at_70 rfl ?_
    refine px_iload S0 at_71 rfl rfl ?_
    refine px_iadd S0 at_73 rfl ?_
    generalize h_v9 : (((v5 + v6) + v7) + v8) = v9
    refine px_istore S0 at_74 rfl (L' := #[.val (.int i0), .val (.int i1), .val (.int i2), .val (.int i3), .val (.int i4), .val (.int i5), .val (.int v1), .val (.int v2), .val (.int fl), .val (.int v5), .val (.int v6), .val (.int v7), .val (.int v8), .val (.int v9), .unset, .unset, .unset, .unset, .unset, .unset, .unset, .unset, .unset, .unset, .unset, .unset, .unset, .unset, .unset, .unset, .unset, .unset, .unset]) rfl ?_
    obtain ⟨M, hM⟩ : ∃ M, b0 + b1 + b2 + b3 = M := ⟨_, rfl⟩
    have em : v9.toInt = (M : Int) := by rw [← h_v9, add_nn (add_nn (add_nn en0 en1 (by omega) (by omega)) en2 (by omega) (by omega)) en3 (by omega) (by omega), hM]
    clear h_v9
    have hM3 : M ≤ 3 := by omega
    refine px_iload S0 at_76 rfl rfl ?_
    refine px_iconst (v := (1 : Int32)) S0 at_78 rfl rfl ?_
    refine px_isub S0 at_79 rfl ?_
    refine px_iload S0 at_80 rfl rfl ?_
    refine px_isub S0 at_82 rfl ?_
    generalize h_v10 : ((v2 - (1 : Int32)) - v9) = v10
    refine px_istore S0 at_83 rfl (L' := #[.val (.int i0), .val (.int i1), .val (.int i2), .val (.int i3), .val (.int i4), .val (.int i5), .val (.int v1), .val (.int v2), .val (.int fl), .val (.int v5), .val (.int v6), .val (.int v7), .val (.int v8), .val (.int v9), .val (.int v10), .unset, .unset, .unset, .unset, .unset, .unset, .unset, .unset, .unset, .unset, .unset, .unset, .unset, .unset, .unset, .unset, .unset, .unset]) rfl ?_
    refine px_iload S0 at_85 rfl rfl ?_
    refine px_iload S0 at_87 rfl rfl ?_
    refine px_isub S0 at_89 rfl ?_
    generalize h_v11 : (v2 - v9) = v11
    refine px_istore S0 at_90 rfl (L' := #[.val (.int i0), .val (.int i1), .val (.int i2), .val (.int i3), .val (.int i4), .val (.int i5), .val (.int v1), .val (.int v2), .val (.int fl), .val (.int v5), .val (.int v6), .val (.int v7), .val (.int v8), .val (.int v9), .val (.int v10), .val (.int v11), .unset, .unset, .unset, .unset, .unset, .unset, .unset, .unset, .unset, .unset, .unset, .unset, .unset, .unset, .unset, .unset, .unset]) rfl ?_
    have eh : v10.toInt = (N : Int) - 1 - M := by rw [← h_v10, sub_nn (sub_nn ev (show (1 : Int32).toInt = ((1 : Nat) : Int) from rfl) (by omega) (by omega)) em (by omega) (by omega)]; omega
    have er : v11.toInt = ((N - M : Nat) : Int) := by rw [← h_v11]; exact sub_nn ev em (by omega) (by omega)
    clear h_v10
    clear h_v11
    refine Go.joinH (α := (Int32) × (Int32) × (Int32) × (Int32) × (Int32) × (Int32) × (Nat) × (Nat) × (Nat) × (Nat)) (P := fun xx h => Hid (xx.2.2.1.toInt = (xx.2.2.2.2.2.2.1 : Int) - b0) ∧ Hid (xx.2.2.2.1.toInt = (xx.2.2.2.2.2.2.2.1 : Int) - b1) ∧ Hid (xx.2.2.2.2.1.toInt = (xx.2.2.2.2.2.2.2.2.1 : Int) - b2) ∧ Hid (xx.2.2.2.2.2.1.toInt = (xx.2.2.2.2.2.2.2.2.2 : Int) - b3) ∧ Hid (xx.2.2.2.2.2.2.1 + 512 * b0 ≤ 512) ∧ Hid (xx.2.2.2.2.2.2.2.1 + 512 * b1 ≤ 512) ∧ Hid (xx.2.2.2.2.2.2.2.2.1 + 512 * b2 ≤ 512) ∧ Hid (xx.2.2.2.2.2.2.2.2.2 + 512 * b3 ≤ 512) ∧ Hid (xx.2.2.2.2.2.2.1 + xx.2.2.2.2.2.2.2.1 + xx.2.2.2.2.2.2.2.2.1 + xx.2.2.2.2.2.2.2.2.2 + M = N)) (pcj := 242) (cl' := 0) (sl' := 0) (Lj := fun xx => #[.val (.int i0), .val (.int i1), .val (.int i2), .val (.int i3), .val (.int i4), .val (.int i5), .val (.int v1), .val (.int v2), .val (.int fl), .val (.int v5), .val (.int v6), .val (.int v7), .val (.int v8), .val (.int v9), .val (.int v10), .val (.int xx.2.1), .val (.int xx.1), .val (.int xx.2.2.1), .val (.int xx.2.2.2.1), .val (.int xx.2.2.2.2.1), .val (.int xx.2.2.2.2.2.1), .unset, .unset, .unset, .unset, .unset, .unset, .unset, .unset, .unset, .unset, .unset, .unset]) (stj := fun xx => []) S0 (fun xx T13 h13 S13 p13 => ?_) (fun J12 => ?_)
    · obtain ⟨lv, rv, z0, z1, z2, z3, q0, q1, q2, q3⟩ := xx
      try dsimp only at p13
      obtain ⟨ez0, ez1, ez2, ez3, hq0, hq1, hq2, hq3, hsum⟩ := p13
      show Go _ _ _ _ _ 242 #[.val (.int i0), .val (.int i1), .val (.int i2), .val (.int i3), .val (.int i4), .val (.int i5), .val (.int v1), .val (.int v2), .val (.int fl), .val (.int v5), .val (.int v6), .val (.int v7), .val (.int v8), .val (.int v9), .val (.int v10), .val (.int rv), .val (.int lv), .val (.int z0), .val (.int z1), .val (.int z2), .val (.int z3), .unset, .unset, .unset, .unset, .unset, .unset, .unset, .unset, .unset, .unset, .unset, .unset] []
      refine px_iconst (v := (4 : Int32)) S13 at_242 rfl rfl ?_
      refine px_newarr (aty := .short) (cap := 4) S13 (hw _ (List.mem_of_getElem? (i := 5) rfl)) rfl (n := 4) rfl (by decide) (by decide) (by decide) (by decide) at_243 rfl (fun T14 h14 b14 z14 g_b14 S14 E14 A_b14 => ?_)
      refine px_astore S14 at_245 rfl rfl (L' := #[.val (.int i0), .val (.int i1), .val (.int i2), .val (.int i3), .val (.int i4), .val (.int i5), .val (.int v1), .val (.int v2), .val (.int fl), .val (.int v5), .val (.int v6), .val (.int v7), .val (.int v8), .val (.int v9), .val (.int v10), .val (.int rv), .val (.int lv), .val (.int z0), .val (.int z1), .val (.int z2), .val (.int z3), .val (.ref b14), .unset, .unset, .unset, .unset, .unset, .unset, .unset, .unset, .unset, .unset, .unset]) rfl ?_
      refine px_aload S14 at_247 rfl rfl rfl ?_
      refine px_iconst (v := (0 : Int32)) S14 at_249 rfl rfl ?_
      refine px_iload S14 at_250 rfl rfl ?_
      refine px_i2s S14 at_252 rfl ?_
      rw [nar_s (x := z0) (by have a1 := ez0.out; omega) (by have a1 := ez0.out; have a2 := hq0.out; omega)]
      refine px_sastore (v := z0) S14 A_b14 g_b14 (i := 0) rfl (by decide) (nar_s (by have a1 := ez0.out; omega) (by have a1 := ez0.out; have a2 := hq0.out; omega)) at_253 rfl (fun T15 h15 S15 W15 A_b14 => ?_)
      refine px_aload S15 at_254 rfl rfl rfl ?_
      refine px_iconst (v := (1 : Int32)) S15 at_256 rfl rfl ?_
      refine px_iload S15 at_257 rfl rfl ?_
      refine px_i2s S15 at_259 rfl ?_
      rw [nar_s (x := z1) (by have a1 := ez1.out; omega) (by have a1 := ez1.out; have a2 := hq1.out; omega)]
      refine px_sastore (v := z1) S15 A_b14 g_b14 (i := 1) rfl (by decide) (nar_s (by have a1 := ez1.out; omega) (by have a1 := ez1.out; have a2 := hq1.out; omega)) at_260 rfl (fun T16 h16 S16 W16 A_b14 => ?_)
      refine px_aload S16 at_261 rfl rfl rfl ?_
      refine px_iconst (v := (2 : Int32)) S16 at_263 rfl rfl ?_
      refine px_iload S16 at_264 rfl rfl ?_
      refine px_i2s S16 at_266 rfl ?_
      rw [nar_s (x := z2) (by have a1 := ez2.out; omega) (by have a1 := ez2.out; have a2 := hq2.out; omega)]
      refine px_sastore (v := z2) S16 A_b14 g_b14 (i := 2) rfl (by decide) (nar_s (by have a1 := ez2.out; omega) (by have a1 := ez2.out; have a2 := hq2.out; omega)) at_267 rfl (fun T17 h17 S17 W17 A_b14 => ?_)
      refine px_aload S17 at_268 rfl rfl rfl ?_
      refine px_iconst (v := (3 : Int32)) S17 at_270 rfl rfl ?_
      refine px_iload S17 at_271 rfl rfl ?_
      refine px_i2s S17 at_273 rfl ?_
      rw [nar_s (x := z3) (by have a1 := ez3.out; omega) (by have a1 := ez3.out; have a2 := hq3.out; omega)]
      refine px_sastore (v := z3) S17 A_b14 g_b14 (i := 3) rfl (by decide) (nar_s (by have a1 := ez3.out; omega) (by have a1 := ez3.out; have a2 := hq3.out; omega)) at_274 rfl (fun T18 h18 S18 W18 A_b14 => ?_)
      refine px_sipush (v := (512 : Int32)) S18 at_275 rfl rfl ?_
      refine px_newarr (aty := .byte) (cap := 512) S18 (hw _ (List.mem_of_getElem? (i := 6) rfl)) rfl (n := 512) rfl (by decide) (by decide) (by decide) (by decide) at_278 rfl (fun T19 h19 b19 z19 g_b19 S19 E19 A_b19 => ?_)
      have ne_b14_b19 : b14 ≠ b19 := ne_new z19 A_b14.lt
      replace A_b14 := A_b14.ext E19
      refine px_astore S19 at_280 rfl rfl (L' := #[.val (.int i0), .val (.int i1), .val (.int i2), .val (.int i3), .val (.int i4), .val (.int i5), .val (.int v1), .val (.int v2), .val (.int fl), .val (.int v5), .val (.int v6), .val (.int v7), .val (.int v8), .val (.int v9), .val (.int v10), .val (.int rv), .val (.int lv), .val (.int z0), .val (.int z1), .val (.int z2), .val (.int z3), .val (.ref b14), .val (.ref b19), .unset, .unset, .unset, .unset, .unset, .unset, .unset, .unset, .unset, .unset]) rfl ?_
      refine px_aload S19 at_282 rfl rfl rfl ?_
      refine px_iconst (v := (3 : Int32)) S19 at_284 rfl rfl ?_
      refine px_iload S19 at_285 rfl rfl ?_
      refine px_aload S19 at_287 rfl rfl rfl ?_
      refine px_callS (as' := [(.ref b14), (.int (3 : Int32)), (.int v1), (.ref b19)]) (st := []) (W := 0) S19 (c_spr (N := N) (M := M) (b0 := b0) (b1 := b1) (b2 := b2) (b3 := b3) (q0 := q0) (q1 := q1) (q2 := q2) (q3 := q3) (f := (updF (updF (updF (updF (fun _ => 0) 0 z0) 1 z1) 2 z2) 3 z3)) (g0 := (fun _ => 0)) hw S19.size hN hsz hM hM3 hb0 hb1 hb2 hb3 hq0 hq1 hq2 hq3 hsum ez0 ez1 ez2 ez3 A_b14 A_b19 g_b19 ne_b14_b19) (hw _ (List.mem_of_getElem? (i := 7) rfl)) (hw _ (List.mem_of_getElem? (i := 8) rfl)) (hw _ (List.mem_of_getElem? (i := 9) rfl)) (hw _ (List.mem_of_getElem? (i := 10) rfl)) (by decide) pd_0_0 rfl rfl (by decide) rfl (by decide) (by decide) (by decide) at_289 rfl rfl (fun T20 h20 v20 S20 q20 => ?_)
      obtain ⟨rfl, g, A_s, hPP, e0, e1, e2, e3⟩ := q20
      show Go _ _ _ _ _ _ _ []
      refine px_iload S20 at_292 rfl rfl ?_
      refine px_ldcI S20 (hw _ (List.mem_of_getElem? (i := 0) rfl)) at_294 rfl ?_
      refine px_iand S20 at_296 rfl ?_
      refine px_iload S20 at_297 rfl rfl ?_
      refine px_irem S20 at_299 rfl (fun hz => by have hz' := congrArg Int32.toInt hz; have q0 := rng32 v2; have q1 := (show (0 : Int32).toInt = 0 from rfl); omega) ?_
      generalize h_v21 : ((i5 &&& (2147483647 : Int32)) % v2) = v21
      refine px_istore S20 at_300 rfl (L' := #[.val (.int i0), .val (.int i1), .val (.int i2), .val (.int i3), .val (.int i4), .val (.int i5), .val (.int v1), .val (.int v2), .val (.int fl), .val (.int v5), .val (.int v6), .val (.int v7), .val (.int v8), .val (.int v9), .val (.int v10), .val (.int rv), .val (.int lv), .val (.int z0), .val (.int z1), .val (.int z2), .val (.int z3), .val (.ref b14), .val (.ref b19), .val (.int v21), .unset, .unset, .unset, .unset, .unset, .unset, .unset, .unset, .unset]) rfl ?_
      obtain ⟨S, hS, es⟩ := s_of h_v21 ev hNg
      clear h_v21
      refine Go.joinH (α := (Int32) × (Slot) × (Slot) × (Slot) × (Slot) × (Slot) × (Slot) × (Slot) × (Slot)) (P := fun xx h => AI Z h b19 .byte 512 g ∧ xx.1 = g S ∧ 0 ≤ xx.1.toInt ∧ xx.1.toInt < 4) (pcj := 533) (cl' := 2) (sl' := 516) (Lj := fun xx => #[.val (.int i0), .val (.int i1), .val (.int i2), .val (.int i3), .val (.int i4), .val (.int i5), .val (.int v1), .val (.int v2), .val (.int fl), .val (.int v5), .val (.int v6), .val (.int v7), .val (.int v8), .val (.int v9), .val (.int v10), .val (.int rv), .val (.int lv), .val (.int z0), .val (.int z1), .val (.int z2), .val (.int z3), .val (.ref b14), .val (.ref b19), .val (.int v21), .val (.int xx.1), xx.2.1, xx.2.2.1, xx.2.2.2.1, xx.2.2.2.2.1, xx.2.2.2.2.2.1, xx.2.2.2.2.2.2.1, xx.2.2.2.2.2.2.2.1, xx.2.2.2.2.2.2.2.2]) (stj := fun xx => []) S20 (fun xx T23 h23 S23 p23 => ?_) (fun J22 => ?_)
      · obtain ⟨ex, s25, s26, s27, s28, s29, s30, s31, s32⟩ := xx
        try dsimp only at p23
        obtain ⟨A_s, hex, hx0, hx4⟩ := p23
        show Go _ _ _ _ _ 533 #[.val (.int i0), .val (.int i1), .val (.int i2), .val (.int i3), .val (.int i4), .val (.int i5), .val (.int v1), .val (.int v2), .val (.int fl), .val (.int v5), .val (.int v6), .val (.int v7), .val (.int v8), .val (.int v9), .val (.int v10), .val (.int rv), .val (.int lv), .val (.int z0), .val (.int z1), .val (.int z2), .val (.int z3), .val (.ref b14), .val (.ref b19), .val (.int v21), .val (.int ex), s25, s26, s27, s28, s29, s30, s31, s32] []
        have hx2 := congrArg Int32.toInt hex
        refine px_aload S23 at_533 rfl rfl rfl ?_
        refine px_iload S23 at_535 rfl rfl ?_
        refine px_baload (v := (g S)) S23 A_s (i := S) es (by omega) rfl at_537 rfl ?_
        refine px_iload S23 at_538 rfl rfl ?_
        refine px_i2b S23 at_540 rfl ?_
        refine px_icmp S23 at_541 (by decide) (pc' := 548) rfl rfl (fun (hc24 : ¬ (g S).toInt = (i2b ex).toInt) => by exfalso; have q0 := rng32 (g S); have q1 := f_i2b ex; have q2 := rng32 ex; omega) (fun (hc24 : (g S).toInt = (i2b ex).toInt) => ?_)
        refine px_iconst (v := (1 : Int32)) S23 at_544 rfl rfl ?_
        refine px_goto S23 at_545 (by decide) (pc' := 549) rfl ?_
        exact px_retN (t := .boolean) (z' := (1 : Int32)) S23 at_549 rfl (by simp) rfl (by decide) (by decide) (rfl)
      · refine px_iload S20 at_302 rfl rfl ?_
        refine px_iload S20 at_304 rfl rfl ?_
        refine px_icmp S20 at_306 (by decide) (pc' := 332) rfl rfl (fun (hc25 : v21.toInt ≤ v10.toInt) => ?_) (fun (hc25 : v21.toInt > v10.toInt) => ?_)
        · have hSm : S < N - M := by omega
          have gS : g S = Int32.ofNat (symC q0 q1 q2 (rkM N M S)) := by have q := hPP (rkM N M S) (ok_of hN hM3 hSm).rk; rw [PP_sur hN hM3 _ S hSm rfl] at q; exact q
          have hJr := (ok_of hN hM3 hSm).rk
          refine Go.joinH (α := (Int32) × (Int32) × (Int32)) (P := fun xx h => AI Z h b19 .byte 512 g ∧ ∀ (x : Int32) (n : Nat), x.toInt = (n : Int) → ((x * xx.2.1) &&& xx.2.2).toInt = ((n * invM N % N : Nat) : Int)) (pcj := 379) (cl' := 2) (sl' := 516) (Lj := fun xx => #[.val (.int i0), .val (.int i1), .val (.int i2), .val (.int i3), .val (.int i4), .val (.int i5), .val (.int v1), .val (.int v2), .val (.int fl), .val (.int v5), .val (.int v6), .val (.int v7), .val (.int v8), .val (.int v9), .val (.int v10), .val (.int rv), .val (.int lv), .val (.int z0), .val (.int z1), .val (.int z2), .val (.int z3), .val (.ref b14), .val (.ref b19), .val (.int v21), .unset, .val (.int xx.1), .val (.int xx.2.1), .val (.int xx.2.2), .unset, .unset, .unset, .unset, .unset]) (stj := fun xx => []) S20 (fun xx T27 h27 S27 p27 => ?_) (fun J26 => ?_)
          · obtain ⟨stv, ivv, mkv⟩ := xx
            try dsimp only at p27
            obtain ⟨A_s, HH⟩ := p27
            show Go _ _ _ _ _ 379 #[.val (.int i0), .val (.int i1), .val (.int i2), .val (.int i3), .val (.int i4), .val (.int i5), .val (.int v1), .val (.int v2), .val (.int fl), .val (.int v5), .val (.int v6), .val (.int v7), .val (.int v8), .val (.int v9), .val (.int v10), .val (.int rv), .val (.int lv), .val (.int z0), .val (.int z1), .val (.int z2), .val (.int z3), .val (.ref b14), .val (.ref b19), .val (.int v21), .unset, .val (.int stv), .val (.int ivv), .val (.int mkv), .unset, .unset, .unset, .unset, .unset] []
            refine px_iload S27 at_379 rfl rfl ?_
            refine px_iload S27 at_381 rfl rfl ?_
            refine px_imul S27 at_383 rfl ?_
            refine px_iload S27 at_384 rfl rfl ?_
            refine px_iand S27 at_386 rfl ?_
            generalize h_v28 : ((v21 * ivv) &&& mkv) = v28
            refine px_istore S27 at_387 rfl (L' := #[.val (.int i0), .val (.int i1), .val (.int i2), .val (.int i3), .val (.int i4), .val (.int i5), .val (.int v1), .val (.int v2), .val (.int fl), .val (.int v5), .val (.int v6), .val (.int v7), .val (.int v8), .val (.int v9), .val (.int v10), .val (.int rv), .val (.int lv), .val (.int z0), .val (.int z1), .val (.int z2), .val (.int z3), .val (.ref b14), .val (.ref b19), .val (.int v21), .unset, .val (.int stv), .val (.int ivv), .val (.int mkv), .val (.int v28), .unset, .unset, .unset, .unset]) rfl ?_
            have kkl : kkM N S < N := Nat.mod_lt _ (by omega)
            have ek : v28.toInt = (kkM N S : Int) := by rw [← h_v28]; exact HH _ _ es
            clear h_v28
            refine px_iload S27 at_389 rfl rfl ?_
            refine px_istore S27 at_391 rfl (L' := #[.val (.int i0), .val (.int i1), .val (.int i2), .val (.int i3), .val (.int i4), .val (.int i5), .val (.int v1), .val (.int v2), .val (.int fl), .val (.int v5), .val (.int v6), .val (.int v7), .val (.int v8), .val (.int v9), .val (.int v10), .val (.int rv), .val (.int lv), .val (.int z0), .val (.int z1), .val (.int z2), .val (.int z3), .val (.ref b14), .val (.ref b19), .val (.int v21), .unset, .val (.int stv), .val (.int ivv), .val (.int mkv), .val (.int v28), .val (.int v28), .unset, .unset, .unset]) rfl ?_
            refine Go.joinH (α := (Int32)) (P := fun xx h => AI Z h b19 .byte 512 g ∧ xx.toInt = (rkM N M S : Int)) (pcj := 464) (cl' := 2) (sl' := 516) (Lj := fun xx => #[.val (.int i0), .val (.int i1), .val (.int i2), .val (.int i3), .val (.int i4), .val (.int i5), .val (.int v1), .val (.int v2), .val (.int fl), .val (.int v5), .val (.int v6), .val (.int v7), .val (.int v8), .val (.int v9), .val (.int v10), .val (.int rv), .val (.int lv), .val (.int z0), .val (.int z1), .val (.int z2), .val (.int z3), .val (.ref b14), .val (.ref b19), .val (.int v21), .unset, .val (.int stv), .val (.int ivv), .val (.int mkv), .val (.int v28), .val (.int xx), .unset, .unset, .unset]) (stj := fun xx => []) S27 (fun fv T30 h30 S30 p30 => ?_) (fun J29 => ?_)
            · try dsimp only at p30
              obtain ⟨A_s, hfv⟩ := p30
              show Go _ _ _ _ _ 464 #[.val (.int i0), .val (.int i1), .val (.int i2), .val (.int i3), .val (.int i4), .val (.int i5), .val (.int v1), .val (.int v2), .val (.int fl), .val (.int v5), .val (.int v6), .val (.int v7), .val (.int v8), .val (.int v9), .val (.int v10), .val (.int rv), .val (.int lv), .val (.int z0), .val (.int z1), .val (.int z2), .val (.int z3), .val (.ref b14), .val (.ref b19), .val (.int v21), .unset, .val (.int stv), .val (.int ivv), .val (.int mkv), .val (.int v28), .val (.int fv), .unset, .unset, .unset] []
              refine px_iload S30 at_464 rfl rfl ?_
              refine px_iconst (v := (0 : Int32)) S30 at_466 rfl rfl ?_
              refine px_callS (as' := [(.int z0), (.int (0 : Int32))]) (st := []) (W := 0) S30 (c_max (q := q0) (b := b0) hw S30.size ez0.out hb0 hq0.out) (hw _ (List.mem_of_getElem? (i := 11) rfl)) (hw _ (List.mem_of_getElem? (i := 12) rfl)) (hw _ (List.mem_of_getElem? (i := 13) rfl)) (hw _ (List.mem_of_getElem? (i := 14) rfl)) (by decide) pd_0_1 rfl rfl (by decide) rfl (by decide) (by decide) (by decide) at_467 rfl rfl (fun T31 h31 v31 S31 q31 => ?_)
              obtain ⟨rfl, y0, rfl, ey0⟩ := q31
              show Go _ _ _ _ _ _ _ [(.int y0)]
              refine px_istore S31 at_470 rfl (L' := #[.val (.int i0), .val (.int i1), .val (.int i2), .val (.int i3), .val (.int i4), .val (.int i5), .val (.int v1), .val (.int v2), .val (.int fl), .val (.int v5), .val (.int v6), .val (.int v7), .val (.int v8), .val (.int v9), .val (.int v10), .val (.int rv), .val (.int lv), .val (.int z0), .val (.int z1), .val (.int z2), .val (.int z3), .val (.ref b14), .val (.ref b19), .val (.int v21), .unset, .val (.int stv), .val (.int ivv), .val (.int mkv), .val (.int v28), .val (.int fv), .val (.int y0), .unset, .unset]) rfl ?_
              refine px_iload S31 at_472 rfl rfl ?_
              refine px_iconst (v := (0 : Int32)) S31 at_474 rfl rfl ?_
              refine px_callS (as' := [(.int z1), (.int (0 : Int32))]) (st := []) (W := 0) S31 (c_max (q := q1) (b := b1) hw S31.size ez1.out hb1 hq1.out) (hw _ (List.mem_of_getElem? (i := 11) rfl)) (hw _ (List.mem_of_getElem? (i := 12) rfl)) (hw _ (List.mem_of_getElem? (i := 13) rfl)) (hw _ (List.mem_of_getElem? (i := 14) rfl)) (by decide) pd_0_1 rfl rfl (by decide) rfl (by decide) (by decide) (by decide) at_475 rfl rfl (fun T32 h32 v32 S32 q32 => ?_)
              obtain ⟨rfl, y1, rfl, ey1⟩ := q32
              show Go _ _ _ _ _ _ _ [(.int y1)]
              refine px_istore S32 at_478 rfl (L' := #[.val (.int i0), .val (.int i1), .val (.int i2), .val (.int i3), .val (.int i4), .val (.int i5), .val (.int v1), .val (.int v2), .val (.int fl), .val (.int v5), .val (.int v6), .val (.int v7), .val (.int v8), .val (.int v9), .val (.int v10), .val (.int rv), .val (.int lv), .val (.int z0), .val (.int z1), .val (.int z2), .val (.int z3), .val (.ref b14), .val (.ref b19), .val (.int v21), .unset, .val (.int stv), .val (.int ivv), .val (.int mkv), .val (.int v28), .val (.int fv), .val (.int y0), .val (.int y1), .unset]) rfl ?_
              refine px_iload S32 at_480 rfl rfl ?_
              refine px_iconst (v := (0 : Int32)) S32 at_482 rfl rfl ?_
              refine px_callS (as' := [(.int z2), (.int (0 : Int32))]) (st := []) (W := 0) S32 (c_max (q := q2) (b := b2) hw S32.size ez2.out hb2 hq2.out) (hw _ (List.mem_of_getElem? (i := 11) rfl)) (hw _ (List.mem_of_getElem? (i := 12) rfl)) (hw _ (List.mem_of_getElem? (i := 13) rfl)) (hw _ (List.mem_of_getElem? (i := 14) rfl)) (by decide) pd_0_1 rfl rfl (by decide) rfl (by decide) (by decide) (by decide) at_483 rfl rfl (fun T33 h33 v33 S33 q33 => ?_)
              obtain ⟨rfl, y2, rfl, ey2⟩ := q33
              show Go _ _ _ _ _ _ _ [(.int y2)]
              refine px_istore S33 at_486 rfl (L' := #[.val (.int i0), .val (.int i1), .val (.int i2), .val (.int i3), .val (.int i4), .val (.int i5), .val (.int v1), .val (.int v2), .val (.int fl), .val (.int v5), .val (.int v6), .val (.int v7), .val (.int v8), .val (.int v9), .val (.int v10), .val (.int rv), .val (.int lv), .val (.int z0), .val (.int z1), .val (.int z2), .val (.int z3), .val (.ref b14), .val (.ref b19), .val (.int v21), .unset, .val (.int stv), .val (.int ivv), .val (.int mkv), .val (.int v28), .val (.int fv), .val (.int y0), .val (.int y1), .val (.int y2)]) rfl ?_
              refine px_iload S33 at_488 rfl rfl ?_
              refine px_iload S33 at_490 rfl rfl ?_
              refine px_icmp S33 at_492 (by decide) (pc' := 499) rfl rfl (fun (hc34 : fv.toInt ≥ y0.toInt) => ?_) (fun (hc34 : fv.toInt < y0.toInt) => ?_)
              · refine px_iload S33 at_499 rfl rfl ?_
                refine px_iload S33 at_501 rfl rfl ?_
                refine px_iload S33 at_503 rfl rfl ?_
                refine px_iadd S33 at_505 rfl ?_
                have a1_ : (y0 + y1).toInt = ((q0 + q1 : Nat) : Int) := add_nn ey0 ey1 (by have u := hq0.out; omega) (by have u := hq1.out; omega)
                refine px_icmp S33 at_506 (by decide) (pc' := 513) rfl rfl (fun (hc35 : fv.toInt ≥ (y0 + y1).toInt) => ?_) (fun (hc35 : fv.toInt < (y0 + y1).toInt) => ?_)
                · refine px_iload S33 at_513 rfl rfl ?_
                  refine px_iload S33 at_515 rfl rfl ?_
                  refine px_iload S33 at_517 rfl rfl ?_
                  refine px_iadd S33 at_519 rfl ?_
                  refine px_iload S33 at_520 rfl rfl ?_
                  refine px_iadd S33 at_522 rfl ?_
                  have a2_ : ((y0 + y1) + y2).toInt = ((q0 + q1 + q2 : Nat) : Int) := add_nn a1_ ey2 (by have u := hsum.out; omega) (by have u := hq2.out; omega)
                  refine px_icmp S33 at_523 (by decide) (pc' := 530) rfl rfl (fun (hc36 : fv.toInt ≥ ((y0 + y1) + y2).toInt) => ?_) (fun (hc36 : fv.toInt < ((y0 + y1) + y2).toInt) => ?_)
                  · refine px_iconst (v := (3 : Int32)) S33 at_530 rfl rfl ?_
                    refine px_istore S33 at_531 rfl (L' := #[.val (.int i0), .val (.int i1), .val (.int i2), .val (.int i3), .val (.int i4), .val (.int i5), .val (.int v1), .val (.int v2), .val (.int fl), .val (.int v5), .val (.int v6), .val (.int v7), .val (.int v8), .val (.int v9), .val (.int v10), .val (.int rv), .val (.int lv), .val (.int z0), .val (.int z1), .val (.int z2), .val (.int z3), .val (.ref b14), .val (.ref b19), .val (.int v21), .val (.int (3 : Int32)), .val (.int stv), .val (.int ivv), .val (.int mkv), .val (.int v28), .val (.int fv), .val (.int y0), .val (.int y1), .val (.int y2)]) rfl ?_
                    exact J22 ((3 : Int32), (.val (.int stv)), (.val (.int ivv)), (.val (.int mkv)), (.val (.int v28)), (.val (.int fv)), (.val (.int y0)), (.val (.int y1)), (.val (.int y2))) _ _ S33 ⟨A_s, (by rw [gS, sym_3 (by omega)]; rfl), by (try dsimp only); decide, by (try dsimp only); decide⟩
                  · refine px_iconst (v := (2 : Int32)) S33 at_526 rfl rfl ?_
                    refine px_goto S33 at_527 (by decide) (pc' := 531) rfl ?_
                    refine px_istore S33 at_531 rfl (L' := #[.val (.int i0), .val (.int i1), .val (.int i2), .val (.int i3), .val (.int i4), .val (.int i5), .val (.int v1), .val (.int v2), .val (.int fl), .val (.int v5), .val (.int v6), .val (.int v7), .val (.int v8), .val (.int v9), .val (.int v10), .val (.int rv), .val (.int lv), .val (.int z0), .val (.int z1), .val (.int z2), .val (.int z3), .val (.ref b14), .val (.ref b19), .val (.int v21), .val (.int (2 : Int32)), .val (.int stv), .val (.int ivv), .val (.int mkv), .val (.int v28), .val (.int fv), .val (.int y0), .val (.int y1), .val (.int y2)]) rfl ?_
                    exact J22 ((2 : Int32), (.val (.int stv)), (.val (.int ivv)), (.val (.int mkv)), (.val (.int v28)), (.val (.int fv)), (.val (.int y0)), (.val (.int y1)), (.val (.int y2))) _ _ S33 ⟨A_s, (by rw [gS, sym_2 (by omega) (by omega)]; rfl), by (try dsimp only); decide, by (try dsimp only); decide⟩
                · refine px_iconst (v := (1 : Int32)) S33 at_509 rfl rfl ?_
                  refine px_goto S33 at_510 (by decide) (pc' := 531) rfl ?_
                  refine px_istore S33 at_531 rfl (L' := #[.val (.int i0), .val (.int i1), .val (.int i2), .val (.int i3), .val (.int i4), .val (.int i5), .val (.int v1), .val (.int v2), .val (.int fl), .val (.int v5), .val (.int v6), .val (.int v7), .val (.int v8), .val (.int v9), .val (.int v10), .val (.int rv), .val (.int lv), .val (.int z0), .val (.int z1), .val (.int z2), .val (.int z3), .val (.ref b14), .val (.ref b19), .val (.int v21), .val (.int (1 : Int32)), .val (.int stv), .val (.int ivv), .val (.int mkv), .val (.int v28), .val (.int fv), .val (.int y0), .val (.int y1), .val (.int y2)]) rfl ?_
                  exact J22 ((1 : Int32), (.val (.int stv)), (.val (.int ivv)), (.val (.int mkv)), (.val (.int v28)), (.val (.int fv)), (.val (.int y0)), (.val (.int y1)), (.val (.int y2))) _ _ S33 ⟨A_s, (by rw [gS, sym_1 (by omega) (by omega)]; rfl), by (try dsimp only); decide, by (try dsimp only); decide⟩
              · refine px_iconst (v := (0 : Int32)) S33 at_495 rfl rfl ?_
                refine px_goto S33 at_496 (by decide) (pc' := 531) rfl ?_
                refine px_istore S33 at_531 rfl (L' := #[.val (.int i0), .val (.int i1), .val (.int i2), .val (.int i3), .val (.int i4), .val (.int i5), .val (.int v1), .val (.int v2), .val (.int fl), .val (.int v5), .val (.int v6), .val (.int v7), .val (.int v8), .val (.int v9), .val (.int v10), .val (.int rv), .val (.int lv), .val (.int z0), .val (.int z1), .val (.int z2), .val (.int z3), .val (.ref b14), .val (.ref b19), .val (.int v21), .val (.int (0 : Int32)), .val (.int stv), .val (.int ivv), .val (.int mkv), .val (.int v28), .val (.int fv), .val (.int y0), .val (.int y1), .val (.int y2)]) rfl ?_
                exact J22 ((0 : Int32), (.val (.int stv)), (.val (.int ivv)), (.val (.int mkv)), (.val (.int v28)), (.val (.int fv)), (.val (.int y0)), (.val (.int y1)), (.val (.int y2))) _ _ S33 ⟨A_s, (by rw [gS, sym_0 (by omega)]; rfl), by (try dsimp only); decide, by (try dsimp only); decide⟩
            · refine px_iload S27 at_393 rfl rfl ?_
              refine px_if0 S27 at_395 (by decide) (pc' := 416) rfl rfl (fun (hc37 : v9.toInt ≤ 0) => ?_) (fun (hc37 : v9.toInt > 0) => ?_)
              · refine px_iload S27 at_416 rfl rfl ?_
                refine px_iconst (v := (1 : Int32)) S27 at_418 rfl rfl ?_
                refine px_icmp S27 at_419 (by decide) (pc' := 440) rfl rfl (fun (hc38 : v9.toInt ≤ (1 : Int32).toInt) => ?_) (fun (hc38 : v9.toInt > (1 : Int32).toInt) => ?_)
                · refine px_iload S27 at_440 rfl rfl ?_
                  refine px_iconst (v := (2 : Int32)) S27 at_442 rfl rfl ?_
                  refine px_icmp S27 at_443 (by decide) (pc' := 464) rfl rfl (fun (hc39 : v9.toInt ≤ (2 : Int32).toInt) => ?_) (fun (hc39 : v9.toInt > (2 : Int32).toInt) => ?_)
                  · exact J29 v28 _ _ S27 ⟨A_s, by (try dsimp only); have qr := rk_of (ok_of hN hM3 hSm) (dd_m (N := N) (k := kkM N S) (i := 0) (m := M) (by have q0 : (1 : Int32).toInt = 1 := rfl; have q1 : (2 : Int32).toInt = 2 := rfl; omega)) (dd_m (N := N) (k := kkM N S) (i := 1) (m := M) (by have q0 : (1 : Int32).toInt = 1 := rfl; have q1 : (2 : Int32).toInt = 2 := rfl; omega)) (dd_m (N := N) (k := kkM N S) (i := 2) (m := M) (by have q0 : (1 : Int32).toInt = 1 := rfl; have q1 : (2 : Int32).toInt = 2 := rfl; omega)); omega⟩
                  · refine px_iload S27 at_446 rfl rfl ?_
                    refine px_iconst (v := (3 : Int32)) S27 at_448 rfl rfl ?_
                    refine px_isub S27 at_449 rfl ?_
                    refine px_iload S27 at_450 rfl rfl ?_
                    refine px_imul S27 at_452 rfl ?_
                    refine px_iload S27 at_453 rfl rfl ?_
                    refine px_iand S27 at_455 rfl ?_
                    have k2_ : (((v2 - (3 : Int32)) * ivv) &&& mkv).toInt = (kkM N (N - (2 + 1)) : Int) := HH (v2 - (3 : Int32)) (N - (2 + 1)) (sub_nn ev (show (3 : Int32).toInt = ((2 + 1 : Nat) : Int) from rfl) (by omega) (by omega))
                    refine px_iload S27 at_456 rfl rfl ?_
                    refine px_icmp S27 at_458 (by decide) (pc' := 464) rfl rfl (fun (hc40 : (((v2 - (3 : Int32)) * ivv) &&& mkv).toInt ≥ v28.toInt) => ?_) (fun (hc40 : (((v2 - (3 : Int32)) * ivv) &&& mkv).toInt < v28.toInt) => ?_)
                    · exact J29 v28 _ _ S27 ⟨A_s, by (try dsimp only); have qr := rk_of (ok_of hN hM3 hSm) (dd_m (N := N) (k := kkM N S) (i := 0) (m := M) (by have q0 : (1 : Int32).toInt = 1 := rfl; have q1 : (2 : Int32).toInt = 2 := rfl; omega)) (dd_m (N := N) (k := kkM N S) (i := 1) (m := M) (by have q0 : (1 : Int32).toInt = 1 := rfl; have q1 : (2 : Int32).toInt = 2 := rfl; omega)) (dd_g (N := N) (k := kkM N S) (i := 2) (m := M) (by have q0 : (1 : Int32).toInt = 1 := rfl; have q1 : (2 : Int32).toInt = 2 := rfl; omega)); omega⟩
                    · refine px_iinc (v := (-1 : Int32)) (r := (v28 + (-1 : Int32))) S27 at_461 rfl rfl rfl rfl (L' := #[.val (.int i0), .val (.int i1), .val (.int i2), .val (.int i3), .val (.int i4), .val (.int i5), .val (.int v1), .val (.int v2), .val (.int fl), .val (.int v5), .val (.int v6), .val (.int v7), .val (.int v8), .val (.int v9), .val (.int v10), .val (.int rv), .val (.int lv), .val (.int z0), .val (.int z1), .val (.int z2), .val (.int z3), .val (.ref b14), .val (.ref b19), .val (.int v21), .unset, .val (.int stv), .val (.int ivv), .val (.int mkv), .val (.int v28), .val (.int (v28 + (-1 : Int32))), .unset, .unset, .unset]) rfl ?_
                      generalize h_v41 : (v28 + (-1 : Int32)) = v41
                      have t0 := dec1 h_v41 ek (by omega) (by omega)
                      exact J29 v41 _ _ S27 ⟨A_s, by (try dsimp only); have qr := rk_of (ok_of hN hM3 hSm) (dd_m (N := N) (k := kkM N S) (i := 0) (m := M) (by have q0 : (1 : Int32).toInt = 1 := rfl; have q1 : (2 : Int32).toInt = 2 := rfl; omega)) (dd_m (N := N) (k := kkM N S) (i := 1) (m := M) (by have q0 : (1 : Int32).toInt = 1 := rfl; have q1 : (2 : Int32).toInt = 2 := rfl; omega)) (dd_1 (N := N) (k := kkM N S) (i := 2) (m := M) (by have q0 : (1 : Int32).toInt = 1 := rfl; have q1 : (2 : Int32).toInt = 2 := rfl; omega) (by have q0 : (1 : Int32).toInt = 1 := rfl; have q1 : (2 : Int32).toInt = 2 := rfl; omega)); omega⟩
                · refine px_iload S27 at_422 rfl rfl ?_
                  refine px_iconst (v := (2 : Int32)) S27 at_424 rfl rfl ?_
                  refine px_isub S27 at_425 rfl ?_
                  refine px_iload S27 at_426 rfl rfl ?_
                  refine px_imul S27 at_428 rfl ?_
                  refine px_iload S27 at_429 rfl rfl ?_
                  refine px_iand S27 at_431 rfl ?_
                  have k1_ : (((v2 - (2 : Int32)) * ivv) &&& mkv).toInt = (kkM N (N - (1 + 1)) : Int) := HH (v2 - (2 : Int32)) (N - (1 + 1)) (sub_nn ev (show (2 : Int32).toInt = ((1 + 1 : Nat) : Int) from rfl) (by omega) (by omega))
                  refine px_iload S27 at_432 rfl rfl ?_
                  refine px_icmp S27 at_434 (by decide) (pc' := 440) rfl rfl (fun (hc42 : (((v2 - (2 : Int32)) * ivv) &&& mkv).toInt ≥ v28.toInt) => ?_) (fun (hc42 : (((v2 - (2 : Int32)) * ivv) &&& mkv).toInt < v28.toInt) => ?_)
                  · refine px_iload S27 at_440 rfl rfl ?_
                    refine px_iconst (v := (2 : Int32)) S27 at_442 rfl rfl ?_
                    refine px_icmp S27 at_443 (by decide) (pc' := 464) rfl rfl (fun (hc43 : v9.toInt ≤ (2 : Int32).toInt) => ?_) (fun (hc43 : v9.toInt > (2 : Int32).toInt) => ?_)
                    · exact J29 v28 _ _ S27 ⟨A_s, by (try dsimp only); have qr := rk_of (ok_of hN hM3 hSm) (dd_m (N := N) (k := kkM N S) (i := 0) (m := M) (by have q0 : (1 : Int32).toInt = 1 := rfl; have q1 : (2 : Int32).toInt = 2 := rfl; omega)) (dd_g (N := N) (k := kkM N S) (i := 1) (m := M) (by have q0 : (1 : Int32).toInt = 1 := rfl; have q1 : (2 : Int32).toInt = 2 := rfl; omega)) (dd_m (N := N) (k := kkM N S) (i := 2) (m := M) (by have q0 : (1 : Int32).toInt = 1 := rfl; have q1 : (2 : Int32).toInt = 2 := rfl; omega)); omega⟩
                    · refine px_iload S27 at_446 rfl rfl ?_
                      refine px_iconst (v := (3 : Int32)) S27 at_448 rfl rfl ?_
                      refine px_isub S27 at_449 rfl ?_
                      refine px_iload S27 at_450 rfl rfl ?_
                      refine px_imul S27 at_452 rfl ?_
                      refine px_iload S27 at_453 rfl rfl ?_
                      refine px_iand S27 at_455 rfl ?_
                      have k2_ : (((v2 - (3 : Int32)) * ivv) &&& mkv).toInt = (kkM N (N - (2 + 1)) : Int) := HH (v2 - (3 : Int32)) (N - (2 + 1)) (sub_nn ev (show (3 : Int32).toInt = ((2 + 1 : Nat) : Int) from rfl) (by omega) (by omega))
                      refine px_iload S27 at_456 rfl rfl ?_
                      refine px_icmp S27 at_458 (by decide) (pc' := 464) rfl rfl (fun (hc44 : (((v2 - (3 : Int32)) * ivv) &&& mkv).toInt ≥ v28.toInt) => ?_) (fun (hc44 : (((v2 - (3 : Int32)) * ivv) &&& mkv).toInt < v28.toInt) => ?_)
                      · exact J29 v28 _ _ S27 ⟨A_s, by (try dsimp only); have qr := rk_of (ok_of hN hM3 hSm) (dd_m (N := N) (k := kkM N S) (i := 0) (m := M) (by have q0 : (1 : Int32).toInt = 1 := rfl; have q1 : (2 : Int32).toInt = 2 := rfl; omega)) (dd_g (N := N) (k := kkM N S) (i := 1) (m := M) (by have q0 : (1 : Int32).toInt = 1 := rfl; have q1 : (2 : Int32).toInt = 2 := rfl; omega)) (dd_g (N := N) (k := kkM N S) (i := 2) (m := M) (by have q0 : (1 : Int32).toInt = 1 := rfl; have q1 : (2 : Int32).toInt = 2 := rfl; omega)); omega⟩
                      · refine px_iinc (v := (-1 : Int32)) (r := (v28 + (-1 : Int32))) S27 at_461 rfl rfl rfl rfl (L' := #[.val (.int i0), .val (.int i1), .val (.int i2), .val (.int i3), .val (.int i4), .val (.int i5), .val (.int v1), .val (.int v2), .val (.int fl), .val (.int v5), .val (.int v6), .val (.int v7), .val (.int v8), .val (.int v9), .val (.int v10), .val (.int rv), .val (.int lv), .val (.int z0), .val (.int z1), .val (.int z2), .val (.int z3), .val (.ref b14), .val (.ref b19), .val (.int v21), .unset, .val (.int stv), .val (.int ivv), .val (.int mkv), .val (.int v28), .val (.int (v28 + (-1 : Int32))), .unset, .unset, .unset]) rfl ?_
                        generalize h_v45 : (v28 + (-1 : Int32)) = v45
                        have t0 := dec1 h_v45 ek (by omega) (by omega)
                        exact J29 v45 _ _ S27 ⟨A_s, by (try dsimp only); have qr := rk_of (ok_of hN hM3 hSm) (dd_m (N := N) (k := kkM N S) (i := 0) (m := M) (by have q0 : (1 : Int32).toInt = 1 := rfl; have q1 : (2 : Int32).toInt = 2 := rfl; omega)) (dd_g (N := N) (k := kkM N S) (i := 1) (m := M) (by have q0 : (1 : Int32).toInt = 1 := rfl; have q1 : (2 : Int32).toInt = 2 := rfl; omega)) (dd_1 (N := N) (k := kkM N S) (i := 2) (m := M) (by have q0 : (1 : Int32).toInt = 1 := rfl; have q1 : (2 : Int32).toInt = 2 := rfl; omega) (by have q0 : (1 : Int32).toInt = 1 := rfl; have q1 : (2 : Int32).toInt = 2 := rfl; omega)); omega⟩
                  · refine px_iinc (v := (-1 : Int32)) (r := (v28 + (-1 : Int32))) S27 at_437 rfl rfl rfl rfl (L' := #[.val (.int i0), .val (.int i1), .val (.int i2), .val (.int i3), .val (.int i4), .val (.int i5), .val (.int v1), .val (.int v2), .val (.int fl), .val (.int v5), .val (.int v6), .val (.int v7), .val (.int v8), .val (.int v9), .val (.int v10), .val (.int rv), .val (.int lv), .val (.int z0), .val (.int z1), .val (.int z2), .val (.int z3), .val (.ref b14), .val (.ref b19), .val (.int v21), .unset, .val (.int stv), .val (.int ivv), .val (.int mkv), .val (.int v28), .val (.int (v28 + (-1 : Int32))), .unset, .unset, .unset]) rfl ?_
                    generalize h_v46 : (v28 + (-1 : Int32)) = v46
                    refine px_iload S27 at_440 rfl rfl ?_
                    refine px_iconst (v := (2 : Int32)) S27 at_442 rfl rfl ?_
                    refine px_icmp S27 at_443 (by decide) (pc' := 464) rfl rfl (fun (hc47 : v9.toInt ≤ (2 : Int32).toInt) => ?_) (fun (hc47 : v9.toInt > (2 : Int32).toInt) => ?_)
                    · have t0 := dec1 h_v46 ek (by omega) (by omega)
                      exact J29 v46 _ _ S27 ⟨A_s, by (try dsimp only); have qr := rk_of (ok_of hN hM3 hSm) (dd_m (N := N) (k := kkM N S) (i := 0) (m := M) (by have q0 : (1 : Int32).toInt = 1 := rfl; have q1 : (2 : Int32).toInt = 2 := rfl; omega)) (dd_1 (N := N) (k := kkM N S) (i := 1) (m := M) (by have q0 : (1 : Int32).toInt = 1 := rfl; have q1 : (2 : Int32).toInt = 2 := rfl; omega) (by have q0 : (1 : Int32).toInt = 1 := rfl; have q1 : (2 : Int32).toInt = 2 := rfl; omega)) (dd_m (N := N) (k := kkM N S) (i := 2) (m := M) (by have q0 : (1 : Int32).toInt = 1 := rfl; have q1 : (2 : Int32).toInt = 2 := rfl; omega)); omega⟩
                    · refine px_iload S27 at_446 rfl rfl ?_
                      refine px_iconst (v := (3 : Int32)) S27 at_448 rfl rfl ?_
                      refine px_isub S27 at_449 rfl ?_
                      refine px_iload S27 at_450 rfl rfl ?_
                      refine px_imul S27 at_452 rfl ?_
                      refine px_iload S27 at_453 rfl rfl ?_
                      refine px_iand S27 at_455 rfl ?_
                      have k2_ : (((v2 - (3 : Int32)) * ivv) &&& mkv).toInt = (kkM N (N - (2 + 1)) : Int) := HH (v2 - (3 : Int32)) (N - (2 + 1)) (sub_nn ev (show (3 : Int32).toInt = ((2 + 1 : Nat) : Int) from rfl) (by omega) (by omega))
                      refine px_iload S27 at_456 rfl rfl ?_
                      refine px_icmp S27 at_458 (by decide) (pc' := 464) rfl rfl (fun (hc48 : (((v2 - (3 : Int32)) * ivv) &&& mkv).toInt ≥ v28.toInt) => ?_) (fun (hc48 : (((v2 - (3 : Int32)) * ivv) &&& mkv).toInt < v28.toInt) => ?_)
                      · have t0 := dec1 h_v46 ek (by omega) (by omega)
                        exact J29 v46 _ _ S27 ⟨A_s, by (try dsimp only); have qr := rk_of (ok_of hN hM3 hSm) (dd_m (N := N) (k := kkM N S) (i := 0) (m := M) (by have q0 : (1 : Int32).toInt = 1 := rfl; have q1 : (2 : Int32).toInt = 2 := rfl; omega)) (dd_1 (N := N) (k := kkM N S) (i := 1) (m := M) (by have q0 : (1 : Int32).toInt = 1 := rfl; have q1 : (2 : Int32).toInt = 2 := rfl; omega) (by have q0 : (1 : Int32).toInt = 1 := rfl; have q1 : (2 : Int32).toInt = 2 := rfl; omega)) (dd_g (N := N) (k := kkM N S) (i := 2) (m := M) (by have q0 : (1 : Int32).toInt = 1 := rfl; have q1 : (2 : Int32).toInt = 2 := rfl; omega)); omega⟩
                      · refine px_iinc (v := (-1 : Int32)) (r := (v46 + (-1 : Int32))) S27 at_461 rfl rfl rfl rfl (L' := #[.val (.int i0), .val (.int i1), .val (.int i2), .val (.int i3), .val (.int i4), .val (.int i5), .val (.int v1), .val (.int v2), .val (.int fl), .val (.int v5), .val (.int v6), .val (.int v7), .val (.int v8), .val (.int v9), .val (.int v10), .val (.int rv), .val (.int lv), .val (.int z0), .val (.int z1), .val (.int z2), .val (.int z3), .val (.ref b14), .val (.ref b19), .val (.int v21), .unset, .val (.int stv), .val (.int ivv), .val (.int mkv), .val (.int v28), .val (.int (v46 + (-1 : Int32))), .unset, .unset, .unset]) rfl ?_
                        generalize h_v49 : (v46 + (-1 : Int32)) = v49
                        have t0 := dec1 h_v46 ek (by omega) (by omega)
                        have t1 := dec1 h_v49 t0 (by omega) (by omega)
                        exact J29 v49 _ _ S27 ⟨A_s, by (try dsimp only); have qr := rk_of (ok_of hN hM3 hSm) (dd_m (N := N) (k := kkM N S) (i := 0) (m := M) (by have q0 : (1 : Int32).toInt = 1 := rfl; have q1 : (2 : Int32).toInt = 2 := rfl; omega)) (dd_1 (N := N) (k := kkM N S) (i := 1) (m := M) (by have q0 : (1 : Int32).toInt = 1 := rfl; have q1 : (2 : Int32).toInt = 2 := rfl; omega) (by have q0 : (1 : Int32).toInt = 1 := rfl; have q1 : (2 : Int32).toInt = 2 := rfl; omega)) (dd_1 (N := N) (k := kkM N S) (i := 2) (m := M) (by have q0 : (1 : Int32).toInt = 1 := rfl; have q1 : (2 : Int32).toInt = 2 := rfl; omega) (by have q0 : (1 : Int32).toInt = 1 := rfl; have q1 : (2 : Int32).toInt = 2 := rfl; omega)); omega⟩
              · refine px_iload S27 at_398 rfl rfl ?_
                refine px_iconst (v := (1 : Int32)) S27 at_400 rfl rfl ?_
                refine px_isub S27 at_401 rfl ?_
                refine px_iload S27 at_402 rfl rfl ?_
                refine px_imul S27 at_404 rfl ?_
                refine px_iload S27 at_405 rfl rfl ?_
                refine px_iand S27 at_407 rfl ?_
                have k0_ : (((v2 - (1 : Int32)) * ivv) &&& mkv).toInt = (kkM N (N - (0 + 1)) : Int) := HH (v2 - (1 : Int32)) (N - (0 + 1)) (sub_nn ev (show (1 : Int32).toInt = ((0 + 1 : Nat) : Int) from rfl) (by omega) (by omega))
                refine px_iload S27 at_408 rfl rfl ?_
                refine px_icmp S27 at_410 (by decide) (pc' := 416) rfl rfl (fun (hc50 : (((v2 - (1 : Int32)) * ivv) &&& mkv).toInt ≥ v28.toInt) => ?_) (fun (hc50 : (((v2 - (1 : Int32)) * ivv) &&& mkv).toInt < v28.toInt) => ?_)
                · refine px_iload S27 at_416 rfl rfl ?_
                  refine px_iconst (v := (1 : Int32)) S27 at_418 rfl rfl ?_
                  refine px_icmp S27 at_419 (by decide) (pc' := 440) rfl rfl (fun (hc51 : v9.toInt ≤ (1 : Int32).toInt) => ?_) (fun (hc51 : v9.toInt > (1 : Int32).toInt) => ?_)
                  · refine px_iload S27 at_440 rfl rfl ?_
                    refine px_iconst (v := (2 : Int32)) S27 at_442 rfl rfl ?_
                    refine px_icmp S27 at_443 (by decide) (pc' := 464) rfl rfl (fun (hc52 : v9.toInt ≤ (2 : Int32).toInt) => ?_) (fun (hc52 : v9.toInt > (2 : Int32).toInt) => ?_)
                    · exact J29 v28 _ _ S27 ⟨A_s, by (try dsimp only); have qr := rk_of (ok_of hN hM3 hSm) (dd_g (N := N) (k := kkM N S) (i := 0) (m := M) (by have q0 : (1 : Int32).toInt = 1 := rfl; have q1 : (2 : Int32).toInt = 2 := rfl; omega)) (dd_m (N := N) (k := kkM N S) (i := 1) (m := M) (by have q0 : (1 : Int32).toInt = 1 := rfl; have q1 : (2 : Int32).toInt = 2 := rfl; omega)) (dd_m (N := N) (k := kkM N S) (i := 2) (m := M) (by have q0 : (1 : Int32).toInt = 1 := rfl; have q1 : (2 : Int32).toInt = 2 := rfl; omega)); omega⟩
                    · refine px_iload S27 at_446 rfl rfl ?_
                      refine px_iconst (v := (3 : Int32)) S27 at_448 rfl rfl ?_
                      refine px_isub S27 at_449 rfl ?_
                      refine px_iload S27 at_450 rfl rfl ?_
                      refine px_imul S27 at_452 rfl ?_
                      refine px_iload S27 at_453 rfl rfl ?_
                      refine px_iand S27 at_455 rfl ?_
                      have k2_ : (((v2 - (3 : Int32)) * ivv) &&& mkv).toInt = (kkM N (N - (2 + 1)) : Int) := HH (v2 - (3 : Int32)) (N - (2 + 1)) (sub_nn ev (show (3 : Int32).toInt = ((2 + 1 : Nat) : Int) from rfl) (by omega) (by omega))
                      refine px_iload S27 at_456 rfl rfl ?_
                      refine px_icmp S27 at_458 (by decide) (pc' := 464) rfl rfl (fun (hc53 : (((v2 - (3 : Int32)) * ivv) &&& mkv).toInt ≥ v28.toInt) => ?_) (fun (hc53 : (((v2 - (3 : Int32)) * ivv) &&& mkv).toInt < v28.toInt) => ?_)
                      · exact J29 v28 _ _ S27 ⟨A_s, by (try dsimp only); have qr := rk_of (ok_of hN hM3 hSm) (dd_g (N := N) (k := kkM N S) (i := 0) (m := M) (by have q0 : (1 : Int32).toInt = 1 := rfl; have q1 : (2 : Int32).toInt = 2 := rfl; omega)) (dd_m (N := N) (k := kkM N S) (i := 1) (m := M) (by have q0 : (1 : Int32).toInt = 1 := rfl; have q1 : (2 : Int32).toInt = 2 := rfl; omega)) (dd_g (N := N) (k := kkM N S) (i := 2) (m := M) (by have q0 : (1 : Int32).toInt = 1 := rfl; have q1 : (2 : Int32).toInt = 2 := rfl; omega)); omega⟩
                      · refine px_iinc (v := (-1 : Int32)) (r := (v28 + (-1 : Int32))) S27 at_461 rfl rfl rfl rfl (L' := #[.val (.int i0), .val (.int i1), .val (.int i2), .val (.int i3), .val (.int i4), .val (.int i5), .val (.int v1), .val (.int v2), .val (.int fl), .val (.int v5), .val (.int v6), .val (.int v7), .val (.int v8), .val (.int v9), .val (.int v10), .val (.int rv), .val (.int lv), .val (.int z0), .val (.int z1), .val (.int z2), .val (.int z3), .val (.ref b14), .val (.ref b19), .val (.int v21), .unset, .val (.int stv), .val (.int ivv), .val (.int mkv), .val (.int v28), .val (.int (v28 + (-1 : Int32))), .unset, .unset, .unset]) rfl ?_
                        generalize h_v54 : (v28 + (-1 : Int32)) = v54
                        have t0 := dec1 h_v54 ek (by omega) (by omega)
                        exact J29 v54 _ _ S27 ⟨A_s, by (try dsimp only); have qr := rk_of (ok_of hN hM3 hSm) (dd_g (N := N) (k := kkM N S) (i := 0) (m := M) (by have q0 : (1 : Int32).toInt = 1 := rfl; have q1 : (2 : Int32).toInt = 2 := rfl; omega)) (dd_m (N := N) (k := kkM N S) (i := 1) (m := M) (by have q0 : (1 : Int32).toInt = 1 := rfl; have q1 : (2 : Int32).toInt = 2 := rfl; omega)) (dd_1 (N := N) (k := kkM N S) (i := 2) (m := M) (by have q0 : (1 : Int32).toInt = 1 := rfl; have q1 : (2 : Int32).toInt = 2 := rfl; omega) (by have q0 : (1 : Int32).toInt = 1 := rfl; have q1 : (2 : Int32).toInt = 2 := rfl; omega)); omega⟩
                  · refine px_iload S27 at_422 rfl rfl ?_
                    refine px_iconst (v := (2 : Int32)) S27 at_424 rfl rfl ?_
                    refine px_isub S27 at_425 rfl ?_
                    refine px_iload S27 at_426 rfl rfl ?_
                    refine px_imul S27 at_428 rfl ?_
                    refine px_iload S27 at_429 rfl rfl ?_
                    refine px_iand S27 at_431 rfl ?_
                    have k1_ : (((v2 - (2 : Int32)) * ivv) &&& mkv).toInt = (kkM N (N - (1 + 1)) : Int) := HH (v2 - (2 : Int32)) (N - (1 + 1)) (sub_nn ev (show (2 : Int32).toInt = ((1 + 1 : Nat) : Int) from rfl) (by omega) (by omega))
                    refine px_iload S27 at_432 rfl rfl ?_
                    refine px_icmp S27 at_434 (by decide) (pc' := 440) rfl rfl (fun (hc55 : (((v2 - (2 : Int32)) * ivv) &&& mkv).toInt ≥ v28.toInt) => ?_) (fun (hc55 : (((v2 - (2 : Int32)) * ivv) &&& mkv).toInt < v28.toInt) => ?_)
                    · refine px_iload S27 at_440 rfl rfl ?_
                      refine px_iconst (v := (2 : Int32)) S27 at_442 rfl rfl ?_
                      refine px_icmp S27 at_443 (by decide) (pc' := 464) rfl rfl (fun (hc56 : v9.toInt ≤ (2 : Int32).toInt) => ?_) (fun (hc56 : v9.toInt > (2 : Int32).toInt) => ?_)
                      · exact J29 v28 _ _ S27 ⟨A_s, by (try dsimp only); have qr := rk_of (ok_of hN hM3 hSm) (dd_g (N := N) (k := kkM N S) (i := 0) (m := M) (by have q0 : (1 : Int32).toInt = 1 := rfl; have q1 : (2 : Int32).toInt = 2 := rfl; omega)) (dd_g (N := N) (k := kkM N S) (i := 1) (m := M) (by have q0 : (1 : Int32).toInt = 1 := rfl; have q1 : (2 : Int32).toInt = 2 := rfl; omega)) (dd_m (N := N) (k := kkM N S) (i := 2) (m := M) (by have q0 : (1 : Int32).toInt = 1 := rfl; have q1 : (2 : Int32).toInt = 2 := rfl; omega)); omega⟩
                      · refine px_iload S27 at_446 rfl rfl ?_
                        refine px_iconst (v := (3 : Int32)) S27 at_448 rfl rfl ?_
                        refine px_isub S27 at_449 rfl ?_
                        refine px_iload S27 at_450 rfl rfl ?_
                        refine px_imul S27 at_452 rfl ?_
                        refine px_iload S27 at_453 rfl rfl ?_
                        refine px_iand S27 at_455 rfl ?_
                        have k2_ : (((v2 - (3 : Int32)) * ivv) &&& mkv).toInt = (kkM N (N - (2 + 1)) : Int) := HH (v2 - (3 : Int32)) (N - (2 + 1)) (sub_nn ev (show (3 : Int32).toInt = ((2 + 1 : Nat) : Int) from rfl) (by omega) (by omega))
                        refine px_iload S27 at_456 rfl rfl ?_
                        refine px_icmp S27 at_458 (by decide) (pc' := 464) rfl rfl (fun (hc57 : (((v2 - (3 : Int32)) * ivv) &&& mkv).toInt ≥ v28.toInt) => ?_) (fun (hc57 : (((v2 - (3 : Int32)) * ivv) &&& mkv).toInt < v28.toInt) => ?_)
                        · exact J29 v28 _ _ S27 ⟨A_s, by (try dsimp only); have qr := rk_of (ok_of hN hM3 hSm) (dd_g (N := N) (k := kkM N S) (i := 0) (m := M) (by have q0 : (1 : Int32).toInt = 1 := rfl; have q1 : (2 : Int32).toInt = 2 := rfl; omega)) (dd_g (N := N) (k := kkM N S) (i := 1) (m := M) (by have q0 : (1 : Int32).toInt = 1 := rfl; have q1 : (2 : Int32).toInt = 2 := rfl; omega)) (dd_g (N := N) (k := kkM N S) (i := 2) (m := M) (by have q0 : (1 : Int32).toInt = 1 := rfl; have q1 : (2 : Int32).toInt = 2 := rfl; omega)); omega⟩
                        · refine px_iinc (v := (-1 : Int32)) (r := (v28 + (-1 : Int32))) S27 at_461 rfl rfl rfl rfl (L' := #[.val (.int i0), .val (.int i1), .val (.int i2), .val (.int i3), .val (.int i4), .val (.int i5), .val (.int v1), .val (.int v2), .val (.int fl), .val (.int v5), .val (.int v6), .val (.int v7), .val (.int v8), .val (.int v9), .val (.int v10), .val (.int rv), .val (.int lv), .val (.int z0), .val (.int z1), .val (.int z2), .val (.int z3), .val (.ref b14), .val (.ref b19), .val (.int v21), .unset, .val (.int stv), .val (.int ivv), .val (.int mkv), .val (.int v28), .val (.int (v28 + (-1 : Int32))), .unset, .unset, .unset]) rfl ?_
                          generalize h_v58 : (v28 + (-1 : Int32)) = v58
                          have t0 := dec1 h_v58 ek (by omega) (by omega)
                          exact J29 v58 _ _ S27 ⟨A_s, by (try dsimp only); have qr := rk_of (ok_of hN hM3 hSm) (dd_g (N := N) (k := kkM N S) (i := 0) (m := M) (by have q0 : (1 : Int32).toInt = 1 := rfl; have q1 : (2 : Int32).toInt = 2 := rfl; omega)) (dd_g (N := N) (k := kkM N S) (i := 1) (m := M) (by have q0 : (1 : Int32).toInt = 1 := rfl; have q1 : (2 : Int32).toInt = 2 := rfl; omega)) (dd_1 (N := N) (k := kkM N S) (i := 2) (m := M) (by have q0 : (1 : Int32).toInt = 1 := rfl; have q1 : (2 : Int32).toInt = 2 := rfl; omega) (by have q0 : (1 : Int32).toInt = 1 := rfl; have q1 : (2 : Int32).toInt = 2 := rfl; omega)); omega⟩
                    · refine px_iinc (v := (-1 : Int32)) (r := (v28 + (-1 : Int32))) S27 at_437 rfl rfl rfl rfl (L' := #[.val (.int i0), .val (.int i1), .val (.int i2), .val (.int i3), .val (.int i4), .val (.int i5), .val (.int v1), .val (.int v2), .val (.int fl), .val (.int v5), .val (.int v6), .val (.int v7), .val (.int v8), .val (.int v9), .val (.int v10), .val (.int rv), .val (.int lv), .val (.int z0), .val (.int z1), .val (.int z2), .val (.int z3), .val (.ref b14), .val (.ref b19), .val (.int v21), .unset, .val (.int stv), .val (.int ivv), .val (.int mkv), .val (.int v28), .val (.int (v28 + (-1 : Int32))), .unset, .unset, .unset]) rfl ?_
                      generalize h_v59 : (v28 + (-1 : Int32)) = v59
                      refine px_iload S27 at_440 rfl rfl ?_
                      refine px_iconst (v := (2 : Int32)) S27 at_442 rfl rfl ?_
                      refine px_icmp S27 at_443 (by decide) (pc' := 464) rfl rfl (fun (hc60 : v9.toInt ≤ (2 : Int32).toInt) => ?_) (fun (hc60 : v9.toInt > (2 : Int32).toInt) => ?_)
                      · have t0 := dec1 h_v59 ek (by omega) (by omega)
                        exact J29 v59 _ _ S27 ⟨A_s, by (try dsimp only); have qr := rk_of (ok_of hN hM3 hSm) (dd_g (N := N) (k := kkM N S) (i := 0) (m := M) (by have q0 : (1 : Int32).toInt = 1 := rfl; have q1 : (2 : Int32).toInt = 2 := rfl; omega)) (dd_1 (N := N) (k := kkM N S) (i := 1) (m := M) (by have q0 : (1 : Int32).toInt = 1 := rfl; have q1 : (2 : Int32).toInt = 2 := rfl; omega) (by have q0 : (1 : Int32).toInt = 1 := rfl; have q1 : (2 : Int32).toInt = 2 := rfl; omega)) (dd_m (N := N) (k := kkM N S) (i := 2) (m := M) (by have q0 : (1 : Int32).toInt = 1 := rfl; have q1 : (2 : Int32).toInt = 2 := rfl; omega)); omega⟩
                      · refine px_iload S27 at_446 rfl rfl ?_
                        refine px_iconst (v := (3 : Int32)) S27 at_448 rfl rfl ?_
                        refine px_isub S27 at_449 rfl ?_
                        refine px_iload S27 at_450 rfl rfl ?_
                        refine px_imul S27 at_452 rfl ?_
                        refine px_iload S27 at_453 rfl rfl ?_
                        refine px_iand S27 at_455 rfl ?_
                        have k2_ : (((v2 - (3 : Int32)) * ivv) &&& mkv).toInt = (kkM N (N - (2 + 1)) : Int) := HH (v2 - (3 : Int32)) (N - (2 + 1)) (sub_nn ev (show (3 : Int32).toInt = ((2 + 1 : Nat) : Int) from rfl) (by omega) (by omega))
                        refine px_iload S27 at_456 rfl rfl ?_
                        refine px_icmp S27 at_458 (by decide) (pc' := 464) rfl rfl (fun (hc61 : (((v2 - (3 : Int32)) * ivv) &&& mkv).toInt ≥ v28.toInt) => ?_) (fun (hc61 : (((v2 - (3 : Int32)) * ivv) &&& mkv).toInt < v28.toInt) => ?_)
                        · have t0 := dec1 h_v59 ek (by omega) (by omega)
                          exact J29 v59 _ _ S27 ⟨A_s, by (try dsimp only); have qr := rk_of (ok_of hN hM3 hSm) (dd_g (N := N) (k := kkM N S) (i := 0) (m := M) (by have q0 : (1 : Int32).toInt = 1 := rfl; have q1 : (2 : Int32).toInt = 2 := rfl; omega)) (dd_1 (N := N) (k := kkM N S) (i := 1) (m := M) (by have q0 : (1 : Int32).toInt = 1 := rfl; have q1 : (2 : Int32).toInt = 2 := rfl; omega) (by have q0 : (1 : Int32).toInt = 1 := rfl; have q1 : (2 : Int32).toInt = 2 := rfl; omega)) (dd_g (N := N) (k := kkM N S) (i := 2) (m := M) (by have q0 : (1 : Int32).toInt = 1 := rfl; have q1 : (2 : Int32).toInt = 2 := rfl; omega)); omega⟩
                        · refine px_iinc (v := (-1 : Int32)) (r := (v59 + (-1 : Int32))) S27 at_461 rfl rfl rfl rfl (L' := #[.val (.int i0), .val (.int i1), .val (.int i2), .val (.int i3), .val (.int i4), .val (.int i5), .val (.int v1), .val (.int v2), .val (.int fl), .val (.int v5), .val (.int v6), .val (.int v7), .val (.int v8), .val (.int v9), .val (.int v10), .val (.int rv), .val (.int lv), .val (.int z0), .val (.int z1), .val (.int z2), .val (.int z3), .val (.ref b14), .val (.ref b19), .val (.int v21), .unset, .val (.int stv), .val (.int ivv), .val (.int mkv), .val (.int v28), .val (.int (v59 + (-1 : Int32))), .unset, .unset, .unset]) rfl ?_
                          generalize h_v62 : (v59 + (-1 : Int32)) = v62
                          have t0 := dec1 h_v59 ek (by omega) (by omega)
                          have t1 := dec1 h_v62 t0 (by omega) (by omega)
                          exact J29 v62 _ _ S27 ⟨A_s, by (try dsimp only); have qr := rk_of (ok_of hN hM3 hSm) (dd_g (N := N) (k := kkM N S) (i := 0) (m := M) (by have q0 : (1 : Int32).toInt = 1 := rfl; have q1 : (2 : Int32).toInt = 2 := rfl; omega)) (dd_1 (N := N) (k := kkM N S) (i := 1) (m := M) (by have q0 : (1 : Int32).toInt = 1 := rfl; have q1 : (2 : Int32).toInt = 2 := rfl; omega) (by have q0 : (1 : Int32).toInt = 1 := rfl; have q1 : (2 : Int32).toInt = 2 := rfl; omega)) (dd_1 (N := N) (k := kkM N S) (i := 2) (m := M) (by have q0 : (1 : Int32).toInt = 1 := rfl; have q1 : (2 : Int32).toInt = 2 := rfl; omega) (by have q0 : (1 : Int32).toInt = 1 := rfl; have q1 : (2 : Int32).toInt = 2 := rfl; omega)); omega⟩
                · refine px_iinc (v := (-1 : Int32)) (r := (v28 + (-1 : Int32))) S27 at_413 rfl rfl rfl rfl (L' := #[.val (.int i0), .val (.int i1), .val (.int i2), .val (.int i3), .val (.int i4), .val (.int i5), .val (.int v1), .val (.int v2), .val (.int fl), .val (.int v5), .val (.int v6), .val (.int v7), .val (.int v8), .val (.int v9), .val (.int v10), .val (.int rv), .val (.int lv), .val (.int z0), .val (.int z1), .val (.int z2), .val (.int z3), .val (.ref b14), .val (.ref b19), .val (.int v21), .unset, .val (.int stv), .val (.int ivv), .val (.int mkv), .val (.int v28), .val (.int (v28 + (-1 : Int32))), .unset, .unset, .unset]) rfl ?_
                  generalize h_v63 : (v28 + (-1 : Int32)) = v63
                  refine px_iload S27 at_416 rfl rfl ?_
                  refine px_iconst (v := (1 : Int32)) S27 at_418 rfl rfl ?_
                  refine px_icmp S27 at_419 (by decide) (pc' := 440) rfl rfl (fun (hc64 : v9.toInt ≤ (1 : Int32).toInt) => ?_) (fun (hc64 : v9.toInt > (1 : Int32).toInt) => ?_)
                  · refine px_iload S27 at_440 rfl rfl ?_
                    refine px_iconst (v := (2 : Int32)) S27 at_442 rfl rfl ?_
                    refine px_icmp S27 at_443 (by decide) (pc' := 464) rfl rfl (fun (hc65 : v9.toInt ≤ (2 : Int32).toInt) => ?_) (fun (hc65 : v9.toInt > (2 : Int32).toInt) => ?_)
                    · have t0 := dec1 h_v63 ek (by omega) (by omega)
                      exact J29 v63 _ _ S27 ⟨A_s, by (try dsimp only); have qr := rk_of (ok_of hN hM3 hSm) (dd_1 (N := N) (k := kkM N S) (i := 0) (m := M) (by have q0 : (1 : Int32).toInt = 1 := rfl; have q1 : (2 : Int32).toInt = 2 := rfl; omega) (by have q0 : (1 : Int32).toInt = 1 := rfl; have q1 : (2 : Int32).toInt = 2 := rfl; omega)) (dd_m (N := N) (k := kkM N S) (i := 1) (m := M) (by have q0 : (1 : Int32).toInt = 1 := rfl; have q1 : (2 : Int32).toInt = 2 := rfl; omega)) (dd_m (N := N) (k := kkM N S) (i := 2) (m := M) (by have q0 : (1 : Int32).toInt = 1 := rfl; have q1 : (2 : Int32).toInt = 2 := rfl; omega)); omega⟩
                    · refine px_iload S27 at_446 rfl rfl ?_
                      refine px_iconst (v := (3 : Int32)) S27 at_448 rfl rfl ?_
                      refine px_isub S27 at_449 rfl ?_
                      refine px_iload S27 at_450 rfl rfl ?_
                      refine px_imul S27 at_452 rfl ?_
                      refine px_iload S27 at_453 rfl rfl ?_
                      refine px_iand S27 at_455 rfl ?_
                      have k2_ : (((v2 - (3 : Int32)) * ivv) &&& mkv).toInt = (kkM N (N - (2 + 1)) : Int) := HH (v2 - (3 : Int32)) (N - (2 + 1)) (sub_nn ev (show (3 : Int32).toInt = ((2 + 1 : Nat) : Int) from rfl) (by omega) (by omega))
                      refine px_iload S27 at_456 rfl rfl ?_
                      refine px_icmp S27 at_458 (by decide) (pc' := 464) rfl rfl (fun (hc66 : (((v2 - (3 : Int32)) * ivv) &&& mkv).toInt ≥ v28.toInt) => ?_) (fun (hc66 : (((v2 - (3 : Int32)) * ivv) &&& mkv).toInt < v28.toInt) => ?_)
                      · have t0 := dec1 h_v63 ek (by omega) (by omega)
                        exact J29 v63 _ _ S27 ⟨A_s, by (try dsimp only); have qr := rk_of (ok_of hN hM3 hSm) (dd_1 (N := N) (k := kkM N S) (i := 0) (m := M) (by have q0 : (1 : Int32).toInt = 1 := rfl; have q1 : (2 : Int32).toInt = 2 := rfl; omega) (by have q0 : (1 : Int32).toInt = 1 := rfl; have q1 : (2 : Int32).toInt = 2 := rfl; omega)) (dd_m (N := N) (k := kkM N S) (i := 1) (m := M) (by have q0 : (1 : Int32).toInt = 1 := rfl; have q1 : (2 : Int32).toInt = 2 := rfl; omega)) (dd_g (N := N) (k := kkM N S) (i := 2) (m := M) (by have q0 : (1 : Int32).toInt = 1 := rfl; have q1 : (2 : Int32).toInt = 2 := rfl; omega)); omega⟩
                      · refine px_iinc (v := (-1 : Int32)) (r := (v63 + (-1 : Int32))) S27 at_461 rfl rfl rfl rfl (L' := #[.val (.int i0), .val (.int i1), .val (.int i2), .val (.int i3), .val (.int i4), .val (.int i5), .val (.int v1), .val (.int v2), .val (.int fl), .val (.int v5), .val (.int v6), .val (.int v7), .val (.int v8), .val (.int v9), .val (.int v10), .val (.int rv), .val (.int lv), .val (.int z0), .val (.int z1), .val (.int z2), .val (.int z3), .val (.ref b14), .val (.ref b19), .val (.int v21), .unset, .val (.int stv), .val (.int ivv), .val (.int mkv), .val (.int v28), .val (.int (v63 + (-1 : Int32))), .unset, .unset, .unset]) rfl ?_
                        generalize h_v67 : (v63 + (-1 : Int32)) = v67
                        have t0 := dec1 h_v63 ek (by omega) (by omega)
                        have t1 := dec1 h_v67 t0 (by omega) (by omega)
                        exact J29 v67 _ _ S27 ⟨A_s, by (try dsimp only); have qr := rk_of (ok_of hN hM3 hSm) (dd_1 (N := N) (k := kkM N S) (i := 0) (m := M) (by have q0 : (1 : Int32).toInt = 1 := rfl; have q1 : (2 : Int32).toInt = 2 := rfl; omega) (by have q0 : (1 : Int32).toInt = 1 := rfl; have q1 : (2 : Int32).toInt = 2 := rfl; omega)) (dd_m (N := N) (k := kkM N S) (i := 1) (m := M) (by have q0 : (1 : Int32).toInt = 1 := rfl; have q1 : (2 : Int32).toInt = 2 := rfl; omega)) (dd_1 (N := N) (k := kkM N S) (i := 2) (m := M) (by have q0 : (1 : Int32).toInt = 1 := rfl; have q1 : (2 : Int32).toInt = 2 := rfl; omega) (by have q0 : (1 : Int32).toInt = 1 := rfl; have q1 : (2 : Int32).toInt = 2 := rfl; omega)); omega⟩
                  · refine px_iload S27 at_422 rfl rfl ?_
                    refine px_iconst (v := (2 : Int32)) S27 at_424 rfl rfl ?_
                    refine px_isub S27 at_425 rfl ?_
                    refine px_iload S27 at_426 rfl rfl ?_
                    refine px_imul S27 at_428 rfl ?_
                    refine px_iload S27 at_429 rfl rfl ?_
                    refine px_iand S27 at_431 rfl ?_
                    have k1_ : (((v2 - (2 : Int32)) * ivv) &&& mkv).toInt = (kkM N (N - (1 + 1)) : Int) := HH (v2 - (2 : Int32)) (N - (1 + 1)) (sub_nn ev (show (2 : Int32).toInt = ((1 + 1 : Nat) : Int) from rfl) (by omega) (by omega))
                    refine px_iload S27 at_432 rfl rfl ?_
                    refine px_icmp S27 at_434 (by decide) (pc' := 440) rfl rfl (fun (hc68 : (((v2 - (2 : Int32)) * ivv) &&& mkv).toInt ≥ v28.toInt) => ?_) (fun (hc68 : (((v2 - (2 : Int32)) * ivv) &&& mkv).toInt < v28.toInt) => ?_)
                    · refine px_iload S27 at_440 rfl rfl ?_
                      refine px_iconst (v := (2 : Int32)) S27 at_442 rfl rfl ?_
                      refine px_icmp S27 at_443 (by decide) (pc' := 464) rfl rfl (fun (hc69 : v9.toInt ≤ (2 : Int32).toInt) => ?_) (fun (hc69 : v9.toInt > (2 : Int32).toInt) => ?_)
                      · have t0 := dec1 h_v63 ek (by omega) (by omega)
                        exact J29 v63 _ _ S27 ⟨A_s, by (try dsimp only); have qr := rk_of (ok_of hN hM3 hSm) (dd_1 (N := N) (k := kkM N S) (i := 0) (m := M) (by have q0 : (1 : Int32).toInt = 1 := rfl; have q1 : (2 : Int32).toInt = 2 := rfl; omega) (by have q0 : (1 : Int32).toInt = 1 := rfl; have q1 : (2 : Int32).toInt = 2 := rfl; omega)) (dd_g (N := N) (k := kkM N S) (i := 1) (m := M) (by have q0 : (1 : Int32).toInt = 1 := rfl; have q1 : (2 : Int32).toInt = 2 := rfl; omega)) (dd_m (N := N) (k := kkM N S) (i := 2) (m := M) (by have q0 : (1 : Int32).toInt = 1 := rfl; have q1 : (2 : Int32).toInt = 2 := rfl; omega)); omega⟩
                      · refine px_iload S27 at_446 rfl rfl ?_
                        refine px_iconst (v := (3 : Int32)) S27 at_448 rfl rfl ?_
                        refine px_isub S27 at_449 rfl ?_
                        refine px_iload S27 at_450 rfl rfl ?_
                        refine px_imul S27 at_452 rfl ?_
                        refine px_iload S27 at_453 rfl rfl ?_
                        refine px_iand S27 at_455 rfl ?_
                        have k2_ : (((v2 - (3 : Int32)) * ivv) &&& mkv).toInt = (kkM N (N - (2 + 1)) : Int) := HH (v2 - (3 : Int32)) (N - (2 + 1)) (sub_nn ev (show (3 : Int32).toInt = ((2 + 1 : Nat) : Int) from rfl) (by omega) (by omega))
                        refine px_iload S27 at_456 rfl rfl ?_
                        refine px_icmp S27 at_458 (by decide) (pc' := 464) rfl rfl (fun (hc70 : (((v2 - (3 : Int32)) * ivv) &&& mkv).toInt ≥ v28.toInt) => ?_) (fun (hc70 : (((v2 - (3 : Int32)) * ivv) &&& mkv).toInt < v28.toInt) => ?_)
                        · have t0 := dec1 h_v63 ek (by omega) (by omega)
                          exact J29 v63 _ _ S27 ⟨A_s, by (try dsimp only); have qr := rk_of (ok_of hN hM3 hSm) (dd_1 (N := N) (k := kkM N S) (i := 0) (m := M) (by have q0 : (1 : Int32).toInt = 1 := rfl; have q1 : (2 : Int32).toInt = 2 := rfl; omega) (by have q0 : (1 : Int32).toInt = 1 := rfl; have q1 : (2 : Int32).toInt = 2 := rfl; omega)) (dd_g (N := N) (k := kkM N S) (i := 1) (m := M) (by have q0 : (1 : Int32).toInt = 1 := rfl; have q1 : (2 : Int32).toInt = 2 := rfl; omega)) (dd_g (N := N) (k := kkM N S) (i := 2) (m := M) (by have q0 : (1 : Int32).toInt = 1 := rfl; have q1 : (2 : Int32).toInt = 2 := rfl; omega)); omega⟩
                        · refine px_iinc (v := (-1 : Int32)) (r := (v63 + (-1 : Int32))) S27 at_461 rfl rfl rfl rfl (L' := #[.val (.int i0), .val (.int i1), .val (.int i2), .val (.int i3), .val (.int i4), .val (.int i5), .val (.int v1), .val (.int v2), .val (.int fl), .val (.int v5), .val (.int v6), .val (.int v7), .val (.int v8), .val (.int v9), .val (.int v10), .val (.int rv), .val (.int lv), .val (.int z0), .val (.int z1), .val (.int z2), .val (.int z3), .val (.ref b14), .val (.ref b19), .val (.int v21), .unset, .val (.int stv), .val (.int ivv), .val (.int mkv), .val (.int v28), .val (.int (v63 + (-1 : Int32))), .unset, .unset, .unset]) rfl ?_
                          generalize h_v71 : (v63 + (-1 : Int32)) = v71
                          have t0 := dec1 h_v63 ek (by omega) (by omega)
                          have t1 := dec1 h_v71 t0 (by omega) (by omega)
                          exact J29 v71 _ _ S27 ⟨A_s, by (try dsimp only); have qr := rk_of (ok_of hN hM3 hSm) (dd_1 (N := N) (k := kkM N S) (i := 0) (m := M) (by have q0 : (1 : Int32).toInt = 1 := rfl; have q1 : (2 : Int32).toInt = 2 := rfl; omega) (by have q0 : (1 : Int32).toInt = 1 := rfl; have q1 : (2 : Int32).toInt = 2 := rfl; omega)) (dd_g (N := N) (k := kkM N S) (i := 1) (m := M) (by have q0 : (1 : Int32).toInt = 1 := rfl; have q1 : (2 : Int32).toInt = 2 := rfl; omega)) (dd_1 (N := N) (k := kkM N S) (i := 2) (m := M) (by have q0 : (1 : Int32).toInt = 1 := rfl; have q1 : (2 : Int32).toInt = 2 := rfl; omega) (by have q0 : (1 : Int32).toInt = 1 := rfl; have q1 : (2 : Int32).toInt = 2 := rfl; omega)); omega⟩
                    · refine px_iinc (v := (-1 : Int32)) (r := (v63 + (-1 : Int32))) S27 at_437 rfl rfl rfl rfl (L' := #[.val (.int i0), .val (.int i1), .val (.int i2), .val (.int i3), .val (.int i4), .val (.int i5), .val (.int v1), .val (.int v2), .val (.int fl), .val (.int v5), .val (.int v6), .val (.int v7), .val (.int v8), .val (.int v9), .val (.int v10), .val (.int rv), .val (.int lv), .val (.int z0), .val (.int z1), .val (.int z2), .val (.int z3), .val (.ref b14), .val (.ref b19), .val (.int v21), .unset, .val (.int stv), .val (.int ivv), .val (.int mkv), .val (.int v28), .val (.int (v63 + (-1 : Int32))), .unset, .unset, .unset]) rfl ?_
                      generalize h_v72 : (v63 + (-1 : Int32)) = v72
                      refine px_iload S27 at_440 rfl rfl ?_
                      refine px_iconst (v := (2 : Int32)) S27 at_442 rfl rfl ?_
                      refine px_icmp S27 at_443 (by decide) (pc' := 464) rfl rfl (fun (hc73 : v9.toInt ≤ (2 : Int32).toInt) => ?_) (fun (hc73 : v9.toInt > (2 : Int32).toInt) => ?_)
                      · have t0 := dec1 h_v63 ek (by omega) (by omega)
                        have t1 := dec1 h_v72 t0 (by omega) (by omega)
                        exact J29 v72 _ _ S27 ⟨A_s, by (try dsimp only); have qr := rk_of (ok_of hN hM3 hSm) (dd_1 (N := N) (k := kkM N S) (i := 0) (m := M) (by have q0 : (1 : Int32).toInt = 1 := rfl; have q1 : (2 : Int32).toInt = 2 := rfl; omega) (by have q0 : (1 : Int32).toInt = 1 := rfl; have q1 : (2 : Int32).toInt = 2 := rfl; omega)) (dd_1 (N := N) (k := kkM N S) (i := 1) (m := M) (by have q0 : (1 : Int32).toInt = 1 := rfl; have q1 : (2 : Int32).toInt = 2 := rfl; omega) (by have q0 : (1 : Int32).toInt = 1 := rfl; have q1 : (2 : Int32).toInt = 2 := rfl; omega)) (dd_m (N := N) (k := kkM N S) (i := 2) (m := M) (by have q0 : (1 : Int32).toInt = 1 := rfl; have q1 : (2 : Int32).toInt = 2 := rfl; omega)); omega⟩
                      · refine px_iload S27 at_446 rfl rfl ?_
                        refine px_iconst (v := (3 : Int32)) S27 at_448 rfl rfl ?_
                        refine px_isub S27 at_449 rfl ?_
                        refine px_iload S27 at_450 rfl rfl ?_
                        refine px_imul S27 at_452 rfl ?_
                        refine px_iload S27 at_453 rfl rfl ?_
                        refine px_iand S27 at_455 rfl ?_
                        have k2_ : (((v2 - (3 : Int32)) * ivv) &&& mkv).toInt = (kkM N (N - (2 + 1)) : Int) := HH (v2 - (3 : Int32)) (N - (2 + 1)) (sub_nn ev (show (3 : Int32).toInt = ((2 + 1 : Nat) : Int) from rfl) (by omega) (by omega))
                        refine px_iload S27 at_456 rfl rfl ?_
                        refine px_icmp S27 at_458 (by decide) (pc' := 464) rfl rfl (fun (hc74 : (((v2 - (3 : Int32)) * ivv) &&& mkv).toInt ≥ v28.toInt) => ?_) (fun (hc74 : (((v2 - (3 : Int32)) * ivv) &&& mkv).toInt < v28.toInt) => ?_)
                        · have t0 := dec1 h_v63 ek (by omega) (by omega)
                          have t1 := dec1 h_v72 t0 (by omega) (by omega)
                          exact J29 v72 _ _ S27 ⟨A_s, by (try dsimp only); have qr := rk_of (ok_of hN hM3 hSm) (dd_1 (N := N) (k := kkM N S) (i := 0) (m := M) (by have q0 : (1 : Int32).toInt = 1 := rfl; have q1 : (2 : Int32).toInt = 2 := rfl; omega) (by have q0 : (1 : Int32).toInt = 1 := rfl; have q1 : (2 : Int32).toInt = 2 := rfl; omega)) (dd_1 (N := N) (k := kkM N S) (i := 1) (m := M) (by have q0 : (1 : Int32).toInt = 1 := rfl; have q1 : (2 : Int32).toInt = 2 := rfl; omega) (by have q0 : (1 : Int32).toInt = 1 := rfl; have q1 : (2 : Int32).toInt = 2 := rfl; omega)) (dd_g (N := N) (k := kkM N S) (i := 2) (m := M) (by have q0 : (1 : Int32).toInt = 1 := rfl; have q1 : (2 : Int32).toInt = 2 := rfl; omega)); omega⟩
                        · refine px_iinc (v := (-1 : Int32)) (r := (v72 + (-1 : Int32))) S27 at_461 rfl rfl rfl rfl (L' := #[.val (.int i0), .val (.int i1), .val (.int i2), .val (.int i3), .val (.int i4), .val (.int i5), .val (.int v1), .val (.int v2), .val (.int fl), .val (.int v5), .val (.int v6), .val (.int v7), .val (.int v8), .val (.int v9), .val (.int v10), .val (.int rv), .val (.int lv), .val (.int z0), .val (.int z1), .val (.int z2), .val (.int z3), .val (.ref b14), .val (.ref b19), .val (.int v21), .unset, .val (.int stv), .val (.int ivv), .val (.int mkv), .val (.int v28), .val (.int (v72 + (-1 : Int32))), .unset, .unset, .unset]) rfl ?_
                          generalize h_v75 : (v72 + (-1 : Int32)) = v75
                          have t0 := dec1 h_v63 ek (by omega) (by omega)
                          have t1 := dec1 h_v72 t0 (by omega) (by omega)
                          have t2 := dec1 h_v75 t1 (by omega) (by omega)
                          exact J29 v75 _ _ S27 ⟨A_s, by (try dsimp only); have qr := rk_of (ok_of hN hM3 hSm) (dd_1 (N := N) (k := kkM N S) (i := 0) (m := M) (by have q0 : (1 : Int32).toInt = 1 := rfl; have q1 : (2 : Int32).toInt = 2 := rfl; omega) (by have q0 : (1 : Int32).toInt = 1 := rfl; have q1 : (2 : Int32).toInt = 2 := rfl; omega)) (dd_1 (N := N) (k := kkM N S) (i := 1) (m := M) (by have q0 : (1 : Int32).toInt = 1 := rfl; have q1 : (2 : Int32).toInt = 2 := rfl; omega) (by have q0 : (1 : Int32).toInt = 1 := rfl; have q1 : (2 : Int32).toInt = 2 := rfl; omega)) (dd_1 (N := N) (k := kkM N S) (i := 2) (m := M) (by have q0 : (1 : Int32).toInt = 1 := rfl; have q1 : (2 : Int32).toInt = 2 := rfl; omega) (by have q0 : (1 : Int32).toInt = 1 := rfl; have q1 : (2 : Int32).toInt = 2 := rfl; omega)); omega⟩
          · refine px_iload S20 at_332 rfl rfl ?_
            have hN' := hN
            unfold IsN at hN'
            rcases (show v2.toInt = 32 ∨ v2.toInt = 64 ∨ v2.toInt = 128 ∨ v2.toInt = 256 ∨ v2.toInt = 512 from by have q0 := rng32 v2; omega) with e76 | e76 | e76 | e76 | e76
            · obtain rfl : v2 = (32 : Int32) := i32_of e76 rfl
              obtain rfl : N = 32 := by have q : (32 : Int32).toInt = 32 := rfl; omega
              refine px_iconst (v := (1 : Int32)) S20 at_334 rfl rfl ?_
              refine px_iushr S20 at_335 rfl ?_
              rw [show (ushr (32 : Int32) (1 : Int32)) = (16 : Int32) from by decide]
              refine px_iload S20 at_336 rfl rfl ?_
              refine px_iconst (v := (3 : Int32)) S20 at_338 rfl rfl ?_
              refine px_iushr S20 at_339 rfl ?_
              rw [show (ushr (32 : Int32) (3 : Int32)) = (4 : Int32) from by decide]
              refine px_iadd S20 at_340 rfl ?_
              rw [show ((16 : Int32) + (4 : Int32)) = (20 : Int32) from by decide]
              refine px_iconst (v := (3 : Int32)) S20 at_341 rfl rfl ?_
              refine px_iadd S20 at_342 rfl ?_
              rw [show ((20 : Int32) + (3 : Int32)) = (23 : Int32) from by decide]
              refine px_istore S20 at_343 rfl (L' := #[.val (.int i0), .val (.int i1), .val (.int i2), .val (.int i3), .val (.int i4), .val (.int i5), .val (.int v1), .val (.int (32 : Int32)), .val (.int fl), .val (.int v5), .val (.int v6), .val (.int v7), .val (.int v8), .val (.int v9), .val (.int v10), .val (.int rv), .val (.int lv), .val (.int z0), .val (.int z1), .val (.int z2), .val (.int z3), .val (.ref b14), .val (.ref b19), .val (.int v21), .unset, .val (.int (23 : Int32)), .unset, .unset, .unset, .unset, .unset, .unset, .unset]) rfl ?_
              refine px_iload S20 at_345 rfl rfl ?_
              refine px_istore S20 at_347 rfl (L' := #[.val (.int i0), .val (.int i1), .val (.int i2), .val (.int i3), .val (.int i4), .val (.int i5), .val (.int v1), .val (.int (32 : Int32)), .val (.int fl), .val (.int v5), .val (.int v6), .val (.int v7), .val (.int v8), .val (.int v9), .val (.int v10), .val (.int rv), .val (.int lv), .val (.int z0), .val (.int z1), .val (.int z2), .val (.int z3), .val (.ref b14), .val (.ref b19), .val (.int v21), .unset, .val (.int (23 : Int32)), .val (.int (23 : Int32)), .unset, .unset, .unset, .unset, .unset, .unset]) rfl ?_
              refine px_iload S20 at_349 rfl rfl ?_
              refine px_iconst (v := (2 : Int32)) S20 at_351 rfl rfl ?_
              refine px_iload S20 at_352 rfl rfl ?_
              refine px_iload S20 at_354 rfl rfl ?_
              refine px_imul S20 at_356 rfl ?_
              rw [show ((23 : Int32) * (23 : Int32)) = (529 : Int32) from by decide]
              refine px_isub S20 at_357 rfl ?_
              rw [show ((2 : Int32) - (529 : Int32)) = (-527 : Int32) from by decide]
              refine px_imul S20 at_358 rfl ?_
              rw [show ((23 : Int32) * (-527 : Int32)) = (-12121 : Int32) from by decide]
              refine px_istore S20 at_359 rfl (L' := #[.val (.int i0), .val (.int i1), .val (.int i2), .val (.int i3), .val (.int i4), .val (.int i5), .val (.int v1), .val (.int (32 : Int32)), .val (.int fl), .val (.int v5), .val (.int v6), .val (.int v7), .val (.int v8), .val (.int v9), .val (.int v10), .val (.int rv), .val (.int lv), .val (.int z0), .val (.int z1), .val (.int z2), .val (.int z3), .val (.ref b14), .val (.ref b19), .val (.int v21), .unset, .val (.int (23 : Int32)), .val (.int (-12121 : Int32)), .unset, .unset, .unset, .unset, .unset, .unset]) rfl ?_
              refine px_iload S20 at_361 rfl rfl ?_
              refine px_iconst (v := (2 : Int32)) S20 at_363 rfl rfl ?_
              refine px_iload S20 at_364 rfl rfl ?_
              refine px_iload S20 at_366 rfl rfl ?_
              refine px_imul S20 at_368 rfl ?_
              rw [show ((23 : Int32) * (-12121 : Int32)) = (-278783 : Int32) from by decide]
              refine px_isub S20 at_369 rfl ?_
              rw [show ((2 : Int32) - (-278783 : Int32)) = (278785 : Int32) from by decide]
              refine px_imul S20 at_370 rfl ?_
              rw [show ((-12121 : Int32) * (278785 : Int32)) = (915814311 : Int32) from by decide]
              refine px_istore S20 at_371 rfl (L' := #[.val (.int i0), .val (.int i1), .val (.int i2), .val (.int i3), .val (.int i4), .val (.int i5), .val (.int v1), .val (.int (32 : Int32)), .val (.int fl), .val (.int v5), .val (.int v6), .val (.int v7), .val (.int v8), .val (.int v9), .val (.int v10), .val (.int rv), .val (.int lv), .val (.int z0), .val (.int z1), .val (.int z2), .val (.int z3), .val (.ref b14), .val (.ref b19), .val (.int v21), .unset, .val (.int (23 : Int32)), .val (.int (915814311 : Int32)), .unset, .unset, .unset, .unset, .unset, .unset]) rfl ?_
              refine px_iload S20 at_373 rfl rfl ?_
              refine px_iconst (v := (1 : Int32)) S20 at_375 rfl rfl ?_
              refine px_isub S20 at_376 rfl ?_
              rw [show ((32 : Int32) - (1 : Int32)) = (31 : Int32) from by decide]
              refine px_istore S20 at_377 rfl (L' := #[.val (.int i0), .val (.int i1), .val (.int i2), .val (.int i3), .val (.int i4), .val (.int i5), .val (.int v1), .val (.int (32 : Int32)), .val (.int fl), .val (.int v5), .val (.int v6), .val (.int v7), .val (.int v8), .val (.int v9), .val (.int v10), .val (.int rv), .val (.int lv), .val (.int z0), .val (.int z1), .val (.int z2), .val (.int z3), .val (.ref b14), .val (.ref b19), .val (.int v21), .unset, .val (.int (23 : Int32)), .val (.int (915814311 : Int32)), .val (.int (31 : Int32)), .unset, .unset, .unset, .unset, .unset]) rfl ?_
              exact J26 ((23 : Int32), (915814311 : Int32), (31 : Int32)) _ _ S20 ⟨A_s, mk_32⟩
            · obtain rfl : v2 = (64 : Int32) := i32_of e76 rfl
              obtain rfl : N = 64 := by have q : (64 : Int32).toInt = 64 := rfl; omega
              refine px_iconst (v := (1 : Int32)) S20 at_334 rfl rfl ?_
              refine px_iushr S20 at_335 rfl ?_
              rw [show (ushr (64 : Int32) (1 : Int32)) = (32 : Int32) from by decide]
              refine px_iload S20 at_336 rfl rfl ?_
              refine px_iconst (v := (3 : Int32)) S20 at_338 rfl rfl ?_
              refine px_iushr S20 at_339 rfl ?_
              rw [show (ushr (64 : Int32) (3 : Int32)) = (8 : Int32) from by decide]
              refine px_iadd S20 at_340 rfl ?_
              rw [show ((32 : Int32) + (8 : Int32)) = (40 : Int32) from by decide]
              refine px_iconst (v := (3 : Int32)) S20 at_341 rfl rfl ?_
              refine px_iadd S20 at_342 rfl ?_
              rw [show ((40 : Int32) + (3 : Int32)) = (43 : Int32) from by decide]
              refine px_istore S20 at_343 rfl (L' := #[.val (.int i0), .val (.int i1), .val (.int i2), .val (.int i3), .val (.int i4), .val (.int i5), .val (.int v1), .val (.int (64 : Int32)), .val (.int fl), .val (.int v5), .val (.int v6), .val (.int v7), .val (.int v8), .val (.int v9), .val (.int v10), .val (.int rv), .val (.int lv), .val (.int z0), .val (.int z1), .val (.int z2), .val (.int z3), .val (.ref b14), .val (.ref b19), .val (.int v21), .unset, .val (.int (43 : Int32)), .unset, .unset, .unset, .unset, .unset, .unset, .unset]) rfl ?_
              refine px_iload S20 at_345 rfl rfl ?_
              refine px_istore S20 at_347 rfl (L' := #[.val (.int i0), .val (.int i1), .val (.int i2), .val (.int i3), .val (.int i4), .val (.int i5), .val (.int v1), .val (.int (64 : Int32)), .val (.int fl), .val (.int v5), .val (.int v6), .val (.int v7), .val (.int v8), .val (.int v9), .val (.int v10), .val (.int rv), .val (.int lv), .val (.int z0), .val (.int z1), .val (.int z2), .val (.int z3), .val (.ref b14), .val (.ref b19), .val (.int v21), .unset, .val (.int (43 : Int32)), .val (.int (43 : Int32)), .unset, .unset, .unset, .unset, .unset, .unset]) rfl ?_
              refine px_iload S20 at_349 rfl rfl ?_
              refine px_iconst (v := (2 : Int32)) S20 at_351 rfl rfl ?_
              refine px_iload S20 at_352 rfl rfl ?_
              refine px_iload S20 at_354 rfl rfl ?_
              refine px_imul S20 at_356 rfl ?_
              rw [show ((43 : Int32) * (43 : Int32)) = (1849 : Int32) from by decide]
              refine px_isub S20 at_357 rfl ?_
              rw [show ((2 : Int32) - (1849 : Int32)) = (-1847 : Int32) from by decide]
              refine px_imul S20 at_358 rfl ?_
              rw [show ((43 : Int32) * (-1847 : Int32)) = (-79421 : Int32) from by decide]
              refine px_istore S20 at_359 rfl (L' := #[.val (.int i0), .val (.int i1), .val (.int i2), .val (.int i3), .val (.int i4), .val (.int i5), .val (.int v1), .val (.int (64 : Int32)), .val (.int fl), .val (.int v5), .val (.int v6), .val (.int v7), .val (.int v8), .val (.int v9), .val (.int v10), .val (.int rv), .val (.int lv), .val (.int z0), .val (.int z1), .val (.int z2), .val (.int z3), .val (.ref b14), .val (.ref b19), .val (.int v21), .unset, .val (.int (43 : Int32)), .val (.int (-79421 : Int32)), .unset, .unset, .unset, .unset, .unset, .unset]) rfl ?_
              refine px_iload S20 at_361 rfl rfl ?_
              refine px_iconst (v := (2 : Int32)) S20 at_363 rfl rfl ?_
              refine px_iload S20 at_364 rfl rfl ?_
              refine px_iload S20 at_366 rfl rfl ?_
              refine px_imul S20 at_368 rfl ?_
              rw [show ((43 : Int32) * (-79421 : Int32)) = (-3415103 : Int32) from by decide]
              refine px_isub S20 at_369 rfl ?_
              rw [show ((2 : Int32) - (-3415103 : Int32)) = (3415105 : Int32) from by decide]
              refine px_imul S20 at_370 rfl ?_
              rw [show ((-79421 : Int32) * (3415105 : Int32)) = (-648114557 : Int32) from by decide]
              refine px_istore S20 at_371 rfl (L' := #[.val (.int i0), .val (.int i1), .val (.int i2), .val (.int i3), .val (.int i4), .val (.int i5), .val (.int v1), .val (.int (64 : Int32)), .val (.int fl), .val (.int v5), .val (.int v6), .val (.int v7), .val (.int v8), .val (.int v9), .val (.int v10), .val (.int rv), .val (.int lv), .val (.int z0), .val (.int z1), .val (.int z2), .val (.int z3), .val (.ref b14), .val (.ref b19), .val (.int v21), .unset, .val (.int (43 : Int32)), .val (.int (-648114557 : Int32)), .unset, .unset, .unset, .unset, .unset, .unset]) rfl ?_
              refine px_iload S20 at_373 rfl rfl ?_
              refine px_iconst (v := (1 : Int32)) S20 at_375 rfl rfl ?_
              refine px_isub S20 at_376 rfl ?_
              rw [show ((64 : Int32) - (1 : Int32)) = (63 : Int32) from by decide]
              refine px_istore S20 at_377 rfl (L' := #[.val (.int i0), .val (.int i1), .val (.int i2), .val (.int i3), .val (.int i4), .val (.int i5), .val (.int v1), .val (.int (64 : Int32)), .val (.int fl), .val (.int v5), .val (.int v6), .val (.int v7), .val (.int v8), .val (.int v9), .val (.int v10), .val (.int rv), .val (.int lv), .val (.int z0), .val (.int z1), .val (.int z2), .val (.int z3), .val (.ref b14), .val (.ref b19), .val (.int v21), .unset, .val (.int (43 : Int32)), .val (.int (-648114557 : Int32)), .val (.int (63 : Int32)), .unset, .unset, .unset, .unset, .unset]) rfl ?_
              exact J26 ((43 : Int32), (-648114557 : Int32), (63 : Int32)) _ _ S20 ⟨A_s, mk_64⟩
            · obtain rfl : v2 = (128 : Int32) := i32_of e76 rfl
              obtain rfl : N = 128 := by have q : (128 : Int32).toInt = 128 := rfl; omega
              refine px_iconst (v := (1 : Int32)) S20 at_334 rfl rfl ?_
              refine px_iushr S20 at_335 rfl ?_
              rw [show (ushr (128 : Int32) (1 : Int32)) = (64 : Int32) from by decide]
              refine px_iload S20 at_336 rfl rfl ?_
              refine px_iconst (v := (3 : Int32)) S20 at_338 rfl rfl ?_
              refine px_iushr S20 at_339 rfl ?_
              rw [show (ushr (128 : Int32) (3 : Int32)) = (16 : Int32) from by decide]
              refine px_iadd S20 at_340 rfl ?_
              rw [show ((64 : Int32) + (16 : Int32)) = (80 : Int32) from by decide]
              refine px_iconst (v := (3 : Int32)) S20 at_341 rfl rfl ?_
              refine px_iadd S20 at_342 rfl ?_
              rw [show ((80 : Int32) + (3 : Int32)) = (83 : Int32) from by decide]
              refine px_istore S20 at_343 rfl (L' := #[.val (.int i0), .val (.int i1), .val (.int i2), .val (.int i3), .val (.int i4), .val (.int i5), .val (.int v1), .val (.int (128 : Int32)), .val (.int fl), .val (.int v5), .val (.int v6), .val (.int v7), .val (.int v8), .val (.int v9), .val (.int v10), .val (.int rv), .val (.int lv), .val (.int z0), .val (.int z1), .val (.int z2), .val (.int z3), .val (.ref b14), .val (.ref b19), .val (.int v21), .unset, .val (.int (83 : Int32)), .unset, .unset, .unset, .unset, .unset, .unset, .unset]) rfl ?_
              refine px_iload S20 at_345 rfl rfl ?_
              refine px_istore S20 at_347 rfl (L' := #[.val (.int i0), .val (.int i1), .val (.int i2), .val (.int i3), .val (.int i4), .val (.int i5), .val (.int v1), .val (.int (128 : Int32)), .val (.int fl), .val (.int v5), .val (.int v6), .val (.int v7), .val (.int v8), .val (.int v9), .val (.int v10), .val (.int rv), .val (.int lv), .val (.int z0), .val (.int z1), .val (.int z2), .val (.int z3), .val (.ref b14), .val (.ref b19), .val (.int v21), .unset, .val (.int (83 : Int32)), .val (.int (83 : Int32)), .unset, .unset, .unset, .unset, .unset, .unset]) rfl ?_
              refine px_iload S20 at_349 rfl rfl ?_
              refine px_iconst (v := (2 : Int32)) S20 at_351 rfl rfl ?_
              refine px_iload S20 at_352 rfl rfl ?_
              refine px_iload S20 at_354 rfl rfl ?_
              refine px_imul S20 at_356 rfl ?_
              rw [show ((83 : Int32) * (83 : Int32)) = (6889 : Int32) from by decide]
              refine px_isub S20 at_357 rfl ?_
              rw [show ((2 : Int32) - (6889 : Int32)) = (-6887 : Int32) from by decide]
              refine px_imul S20 at_358 rfl ?_
              rw [show ((83 : Int32) * (-6887 : Int32)) = (-571621 : Int32) from by decide]
              refine px_istore S20 at_359 rfl (L' := #[.val (.int i0), .val (.int i1), .val (.int i2), .val (.int i3), .val (.int i4), .val (.int i5), .val (.int v1), .val (.int (128 : Int32)), .val (.int fl), .val (.int v5), .val (.int v6), .val (.int v7), .val (.int v8), .val (.int v9), .val (.int v10), .val (.int rv), .val (.int lv), .val (.int z0), .val (.int z1), .val (.int z2), .val (.int z3), .val (.ref b14), .val (.ref b19), .val (.int v21), .unset, .val (.int (83 : Int32)), .val (.int (-571621 : Int32)), .unset, .unset, .unset, .unset, .unset, .unset]) rfl ?_
              refine px_iload S20 at_361 rfl rfl ?_
              refine px_iconst (v := (2 : Int32)) S20 at_363 rfl rfl ?_
              refine px_iload S20 at_364 rfl rfl ?_
              refine px_iload S20 at_366 rfl rfl ?_
              refine px_imul S20 at_368 rfl ?_
              rw [show ((83 : Int32) * (-571621 : Int32)) = (-47444543 : Int32) from by decide]
              refine px_isub S20 at_369 rfl ?_
              rw [show ((2 : Int32) - (-47444543 : Int32)) = (47444545 : Int32) from by decide]
              refine px_imul S20 at_370 rfl ?_
              rw [show ((-571621 : Int32) * (47444545 : Int32)) = (-1874750501 : Int32) from by decide]
              refine px_istore S20 at_371 rfl (L' := #[.val (.int i0), .val (.int i1), .val (.int i2), .val (.int i3), .val (.int i4), .val (.int i5), .val (.int v1), .val (.int (128 : Int32)), .val (.int fl), .val (.int v5), .val (.int v6), .val (.int v7), .val (.int v8), .val (.int v9), .val (.int v10), .val (.int rv), .val (.int lv), .val (.int z0), .val (.int z1), .val (.int z2), .val (.int z3), .val (.ref b14), .val (.ref b19), .val (.int v21), .unset, .val (.int (83 : Int32)), .val (.int (-1874750501 : Int32)), .unset, .unset, .unset, .unset, .unset, .unset]) rfl ?_
              refine px_iload S20 at_373 rfl rfl ?_
              refine px_iconst (v := (1 : Int32)) S20 at_375 rfl rfl ?_
              refine px_isub S20 at_376 rfl ?_
              rw [show ((128 : Int32) - (1 : Int32)) = (127 : Int32) from by decide]
              refine px_istore S20 at_377 rfl (L' := #[.val (.int i0), .val (.int i1), .val (.int i2), .val (.int i3), .val (.int i4), .val (.int i5), .val (.int v1), .val (.int (128 : Int32)), .val (.int fl), .val (.int v5), .val (.int v6), .val (.int v7), .val (.int v8), .val (.int v9), .val (.int v10), .val (.int rv), .val (.int lv), .val (.int z0), .val (.int z1), .val (.int z2), .val (.int z3), .val (.ref b14), .val (.ref b19), .val (.int v21), .unset, .val (.int (83 : Int32)), .val (.int (-1874750501 : Int32)), .val (.int (127 : Int32)), .unset, .unset, .unset, .unset, .unset]) rfl ?_
              exact J26 ((83 : Int32), (-1874750501 : Int32), (127 : Int32)) _ _ S20 ⟨A_s, mk_128⟩
            · obtain rfl : v2 = (256 : Int32) := i32_of e76 rfl
              obtain rfl : N = 256 := by have q : (256 : Int32).toInt = 256 := rfl; omega
              refine px_iconst (v := (1 : Int32)) S20 at_334 rfl rfl ?_
              refine px_iushr S20 at_335 rfl ?_
              rw [show (ushr (256 : Int32) (1 : Int32)) = (128 : Int32) from by decide]
              refine px_iload S20 at_336 rfl rfl ?_
              refine px_iconst (v := (3 : Int32)) S20 at_338 rfl rfl ?_
              refine px_iushr S20 at_339 rfl ?_
              rw [show (ushr (256 : Int32) (3 : Int32)) = (32 : Int32) from by decide]
              refine px_iadd S20 at_340 rfl ?_
              rw [show ((128 : Int32) + (32 : Int32)) = (160 : Int32) from by decide]
              refine px_iconst (v := (3 : Int32)) S20 at_341 rfl rfl ?_
              refine px_iadd S20 at_342 rfl ?_
              rw [show ((160 : Int32) + (3 : Int32)) = (163 : Int32) from by decide]
              refine px_istore S20 at_343 rfl (L' := #[.val (.int i0), .val (.int i1), .val (.int i2), .val (.int i3), .val (.int i4), .val (.int i5), .val (.int v1), .val (.int (256 : Int32)), .val (.int fl), .val (.int v5), .val (.int v6), .val (.int v7), .val (.int v8), .val (.int v9), .val (.int v10), .val (.int rv), .val (.int lv), .val (.int z0), .val (.int z1), .val (.int z2), .val (.int z3), .val (.ref b14), .val (.ref b19), .val (.int v21), .unset, .val (.int (163 : Int32)), .unset, .unset, .unset, .unset, .unset, .unset, .unset]) rfl ?_
              refine px_iload S20 at_345 rfl rfl ?_
              refine px_istore S20 at_347 rfl (L' := #[.val (.int i0), .val (.int i1), .val (.int i2), .val (.int i3), .val (.int i4), .val (.int i5), .val (.int v1), .val (.int (256 : Int32)), .val (.int fl), .val (.int v5), .val (.int v6), .val (.int v7), .val (.int v8), .val (.int v9), .val (.int v10), .val (.int rv), .val (.int lv), .val (.int z0), .val (.int z1), .val (.int z2), .val (.int z3), .val (.ref b14), .val (.ref b19), .val (.int v21), .unset, .val (.int (163 : Int32)), .val (.int (163 : Int32)), .unset, .unset, .unset, .unset, .unset, .unset]) rfl ?_
              refine px_iload S20 at_349 rfl rfl ?_
              refine px_iconst (v := (2 : Int32)) S20 at_351 rfl rfl ?_
              refine px_iload S20 at_352 rfl rfl ?_
              refine px_iload S20 at_354 rfl rfl ?_
              refine px_imul S20 at_356 rfl ?_
              rw [show ((163 : Int32) * (163 : Int32)) = (26569 : Int32) from by decide]
              refine px_isub S20 at_357 rfl ?_
              rw [show ((2 : Int32) - (26569 : Int32)) = (-26567 : Int32) from by decide]
              refine px_imul S20 at_358 rfl ?_
              rw [show ((163 : Int32) * (-26567 : Int32)) = (-4330421 : Int32) from by decide]
              refine px_istore S20 at_359 rfl (L' := #[.val (.int i0), .val (.int i1), .val (.int i2), .val (.int i3), .val (.int i4), .val (.int i5), .val (.int v1), .val (.int (256 : Int32)), .val (.int fl), .val (.int v5), .val (.int v6), .val (.int v7), .val (.int v8), .val (.int v9), .val (.int v10), .val (.int rv), .val (.int lv), .val (.int z0), .val (.int z1), .val (.int z2), .val (.int z3), .val (.ref b14), .val (.ref b19), .val (.int v21), .unset, .val (.int (163 : Int32)), .val (.int (-4330421 : Int32)), .unset, .unset, .unset, .unset, .unset, .unset]) rfl ?_
              refine px_iload S20 at_361 rfl rfl ?_
              refine px_iconst (v := (2 : Int32)) S20 at_363 rfl rfl ?_
              refine px_iload S20 at_364 rfl rfl ?_
              refine px_iload S20 at_366 rfl rfl ?_
              refine px_imul S20 at_368 rfl ?_
              rw [show ((163 : Int32) * (-4330421 : Int32)) = (-705858623 : Int32) from by decide]
              refine px_isub S20 at_369 rfl ?_
              rw [show ((2 : Int32) - (-705858623 : Int32)) = (705858625 : Int32) from by decide]
              refine px_imul S20 at_370 rfl ?_
              rw [show ((-4330421 : Int32) * (705858625 : Int32)) = (-1212677365 : Int32) from by decide]
              refine px_istore S20 at_371 rfl (L' := #[.val (.int i0), .val (.int i1), .val (.int i2), .val (.int i3), .val (.int i4), .val (.int i5), .val (.int v1), .val (.int (256 : Int32)), .val (.int fl), .val (.int v5), .val (.int v6), .val (.int v7), .val (.int v8), .val (.int v9), .val (.int v10), .val (.int rv), .val (.int lv), .val (.int z0), .val (.int z1), .val (.int z2), .val (.int z3), .val (.ref b14), .val (.ref b19), .val (.int v21), .unset, .val (.int (163 : Int32)), .val (.int (-1212677365 : Int32)), .unset, .unset, .unset, .unset, .unset, .unset]) rfl ?_
              refine px_iload S20 at_373 rfl rfl ?_
              refine px_iconst (v := (1 : Int32)) S20 at_375 rfl rfl ?_
              refine px_isub S20 at_376 rfl ?_
              rw [show ((256 : Int32) - (1 : Int32)) = (255 : Int32) from by decide]
              refine px_istore S20 at_377 rfl (L' := #[.val (.int i0), .val (.int i1), .val (.int i2), .val (.int i3), .val (.int i4), .val (.int i5), .val (.int v1), .val (.int (256 : Int32)), .val (.int fl), .val (.int v5), .val (.int v6), .val (.int v7), .val (.int v8), .val (.int v9), .val (.int v10), .val (.int rv), .val (.int lv), .val (.int z0), .val (.int z1), .val (.int z2), .val (.int z3), .val (.ref b14), .val (.ref b19), .val (.int v21), .unset, .val (.int (163 : Int32)), .val (.int (-1212677365 : Int32)), .val (.int (255 : Int32)), .unset, .unset, .unset, .unset, .unset]) rfl ?_
              exact J26 ((163 : Int32), (-1212677365 : Int32), (255 : Int32)) _ _ S20 ⟨A_s, mk_256⟩
            · obtain rfl : v2 = (512 : Int32) := i32_of e76 rfl
              obtain rfl : N = 512 := by have q : (512 : Int32).toInt = 512 := rfl; omega
              refine px_iconst (v := (1 : Int32)) S20 at_334 rfl rfl ?_
              refine px_iushr S20 at_335 rfl ?_
              rw [show (ushr (512 : Int32) (1 : Int32)) = (256 : Int32) from by decide]
              refine px_iload S20 at_336 rfl rfl ?_
              refine px_iconst (v := (3 : Int32)) S20 at_338 rfl rfl ?_
              refine px_iushr S20 at_339 rfl ?_
              rw [show (ushr (512 : Int32) (3 : Int32)) = (64 : Int32) from by decide]
              refine px_iadd S20 at_340 rfl ?_
              rw [show ((256 : Int32) + (64 : Int32)) = (320 : Int32) from by decide]
              refine px_iconst (v := (3 : Int32)) S20 at_341 rfl rfl ?_
              refine px_iadd S20 at_342 rfl ?_
              rw [show ((320 : Int32) + (3 : Int32)) = (323 : Int32) from by decide]
              refine px_istore S20 at_343 rfl (L' := #[.val (.int i0), .val (.int i1), .val (.int i2), .val (.int i3), .val (.int i4), .val (.int i5), .val (.int v1), .val (.int (512 : Int32)), .val (.int fl), .val (.int v5), .val (.int v6), .val (.int v7), .val (.int v8), .val (.int v9), .val (.int v10), .val (.int rv), .val (.int lv), .val (.int z0), .val (.int z1), .val (.int z2), .val (.int z3), .val (.ref b14), .val (.ref b19), .val (.int v21), .unset, .val (.int (323 : Int32)), .unset, .unset, .unset, .unset, .unset, .unset, .unset]) rfl ?_
              refine px_iload S20 at_345 rfl rfl ?_
              refine px_istore S20 at_347 rfl (L' := #[.val (.int i0), .val (.int i1), .val (.int i2), .val (.int i3), .val (.int i4), .val (.int i5), .val (.int v1), .val (.int (512 : Int32)), .val (.int fl), .val (.int v5), .val (.int v6), .val (.int v7), .val (.int v8), .val (.int v9), .val (.int v10), .val (.int rv), .val (.int lv), .val (.int z0), .val (.int z1), .val (.int z2), .val (.int z3), .val (.ref b14), .val (.ref b19), .val (.int v21), .unset, .val (.int (323 : Int32)), .val (.int (323 : Int32)), .unset, .unset, .unset, .unset, .unset, .unset]) rfl ?_
              refine px_iload S20 at_349 rfl rfl ?_
              refine px_iconst (v := (2 : Int32)) S20 at_351 rfl rfl ?_
              refine px_iload S20 at_352 rfl rfl ?_
              refine px_iload S20 at_354 rfl rfl ?_
              refine px_imul S20 at_356 rfl ?_
              rw [show ((323 : Int32) * (323 : Int32)) = (104329 : Int32) from by decide]
              refine px_isub S20 at_357 rfl ?_
              rw [show ((2 : Int32) - (104329 : Int32)) = (-104327 : Int32) from by decide]
              refine px_imul S20 at_358 rfl ?_
              rw [show ((323 : Int32) * (-104327 : Int32)) = (-33697621 : Int32) from by decide]
              refine px_istore S20 at_359 rfl (L' := #[.val (.int i0), .val (.int i1), .val (.int i2), .val (.int i3), .val (.int i4), .val (.int i5), .val (.int v1), .val (.int (512 : Int32)), .val (.int fl), .val (.int v5), .val (.int v6), .val (.int v7), .val (.int v8), .val (.int v9), .val (.int v10), .val (.int rv), .val (.int lv), .val (.int z0), .val (.int z1), .val (.int z2), .val (.int z3), .val (.ref b14), .val (.ref b19), .val (.int v21), .unset, .val (.int (323 : Int32)), .val (.int (-33697621 : Int32)), .unset, .unset, .unset, .unset, .unset, .unset]) rfl ?_
              refine px_iload S20 at_361 rfl rfl ?_
              refine px_iconst (v := (2 : Int32)) S20 at_363 rfl rfl ?_
              refine px_iload S20 at_364 rfl rfl ?_
              refine px_iload S20 at_366 rfl rfl ?_
              refine px_imul S20 at_368 rfl ?_
              rw [show ((323 : Int32) * (-33697621 : Int32)) = (2000570305 : Int32) from by decide]
              refine px_isub S20 at_369 rfl ?_
              rw [show ((2 : Int32) - (2000570305 : Int32)) = (-2000570303 : Int32) from by decide]
              refine px_imul S20 at_370 rfl ?_
              rw [show ((-33697621 : Int32) * (-2000570303 : Int32)) = (341304171 : Int32) from by decide]
              refine px_istore S20 at_371 rfl (L' := #[.val (.int i0), .val (.int i1), .val (.int i2), .val (.int i3), .val (.int i4), .val (.int i5), .val (.int v1), .val (.int (512 : Int32)), .val (.int fl), .val (.int v5), .val (.int v6), .val (.int v7), .val (.int v8), .val (.int v9), .val (.int v10), .val (.int rv), .val (.int lv), .val (.int z0), .val (.int z1), .val (.int z2), .val (.int z3), .val (.ref b14), .val (.ref b19), .val (.int v21), .unset, .val (.int (323 : Int32)), .val (.int (341304171 : Int32)), .unset, .unset, .unset, .unset, .unset, .unset]) rfl ?_
              refine px_iload S20 at_373 rfl rfl ?_
              refine px_iconst (v := (1 : Int32)) S20 at_375 rfl rfl ?_
              refine px_isub S20 at_376 rfl ?_
              rw [show ((512 : Int32) - (1 : Int32)) = (511 : Int32) from by decide]
              refine px_istore S20 at_377 rfl (L' := #[.val (.int i0), .val (.int i1), .val (.int i2), .val (.int i3), .val (.int i4), .val (.int i5), .val (.int v1), .val (.int (512 : Int32)), .val (.int fl), .val (.int v5), .val (.int v6), .val (.int v7), .val (.int v8), .val (.int v9), .val (.int v10), .val (.int rv), .val (.int lv), .val (.int z0), .val (.int z1), .val (.int z2), .val (.int z3), .val (.ref b14), .val (.ref b19), .val (.int v21), .unset, .val (.int (323 : Int32)), .val (.int (341304171 : Int32)), .val (.int (511 : Int32)), .unset, .unset, .unset, .unset, .unset]) rfl ?_
              exact J26 ((323 : Int32), (341304171 : Int32), (511 : Int32)) _ _ S20 ⟨A_s, mk_512⟩
        · refine px_iload S20 at_309 rfl rfl ?_
          refine px_iload S20 at_311 rfl rfl ?_
          refine px_iload S20 at_313 rfl rfl ?_
          refine px_iload S20 at_315 rfl rfl ?_
          refine px_iload S20 at_317 rfl rfl ?_
          refine px_iconst (v := (1 : Int32)) S20 at_319 rfl rfl ?_
          refine px_isub S20 at_320 rfl ?_
          refine px_iload S20 at_321 rfl rfl ?_
          refine px_isub S20 at_323 rfl ?_
          refine px_callS (as' := [(.int v5), (.int v6), (.int v7), (.int v8), (.int ((v2 - (1 : Int32)) - v21))]) (st := []) (W := 0) S20 (c_nth (b0 := b0) (b1 := b1) (b2 := b2) (b3 := b3) (rN := N - 1 - S) hw S20.size en0 en1 en2 en3 hb0 hb1 hb2 hb3 (sub_nn (sub_nn ev (show (1 : Int32).toInt = ((1 : Nat) : Int) from rfl) (by omega) (by omega)) es (by omega) (by omega)) (by omega)) (hw _ (List.mem_of_getElem? (i := 15) rfl)) (hw _ (List.mem_of_getElem? (i := 16) rfl)) (hw _ (List.mem_of_getElem? (i := 3) rfl)) (hw _ (List.mem_of_getElem? (i := 17) rfl)) (by decide) pd_0_2 rfl rfl (by decide) rfl (by decide) (by decide) (by decide) at_324 rfl rfl (fun T77 h77 v77 S77 q77 => ?_)
          obtain ⟨rfl, q77⟩ := q77
          rcases q77 with ⟨rfl, kb, kr⟩ | ⟨rfl, kb, kr⟩ | ⟨rfl, kb, kr⟩ | ⟨rfl, kb, kr⟩
          · show Go _ _ _ _ _ _ _ [(.int (0 : Int32))]
            refine px_istore S77 at_327 rfl (L' := #[.val (.int i0), .val (.int i1), .val (.int i2), .val (.int i3), .val (.int i4), .val (.int i5), .val (.int v1), .val (.int v2), .val (.int fl), .val (.int v5), .val (.int v6), .val (.int v7), .val (.int v8), .val (.int v9), .val (.int v10), .val (.int rv), .val (.int lv), .val (.int z0), .val (.int z1), .val (.int z2), .val (.int z3), .val (.ref b14), .val (.ref b19), .val (.int v21), .val (.int (0 : Int32)), .unset, .unset, .unset, .unset, .unset, .unset, .unset, .unset]) rfl ?_
            refine px_goto S77 at_329 (by decide) (pc' := 533) rfl ?_
            exact J22 ((0 : Int32), .unset, .unset, .unset, .unset, .unset, .unset, .unset, .unset) _ _ S77 ⟨A_s, (by rw [show S = N - 1 - 0 from by omega]; exact (e0 kb).symm), by (try dsimp only); decide, by (try dsimp only); decide⟩
          · show Go _ _ _ _ _ _ _ [(.int (1 : Int32))]
            refine px_istore S77 at_327 rfl (L' := #[.val (.int i0), .val (.int i1), .val (.int i2), .val (.int i3), .val (.int i4), .val (.int i5), .val (.int v1), .val (.int v2), .val (.int fl), .val (.int v5), .val (.int v6), .val (.int v7), .val (.int v8), .val (.int v9), .val (.int v10), .val (.int rv), .val (.int lv), .val (.int z0), .val (.int z1), .val (.int z2), .val (.int z3), .val (.ref b14), .val (.ref b19), .val (.int v21), .val (.int (1 : Int32)), .unset, .unset, .unset, .unset, .unset, .unset, .unset, .unset]) rfl ?_
            refine px_goto S77 at_329 (by decide) (pc' := 533) rfl ?_
            exact J22 ((1 : Int32), .unset, .unset, .unset, .unset, .unset, .unset, .unset, .unset) _ _ S77 ⟨A_s, (by rw [show S = N - 1 - b0 from by omega]; exact (e1 kb).symm), by (try dsimp only); decide, by (try dsimp only); decide⟩
          · show Go _ _ _ _ _ _ _ [(.int (2 : Int32))]
            refine px_istore S77 at_327 rfl (L' := #[.val (.int i0), .val (.int i1), .val (.int i2), .val (.int i3), .val (.int i4), .val (.int i5), .val (.int v1), .val (.int v2), .val (.int fl), .val (.int v5), .val (.int v6), .val (.int v7), .val (.int v8), .val (.int v9), .val (.int v10), .val (.int rv), .val (.int lv), .val (.int z0), .val (.int z1), .val (.int z2), .val (.int z3), .val (.ref b14), .val (.ref b19), .val (.int v21), .val (.int (2 : Int32)), .unset, .unset, .unset, .unset, .unset, .unset, .unset, .unset]) rfl ?_
            refine px_goto S77 at_329 (by decide) (pc' := 533) rfl ?_
            exact J22 ((2 : Int32), .unset, .unset, .unset, .unset, .unset, .unset, .unset, .unset) _ _ S77 ⟨A_s, (by rw [show S = N - 1 - (b0 + b1) from by omega]; exact (e2 kb).symm), by (try dsimp only); decide, by (try dsimp only); decide⟩
          · show Go _ _ _ _ _ _ _ [(.int (3 : Int32))]
            refine px_istore S77 at_327 rfl (L' := #[.val (.int i0), .val (.int i1), .val (.int i2), .val (.int i3), .val (.int i4), .val (.int i5), .val (.int v1), .val (.int v2), .val (.int fl), .val (.int v5), .val (.int v6), .val (.int v7), .val (.int v8), .val (.int v9), .val (.int v10), .val (.int rv), .val (.int lv), .val (.int z0), .val (.int z1), .val (.int z2), .val (.int z3), .val (.ref b14), .val (.ref b19), .val (.int v21), .val (.int (3 : Int32)), .unset, .unset, .unset, .unset, .unset, .unset, .unset, .unset]) rfl ?_
            refine px_goto S77 at_329 (by decide) (pc' := 533) rfl ?_
            exact J22 ((3 : Int32), .unset, .unset, .unset, .unset, .unset, .unset, .unset, .unset) _ _ S77 ⟨A_s, (by rw [show S = N - 1 - (b0 + b1 + b2) from by omega]; exact (e3 kb).symm), by (try dsimp only); decide, by (try dsimp only); decide⟩
    · refine px_iload S0 at_92 rfl rfl ?_
      refine px_if0 S0 at_94 (by decide) (pc' := 101) rfl rfl (fun (hc78 : ¬ v8.toInt = 0) => ?_) (fun (hc78 : v8.toInt = 0) => ?_)
      · refine px_iload S0 at_101 rfl rfl ?_
        refine px_if0 S0 at_103 (by decide) (pc' := 110) rfl rfl (fun (hc79 : ¬ v7.toInt = 0) => ?_) (fun (hc79 : v7.toInt = 0) => ?_)
        · refine px_iload S0 at_110 rfl rfl ?_
          refine px_if0 S0 at_112 (by decide) (pc' := 119) rfl rfl (fun (hc80 : ¬ v6.toInt = 0) => ?_) (fun (hc80 : v6.toInt = 0) => ?_)
          · refine px_iconst (v := (0 : Int32)) S0 at_119 rfl rfl ?_
            refine px_istore S0 at_120 rfl (L' := #[.val (.int i0), .val (.int i1), .val (.int i2), .val (.int i3), .val (.int i4), .val (.int i5), .val (.int v1), .val (.int v2), .val (.int fl), .val (.int v5), .val (.int v6), .val (.int v7), .val (.int v8), .val (.int v9), .val (.int v10), .val (.int v11), .val (.int (0 : Int32)), .unset, .unset, .unset, .unset, .unset, .unset, .unset, .unset, .unset, .unset, .unset, .unset, .unset, .unset, .unset, .unset]) rfl ?_
            refine px_iload S0 at_122 rfl rfl ?_
            refine px_iload S0 at_124 rfl rfl ?_
            refine px_if0 S0 at_126 (by decide) (pc' := 133) rfl rfl (fun (hc81 : ¬ (0 : Int32).toInt = 0) => by exfalso; revert hc81; decide) (fun (hc81 : (0 : Int32).toInt = 0) => ?_)
            refine px_iconst (v := (1 : Int32)) S0 at_129 rfl rfl ?_
            refine px_goto S0 at_130 (by decide) (pc' := 134) rfl ?_
            refine px_iloadN S0 at_134 rfl rfl ?_
            refine px_iload S0 at_135 rfl rfl ?_
            refine px_callS (as' := [(.int v5), (.int (1 : Int32)), (.int i2), (.int v11)]) (st := []) (W := 0) S0 (c_draw (b := b0) (r := (N - M)) hw S0.size en0 hb0 er (by omega)) (hw _ (List.mem_of_getElem? (i := 1) rfl)) (hw _ (List.mem_of_getElem? (i := 2) rfl)) (hw _ (List.mem_of_getElem? (i := 3) rfl)) (hw _ (List.mem_of_getElem? (i := 4) rfl)) (by decide) pd_0_3 rfl rfl (by decide) rfl (by decide) (by decide) (by decide) at_137 rfl rfl (fun T82 h82 v82 S82 q82 => ?_)
            obtain ⟨rfl, z0, q0, rfl, ez0, hq0, lq0, la0⟩ := q82
            replace la0 : b0 = 0 → q0 = (N - M) := fun hb => la0 hb (by decide)
            show Go _ _ _ _ _ _ _ [(.int z0)]
            refine px_istore S82 at_140 rfl (L' := #[.val (.int i0), .val (.int i1), .val (.int i2), .val (.int i3), .val (.int i4), .val (.int i5), .val (.int v1), .val (.int v2), .val (.int fl), .val (.int v5), .val (.int v6), .val (.int v7), .val (.int v8), .val (.int v9), .val (.int v10), .val (.int v11), .val (.int (0 : Int32)), .val (.int z0), .unset, .unset, .unset, .unset, .unset, .unset, .unset, .unset, .unset, .unset, .unset, .unset, .unset, .unset, .unset]) rfl ?_
            refine Go.join (P := fun re1 : Int32 => re1.toInt = ((((N - M) - q0) : Nat) : Int)) (pcj := 154) (Lj := fun re1 => #[.val (.int i0), .val (.int i1), .val (.int i2), .val (.int i3), .val (.int i4), .val (.int i5), .val (.int v1), .val (.int v2), .val (.int fl), .val (.int v5), .val (.int v6), .val (.int v7), .val (.int v8), .val (.int v9), .val (.int v10), .val (.int re1), .val (.int (0 : Int32)), .val (.int z0), .unset, .unset, .unset, .unset, .unset, .unset, .unset, .unset, .unset, .unset, .unset, .unset, .unset, .unset, .unset]) (stj := fun re1 => []) (fun re1 p_re1 => ?_) (fun J83 => ?_)
            · replace ez0 := Hid.mk ez0
              replace hq0 := Hid.mk hq0
              show Go _ _ _ _ _ 154 #[.val (.int i0), .val (.int i1), .val (.int i2), .val (.int i3), .val (.int i4), .val (.int i5), .val (.int v1), .val (.int v2), .val (.int fl), .val (.int v5), .val (.int v6), .val (.int v7), .val (.int v8), .val (.int v9), .val (.int v10), .val (.int re1), .val (.int (0 : Int32)), .val (.int z0), .unset, .unset, .unset, .unset, .unset, .unset, .unset, .unset, .unset, .unset, .unset, .unset, .unset, .unset, .unset] []
              refine px_iload S82 at_154 rfl rfl ?_
              refine px_iload S82 at_156 rfl rfl ?_
              refine px_iconst (v := (1 : Int32)) S82 at_158 rfl rfl ?_
              refine px_icmp S82 at_159 (by decide) (pc' := 166) rfl rfl (fun (hc84 : ¬ (0 : Int32).toInt = (1 : Int32).toInt) => ?_) (fun (hc84 : (0 : Int32).toInt = (1 : Int32).toInt) => by exfalso; revert hc84; decide)
              refine px_iconst (v := (0 : Int32)) S82 at_166 rfl rfl ?_
              refine px_iloadN S82 at_167 rfl rfl ?_
              refine px_iload S82 at_168 rfl rfl ?_
              refine px_callS (as' := [(.int v6), (.int (0 : Int32)), (.int i3), (.int re1)]) (st := []) (W := 0) S82 (c_draw (b := b1) (r := ((N - M) - q0)) hw S82.size en1 hb1 p_re1 (by omega)) (hw _ (List.mem_of_getElem? (i := 1) rfl)) (hw _ (List.mem_of_getElem? (i := 2) rfl)) (hw _ (List.mem_of_getElem? (i := 3) rfl)) (hw _ (List.mem_of_getElem? (i := 4) rfl)) (by decide) pd_0_3 rfl rfl (by decide) rfl (by decide) (by decide) (by decide) at_170 rfl rfl (fun T85 h85 v85 S85 q85 => ?_)
              obtain ⟨rfl, z1, q1, rfl, ez1, hq1, lq1, la1⟩ := q85
              clear la1
              show Go _ _ _ _ _ _ _ [(.int z1)]
              refine px_istore S85 at_173 rfl (L' := #[.val (.int i0), .val (.int i1), .val (.int i2), .val (.int i3), .val (.int i4), .val (.int i5), .val (.int v1), .val (.int v2), .val (.int fl), .val (.int v5), .val (.int v6), .val (.int v7), .val (.int v8), .val (.int v9), .val (.int v10), .val (.int re1), .val (.int (0 : Int32)), .val (.int z0), .val (.int z1), .unset, .unset, .unset, .unset, .unset, .unset, .unset, .unset, .unset, .unset, .unset, .unset, .unset, .unset]) rfl ?_
              refine Go.join (P := fun re2 : Int32 => re2.toInt = (((((N - M) - q0) - q1) : Nat) : Int)) (pcj := 187) (Lj := fun re2 => #[.val (.int i0), .val (.int i1), .val (.int i2), .val (.int i3), .val (.int i4), .val (.int i5), .val (.int v1), .val (.int v2), .val (.int fl), .val (.int v5), .val (.int v6), .val (.int v7), .val (.int v8), .val (.int v9), .val (.int v10), .val (.int re2), .val (.int (0 : Int32)), .val (.int z0), .val (.int z1), .unset, .unset, .unset, .unset, .unset, .unset, .unset, .unset, .unset, .unset, .unset, .unset, .unset, .unset]) (stj := fun re2 => []) (fun re2 p_re2 => ?_) (fun J86 => ?_)
              · replace ez1 := Hid.mk ez1
                replace hq1 := Hid.mk hq1
                show Go _ _ _ _ _ 187 #[.val (.int i0), .val (.int i1), .val (.int i2), .val (.int i3), .val (.int i4), .val (.int i5), .val (.int v1), .val (.int v2), .val (.int fl), .val (.int v5), .val (.int v6), .val (.int v7), .val (.int v8), .val (.int v9), .val (.int v10), .val (.int re2), .val (.int (0 : Int32)), .val (.int z0), .val (.int z1), .unset, .unset, .unset, .unset, .unset, .unset, .unset, .unset, .unset, .unset, .unset, .unset, .unset, .unset] []
                refine px_iload S85 at_187 rfl rfl ?_
                refine px_iload S85 at_189 rfl rfl ?_
                refine px_iconst (v := (2 : Int32)) S85 at_191 rfl rfl ?_
                refine px_icmp S85 at_192 (by decide) (pc' := 199) rfl rfl (fun (hc87 : ¬ (0 : Int32).toInt = (2 : Int32).toInt) => ?_) (fun (hc87 : (0 : Int32).toInt = (2 : Int32).toInt) => by exfalso; revert hc87; decide)
                refine px_iconst (v := (0 : Int32)) S85 at_199 rfl rfl ?_
                refine px_iload S85 at_200 rfl rfl ?_
                refine px_iload S85 at_202 rfl rfl ?_
                refine px_callS (as' := [(.int v7), (.int (0 : Int32)), (.int i4), (.int re2)]) (st := []) (W := 0) S85 (c_draw (b := b2) (r := (((N - M) - q0) - q1)) hw S85.size en2 hb2 p_re2 (by omega)) (hw _ (List.mem_of_getElem? (i := 1) rfl)) (hw _ (List.mem_of_getElem? (i := 2) rfl)) (hw _ (List.mem_of_getElem? (i := 3) rfl)) (hw _ (List.mem_of_getElem? (i := 4) rfl)) (by decide) pd_0_3 rfl rfl (by decide) rfl (by decide) (by decide) (by decide) at_204 rfl rfl (fun T88 h88 v88 S88 q88 => ?_)
                obtain ⟨rfl, z2, q2, rfl, ez2, hq2, lq2, la2⟩ := q88
                clear la2
                show Go _ _ _ _ _ _ _ [(.int z2)]
                refine px_istore S88 at_207 rfl (L' := #[.val (.int i0), .val (.int i1), .val (.int i2), .val (.int i3), .val (.int i4), .val (.int i5), .val (.int v1), .val (.int v2), .val (.int fl), .val (.int v5), .val (.int v6), .val (.int v7), .val (.int v8), .val (.int v9), .val (.int v10), .val (.int re2), .val (.int (0 : Int32)), .val (.int z0), .val (.int z1), .val (.int z2), .unset, .unset, .unset, .unset, .unset, .unset, .unset, .unset, .unset, .unset, .unset, .unset, .unset]) rfl ?_
                refine Go.join (P := fun re3 : Int32 => re3.toInt = ((((((N - M) - q0) - q1) - q2) : Nat) : Int)) (pcj := 221) (Lj := fun re3 => #[.val (.int i0), .val (.int i1), .val (.int i2), .val (.int i3), .val (.int i4), .val (.int i5), .val (.int v1), .val (.int v2), .val (.int fl), .val (.int v5), .val (.int v6), .val (.int v7), .val (.int v8), .val (.int v9), .val (.int v10), .val (.int re3), .val (.int (0 : Int32)), .val (.int z0), .val (.int z1), .val (.int z2), .unset, .unset, .unset, .unset, .unset, .unset, .unset, .unset, .unset, .unset, .unset, .unset, .unset]) (stj := fun re3 => []) (fun re3 p_re3 => ?_) (fun J89 => ?_)
                · replace ez2 := Hid.mk ez2
                  replace hq2 := Hid.mk hq2
                  show Go _ _ _ _ _ 221 #[.val (.int i0), .val (.int i1), .val (.int i2), .val (.int i3), .val (.int i4), .val (.int i5), .val (.int v1), .val (.int v2), .val (.int fl), .val (.int v5), .val (.int v6), .val (.int v7), .val (.int v8), .val (.int v9), .val (.int v10), .val (.int re3), .val (.int (0 : Int32)), .val (.int z0), .val (.int z1), .val (.int z2), .unset, .unset, .unset, .unset, .unset, .unset, .unset, .unset, .unset, .unset, .unset, .unset, .unset] []
                  refine px_iload S88 at_221 rfl rfl ?_
                  refine px_iload S88 at_223 rfl rfl ?_
                  refine px_iconst (v := (3 : Int32)) S88 at_225 rfl rfl ?_
                  refine px_icmp S88 at_226 (by decide) (pc' := 233) rfl rfl (fun (hc90 : ¬ (0 : Int32).toInt = (3 : Int32).toInt) => ?_) (fun (hc90 : (0 : Int32).toInt = (3 : Int32).toInt) => by exfalso; revert hc90; decide)
                  refine px_iconst (v := (0 : Int32)) S88 at_233 rfl rfl ?_
                  refine px_iconst (v := (0 : Int32)) S88 at_234 rfl rfl ?_
                  refine px_iload S88 at_235 rfl rfl ?_
                  refine px_callS (as' := [(.int v8), (.int (0 : Int32)), (.int (0 : Int32)), (.int re3)]) (st := []) (W := 0) S88 (c_draw (b := b3) (r := ((((N - M) - q0) - q1) - q2)) hw S88.size en3 hb3 p_re3 (by omega)) (hw _ (List.mem_of_getElem? (i := 1) rfl)) (hw _ (List.mem_of_getElem? (i := 2) rfl)) (hw _ (List.mem_of_getElem? (i := 3) rfl)) (hw _ (List.mem_of_getElem? (i := 4) rfl)) (by decide) pd_0_3 rfl rfl (by decide) rfl (by decide) (by decide) (by decide) at_237 rfl rfl (fun T91 h91 v91 S91 q91 => ?_)
                  obtain ⟨rfl, z3, q3, rfl, ez3, hq3, lq3, la3⟩ := q91
                  clear la3
                  show Go _ _ _ _ _ _ _ [(.int z3)]
                  refine px_istore S91 at_240 rfl (L' := #[.val (.int i0), .val (.int i1), .val (.int i2), .val (.int i3), .val (.int i4), .val (.int i5), .val (.int v1), .val (.int v2), .val (.int fl), .val (.int v5), .val (.int v6), .val (.int v7), .val (.int v8), .val (.int v9), .val (.int v10), .val (.int re3), .val (.int (0 : Int32)), .val (.int z0), .val (.int z1), .val (.int z2), .val (.int z3), .unset, .unset, .unset, .unset, .unset, .unset, .unset, .unset, .unset, .unset, .unset, .unset]) rfl ?_
                  exact J12 ((0 : Int32), re3, z0, z1, z2, z3, q0, q1, q2, q3) _ _ S91 ⟨ez0, ez1, ez2, Hid.mk ez3, hq0, hq1, hq2, Hid.mk hq3, Hid.mk (by (try dsimp only); have u1 := hq1.out; have u2 := hq2.out; have u3 := hq3; omega)⟩
                · refine px_iload S88 at_209 rfl rfl ?_
                  refine px_if0 S88 at_211 (by decide) (pc' := 221) rfl rfl (fun (hc92 : z2.toInt ≤ 0) => ?_) (fun (hc92 : z2.toInt > 0) => ?_)
                  · exact J89 _ (re_le p_re2 ez2 hb2 hq2 hc92)
                  · refine px_iload S88 at_214 rfl rfl ?_
                    refine px_iload S88 at_216 rfl rfl ?_
                    refine px_isub S88 at_218 rfl ?_
                    generalize h_v93 : (re2 - z2) = v93
                    refine px_istore S88 at_219 rfl (L' := #[.val (.int i0), .val (.int i1), .val (.int i2), .val (.int i3), .val (.int i4), .val (.int i5), .val (.int v1), .val (.int v2), .val (.int fl), .val (.int v5), .val (.int v6), .val (.int v7), .val (.int v8), .val (.int v9), .val (.int v10), .val (.int v93), .val (.int (0 : Int32)), .val (.int z0), .val (.int z1), .val (.int z2), .unset, .unset, .unset, .unset, .unset, .unset, .unset, .unset, .unset, .unset, .unset, .unset, .unset]) rfl ?_
                    exact J89 _ (re_gt h_v93 p_re2 ez2 hb2 hq2 lq2 (by omega) hc92)
              · refine px_iload S85 at_175 rfl rfl ?_
                refine px_if0 S85 at_177 (by decide) (pc' := 187) rfl rfl (fun (hc94 : z1.toInt ≤ 0) => ?_) (fun (hc94 : z1.toInt > 0) => ?_)
                · exact J86 _ (re_le p_re1 ez1 hb1 hq1 hc94)
                · refine px_iload S85 at_180 rfl rfl ?_
                  refine px_iload S85 at_182 rfl rfl ?_
                  refine px_isub S85 at_184 rfl ?_
                  generalize h_v95 : (re1 - z1) = v95
                  refine px_istore S85 at_185 rfl (L' := #[.val (.int i0), .val (.int i1), .val (.int i2), .val (.int i3), .val (.int i4), .val (.int i5), .val (.int v1), .val (.int v2), .val (.int fl), .val (.int v5), .val (.int v6), .val (.int v7), .val (.int v8), .val (.int v9), .val (.int v10), .val (.int v95), .val (.int (0 : Int32)), .val (.int z0), .val (.int z1), .unset, .unset, .unset, .unset, .unset, .unset, .unset, .unset, .unset, .unset, .unset, .unset, .unset, .unset]) rfl ?_
                  exact J86 _ (re_gt h_v95 p_re1 ez1 hb1 hq1 lq1 (by omega) hc94)
            · refine px_iload S82 at_142 rfl rfl ?_
              refine px_if0 S82 at_144 (by decide) (pc' := 154) rfl rfl (fun (hc96 : z0.toInt ≤ 0) => ?_) (fun (hc96 : z0.toInt > 0) => ?_)
              · exact J83 _ (re_le er ez0 hb0 hq0 hc96)
              · refine px_iload S82 at_147 rfl rfl ?_
                refine px_iload S82 at_149 rfl rfl ?_
                refine px_isub S82 at_151 rfl ?_
                generalize h_v97 : (v11 - z0) = v97
                refine px_istore S82 at_152 rfl (L' := #[.val (.int i0), .val (.int i1), .val (.int i2), .val (.int i3), .val (.int i4), .val (.int i5), .val (.int v1), .val (.int v2), .val (.int fl), .val (.int v5), .val (.int v6), .val (.int v7), .val (.int v8), .val (.int v9), .val (.int v10), .val (.int v97), .val (.int (0 : Int32)), .val (.int z0), .unset, .unset, .unset, .unset, .unset, .unset, .unset, .unset, .unset, .unset, .unset, .unset, .unset, .unset, .unset]) rfl ?_
                exact J83 _ (re_gt h_v97 er ez0 hb0 hq0 lq0 (by omega) hc96)
          · refine px_iconst (v := (1 : Int32)) S0 at_115 rfl rfl ?_
            refine px_goto S0 at_116 (by decide) (pc' := 120) rfl ?_
            refine px_istore S0 at_120 rfl (L' := #[.val (.int i0), .val (.int i1), .val (.int i2), .val (.int i3), .val (.int i4), .val (.int i5), .val (.int v1), .val (.int v2), .val (.int fl), .val (.int v5), .val (.int v6), .val (.int v7), .val (.int v8), .val (.int v9), .val (.int v10), .val (.int v11), .val (.int (1 : Int32)), .unset, .unset, .unset, .unset, .unset, .unset, .unset, .unset, .unset, .unset, .unset, .unset, .unset, .unset, .unset, .unset]) rfl ?_
            refine px_iload S0 at_122 rfl rfl ?_
            refine px_iload S0 at_124 rfl rfl ?_
            refine px_if0 S0 at_126 (by decide) (pc' := 133) rfl rfl (fun (hc98 : ¬ (1 : Int32).toInt = 0) => ?_) (fun (hc98 : (1 : Int32).toInt = 0) => by exfalso; revert hc98; decide)
            refine px_iconst (v := (0 : Int32)) S0 at_133 rfl rfl ?_
            refine px_iloadN S0 at_134 rfl rfl ?_
            refine px_iload S0 at_135 rfl rfl ?_
            refine px_callS (as' := [(.int v5), (.int (0 : Int32)), (.int i2), (.int v11)]) (st := []) (W := 0) S0 (c_draw (b := b0) (r := (N - M)) hw S0.size en0 hb0 er (by omega)) (hw _ (List.mem_of_getElem? (i := 1) rfl)) (hw _ (List.mem_of_getElem? (i := 2) rfl)) (hw _ (List.mem_of_getElem? (i := 3) rfl)) (hw _ (List.mem_of_getElem? (i := 4) rfl)) (by decide) pd_0_3 rfl rfl (by decide) rfl (by decide) (by decide) (by decide) at_137 rfl rfl (fun T99 h99 v99 S99 q99 => ?_)
            obtain ⟨rfl, z0, q0, rfl, ez0, hq0, lq0, la0⟩ := q99
            clear la0
            show Go _ _ _ _ _ _ _ [(.int z0)]
            refine px_istore S99 at_140 rfl (L' := #[.val (.int i0), .val (.int i1), .val (.int i2), .val (.int i3), .val (.int i4), .val (.int i5), .val (.int v1), .val (.int v2), .val (.int fl), .val (.int v5), .val (.int v6), .val (.int v7), .val (.int v8), .val (.int v9), .val (.int v10), .val (.int v11), .val (.int (1 : Int32)), .val (.int z0), .unset, .unset, .unset, .unset, .unset, .unset, .unset, .unset, .unset, .unset, .unset, .unset, .unset, .unset, .unset]) rfl ?_
            refine Go.join (P := fun re1 : Int32 => re1.toInt = ((((N - M) - q0) : Nat) : Int)) (pcj := 154) (Lj := fun re1 => #[.val (.int i0), .val (.int i1), .val (.int i2), .val (.int i3), .val (.int i4), .val (.int i5), .val (.int v1), .val (.int v2), .val (.int fl), .val (.int v5), .val (.int v6), .val (.int v7), .val (.int v8), .val (.int v9), .val (.int v10), .val (.int re1), .val (.int (1 : Int32)), .val (.int z0), .unset, .unset, .unset, .unset, .unset, .unset, .unset, .unset, .unset, .unset, .unset, .unset, .unset, .unset, .unset]) (stj := fun re1 => []) (fun re1 p_re1 => ?_) (fun J100 => ?_)
            · replace ez0 := Hid.mk ez0
              replace hq0 := Hid.mk hq0
              show Go _ _ _ _ _ 154 #[.val (.int i0), .val (.int i1), .val (.int i2), .val (.int i3), .val (.int i4), .val (.int i5), .val (.int v1), .val (.int v2), .val (.int fl), .val (.int v5), .val (.int v6), .val (.int v7), .val (.int v8), .val (.int v9), .val (.int v10), .val (.int re1), .val (.int (1 : Int32)), .val (.int z0), .unset, .unset, .unset, .unset, .unset, .unset, .unset, .unset, .unset, .unset, .unset, .unset, .unset, .unset, .unset] []
              refine px_iload S99 at_154 rfl rfl ?_
              refine px_iload S99 at_156 rfl rfl ?_
              refine px_iconst (v := (1 : Int32)) S99 at_158 rfl rfl ?_
              refine px_icmp S99 at_159 (by decide) (pc' := 166) rfl rfl (fun (hc101 : ¬ (1 : Int32).toInt = (1 : Int32).toInt) => absurd rfl hc101) (fun (hc101 : (1 : Int32).toInt = (1 : Int32).toInt) => ?_)
              refine px_iconst (v := (1 : Int32)) S99 at_162 rfl rfl ?_
              refine px_goto S99 at_163 (by decide) (pc' := 167) rfl ?_
              refine px_iloadN S99 at_167 rfl rfl ?_
              refine px_iload S99 at_168 rfl rfl ?_
              refine px_callS (as' := [(.int v6), (.int (1 : Int32)), (.int i3), (.int re1)]) (st := []) (W := 0) S99 (c_draw (b := b1) (r := ((N - M) - q0)) hw S99.size en1 hb1 p_re1 (by omega)) (hw _ (List.mem_of_getElem? (i := 1) rfl)) (hw _ (List.mem_of_getElem? (i := 2) rfl)) (hw _ (List.mem_of_getElem? (i := 3) rfl)) (hw _ (List.mem_of_getElem? (i := 4) rfl)) (by decide) pd_0_3 rfl rfl (by decide) rfl (by decide) (by decide) (by decide) at_170 rfl rfl (fun T102 h102 v102 S102 q102 => ?_)
              obtain ⟨rfl, z1, q1, rfl, ez1, hq1, lq1, la1⟩ := q102
              replace la1 : b1 = 0 → q1 = ((N - M) - q0) := fun hb => la1 hb (by decide)
              show Go _ _ _ _ _ _ _ [(.int z1)]
              refine px_istore S102 at_173 rfl (L' := #[.val (.int i0), .val (.int i1), .val (.int i2), .val (.int i3), .val (.int i4), .val (.int i5), .val (.int v1), .val (.int v2), .val (.int fl), .val (.int v5), .val (.int v6), .val (.int v7), .val (.int v8), .val (.int v9), .val (.int v10), .val (.int re1), .val (.int (1 : Int32)), .val (.int z0), .val (.int z1), .unset, .unset, .unset, .unset, .unset, .unset, .unset, .unset, .unset, .unset, .unset, .unset, .unset, .unset]) rfl ?_
              refine Go.join (P := fun re2 : Int32 => re2.toInt = (((((N - M) - q0) - q1) : Nat) : Int)) (pcj := 187) (Lj := fun re2 => #[.val (.int i0), .val (.int i1), .val (.int i2), .val (.int i3), .val (.int i4), .val (.int i5), .val (.int v1), .val (.int v2), .val (.int fl), .val (.int v5), .val (.int v6), .val (.int v7), .val (.int v8), .val (.int v9), .val (.int v10), .val (.int re2), .val (.int (1 : Int32)), .val (.int z0), .val (.int z1), .unset, .unset, .unset, .unset, .unset, .unset, .unset, .unset, .unset, .unset, .unset, .unset, .unset, .unset]) (stj := fun re2 => []) (fun re2 p_re2 => ?_) (fun J103 => ?_)
              · replace ez1 := Hid.mk ez1
                replace hq1 := Hid.mk hq1
                show Go _ _ _ _ _ 187 #[.val (.int i0), .val (.int i1), .val (.int i2), .val (.int i3), .val (.int i4), .val (.int i5), .val (.int v1), .val (.int v2), .val (.int fl), .val (.int v5), .val (.int v6), .val (.int v7), .val (.int v8), .val (.int v9), .val (.int v10), .val (.int re2), .val (.int (1 : Int32)), .val (.int z0), .val (.int z1), .unset, .unset, .unset, .unset, .unset, .unset, .unset, .unset, .unset, .unset, .unset, .unset, .unset, .unset] []
                refine px_iload S102 at_187 rfl rfl ?_
                refine px_iload S102 at_189 rfl rfl ?_
                refine px_iconst (v := (2 : Int32)) S102 at_191 rfl rfl ?_
                refine px_icmp S102 at_192 (by decide) (pc' := 199) rfl rfl (fun (hc104 : ¬ (1 : Int32).toInt = (2 : Int32).toInt) => ?_) (fun (hc104 : (1 : Int32).toInt = (2 : Int32).toInt) => by exfalso; revert hc104; decide)
                refine px_iconst (v := (0 : Int32)) S102 at_199 rfl rfl ?_
                refine px_iload S102 at_200 rfl rfl ?_
                refine px_iload S102 at_202 rfl rfl ?_
                refine px_callS (as' := [(.int v7), (.int (0 : Int32)), (.int i4), (.int re2)]) (st := []) (W := 0) S102 (c_draw (b := b2) (r := (((N - M) - q0) - q1)) hw S102.size en2 hb2 p_re2 (by omega)) (hw _ (List.mem_of_getElem? (i := 1) rfl)) (hw _ (List.mem_of_getElem? (i := 2) rfl)) (hw _ (List.mem_of_getElem? (i := 3) rfl)) (hw _ (List.mem_of_getElem? (i := 4) rfl)) (by decide) pd_0_3 rfl rfl (by decide) rfl (by decide) (by decide) (by decide) at_204 rfl rfl (fun T105 h105 v105 S105 q105 => ?_)
                obtain ⟨rfl, z2, q2, rfl, ez2, hq2, lq2, la2⟩ := q105
                clear la2
                show Go _ _ _ _ _ _ _ [(.int z2)]
                refine px_istore S105 at_207 rfl (L' := #[.val (.int i0), .val (.int i1), .val (.int i2), .val (.int i3), .val (.int i4), .val (.int i5), .val (.int v1), .val (.int v2), .val (.int fl), .val (.int v5), .val (.int v6), .val (.int v7), .val (.int v8), .val (.int v9), .val (.int v10), .val (.int re2), .val (.int (1 : Int32)), .val (.int z0), .val (.int z1), .val (.int z2), .unset, .unset, .unset, .unset, .unset, .unset, .unset, .unset, .unset, .unset, .unset, .unset, .unset]) rfl ?_
                refine Go.join (P := fun re3 : Int32 => re3.toInt = ((((((N - M) - q0) - q1) - q2) : Nat) : Int)) (pcj := 221) (Lj := fun re3 => #[.val (.int i0), .val (.int i1), .val (.int i2), .val (.int i3), .val (.int i4), .val (.int i5), .val (.int v1), .val (.int v2), .val (.int fl), .val (.int v5), .val (.int v6), .val (.int v7), .val (.int v8), .val (.int v9), .val (.int v10), .val (.int re3), .val (.int (1 : Int32)), .val (.int z0), .val (.int z1), .val (.int z2), .unset, .unset, .unset, .unset, .unset, .unset, .unset, .unset, .unset, .unset, .unset, .unset, .unset]) (stj := fun re3 => []) (fun re3 p_re3 => ?_) (fun J106 => ?_)
                · replace ez2 := Hid.mk ez2
                  replace hq2 := Hid.mk hq2
                  show Go _ _ _ _ _ 221 #[.val (.int i0), .val (.int i1), .val (.int i2), .val (.int i3), .val (.int i4), .val (.int i5), .val (.int v1), .val (.int v2), .val (.int fl), .val (.int v5), .val (.int v6), .val (.int v7), .val (.int v8), .val (.int v9), .val (.int v10), .val (.int re3), .val (.int (1 : Int32)), .val (.int z0), .val (.int z1), .val (.int z2), .unset, .unset, .unset, .unset, .unset, .unset, .unset, .unset, .unset, .unset, .unset, .unset, .unset] []
                  refine px_iload S105 at_221 rfl rfl ?_
                  refine px_iload S105 at_223 rfl rfl ?_
                  refine px_iconst (v := (3 : Int32)) S105 at_225 rfl rfl ?_
                  refine px_icmp S105 at_226 (by decide) (pc' := 233) rfl rfl (fun (hc107 : ¬ (1 : Int32).toInt = (3 : Int32).toInt) => ?_) (fun (hc107 : (1 : Int32).toInt = (3 : Int32).toInt) => by exfalso; revert hc107; decide)
                  refine px_iconst (v := (0 : Int32)) S105 at_233 rfl rfl ?_
                  refine px_iconst (v := (0 : Int32)) S105 at_234 rfl rfl ?_
                  refine px_iload S105 at_235 rfl rfl ?_
                  refine px_callS (as' := [(.int v8), (.int (0 : Int32)), (.int (0 : Int32)), (.int re3)]) (st := []) (W := 0) S105 (c_draw (b := b3) (r := ((((N - M) - q0) - q1) - q2)) hw S105.size en3 hb3 p_re3 (by omega)) (hw _ (List.mem_of_getElem? (i := 1) rfl)) (hw _ (List.mem_of_getElem? (i := 2) rfl)) (hw _ (List.mem_of_getElem? (i := 3) rfl)) (hw _ (List.mem_of_getElem? (i := 4) rfl)) (by decide) pd_0_3 rfl rfl (by decide) rfl (by decide) (by decide) (by decide) at_237 rfl rfl (fun T108 h108 v108 S108 q108 => ?_)
                  obtain ⟨rfl, z3, q3, rfl, ez3, hq3, lq3, la3⟩ := q108
                  clear la3
                  show Go _ _ _ _ _ _ _ [(.int z3)]
                  refine px_istore S108 at_240 rfl (L' := #[.val (.int i0), .val (.int i1), .val (.int i2), .val (.int i3), .val (.int i4), .val (.int i5), .val (.int v1), .val (.int v2), .val (.int fl), .val (.int v5), .val (.int v6), .val (.int v7), .val (.int v8), .val (.int v9), .val (.int v10), .val (.int re3), .val (.int (1 : Int32)), .val (.int z0), .val (.int z1), .val (.int z2), .val (.int z3), .unset, .unset, .unset, .unset, .unset, .unset, .unset, .unset, .unset, .unset, .unset, .unset]) rfl ?_
                  exact J12 ((1 : Int32), re3, z0, z1, z2, z3, q0, q1, q2, q3) _ _ S108 ⟨ez0, ez1, ez2, Hid.mk ez3, hq0, hq1, hq2, Hid.mk hq3, Hid.mk (by (try dsimp only); have u2 := hq2.out; have u3 := hq3; omega)⟩
                · refine px_iload S105 at_209 rfl rfl ?_
                  refine px_if0 S105 at_211 (by decide) (pc' := 221) rfl rfl (fun (hc109 : z2.toInt ≤ 0) => ?_) (fun (hc109 : z2.toInt > 0) => ?_)
                  · exact J106 _ (re_le p_re2 ez2 hb2 hq2 hc109)
                  · refine px_iload S105 at_214 rfl rfl ?_
                    refine px_iload S105 at_216 rfl rfl ?_
                    refine px_isub S105 at_218 rfl ?_
                    generalize h_v110 : (re2 - z2) = v110
                    refine px_istore S105 at_219 rfl (L' := #[.val (.int i0), .val (.int i1), .val (.int i2), .val (.int i3), .val (.int i4), .val (.int i5), .val (.int v1), .val (.int v2), .val (.int fl), .val (.int v5), .val (.int v6), .val (.int v7), .val (.int v8), .val (.int v9), .val (.int v10), .val (.int v110), .val (.int (1 : Int32)), .val (.int z0), .val (.int z1), .val (.int z2), .unset, .unset, .unset, .unset, .unset, .unset, .unset, .unset, .unset, .unset, .unset, .unset, .unset]) rfl ?_
                    exact J106 _ (re_gt h_v110 p_re2 ez2 hb2 hq2 lq2 (by omega) hc109)
              · refine px_iload S102 at_175 rfl rfl ?_
                refine px_if0 S102 at_177 (by decide) (pc' := 187) rfl rfl (fun (hc111 : z1.toInt ≤ 0) => ?_) (fun (hc111 : z1.toInt > 0) => ?_)
                · exact J103 _ (re_le p_re1 ez1 hb1 hq1 hc111)
                · refine px_iload S102 at_180 rfl rfl ?_
                  refine px_iload S102 at_182 rfl rfl ?_
                  refine px_isub S102 at_184 rfl ?_
                  generalize h_v112 : (re1 - z1) = v112
                  refine px_istore S102 at_185 rfl (L' := #[.val (.int i0), .val (.int i1), .val (.int i2), .val (.int i3), .val (.int i4), .val (.int i5), .val (.int v1), .val (.int v2), .val (.int fl), .val (.int v5), .val (.int v6), .val (.int v7), .val (.int v8), .val (.int v9), .val (.int v10), .val (.int v112), .val (.int (1 : Int32)), .val (.int z0), .val (.int z1), .unset, .unset, .unset, .unset, .unset, .unset, .unset, .unset, .unset, .unset, .unset, .unset, .unset, .unset]) rfl ?_
                  exact J103 _ (re_gt h_v112 p_re1 ez1 hb1 hq1 lq1 (by omega) hc111)
            · refine px_iload S99 at_142 rfl rfl ?_
              refine px_if0 S99 at_144 (by decide) (pc' := 154) rfl rfl (fun (hc113 : z0.toInt ≤ 0) => ?_) (fun (hc113 : z0.toInt > 0) => ?_)
              · exact J100 _ (re_le er ez0 hb0 hq0 hc113)
              · refine px_iload S99 at_147 rfl rfl ?_
                refine px_iload S99 at_149 rfl rfl ?_
                refine px_isub S99 at_151 rfl ?_
                generalize h_v114 : (v11 - z0) = v114
                refine px_istore S99 at_152 rfl (L' := #[.val (.int i0), .val (.int i1), .val (.int i2), .val (.int i3), .val (.int i4), .val (.int i5), .val (.int v1), .val (.int v2), .val (.int fl), .val (.int v5), .val (.int v6), .val (.int v7), .val (.int v8), .val (.int v9), .val (.int v10), .val (.int v114), .val (.int (1 : Int32)), .val (.int z0), .unset, .unset, .unset, .unset, .unset, .unset, .unset, .unset, .unset, .unset, .unset, .unset, .unset, .unset, .unset]) rfl ?_
                exact J100 _ (re_gt h_v114 er ez0 hb0 hq0 lq0 (by omega) hc113)
        · refine px_iconst (v := (2 : Int32)) S0 at_106 rfl rfl ?_
          refine px_goto S0 at_107 (by decide) (pc' := 120) rfl ?_
          refine px_istore S0 at_120 rfl (L' := #[.val (.int i0), .val (.int i1), .val (.int i2), .val (.int i3), .val (.int i4), .val (.int i5), .val (.int v1), .val (.int v2), .val (.int fl), .val (.int v5), .val (.int v6), .val (.int v7), .val (.int v8), .val (.int v9), .val (.int v10), .val (.int v11), .val (.int (2 : Int32)), .unset, .unset, .unset, .unset, .unset, .unset, .unset, .unset, .unset, .unset, .unset, .unset, .unset, .unset, .unset, .unset]) rfl ?_
          refine px_iload S0 at_122 rfl rfl ?_
          refine px_iload S0 at_124 rfl rfl ?_
          refine px_if0 S0 at_126 (by decide) (pc' := 133) rfl rfl (fun (hc115 : ¬ (2 : Int32).toInt = 0) => ?_) (fun (hc115 : (2 : Int32).toInt = 0) => by exfalso; revert hc115; decide)
          refine px_iconst (v := (0 : Int32)) S0 at_133 rfl rfl ?_
          refine px_iloadN S0 at_134 rfl rfl ?_
          refine px_iload S0 at_135 rfl rfl ?_
          refine px_callS (as' := [(.int v5), (.int (0 : Int32)), (.int i2), (.int v11)]) (st := []) (W := 0) S0 (c_draw (b := b0) (r := (N - M)) hw S0.size en0 hb0 er (by omega)) (hw _ (List.mem_of_getElem? (i := 1) rfl)) (hw _ (List.mem_of_getElem? (i := 2) rfl)) (hw _ (List.mem_of_getElem? (i := 3) rfl)) (hw _ (List.mem_of_getElem? (i := 4) rfl)) (by decide) pd_0_3 rfl rfl (by decide) rfl (by decide) (by decide) (by decide) at_137 rfl rfl (fun T116 h116 v116 S116 q116 => ?_)
          obtain ⟨rfl, z0, q0, rfl, ez0, hq0, lq0, la0⟩ := q116
          clear la0
          show Go _ _ _ _ _ _ _ [(.int z0)]
          refine px_istore S116 at_140 rfl (L' := #[.val (.int i0), .val (.int i1), .val (.int i2), .val (.int i3), .val (.int i4), .val (.int i5), .val (.int v1), .val (.int v2), .val (.int fl), .val (.int v5), .val (.int v6), .val (.int v7), .val (.int v8), .val (.int v9), .val (.int v10), .val (.int v11), .val (.int (2 : Int32)), .val (.int z0), .unset, .unset, .unset, .unset, .unset, .unset, .unset, .unset, .unset, .unset, .unset, .unset, .unset, .unset, .unset]) rfl ?_
          refine Go.join (P := fun re1 : Int32 => re1.toInt = ((((N - M) - q0) : Nat) : Int)) (pcj := 154) (Lj := fun re1 => #[.val (.int i0), .val (.int i1), .val (.int i2), .val (.int i3), .val (.int i4), .val (.int i5), .val (.int v1), .val (.int v2), .val (.int fl), .val (.int v5), .val (.int v6), .val (.int v7), .val (.int v8), .val (.int v9), .val (.int v10), .val (.int re1), .val (.int (2 : Int32)), .val (.int z0), .unset, .unset, .unset, .unset, .unset, .unset, .unset, .unset, .unset, .unset, .unset, .unset, .unset, .unset, .unset]) (stj := fun re1 => []) (fun re1 p_re1 => ?_) (fun J117 => ?_)
          · replace ez0 := Hid.mk ez0
            replace hq0 := Hid.mk hq0
            show Go _ _ _ _ _ 154 #[.val (.int i0), .val (.int i1), .val (.int i2), .val (.int i3), .val (.int i4), .val (.int i5), .val (.int v1), .val (.int v2), .val (.int fl), .val (.int v5), .val (.int v6), .val (.int v7), .val (.int v8), .val (.int v9), .val (.int v10), .val (.int re1), .val (.int (2 : Int32)), .val (.int z0), .unset, .unset, .unset, .unset, .unset, .unset, .unset, .unset, .unset, .unset, .unset, .unset, .unset, .unset, .unset] []
            refine px_iload S116 at_154 rfl rfl ?_
            refine px_iload S116 at_156 rfl rfl ?_
            refine px_iconst (v := (1 : Int32)) S116 at_158 rfl rfl ?_
            refine px_icmp S116 at_159 (by decide) (pc' := 166) rfl rfl (fun (hc118 : ¬ (2 : Int32).toInt = (1 : Int32).toInt) => ?_) (fun (hc118 : (2 : Int32).toInt = (1 : Int32).toInt) => by exfalso; revert hc118; decide)
            refine px_iconst (v := (0 : Int32)) S116 at_166 rfl rfl ?_
            refine px_iloadN S116 at_167 rfl rfl ?_
            refine px_iload S116 at_168 rfl rfl ?_
            refine px_callS (as' := [(.int v6), (.int (0 : Int32)), (.int i3), (.int re1)]) (st := []) (W := 0) S116 (c_draw (b := b1) (r := ((N - M) - q0)) hw S116.size en1 hb1 p_re1 (by omega)) (hw _ (List.mem_of_getElem? (i := 1) rfl)) (hw _ (List.mem_of_getElem? (i := 2) rfl)) (hw _ (List.mem_of_getElem? (i := 3) rfl)) (hw _ (List.mem_of_getElem? (i := 4) rfl)) (by decide) pd_0_3 rfl rfl (by decide) rfl (by decide) (by decide) (by decide) at_170 rfl rfl (fun T119 h119 v119 S119 q119 => ?_)
            obtain ⟨rfl, z1, q1, rfl, ez1, hq1, lq1, la1⟩ := q119
            clear la1
            show Go _ _ _ _ _ _ _ [(.int z1)]
            refine px_istore S119 at_173 rfl (L' := #[.val (.int i0), .val (.int i1), .val (.int i2), .val (.int i3), .val (.int i4), .val (.int i5), .val (.int v1), .val (.int v2), .val (.int fl), .val (.int v5), .val (.int v6), .val (.int v7), .val (.int v8), .val (.int v9), .val (.int v10), .val (.int re1), .val (.int (2 : Int32)), .val (.int z0), .val (.int z1), .unset, .unset, .unset, .unset, .unset, .unset, .unset, .unset, .unset, .unset, .unset, .unset, .unset, .unset]) rfl ?_
            refine Go.join (P := fun re2 : Int32 => re2.toInt = (((((N - M) - q0) - q1) : Nat) : Int)) (pcj := 187) (Lj := fun re2 => #[.val (.int i0), .val (.int i1), .val (.int i2), .val (.int i3), .val (.int i4), .val (.int i5), .val (.int v1), .val (.int v2), .val (.int fl), .val (.int v5), .val (.int v6), .val (.int v7), .val (.int v8), .val (.int v9), .val (.int v10), .val (.int re2), .val (.int (2 : Int32)), .val (.int z0), .val (.int z1), .unset, .unset, .unset, .unset, .unset, .unset, .unset, .unset, .unset, .unset, .unset, .unset, .unset, .unset]) (stj := fun re2 => []) (fun re2 p_re2 => ?_) (fun J120 => ?_)
            · replace ez1 := Hid.mk ez1
              replace hq1 := Hid.mk hq1
              show Go _ _ _ _ _ 187 #[.val (.int i0), .val (.int i1), .val (.int i2), .val (.int i3), .val (.int i4), .val (.int i5), .val (.int v1), .val (.int v2), .val (.int fl), .val (.int v5), .val (.int v6), .val (.int v7), .val (.int v8), .val (.int v9), .val (.int v10), .val (.int re2), .val (.int (2 : Int32)), .val (.int z0), .val (.int z1), .unset, .unset, .unset, .unset, .unset, .unset, .unset, .unset, .unset, .unset, .unset, .unset, .unset, .unset] []
              refine px_iload S119 at_187 rfl rfl ?_
              refine px_iload S119 at_189 rfl rfl ?_
              refine px_iconst (v := (2 : Int32)) S119 at_191 rfl rfl ?_
              refine px_icmp S119 at_192 (by decide) (pc' := 199) rfl rfl (fun (hc121 : ¬ (2 : Int32).toInt = (2 : Int32).toInt) => absurd rfl hc121) (fun (hc121 : (2 : Int32).toInt = (2 : Int32).toInt) => ?_)
              refine px_iconst (v := (1 : Int32)) S119 at_195 rfl rfl ?_
              refine px_goto S119 at_196 (by decide) (pc' := 200) rfl ?_
              refine px_iload S119 at_200 rfl rfl ?_
              refine px_iload S119 at_202 rfl rfl ?_
              refine px_callS (as' := [(.int v7), (.int (1 : Int32)), (.int i4), (.int re2)]) (st := []) (W := 0) S119 (c_draw (b := b2) (r := (((N - M) - q0) - q1)) hw S119.size en2 hb2 p_re2 (by omega)) (hw _ (List.mem_of_getElem? (i := 1) rfl)) (hw _ (List.mem_of_getElem? (i := 2) rfl)) (hw _ (List.mem_of_getElem? (i := 3) rfl)) (hw _ (List.mem_of_getElem? (i := 4) rfl)) (by decide) pd_0_3 rfl rfl (by decide) rfl (by decide) (by decide) (by decide) at_204 rfl rfl (fun T122 h122 v122 S122 q122 => ?_)
              obtain ⟨rfl, z2, q2, rfl, ez2, hq2, lq2, la2⟩ := q122
              replace la2 : b2 = 0 → q2 = (((N - M) - q0) - q1) := fun hb => la2 hb (by decide)
              show Go _ _ _ _ _ _ _ [(.int z2)]
              refine px_istore S122 at_207 rfl (L' := #[.val (.int i0), .val (.int i1), .val (.int i2), .val (.int i3), .val (.int i4), .val (.int i5), .val (.int v1), .val (.int v2), .val (.int fl), .val (.int v5), .val (.int v6), .val (.int v7), .val (.int v8), .val (.int v9), .val (.int v10), .val (.int re2), .val (.int (2 : Int32)), .val (.int z0), .val (.int z1), .val (.int z2), .unset, .unset, .unset, .unset, .unset, .unset, .unset, .unset, .unset, .unset, .unset, .unset, .unset]) rfl ?_
              refine Go.join (P := fun re3 : Int32 => re3.toInt = ((((((N - M) - q0) - q1) - q2) : Nat) : Int)) (pcj := 221) (Lj := fun re3 => #[.val (.int i0), .val (.int i1), .val (.int i2), .val (.int i3), .val (.int i4), .val (.int i5), .val (.int v1), .val (.int v2), .val (.int fl), .val (.int v5), .val (.int v6), .val (.int v7), .val (.int v8), .val (.int v9), .val (.int v10), .val (.int re3), .val (.int (2 : Int32)), .val (.int z0), .val (.int z1), .val (.int z2), .unset, .unset, .unset, .unset, .unset, .unset, .unset, .unset, .unset, .unset, .unset, .unset, .unset]) (stj := fun re3 => []) (fun re3 p_re3 => ?_) (fun J123 => ?_)
              · replace ez2 := Hid.mk ez2
                replace hq2 := Hid.mk hq2
                show Go _ _ _ _ _ 221 #[.val (.int i0), .val (.int i1), .val (.int i2), .val (.int i3), .val (.int i4), .val (.int i5), .val (.int v1), .val (.int v2), .val (.int fl), .val (.int v5), .val (.int v6), .val (.int v7), .val (.int v8), .val (.int v9), .val (.int v10), .val (.int re3), .val (.int (2 : Int32)), .val (.int z0), .val (.int z1), .val (.int z2), .unset, .unset, .unset, .unset, .unset, .unset, .unset, .unset, .unset, .unset, .unset, .unset, .unset] []
                refine px_iload S122 at_221 rfl rfl ?_
                refine px_iload S122 at_223 rfl rfl ?_
                refine px_iconst (v := (3 : Int32)) S122 at_225 rfl rfl ?_
                refine px_icmp S122 at_226 (by decide) (pc' := 233) rfl rfl (fun (hc124 : ¬ (2 : Int32).toInt = (3 : Int32).toInt) => ?_) (fun (hc124 : (2 : Int32).toInt = (3 : Int32).toInt) => by exfalso; revert hc124; decide)
                refine px_iconst (v := (0 : Int32)) S122 at_233 rfl rfl ?_
                refine px_iconst (v := (0 : Int32)) S122 at_234 rfl rfl ?_
                refine px_iload S122 at_235 rfl rfl ?_
                refine px_callS (as' := [(.int v8), (.int (0 : Int32)), (.int (0 : Int32)), (.int re3)]) (st := []) (W := 0) S122 (c_draw (b := b3) (r := ((((N - M) - q0) - q1) - q2)) hw S122.size en3 hb3 p_re3 (by omega)) (hw _ (List.mem_of_getElem? (i := 1) rfl)) (hw _ (List.mem_of_getElem? (i := 2) rfl)) (hw _ (List.mem_of_getElem? (i := 3) rfl)) (hw _ (List.mem_of_getElem? (i := 4) rfl)) (by decide) pd_0_3 rfl rfl (by decide) rfl (by decide) (by decide) (by decide) at_237 rfl rfl (fun T125 h125 v125 S125 q125 => ?_)
                obtain ⟨rfl, z3, q3, rfl, ez3, hq3, lq3, la3⟩ := q125
                clear la3
                show Go _ _ _ _ _ _ _ [(.int z3)]
                refine px_istore S125 at_240 rfl (L' := #[.val (.int i0), .val (.int i1), .val (.int i2), .val (.int i3), .val (.int i4), .val (.int i5), .val (.int v1), .val (.int v2), .val (.int fl), .val (.int v5), .val (.int v6), .val (.int v7), .val (.int v8), .val (.int v9), .val (.int v10), .val (.int re3), .val (.int (2 : Int32)), .val (.int z0), .val (.int z1), .val (.int z2), .val (.int z3), .unset, .unset, .unset, .unset, .unset, .unset, .unset, .unset, .unset, .unset, .unset, .unset]) rfl ?_
                exact J12 ((2 : Int32), re3, z0, z1, z2, z3, q0, q1, q2, q3) _ _ S125 ⟨ez0, ez1, ez2, Hid.mk ez3, hq0, hq1, hq2, Hid.mk hq3, Hid.mk (by (try dsimp only); have u3 := hq3; omega)⟩
              · refine px_iload S122 at_209 rfl rfl ?_
                refine px_if0 S122 at_211 (by decide) (pc' := 221) rfl rfl (fun (hc126 : z2.toInt ≤ 0) => ?_) (fun (hc126 : z2.toInt > 0) => ?_)
                · exact J123 _ (re_le p_re2 ez2 hb2 hq2 hc126)
                · refine px_iload S122 at_214 rfl rfl ?_
                  refine px_iload S122 at_216 rfl rfl ?_
                  refine px_isub S122 at_218 rfl ?_
                  generalize h_v127 : (re2 - z2) = v127
                  refine px_istore S122 at_219 rfl (L' := #[.val (.int i0), .val (.int i1), .val (.int i2), .val (.int i3), .val (.int i4), .val (.int i5), .val (.int v1), .val (.int v2), .val (.int fl), .val (.int v5), .val (.int v6), .val (.int v7), .val (.int v8), .val (.int v9), .val (.int v10), .val (.int v127), .val (.int (2 : Int32)), .val (.int z0), .val (.int z1), .val (.int z2), .unset, .unset, .unset, .unset, .unset, .unset, .unset, .unset, .unset, .unset, .unset, .unset, .unset]) rfl ?_
                  exact J123 _ (re_gt h_v127 p_re2 ez2 hb2 hq2 lq2 (by omega) hc126)
            · refine px_iload S119 at_175 rfl rfl ?_
              refine px_if0 S119 at_177 (by decide) (pc' := 187) rfl rfl (fun (hc128 : z1.toInt ≤ 0) => ?_) (fun (hc128 : z1.toInt > 0) => ?_)
              · exact J120 _ (re_le p_re1 ez1 hb1 hq1 hc128)
              · refine px_iload S119 at_180 rfl rfl ?_
                refine px_iload S119 at_182 rfl rfl ?_
                refine px_isub S119 at_184 rfl ?_
                generalize h_v129 : (re1 - z1) = v129
                refine px_istore S119 at_185 rfl (L' := #[.val (.int i0), .val (.int i1), .val (.int i2), .val (.int i3), .val (.int i4), .val (.int i5), .val (.int v1), .val (.int v2), .val (.int fl), .val (.int v5), .val (.int v6), .val (.int v7), .val (.int v8), .val (.int v9), .val (.int v10), .val (.int v129), .val (.int (2 : Int32)), .val (.int z0), .val (.int z1), .unset, .unset, .unset, .unset, .unset, .unset, .unset, .unset, .unset, .unset, .unset, .unset, .unset, .unset]) rfl ?_
                exact J120 _ (re_gt h_v129 p_re1 ez1 hb1 hq1 lq1 (by omega) hc128)
          · refine px_iload S116 at_142 rfl rfl ?_
            refine px_if0 S116 at_144 (by decide) (pc' := 154) rfl rfl (fun (hc130 : z0.toInt ≤ 0) => ?_) (fun (hc130 : z0.toInt > 0) => ?_)
            · exact J117 _ (re_le er ez0 hb0 hq0 hc130)
            · refine px_iload S116 at_147 rfl rfl ?_
              refine px_iload S116 at_149 rfl rfl ?_
              refine px_isub S116 at_151 rfl ?_
              generalize h_v131 : (v11 - z0) = v131
              refine px_istore S116 at_152 rfl (L' := #[.val (.int i0), .val (.int i1), .val (.int i2), .val (.int i3), .val (.int i4), .val (.int i5), .val (.int v1), .val (.int v2), .val (.int fl), .val (.int v5), .val (.int v6), .val (.int v7), .val (.int v8), .val (.int v9), .val (.int v10), .val (.int v131), .val (.int (2 : Int32)), .val (.int z0), .unset, .unset, .unset, .unset, .unset, .unset, .unset, .unset, .unset, .unset, .unset, .unset, .unset, .unset, .unset]) rfl ?_
              exact J117 _ (re_gt h_v131 er ez0 hb0 hq0 lq0 (by omega) hc130)
      · refine px_iconst (v := (3 : Int32)) S0 at_97 rfl rfl ?_
        refine px_goto S0 at_98 (by decide) (pc' := 120) rfl ?_
        refine px_istore S0 at_120 rfl (L' := #[.val (.int i0), .val (.int i1), .val (.int i2), .val (.int i3), .val (.int i4), .val (.int i5), .val (.int v1), .val (.int v2), .val (.int fl), .val (.int v5), .val (.int v6), .val (.int v7), .val (.int v8), .val (.int v9), .val (.int v10), .val (.int v11), .val (.int (3 : Int32)), .unset, .unset, .unset, .unset, .unset, .unset, .unset, .unset, .unset, .unset, .unset, .unset, .unset, .unset, .unset, .unset]) rfl ?_
        refine px_iload S0 at_122 rfl rfl ?_
        refine px_iload S0 at_124 rfl rfl ?_
        refine px_if0 S0 at_126 (by decide) (pc' := 133) rfl rfl (fun (hc132 : ¬ (3 : Int32).toInt = 0) => ?_) (fun (hc132 : (3 : Int32).toInt = 0) => by exfalso; revert hc132; decide)
        refine px_iconst (v := (0 : Int32)) S0 at_133 rfl rfl ?_
        refine px_iloadN S0 at_134 rfl rfl ?_
        refine px_iload S0 at_135 rfl rfl ?_
        refine px_callS (as' := [(.int v5), (.int (0 : Int32)), (.int i2), (.int v11)]) (st := []) (W := 0) S0 (c_draw (b := b0) (r := (N - M)) hw S0.size en0 hb0 er (by omega)) (hw _ (List.mem_of_getElem? (i := 1) rfl)) (hw _ (List.mem_of_getElem? (i := 2) rfl)) (hw _ (List.mem_of_getElem? (i := 3) rfl)) (hw _ (List.mem_of_getElem? (i := 4) rfl)) (by decide) pd_0_3 rfl rfl (by decide) rfl (by decide) (by decide) (by decide) at_137 rfl rfl (fun T133 h133 v133 S133 q133 => ?_)
        obtain ⟨rfl, z0, q0, rfl, ez0, hq0, lq0, la0⟩ := q133
        clear la0
        show Go _ _ _ _ _ _ _ [(.int z0)]
        refine px_istore S133 at_140 rfl (L' := #[.val (.int i0), .val (.int i1), .val (.int i2), .val (.int i3), .val (.int i4), .val (.int i5), .val (.int v1), .val (.int v2), .val (.int fl), .val (.int v5), .val (.int v6), .val (.int v7), .val (.int v8), .val (.int v9), .val (.int v10), .val (.int v11), .val (.int (3 : Int32)), .val (.int z0), .unset, .unset, .unset, .unset, .unset, .unset, .unset, .unset, .unset, .unset, .unset, .unset, .unset, .unset, .unset]) rfl ?_
        refine Go.join (P := fun re1 : Int32 => re1.toInt = ((((N - M) - q0) : Nat) : Int)) (pcj := 154) (Lj := fun re1 => #[.val (.int i0), .val (.int i1), .val (.int i2), .val (.int i3), .val (.int i4), .val (.int i5), .val (.int v1), .val (.int v2), .val (.int fl), .val (.int v5), .val (.int v6), .val (.int v7), .val (.int v8), .val (.int v9), .val (.int v10), .val (.int re1), .val (.int (3 : Int32)), .val (.int z0), .unset, .unset, .unset, .unset, .unset, .unset, .unset, .unset, .unset, .unset, .unset, .unset, .unset, .unset, .unset]) (stj := fun re1 => []) (fun re1 p_re1 => ?_) (fun J134 => ?_)
        · replace ez0 := Hid.mk ez0
          replace hq0 := Hid.mk hq0
          show Go _ _ _ _ _ 154 #[.val (.int i0), .val (.int i1), .val (.int i2), .val (.int i3), .val (.int i4), .val (.int i5), .val (.int v1), .val (.int v2), .val (.int fl), .val (.int v5), .val (.int v6), .val (.int v7), .val (.int v8), .val (.int v9), .val (.int v10), .val (.int re1), .val (.int (3 : Int32)), .val (.int z0), .unset, .unset, .unset, .unset, .unset, .unset, .unset, .unset, .unset, .unset, .unset, .unset, .unset, .unset, .unset] []
          refine px_iload S133 at_154 rfl rfl ?_
          refine px_iload S133 at_156 rfl rfl ?_
          refine px_iconst (v := (1 : Int32)) S133 at_158 rfl rfl ?_
          refine px_icmp S133 at_159 (by decide) (pc' := 166) rfl rfl (fun (hc135 : ¬ (3 : Int32).toInt = (1 : Int32).toInt) => ?_) (fun (hc135 : (3 : Int32).toInt = (1 : Int32).toInt) => by exfalso; revert hc135; decide)
          refine px_iconst (v := (0 : Int32)) S133 at_166 rfl rfl ?_
          refine px_iloadN S133 at_167 rfl rfl ?_
          refine px_iload S133 at_168 rfl rfl ?_
          refine px_callS (as' := [(.int v6), (.int (0 : Int32)), (.int i3), (.int re1)]) (st := []) (W := 0) S133 (c_draw (b := b1) (r := ((N - M) - q0)) hw S133.size en1 hb1 p_re1 (by omega)) (hw _ (List.mem_of_getElem? (i := 1) rfl)) (hw _ (List.mem_of_getElem? (i := 2) rfl)) (hw _ (List.mem_of_getElem? (i := 3) rfl)) (hw _ (List.mem_of_getElem? (i := 4) rfl)) (by decide) pd_0_3 rfl rfl (by decide) rfl (by decide) (by decide) (by decide) at_170 rfl rfl (fun T136 h136 v136 S136 q136 => ?_)
          obtain ⟨rfl, z1, q1, rfl, ez1, hq1, lq1, la1⟩ := q136
          clear la1
          show Go _ _ _ _ _ _ _ [(.int z1)]
          refine px_istore S136 at_173 rfl (L' := #[.val (.int i0), .val (.int i1), .val (.int i2), .val (.int i3), .val (.int i4), .val (.int i5), .val (.int v1), .val (.int v2), .val (.int fl), .val (.int v5), .val (.int v6), .val (.int v7), .val (.int v8), .val (.int v9), .val (.int v10), .val (.int re1), .val (.int (3 : Int32)), .val (.int z0), .val (.int z1), .unset, .unset, .unset, .unset, .unset, .unset, .unset, .unset, .unset, .unset, .unset, .unset, .unset, .unset]) rfl ?_
          refine Go.join (P := fun re2 : Int32 => re2.toInt = (((((N - M) - q0) - q1) : Nat) : Int)) (pcj := 187) (Lj := fun re2 => #[.val (.int i0), .val (.int i1), .val (.int i2), .val (.int i3), .val (.int i4), .val (.int i5), .val (.int v1), .val (.int v2), .val (.int fl), .val (.int v5), .val (.int v6), .val (.int v7), .val (.int v8), .val (.int v9), .val (.int v10), .val (.int re2), .val (.int (3 : Int32)), .val (.int z0), .val (.int z1), .unset, .unset, .unset, .unset, .unset, .unset, .unset, .unset, .unset, .unset, .unset, .unset, .unset, .unset]) (stj := fun re2 => []) (fun re2 p_re2 => ?_) (fun J137 => ?_)
          · replace ez1 := Hid.mk ez1
            replace hq1 := Hid.mk hq1
            show Go _ _ _ _ _ 187 #[.val (.int i0), .val (.int i1), .val (.int i2), .val (.int i3), .val (.int i4), .val (.int i5), .val (.int v1), .val (.int v2), .val (.int fl), .val (.int v5), .val (.int v6), .val (.int v7), .val (.int v8), .val (.int v9), .val (.int v10), .val (.int re2), .val (.int (3 : Int32)), .val (.int z0), .val (.int z1), .unset, .unset, .unset, .unset, .unset, .unset, .unset, .unset, .unset, .unset, .unset, .unset, .unset, .unset] []
            refine px_iload S136 at_187 rfl rfl ?_
            refine px_iload S136 at_189 rfl rfl ?_
            refine px_iconst (v := (2 : Int32)) S136 at_191 rfl rfl ?_
            refine px_icmp S136 at_192 (by decide) (pc' := 199) rfl rfl (fun (hc138 : ¬ (3 : Int32).toInt = (2 : Int32).toInt) => ?_) (fun (hc138 : (3 : Int32).toInt = (2 : Int32).toInt) => by exfalso; revert hc138; decide)
            refine px_iconst (v := (0 : Int32)) S136 at_199 rfl rfl ?_
            refine px_iload S136 at_200 rfl rfl ?_
            refine px_iload S136 at_202 rfl rfl ?_
            refine px_callS (as' := [(.int v7), (.int (0 : Int32)), (.int i4), (.int re2)]) (st := []) (W := 0) S136 (c_draw (b := b2) (r := (((N - M) - q0) - q1)) hw S136.size en2 hb2 p_re2 (by omega)) (hw _ (List.mem_of_getElem? (i := 1) rfl)) (hw _ (List.mem_of_getElem? (i := 2) rfl)) (hw _ (List.mem_of_getElem? (i := 3) rfl)) (hw _ (List.mem_of_getElem? (i := 4) rfl)) (by decide) pd_0_3 rfl rfl (by decide) rfl (by decide) (by decide) (by decide) at_204 rfl rfl (fun T139 h139 v139 S139 q139 => ?_)
            obtain ⟨rfl, z2, q2, rfl, ez2, hq2, lq2, la2⟩ := q139
            clear la2
            show Go _ _ _ _ _ _ _ [(.int z2)]
            refine px_istore S139 at_207 rfl (L' := #[.val (.int i0), .val (.int i1), .val (.int i2), .val (.int i3), .val (.int i4), .val (.int i5), .val (.int v1), .val (.int v2), .val (.int fl), .val (.int v5), .val (.int v6), .val (.int v7), .val (.int v8), .val (.int v9), .val (.int v10), .val (.int re2), .val (.int (3 : Int32)), .val (.int z0), .val (.int z1), .val (.int z2), .unset, .unset, .unset, .unset, .unset, .unset, .unset, .unset, .unset, .unset, .unset, .unset, .unset]) rfl ?_
            refine Go.join (P := fun re3 : Int32 => re3.toInt = ((((((N - M) - q0) - q1) - q2) : Nat) : Int)) (pcj := 221) (Lj := fun re3 => #[.val (.int i0), .val (.int i1), .val (.int i2), .val (.int i3), .val (.int i4), .val (.int i5), .val (.int v1), .val (.int v2), .val (.int fl), .val (.int v5), .val (.int v6), .val (.int v7), .val (.int v8), .val (.int v9), .val (.int v10), .val (.int re3), .val (.int (3 : Int32)), .val (.int z0), .val (.int z1), .val (.int z2), .unset, .unset, .unset, .unset, .unset, .unset, .unset, .unset, .unset, .unset, .unset, .unset, .unset]) (stj := fun re3 => []) (fun re3 p_re3 => ?_) (fun J140 => ?_)
            · replace ez2 := Hid.mk ez2
              replace hq2 := Hid.mk hq2
              show Go _ _ _ _ _ 221 #[.val (.int i0), .val (.int i1), .val (.int i2), .val (.int i3), .val (.int i4), .val (.int i5), .val (.int v1), .val (.int v2), .val (.int fl), .val (.int v5), .val (.int v6), .val (.int v7), .val (.int v8), .val (.int v9), .val (.int v10), .val (.int re3), .val (.int (3 : Int32)), .val (.int z0), .val (.int z1), .val (.int z2), .unset, .unset, .unset, .unset, .unset, .unset, .unset, .unset, .unset, .unset, .unset, .unset, .unset] []
              refine px_iload S139 at_221 rfl rfl ?_
              refine px_iload S139 at_223 rfl rfl ?_
              refine px_iconst (v := (3 : Int32)) S139 at_225 rfl rfl ?_
              refine px_icmp S139 at_226 (by decide) (pc' := 233) rfl rfl (fun (hc141 : ¬ (3 : Int32).toInt = (3 : Int32).toInt) => absurd rfl hc141) (fun (hc141 : (3 : Int32).toInt = (3 : Int32).toInt) => ?_)
              refine px_iconst (v := (1 : Int32)) S139 at_229 rfl rfl ?_
              refine px_goto S139 at_230 (by decide) (pc' := 234) rfl ?_
              refine px_iconst (v := (0 : Int32)) S139 at_234 rfl rfl ?_
              refine px_iload S139 at_235 rfl rfl ?_
              refine px_callS (as' := [(.int v8), (.int (1 : Int32)), (.int (0 : Int32)), (.int re3)]) (st := []) (W := 0) S139 (c_draw (b := b3) (r := ((((N - M) - q0) - q1) - q2)) hw S139.size en3 hb3 p_re3 (by omega)) (hw _ (List.mem_of_getElem? (i := 1) rfl)) (hw _ (List.mem_of_getElem? (i := 2) rfl)) (hw _ (List.mem_of_getElem? (i := 3) rfl)) (hw _ (List.mem_of_getElem? (i := 4) rfl)) (by decide) pd_0_3 rfl rfl (by decide) rfl (by decide) (by decide) (by decide) at_237 rfl rfl (fun T142 h142 v142 S142 q142 => ?_)
              obtain ⟨rfl, z3, q3, rfl, ez3, hq3, lq3, la3⟩ := q142
              replace la3 : b3 = 0 → q3 = ((((N - M) - q0) - q1) - q2) := fun hb => la3 hb (by decide)
              show Go _ _ _ _ _ _ _ [(.int z3)]
              refine px_istore S142 at_240 rfl (L' := #[.val (.int i0), .val (.int i1), .val (.int i2), .val (.int i3), .val (.int i4), .val (.int i5), .val (.int v1), .val (.int v2), .val (.int fl), .val (.int v5), .val (.int v6), .val (.int v7), .val (.int v8), .val (.int v9), .val (.int v10), .val (.int re3), .val (.int (3 : Int32)), .val (.int z0), .val (.int z1), .val (.int z2), .val (.int z3), .unset, .unset, .unset, .unset, .unset, .unset, .unset, .unset, .unset, .unset, .unset, .unset]) rfl ?_
              exact J12 ((3 : Int32), re3, z0, z1, z2, z3, q0, q1, q2, q3) _ _ S142 ⟨ez0, ez1, ez2, Hid.mk ez3, hq0, hq1, hq2, Hid.mk hq3, Hid.mk (by (try dsimp only); omega)⟩
            · refine px_iload S139 at_209 rfl rfl ?_
              refine px_if0 S139 at_211 (by decide) (pc' := 221) rfl rfl (fun (hc143 : z2.toInt ≤ 0) => ?_) (fun (hc143 : z2.toInt > 0) => ?_)
              · exact J140 _ (re_le p_re2 ez2 hb2 hq2 hc143)
              · refine px_iload S139 at_214 rfl rfl ?_
                refine px_iload S139 at_216 rfl rfl ?_
                refine px_isub S139 at_218 rfl ?_
                generalize h_v144 : (re2 - z2) = v144
                refine px_istore S139 at_219 rfl (L' := #[.val (.int i0), .val (.int i1), .val (.int i2), .val (.int i3), .val (.int i4), .val (.int i5), .val (.int v1), .val (.int v2), .val (.int fl), .val (.int v5), .val (.int v6), .val (.int v7), .val (.int v8), .val (.int v9), .val (.int v10), .val (.int v144), .val (.int (3 : Int32)), .val (.int z0), .val (.int z1), .val (.int z2), .unset, .unset, .unset, .unset, .unset, .unset, .unset, .unset, .unset, .unset, .unset, .unset, .unset]) rfl ?_
                exact J140 _ (re_gt h_v144 p_re2 ez2 hb2 hq2 lq2 (by omega) hc143)
          · refine px_iload S136 at_175 rfl rfl ?_
            refine px_if0 S136 at_177 (by decide) (pc' := 187) rfl rfl (fun (hc145 : z1.toInt ≤ 0) => ?_) (fun (hc145 : z1.toInt > 0) => ?_)
            · exact J137 _ (re_le p_re1 ez1 hb1 hq1 hc145)
            · refine px_iload S136 at_180 rfl rfl ?_
              refine px_iload S136 at_182 rfl rfl ?_
              refine px_isub S136 at_184 rfl ?_
              generalize h_v146 : (re1 - z1) = v146
              refine px_istore S136 at_185 rfl (L' := #[.val (.int i0), .val (.int i1), .val (.int i2), .val (.int i3), .val (.int i4), .val (.int i5), .val (.int v1), .val (.int v2), .val (.int fl), .val (.int v5), .val (.int v6), .val (.int v7), .val (.int v8), .val (.int v9), .val (.int v10), .val (.int v146), .val (.int (3 : Int32)), .val (.int z0), .val (.int z1), .unset, .unset, .unset, .unset, .unset, .unset, .unset, .unset, .unset, .unset, .unset, .unset, .unset, .unset]) rfl ?_
              exact J137 _ (re_gt h_v146 p_re1 ez1 hb1 hq1 lq1 (by omega) hc145)
        · refine px_iload S133 at_142 rfl rfl ?_
          refine px_if0 S133 at_144 (by decide) (pc' := 154) rfl rfl (fun (hc147 : z0.toInt ≤ 0) => ?_) (fun (hc147 : z0.toInt > 0) => ?_)
          · exact J134 _ (re_le er ez0 hb0 hq0 hc147)
          · refine px_iload S133 at_147 rfl rfl ?_
            refine px_iload S133 at_149 rfl rfl ?_
            refine px_isub S133 at_151 rfl ?_
            generalize h_v148 : (v11 - z0) = v148
            refine px_istore S133 at_152 rfl (L' := #[.val (.int i0), .val (.int i1), .val (.int i2), .val (.int i3), .val (.int i4), .val (.int i5), .val (.int v1), .val (.int v2), .val (.int fl), .val (.int v5), .val (.int v6), .val (.int v7), .val (.int v8), .val (.int v9), .val (.int v10), .val (.int v148), .val (.int (3 : Int32)), .val (.int z0), .unset, .unset, .unset, .unset, .unset, .unset, .unset, .unset, .unset, .unset, .unset, .unset, .unset, .unset, .unset]) rfl ?_
            exact J134 _ (re_gt h_v148 er ez0 hb0 hq0 lq0 (by omega) hc147)
  · refine px_iload S0 at_22 rfl rfl ?_
    refine px_bipush (v := (15 : Int32)) S0 at_24 rfl rfl ?_
    refine px_icmp S0 at_26 (by decide) (pc' := 33) rfl rfl (fun (hc149 : ¬ v3.toInt = (15 : Int32).toInt) => ?_) (fun (hc149 : v3.toInt = (15 : Int32).toInt) => ?_)
    · exact J4 _ (show 0 ≤ v3.toInt ∧ v3.toInt ≤ 14 from by have q0 := rng32 v3; have q1 := congrArg Int32.toInt h_v3; have q2 := f_imask i1 (15 : Int32) 4 16 (by decide) (by decide) (by decide); have q3 := rng32 i1; have q4 := (show (15 : Int32).toInt = 15 from rfl); omega)
    · refine px_bipush (v := (7 : Int32)) S0 at_29 rfl rfl ?_
      refine px_istore S0 at_31 rfl (L' := #[.val (.int i0), .val (.int i1), .val (.int i2), .val (.int i3), .val (.int i4), .val (.int i5), .val (.int v1), .val (.int v2), .val (.int (7 : Int32)), .unset, .unset, .unset, .unset, .unset, .unset, .unset, .unset, .unset, .unset, .unset, .unset, .unset, .unset, .unset, .unset, .unset, .unset, .unset, .unset, .unset, .unset, .unset, .unset]) rfl ?_
      exact J4 _ (show 0 ≤ (7 : Int32).toInt ∧ (7 : Int32).toInt ≤ 14 from by have q0 := (show (7 : Int32).toInt = 7 from rfl); have q1 := rng32 v3; have q2 := congrArg Int32.toInt h_v3; have q3 := f_imask i1 (15 : Int32) 4 16 (by decide) (by decide) (by decide); have q4 := rng32 i1; have q5 := (show (15 : Int32).toInt = 15 from rfl); omega)
set_option maxRecDepth 65536 in
set_option maxHeartbeats 40000000 in
theorem comes_1 {Post : Tables → Env → Array Value → State → Outcome → State → Prop} (hpost : ∀ tb e args s v u, (limb_1_1.after args s (.returned v) u = true ∧ limb_1_2.after args s (.returned v) u = true ∧ True) → FrameEnd s (.returned v) u (Jvm.fieldLocs frame_1_writes args s ++ Jvm.arrayLocs frame_1_arrays args s ++ Jvm.staticLocs frame_1_statics s) 16 1152 → Post tb e args s (.returned v) u) :
    ArmFor flags0 classFile x code maxLocals ret World_1 tables_1 room_1 Calls_1 rest_1 Pre_1 Post := by
  intro l hfl _ _ p e ha hc hk s m args below hf hA hF happ hP
  obtain ⟨hcalls, hrest, hpre⟩ := hP
  obtain ⟨-, -, -, hnamed, -, -, -, hat⟩ := (Spec.applies_iff hf).mp happ
  obtain ⟨hg, hn⟩ := and_e (Cond.before_iff.mp (show (Jvm.Cond.and given_1 narrow_1).before args s = true from hpre))
  obtain ⟨hcount, hg0⟩ := and_e hg
  obtain ⟨ha0, hg1⟩ := and_e hg0
  obtain ⟨ha1, hg2⟩ := and_e hg1
  obtain ⟨ha2, hg3⟩ := and_e hg2
  obtain ⟨ha3, hg4⟩ := and_e hg3
  obtain ⟨ha4, hg5⟩ := and_e hg4
  obtain ⟨w0, w1, w2, w3, w4, w5, rfl⟩ : ∃ w0 w1 w2 w3 w4 w5 : Value, args = #[w0, w1, w2, w3, w4, w5] := by
    have hs : args.size = 6 := by simpa [Cond.value, given_1] using hcount
    obtain ⟨L⟩ := args
    match L, hs with
    | [w0, w1, w2, w3, w4, w5], _ => exact ⟨w0, w1, w2, w3, w4, w5, rfl⟩
  have hw := fun d (hd : d ∈ tables_1) => atoms_spec (ws := Jvm.Cond.code x code maxLocals ret :: tables_1) hat d (List.mem_cons_of_mem _ hd)
  obtain ⟨i0, ei0⟩ := is_v ha0
  obtain rfl : w0 = (.int i0) := Option.some.inj ei0
  obtain ⟨i1, ei1⟩ := is_v ha1
  obtain rfl : w1 = (.int i1) := Option.some.inj ei1
  obtain ⟨i2, ei2⟩ := is_v ha2
  obtain rfl : w2 = (.int i2) := Option.some.inj ei2
  obtain ⟨i3, ei3⟩ := is_v ha3
  obtain rfl : w3 = (.int i3) := Option.some.inj ei3
  obtain ⟨i4, ei4⟩ := is_v ha4
  obtain rfl : w4 = (.int i4) := Option.some.inj ei4
  obtain ⟨i5, ei5⟩ := is_v hg5
  obtain rfl : w5 = (.int i5) := Option.some.inj ei5
  obtain ⟨n, o, h1, h2, h3, _, L, rfl, ⟨rfl, N⟩, hq⟩ := law_ctr (Z := s) hw i0 i1 i2 i3 i4 i5 (Nat.le_refl _) l tables_1 p e ha hc hk s m _ below hf ((Spec.applies_iff_loose hf).mp happ).1 ⟨rfl, State.Warmed39.refl s, rfl⟩ trivial
  refine ⟨n, _, h1, h2, h3, hpost _ _ _ _ _ _ ⟨Cond.after_iff.mpr rfl, Cond.after_iff.mpr (eq_i res_at (Term.int_eval (1)) rfl), trivial⟩ ⟨hq.1, hq.2.1, (hq.2.2.sift fun y hy => Or.inr (N y hy)).mono (Nat.le_refl _) (Nat.le_refl _)⟩⟩
theorem main_1_1 : Claimed_1_1 := comes_1 fun _ _ _ _ _ _ h hF => ⟨h.1, hF⟩
theorem main_1_2 : Claimed_1_2 := comes_1 fun _ _ _ _ _ _ h hF => ⟨h.2.1, hF⟩
end Jvm.Pilot.@@N@@
namespace Jvm.Pilot.@@N@@
open Jvm Jvm.ClassFile Sem Op Lib Jvm.Free Jvm.Stand Jvm.Pilot.@@N@@.Jvm.D
/-! MADE BY PROGRAM (witnessworld.py) out of the Statement's table words and the real class files: 12 classes; the members and pool entries that the words name. The judged class is class 1, her method 3. -/
namespace start1
open Jvm.ClassFile
def u (s : String) : CpInfo := .utf8 (stringToUtf16 s)
/-- a pool by its gaps: so many unusable entries, then the entry; so many at the end -/
def gap : Nat → List CpInfo → List CpInfo
  | 0, r => r
  | n + 1, r => .unusable :: gap n r
def poolList (es : List (Nat × CpInfo)) (last : Nat) : List CpInfo := es.foldr (fun e r => gap e.1 (e.2 :: r)) (gap last [])
def pool (es : List (Nat × CpInfo)) (last : Nat) : Array CpInfo := ⟨poolList es last⟩
def fileOf (pool : Array CpInfo) (this : Nat) (attrs : Array Attribute := #[]) (ms : Array MethodInfo := #[]) (fl : Nat := 33) (sup : Nat := 0) (ifs : Array Nat := #[]) (fds : Array FieldInfo := #[]) : ClassFile where
  minorVersion := 0
  majorVersion := 65
  constantPool := pool
  accessFlags := fl
  thisClass := this
  superClass := sup
  interfaces := ifs
  fields := fds
  methods := ms
  attributes := attrs
def plain (name : String) (sup : Option ClassId) : Class where
  name := name
  kind := .ordinary
  loader := none
  accessFlags := 33
  super := sup
  interfaces := #[]
  cf := none
  fields := #[]
  methods := #[]
  instanceTypes := #[]
  staticTypes := #[]
  resolved := #[]
  callSites := []
  init := .initialized
  statics := none
  mirror := none

def pool0 : Array CpInfo := pool [(5, u "<init>"), (0, u "()V"), (1, .class_ 10), (1, u "java/lang/Object")] 113

def k0m0 : Method := { name := "<init>", desc := "()V", sig := { parameters := [], returnType := none }, accessFlags := 1, code := none }
/-- java/lang/Object -/
def k0 : Class := { plain "java/lang/Object" none with
  accessFlags := 33
  interfaces := #[]
  cf := some (fileOf pool0 8 #[] #[{ accessFlags := 1, nameIndex := 5, descriptorIndex := 6, attributes := #[] }] 33 0 #[] #[])
  fields := #[]
  methods := #[k0m0]
  instanceTypes := #[]
  staticTypes := #[]
  resolved := Array.replicate 124 none
  statics := none }

def pool1 : Array CpInfo := pool [(2, .class_ 4), (1, u "java/lang/Object"), (0, u "<init>"), (0, u "()V"), (0, .integer 2147483647), (0, .methodref 9 10), (0, .class_ 11), (0, .nameAndType 12 13), (0, u "com/example/colonnade/colonnade/compress/FseTableSpreadPinLaw"), (0, u "draw"), (0, u "(IZII)I"), (0, .methodref 15 16), (0, .class_ 17), (0, .nameAndType 18 19), (0, u "com/example/colonnade/colonnade/compress/FseTable"), (0, u "spread"), (0, u "([SII[B)V"), (0, .methodref 9 21), (0, .nameAndType 22 23), (0, u "nthNeg"), (0, u "(IIIII)I"), (0, .methodref 25 26), (0, .class_ 27), (0, .nameAndType 28 29), (0, u "java/lang/Math"), (0, u "max"), (0, u "(II)I"), (3, u "law"), (0, u "(IIIIII)Z")] 9

def k1m0 : Method := { name := "<init>", desc := "()V", sig := { parameters := [], returnType := none }, accessFlags := 1, code := none }
def k1c1 : Code := { maxStack := 3, maxLocals := 4, code := method_2_code, exceptionTable := #[], attributes := #[] }
def k1m1 : Method := { name := "draw", desc := "(IZII)I", sig := { parameters := [.int, .boolean, .int, .int], returnType := some .int }, accessFlags := 10, code := some k1c1 }
def k1c2 : Code := { maxStack := 2, maxLocals := 6, code := method_3_code, exceptionTable := #[], attributes := #[] }
def k1m2 : Method := { name := "nthNeg", desc := "(IIIII)I", sig := { parameters := [.int, .int, .int, .int, .int], returnType := some .int }, accessFlags := 10, code := some k1c2 }
def k1c3 : Code := { maxStack := 6, maxLocals := 33, code := code, exceptionTable := #[], attributes := #[] }
def k1m3 : Method := { name := "law", desc := "(IIIIII)Z", sig := { parameters := [.int, .int, .int, .int, .int, .int], returnType := some .boolean }, accessFlags := 9, code := some k1c3 }
/-- com/example/colonnade/colonnade/compress/FseTableSpreadPinLaw -/
def k1 : Class := { plain "com/example/colonnade/colonnade/compress/FseTableSpreadPinLaw" (some 0) with
  accessFlags := 49
  interfaces := #[]
  cf := some (fileOf pool1 9 #[] #[{ accessFlags := 1, nameIndex := 5, descriptorIndex := 6, attributes := #[] }, { accessFlags := 10, nameIndex := 12, descriptorIndex := 13, attributes := #[] }, { accessFlags := 10, nameIndex := 22, descriptorIndex := 23, attributes := #[] }, { accessFlags := 9, nameIndex := 33, descriptorIndex := 34, attributes := #[] }] 49 2 #[] #[])
  fields := #[]
  methods := #[k1m0, k1m1, k1m2, k1m3]
  instanceTypes := #[]
  staticTypes := #[]
  resolved := Array.replicate 44 none
  statics := none }

def pool2 : Array CpInfo := pool [(2, .class_ 4), (1, u "java/lang/Object"), (3, .class_ 10), (1, u "com/example/colonnade/colonnade/compress/FseTable"), (0, u "log"), (0, u "I"), (2, u "symbols"), (0, u "[B"), (2, u "bits"), (2, u "baselines"), (0, u "[I"), (7, .class_ 32), (0, u "com/example/colonnade/colonnade/compress/FseTable$ForwardBits"), (41, u "spread"), (0, u "([SII[B)V"), (9, u "SHORTEST_LOG")] 35

def k2c0 : Code := { maxStack := 3, maxLocals := 10, code := prog_44_method_6_code, exceptionTable := #[], attributes := #[] }
def k2m0 : Method := { name := "spread", desc := "([SII[B)V", sig := { parameters := [(.array .short), .int, .int, (.array .byte)], returnType := none }, accessFlags := 8, code := some k2c0 }
/-- com/example/colonnade/colonnade/compress/FseTable -/
def k2 : Class := { plain "com/example/colonnade/colonnade/compress/FseTable" (some 0) with
  accessFlags := 48
  interfaces := #[]
  cf := some (fileOf pool2 8 #[.nestMembers #[31]] #[{ accessFlags := 8, nameIndex := 74, descriptorIndex := 75, attributes := #[] }] 48 2 #[] #[{ accessFlags := 26, nameIndex := 85, descriptorIndex := 12, attributes := #[] }, { accessFlags := 16, nameIndex := 11, descriptorIndex := 12, attributes := #[] }, { accessFlags := 16, nameIndex := 15, descriptorIndex := 16, attributes := #[] }, { accessFlags := 16, nameIndex := 19, descriptorIndex := 16, attributes := #[] }, { accessFlags := 16, nameIndex := 22, descriptorIndex := 23, attributes := #[] }])
  fields := #[{ name := "SHORTEST_LOG", type := .int, accessFlags := 26, slot := 0, constantValue := 0 }, { name := "log", type := .int, accessFlags := 16, slot := 0, constantValue := 0 }, { name := "symbols", type := (.array .byte), accessFlags := 16, slot := 1, constantValue := 0 }, { name := "bits", type := (.array .byte), accessFlags := 16, slot := 2, constantValue := 0 }, { name := "baselines", type := (.array .int), accessFlags := 16, slot := 3, constantValue := 0 }]
  methods := #[k2m0]
  instanceTypes := #[.int, (.array .byte), (.array .byte), (.array .int)]
  staticTypes := #[.int]
  resolved := Array.replicate 121 none
  statics := none }

def pool3 : Array CpInfo := pool [(1, .class_ 2), (0, u "java/lang/Math"), (1, .class_ 6), (1, u "java/lang/Object"), (0, u "<init>"), (0, u "()V"), (89, .class_ 100), (1, u "java/lang/Math$RandomNumberGeneratorHolder"), (71, u "negativeZeroFloatBits"), (0, u "J"), (2, u "negativeZeroDoubleBits"), (21, u "max"), (46, u "$assertionsDisabled"), (0, u "Z"), (88, u "(II)I"), (2, u "twoToTheDoubleScaleDown"), (0, u "D"), (4, u "twoToTheDoubleScaleUp"), (9, u "E"), (3, u "PI"), (2, u "TAU"), (2, u "DEGREES_TO_RADIANS"), (0, u "RADIANS_TO_DEGREES")] 94

def k3m0 : Method := { name := "<init>", desc := "()V", sig := { parameters := [], returnType := none }, accessFlags := 2, code := none }
def k3c1 : Code := { maxStack := 2, maxLocals := 2, code := jdk_29_method_65_code, exceptionTable := #[], attributes := #[] }
def k3m1 : Method := { name := "max", desc := "(II)I", sig := { parameters := [.int, .int], returnType := some .int }, accessFlags := 9, code := some k3c1 }
/-- java/lang/Math -/
def k3 : Class := { plain "java/lang/Math" (some 0) with
  accessFlags := 49
  interfaces := #[]
  cf := some (fileOf pool3 1 #[.nestMembers #[98]] #[{ accessFlags := 2, nameIndex := 7, descriptorIndex := 8, attributes := #[] }, { accessFlags := 9, nameIndex := 198, descriptorIndex := 335, attributes := #[] }] 49 4 #[] #[{ accessFlags := 25, nameIndex := 354, descriptorIndex := 339, attributes := #[] }, { accessFlags := 25, nameIndex := 358, descriptorIndex := 339, attributes := #[] }, { accessFlags := 25, nameIndex := 361, descriptorIndex := 339, attributes := #[] }, { accessFlags := 26, nameIndex := 364, descriptorIndex := 339, attributes := #[] }, { accessFlags := 26, nameIndex := 365, descriptorIndex := 339, attributes := #[] }, { accessFlags := 26, nameIndex := 172, descriptorIndex := 173, attributes := #[] }, { accessFlags := 26, nameIndex := 176, descriptorIndex := 173, attributes := #[] }, { accessFlags := 8, nameIndex := 344, descriptorIndex := 339, attributes := #[] }, { accessFlags := 8, nameIndex := 338, descriptorIndex := 339, attributes := #[] }, { accessFlags := 4120, nameIndex := 245, descriptorIndex := 246, attributes := #[] }])
  fields := #[{ name := "E", type := .double, accessFlags := 25, slot := 0, constantValue := 0 }, { name := "PI", type := .double, accessFlags := 25, slot := 1, constantValue := 0 }, { name := "TAU", type := .double, accessFlags := 25, slot := 2, constantValue := 0 }, { name := "DEGREES_TO_RADIANS", type := .double, accessFlags := 26, slot := 3, constantValue := 0 }, { name := "RADIANS_TO_DEGREES", type := .double, accessFlags := 26, slot := 4, constantValue := 0 }, { name := "negativeZeroFloatBits", type := .long, accessFlags := 26, slot := 5, constantValue := 0 }, { name := "negativeZeroDoubleBits", type := .long, accessFlags := 26, slot := 6, constantValue := 0 }, { name := "twoToTheDoubleScaleUp", type := .double, accessFlags := 8, slot := 7, constantValue := 0 }, { name := "twoToTheDoubleScaleDown", type := .double, accessFlags := 8, slot := 8, constantValue := 0 }, { name := "$assertionsDisabled", type := .boolean, accessFlags := 4120, slot := 9, constantValue := 0 }]
  methods := #[k3m0, k3m1]
  instanceTypes := #[]
  staticTypes := #[.double, .double, .double, .double, .double, .long, .long, .double, .double, .boolean]
  resolved := Array.replicate 460 none
  statics := none }

def pool4 : Array CpInfo := pool [(1, u "java/lang/Cloneable"), (0, .class_ 1), (0, u "java/lang/Object"), (0, .class_ 3)] 3

/-- java/lang/Cloneable -/
def k4 : Class := { plain "java/lang/Cloneable" (some 0) with
  accessFlags := 1537
  interfaces := #[]
  cf := some (fileOf pool4 2 #[] #[] 1537 4 #[] #[])
  fields := #[]
  methods := #[]
  instanceTypes := #[]
  staticTypes := #[]
  resolved := Array.replicate 8 none
  statics := none }

def pool5 : Array CpInfo := pool [(1, u "java/io/Serializable"), (0, .class_ 1), (0, u "java/lang/Object"), (0, .class_ 3)] 3

/-- java/io/Serializable -/
def k5 : Class := { plain "java/io/Serializable" (some 0) with
  accessFlags := 1537
  interfaces := #[]
  cf := some (fileOf pool5 2 #[] #[] 1537 4 #[] #[])
  fields := #[]
  methods := #[]
  instanceTypes := #[]
  staticTypes := #[]
  resolved := Array.replicate 8 none
  statics := none }

/-- the primitive byte -/
def k6 : Class := { plain "byte" none with kind := .primitive 'B', accessFlags := 0x411 }
/-- [B -/
def k7 : Class := { plain "[B" (some 0) with kind := .array 6 .byte, interfaces := #[4, 5], accessFlags := 1041 }

/-- the primitive int -/
def k8 : Class := { plain "int" none with kind := .primitive 'I', accessFlags := 0x411 }
/-- [I -/
def k9 : Class := { plain "[I" (some 0) with kind := .array 8 .int, interfaces := #[4, 5], accessFlags := 1041 }

/-- the primitive short -/
def k10 : Class := { plain "short" none with kind := .primitive 'S', accessFlags := 0x411 }
/-- [S -/
def k11 : Class := { plain "[S" (some 0) with kind := .array 10 .short, interfaces := #[4, 5], accessFlags := 1041 }

def heap : Heap := #[]
def classes : Array Class := #[k0, k1, k2, k3, k4, k5, k6, k7, k8, k9, k10, k11]
def interned : List (Array UInt16 × Addr) := []
def slotsUsed : Nat := 0
def theMethod : MethodId := ⟨1, 3⟩
def args0 : Array Value := #[.int 5, .int 1, .int 1, .int 9, .int 4, .int 4]
def aboutOver (below : List Frame) : State where
  vm := { classes := classes, interned := interned.toArray }
  heap := heap
  slotsUsed := slotsUsed
  threads := #[{ frames := .invoking theMethod args0 :: below }]
def below0 : List Frame := [.native { method := ⟨0, 0⟩, args := #[] }]
def about1 : State := aboutOver below0
def p0 : Program := .bare "" "" ""
def e0 : Env := launch0.env 0 0 0
theorem w_frames : about1.frames = Frame.invoking theMethod args0 :: below0 := rfl
set_option maxRecDepth 65536 in
theorem w_args : argsFit about1.vm theMethod args0 = true := by decide +kernel
set_option maxRecDepth 65536 in
theorem w_heap : heapFits about1 = true := by decide +kernel
set_option maxRecDepth 65536 in
theorem w_runnable : about1.curStatus? = some .runnable := by decide +kernel
set_option maxRecDepth 65536 in
theorem w_alone : about1.alone = true := by decide +kernel
set_option maxRecDepth 65536 in
theorem w_named : about1.methodNamed? x = some theMethod := by decide +kernel
set_option maxRecDepth 65536 in
theorem w_hears : about1.hears theMethod below0 = true := by decide +kernel
set_option maxRecDepth 65536 in
theorem w_ripe : about1.ripe theMethod args0 below0 = true := by decide +kernel
theorem w_running : about1.status = .running := rfl
set_option maxRecDepth 65536 in
theorem w_room : about1.hasRoom e0.platform room_1 = true :=
  launch0.hasRoom_least _ room_1 (by decide +kernel) (by decide +kernel) (by decide +kernel) (by decide +kernel) (by decide +kernel) (by decide +kernel)
theorem allAtoms_all (ts : List Jvm.Cond) (a : Array Jvm.Value) (st : Jvm.State) : (allAtoms ts).before a st = ts.all (fun c => c.before a st) := by
  induction ts with
  | nil => rfl
  | cons c t ih =>
    show (Jvm.Cond.and c (allAtoms t)).before a st = _
    rw [Jvm.Cond.before_and, ih, List.all_cons]
def words1 : List Jvm.Cond := Jvm.Cond.code x code maxLocals ret :: tables_1
/-- a 'code' word, met by the world's own term for the bytes: nothing is compared byte by byte -/
theorem code_word {y : MethodName} {bytes : ByteArray} {mx : Nat} {rt : Option FieldType} {a : Array Value} {s : State} {m : MethodId} {meth : Method} {c : Code} (h1 : s.methodNamed? y = some m) (h2 : s.vm.method? m = some meth) (h3 : meth.code = some c) (h4 : c.code = bytes)
    (h5 : (c.maxLocals == mx && c.exceptionTable.isEmpty && decide (c.maxStack ≤ mostOperands) && decide (meth.sig.returnType = rt) && !meth.locks && decide (parseMethodDescriptor y.desc = some meth.sig)) = true) : (Jvm.Cond.code y bytes mx rt).before a s = true := by
  simp only [Bool.and_eq_true, beq_iff_eq, Bool.not_eq_true', decide_eq_true_eq] at h5
  obtain ⟨⟨⟨⟨⟨g1, g2⟩, g3⟩, g4⟩, g5⟩, g6⟩ := h5
  simp [Cond.before, Cond.holds, Cond.value, h1, h2, h3, h4, g1, g2, g3, g4, g5, g6]
def isCode : Jvm.Cond → Bool
  | .code _ _ _ _ => true
  | _ => false
theorem all_split {L : List Jvm.Cond} {P : Jvm.Cond → Bool} (h1 : L.all (fun c => isCode c || P c) = true) (h2 : ∀ c ∈ L.filter isCode, P c = true) : L.all P = true := by
  refine List.all_eq_true.mpr fun c hc => ?_
  have h := List.all_eq_true.mp h1 c hc
  rcases Bool.eq_false_or_eq_true (isCode c) with hi | hi
  · exact h2 c (List.mem_filter.mpr ⟨hc, hi⟩)
  · simpa [hi] using h
set_option maxRecDepth 65536 in
theorem w_c0 : (Jvm.Cond.code x code maxLocals ret).before args0 about1 = true := code_word (m := ⟨1, 3⟩) (meth := k1m3) (c := k1c3) (by decide +kernel) rfl rfl rfl (by decide +kernel)
set_option maxRecDepth 65536 in
theorem w_c1 : (Jvm.Cond.code ({ cls := "com/example/colonnade/colonnade/compress/FseTableSpreadPinLaw", name := "draw", desc := "(IZII)I" } : Jvm.MethodName) method_2_code (4 : Nat) (Option.some Jvm.ClassFile.FieldType.int)).before args0 about1 = true := code_word (m := ⟨1, 1⟩) (meth := k1m1) (c := k1c1) (by decide +kernel) rfl rfl rfl (by decide +kernel)
set_option maxRecDepth 65536 in
theorem w_c2 : (Jvm.Cond.code ({ cls := "com/example/colonnade/colonnade/compress/FseTable", name := "spread", desc := "([SII[B)V" } : Jvm.MethodName) prog_44_method_6_code (10 : Nat) (Option.none : Option Jvm.ClassFile.FieldType)).before args0 about1 = true := code_word (m := ⟨2, 0⟩) (meth := k2m0) (c := k2c0) (by decide +kernel) rfl rfl rfl (by decide +kernel)
set_option maxRecDepth 65536 in
theorem w_c3 : (Jvm.Cond.code ({ cls := "java/lang/Math", name := "max", desc := "(II)I" } : Jvm.MethodName) jdk_29_method_65_code (2 : Nat) (Option.some Jvm.ClassFile.FieldType.int)).before args0 about1 = true := code_word (m := ⟨3, 1⟩) (meth := k3m1) (c := k3c1) (by decide +kernel) rfl rfl rfl (by decide +kernel)
set_option maxRecDepth 65536 in
theorem w_c4 : (Jvm.Cond.code ({ cls := "com/example/colonnade/colonnade/compress/FseTableSpreadPinLaw", name := "nthNeg", desc := "(IIIII)I" } : Jvm.MethodName) method_3_code (6 : Nat) (Option.some Jvm.ClassFile.FieldType.int)).before args0 about1 = true := code_word (m := ⟨1, 2⟩) (meth := k1m2) (c := k1c2) (by decide +kernel) rfl rfl rfl (by decide +kernel)
def codes1 : List Jvm.Cond := [Jvm.Cond.code x code maxLocals ret, Jvm.Cond.code ({ cls := "com/example/colonnade/colonnade/compress/FseTableSpreadPinLaw", name := "draw", desc := "(IZII)I" } : Jvm.MethodName) method_2_code (4 : Nat) (Option.some Jvm.ClassFile.FieldType.int), Jvm.Cond.code ({ cls := "com/example/colonnade/colonnade/compress/FseTable", name := "spread", desc := "([SII[B)V" } : Jvm.MethodName) prog_44_method_6_code (10 : Nat) (Option.none : Option Jvm.ClassFile.FieldType), Jvm.Cond.code ({ cls := "java/lang/Math", name := "max", desc := "(II)I" } : Jvm.MethodName) jdk_29_method_65_code (2 : Nat) (Option.some Jvm.ClassFile.FieldType.int), Jvm.Cond.code ({ cls := "com/example/colonnade/colonnade/compress/FseTableSpreadPinLaw", name := "nthNeg", desc := "(IIIII)I" } : Jvm.MethodName) method_3_code (6 : Nat) (Option.some Jvm.ClassFile.FieldType.int)]
set_option maxRecDepth 65536 in
theorem codes_eq : words1.filter isCode = codes1 := rfl
theorem w_codes : ∀ c ∈ words1.filter isCode, c.before args0 about1 = true := by
  rw [codes_eq]
  intro c hc
  simp only [codes1, List.mem_cons, List.not_mem_nil, or_false] at hc
  rcases hc with rfl | rfl | rfl | rfl | rfl
  · exact w_c0
  · exact w_c1
  · exact w_c2
  · exact w_c3
  · exact w_c4
set_option maxRecDepth 65536 in
theorem w_t1 : words1.all (fun c => isCode c || c.before args0 about1) = true := by decide +kernel
theorem w_tables : (allAtoms (Jvm.Cond.code x code maxLocals ret :: tables_1)).before args0 about1 = true := by
  rw [allAtoms_all]
  show words1.all (fun c => c.before args0 about1) = true
  refine all_split ?_ w_codes
  rw [w_t1]
set_option maxRecDepth 65536 in
theorem w_case : (Jvm.Cond.and given_1 narrow_1).before args0 about1 = true := by decide +kernel
theorem w_applies : (headSpec (Jvm.Cond.code x code maxLocals ret :: tables_1) room_1).applies x e0.platform about1 = true :=
  (Spec.applies_iff w_frames).mpr ⟨w_running, w_runnable, w_alone, w_named, w_hears, w_ripe, w_room, w_tables⟩
theorem atStart : AtStart classFile x code maxLocals ret World_1 tables_1 room_1 Calls_1 rest_1 Pre_1 launch0 p0 e0 about1 theMethod args0 below0 :=
  ⟨lists_1, trivial, launch0.admits_env _ _ _, launch0.least_env, fairChoices_fair.cas, fairChoices_fair.clock, w_frames, w_args, w_heap, w_applies, trivial, trivial, w_case⟩
end start1
theorem witness_1 : WitnessClaimed_1 := ⟨start1.p0, start1.e0, start1.about1, start1.theMethod, start1.args0, start1.below0, start1.atStart⟩
end Jvm.Pilot.@@N@@
