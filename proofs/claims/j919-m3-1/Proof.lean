import JvmDerived
import JvmDerived.Pilot.@@N@@Statement
import JvmDerived.Pilot.@@N@@Code
set_option linter.unusedVariables false
set_option linter.unusedSimpArgs false
namespace Jvm.OwnK
open Sem ClassFile Op Lib Jvm.Stand Jvm.Free Jvm.LawKit Jvm.RoadKit
def Ctx : Type := Program × Launch × Env × State × MethodId × Array Value × List Frame × Method × Code
def Ctx.p (K : Ctx) : Program := K.1
def Ctx.l (K : Ctx) : Launch := K.2.1
def Ctx.e (K : Ctx) : Env := K.2.2.1
def Ctx.s (K : Ctx) : State := K.2.2.2.1
def Ctx.m (K : Ctx) : MethodId := K.2.2.2.2.1
def Ctx.args (K : Ctx) : Array Value := K.2.2.2.2.2.1
def Ctx.below (K : Ctx) : List Frame := K.2.2.2.2.2.2.1
def Ctx.meth (K : Ctx) : Method := K.2.2.2.2.2.2.2.1
def Ctx.c (K : Ctx) : Code := K.2.2.2.2.2.2.2.2
/-- from here the run ends by a return that answers Q -/
def Go (K : Ctx) (R : Room) (n0 : Nat) (Q : Option Value → Heap → Prop) (T : State) (pc : Nat) (L : Array Slot) (st : List Value) : Prop :=
  ∃ (s₂ : State) (o : Outcome), Steps K.p.tables K.e K.below (T.setTop (mkF K.m pc L st)) s₂ ∧ s₂.status = .running ∧ Ended s₂ K.below o ∧
    ∃ (v : Option Value) (Lc : List Loc), o = .returned v ∧ (Q v s₂.heap ∧ Fr n0 Lc) ∧ FrameEnd K.s o s₂ Lc R.cells R.slots
/-- where the run stands -/
def St (K : Ctx) (Z : State) (R : Room) (y : MethodName) (bytes : ByteArray) (maxL : Nat) (ret : Option FieldType) (n0 : Nat) (T : State) (h : Heap) (cells slots : Nat) : Prop :=
  (∃ locs, Stand K.p K.l K.e R K.s K.m K.args K.below K.meth K.c T locs cells slots ∧ Fr n0 locs) ∧ T.heap = h ∧ n0 ≤ K.s.heap.size ∧ K.p.tables.exec = Jvm.exec ∧ Z.Warmed39 K.s.vm ∧ K.c.code = bytes ∧ K.c.maxLocals = maxL ∧
    K.meth.sig.returnType = ret ∧ K.meth.locks = false ∧ K.s.vm.findClass y.cls = some K.m.cls ∧ K.meth.name = y.name
/-- what a body does, called with the arguments as' at the heap h -/
def Ctr (Z : State) (n0 : Nat) (y : MethodName) (bytes : ByteArray) (maxL : Nat) (ret : Option FieldType) (R : Room) (as' : List Value) (h : Heap) (Q : Option Value → Heap → Prop) : Prop :=
  ∀ (l : Launch) (ws : List Jvm.Cond), MetFree l y (head1 (Jvm.Cond.code y bytes maxL ret :: ws) R) (fun a U => a = as'.toArray ∧ Z.Warmed39 U.vm ∧ U.heap = h) (fun _ _ _ _ _ => True)
    (fun _ U o U' => ∃ v L, o = .returned v ∧ (Q v U'.heap ∧ Fr n0 L) ∧ FrameEnd U o U' L R.cells R.slots)
section Kit
variable {K : Ctx} {Z : State} {R : Room} {y : MethodName} {bytes : ByteArray} {maxL : Nat} {ret : Option FieldType} {n0 : Nat} {T : State} {h : Heap} {cl sl : Nat} {Q : Option Value → Heap → Prop} {pc pc' : Nat} {L L' : Array Slot} {st : List Value} {a0 : Array Value}
theorem Go.step {T' : State} {st' : List Value} (hs : ∀ target, Steps K.p.tables K.e K.below (T'.setTop (mkF K.m pc' L' st')) target → Steps K.p.tables K.e K.below (T.setTop (mkF K.m pc L st)) target) (k : Go K R n0 Q T' pc' L' st') : Go K R n0 Q T pc L st := by
  obtain ⟨s₂, o, h1, r⟩ := k
  exact ⟨s₂, o, hs _ h1, r⟩
theorem St.size (S : St K Z R y bytes maxL ret n0 T h cl sl) : n0 ≤ h.size := by
  obtain ⟨⟨locs, X, hF⟩, e0, hn, -⟩ := S
  have q : K.s.heap.size ≤ T.heap.size := X.same.2.1
  rw [← e0]; exact Nat.le_trans hn q
theorem St.more (S : St K Z R y bytes maxL ret n0 T h cl sl) {cl' sl' : Nat} (h1 : cl ≤ cl') (h2 : sl ≤ sl') : St K Z R y bytes maxL ret n0 T h cl' sl' := by
  obtain ⟨⟨locs, X, hF⟩, r⟩ := S
  exact ⟨⟨locs, X.more h1 h2, hF⟩, r⟩
theorem Ctr.of {as' : List Value} (hpl : plainFor y = true) (hn : n0 ≤ h.size) (hef : ∀ m, entryFrame m as'.toArray maxL = mkF m 0 L []) (body : ∀ (K : Ctx) (T : State), St K Z R y bytes maxL ret n0 T h 0 0 → Go K R n0 Q T 0 L []) : Ctr Z n0 y bytes maxL ret R as' h Q := by
  intro l ws
  refine MetFree.of_bodySF hpl hisR ?_
  intro p e s m args below meth c s₁ Bd hml0 hP hK
  obtain ⟨rfl, hZ, hh⟩ := hP
  have e0 : s₁.heap = h := by rw [← hh, Bd.state]; rfl
  have X0 : Stand p l e R s m as'.toArray below meth c s₁ [] 0 0 := Stand.of_body Bd
  obtain ⟨s₂, o, h1, h2, h3, h4⟩ := body (p, l, e, s, m, as'.toArray, below, meth, c) s₁ ⟨⟨[], X0, Fr.nil _⟩, e0, by rw [← hh] at hn; exact hn, Bd.exec, hZ, Bd.bytes, hml0, Bd.returns, BodyLoose.notSynchronized Bd, findClass_of_methodNamed Bd.named, (name_of_methodNamed Bd.named Bd.method).1⟩
  exact ⟨s₂, o, castTop (hef m) h1, h2, h3, h4⟩
theorem Ctr.imp {as' : List Value} {Q' : Option Value → Heap → Prop} (C : Ctr Z n0 y bytes maxL ret R as' h Q) (hq : ∀ v h', Q v h' → Q' v h') : Ctr Z n0 y bytes maxL ret R as' h Q' := by
  intro l ws p e ha hc hk s m args below hf happ hP hK
  obtain ⟨n, o, h1, h2, h3, v, L, e1, ⟨e2, e3⟩, e4⟩ := C l ws p e ha hc hk s m args below hf happ hP hK
  exact ⟨n, o, h1, h2, h3, v, L, e1, ⟨hq _ _ e2, e3⟩, e4⟩

theorem px_iload (S : St K Z R y bytes maxL ret n0 T h cl sl) {k : Nat} {v : Int32} (hd : decode bytes pc = .ok (.iload k, 2)) (hp : pc + 2 = pc') (hl : L[k]? = some (.val (.int v))) (k : Go K R n0 Q T pc' L (.int v :: st)) : Go K R n0 Q T pc L st := by
  subst hp
  obtain ⟨⟨locs, X, hF⟩, e0, hn0, hx, hZ, hby, hml, hret, hlk, hown, hnm⟩ := S
  exact Go.step (fun _ t => XS.iload X.here hx rfl (hb hby hd) hl t) k
theorem px_iloadN (S : St K Z R y bytes maxL ret n0 T h cl sl) {k : Fin 4} {v : Int32} (hd : decode bytes pc = .ok (.iload_n k, 1)) (hp : pc + 1 = pc') (hl : L[k.val]? = some (.val (.int v))) (k : Go K R n0 Q T pc' L (.int v :: st)) : Go K R n0 Q T pc L st := by
  subst hp
  obtain ⟨⟨locs, X, hF⟩, e0, hn0, hx, hZ, hby, hml, hret, hlk, hown, hnm⟩ := S
  exact Go.step (fun _ t => XS.iloadN X.here hx rfl (hb hby hd) hl t) k
theorem px_lload (S : St K Z R y bytes maxL ret n0 T h cl sl) {k : Nat} {v : Int64} (hd : decode bytes pc = .ok (.lload k, 2)) (hp : pc + 2 = pc') (hl : L[k]? = some (.val (.long v))) (k : Go K R n0 Q T pc' L (.long v :: st)) : Go K R n0 Q T pc L st := by
  subst hp
  obtain ⟨⟨locs, X, hF⟩, e0, hn0, hx, hZ, hby, hml, hret, hlk, hown, hnm⟩ := S
  exact Go.step (fun _ t => XS.lload X.here hx rfl (hb hby hd) hl t) k
theorem px_lloadN (S : St K Z R y bytes maxL ret n0 T h cl sl) {k : Fin 4} {v : Int64} (hd : decode bytes pc = .ok (.lload_n k, 1)) (hp : pc + 1 = pc') (hl : L[k.val]? = some (.val (.long v))) (k : Go K R n0 Q T pc' L (.long v :: st)) : Go K R n0 Q T pc L st := by
  subst hp
  obtain ⟨⟨locs, X, hF⟩, e0, hn0, hx, hZ, hby, hml, hret, hlk, hown, hnm⟩ := S
  exact Go.step (fun _ t => XS.lloadN X.here hx rfl (hb hby hd) hl t) k
theorem px_aload (S : St K Z R y bytes maxL ret n0 T h cl sl) {k : Nat} {v : Value} (hd : decode bytes pc = .ok (.aload k, 2)) (hp : pc + 2 = pc') (hl : L[k]? = some (.val v)) (hv : v.isRef = true) (k : Go K R n0 Q T pc' L (v :: st)) : Go K R n0 Q T pc L st := by
  subst hp
  obtain ⟨⟨locs, X, hF⟩, e0, hn0, hx, hZ, hby, hml, hret, hlk, hown, hnm⟩ := S
  exact Go.step (fun _ t => XS.aload X.here hx rfl (hb hby hd) hl hv t) k
theorem px_aloadN (S : St K Z R y bytes maxL ret n0 T h cl sl) {k : Fin 4} {v : Value} (hd : decode bytes pc = .ok (.aload_n k, 1)) (hp : pc + 1 = pc') (hl : L[k.val]? = some (.val v)) (hv : v.isRef = true) (k : Go K R n0 Q T pc' L (v :: st)) : Go K R n0 Q T pc L st := by
  subst hp
  obtain ⟨⟨locs, X, hF⟩, e0, hn0, hx, hZ, hby, hml, hret, hlk, hown, hnm⟩ := S
  exact Go.step (fun _ t => XS.aloadN X.here hx rfl (hb hby hd) hl hv t) k
theorem px_istore (S : St K Z R y bytes maxL ret n0 T h cl sl) {k : Nat} {v : Int32} (hd : decode bytes pc = .ok (.istore k, 2)) (hp : pc + 2 = pc') (hl : storeLocals L k (.int v) = some L') (k : Go K R n0 Q T pc' L' st) : Go K R n0 Q T pc L (.int v :: st) := by
  subst hp
  obtain ⟨⟨locs, X, hF⟩, e0, hn0, hx, hZ, hby, hml, hret, hlk, hown, hnm⟩ := S
  exact Go.step (fun _ t => XS.istore X.here hx rfl (hb hby hd) rfl hl t) k
theorem px_istoreN (S : St K Z R y bytes maxL ret n0 T h cl sl) {k : Fin 4} {v : Int32} (hd : decode bytes pc = .ok (.istore_n k, 1)) (hp : pc + 1 = pc') (hl : storeLocals L k.val (.int v) = some L') (k : Go K R n0 Q T pc' L' st) : Go K R n0 Q T pc L (.int v :: st) := by
  subst hp
  obtain ⟨⟨locs, X, hF⟩, e0, hn0, hx, hZ, hby, hml, hret, hlk, hown, hnm⟩ := S
  exact Go.step (fun _ t => XS.istoreN X.here hx rfl (hb hby hd) rfl hl t) k
theorem px_lstore (S : St K Z R y bytes maxL ret n0 T h cl sl) {k : Nat} {v : Int64} (hd : decode bytes pc = .ok (.lstore k, 2)) (hp : pc + 2 = pc') (hl : storeLocals L k (.long v) = some L') (k : Go K R n0 Q T pc' L' st) : Go K R n0 Q T pc L (.long v :: st) := by
  subst hp
  obtain ⟨⟨locs, X, hF⟩, e0, hn0, hx, hZ, hby, hml, hret, hlk, hown, hnm⟩ := S
  exact Go.step (fun _ t => XS.lstore X.here hx rfl (hb hby hd) rfl hl t) k
theorem px_lstoreN (S : St K Z R y bytes maxL ret n0 T h cl sl) {k : Fin 4} {v : Int64} (hd : decode bytes pc = .ok (.lstore_n k, 1)) (hp : pc + 1 = pc') (hl : storeLocals L k.val (.long v) = some L') (k : Go K R n0 Q T pc' L' st) : Go K R n0 Q T pc L (.long v :: st) := by
  subst hp
  obtain ⟨⟨locs, X, hF⟩, e0, hn0, hx, hZ, hby, hml, hret, hlk, hown, hnm⟩ := S
  exact Go.step (fun _ t => XS.lstoreN X.here hx rfl (hb hby hd) rfl hl t) k
theorem px_astore (S : St K Z R y bytes maxL ret n0 T h cl sl) {k : Nat} {v : Value} (hd : decode bytes pc = .ok (.astore k, 2)) (hp : pc + 2 = pc') (hv : v.isRef = true) (hl : storeLocals L k v = some L') (k : Go K R n0 Q T pc' L' st) : Go K R n0 Q T pc L (v :: st) := by
  subst hp
  obtain ⟨⟨locs, X, hF⟩, e0, hn0, hx, hZ, hby, hml, hret, hlk, hown, hnm⟩ := S
  exact Go.step (fun _ t => XS.astore X.here hx rfl (hb hby hd) rfl hv hl t) k
theorem px_astoreN (S : St K Z R y bytes maxL ret n0 T h cl sl) {k : Fin 4} {v : Value} (hd : decode bytes pc = .ok (.astore_n k, 1)) (hp : pc + 1 = pc') (hv : v.isRef = true) (hl : storeLocals L k.val v = some L') (k : Go K R n0 Q T pc' L' st) : Go K R n0 Q T pc L (v :: st) := by
  subst hp
  obtain ⟨⟨locs, X, hF⟩, e0, hn0, hx, hZ, hby, hml, hret, hlk, hown, hnm⟩ := S
  exact Go.step (fun _ t => XS.astoreN X.here hx rfl (hb hby hd) rfl hv hl t) k
theorem px_iconst (S : St K Z R y bytes maxL ret n0 T h cl sl) {i : Int} {v : Int32} (hd : decode bytes pc = .ok (.iconst i, 1)) (hp : pc + 1 = pc') (hv : Int32.ofInt i = v) (k : Go K R n0 Q T pc' L (.int v :: st)) : Go K R n0 Q T pc L st := by
  subst hp
  obtain ⟨⟨locs, X, hF⟩, e0, hn0, hx, hZ, hby, hml, hret, hlk, hown, hnm⟩ := S
  exact Go.step (fun _ t => XS.iconst X.here hx rfl (hb hby hd) (by rw [hv]; exact t)) k
theorem px_bipush (S : St K Z R y bytes maxL ret n0 T h cl sl) {i : Int} {v : Int32} (hd : decode bytes pc = .ok (.bipush i, 2)) (hp : pc + 2 = pc') (hv : (Int8.ofInt i).toInt32 = v) (k : Go K R n0 Q T pc' L (.int v :: st)) : Go K R n0 Q T pc L st := by
  subst hp
  obtain ⟨⟨locs, X, hF⟩, e0, hn0, hx, hZ, hby, hml, hret, hlk, hown, hnm⟩ := S
  exact Go.step (fun _ t => XS.bipush X.here hx rfl (hb hby hd) (by rw [hv]; exact t)) k
theorem px_sipush (S : St K Z R y bytes maxL ret n0 T h cl sl) {i : Int} {v : Int32} (hd : decode bytes pc = .ok (.sipush i, 3)) (hp : pc + 3 = pc') (hv : (Int16.ofInt i).toInt32 = v) (k : Go K R n0 Q T pc' L (.int v :: st)) : Go K R n0 Q T pc L st := by
  subst hp
  obtain ⟨⟨locs, X, hF⟩, e0, hn0, hx, hZ, hby, hml, hret, hlk, hown, hnm⟩ := S
  exact Go.step (fun _ t => XS.sipush X.here hx rfl (hb hby hd) (by rw [hv]; exact t)) k
theorem px_lconst (S : St K Z R y bytes maxL ret n0 T h cl sl) {i : Fin 2} {v : Int64} (hd : decode bytes pc = .ok (.lconst i, 1)) (hp : pc + 1 = pc') (hv : Int64.ofNat i = v) (k : Go K R n0 Q T pc' L (.long v :: st)) : Go K R n0 Q T pc L st := by
  subst hp
  obtain ⟨⟨locs, X, hF⟩, e0, hn0, hx, hZ, hby, hml, hret, hlk, hown, hnm⟩ := S
  exact Go.step (fun _ t => XS.lconst X.here hx rfl (hb hby hd) (by rw [hv]; exact t)) k
theorem px_aconstNull (S : St K Z R y bytes maxL ret n0 T h cl sl) (hd : decode bytes pc = .ok (.aconst_null, 1)) (hp : pc + 1 = pc') (k : Go K R n0 Q T pc' L (.null :: st)) : Go K R n0 Q T pc L st := by
  subst hp
  obtain ⟨⟨locs, X, hF⟩, e0, hn0, hx, hZ, hby, hml, hret, hlk, hown, hnm⟩ := S
  exact Go.step (fun _ t => XS.aconstNull X.here hx rfl (hb hby hd) t) k
theorem px_iadd (S : St K Z R y bytes maxL ret n0 T h cl sl) {u v : Int32} (hd : decode bytes pc = .ok (.iadd, 1)) (hp : pc + 1 = pc') (k : Go K R n0 Q T pc' L (.int (u + v) :: st)) : Go K R n0 Q T pc L (.int v :: .int u :: st) := by
  subst hp
  obtain ⟨⟨locs, X, hF⟩, e0, hn0, hx, hZ, hby, hml, hret, hlk, hown, hnm⟩ := S
  exact Go.step (fun _ t => XS.iadd X.here hx rfl (hb hby hd) rfl t) k
theorem px_ladd (S : St K Z R y bytes maxL ret n0 T h cl sl) {u v : Int64} (hd : decode bytes pc = .ok (.ladd, 1)) (hp : pc + 1 = pc') (k : Go K R n0 Q T pc' L (.long (u + v) :: st)) : Go K R n0 Q T pc L (.long v :: .long u :: st) := by
  subst hp
  obtain ⟨⟨locs, X, hF⟩, e0, hn0, hx, hZ, hby, hml, hret, hlk, hown, hnm⟩ := S
  exact Go.step (fun _ t => XS.ladd X.here hx rfl (hb hby hd) rfl t) k
theorem px_isub (S : St K Z R y bytes maxL ret n0 T h cl sl) {u v : Int32} (hd : decode bytes pc = .ok (.isub, 1)) (hp : pc + 1 = pc') (k : Go K R n0 Q T pc' L (.int (u - v) :: st)) : Go K R n0 Q T pc L (.int v :: .int u :: st) := by
  subst hp
  obtain ⟨⟨locs, X, hF⟩, e0, hn0, hx, hZ, hby, hml, hret, hlk, hown, hnm⟩ := S
  exact Go.step (fun _ t => XS.isub X.here hx rfl (hb hby hd) rfl t) k
theorem px_lsub (S : St K Z R y bytes maxL ret n0 T h cl sl) {u v : Int64} (hd : decode bytes pc = .ok (.lsub, 1)) (hp : pc + 1 = pc') (k : Go K R n0 Q T pc' L (.long (u - v) :: st)) : Go K R n0 Q T pc L (.long v :: .long u :: st) := by
  subst hp
  obtain ⟨⟨locs, X, hF⟩, e0, hn0, hx, hZ, hby, hml, hret, hlk, hown, hnm⟩ := S
  exact Go.step (fun _ t => XS.lsub X.here hx rfl (hb hby hd) rfl t) k
theorem px_imul (S : St K Z R y bytes maxL ret n0 T h cl sl) {u v : Int32} (hd : decode bytes pc = .ok (.imul, 1)) (hp : pc + 1 = pc') (k : Go K R n0 Q T pc' L (.int (u * v) :: st)) : Go K R n0 Q T pc L (.int v :: .int u :: st) := by
  subst hp
  obtain ⟨⟨locs, X, hF⟩, e0, hn0, hx, hZ, hby, hml, hret, hlk, hown, hnm⟩ := S
  exact Go.step (fun _ t => XS.imul X.here hx rfl (hb hby hd) rfl t) k
theorem px_lmul (S : St K Z R y bytes maxL ret n0 T h cl sl) {u v : Int64} (hd : decode bytes pc = .ok (.lmul, 1)) (hp : pc + 1 = pc') (k : Go K R n0 Q T pc' L (.long (u * v) :: st)) : Go K R n0 Q T pc L (.long v :: .long u :: st) := by
  subst hp
  obtain ⟨⟨locs, X, hF⟩, e0, hn0, hx, hZ, hby, hml, hret, hlk, hown, hnm⟩ := S
  exact Go.step (fun _ t => XS.lmul X.here hx rfl (hb hby hd) rfl t) k
theorem px_iand (S : St K Z R y bytes maxL ret n0 T h cl sl) {u v : Int32} (hd : decode bytes pc = .ok (.iand, 1)) (hp : pc + 1 = pc') (k : Go K R n0 Q T pc' L (.int (u &&& v) :: st)) : Go K R n0 Q T pc L (.int v :: .int u :: st) := by
  subst hp
  obtain ⟨⟨locs, X, hF⟩, e0, hn0, hx, hZ, hby, hml, hret, hlk, hown, hnm⟩ := S
  exact Go.step (fun _ t => XS.iand X.here hx rfl (hb hby hd) rfl t) k
theorem px_land (S : St K Z R y bytes maxL ret n0 T h cl sl) {u v : Int64} (hd : decode bytes pc = .ok (.land, 1)) (hp : pc + 1 = pc') (k : Go K R n0 Q T pc' L (.long (u &&& v) :: st)) : Go K R n0 Q T pc L (.long v :: .long u :: st) := by
  subst hp
  obtain ⟨⟨locs, X, hF⟩, e0, hn0, hx, hZ, hby, hml, hret, hlk, hown, hnm⟩ := S
  exact Go.step (fun _ t => XS.land X.here hx rfl (hb hby hd) rfl t) k
theorem px_ior (S : St K Z R y bytes maxL ret n0 T h cl sl) {u v : Int32} (hd : decode bytes pc = .ok (.ior, 1)) (hp : pc + 1 = pc') (k : Go K R n0 Q T pc' L (.int (u ||| v) :: st)) : Go K R n0 Q T pc L (.int v :: .int u :: st) := by
  subst hp
  obtain ⟨⟨locs, X, hF⟩, e0, hn0, hx, hZ, hby, hml, hret, hlk, hown, hnm⟩ := S
  exact Go.step (fun _ t => XS.ior X.here hx rfl (hb hby hd) rfl t) k
theorem px_lor (S : St K Z R y bytes maxL ret n0 T h cl sl) {u v : Int64} (hd : decode bytes pc = .ok (.lor, 1)) (hp : pc + 1 = pc') (k : Go K R n0 Q T pc' L (.long (u ||| v) :: st)) : Go K R n0 Q T pc L (.long v :: .long u :: st) := by
  subst hp
  obtain ⟨⟨locs, X, hF⟩, e0, hn0, hx, hZ, hby, hml, hret, hlk, hown, hnm⟩ := S
  exact Go.step (fun _ t => XS.lor X.here hx rfl (hb hby hd) rfl t) k
theorem px_ixor (S : St K Z R y bytes maxL ret n0 T h cl sl) {u v : Int32} (hd : decode bytes pc = .ok (.ixor, 1)) (hp : pc + 1 = pc') (k : Go K R n0 Q T pc' L (.int (u ^^^ v) :: st)) : Go K R n0 Q T pc L (.int v :: .int u :: st) := by
  subst hp
  obtain ⟨⟨locs, X, hF⟩, e0, hn0, hx, hZ, hby, hml, hret, hlk, hown, hnm⟩ := S
  exact Go.step (fun _ t => XS.ixor X.here hx rfl (hb hby hd) rfl t) k
theorem px_lxor (S : St K Z R y bytes maxL ret n0 T h cl sl) {u v : Int64} (hd : decode bytes pc = .ok (.lxor, 1)) (hp : pc + 1 = pc') (k : Go K R n0 Q T pc' L (.long (u ^^^ v) :: st)) : Go K R n0 Q T pc L (.long v :: .long u :: st) := by
  subst hp
  obtain ⟨⟨locs, X, hF⟩, e0, hn0, hx, hZ, hby, hml, hret, hlk, hown, hnm⟩ := S
  exact Go.step (fun _ t => XS.lxor X.here hx rfl (hb hby hd) rfl t) k
def ushr (u v : Int32) : Int32 := (u.toUInt32 >>> (v &&& 31).toUInt32).toInt32
def ushrL (u : Int64) (v : Int32) : Int64 := (u.toUInt64 >>> (v &&& 0x3f).toInt64.toUInt64).toInt64
def i2c (v : Int32) : Int32 := v.toUInt32.toUInt16.toUInt32.toInt32
def i2b (v : Int32) : Int32 := v.toInt8.toInt32
def i2s (v : Int32) : Int32 := v.toInt16.toInt32
theorem px_ishl (S : St K Z R y bytes maxL ret n0 T h cl sl) {u v : Int32} (hd : decode bytes pc = .ok (.ishl, 1)) (hp : pc + 1 = pc') (k : Go K R n0 Q T pc' L (.int (u <<< (v &&& 31)) :: st)) : Go K R n0 Q T pc L (.int v :: .int u :: st) := by
  subst hp
  obtain ⟨⟨locs, X, hF⟩, e0, hn0, hx, hZ, hby, hml, hret, hlk, hown, hnm⟩ := S
  exact Go.step (fun _ t => XS.ishl X.here hx rfl (hb hby hd) rfl t) k
theorem px_ishr (S : St K Z R y bytes maxL ret n0 T h cl sl) {u v : Int32} (hd : decode bytes pc = .ok (.ishr, 1)) (hp : pc + 1 = pc') (k : Go K R n0 Q T pc' L (.int (u >>> (v &&& 31)) :: st)) : Go K R n0 Q T pc L (.int v :: .int u :: st) := by
  subst hp
  obtain ⟨⟨locs, X, hF⟩, e0, hn0, hx, hZ, hby, hml, hret, hlk, hown, hnm⟩ := S
  exact Go.step (fun _ t => XS.ishr X.here hx rfl (hb hby hd) rfl t) k
theorem px_iushr (S : St K Z R y bytes maxL ret n0 T h cl sl) {u v : Int32} (hd : decode bytes pc = .ok (.iushr, 1)) (hp : pc + 1 = pc') (k : Go K R n0 Q T pc' L (.int (ushr u v) :: st)) : Go K R n0 Q T pc L (.int v :: .int u :: st) := by
  subst hp
  obtain ⟨⟨locs, X, hF⟩, e0, hn0, hx, hZ, hby, hml, hret, hlk, hown, hnm⟩ := S
  exact Go.step (fun _ t => XS.iushr X.here hx rfl (hb hby hd) rfl t) k
theorem px_lshl (S : St K Z R y bytes maxL ret n0 T h cl sl) {u : Int64} {v : Int32} (hd : decode bytes pc = .ok (.lshl, 1)) (hp : pc + 1 = pc') (k : Go K R n0 Q T pc' L (.long (u <<< (v &&& 0x3f).toInt64) :: st)) : Go K R n0 Q T pc L (.int v :: .long u :: st) := by
  subst hp
  obtain ⟨⟨locs, X, hF⟩, e0, hn0, hx, hZ, hby, hml, hret, hlk, hown, hnm⟩ := S
  exact Go.step (fun _ t => XS.lshl X.here hx rfl (hb hby hd) rfl t) k
theorem px_lshr (S : St K Z R y bytes maxL ret n0 T h cl sl) {u : Int64} {v : Int32} (hd : decode bytes pc = .ok (.lshr, 1)) (hp : pc + 1 = pc') (k : Go K R n0 Q T pc' L (.long (u >>> (v &&& 0x3f).toInt64) :: st)) : Go K R n0 Q T pc L (.int v :: .long u :: st) := by
  subst hp
  obtain ⟨⟨locs, X, hF⟩, e0, hn0, hx, hZ, hby, hml, hret, hlk, hown, hnm⟩ := S
  exact Go.step (fun _ t => XS.lshr X.here hx rfl (hb hby hd) rfl t) k
theorem px_lushr (S : St K Z R y bytes maxL ret n0 T h cl sl) {u : Int64} {v : Int32} (hd : decode bytes pc = .ok (.lushr, 1)) (hp : pc + 1 = pc') (k : Go K R n0 Q T pc' L (.long (ushrL u v) :: st)) : Go K R n0 Q T pc L (.int v :: .long u :: st) := by
  subst hp
  obtain ⟨⟨locs, X, hF⟩, e0, hn0, hx, hZ, hby, hml, hret, hlk, hown, hnm⟩ := S
  exact Go.step (fun _ t => XS.lushr X.here hx rfl (hb hby hd) rfl t) k
theorem px_idiv (S : St K Z R y bytes maxL ret n0 T h cl sl) {u v : Int32} (hd : decode bytes pc = .ok (.idiv, 1)) (hp : pc + 1 = pc') (hz : v ≠ 0) (k : Go K R n0 Q T pc' L (.int (u / v) :: st)) : Go K R n0 Q T pc L (.int v :: .int u :: st) := by
  subst hp
  obtain ⟨⟨locs, X, hF⟩, e0, hn0, hx, hZ, hby, hml, hret, hlk, hown, hnm⟩ := S
  exact Go.step (fun _ t => XS.idiv X.here hx rfl (hb hby hd) rfl hz t) k
theorem px_irem (S : St K Z R y bytes maxL ret n0 T h cl sl) {u v : Int32} (hd : decode bytes pc = .ok (.irem, 1)) (hp : pc + 1 = pc') (hz : v ≠ 0) (k : Go K R n0 Q T pc' L (.int (u % v) :: st)) : Go K R n0 Q T pc L (.int v :: .int u :: st) := by
  subst hp
  obtain ⟨⟨locs, X, hF⟩, e0, hn0, hx, hZ, hby, hml, hret, hlk, hown, hnm⟩ := S
  exact Go.step (fun _ t => iremM X hx rfl (hb hby hd) rfl hz t) k
theorem px_ldiv (S : St K Z R y bytes maxL ret n0 T h cl sl) {u v : Int64} (hd : decode bytes pc = .ok (.ldiv, 1)) (hp : pc + 1 = pc') (hz : v ≠ 0) (k : Go K R n0 Q T pc' L (.long (u / v) :: st)) : Go K R n0 Q T pc L (.long v :: .long u :: st) := by
  subst hp
  obtain ⟨⟨locs, X, hF⟩, e0, hn0, hx, hZ, hby, hml, hret, hlk, hown, hnm⟩ := S
  exact Go.step (fun _ t => XS.ldiv X.here hx rfl (hb hby hd) rfl hz t) k
theorem px_ineg (S : St K Z R y bytes maxL ret n0 T h cl sl) {u : Int32} (hd : decode bytes pc = .ok (.ineg, 1)) (hp : pc + 1 = pc') (k : Go K R n0 Q T pc' L (.int (-u) :: st)) : Go K R n0 Q T pc L (.int u :: st) := by
  subst hp
  obtain ⟨⟨locs, X, hF⟩, e0, hn0, hx, hZ, hby, hml, hret, hlk, hown, hnm⟩ := S
  exact Go.step (fun _ t => XS.ineg X.here hx rfl (hb hby hd) rfl t) k
theorem px_lneg (S : St K Z R y bytes maxL ret n0 T h cl sl) {u : Int64} (hd : decode bytes pc = .ok (.lneg, 1)) (hp : pc + 1 = pc') (k : Go K R n0 Q T pc' L (.long (-u) :: st)) : Go K R n0 Q T pc L (.long u :: st) := by
  subst hp
  obtain ⟨⟨locs, X, hF⟩, e0, hn0, hx, hZ, hby, hml, hret, hlk, hown, hnm⟩ := S
  exact Go.step (fun _ t => XS.lneg X.here hx rfl (hb hby hd) rfl t) k
theorem px_i2l (S : St K Z R y bytes maxL ret n0 T h cl sl) {u : Int32} (hd : decode bytes pc = .ok (.i2l, 1)) (hp : pc + 1 = pc') (k : Go K R n0 Q T pc' L (.long u.toInt64 :: st)) : Go K R n0 Q T pc L (.int u :: st) := by
  subst hp
  obtain ⟨⟨locs, X, hF⟩, e0, hn0, hx, hZ, hby, hml, hret, hlk, hown, hnm⟩ := S
  exact Go.step (fun _ t => XS.i2l X.here hx rfl (hb hby hd) rfl t) k
theorem px_l2i (S : St K Z R y bytes maxL ret n0 T h cl sl) {u : Int64} (hd : decode bytes pc = .ok (.l2i, 1)) (hp : pc + 1 = pc') (k : Go K R n0 Q T pc' L (.int u.toInt32 :: st)) : Go K R n0 Q T pc L (.long u :: st) := by
  subst hp
  obtain ⟨⟨locs, X, hF⟩, e0, hn0, hx, hZ, hby, hml, hret, hlk, hown, hnm⟩ := S
  exact Go.step (fun _ t => XS.l2i X.here hx rfl (hb hby hd) rfl t) k
theorem px_i2b (S : St K Z R y bytes maxL ret n0 T h cl sl) {u : Int32} (hd : decode bytes pc = .ok (.i2b, 1)) (hp : pc + 1 = pc') (k : Go K R n0 Q T pc' L (.int (i2b u) :: st)) : Go K R n0 Q T pc L (.int u :: st) := by
  subst hp
  obtain ⟨⟨locs, X, hF⟩, e0, hn0, hx, hZ, hby, hml, hret, hlk, hown, hnm⟩ := S
  exact Go.step (fun _ t => XS.i2b X.here hx rfl (hb hby hd) rfl t) k
theorem px_i2c (S : St K Z R y bytes maxL ret n0 T h cl sl) {u : Int32} (hd : decode bytes pc = .ok (.i2c, 1)) (hp : pc + 1 = pc') (k : Go K R n0 Q T pc' L (.int (i2c u) :: st)) : Go K R n0 Q T pc L (.int u :: st) := by
  subst hp
  obtain ⟨⟨locs, X, hF⟩, e0, hn0, hx, hZ, hby, hml, hret, hlk, hown, hnm⟩ := S
  exact Go.step (fun _ t => XS.i2c X.here hx rfl (hb hby hd) rfl t) k
theorem px_i2s (S : St K Z R y bytes maxL ret n0 T h cl sl) {u : Int32} (hd : decode bytes pc = .ok (.i2s, 1)) (hp : pc + 1 = pc') (k : Go K R n0 Q T pc' L (.int (i2s u) :: st)) : Go K R n0 Q T pc L (.int u :: st) := by
  subst hp
  obtain ⟨⟨locs, X, hF⟩, e0, hn0, hx, hZ, hby, hml, hret, hlk, hown, hnm⟩ := S
  exact Go.step (fun _ t => XS.i2s X.here hx rfl (hb hby hd) rfl t) k
theorem px_lcmp (S : St K Z R y bytes maxL ret n0 T h cl sl) {u v : Int64} (hd : decode bytes pc = .ok (.lcmp, 1)) (hp : pc + 1 = pc') (k : Go K R n0 Q T pc' L (.int (lcmpW u v) :: st)) : Go K R n0 Q T pc L (.long v :: .long u :: st) := by
  subst hp
  obtain ⟨⟨locs, X, hF⟩, e0, hn0, hx, hZ, hby, hml, hret, hlk, hown, hnm⟩ := S
  exact Go.step (fun _ t => XS.lcmp X.here hx rfl (hb hby hd) rfl t) k
theorem px_pop (S : St K Z R y bytes maxL ret n0 T h cl sl) {u : Value} (hd : decode bytes pc = .ok (.pop, 1)) (hp : pc + 1 = pc') (hc : u.category = 1) (k : Go K R n0 Q T pc' L st) : Go K R n0 Q T pc L (u :: st) := by
  subst hp
  obtain ⟨⟨locs, X, hF⟩, e0, hn0, hx, hZ, hby, hml, hret, hlk, hown, hnm⟩ := S
  exact Go.step (fun _ t => XS.pop X.here hx rfl (hb hby hd) rfl hc t) k
theorem px_dup (S : St K Z R y bytes maxL ret n0 T h cl sl) {u : Value} (hd : decode bytes pc = .ok (.dup, 1)) (hp : pc + 1 = pc') (hc : u.category = 1) (k : Go K R n0 Q T pc' L (u :: u :: st)) : Go K R n0 Q T pc L (u :: st) := by
  subst hp
  obtain ⟨⟨locs, X, hF⟩, e0, hn0, hx, hZ, hby, hml, hret, hlk, hown, hnm⟩ := S
  exact Go.step (fun _ t => XS.dup X.here hx rfl (hb hby hd) rfl hc t) k
theorem px_dupX1 (S : St K Z R y bytes maxL ret n0 T h cl sl) {u v : Value} (hd : decode bytes pc = .ok (.dup_x1, 1)) (hp : pc + 1 = pc') (hc : u.category = 1) (hc2 : v.category = 1) (k : Go K R n0 Q T pc' L (u :: v :: u :: st)) : Go K R n0 Q T pc L (u :: v :: st) := by
  subst hp
  obtain ⟨⟨locs, X, hF⟩, e0, hn0, hx, hZ, hby, hml, hret, hlk, hown, hnm⟩ := S
  exact Go.step (fun _ t => XS.dupX1 X.here hx rfl (hb hby hd) rfl hc hc2 t) k
theorem px_dup2 (S : St K Z R y bytes maxL ret n0 T h cl sl) {u v : Value} (hd : decode bytes pc = .ok (.dup2, 1)) (hp : pc + 1 = pc') (hc : u.category = 1) (hc2 : v.category = 1) (k : Go K R n0 Q T pc' L (u :: v :: u :: v :: st)) : Go K R n0 Q T pc L (u :: v :: st) := by
  subst hp
  obtain ⟨⟨locs, X, hF⟩, e0, hn0, hx, hZ, hby, hml, hret, hlk, hown, hnm⟩ := S
  exact Go.step (fun _ t => Jvm.Free.XT.dup2 X.here hx rfl (hb hby hd) rfl hc hc2 t) k
theorem px_iinc (S : St K Z R y bytes maxL ret n0 T h cl sl) {k : Nat} {cst : Int} {u v r : Int32} (hd : decode bytes pc = .ok (.iinc k cst, 3)) (hp : pc + 3 = pc') (hl : L[k]? = some (.val (.int u))) (hv : Int32.ofInt cst = v) (hr : u + v = r) (hl' : storeLocals L k (.int r) = some L') (k' : Go K R n0 Q T pc' L' st) : Go K R n0 Q T pc L st := by
  subst hp
  subst hv
  subst hr
  obtain ⟨⟨locs, X, hF⟩, e0, hn0, hx, hZ, hby, hml, hret, hlk, hown, hnm⟩ := S
  exact Go.step (fun _ t => XS.iinc X.here hx rfl (hb hby hd) hl hl' t) k'
theorem px_goto (S : St K Z R y bytes maxL ret n0 T h cl sl) {o : Int} (hd : decode bytes pc = .ok (.goto o, 3)) (ho : 0 ≤ (pc : Int) + o) (hp : ((pc : Int) + o).toNat = pc') (k : Go K R n0 Q T pc' L st) : Go K R n0 Q T pc L st := by
  obtain ⟨⟨locs, X, hF⟩, e0, hn0, hx, hZ, hby, hml, hret, hlk, hown, hnm⟩ := S
  exact Go.step (fun _ t => XS.goto X.here hx rfl rfl (hb hby hd) ho hp t) k
def yesC : ClassFile.Cond → Int → Int → Prop
  | .eq, x, y => x = y
  | .ne, x, y => ¬ x = y
  | .lt, x, y => x < y
  | .ge, x, y => y ≤ x
  | .gt, x, y => y < x
  | .le, x, y => x ≤ y
def noC : ClassFile.Cond → Int → Int → Prop
  | .eq, x, y => ¬ x = y
  | .ne, x, y => x = y
  | .lt, x, y => y ≤ x
  | .ge, x, y => x < y
  | .gt, x, y => x ≤ y
  | .le, x, y => y < x
theorem yesC_of {cd : ClassFile.Cond} {x y : Int32} (h : if_icmp.holds cd x y = true) : yesC cd x.toInt y.toInt := by
  cases cd <;> simp [if_icmp.holds, yesC, Int32.lt_iff_toInt_lt, Int32.le_iff_toInt_le, ← Int32.toInt_inj] at h ⊢ <;> omega
theorem noC_of {cd : ClassFile.Cond} {x y : Int32} (h : if_icmp.holds cd x y = false) : noC cd x.toInt y.toInt := by
  cases cd <;> simp [if_icmp.holds, noC, Int32.lt_iff_toInt_lt, Int32.le_iff_toInt_le, ← Int32.toInt_inj] at h ⊢ <;> omega
theorem px_icmp (S : St K Z R y bytes maxL ret n0 T h cl sl) {cd : ClassFile.Cond} {o : Int} {u v : Int32} {pcn : Nat} (hd : decode bytes pc = .ok (.if_icmp cd o, 3)) (ho : 0 ≤ (pc : Int) + o) (hp : ((pc : Int) + o).toNat = pc') (hn : pc + 3 = pcn)
    (ky : yesC cd u.toInt v.toInt → Go K R n0 Q T pc' L st) (kn : noC cd u.toInt v.toInt → Go K R n0 Q T pcn L st) : Go K R n0 Q T pc L (.int v :: .int u :: st) := by
  subst hn
  obtain ⟨⟨locs, X, hF⟩, e0, hn0, hx, hZ, hby, hml, hret, hlk, hown, hnm⟩ := S
  cases hc : if_icmp.holds cd u v
  · exact Go.step (fun _ t => XS.icmpNo X.here hx rfl (hb hby hd) rfl hc t) (kn (noC_of hc))
  · exact Go.step (fun _ t => XS.icmpYes X.here hx rfl rfl (hb hby hd) rfl hc ho hp t) (ky (yesC_of hc))
theorem px_if0 (S : St K Z R y bytes maxL ret n0 T h cl sl) {cd : ClassFile.Cond} {o : Int} {u : Int32} {pcn : Nat} (hd : decode bytes pc = .ok (.ifCond cd o, 3)) (ho : 0 ≤ (pc : Int) + o) (hp : ((pc : Int) + o).toNat = pc') (hn : pc + 3 = pcn)
    (ky : yesC cd u.toInt 0 → Go K R n0 Q T pc' L st) (kn : noC cd u.toInt 0 → Go K R n0 Q T pcn L st) : Go K R n0 Q T pc L (.int u :: st) := by
  subst hn
  obtain ⟨⟨locs, X, hF⟩, e0, hn0, hx, hZ, hby, hml, hret, hlk, hown, hnm⟩ := S
  cases hc : ifCond.holds cd u
  · exact Go.step (fun _ t => XS.ifNo X.here hx rfl (hb hby hd) rfl hc t) (kn (noC_of (y := 0) ((if0 cd u).symm.trans hc)))
  · exact Go.step (fun _ t => XS.ifYes X.here hx rfl rfl (hb hby hd) rfl hc ho hp t) (ky (yesC_of (y := 0) ((if0 cd u).symm.trans hc)))
theorem yesL {cd : ClassFile.Cond} {x y : Int64} (h : yesC cd (lcmpW x y).toInt 0) : yesC cd x.toInt y.toInt := by
  have q := c_lcmp x y
  cases cd <;> simp only [yesC] at h ⊢ <;> omega
theorem noL {cd : ClassFile.Cond} {x y : Int64} (h : noC cd (lcmpW x y).toInt 0) : noC cd x.toInt y.toInt := by
  have q := c_lcmp x y
  cases cd <;> simp only [noC] at h ⊢ <;> omega
theorem px_lif (S : St K Z R y bytes maxL ret n0 T h cl sl) {cd : ClassFile.Cond} {o : Int} {u v : Int64} {pc1 pcn : Nat} (hd1 : decode bytes pc = .ok (.lcmp, 1)) (hp1 : pc + 1 = pc1) (hd : decode bytes pc1 = .ok (.ifCond cd o, 3)) (ho : 0 ≤ (pc1 : Int) + o) (hp : ((pc1 : Int) + o).toNat = pc') (hn : pc1 + 3 = pcn)
    (ky : yesC cd u.toInt v.toInt → Go K R n0 Q T pc' L st) (kn : noC cd u.toInt v.toInt → Go K R n0 Q T pcn L st) : Go K R n0 Q T pc L (.long v :: .long u :: st) :=
  px_lcmp S hd1 hp1 (px_if0 S hd ho hp hn (fun q => ky (yesL q)) (fun q => kn (noL q)))
theorem px_ifnull (S : St K Z R y bytes maxL ret n0 T h cl sl) {o : Int} {a : Addr} (hd : decode bytes pc = .ok (.ifnull o, 3)) (hp : pc + 3 = pc') (k : Go K R n0 Q T pc' L st) : Go K R n0 Q T pc L (.ref a :: st) := by
  subst hp
  obtain ⟨⟨locs, X, hF⟩, e0, hn0, hx, hZ, hby, hml, hret, hlk, hown, hnm⟩ := S
  exact Go.step (fun _ t => XS.ifnullNo X.here hx rfl (hb hby hd) rfl t) k
theorem px_ifnullY (S : St K Z R y bytes maxL ret n0 T h cl sl) {o : Int} (hd : decode bytes pc = .ok (.ifnull o, 3)) (ho : 0 ≤ (pc : Int) + o) (hp : ((pc : Int) + o).toNat = pc') (k : Go K R n0 Q T pc' L st) : Go K R n0 Q T pc L (.null :: st) := by
  obtain ⟨⟨locs, X, hF⟩, e0, hn0, hx, hZ, hby, hml, hret, hlk, hown, hnm⟩ := S
  exact Go.step (fun _ t => XS.ifnullYes X.here hx rfl rfl (hb hby hd) rfl ho hp t) k
theorem px_ifnonnull (S : St K Z R y bytes maxL ret n0 T h cl sl) {o : Int} {a : Addr} (hd : decode bytes pc = .ok (.ifnonnull o, 3)) (ho : 0 ≤ (pc : Int) + o) (hp : ((pc : Int) + o).toNat = pc') (k : Go K R n0 Q T pc' L st) : Go K R n0 Q T pc L (.ref a :: st) := by
  obtain ⟨⟨locs, X, hF⟩, e0, hn0, hx, hZ, hby, hml, hret, hlk, hown, hnm⟩ := S
  exact Go.step (fun _ t => XS.ifnonnullYes X.here hx rfl rfl (hb hby hd) rfl ho hp t) k
theorem px_ifnonnullN (S : St K Z R y bytes maxL ret n0 T h cl sl) {o : Int} (hd : decode bytes pc = .ok (.ifnonnull o, 3)) (hp : pc + 3 = pc') (k : Go K R n0 Q T pc' L st) : Go K R n0 Q T pc L (.null :: st) := by
  subst hp
  obtain ⟨⟨locs, X, hF⟩, e0, hn0, hx, hZ, hby, hml, hret, hlk, hown, hnm⟩ := S
  exact Go.step (fun _ t => XS.ifnonnullNo X.here hx rfl (hb hby hd) rfl t) k
theorem px_ldcI (S : St K Z R y bytes maxL ret n0 T h cl sl) {idx : Nat} {v : Int32} (w : (Jvm.Cond.constant y.cls idx v).before a0 Z = true) (hd : decode bytes pc = .ok (.ldc idx, 2)) (hp : pc + 2 = pc') (k : Go K R n0 Q T pc' L (.int v :: st)) : Go K R n0 Q T pc L st := by
  subst hp
  obtain ⟨⟨locs, X, hF⟩, e0, hn0, hx, hZ, hby, hml, hret, hlk, hown, hnm⟩ := S
  exact Go.step (fun _ t => X.ldcInt hx hown (mvT hZ w) (g := mkF K.m pc L st) rfl (hb hby hd) _ t) k
theorem px_ldcwI (S : St K Z R y bytes maxL ret n0 T h cl sl) {idx : Nat} {v : Int32} (w : (Jvm.Cond.constant y.cls idx v).before a0 Z = true) (hd : decode bytes pc = .ok (.ldc_w idx, 3)) (hp : pc + 3 = pc') (k : Go K R n0 Q T pc' L (.int v :: st)) : Go K R n0 Q T pc L st := by
  subst hp
  obtain ⟨⟨locs, X, hF⟩, e0, hn0, hx, hZ, hby, hml, hret, hlk, hown, hnm⟩ := S
  exact Go.step (fun _ t => X.ldcwInt hx hown (mvT hZ w) (g := mkF K.m pc L st) rfl (hb hby hd) _ t) k
theorem px_ldc2 (S : St K Z R y bytes maxL ret n0 T h cl sl) {idx : Nat} {v : Int64} (w : (Jvm.Cond.constantLong y.cls idx v).before a0 Z = true) (hd : decode bytes pc = .ok (.ldc2_w idx, 3)) (hp : pc + 3 = pc') (k : Go K R n0 Q T pc' L (.long v :: st)) : Go K R n0 Q T pc L st := by
  subst hp
  obtain ⟨⟨locs, X, hF⟩, e0, hn0, hx, hZ, hby, hml, hret, hlk, hown, hnm⟩ := S
  exact Go.step (fun _ t => X.ldc2Long hx hown (mvT hZ w) (g := mkF K.m pc L st) rfl (hb hby hd) _ t) k
theorem px_ret {v : Option Value} (S : St K Z R y bytes maxL ret n0 T h cl sl) (hv : ret = none → v = none) (hc : cl ≤ R.cells) (hs : sl ≤ R.slots)
    (hd : ∀ (locs : List Loc) (fs : List Frame), Stand K.p K.l K.e R K.s K.m K.args K.below K.meth K.c T locs cl sl → K.p.tables.exec = Jvm.exec → K.c.code = bytes → K.meth.sig.returnType = ret → (∀ (f : JFrame) (acts : List Action), f.method = K.m → f.locked = none → f.entered = [] → (doReturn K.e (T.setTop f) acts v).1 = T.setFrames fs) → Steps K.p.tables K.e K.below (T.setTop (mkF K.m pc L st)) (T.setFrames fs))
    (hq : Q v h) : Go K R n0 Q T pc L st := by
  obtain ⟨⟨locs, X, hF⟩, e0, hn0, hx, hZ, hby, hml, hret, hlk, hown, hnm⟩ := S
  obtain ⟨fs, hr, hrun, hended, hW, hsame⟩ := X.leave (v := v) (fun q => hv (hret ▸ q)) hlk
  refine ⟨_, _, hd locs fs X hx hby hret hr, hrun, hended, _, _, rfl, ⟨?_, hF⟩, ⟨_, rfl⟩, hW, hsame.mono hc hs⟩
  show Q v T.heap
  rw [e0]; exact hq
theorem px_return (S : St K Z R y bytes maxL ret n0 T h cl sl) (hd : decode bytes pc = .ok (.return_, 1)) (hrt : ret = none) (hc : cl ≤ R.cells) (hs : sl ≤ R.slots) (hq : Q none h) : Go K R n0 Q T pc L [] :=
  px_ret S (fun _ => rfl) hc hs (fun _ _ X hx hby hret hr => X.returnOut hx (hret.trans hrt) (hb hby hd) hr) hq
theorem px_retN {t : FieldType} {z z' : Int32} (S : St K Z R y bytes maxL ret n0 T h cl sl) (hd : decode bytes pc = .ok (.ireturn, 1)) (hrt : ret = some t) (ht : t = .boolean ∨ t = .byte ∨ t = .char ∨ t = .short) (hz : nar t z = z') (hc : cl ≤ R.cells) (hs : sl ≤ R.slots) (hq : Q (some (.int z')) h) : Go K R n0 Q T pc L (.int z :: st) := by
  subst hz
  exact px_ret S (fun q => by rw [hrt] at q; cases q) hc hs (fun _ _ X hx hby hret hr => retN X hx (hret.trans hrt) ht (hb hby hd) hr) hq
theorem px_retI {z : Int32} (S : St K Z R y bytes maxL ret n0 T h cl sl) (hd : decode bytes pc = .ok (.ireturn, 1)) (hrt : ret = some .int) (hc : cl ≤ R.cells) (hs : sl ≤ R.slots) (hq : Q (some (.int z)) h) : Go K R n0 Q T pc L (.int z :: st) :=
  px_ret S (fun q => by rw [hrt] at q; cases q) hc hs (fun _ _ X hx hby hret hr => retOut X hx (hret.trans hrt) rfl (Or.inl ⟨rfl, Or.inl rfl, z, rfl⟩) (hb hby hd) hr) hq
theorem px_retJ {z : Int64} (S : St K Z R y bytes maxL ret n0 T h cl sl) (hd : decode bytes pc = .ok (.lreturn, 1)) (hrt : ret = some .long) (hc : cl ≤ R.cells) (hs : sl ≤ R.slots) (hq : Q (some (.long z)) h) : Go K R n0 Q T pc L (.long z :: st) :=
  px_ret S (fun q => by rw [hrt] at q; cases q) hc hs (fun _ _ X hx hby hret hr => retOut X hx (hret.trans hrt) rfl (Or.inr (Or.inl ⟨rfl, rfl, z, rfl⟩)) (hb hby hd) hr) hq
theorem narrow_ref {t : FieldType} {v : Value} (ht : t.isReference = true) : narrow t v = v := by cases t <;> simp [FieldType.isReference] at ht <;> cases v <;> rfl
theorem px_retA {t : FieldType} {v : Value} (S : St K Z R y bytes maxL ret n0 T h cl sl) (hd : decode bytes pc = .ok (.areturn, 1)) (hrt : ret = some t) (ht : t.isReference = true) (hv : v.isRef = true) (hc : cl ≤ R.cells) (hs : sl ≤ R.slots) (hq : Q (some v) h) : Go K R n0 Q T pc L (v :: st) :=
  px_ret S (fun q => by rw [hrt] at q; cases q) hc hs (fun _ _ X hx hby hret hr => retOut X hx (hret.trans hrt) (narrow_ref ht) (Or.inr (Or.inr (Or.inr (Or.inr ⟨rfl, ht, hv⟩)))) (hb hby hd) hr) hq
/-- an array of ints (or of bytes, chars, shorts, booleans) of n places that hold f 0 .. -/
def AI (Z : State) (h : Heap) (a : Addr) (ty : FieldType) (n : Nat) (f : Nat → Int32) : Prop := ∃ c : Cell, Arr Z h a c ty ∧ c.slots.size = n ∧ n < 2147483648 ∧ ∀ i, i < n → c.slots[i]? = some (.int (f i)) ∧ fits ty (.int (f i)) = true
def AJ (Z : State) (h : Heap) (a : Addr) (n : Nat) (f : Nat → Int64) : Prop := ∃ c : Cell, Arr Z h a c .long ∧ c.slots.size = n ∧ n < 2147483648 ∧ ∀ i, i < n → c.slots[i]? = some (.long (f i))
def updF {α : Type} (f : Nat → α) (i : Nat) (v : α) : Nat → α := fun j => if j = i then v else f j
theorem updF_same {α : Type} (f : Nat → α) (i : Nat) (v : α) : updF f i v i = v := by simp [updF]
theorem updF_ne {α : Type} (f : Nat → α) {i j : Nat} (v : α) (q : ¬ j = i) : updF f i v j = f j := by simp [updF, q]
variable {h' : Heap} {a b : Addr} {ty : FieldType} {n : Nat} {f : Nat → Int32} {fj : Nat → Int64}
theorem AI.lt (A : AI Z h a ty n f) : a < h.size := by obtain ⟨c, A, -⟩ := A; exact A.lt
theorem AJ.lt (A : AJ Z h a n fj) : a < h.size := by obtain ⟨c, A, -⟩ := A; exact A.lt
theorem AI.len (A : AI Z h a ty n f) : n < 2147483648 := by obtain ⟨c, -, -, q, -⟩ := A; exact q
theorem AJ.len (A : AJ Z h a n fj) : n < 2147483648 := by obtain ⟨c, -, -, q, -⟩ := A; exact q
theorem AI.ext (A : AI Z h a ty n f) (E : Ext h h') : AI Z h' a ty n f := by obtain ⟨c, A, r⟩ := A; exact ⟨c, A.ext E, r⟩
theorem AJ.ext (A : AJ Z h a n fj) (E : Ext h h') : AJ Z h' a n fj := by obtain ⟨c, A, r⟩ := A; exact ⟨c, A.ext E, r⟩
theorem AI.other {s0 : Nat} {v : Value} (A : AI Z h a ty n f) (W : Wr h h' b s0 v) (q : a ≠ b) : AI Z h' a ty n f := by obtain ⟨c, A, r⟩ := A; exact ⟨c, A.other W q, r⟩
theorem AJ.other {s0 : Nat} {v : Value} (A : AJ Z h a n fj) (W : Wr h h' b s0 v) (q : a ≠ b) : AJ Z h' a n fj := by obtain ⟨c, A, r⟩ := A; exact ⟨c, A.other W q, r⟩
theorem AI.keep {ws : List Addr} (A : AI Z h a ty n f) (W : Keep h h' ws) (q : a ∉ ws) : AI Z h' a ty n f := by obtain ⟨c, A, r⟩ := A; exact ⟨c, ⟨W.2.1 a c A.1 q, A.2⟩, r⟩
theorem AJ.keep {ws : List Addr} (A : AJ Z h a n fj) (W : Keep h h' ws) (q : a ∉ ws) : AJ Z h' a n fj := by obtain ⟨c, A, r⟩ := A; exact ⟨c, ⟨W.2.1 a c A.1 q, A.2⟩, r⟩
theorem AI.congr {g : Nat → Int32} (A : AI Z h a ty n f) (q : ∀ i, i < n → f i = g i) : AI Z h a ty n g := by obtain ⟨c, A, r1, r2, r3⟩ := A; exact ⟨c, A, r1, r2, fun i hi => by rw [← q i hi]; exact r3 i hi⟩
theorem AJ.congr {g : Nat → Int64} (A : AJ Z h a n fj) (q : ∀ i, i < n → fj i = g i) : AJ Z h a n g := by obtain ⟨c, A, r1, r2, r3⟩ := A; exact ⟨c, A, r1, r2, fun i hi => by rw [r3 i hi, q i hi]⟩
theorem clampI {j : Int32} {i : Nat} (hj : j.toInt = (i : Int)) : j.toNatClampNeg = i := by
  have q : j.toNatClampNeg = j.toInt.toNat := rfl
  rw [q, hj]; rfl
theorem inbI {c : Cell} {j : Int32} {i : Nat} (hj : j.toInt = (i : Int)) (hi : i < c.slots.size) : ¬ (j < 0 ∨ c.slots.size ≤ j.toNatClampNeg) := by
  rw [clampI hj]
  intro q
  rcases q with q | q
  · have q2 := Int32.lt_iff_toInt_lt.mp q
    have z : (0 : Int32).toInt = 0 := rfl
    omega
  · omega
theorem AI.same {c : Cell} {i : Nat} {v : Int32} (A : Arr Z h a c ty) (h1 : c.slots.size = n) (h2 : n < 2147483648) (h3 : ∀ i, i < n → c.slots[i]? = some (.int (f i)) ∧ fits ty (.int (f i)) = true) (W : Wr h h' a i (.int v)) (hi : i < n) (hft : fits ty (.int v) = true) : AI Z h' a ty n (updF f i v) := by
  refine ⟨_, A.same W, by simp [Cell.setSlot, h1], h2, fun j hj => ?_⟩
  by_cases q : j = i
  · subst q
    rw [updF_same]
    exact ⟨by simp [Cell.setSlot, h1, hj], hft⟩
  · rw [updF_ne _ _ q]
    have q' : ¬ i = j := fun e => q e.symm
    exact ⟨by simp [Cell.setSlot, Array.getElem?_setIfInBounds, q', (h3 j hj).1], (h3 j hj).2⟩
theorem AJ.same {c : Cell} {i : Nat} {v : Int64} (A : Arr Z h a c .long) (h1 : c.slots.size = n) (h2 : n < 2147483648) (h3 : ∀ i, i < n → c.slots[i]? = some (.long (fj i))) (W : Wr h h' a i (.long v)) (hi : i < n) : AJ Z h' a n (updF fj i v) := by
  refine ⟨_, A.same W, by simp [Cell.setSlot, h1], h2, fun j hj => ?_⟩
  by_cases q : j = i
  · subst q
    rw [updF_same]
    simp [Cell.setSlot, h1, hj]
  · rw [updF_ne _ _ q]
    have q' : ¬ i = j := fun e => q e.symm
    simp [Cell.setSlot, Array.getElem?_setIfInBounds, q', h3 j hj]
theorem px_iaload (S : St K Z R y bytes maxL ret n0 T h cl sl) (A : AI Z h a .int n f) {j v : Int32} {i : Nat} (hj : j.toInt = (i : Int)) (hi : i < n) (hv : f i = v) (hd : decode bytes pc = .ok (.iaload, 1)) (hp : pc + 1 = pc') (k : Go K R n0 Q T pc' L (.int v :: st)) : Go K R n0 Q T pc L (.int j :: .ref a :: st) := by
  subst hp
  subst hv
  obtain ⟨⟨locs, X, hF⟩, e0, hn0, hx, hZ, hby, hml, hret, hlk, hown, hnm⟩ := S
  obtain ⟨c, A, h1, h2, h3⟩ := A
  exact Go.step (fun _ t => X.iaload hx (j := j) (v := .int (f i)) (by rw [e0]; exact A.1) (State.isArrayOf_alike hZ.alike A.2.1) A.2.2 (inbI hj (h1 ▸ hi)) (by rw [clampI hj]; exact (h3 i hi).1) (g := mkF K.m pc L (.int j :: .ref a :: st)) rfl rfl (hb hby hd) _ t) k
theorem px_caload (S : St K Z R y bytes maxL ret n0 T h cl sl) (A : AI Z h a .char n f) {j v : Int32} {i : Nat} (hj : j.toInt = (i : Int)) (hi : i < n) (hv : f i = v) (hd : decode bytes pc = .ok (.caload, 1)) (hp : pc + 1 = pc') (k : Go K R n0 Q T pc' L (.int v :: st)) : Go K R n0 Q T pc L (.int j :: .ref a :: st) := by
  subst hp
  subst hv
  obtain ⟨⟨locs, X, hF⟩, e0, hn0, hx, hZ, hby, hml, hret, hlk, hown, hnm⟩ := S
  obtain ⟨c, A, h1, h2, h3⟩ := A
  exact Go.step (fun _ t => X.caload hx (j := j) (v := .int (f i)) (by rw [e0]; exact A.1) (State.isArrayOf_alike hZ.alike A.2.1) A.2.2 (inbI hj (h1 ▸ hi)) (by rw [clampI hj]; exact (h3 i hi).1) (g := mkF K.m pc L (.int j :: .ref a :: st)) rfl rfl (hb hby hd) _ t) k
theorem px_saload (S : St K Z R y bytes maxL ret n0 T h cl sl) (A : AI Z h a .short n f) {j v : Int32} {i : Nat} (hj : j.toInt = (i : Int)) (hi : i < n) (hv : f i = v) (hd : decode bytes pc = .ok (.saload, 1)) (hp : pc + 1 = pc') (k : Go K R n0 Q T pc' L (.int v :: st)) : Go K R n0 Q T pc L (.int j :: .ref a :: st) := by
  subst hp
  subst hv
  obtain ⟨⟨locs, X, hF⟩, e0, hn0, hx, hZ, hby, hml, hret, hlk, hown, hnm⟩ := S
  obtain ⟨c, A, h1, h2, h3⟩ := A
  exact Go.step (fun _ t => X.saload hx (j := j) (v := .int (f i)) (by rw [e0]; exact A.1) (State.isArrayOf_alike hZ.alike A.2.1) A.2.2 (inbI hj (h1 ▸ hi)) (by rw [clampI hj]; exact (h3 i hi).1) (g := mkF K.m pc L (.int j :: .ref a :: st)) rfl rfl (hb hby hd) _ t) k
theorem px_baload (S : St K Z R y bytes maxL ret n0 T h cl sl) (A : AI Z h a .byte n f) {j v : Int32} {i : Nat} (hj : j.toInt = (i : Int)) (hi : i < n) (hv : f i = v) (hd : decode bytes pc = .ok (.baload, 1)) (hp : pc + 1 = pc') (k : Go K R n0 Q T pc' L (.int v :: st)) : Go K R n0 Q T pc L (.int j :: .ref a :: st) := by
  subst hp
  subst hv
  obtain ⟨⟨locs, X, hF⟩, e0, hn0, hx, hZ, hby, hml, hret, hlk, hown, hnm⟩ := S
  obtain ⟨c, A, h1, h2, h3⟩ := A
  exact Go.step (fun _ t => X.baloadBytes hx (j := j) (v := .int (f i)) (by rw [e0]; exact A.1) (State.isArrayOf_alike hZ.alike A.2.1) A.2.2 (inbI hj (h1 ▸ hi)) (by rw [clampI hj]; exact (h3 i hi).1) (g := mkF K.m pc L (.int j :: .ref a :: st)) rfl rfl (hb hby hd) _ t) k
theorem px_laload (S : St K Z R y bytes maxL ret n0 T h cl sl) (A : AJ Z h a n fj) {j : Int32} {v : Int64} {i : Nat} (hj : j.toInt = (i : Int)) (hi : i < n) (hv : fj i = v) (hd : decode bytes pc = .ok (.laload, 1)) (hp : pc + 1 = pc') (k : Go K R n0 Q T pc' L (.long v :: st)) : Go K R n0 Q T pc L (.int j :: .ref a :: st) := by
  subst hp
  subst hv
  obtain ⟨⟨locs, X, hF⟩, e0, hn0, hx, hZ, hby, hml, hret, hlk, hown, hnm⟩ := S
  obtain ⟨c, A, h1, h2, h3⟩ := A
  exact Go.step (fun _ t => X.laload hx (j := j) (v := .long (fj i)) (by rw [e0]; exact A.1) (State.isArrayOf_alike hZ.alike A.2.1) A.2.2 (inbI hj (h1 ▸ hi)) (by rw [clampI hj]; exact h3 i hi) (g := mkF K.m pc L (.int j :: .ref a :: st)) rfl rfl (hb hby hd) _ t) k
theorem len32 {c : Cell} (h1 : c.slots.size = n) (h2 : n < 2147483648) {v : Int32} (hv : v.toInt = (n : Int)) : c.slots.size.toInt32 = v := by
  rw [h1]
  apply Int32.toInt_inj.mp
  rw [hv]
  have := Int32.toInt_ofNat_of_lt (n := n) h2
  exact this
theorem px_alenI (S : St K Z R y bytes maxL ret n0 T h cl sl) (A : AI Z h a ty n f) {v : Int32} (hv : v.toInt = (n : Int)) (hd : decode bytes pc = .ok (.arraylength, 1)) (hp : pc + 1 = pc') (k : Go K R n0 Q T pc' L (.int v :: st)) : Go K R n0 Q T pc L (.ref a :: st) := by
  subst hp
  obtain ⟨⟨locs, X, hF⟩, e0, hn0, hx, hZ, hby, hml, hret, hlk, hown, hnm⟩ := S
  obtain ⟨c, A, h1, h2, h3⟩ := A
  refine Go.step (fun _ t => X.arraylength hx (by rw [e0]; exact A.1) (State.isArrayOf_alike hZ.alike A.2.1) (g := mkF K.m pc L (.ref a :: st)) rfl rfl (hb hby hd) _ t) ?_
  rw [len32 h1 h2 hv]
  exact k
theorem px_alenJ (S : St K Z R y bytes maxL ret n0 T h cl sl) (A : AJ Z h a n fj) {v : Int32} (hv : v.toInt = (n : Int)) (hd : decode bytes pc = .ok (.arraylength, 1)) (hp : pc + 1 = pc') (k : Go K R n0 Q T pc' L (.int v :: st)) : Go K R n0 Q T pc L (.ref a :: st) := by
  subst hp
  obtain ⟨⟨locs, X, hF⟩, e0, hn0, hx, hZ, hby, hml, hret, hlk, hown, hnm⟩ := S
  obtain ⟨c, A, h1, h2, h3⟩ := A
  refine Go.step (fun _ t => X.arraylength hx (by rw [e0]; exact A.1) (State.isArrayOf_alike hZ.alike A.2.1) (g := mkF K.m pc L (.ref a :: st)) rfl rfl (hb hby hd) _ t) ?_
  rw [len32 h1 h2 hv]
  exact k
theorem px_iastore (S : St K Z R y bytes maxL ret n0 T h cl sl) (A : AI Z h a .int n f) (ha : n0 ≤ a) {j u v : Int32} {i : Nat} (hj : j.toInt = (i : Int)) (hi : i < n) (hv : u = v) (hd : decode bytes pc = .ok (.iastore, 1)) (hp : pc + 1 = pc')
    (k : ∀ (T' : State) (h' : Heap), St K Z R y bytes maxL ret n0 T' h' cl sl → Wr h h' a i (.int v) → AI Z h' a .int n (updF f i v) → Go K R n0 Q T' pc' L st) : Go K R n0 Q T pc L (.int u :: .int j :: .ref a :: st) := by
  subst hp
  subst hv
  obtain ⟨⟨locs, X, hF⟩, e0, hn0, hx, hZ, hby, hml, hret, hlk, hown, hnm⟩ := S
  obtain ⟨c, A, h1, h2, h3⟩ := A
  obtain ⟨T', h', X', e', W, stp⟩ := stI X hx hZ e0 A (j := j) (inbI hj (h1 ▸ hi)) (g := mkF K.m pc L (.int u :: .int j :: .ref a :: st)) rfl rfl (hb hby hd)
  have hF' := Fr.snoc X' hF ha
  rw [clampI hj] at W
  exact Go.step stp (k T' h' ⟨⟨_, X', hF'⟩, e', hn0, hx, hZ, hby, hml, hret, hlk, hown, hnm⟩ W (AI.same A h1 h2 h3 W hi rfl))
theorem px_castore (S : St K Z R y bytes maxL ret n0 T h cl sl) (A : AI Z h a .char n f) (ha : n0 ≤ a) {j u v : Int32} {i : Nat} (hj : j.toInt = (i : Int)) (hi : i < n) (hv : (nar .char u) = v) (hd : decode bytes pc = .ok (.castore, 1)) (hp : pc + 1 = pc')
    (k : ∀ (T' : State) (h' : Heap), St K Z R y bytes maxL ret n0 T' h' cl sl → Wr h h' a i (.int v) → AI Z h' a .char n (updF f i v) → Go K R n0 Q T' pc' L st) : Go K R n0 Q T pc L (.int u :: .int j :: .ref a :: st) := by
  subst hp
  subst hv
  obtain ⟨⟨locs, X, hF⟩, e0, hn0, hx, hZ, hby, hml, hret, hlk, hown, hnm⟩ := S
  obtain ⟨c, A, h1, h2, h3⟩ := A
  obtain ⟨T', h', X', e', W, stp⟩ := stC X hx hZ e0 A (j := j) (inbI hj (h1 ▸ hi)) (g := mkF K.m pc L (.int u :: .int j :: .ref a :: st)) rfl rfl (hb hby hd)
  have hF' := Fr.snoc X' hF ha
  rw [clampI hj] at W
  exact Go.step stp (k T' h' ⟨⟨_, X', hF'⟩, e', hn0, hx, hZ, hby, hml, hret, hlk, hown, hnm⟩ W (AI.same A h1 h2 h3 W hi (fits_nar_char _)))
theorem px_sastore (S : St K Z R y bytes maxL ret n0 T h cl sl) (A : AI Z h a .short n f) (ha : n0 ≤ a) {j u v : Int32} {i : Nat} (hj : j.toInt = (i : Int)) (hi : i < n) (hv : (nar .short u) = v) (hd : decode bytes pc = .ok (.sastore, 1)) (hp : pc + 1 = pc')
    (k : ∀ (T' : State) (h' : Heap), St K Z R y bytes maxL ret n0 T' h' cl sl → Wr h h' a i (.int v) → AI Z h' a .short n (updF f i v) → Go K R n0 Q T' pc' L st) : Go K R n0 Q T pc L (.int u :: .int j :: .ref a :: st) := by
  subst hp
  subst hv
  obtain ⟨⟨locs, X, hF⟩, e0, hn0, hx, hZ, hby, hml, hret, hlk, hown, hnm⟩ := S
  obtain ⟨c, A, h1, h2, h3⟩ := A
  obtain ⟨T', h', X', e', W, stp⟩ := stS X hx hZ e0 A (j := j) (inbI hj (h1 ▸ hi)) (g := mkF K.m pc L (.int u :: .int j :: .ref a :: st)) rfl rfl (hb hby hd)
  have hF' := Fr.snoc X' hF ha
  rw [clampI hj] at W
  exact Go.step stp (k T' h' ⟨⟨_, X', hF'⟩, e', hn0, hx, hZ, hby, hml, hret, hlk, hown, hnm⟩ W (AI.same A h1 h2 h3 W hi (fits_nar_short _)))
theorem px_bastore (S : St K Z R y bytes maxL ret n0 T h cl sl) (A : AI Z h a .byte n f) (ha : n0 ≤ a) {j u v : Int32} {i : Nat} (hj : j.toInt = (i : Int)) (hi : i < n) (hv : (nar .byte u) = v) (hd : decode bytes pc = .ok (.bastore, 1)) (hp : pc + 1 = pc')
    (k : ∀ (T' : State) (h' : Heap), St K Z R y bytes maxL ret n0 T' h' cl sl → Wr h h' a i (.int v) → AI Z h' a .byte n (updF f i v) → Go K R n0 Q T' pc' L st) : Go K R n0 Q T pc L (.int u :: .int j :: .ref a :: st) := by
  subst hp
  subst hv
  obtain ⟨⟨locs, X, hF⟩, e0, hn0, hx, hZ, hby, hml, hret, hlk, hown, hnm⟩ := S
  obtain ⟨c, A, h1, h2, h3⟩ := A
  obtain ⟨T', h', X', e', W, stp⟩ := stB X hx hZ e0 A (j := j) (inbI hj (h1 ▸ hi)) (g := mkF K.m pc L (.int u :: .int j :: .ref a :: st)) rfl rfl (hb hby hd)
  have hF' := Fr.snoc X' hF ha
  rw [clampI hj] at W
  exact Go.step stp (k T' h' ⟨⟨_, X', hF'⟩, e', hn0, hx, hZ, hby, hml, hret, hlk, hown, hnm⟩ W (AI.same A h1 h2 h3 W hi (fits_nar_byte _)))
theorem px_lastore (S : St K Z R y bytes maxL ret n0 T h cl sl) (A : AJ Z h a n fj) (ha : n0 ≤ a) {j : Int32} {u : Int64} {i : Nat} (hj : j.toInt = (i : Int)) (hi : i < n) (hd : decode bytes pc = .ok (.lastore, 1)) (hp : pc + 1 = pc')
    (k : ∀ (T' : State) (h' : Heap), St K Z R y bytes maxL ret n0 T' h' cl sl → Wr h h' a i (.long u) → AJ Z h' a n (updF fj i u) → Go K R n0 Q T' pc' L st) : Go K R n0 Q T pc L (.long u :: .int j :: .ref a :: st) := by
  subst hp
  obtain ⟨⟨locs, X, hF⟩, e0, hn0, hx, hZ, hby, hml, hret, hlk, hown, hnm⟩ := S
  obtain ⟨c, A, h1, h2, h3⟩ := A
  obtain ⟨T', h', X', e', W, stp⟩ := stJ X hx hZ e0 A (j := j) (inbI hj (h1 ▸ hi)) (g := mkF K.m pc L (.long u :: .int j :: .ref a :: st)) rfl rfl (hb hby hd)
  have hF' := Fr.snoc X' hF ha
  rw [clampI hj] at W
  exact Go.step stp (k T' h' ⟨⟨_, X', hF'⟩, e', hn0, hx, hZ, hby, hml, hret, hlk, hown, hnm⟩ W (AJ.same A h1 h2 h3 W hi))
theorem nneg {u : Int32} (hu : u.toInt = (n : Int)) : ¬ u < 0 := fun q => by
  have q2 := Int32.lt_iff_toInt_lt.mp q
  have z : (0 : Int32).toInt = 0 := rfl
  omega
theorem small {u : Int32} (hu : u.toInt = (n : Int)) : n < 2147483648 := by
  have := (rng32 u).2
  omega
theorem px_newarr {aty : ArrayType} (S : St K Z R y bytes maxL ret n0 T h cl sl) (w : (Jvm.Cond.arrayClass (newarray.typeOf aty)).before a0 Z = true) (hdv : defaultValue (newarray.typeOf aty) = .int 0) {u : Int32} {cap : Nat} (hu : u.toInt = (n : Int)) (hcap : n ≤ cap) (hb8 : cap * 8 ≤ 536870912) (hc : cl + 1 ≤ R.cells) (hs : sl + cap ≤ R.slots)
    (hd : decode bytes pc = .ok (.newarray aty, 2)) (hp : pc + 2 = pc')
    (k : ∀ (T' : State) (h' : Heap) (a : Addr), a = h.size → n0 ≤ a → St K Z R y bytes maxL ret n0 T' h' (cl + 1) (sl + cap) → Ext h h' → AI Z h' a (newarray.typeOf aty) n (fun _ => 0) → Go K R n0 Q T' pc' L (.ref a :: st)) : Go K R n0 Q T pc L (.int u :: st) := by
  subst hp
  have hsz := S.size
  obtain ⟨⟨locs, X, hF⟩, e0, hn0, hx, hZ, hby, hml, hret, hlk, hown, hnm⟩ := S
  obtain ⟨T', h', cA, X', e', E, A, stp⟩ := newP X hx hZ w e0 (g := mkF K.m pc L (.int u :: st)) rfl (hb hby hd) rfl (nneg hu) (cap := cap) (by rw [clampI hu]; exact hcap) hb8 hc hs
  refine Go.step stp (k T' h' h.size rfl hsz ⟨⟨_, X', hF⟩, e', hn0, hx, hZ, hby, hml, hret, hlk, hown, hnm⟩ E ⟨_, A, by rw [sz_new, clampI hu], small hu, fun i hi => ⟨?_, ?_⟩⟩)
  · simp [newA, clampI hu, hi, hdv]
  · rw [← hdv]; cases aty <;> first | rfl | (simp [newarray.typeOf, defaultValue] at hdv)
theorem px_newarrJ (S : St K Z R y bytes maxL ret n0 T h cl sl) (w : (Jvm.Cond.arrayClass FieldType.long).before a0 Z = true) {u : Int32} {cap : Nat} (hu : u.toInt = (n : Int)) (hcap : n ≤ cap) (hb8 : cap * 8 ≤ 536870912) (hc : cl + 1 ≤ R.cells) (hs : sl + cap ≤ R.slots)
    (hd : decode bytes pc = .ok (.newarray .long, 2)) (hp : pc + 2 = pc')
    (k : ∀ (T' : State) (h' : Heap) (a : Addr), a = h.size → n0 ≤ a → St K Z R y bytes maxL ret n0 T' h' (cl + 1) (sl + cap) → Ext h h' → AJ Z h' a n (fun _ => 0) → Go K R n0 Q T' pc' L (.ref a :: st)) : Go K R n0 Q T pc L (.int u :: st) := by
  subst hp
  have hsz := S.size
  obtain ⟨⟨locs, X, hF⟩, e0, hn0, hx, hZ, hby, hml, hret, hlk, hown, hnm⟩ := S
  obtain ⟨T', h', cA, X', e', E, A, stp⟩ := newP X hx hZ (aty := .long) w e0 (g := mkF K.m pc L (.int u :: st)) rfl (hb hby hd) rfl (nneg hu) (cap := cap) (by rw [clampI hu]; exact hcap) hb8 hc hs
  refine Go.step stp (k T' h' h.size rfl hsz ⟨⟨_, X', hF⟩, e', hn0, hx, hZ, hby, hml, hret, hlk, hown, hnm⟩ E ⟨_, A, by rw [sz_new, clampI hu], small hu, fun i hi => ?_⟩)
  simp [newA, clampI hu, hi, defaultValue, newarray.typeOf]
theorem px_new {C : String} {idx k0 : Nat} (S : St K Z R y bytes maxL ret n0 T h cl sl) (w : (Jvm.Cond.classLink y.cls idx C).before a0 Z = true) (wi : (Jvm.Cond.instantiable C k0).before a0 Z = true) (wz : (Jvm.Cond.initialized C).before a0 Z = true) (hc : cl + 1 ≤ R.cells) (hs : sl + k0 ≤ R.slots) (hd : decode bytes pc = .ok (.new idx, 3)) (hp : pc + 3 = pc')
    (k : ∀ (T' : State) (h' : Heap) (a : Addr), a = h.size → n0 ≤ a → St K Z R y bytes maxL ret n0 T' h' (cl + 1) (sl + k0) → Ext h h' → Exa Z h' a C → (∀ {O nm d : String} {ty : FieldType}, Laid Z a0 C O nm d → parseFieldDescriptor d = some ty → Fld Z h' a O nm d (defaultValue ty)) → Go K R n0 Q T' pc' L (.ref a :: st)) : Go K R n0 Q T pc L st := by
  subst hp
  have hsz := S.size
  obtain ⟨⟨locs, X, hF⟩, e0, hn0, hx, hZ, hby, hml, hret, hlk, hown, hnm⟩ := S
  obtain ⟨T', h', X', e', E, A, D, -, stp⟩ := newO X hx hZ hown w wi wz e0 (g := mkF K.m pc L st) rfl (hb hby hd) hc hs
  exact Go.step stp (k T' h' h.size rfl hsz ⟨⟨_, X', hF⟩, e', hn0, hx, hZ, hby, hml, hret, hlk, hown, hnm⟩ E A (fun {O nm d ty} => D))
theorem px_getfield {C nm d : String} {idx : Nat} {v : Value} (S : St K Z R y bytes maxL ret n0 T h cl sl) (w : (Jvm.Cond.fieldLink y.cls idx C nm d).before a0 Z = true) (F : Fld Z h a C nm d v) (hd : decode bytes pc = .ok (.getfield idx, 3)) (hp : pc + 3 = pc')
    (k : ∀ (T' : State), St K Z R y bytes maxL ret n0 T' h cl sl → Go K R n0 Q T' pc' L (v :: st)) : Go K R n0 Q T pc L (.ref a :: st) := by
  subst hp
  obtain ⟨⟨locs, X, hF⟩, e0, hn0, hx, hZ, hby, hml, hret, hlk, hown, hnm⟩ := S
  obtain ⟨T', X', e', stp⟩ := getF X hx hZ hown (host := "") (Or.inl w) Via.refl e0 F (g := mkF K.m pc L (.ref a :: st)) rfl rfl (hb hby hd)
  exact Go.step stp (k T' ⟨⟨_, X', hF⟩, e', hn0, hx, hZ, hby, hml, hret, hlk, hown, hnm⟩)
theorem px_putfield {C nm d : String} {idx kk : Nat} {v v' old : Value} {ty : FieldType} (S : St K Z R y bytes maxL ret n0 T h cl sl) (w : (Jvm.Cond.fieldLink y.cls idx C nm d).before a0 Z = true) (F : Fld Z h a C nm d old) (E : Exa Z h a C) (ha : n0 ≤ a)
    (hl : (Jvm.Cond.lays C C nm d).before a0 Z = true ∨ ((Jvm.Cond.laysFinal C C nm d).before a0 Z = true ∧ y.cls = C ∧ y.name = "<init>")) (wi : (Jvm.Cond.instantiable C kk).before a0 Z = true) (hty : parseFieldDescriptor d = some ty) (hv : narrow ty v = v') (hf : fits ty v' = true) (hd : decode bytes pc = .ok (.putfield idx, 3)) (hp : pc + 3 = pc')
    (k : ∀ (T' : State) (h' : Heap), St K Z R y bytes maxL ret n0 T' h' cl sl → Wr h h' a (Jvm.RoadKit.slotOf Z C nm d) v' → Fld Z h' a C nm d v' → Exa Z h' a C → Go K R n0 Q T' pc' L st) : Go K R n0 Q T pc L (v :: .ref a :: st) := by
  subst hp
  obtain ⟨⟨locs, X, hF⟩, e0, hn0, hx, hZ, hby, hml, hret, hlk, hown, hnm⟩ := S
  obtain ⟨T', h', X', e', W, stp⟩ := putFN X hx hZ hown w Via.refl e0 F E (hl.imp id fun q => ⟨q.1, q.2.1, hnm.trans q.2.2⟩) wi hty hv hf (g := mkF K.m pc L (v :: .ref a :: st)) rfl rfl (hb hby hd)
  have hF' := Fr.snoc X' hF ha
  exact Go.step stp (k T' h' ⟨⟨_, X', hF'⟩, e', hn0, hx, hZ, hby, hml, hret, hlk, hown, hnm⟩ W (F.same W) (E.wr W))
theorem px_initO {idx W : Nat} (S : St K Z R y bytes maxL ret n0 T h cl sl) (w1 : (Jvm.Cond.methodLink y.cls idx Lib.objectInit).before a0 Z = true) (w2 : (Jvm.Cond.instanceMethod Lib.objectInit).before a0 Z = true) (w3 : (Jvm.Cond.code Lib.objectInit ⟨#[0xb1]⟩ 1 none).before a0 Z = true) (hL : L.size = maxL) (hfr : 1 ≤ R.frames) (hW : (st.map fun v => v.category).sum = W) (hlo : W + 12 ≤ R.locals) (hd : decode bytes pc = .ok (.invokespecial idx, 3)) (hp : pc + 3 = pc')
    (k : ∀ (T' : State), St K Z R y bytes maxL ret n0 T' h cl sl → Go K R n0 Q T' pc' L st) : Go K R n0 Q T pc L (.ref a :: st) := by
  subst hp
  obtain ⟨⟨locs, X, hF⟩, e0, hn0, hx, hZ, hby, hml, hret, hlk, hown, hnm⟩ := S
  obtain ⟨T', X', e', stp⟩ := initO X hx hZ hown w1 w2 w3 e0 (g := mkF K.m pc L (.ref a :: st)) rfl (hL.trans hml.symm) rfl (hb hby hd) hfr (W := W) (by show 2 * 0 + _ ≤ _; rw [hW]; omega) hlo
  exact Go.step stp (k T' ⟨⟨_, X', hF⟩, e', hn0, hx, hZ, hby, hml, hret, hlk, hown, hnm⟩)
theorem px_callS {y' : MethodName} {b' : ByteArray} {mx' : Nat} {rt' : Option FieldType} {rm : Room} {as' : List Value} {Q' : Option Value → Heap → Prop} {W idx : Nat} {ps : List FieldType} {rr : Option FieldType} (S : St K Z R y bytes maxL ret n0 T h cl sl) (C : Ctr Z n0 y' b' mx' rt' rm as' h Q') (w1 : (Jvm.Cond.methodLink y.cls idx y').before a0 Z = true) (w2 : (Jvm.Cond.static y').before a0 Z = true) (w3 : (Jvm.Cond.initialized y'.cls).before a0 Z = true) (w4 : (Jvm.Cond.code y' b' mx' rt').before a0 Z = true) (hy : y'.cls ≠ "java/lang/invoke/MethodHandle" ∧ y'.cls ≠ "java/lang/invoke/VarHandle")
    (hps : parseMethodDescriptor y'.desc = some ⟨ps, rr⟩) (hlen : as'.length = ps.length) (hL : L.size = maxL) (hfr : rm.frames + 1 ≤ R.frames) (hW : (st.map fun v => v.category).sum = W) (hlo : W + (mx' + 11) + rm.locals ≤ R.locals) (hc : cl + rm.cells ≤ R.cells) (hs : sl + rm.slots ≤ R.slots) (hd : decode bytes pc = .ok (.invokestatic idx, 3)) (hp : pc + 3 = pc') {stk : List Value} (hst : stk = as'.reverse ++ st)
    (k : ∀ (T' : State) (h' : Heap) (v : Option Value), St K Z R y bytes maxL ret n0 T' h' (cl + rm.cells) (sl + rm.slots) → Q' v h' → Go K R n0 Q T' pc' L (v.toList ++ st)) : Go K R n0 Q T pc L stk := by
  subst hp
  subst hst
  obtain ⟨⟨locs, X, hF⟩, e0, hn0, hx, hZ, hby, hml, hret, hlk, hown, hnm⟩ := S
  obtain ⟨v, _, ⟨T1, L1, c1, n1⟩, -, X1, ⟨Lc, hq, hl1, hc1, hs1⟩, stp⟩ := Jvm.LawKit.callS X hx (y := y') hown (mvT hZ w1) (mvT hZ w2) (mvT hZ w3) (mvT hZ w4) hy (backOf (Q := fun v h' L => Q' v h' ∧ Fr n0 L) (W := W) (C K.l []) hZ w4 w3 hfr hlo) (g := mkF K.m pc L (as'.reverse ++ st)) rfl (hL.trans hml.symm) (argsL := as') (rest := st) (lenOf hps hlen) rfl (by show 2 * 0 + _ ≤ _; rw [hW]; omega) (hb hby hd) (fun _ _ => ⟨rfl, e0, hc, hs⟩)
  dsimp only [Pt.U, Pt.locs, Pt.cells, Pt.slots] at X1 hl1 hc1 hs1 stp hq
  subst hl1 hc1 hs1
  obtain ⟨hq, hFc⟩ := hq
  exact Go.step stp (k T1 T1.heap v ⟨⟨_, X1, Fr.app hF hFc⟩, rfl, hn0, hx, hZ, hby, hml, hret, hlk, hown, hnm⟩ hq)
theorem Go.trans {T' : State} {st' : List Value} (hs : Steps K.p.tables K.e K.below (T.setTop (mkF K.m pc L st)) (T'.setTop (mkF K.m pc' L' st'))) (k : Go K R n0 Q T' pc' L' st') : Go K R n0 Q T pc L st := by
  obtain ⟨s₂, o, h1, r⟩ := k
  exact ⟨s₂, o, hs.trans h1, r⟩
theorem px_callC {y' : MethodName} {b' : ByteArray} {mx' : Nat} {rm : Room} {as' : List Value} {Q' : Option Value → Heap → Prop} {W idx : Nat} {ps : List FieldType} {rr : Option FieldType} (S : St K Z R y bytes maxL ret n0 T h cl sl) (C : Ctr Z n0 y' b' mx' none rm (.ref a :: as') h Q') (hin : y'.name = "<init>") (w1 : (Jvm.Cond.methodLink y.cls idx y').before a0 Z = true) (w2 : (Jvm.Cond.instanceMethod y').before a0 Z = true) (w3 : (Jvm.Cond.initialized y'.cls).before a0 Z = true) (w4 : (Jvm.Cond.code y' b' mx' none).before a0 Z = true) (hy : y'.cls ≠ "java/lang/invoke/MethodHandle" ∧ y'.cls ≠ "java/lang/invoke/VarHandle")
    (hps : parseMethodDescriptor y'.desc = some ⟨ps, rr⟩) (hlen : as'.length = ps.length) (hL : L.size = maxL) (hfr : rm.frames + 1 ≤ R.frames) (hW : (st.map fun v => v.category).sum = W) (hlo : W + (mx' + 11) + rm.locals ≤ R.locals) (hc : cl + rm.cells ≤ R.cells) (hs : sl + rm.slots ≤ R.slots) (hd : decode bytes pc = .ok (.invokespecial idx, 3)) (hp : pc + 3 = pc') {stk : List Value} (hst : stk = as'.reverse ++ .ref a :: st)
    (k : ∀ (T' : State) (h' : Heap) (v : Option Value), St K Z R y bytes maxL ret n0 T' h' (cl + rm.cells) (sl + rm.slots) → Q' v h' → Go K R n0 Q T' pc' L (v.toList ++ st)) : Go K R n0 Q T pc L stk := by
  subst hp
  subst hst
  obtain ⟨⟨locs, X, hF⟩, e0, hn0, hx, hZ, hby, hml, hret, hlk, hown, hnm⟩ := S
  obtain ⟨v, _, ⟨T1, L1, c1, n1⟩, -, X1, ⟨Lc, hq, hl1, hc1, hs1⟩, stp⟩ := X.specialBack hx (y := y') hin hown (mvT hZ w1) (mvT hZ w2) (mvT hZ w4) hy (backOf (Q := fun v h' L => Q' v h' ∧ Fr n0 L) (W := W) (C K.l []) hZ w4 w3 hfr hlo) (g := mkF K.m pc L (as'.reverse ++ .ref a :: st)) rfl (hL.trans hml.symm) (Steps.refl _) (a := a) (argsL := as') (rest := st) (lenOf hps hlen) rfl (by show 2 * 0 + _ ≤ _; rw [hW]; omega) (hb hby hd) (fun _ _ => ⟨rfl, e0, hc, hs⟩)
  dsimp only [Pt.U, Pt.locs, Pt.cells, Pt.slots] at X1 hl1 hc1 hs1 stp hq
  subst hl1 hc1 hs1
  obtain ⟨hq, hFc⟩ := hq
  exact Go.trans stp (k T1 T1.heap v ⟨⟨_, X1, Fr.app hF hFc⟩, rfl, hn0, hx, hZ, hby, hml, hret, hlk, hown, hnm⟩ hq)
theorem px_callV {y' : MethodName} {b' : ByteArray} {mx' : Nat} {rt' : Option FieldType} {rm : Room} {as' : List Value} {Q' : Option Value → Heap → Prop} {W idx : Nat} {ps : List FieldType} {rr : Option FieldType} {Cn : String} (S : St K Z R y bytes maxL ret n0 T h cl sl) (C : Ctr Z n0 y' b' mx' rt' rm (.ref a :: as') h Q') (E : Exa Z h a Cn) (w1 : (Jvm.Cond.methodLink y.cls idx y').before a0 Z = true) (w2 : (Jvm.Cond.declares y').before a0 Z = true) (w5 : (Jvm.Cond.selects Cn y' y').before a0 Z = true) (w6 : (Jvm.Cond.instanceMethod y').before a0 Z = true) (w3 : (Jvm.Cond.initialized y'.cls).before a0 Z = true) (w4 : (Jvm.Cond.code y' b' mx' rt').before a0 Z = true) (hnf : NotFace K.s y') (hy : y'.cls ≠ "java/lang/invoke/MethodHandle" ∧ y'.cls ≠ "java/lang/invoke/VarHandle")
    (hps : parseMethodDescriptor y'.desc = some ⟨ps, rr⟩) (hlen : as'.length = ps.length) (hL : L.size = maxL) (hfr : rm.frames + 1 ≤ R.frames) (hW : (st.map fun v => v.category).sum = W) (hlo : W + (mx' + 11) + rm.locals ≤ R.locals) (hc : cl + rm.cells ≤ R.cells) (hs : sl + rm.slots ≤ R.slots) (hd : decode bytes pc = .ok (.invokevirtual idx, 3)) (hp : pc + 3 = pc') {stk : List Value} (hst : stk = as'.reverse ++ .ref a :: st)
    (k : ∀ (T' : State) (h' : Heap) (v : Option Value), St K Z R y bytes maxL ret n0 T' h' (cl + rm.cells) (sl + rm.slots) → Q' v h' → Go K R n0 Q T' pc' L (v.toList ++ st)) : Go K R n0 Q T pc L stk := by
  subst hp
  subst hst
  obtain ⟨⟨locs, X, hF⟩, e0, hn0, hx, hZ, hby, hml, hret, hlk, hown, hnm⟩ := S
  obtain ⟨cq, kq, qa, qb, qc⟩ := isOf hZ e0 E
  obtain ⟨v, _, ⟨T1, L1, c1, n1⟩, -, X1, ⟨Lc, hq, hl1, hc1, hs1⟩, stp⟩ := X.virtualBack hx (y := y') (z := y') hown (mvT hZ w1) (mvT hZ w2) hnf (mvT hZ w5) (mvT hZ w6) hy (backOf (Q := fun v h' L => Q' v h' ∧ Fr n0 L) (W := W) (C K.l []) hZ w4 w3 hfr hlo) qa qc (g := mkF K.m pc L (as'.reverse ++ .ref a :: st)) rfl (hL.trans hml.symm) (Steps.refl _) (argsL := as') (rest := st) (lenOf hps hlen) rfl (by show 2 * 0 + _ ≤ _; rw [hW]; omega) (hb hby hd) (fun _ _ => ⟨rfl, e0, hc, hs⟩)
  dsimp only [Pt.U, Pt.locs, Pt.cells, Pt.slots] at X1 hl1 hc1 hs1 stp hq
  subst hl1 hc1 hs1
  obtain ⟨hq, hFc⟩ := hq
  exact Go.trans stp (k T1 T1.heap v ⟨⟨_, X1, Fr.app hF hFc⟩, rfl, hn0, hx, hZ, hby, hml, hret, hlk, hown, hnm⟩ hq)
theorem px_callI {y' : MethodName} {b' : ByteArray} {mx' : Nat} {rt' : Option FieldType} {rm : Room} {as' : List Value} {Q' : Option Value → Heap → Prop} {W idx : Nat} {ps : List FieldType} {rr : Option FieldType} {Cn : String} {xi : MethodName} {count : Nat} (S : St K Z R y bytes maxL ret n0 T h cl sl) (C : Ctr Z n0 y' b' mx' rt' rm (.ref a :: as') h Q') (E : Exa Z h a Cn) (w1 : (Jvm.Cond.methodLink y.cls idx xi).before a0 Z = true) (w2 : (Jvm.Cond.declares xi).before a0 Z = true) (w7 : (Jvm.Cond.interfaceMethod xi.cls xi.cls xi.name xi.desc).before a0 Z = true) (hface : ((Jvm.Cond.interfaceMethod xi.cls xi.cls xi.name xi.desc).onTables && (Jvm.Cond.interfaceMethod xi.cls xi.cls xi.name xi.desc).keepsFace) = true) (w5 : (Jvm.Cond.selects Cn xi y').before a0 Z = true) (w6 : (Jvm.Cond.instanceMethod y').before a0 Z = true) (w8 : (Jvm.Cond.publicMethod y').before a0 Z = true) (w9 : (Jvm.Cond.unhidden Cn xi.name xi.desc).before a0 Z = true) (w10 : (Jvm.Cond.castable Cn xi.cls).before a0 Z = true) (w3 : (Jvm.Cond.initialized y'.cls).before a0 Z = true) (w4 : (Jvm.Cond.code y' b' mx' rt').before a0 Z = true) (hy : xi.cls ≠ "java/lang/invoke/MethodHandle" ∧ xi.cls ≠ "java/lang/invoke/VarHandle")
    (hps : parseMethodDescriptor xi.desc = some ⟨ps, rr⟩) (hlen : as'.length = ps.length) (hL : L.size = maxL) (hfr : rm.frames + 1 ≤ R.frames) (hW : (st.map fun v => v.category).sum = W) (hlo : W + (mx' + 11) + rm.locals ≤ R.locals) (hc : cl + rm.cells ≤ R.cells) (hs : sl + rm.slots ≤ R.slots) (hd : decode bytes pc = .ok (.invokeinterface idx count, 5)) (hp : pc + 5 = pc') {stk : List Value} (hst : stk = as'.reverse ++ .ref a :: st)
    (k : ∀ (T' : State) (h' : Heap) (v : Option Value), St K Z R y bytes maxL ret n0 T' h' (cl + rm.cells) (sl + rm.slots) → Q' v h' → Go K R n0 Q T' pc' L (v.toList ++ st)) : Go K R n0 Q T pc L stk := by
  subst hp
  subst hst
  obtain ⟨⟨locs, X, hF⟩, e0, hn0, hx, hZ, hby, hml, hret, hlk, hown, hnm⟩ := S
  obtain ⟨cq, kq, qa, qb, qc⟩ := isOf hZ e0 E
  obtain ⟨v, _, ⟨T1, L1, c1, n1⟩, -, X1, ⟨Lc, hq, hl1, hc1, hs1⟩, stp⟩ := X.interfaceBack hx (xi := xi) (y := y') hown (mvT hZ w1) (mvT hZ w2) (mvT hZ w7 hface) (mvT hZ w5) (mvT hZ w6) (mvT hZ w8) (mvT hZ w9) (mvT hZ w10) hy (backOf (Q := fun v h' L => Q' v h' ∧ Fr n0 L) (W := W) (C K.l []) hZ w4 w3 hfr hlo) qa qb qc (g := mkF K.m pc L (as'.reverse ++ .ref a :: st)) rfl (hL.trans hml.symm) (Steps.refl _) (argsL := as') (rest := st) (lenOf hps hlen) rfl (by show 2 * 0 + _ ≤ _; rw [hW]; omega) (hb hby hd) (fun _ _ => ⟨rfl, e0, hc, hs⟩)
  dsimp only [Pt.U, Pt.locs, Pt.cells, Pt.slots] at X1 hl1 hc1 hs1 stp hq
  subst hl1 hc1 hs1
  obtain ⟨hq, hFc⟩ := hq
  exact Go.trans stp (k T1 T1.heap v ⟨⟨_, X1, Fr.app hF hFc⟩, rfl, hn0, hx, hZ, hby, hml, hret, hlk, hown, hnm⟩ hq)
theorem St.nf {y' : MethodName} (S : St K Z R y bytes maxL ret n0 T h cl sl) (w : (Jvm.Cond.selects y'.cls y' y').before a0 Z = true) : NotFace K.s y' := by
  obtain ⟨⟨locs, X, hF⟩, e0, hn0, hx, hZ, hby, hml, hret, hlk, hown, hnm⟩ := S
  exact notFace_of_selects (args := #[]) (mvT hZ w)
theorem px_lsw (S : St K Z R y bytes maxL ret n0 T h cl sl) {df o : Int} {ps : Array (Int × Int)} {pl : List (Int × Int)} {ln : Nat} {u : Int32} (hd : decode bytes pc = .ok (.lookupswitch df ps, ln)) (hpl : ps.toList = pl) (hm : (pl.zip (pl.drop 1)).all (fun (a, next) => a.1 < next.1) = true) (hu : lookupswitch.offset pl df u.toInt = o) (ho : 0 ≤ (pc : Int) + o) (hp : ((pc : Int) + o).toNat = pc') (k : Go K R n0 Q T pc' L st) : Go K R n0 Q T pc L (.int u :: st) := by
  subst hp
  subst hpl
  obtain ⟨⟨locs, X, hF⟩, e0, hn0, hx, hZ, hby, hml, hret, hlk, hown, hnm⟩ := S
  refine Go.step (fun _ t => ?_) k
  have hd' := hb hby hd
  show Steps K.p.tables K.e K.below (T.setTop { method := K.m, pc := pc, locals := L, stack := .int u :: st, locked := none }) _
  jvm_step X.here [X.here.top, hx, hd', lookupswitch.wp_chain, hu, ho]
  exact ⟨by simpa using hm, t⟩
theorem Go.join {α : Type} {P : α → Prop} {pcj : Nat} {Lj : α → Array Slot} {stj : α → List Value} (h1 : ∀ x, P x → Go K R n0 Q T pcj (Lj x) (stj x)) (h2 : (∀ x, P x → Go K R n0 Q T pcj (Lj x) (stj x)) → Go K R n0 Q T pc L st) : Go K R n0 Q T pc L st := h2 h1
theorem Go.joinT {α : Type} {P : α → Prop} {pcj cl' sl' : Nat} {Lj : α → Array Slot} {stj : α → List Value} (S : St K Z R y bytes maxL ret n0 T h cl sl) (h1 : ∀ (x : α) (T' : State), St K Z R y bytes maxL ret n0 T' h cl' sl' → P x → Go K R n0 Q T' pcj (Lj x) (stj x)) (h2 : (∀ (x : α) (T' : State), St K Z R y bytes maxL ret n0 T' h cl' sl' → P x → Go K R n0 Q T' pcj (Lj x) (stj x)) → Go K R n0 Q T pc L st) : Go K R n0 Q T pc L st := h2 h1
theorem Go.joinH {α : Type} {P : α → Heap → Prop} {pcj cl' sl' : Nat} {Lj : α → Array Slot} {stj : α → List Value} (S : St K Z R y bytes maxL ret n0 T h cl sl) (h1 : ∀ (x : α) (T' : State) (h' : Heap), St K Z R y bytes maxL ret n0 T' h' cl' sl' → P x h' → Go K R n0 Q T' pcj (Lj x) (stj x)) (h2 : (∀ (x : α) (T' : State) (h' : Heap), St K Z R y bytes maxL ret n0 T' h' cl' sl' → P x h' → Go K R n0 Q T' pcj (Lj x) (stj x)) → Go K R n0 Q T pc L st) : Go K R n0 Q T pc L st := h2 h1
theorem Go.loopH {α : Type} {Inv : Nat → α → Heap → Prop} {pcj cl' sl' : Nat} {Lj : α → Array Slot} {stj : α → List Value} (S : St K Z R y bytes maxL ret n0 T h cl sl)
    (h1 : ∀ k, (∀ j, j < k → ∀ (x : α) (T' : State) (h' : Heap), St K Z R y bytes maxL ret n0 T' h' cl' sl' → Inv j x h' → Go K R n0 Q T' pcj (Lj x) (stj x)) → ∀ (x : α) (T' : State) (h' : Heap), St K Z R y bytes maxL ret n0 T' h' cl' sl' → Inv k x h' → Go K R n0 Q T' pcj (Lj x) (stj x))
    (h2 : (∀ (k : Nat) (x : α) (T' : State) (h' : Heap), St K Z R y bytes maxL ret n0 T' h' cl' sl' → Inv k x h' → Go K R n0 Q T' pcj (Lj x) (stj x)) → Go K R n0 Q T pc L st) : Go K R n0 Q T pc L st := h2 (fun k => Nat.strongRecOn k h1)
theorem i32_of {x y : Int32} {n : Int} (h : x.toInt = n) (hy : y.toInt = n) : x = y := Int32.toInt_inj.mp (h.trans hy.symm)
theorem i64_of {x y : Int64} {n : Int} (h : x.toInt = n) (hy : y.toInt = n) : x = y := Int64.toInt_inj.mp (h.trans hy.symm)
theorem ne_new {a b n : Nat} (e : a = n) (h : b < n) : b ≠ a := by omega
theorem f_imul (x y : Int32) (n : Int) (hy : y.toInt = n) : ((x * y).toInt - x.toInt * n) % 4294967296 = 0 := by rw [← hy]; exact c_imul x y
theorem f_imul' (x y : Int32) (n : Int) (hx : x.toInt = n) : ((x * y).toInt - n * y.toInt) % 4294967296 = 0 := by rw [← hx]; exact c_imul x y
theorem f_lmul (x y : Int64) (n : Int) (hy : y.toInt = n) : ((x * y).toInt - x.toInt * n) % 18446744073709551616 = 0 := by rw [← hy]; exact c_lmul x y
theorem f_lmul' (x y : Int64) (n : Int) (hx : x.toInt = n) : ((x * y).toInt - n * y.toInt) % 18446744073709551616 = 0 := by rw [← hx]; exact c_lmul x y
theorem f_imask (x m : Int32) (k : Nat) (P : Int) (hk : k ≤ 31) (hm : m.toBitVec.toNat = 2 ^ k - 1) (hP : ((2 ^ k : Nat) : Int) = P) : (x &&& m).toInt = x.toInt % P := by rw [← hP]; exact c_mask x m k hk hm
theorem f_imask' (m x : Int32) (k : Nat) (P : Int) (hk : k ≤ 31) (hm : m.toBitVec.toNat = 2 ^ k - 1) (hP : ((2 ^ k : Nat) : Int) = P) : (m &&& x).toInt = x.toInt % P := by rw [Int32.and_comm]; exact f_imask x m k P hk hm hP
theorem f_lmask (x m : Int64) (k : Nat) (P : Int) (hk : k ≤ 63) (hm : m.toBitVec.toNat = 2 ^ k - 1) (hP : ((2 ^ k : Nat) : Int) = P) : (x &&& m).toInt = x.toInt % P := by rw [← hP]; exact c_maskL x m k hk hm
theorem f_lmask' (m x : Int64) (k : Nat) (P : Int) (hk : k ≤ 63) (hm : m.toBitVec.toNat = 2 ^ k - 1) (hP : ((2 ^ k : Nat) : Int) = P) : (m &&& x).toInt = x.toInt % P := by rw [Int64.and_comm]; exact f_lmask x m k P hk hm hP
theorem f_ishl (x q : Int32) (k : Nat) (P : Int) (hk : q.toBitVec.toNat % 32 = k) (hP : ((2 ^ k : Nat) : Int) = P) : ((x <<< (q &&& 31)).toInt - x.toInt * P) % 4294967296 = 0 := by rw [← hP]; exact c_ishl x q k hk
theorem f_ishr (x q : Int32) (k : Nat) (P : Int) (hk : q.toBitVec.toNat % 32 = k) (hP : ((2 ^ k : Nat) : Int) = P) : (x >>> (q &&& 31)).toInt = x.toInt / P := by rw [← hP]; exact c_ishr x q k hk
theorem f_iushr (x q : Int32) (k : Nat) (P : Int) (hk : q.toBitVec.toNat % 32 = k) (h0 : 0 < k) (hP : ((2 ^ k : Nat) : Int) = P) : (ushr x q).toInt = (x.toInt % 4294967296) / P := by rw [← hP]; exact c_iushr x q k hk h0
theorem f_lshl (x : Int64) (q : Int32) (k : Nat) (P : Int) (hk : q.toBitVec.toNat % 64 = k) (hP : ((2 ^ k : Nat) : Int) = P) : ((x <<< (q &&& 0x3f).toInt64).toInt - x.toInt * P) % 18446744073709551616 = 0 := by rw [← hP]; exact c_lshl x q k hk
theorem f_lshr (x : Int64) (q : Int32) (k : Nat) (P : Int) (hk : q.toBitVec.toNat % 64 = k) (hP : ((2 ^ k : Nat) : Int) = P) : (x >>> (q &&& 0x3f).toInt64).toInt = x.toInt / P := by rw [← hP]; exact c_lshr x q k hk
theorem f_lushr (x : Int64) (q : Int32) (k : Nat) (P : Int) (hk : q.toBitVec.toNat % 64 = k) (h0 : 0 < k) (hP : ((2 ^ k : Nat) : Int) = P) : (ushrL x q).toInt = (x.toInt % 18446744073709551616) / P := by rw [← hP]; exact c_lushr x q k hk h0
theorem f_idiv (x y : Int32) (d : Int) (hy : y.toInt = d) (hd : y ≠ -1) : (0 ≤ x.toInt → (x / y).toInt = x.toInt / d) ∧ (x.toInt < 0 → (x / y).toInt = -((-x.toInt) / d)) := c_idiv x y d hy hd
theorem f_irem (x y : Int32) (d : Int) (hy : y.toInt = d) : (0 ≤ x.toInt → (x % y).toInt = x.toInt % d) ∧ (x.toInt < 0 → (x % y).toInt = -((-x.toInt) % d)) := c_irem x y d hy
theorem f_ldiv (x y : Int64) (d : Int) (hy : y.toInt = d) (hd : y ≠ -1) : (0 ≤ x.toInt → (x / y).toInt = x.toInt / d) ∧ (x.toInt < 0 → (x / y).toInt = -((-x.toInt) / d)) := c_ldiv x y d hy hd
theorem f_i2b (x : Int32) : ((i2b x).toInt - x.toInt) % 256 = 0 ∧ -128 ≤ (i2b x).toInt ∧ (i2b x).toInt < 128 := c_i2b x
theorem f_i2s (x : Int32) : ((i2s x).toInt - x.toInt) % 65536 = 0 ∧ -32768 ≤ (i2s x).toInt ∧ (i2s x).toInt < 32768 := c_i2s x
theorem f_i2c (x : Int32) : ((i2c x).toInt - x.toInt) % 65536 = 0 ∧ 0 ≤ (i2c x).toInt ∧ (i2c x).toInt < 65536 := c_i2c x
theorem x_iadd {a b : Int32} {la ha lb hb : Int} (p : la ≤ a.toInt ∧ a.toInt ≤ ha) (q : lb ≤ b.toInt ∧ b.toInt ≤ hb) (h1 : -2147483648 ≤ la + lb) (h2 : ha + hb < 2147483648) : (a + b).toInt = a.toInt + b.toInt := by have r := c_iadd a b; have s := rng32 (a + b); omega
theorem x_isub {a b : Int32} {la ha lb hb : Int} (p : la ≤ a.toInt ∧ a.toInt ≤ ha) (q : lb ≤ b.toInt ∧ b.toInt ≤ hb) (h1 : -2147483648 ≤ la - hb) (h2 : ha - lb < 2147483648) : (a - b).toInt = a.toInt - b.toInt := by have r := c_isub a b; have s := rng32 (a - b); omega
theorem x_imask {a m : Int32} {P : Int} (k : Nat) (hk : k ≤ 32 - 1) (hm : m.toBitVec.toNat = 2 ^ k - 1) (hP : ((2 ^ k : Nat) : Int) = P) : (a &&& m).toInt = a.toInt % P := f_imask a m k P hk hm hP
theorem x_ineg {a : Int32} {la ha : Int} (p : la ≤ a.toInt ∧ a.toInt ≤ ha) (h1 : -2147483648 < la) : (-a).toInt = -a.toInt := by have r := c_ineg a; have s := rng32 (-a); have t := rng32 a; omega
theorem x_ishr {x : Int32} {q : Int32} {P : Int} (k : Nat) (hk : q.toBitVec.toNat % 32 = k) (hP : ((2 ^ k : Nat) : Int) = P) : (x >>> (q &&& 31)).toInt = x.toInt / P := f_ishr x q k P hk hP
theorem x_iushr {x : Int32} {q : Int32} {P la ha : Int} (p : la ≤ x.toInt ∧ x.toInt ≤ ha) (h1 : 0 ≤ la) (k : Nat) (hk : q.toBitVec.toNat % 32 = k) (h0 : 0 < k) (hP : ((2 ^ k : Nat) : Int) = P) : (ushr x q).toInt = x.toInt / P := by
  have r := f_iushr x q k P hk h0 hP
  have s := rng32 x
  rw [r]; congr 1; omega
theorem x_imul {a b : Int32} {la ha n : Int} (p : la ≤ a.toInt ∧ a.toInt ≤ ha) (hn : b.toInt = n) (h0 : 0 ≤ n) (h1 : -2147483648 ≤ la * n) (h2 : ha * n < 2147483648) : (a * b).toInt = a.toInt * n := by
  have r := f_imul a b n hn
  have s := rng32 (a * b)
  have m1 := Int.mul_le_mul_of_nonneg_right p.1 h0
  have m2 := Int.mul_le_mul_of_nonneg_right p.2 h0
  generalize a.toInt * n = z at *
  generalize la * n = z1 at *
  generalize ha * n = z2 at *
  omega
theorem x_imulN {a b : Int32} {la ha n : Int} (p : la ≤ a.toInt ∧ a.toInt ≤ ha) (hn : b.toInt = n) (h0 : n ≤ 0) (h1 : -2147483648 ≤ ha * n) (h2 : la * n < 2147483648) : (a * b).toInt = a.toInt * n := by
  have r := f_imul a b n hn
  have s := rng32 (a * b)
  have m1 := Int.mul_le_mul_of_nonpos_right p.1 h0
  have m2 := Int.mul_le_mul_of_nonpos_right p.2 h0
  generalize a.toInt * n = z at *
  generalize la * n = z1 at *
  generalize ha * n = z2 at *
  omega
theorem x_imulN' {a b : Int32} {la ha n : Int} (p : la ≤ b.toInt ∧ b.toInt ≤ ha) (hn : a.toInt = n) (h0 : n ≤ 0) (h1 : -2147483648 ≤ ha * n) (h2 : la * n < 2147483648) : (a * b).toInt = b.toInt * n := by
  rw [Int32.mul_comm]; exact x_imulN p hn h0 h1 h2
theorem x_imul' {a b : Int32} {la ha n : Int} (p : la ≤ b.toInt ∧ b.toInt ≤ ha) (hn : a.toInt = n) (h0 : 0 ≤ n) (h1 : -2147483648 ≤ la * n) (h2 : ha * n < 2147483648) : (a * b).toInt = b.toInt * n := by
  rw [Int32.mul_comm]; exact x_imul p hn h0 h1 h2
theorem x_ladd {a b : Int64} {la ha lb hb : Int} (p : la ≤ a.toInt ∧ a.toInt ≤ ha) (q : lb ≤ b.toInt ∧ b.toInt ≤ hb) (h1 : -9223372036854775808 ≤ la + lb) (h2 : ha + hb < 9223372036854775808) : (a + b).toInt = a.toInt + b.toInt := by have r := c_ladd a b; have s := rng64 (a + b); omega
theorem x_lsub {a b : Int64} {la ha lb hb : Int} (p : la ≤ a.toInt ∧ a.toInt ≤ ha) (q : lb ≤ b.toInt ∧ b.toInt ≤ hb) (h1 : -9223372036854775808 ≤ la - hb) (h2 : ha - lb < 9223372036854775808) : (a - b).toInt = a.toInt - b.toInt := by have r := c_lsub a b; have s := rng64 (a - b); omega
theorem x_lmask {a m : Int64} {P : Int} (k : Nat) (hk : k ≤ 64 - 1) (hm : m.toBitVec.toNat = 2 ^ k - 1) (hP : ((2 ^ k : Nat) : Int) = P) : (a &&& m).toInt = a.toInt % P := f_lmask a m k P hk hm hP
theorem x_lneg {a : Int64} {la ha : Int} (p : la ≤ a.toInt ∧ a.toInt ≤ ha) (h1 : -9223372036854775808 < la) : (-a).toInt = -a.toInt := by have r := c_lneg a; have s := rng64 (-a); have t := rng64 a; omega
theorem x_lshr {x : Int64} {q : Int32} {P : Int} (k : Nat) (hk : q.toBitVec.toNat % 64 = k) (hP : ((2 ^ k : Nat) : Int) = P) : (x >>> (q &&& 0x3f).toInt64).toInt = x.toInt / P := f_lshr x q k P hk hP
theorem x_lushr {x : Int64} {q : Int32} {P la ha : Int} (p : la ≤ x.toInt ∧ x.toInt ≤ ha) (h1 : 0 ≤ la) (k : Nat) (hk : q.toBitVec.toNat % 64 = k) (h0 : 0 < k) (hP : ((2 ^ k : Nat) : Int) = P) : (ushrL x q).toInt = x.toInt / P := by
  have r := f_lushr x q k P hk h0 hP
  have s := rng64 x
  rw [r]; congr 1; omega
theorem x_lmul {a b : Int64} {la ha n : Int} (p : la ≤ a.toInt ∧ a.toInt ≤ ha) (hn : b.toInt = n) (h0 : 0 ≤ n) (h1 : -9223372036854775808 ≤ la * n) (h2 : ha * n < 9223372036854775808) : (a * b).toInt = a.toInt * n := by
  have r := f_lmul a b n hn
  have s := rng64 (a * b)
  have m1 := Int.mul_le_mul_of_nonneg_right p.1 h0
  have m2 := Int.mul_le_mul_of_nonneg_right p.2 h0
  generalize a.toInt * n = z at *
  generalize la * n = z1 at *
  generalize ha * n = z2 at *
  omega
theorem x_lmulN {a b : Int64} {la ha n : Int} (p : la ≤ a.toInt ∧ a.toInt ≤ ha) (hn : b.toInt = n) (h0 : n ≤ 0) (h1 : -9223372036854775808 ≤ ha * n) (h2 : la * n < 9223372036854775808) : (a * b).toInt = a.toInt * n := by
  have r := f_lmul a b n hn
  have s := rng64 (a * b)
  have m1 := Int.mul_le_mul_of_nonpos_right p.1 h0
  have m2 := Int.mul_le_mul_of_nonpos_right p.2 h0
  generalize a.toInt * n = z at *
  generalize la * n = z1 at *
  generalize ha * n = z2 at *
  omega
theorem x_lmulN' {a b : Int64} {la ha n : Int} (p : la ≤ b.toInt ∧ b.toInt ≤ ha) (hn : a.toInt = n) (h0 : n ≤ 0) (h1 : -9223372036854775808 ≤ ha * n) (h2 : la * n < 9223372036854775808) : (a * b).toInt = b.toInt * n := by
  rw [Int64.mul_comm]; exact x_lmulN p hn h0 h1 h2
theorem x_lmul' {a b : Int64} {la ha n : Int} (p : la ≤ b.toInt ∧ b.toInt ≤ ha) (hn : a.toInt = n) (h0 : 0 ≤ n) (h1 : -9223372036854775808 ≤ la * n) (h2 : ha * n < 9223372036854775808) : (a * b).toInt = b.toInt * n := by
  rw [Int64.mul_comm]; exact x_lmul p hn h0 h1 h2
theorem ib_add {a b la ha lb hb lo hi : Int} (p : la ≤ a ∧ a ≤ ha) (q : lb ≤ b ∧ b ≤ hb) (h1 : lo ≤ la + lb) (h2 : ha + hb ≤ hi) : lo ≤ a + b ∧ a + b ≤ hi := by omega
theorem ib_sub {a b la ha lb hb lo hi : Int} (p : la ≤ a ∧ a ≤ ha) (q : lb ≤ b ∧ b ≤ hb) (h1 : lo ≤ la - hb) (h2 : ha - lb ≤ hi) : lo ≤ a - b ∧ a - b ≤ hi := by omega
theorem ib_neg {a la ha lo hi : Int} (p : la ≤ a ∧ a ≤ ha) (h1 : lo ≤ -ha) (h2 : -la ≤ hi) : lo ≤ -a ∧ -a ≤ hi := by omega
theorem ib_mod {a lo hi : Int} (P : Int) (hP : 0 < P) (h1 : lo ≤ 0) (h2 : P - 1 ≤ hi) : lo ≤ a % P ∧ a % P ≤ hi := by have := Int.emod_nonneg a (Int.ne_of_gt hP); have := Int.emod_lt_of_pos a hP; omega
theorem ib_div {a la ha lo hi : Int} (P : Int) (hP : 0 < P) (p : la ≤ a ∧ a ≤ ha) (h1 : lo ≤ la / P) (h2 : ha / P ≤ hi) : lo ≤ a / P ∧ a / P ≤ hi := ⟨Int.le_trans h1 (Int.ediv_le_ediv hP p.1), Int.le_trans (Int.ediv_le_ediv hP p.2) h2⟩
theorem ib_mul {a la ha lo hi : Int} (n : Int) (h0 : 0 ≤ n) (p : la ≤ a ∧ a ≤ ha) (h1 : lo ≤ la * n) (h2 : ha * n ≤ hi) : lo ≤ a * n ∧ a * n ≤ hi := ⟨Int.le_trans h1 (Int.mul_le_mul_of_nonneg_right p.1 h0), Int.le_trans (Int.mul_le_mul_of_nonneg_right p.2 h0) h2⟩
theorem ib_mulN {a la ha lo hi : Int} (n : Int) (h0 : n ≤ 0) (p : la ≤ a ∧ a ≤ ha) (h1 : lo ≤ ha * n) (h2 : la * n ≤ hi) : lo ≤ a * n ∧ a * n ≤ hi := ⟨Int.le_trans h1 (Int.mul_le_mul_of_nonpos_right p.2 h0), Int.le_trans (Int.mul_le_mul_of_nonpos_right p.1 h0) h2⟩
theorem x_idiv {a b : Int32} {la ha d : Int} (p : la ≤ a.toInt ∧ a.toInt ≤ ha) (hy : b.toInt = d) (h0 : 0 ≤ la) (hd : b ≠ -1) : (a / b).toInt = a.toInt / d := (c_idiv a b d hy hd).1 (Int.le_trans h0 p.1)
theorem x_irem {a b : Int32} {la ha d : Int} (p : la ≤ a.toInt ∧ a.toInt ≤ ha) (hy : b.toInt = d) (h0 : 0 ≤ la) : (a % b).toInt = a.toInt % d := (c_irem a b d hy).1 (Int.le_trans h0 p.1)
theorem x_iremV {a b : Int32} {la ha lb hb : Int} (p : la ≤ a.toInt ∧ a.toInt ≤ ha) (q : lb ≤ b.toInt ∧ b.toInt ≤ hb) (h0 : 0 ≤ la) (h1 : 0 < lb) : 0 ≤ (a % b).toInt ∧ (a % b).toInt < b.toInt := by
  have r := (c_iremV a b).1 (Int.le_trans h0 p.1) (Int.lt_of_lt_of_le h1 q.1)
  exact ⟨r.1, r.2.1⟩
theorem ib_rem {r y lb hb hi : Int} (x : 0 ≤ r ∧ r < y) (q : lb ≤ y ∧ y ≤ hb) (h : hb - 1 ≤ hi) : 0 ≤ r ∧ r ≤ hi := by omega
theorem rb32 (x : Int32) : -2147483648 ≤ x.toInt ∧ x.toInt ≤ 2147483647 := by have := rng32 x; omega
theorem rb64 (x : Int64) : -9223372036854775808 ≤ x.toInt ∧ x.toInt ≤ 9223372036854775807 := by have := rng64 x; omega
theorem x_l2i {x : Int64} {la ha : Int} (p : la ≤ x.toInt ∧ x.toInt ≤ ha) (h1 : -2147483648 ≤ la) (h2 : ha < 2147483648) : x.toInt32.toInt = x.toInt := by have r := c_l2i x; have s := rng32 x.toInt32; omega
end Kit
end Jvm.OwnK
namespace Jvm.OwnK
open Sem ClassFile Op Lib Jvm.Stand Jvm.Free Jvm.LawKit Jvm.RoadKit
section Kit4
variable {K : Ctx} {Z : State} {R : Room} {y : MethodName} {bytes : ByteArray} {maxL : Nat} {ret : Option FieldType} {n0 : Nat} {T : State} {h : Heap} {cl sl : Nat} {Q : Option Value → Heap → Prop} {pc pc' : Nat} {L L' : Array Slot} {st : List Value} {a0 : Array Value} {h' : Heap} {a b : Addr} {ty : FieldType} {n m : Nat}
/-- a private method called by invokevirtual; yp: another method of the class of which the sheet has the word selects (so the class is no interface) -/
theorem px_callP {y' : MethodName} {b' : ByteArray} {mx' : Nat} {rt' : Option FieldType} {rm : Room} {as' : List Value} {Q' : Option Value → Heap → Prop} {W idx : Nat} {ps : List FieldType} {rr : Option FieldType} {Cn : String} {yp : MethodName} (S : St K Z R y bytes maxL ret n0 T h cl sl) (C : Ctr Z n0 y' b' mx' rt' rm (.ref a :: as') h Q') (E : Exa Z h a Cn) (w1 : (Jvm.Cond.methodLink y.cls idx y').before a0 Z = true) (w6 : (Jvm.Cond.instanceMethod y').before a0 Z = true) (wp : (Jvm.Cond.privateMethod y').before a0 Z = true) (ws : (Jvm.Cond.selects yp.cls yp yp).before a0 Z = true) (hcc : yp.cls = y'.cls) (w3 : (Jvm.Cond.initialized y'.cls).before a0 Z = true) (w4 : (Jvm.Cond.code y' b' mx' rt').before a0 Z = true) (hy : y'.cls ≠ "java/lang/invoke/MethodHandle" ∧ y'.cls ≠ "java/lang/invoke/VarHandle")
    (hps : parseMethodDescriptor y'.desc = some ⟨ps, rr⟩) (hlen : as'.length = ps.length) (hL : L.size = maxL) (hfr : rm.frames + 1 ≤ R.frames) (hW : (st.map fun v => v.category).sum = W) (hlo : W + (mx' + 11) + rm.locals ≤ R.locals) (hc : cl + rm.cells ≤ R.cells) (hs : sl + rm.slots ≤ R.slots) (hd : decode bytes pc = .ok (.invokevirtual idx, 3)) (hp : pc + 3 = pc') {stk : List Value} (hst : stk = as'.reverse ++ .ref a :: st)
    (k : ∀ (T' : State) (h' : Heap) (v : Option Value), St K Z R y bytes maxL ret n0 T' h' (cl + rm.cells) (sl + rm.slots) → Q' v h' → Go K R n0 Q T' pc' L (v.toList ++ st)) : Go K R n0 Q T pc L stk := by
  subst hp
  subst hst
  obtain ⟨⟨locs, X, hF⟩, e0, hn0, hx, hZ, hby, hml, hret, hlk, hown, hnm⟩ := S
  obtain ⟨cell, hcell, hobj⟩ := E.cell
  have hin : (Jvm.Cond.instanceMethod y').before K.args K.s = true := mvT hZ w6
  have hpr : K.s.PrivateAt y' := Cond.privateMethod_at (mvP (args := K.args) hZ wp)
  have hsel : (Jvm.Cond.selects y'.cls y' y').before K.args K.s = true := by
    have ws' : (Jvm.Cond.selects yp.cls yp yp).before K.args K.s = true := mvT hZ ws
    obtain ⟨c2, r2, m2, -, -, q3, -, kP, hkP, hkPi⟩ := Cond.selects_spec ws'
    have hc := findClass_of_methodNamed q3
    rw [hcc] at hc
    exact selects_self_of_private hc hkP hkPi hpr hin hy
  obtain ⟨v, _, ⟨T1, L1, c1, n1⟩, -, X1, ⟨Lc, hq, hl1, hc1, hs1⟩, stp⟩ := X.privateBack hx (y := y') hown (mvT hZ w1) hin hsel hpr (mvT hZ w4) hy (backOf (Q := fun v h' L => Q' v h' ∧ Fr n0 L) (W := W) (C K.l []) hZ w4 w3 hfr hlo) (g := mkF K.m pc L (as'.reverse ++ .ref a :: st)) rfl (hL.trans hml.symm) (Steps.refl _) (a := a) (by rw [e0]; exact hcell) hobj (argsL := as') (rest := st) (lenOf hps hlen) rfl (by show 2 * 0 + _ ≤ _; rw [hW]; omega) (hb hby hd) (fun _ _ => ⟨rfl, e0, hc, hs⟩)
  dsimp only [Pt.U, Pt.locs, Pt.cells, Pt.slots] at X1 hl1 hc1 hs1 stp hq
  subst hl1 hc1 hs1
  obtain ⟨hq, hFc⟩ := hq
  exact Go.trans stp (k T1 T1.heap v ⟨⟨_, X1, Fr.app hF hFc⟩, rfl, hn0, hx, hZ, hby, hml, hret, hlk, hown, hnm⟩ hq)
end Kit4
end Jvm.OwnK
namespace Jvm.Pilot.@@N@@
open Jvm Jvm.ClassFile Sem Op Lib Jvm.Free Jvm.Stand Jvm.LawKit Jvm.RoadKit Bundle Jvm.OwnK Jvm.Pilot.@@N@@.Jvm.D
def partC (x y z : Int64) (a b c i : Nat) : Int64 := if c < i then x + y + z else if b < i then x + y else if a < i then x else 0
theorem part_0 (x y z : Int64) (a b c : Nat) : partC x y z a b c 0 = 0 := by unfold partC; simp
theorem part_e (x y z : Int64) {a b c : Nat} (hc : c < 256) : partC x y z a b c 256 = x + y + z := by unfold partC; rw [if_pos hc]
theorem part_a (x y z : Int64) {a b c : Nat} (hab : a < b) (hbc : b < c) : partC x y z a b c a + x = partC x y z a b c (a + 1) := by
  unfold partC
  rw [if_neg (by omega), if_neg (by omega), if_neg (by omega), if_neg (by omega), if_neg (by omega), if_pos (by omega), Int64.zero_add]
theorem part_b (x y z : Int64) {a b c : Nat} (hab : a < b) (hbc : b < c) : partC x y z a b c b + y = partC x y z a b c (b + 1) := by
  unfold partC
  rw [if_neg (by omega), if_neg (by omega), if_pos (by omega), if_neg (by omega), if_pos (by omega)]
theorem part_c (x y z : Int64) {a b c : Nat} (hab : a < b) (hbc : b < c) : partC x y z a b c c + z = partC x y z a b c (c + 1) := by
  unfold partC
  rw [if_neg (by omega), if_pos (by omega), if_pos (by omega)]
theorem part_o (x y z : Int64) {a b c i : Nat} (ha : ¬ i = a) (hb : ¬ i = b) (hc : ¬ i = c) : partC x y z a b c i = partC x y z a b c (i + 1) := by
  have e1 : (c < i) = (c < i + 1) := propext ⟨fun h => by omega, fun h => by omega⟩
  have e2 : (b < i) = (b < i + 1) := propext ⟨fun h => by omega, fun h => by omega⟩
  have e3 : (a < i) = (a < i + 1) := propext ⟨fun h => by omega, fun h => by omega⟩
  unfold partC
  simp only [e1, e2, e3]
theorem mul0 (x : Int64) : x * (0 : Int32).toInt64 = 0 := by show x * (0 : Int64) = 0; exact Int64.mul_zero
/-- one turn of cost -/
theorem part_step {fq fl : Nat → Int32} {a b c i : Nat} {acc : Int64} (hab : a < b) (hbc : b < c) (hfl : ∀ j, j < 256 → ¬ j = a → ¬ j = b → ¬ j = c → fl j = 0) (hi : i < 256)
    (h : acc = partC ((fq a).toInt64 * (fl a).toInt64) ((fq b).toInt64 * (fl b).toInt64) ((fq c).toInt64 * (fl c).toInt64) a b c i) :
    acc + (fq i).toInt64 * (fl i).toInt64 = partC ((fq a).toInt64 * (fl a).toInt64) ((fq b).toInt64 * (fl b).toInt64) ((fq c).toInt64 * (fl c).toInt64) a b c (i + 1) := by
  subst h
  by_cases ha : i = a
  · subst ha; exact part_a _ _ _ hab hbc
  by_cases hb : i = b
  · subst hb; exact part_b _ _ _ hab hbc
  by_cases hc : i = c
  · subst hc; exact part_c _ _ _ hab hbc
  rw [hfl i hi ha hb hc, mul0, Int64.add_zero]
  exact part_o _ _ _ ha hb hc
theorem upd_id {f : Nat → Int32} {i : Nat} {v : Int32} (h : f i = v) : ∀ j, j < 256 → updF f i v j = f j := by
  intro j _
  by_cases e : j = i
  · rw [e, updF_same, h]
  · rw [updF_ne _ _ e]
/-- an implication that omega lets lie -/
def Im (P Q : Prop) : Prop := P → Q
/-- a fact that omega lets lie -/
def Hid (P : Prop) : Prop := P
theorem Hid.mk {P : Prop} (h : P) : Hid P := h
theorem Hid.out {P : Prop} (h : Hid P) : P := h
theorem updF_at {f : Nat → Int32} {i j : Nat} {v : Int32} (h : j = i) : updF f i v j = v := by rw [h, updF_same]
theorem inc1 {x v : Int32} {n : Nat} (hv : x + (1 : Int32) = v) (h : x.toInt = (n : Int)) (hn : n ≤ 1000) : v.toInt = ((n + 1 : Nat) : Int) := by
  subst hv
  have q2 := c_iadd x (1 : Int32); have q3 := rng32 (x + (1 : Int32)); have q5 : (1 : Int32).toInt = 1 := rfl
  omega
def Pl (x : Slot) : Prop := match x with | .second => False | .val old => old.category = 1 | .unset => True
theorem store_pl {l : Array Slot} {i : Nat} {x : Slot} {v : Value} (hx : l[i]? = some x) (hv : v.category = 1) (h : Pl x) : storeLocals l i v = some (l.setIfInBounds i (.val v)) := by
  cases x with
  | second => exact False.elim h
  | val old => exact storeLocals_cat1 hx hv h
  | unset => exact storeLocals_cat1 hx hv trivial
theorem weight_pl {wd f : Int32} (h0 : 0 ≤ wd.toInt) (h2 : wd.toInt ≤ 2) (h1 : 1 ≤ f.toInt) (h3 : f.toInt ≤ wd.toInt) : ∃ n : Nat, n < 13 ∧ ((wd + (1 : Int32)) - f).toInt = (n : Int) := by
  have a := c_iadd wd (1 : Int32); have b := rng32 (wd + (1 : Int32)); have c : (1 : Int32).toInt = 1 := rfl
  have d := c_isub (wd + (1 : Int32)) f; have e := rng32 ((wd + (1 : Int32)) - f)
  exact ⟨((wd + (1 : Int32)) - f).toInt.toNat, by omega, by omega⟩
theorem AI.abs {Z : State} {h : Heap} {a : Addr} {n : Nat} {f : Nat → Int32} (A : AI Z h a .int n f) {P : (Nat → Int32) → Prop} (p : P f) : ∃ g, AI Z h a .int n g ∧ P g := ⟨f, A, p⟩
theorem pos01 (z : Int) : ∃ n : Nat, n ≤ 1 ∧ Hid (n = 1 ↔ z > 0) := by
  by_cases h : z > 0
  · exact ⟨1, by omega, Hid.mk (by omega)⟩
  · exact ⟨0, by omega, Hid.mk (by omega)⟩
def CntP (na nb nc a b c i pr : Nat) : Prop := (i ≤ a ∧ pr = 0) ∨ (a < i ∧ i ≤ b ∧ pr = na) ∨ (b < i ∧ i ≤ c ∧ pr = na + nb) ∨ (c < i ∧ pr = na + nb + nc)
theorem cnt_le {na nb nc a b c i pr : Nat} (h : CntP na nb nc a b c i pr) (ha : na ≤ 1) (hb : nb ≤ 1) (hc : nc ≤ 1) : pr ≤ 3 := by unfold CntP at h; omega
theorem cnt_o {na nb nc a b c i pr : Nat} (h : CntP na nb nc a b c i pr) (hab : a < b) (hbc : b < c) (h1 : ¬ i = a) (h2 : ¬ i = b) (h3 : ¬ i = c) : CntP na nb nc a b c (i + 1) pr := by unfold CntP at h ⊢; omega
theorem cnt_a {na nb nc a b c i pr d : Nat} (h : CntP na nb nc a b c i pr) (hab : a < b) (hbc : b < c) (h1 : i = a) (hd : d = na) : CntP na nb nc a b c (i + 1) (pr + d) ∧ pr = 0 := by unfold CntP at h ⊢; omega
theorem cnt_b {na nb nc a b c i pr d : Nat} (h : CntP na nb nc a b c i pr) (hab : a < b) (hbc : b < c) (h1 : i = b) (hd : d = nb) : CntP na nb nc a b c (i + 1) (pr + d) ∧ pr = na := by unfold CntP at h ⊢; omega
theorem cnt_c {na nb nc a b c i pr d : Nat} (h : CntP na nb nc a b c i pr) (hab : a < b) (hbc : b < c) (h1 : i = c) (hd : d = nc) : CntP na nb nc a b c (i + 1) (pr + d) ∧ pr = na + nb := by unfold CntP at h ⊢; omega
theorem cnt_e {na nb nc a b c i pr : Nat} (h : CntP na nb nc a b c i pr) (hab : a < b) (hbc : b < c) (hc : c < i) : pr = na + nb + nc := by unfold CntP at h; omega
/-- what the lengths are, by how many bytes occur -/
def LenP (na nb nc : Nat) (oa ob oc la lb lc : Int) : Prop := (na + nb + nc = 2 ∧ la = na ∧ lb = nb ∧ lc = nc) ∨ (na + nb + nc = 3 ∧ ((oc ≥ oa ∧ oc ≥ ob ∧ la = 2 ∧ lb = 2 ∧ lc = 1) ∨ (¬ (oc ≥ oa ∧ oc ≥ ob) ∧ ob ≥ oa ∧ la = 2 ∧ lb = 1 ∧ lc = 2) ∨ (¬ (oc ≥ oa ∧ oc ≥ ob) ∧ ¬ ob ≥ oa ∧ la = 1 ∧ lb = 2 ∧ lc = 2)))
/- the walk -/
theorem d7_0 : decode jdk_29_method_69_code 0 = .ok (.iload_n 0, 1) := by decide +kernel
theorem d7_1 : decode jdk_29_method_69_code 1 = .ok (.iload_n 1, 1) := by decide +kernel
theorem d7_2 : decode jdk_29_method_69_code 2 = .ok (.if_icmp .gt 7, 3) := by decide +kernel
theorem d7_5 : decode jdk_29_method_69_code 5 = .ok (.iload_n 0, 1) := by decide +kernel
theorem d7_6 : decode jdk_29_method_69_code 6 = .ok (.goto 4, 3) := by decide +kernel
theorem d7_10 : decode jdk_29_method_69_code 10 = .ok (.ireturn, 1) := by decide +kernel
set_option maxRecDepth 65536 in
set_option maxHeartbeats 40000000 in
theorem c_min {Z : State} {a0 : Array Value} (hw : ∀ d ∈ tables_1, d.before a0 Z = true) {x z : Int32} {h0 : Heap} {n0 : Nat} (Z0 : n0 ≤ h0.size) (hxz : x.toInt ≤ z.toInt) :
    Ctr Z n0 (⟨"java/lang/Math", "min", "(II)I"⟩ : MethodName) jdk_29_method_69_code 2 (some .int) ({ frames := 0, cells := 0, slots := 0, locals := 0 } : Room) [(.int x), (.int z)] h0 (fun v h => v = some (.int x) ∧ h = h0) := by
  refine Ctr.of (L := #[.val (.int x), .val (.int z)]) (Jvm.Free.JP.mathPlain rfl (by decide +kernel)) Z0 (fun m => by first | (simp [entryFrame, mkF, argsToLocals, Value.category]; done) | rfl) ?_
  intro K T S0
  refine px_iloadN S0 d7_0 rfl rfl ?_
  refine px_iloadN S0 d7_1 rfl rfl ?_
  refine px_icmp S0 d7_2 (by decide) (pc' := 9) rfl rfl (fun (hc1 : x.toInt > z.toInt) => by exfalso; have q0 := rng32 x; have q1 := rng32 z; omega) (fun (hc1 : x.toInt ≤ z.toInt) => ?_)
  refine px_iloadN S0 d7_5 rfl rfl ?_
  refine px_goto S0 d7_6 (by decide) (pc' := 10) rfl ?_
  exact px_retI S0 d7_10 rfl (by decide) (by decide) (⟨rfl, rfl⟩)
theorem d8_0 : decode jdk_29_method_65_code 0 = .ok (.iload_n 0, 1) := by decide +kernel
theorem d8_1 : decode jdk_29_method_65_code 1 = .ok (.iload_n 1, 1) := by decide +kernel
theorem d8_2 : decode jdk_29_method_65_code 2 = .ok (.if_icmp .lt 7, 3) := by decide +kernel
theorem d8_5 : decode jdk_29_method_65_code 5 = .ok (.iload_n 0, 1) := by decide +kernel
theorem d8_6 : decode jdk_29_method_65_code 6 = .ok (.goto 4, 3) := by decide +kernel
theorem d8_9 : decode jdk_29_method_65_code 9 = .ok (.iload_n 1, 1) := by decide +kernel
theorem d8_10 : decode jdk_29_method_65_code 10 = .ok (.ireturn, 1) := by decide +kernel
set_option maxRecDepth 65536 in
set_option maxHeartbeats 40000000 in
theorem c_max {Z : State} {a0 : Array Value} (hw : ∀ d ∈ tables_1, d.before a0 Z = true) {x z : Int32} {h0 : Heap} {n0 : Nat} (Z0 : n0 ≤ h0.size) :
    Ctr Z n0 (⟨"java/lang/Math", "max", "(II)I"⟩ : MethodName) jdk_29_method_65_code 2 (some .int) ({ frames := 0, cells := 0, slots := 0, locals := 0 } : Room) [(.int x), (.int z)] h0 (fun v h => h = h0 ∧ ∃ r : Int32, v = some (.int r) ∧ x.toInt ≤ r.toInt ∧ z.toInt ≤ r.toInt ∧ (r.toInt = x.toInt ∨ r.toInt = z.toInt)) := by
  refine Ctr.of (L := #[.val (.int x), .val (.int z)]) (Jvm.Free.JP.mathPlain rfl (by decide +kernel)) Z0 (fun m => by first | (simp [entryFrame, mkF, argsToLocals, Value.category]; done) | rfl) ?_
  intro K T S0
  refine px_iloadN S0 d8_0 rfl rfl ?_
  refine px_iloadN S0 d8_1 rfl rfl ?_
  refine px_icmp S0 d8_2 (by decide) (pc' := 9) rfl rfl (fun (hc1 : x.toInt < z.toInt) => ?_) (fun (hc1 : x.toInt ≥ z.toInt) => ?_)
  · refine px_iloadN S0 d8_9 rfl rfl ?_
    exact px_retI S0 d8_10 rfl (by decide) (by decide) (⟨rfl, _, rfl, by omega, by omega, by omega⟩)
  · refine px_iloadN S0 d8_5 rfl rfl ?_
    refine px_goto S0 d8_6 (by decide) (pc' := 10) rfl ?_
    exact px_retI S0 d8_10 rfl (by decide) (by decide) (⟨rfl, _, rfl, by omega, by omega, by omega⟩)
theorem d9_0 : decode prog_46_method_7_code 0 = .ok (.aload_n 0, 1) := by decide +kernel
theorem d9_1 : decode prog_46_method_7_code 1 = .ok (.getfield 28, 3) := by decide +kernel
theorem d9_4 : decode prog_46_method_7_code 4 = .ok (.iconst 1, 1) := by decide +kernel
theorem d9_5 : decode prog_46_method_7_code 5 = .ok (.iadd, 1) := by decide +kernel
theorem d9_6 : decode prog_46_method_7_code 6 = .ok (.aload_n 0, 1) := by decide +kernel
theorem d9_7 : decode prog_46_method_7_code 7 = .ok (.getfield 11, 3) := by decide +kernel
theorem d9_10 : decode prog_46_method_7_code 10 = .ok (.iload_n 1, 1) := by decide +kernel
theorem d9_11 : decode prog_46_method_7_code 11 = .ok (.iaload, 1) := by decide +kernel
theorem d9_12 : decode prog_46_method_7_code 12 = .ok (.isub, 1) := by decide +kernel
theorem d9_13 : decode prog_46_method_7_code 13 = .ok (.ireturn, 1) := by decide +kernel
theorem pn_9 : plainFor (⟨"com/example/colonnade/colonnade/compress/HuffmanEncoder", "weight", "(I)I"⟩ : MethodName) = true := plainFor_of_name (by first | (simp [plainName, overriddenIn]; done) | decide +kernel)
set_option maxRecDepth 65536 in
set_option maxHeartbeats 40000000 in
theorem c_weight {Z : State} {a0 : Array Value} (hw : ∀ d ∈ tables_1, d.before a0 Z = true) {t ln : Addr} {sN : Nat} {s wd : Int32} {fl : Nat → Int32} {h0 : Heap} {n0 : Nat} (Z0 : n0 ≤ h0.size) (X_t : Exa Z h0 t "com/example/colonnade/colonnade/compress/HuffmanEncoder") (F_lengths_t : Fld Z h0 t "com/example/colonnade/colonnade/compress/HuffmanEncoder" "lengths" "[I" (.ref ln)) (F_width_t : Fld Z h0 t "com/example/colonnade/colonnade/compress/HuffmanEncoder" "width" "I" (.int wd)) (A_l : AI Z h0 ln .int 256 fl) (hs : s.toInt = (sN : Int)) (hs2 : sN < 256) :
    Ctr Z n0 (⟨"com/example/colonnade/colonnade/compress/HuffmanEncoder", "weight", "(I)I"⟩ : MethodName) prog_46_method_7_code 2 (some .int) ({ frames := 0, cells := 0, slots := 0, locals := 0 } : Room) [(.ref t), (.int s)] h0 (fun v h => v = some (.int ((wd + (1 : Int32)) - fl sN)) ∧ h = h0) := by
  refine Ctr.of (L := #[.val (.ref t), .val (.int s)]) pn_9 Z0 (fun m => by first | (simp [entryFrame, mkF, argsToLocals, Value.category]; done) | rfl) ?_
  intro K T S0
  refine px_aloadN S0 d9_0 rfl rfl rfl ?_
  refine px_getfield S0 (hw _ (List.mem_of_getElem? (i := 36) rfl)) F_width_t d9_1 rfl (fun T1 S1 => ?_)
  refine px_iconst (v := (1 : Int32)) S1 d9_4 rfl rfl ?_
  refine px_iadd S1 d9_5 rfl ?_
  refine px_aloadN S1 d9_6 rfl rfl rfl ?_
  refine px_getfield S1 (hw _ (List.mem_of_getElem? (i := 10) rfl)) F_lengths_t d9_7 rfl (fun T2 S2 => ?_)
  refine px_iloadN S2 d9_10 rfl rfl ?_
  refine px_iaload (v := (fl sN)) S2 A_l (i := sN) hs hs2 rfl d9_11 rfl ?_
  refine px_isub S2 d9_12 rfl ?_
  exact px_retI S2 d9_13 rfl (by decide) (by decide) (⟨rfl, rfl⟩)
theorem d10_0 : decode prog_46_method_3_code 0 = .ok (.lconst 0, 1) := by decide +kernel
theorem d10_1 : decode prog_46_method_3_code 1 = .ok (.lstore_n 2, 1) := by decide +kernel
theorem d10_2 : decode prog_46_method_3_code 2 = .ok (.iconst 0, 1) := by decide +kernel
theorem d10_3 : decode prog_46_method_3_code 3 = .ok (.istore 4, 2) := by decide +kernel
theorem d10_5 : decode prog_46_method_3_code 5 = .ok (.iload 4, 2) := by decide +kernel
theorem d10_7 : decode prog_46_method_3_code 7 = .ok (.sipush 256, 3) := by decide +kernel
theorem d10_10 : decode prog_46_method_3_code 10 = .ok (.if_icmp .ge 26, 3) := by decide +kernel
theorem d10_13 : decode prog_46_method_3_code 13 = .ok (.lload_n 2, 1) := by decide +kernel
theorem d10_14 : decode prog_46_method_3_code 14 = .ok (.aload_n 1, 1) := by decide +kernel
theorem d10_15 : decode prog_46_method_3_code 15 = .ok (.iload 4, 2) := by decide +kernel
theorem d10_17 : decode prog_46_method_3_code 17 = .ok (.iaload, 1) := by decide +kernel
theorem d10_18 : decode prog_46_method_3_code 18 = .ok (.i2l, 1) := by decide +kernel
theorem d10_19 : decode prog_46_method_3_code 19 = .ok (.aload_n 0, 1) := by decide +kernel
theorem d10_20 : decode prog_46_method_3_code 20 = .ok (.getfield 11, 3) := by decide +kernel
theorem d10_23 : decode prog_46_method_3_code 23 = .ok (.iload 4, 2) := by decide +kernel
theorem d10_25 : decode prog_46_method_3_code 25 = .ok (.iaload, 1) := by decide +kernel
theorem d10_26 : decode prog_46_method_3_code 26 = .ok (.i2l, 1) := by decide +kernel
theorem d10_27 : decode prog_46_method_3_code 27 = .ok (.lmul, 1) := by decide +kernel
theorem d10_28 : decode prog_46_method_3_code 28 = .ok (.ladd, 1) := by decide +kernel
theorem d10_29 : decode prog_46_method_3_code 29 = .ok (.lstore_n 2, 1) := by decide +kernel
theorem d10_30 : decode prog_46_method_3_code 30 = .ok (.iinc 4 1, 3) := by decide +kernel
theorem d10_33 : decode prog_46_method_3_code 33 = .ok (.goto (-28), 3) := by decide +kernel
theorem d10_36 : decode prog_46_method_3_code 36 = .ok (.lload_n 2, 1) := by decide +kernel
theorem d10_37 : decode prog_46_method_3_code 37 = .ok (.lreturn, 1) := by decide +kernel
theorem pn_10 : plainFor (⟨"com/example/colonnade/colonnade/compress/HuffmanEncoder", "cost", "([I)J"⟩ : MethodName) = true := plainFor_of_name (by first | (simp [plainName, overriddenIn]; done) | decide +kernel)
set_option maxRecDepth 65536 in
set_option maxHeartbeats 40000000 in
theorem c_cost {Z : State} {a0 : Array Value} (hw : ∀ d ∈ tables_1, d.before a0 Z = true) {t ln o : Addr} {a b c : Nat} {fl fq : Nat → Int32} {h0 : Heap} {n0 : Nat} (Z0 : n0 ≤ h0.size) (X_t : Exa Z h0 t "com/example/colonnade/colonnade/compress/HuffmanEncoder") (F_lengths_t : Fld Z h0 t "com/example/colonnade/colonnade/compress/HuffmanEncoder" "lengths" "[I" (.ref ln)) (A_l : AI Z h0 ln .int 256 fl) (A_o : AI Z h0 o .int 256 fq) (hab : a < b) (hbc : b < c) (hc : c < 256) (hfl : ∀ j, j < 256 → ¬ j = a → ¬ j = b → ¬ j = c → fl j = 0) :
    Ctr Z n0 (⟨"com/example/colonnade/colonnade/compress/HuffmanEncoder", "cost", "([I)J"⟩ : MethodName) prog_46_method_3_code 5 (some .long) ({ frames := 0, cells := 0, slots := 0, locals := 0 } : Room) [(.ref t), (.ref o)] h0 (fun v h => v = some (.long ((fq a).toInt64 * (fl a).toInt64 + (fq b).toInt64 * (fl b).toInt64 + (fq c).toInt64 * (fl c).toInt64)) ∧ h = h0) := by
  refine Ctr.of (L := #[.val (.ref t), .val (.ref o), .unset, .unset, .unset]) pn_10 Z0 (fun m => by first | (simp [entryFrame, mkF, argsToLocals, Value.category]; done) | rfl) ?_
  intro K T S0
  have l256 : (256 : Int32).toInt = 256 := rfl
  refine px_lconst (v := (0 : Int64)) S0 d10_0 rfl rfl ?_
  refine px_lstoreN S0 d10_1 rfl (L' := #[.val (.ref t), .val (.ref o), .val (.long (0 : Int64)), .second, .unset]) rfl ?_
  refine px_iconst (v := (0 : Int32)) S0 d10_2 rfl rfl ?_
  refine px_istore S0 d10_3 rfl (L' := #[.val (.ref t), .val (.ref o), .val (.long (0 : Int64)), .second, .val (.int (0 : Int32))]) rfl ?_
  refine Go.loopH (α := (Nat) × (Int64) × (Int32)) (Inv := fun k xx h => h = h0 ∧ xx.1 + k = 256 ∧ xx.2.2.toInt = (xx.1 : Int) ∧ xx.2.1 = partC ((fq a).toInt64 * (fl a).toInt64) ((fq b).toInt64 * (fl b).toInt64) ((fq c).toInt64 * (fl c).toInt64) a b c xx.1) (pcj := 5) (cl' := 0) (sl' := 0) (Lj := fun xx => #[.val (.ref t), .val (.ref o), .val (.long xx.2.1), .second, .val (.int xx.2.2)]) (stj := fun xx => []) S0 (fun k IHJ1 xx T2 h2 S2 p2 => ?_) (fun J1 => ?_)
  · obtain ⟨i, acc, iv⟩ := xx
    try dsimp only at p2
    obtain ⟨rfl, hk, hi, hacc⟩ := p2
    show Go _ _ _ _ _ 5 #[.val (.ref t), .val (.ref o), .val (.long acc), .second, .val (.int iv)] []
    refine px_iload S2 d10_5 rfl rfl ?_
    refine px_sipush (v := (256 : Int32)) S2 d10_7 rfl rfl ?_
    refine px_icmp S2 d10_10 (by decide) (pc' := 36) rfl rfl (fun (hc3 : iv.toInt ≥ (256 : Int32).toInt) => ?_) (fun (hc3 : iv.toInt < (256 : Int32).toInt) => ?_)
    · refine px_lloadN S2 d10_36 rfl rfl ?_
      exact px_retJ S2 d10_37 rfl (by decide) (by decide) (⟨by obtain rfl : i = 256 := (by have q0 := rng32 iv; have q1 := (show (256 : Int32).toInt = 256 from rfl); omega); rw [hacc, part_e _ _ _ hc], rfl⟩)
    · refine px_lloadN S2 d10_13 rfl rfl ?_
      refine px_aloadN S2 d10_14 rfl rfl rfl ?_
      refine px_iload S2 d10_15 rfl rfl ?_
      refine px_iaload (v := (fq i)) S2 A_o (i := i) hi (by have q : (256 : Int32).toInt = 256 := rfl; omega) rfl d10_17 rfl ?_
      refine px_i2l S2 d10_18 rfl ?_
      refine px_aloadN S2 d10_19 rfl rfl rfl ?_
      refine px_getfield S2 (hw _ (List.mem_of_getElem? (i := 10) rfl)) F_lengths_t d10_20 rfl (fun T4 S4 => ?_)
      refine px_iload S4 d10_23 rfl rfl ?_
      refine px_iaload (v := (fl i)) S4 A_l (i := i) hi (by have q : (256 : Int32).toInt = 256 := rfl; omega) rfl d10_25 rfl ?_
      refine px_i2l S4 d10_26 rfl ?_
      refine px_lmul S4 d10_27 rfl ?_
      refine px_ladd S4 d10_28 rfl ?_
      refine px_lstoreN S4 d10_29 rfl (L' := #[.val (.ref t), .val (.ref o), .val (.long (acc + ((fq i).toInt64 * (fl i).toInt64))), .second, .val (.int iv)]) rfl ?_
      refine px_iinc (v := (1 : Int32)) (r := (iv + (1 : Int32))) S4 d10_30 rfl rfl rfl rfl (L' := #[.val (.ref t), .val (.ref o), .val (.long (acc + ((fq i).toInt64 * (fl i).toInt64))), .second, .val (.int (iv + (1 : Int32)))]) rfl ?_
      refine px_goto S4 d10_33 (by decide) (pc' := 5) rfl ?_
      exact IHJ1 (k - 1) (by omega) (i + 1, (acc + ((fq i).toInt64 * (fl i).toInt64)), (iv + (1 : Int32))) _ _ S4 ⟨rfl, by (try dsimp only); omega, by (try dsimp only); have q0 := c_iadd iv (1 : Int32); have q1 := rng32 (iv + (1 : Int32)); have q2 := rng32 iv; have q3 := (show (1 : Int32).toInt = 1 from rfl); have q4 := (show (256 : Int32).toInt = 256 from rfl); omega, part_step hab hbc hfl (by omega) hacc⟩
  · exact J1 256 (0, (0 : Int64), (0 : Int32)) _ _ S0 ⟨rfl, rfl, rfl, (part_0 _ _ _ _ _ _).symm⟩
theorem d1_0 : decode prog_46_method_1_code 0 = .ok (.aload_n 0, 1) := by decide +kernel
theorem d1_1 : decode prog_46_method_1_code 1 = .ok (.invokespecial 3, 3) := by decide +kernel
theorem d1_4 : decode prog_46_method_1_code 4 = .ok (.aload_n 0, 1) := by decide +kernel
theorem d1_5 : decode prog_46_method_1_code 5 = .ok (.sipush 256, 3) := by decide +kernel
theorem d1_8 : decode prog_46_method_1_code 8 = .ok (.newarray .int, 2) := by decide +kernel
theorem d1_10 : decode prog_46_method_1_code 10 = .ok (.putfield 11, 3) := by decide +kernel
theorem d1_13 : decode prog_46_method_1_code 13 = .ok (.aload_n 0, 1) := by decide +kernel
theorem d1_14 : decode prog_46_method_1_code 14 = .ok (.sipush 256, 3) := by decide +kernel
theorem d1_17 : decode prog_46_method_1_code 17 = .ok (.newarray .int, 2) := by decide +kernel
theorem d1_19 : decode prog_46_method_1_code 19 = .ok (.putfield 15, 3) := by decide +kernel
theorem d1_22 : decode prog_46_method_1_code 22 = .ok (.return_, 1) := by decide +kernel
theorem pn_1 : plainFor (⟨"com/example/colonnade/colonnade/compress/HuffmanEncoder", "<init>", "()V"⟩ : MethodName) = true := plainFor_of_name (by first | (simp [plainName, overriddenIn]; done) | decide +kernel)
set_option maxRecDepth 65536 in
set_option maxHeartbeats 40000000 in
theorem c_init {Z : State} {a0 : Array Value} (hw : ∀ d ∈ tables_1, d.before a0 Z = true) {t : Addr} {h0 : Heap} {n0 : Nat} (Z0 : n0 ≤ h0.size) (g_t : n0 ≤ t) (X_t : Exa Z h0 t "com/example/colonnade/colonnade/compress/HuffmanEncoder") (F_lengths_t : Fld Z h0 t "com/example/colonnade/colonnade/compress/HuffmanEncoder" "lengths" "[I" .null) (F_codes_t : Fld Z h0 t "com/example/colonnade/colonnade/compress/HuffmanEncoder" "codes" "[I" .null) (F_width_t : Fld Z h0 t "com/example/colonnade/colonnade/compress/HuffmanEncoder" "width" "I" (.int (0 : Int32))) (F_largest_t : Fld Z h0 t "com/example/colonnade/colonnade/compress/HuffmanEncoder" "largest" "I" (.int (0 : Int32))) :
    Ctr Z n0 (⟨"com/example/colonnade/colonnade/compress/HuffmanEncoder", "<init>", "()V"⟩ : MethodName) prog_46_method_1_code 1 none ({ frames := 1, cells := 2, slots := 512, locals := 12 } : Room) [(.ref t)] h0 (fun v h => v = none ∧ Keep h0 h [t] ∧ ∃ ln cd : Addr, (h0.size ≤ ln ∧ h0.size ≤ cd) ∧ (n0 ≤ ln ∧ n0 ≤ cd) ∧ (t ≠ ln ∧ t ≠ cd ∧ ln ≠ cd) ∧ (Exa Z h t "com/example/colonnade/colonnade/compress/HuffmanEncoder" ∧ Fld Z h t "com/example/colonnade/colonnade/compress/HuffmanEncoder" "lengths" "[I" (.ref ln) ∧ Fld Z h t "com/example/colonnade/colonnade/compress/HuffmanEncoder" "codes" "[I" (.ref cd) ∧ Fld Z h t "com/example/colonnade/colonnade/compress/HuffmanEncoder" "width" "I" (.int (0 : Int32)) ∧ Fld Z h t "com/example/colonnade/colonnade/compress/HuffmanEncoder" "largest" "I" (.int (0 : Int32))) ∧ AI Z h ln .int 256 (fun _ => 0) ∧ AI Z h cd .int 256 (fun _ => 0)) := by
  refine Ctr.of (L := #[.val (.ref t)]) pn_1 Z0 (fun m => by first | (simp [entryFrame, mkF, argsToLocals, Value.category]; done) | rfl) ?_
  intro K T S0
  have KK := Keep.refl h0 [t]
  refine px_aloadN S0 d1_0 rfl rfl rfl ?_
  refine px_initO (W := 0) S0 (hw _ (List.mem_of_getElem? (i := 7) rfl)) (hw _ (List.mem_of_getElem? (i := 8) rfl)) (hw _ (List.mem_of_getElem? (i := 9) rfl)) rfl (by decide) rfl (by decide) d1_1 rfl (fun T1 S1 => ?_)
  refine px_aloadN S1 d1_4 rfl rfl rfl ?_
  refine px_sipush (v := (256 : Int32)) S1 d1_5 rfl rfl ?_
  refine px_newarr (aty := .int) (cap := 256) S1 (hw _ (List.mem_of_getElem? (i := 0) rfl)) rfl (n := 256) rfl (by decide) (by decide) (by decide) (by decide) d1_8 rfl (fun T2 h2 b2 z2 g_b2 S2 E2 A_b2 => ?_)
  have ne_t_b2 : t ≠ b2 := ne_new z2 X_t.lt
  replace X_t := X_t.ext E2
  replace F_lengths_t := F_lengths_t.ext E2
  replace F_codes_t := F_codes_t.ext E2
  replace F_width_t := F_width_t.ext E2
  replace F_largest_t := F_largest_t.ext E2
  have sz_b2 : h0.size ≤ b2 := by rw [z2]; exact KK.1
  replace KK := KK.ext E2
  refine px_putfield (ty := (.array .int)) S2 (hw _ (List.mem_of_getElem? (i := 10) rfl)) F_lengths_t X_t g_t (Or.inr ⟨(hw _ (List.mem_of_getElem? (i := 11) rfl)), rfl, rfl⟩) (hw _ (List.mem_of_getElem? (i := 2) rfl)) (by decide) rfl rfl d1_10 rfl (fun T3 h3 S3 W3 F_lengths_t X_t => ?_)
  replace F_codes_t := F_codes_t.other W3 (Or.inr (slot_ne (Or.inr (hw _ (List.mem_of_getElem? (i := 13) rfl))) (Or.inr (hw _ (List.mem_of_getElem? (i := 11) rfl))) (by decide) (t := (.array .int)) (t' := (.array .int)) (by decide) (by decide)))
  replace F_width_t := F_width_t.other W3 (Or.inr (slot_ne (Or.inl (hw _ (List.mem_of_getElem? (i := 37) rfl))) (Or.inr (hw _ (List.mem_of_getElem? (i := 11) rfl))) (by decide) (t := .int) (t' := (.array .int)) (by decide) (by decide)))
  replace F_largest_t := F_largest_t.other W3 (Or.inr (slot_ne (Or.inl (hw _ (List.mem_of_getElem? (i := 39) rfl))) (Or.inr (hw _ (List.mem_of_getElem? (i := 11) rfl))) (by decide) (t := .int) (t' := (.array .int)) (by decide) (by decide)))
  replace A_b2 := A_b2.other W3 (Ne.symm ne_t_b2)
  replace KK := KK.wr W3 (Or.inl (by simp))
  refine px_aloadN S3 d1_13 rfl rfl rfl ?_
  refine px_sipush (v := (256 : Int32)) S3 d1_14 rfl rfl ?_
  refine px_newarr (aty := .int) (cap := 256) S3 (hw _ (List.mem_of_getElem? (i := 0) rfl)) rfl (n := 256) rfl (by decide) (by decide) (by decide) (by decide) d1_17 rfl (fun T4 h4 b4 z4 g_b4 S4 E4 A_b4 => ?_)
  have ne_t_b4 : t ≠ b4 := ne_new z4 X_t.lt
  have ne_b2_b4 : b2 ≠ b4 := ne_new z4 A_b2.lt
  replace X_t := X_t.ext E4
  replace F_lengths_t := F_lengths_t.ext E4
  replace F_codes_t := F_codes_t.ext E4
  replace F_width_t := F_width_t.ext E4
  replace F_largest_t := F_largest_t.ext E4
  replace A_b2 := A_b2.ext E4
  have sz_b4 : h0.size ≤ b4 := by rw [z4]; exact KK.1
  replace KK := KK.ext E4
  refine px_putfield (ty := (.array .int)) S4 (hw _ (List.mem_of_getElem? (i := 12) rfl)) F_codes_t X_t g_t (Or.inr ⟨(hw _ (List.mem_of_getElem? (i := 13) rfl)), rfl, rfl⟩) (hw _ (List.mem_of_getElem? (i := 2) rfl)) (by decide) rfl rfl d1_19 rfl (fun T5 h5 S5 W5 F_codes_t X_t => ?_)
  replace F_lengths_t := F_lengths_t.other W5 (Or.inr (slot_ne (Or.inr (hw _ (List.mem_of_getElem? (i := 11) rfl))) (Or.inr (hw _ (List.mem_of_getElem? (i := 13) rfl))) (by decide) (t := (.array .int)) (t' := (.array .int)) (by decide) (by decide)))
  replace F_width_t := F_width_t.other W5 (Or.inr (slot_ne (Or.inl (hw _ (List.mem_of_getElem? (i := 37) rfl))) (Or.inr (hw _ (List.mem_of_getElem? (i := 13) rfl))) (by decide) (t := .int) (t' := (.array .int)) (by decide) (by decide)))
  replace F_largest_t := F_largest_t.other W5 (Or.inr (slot_ne (Or.inl (hw _ (List.mem_of_getElem? (i := 39) rfl))) (Or.inr (hw _ (List.mem_of_getElem? (i := 13) rfl))) (by decide) (t := .int) (t' := (.array .int)) (by decide) (by decide)))
  replace A_b2 := A_b2.other W5 (Ne.symm ne_t_b2)
  replace A_b4 := A_b4.other W5 (Ne.symm ne_t_b4)
  replace KK := KK.wr W5 (Or.inl (by simp))
  exact px_return S5 d1_22 rfl (by decide) (by decide) (⟨rfl, KK, b2, b4, ⟨sz_b2, sz_b4⟩, ⟨g_b2, g_b4⟩, ⟨ne_t_b2, ne_t_b4, ne_b2_b4⟩, ⟨X_t, F_lengths_t, F_codes_t, F_width_t, F_largest_t⟩, A_b2, A_b4⟩)
theorem d4_0 : decode prog_46_method_9_code 0 = .ok (.iconst 1, 1) := by decide +kernel
theorem d4_1 : decode prog_46_method_9_code 1 = .ok (.istore_n 3, 1) := by decide +kernel
theorem d4_2 : decode prog_46_method_9_code 2 = .ok (.iload_n 3, 1) := by decide +kernel
theorem d4_3 : decode prog_46_method_9_code 3 = .ok (.iload_n 1, 1) := by decide +kernel
theorem d4_4 : decode prog_46_method_9_code 4 = .ok (.if_icmp .ge 61, 3) := by decide +kernel
theorem d4_7 : decode prog_46_method_9_code 7 = .ok (.aload_n 0, 1) := by decide +kernel
theorem d4_8 : decode prog_46_method_9_code 8 = .ok (.iload_n 3, 1) := by decide +kernel
theorem d4_9 : decode prog_46_method_9_code 9 = .ok (.iaload, 1) := by decide +kernel
theorem d4_10 : decode prog_46_method_9_code 10 = .ok (.istore 4, 2) := by decide +kernel
theorem d4_12 : decode prog_46_method_9_code 12 = .ok (.iload_n 3, 1) := by decide +kernel
theorem d4_13 : decode prog_46_method_9_code 13 = .ok (.iconst 1, 1) := by decide +kernel
theorem d4_14 : decode prog_46_method_9_code 14 = .ok (.isub, 1) := by decide +kernel
theorem d4_15 : decode prog_46_method_9_code 15 = .ok (.istore 5, 2) := by decide +kernel
theorem d4_17 : decode prog_46_method_9_code 17 = .ok (.iload 5, 2) := by decide +kernel
theorem d4_19 : decode prog_46_method_9_code 19 = .ok (.ifCond .lt 32, 3) := by decide +kernel
theorem d4_22 : decode prog_46_method_9_code 22 = .ok (.aload_n 2, 1) := by decide +kernel
theorem d4_23 : decode prog_46_method_9_code 23 = .ok (.aload_n 0, 1) := by decide +kernel
theorem d4_24 : decode prog_46_method_9_code 24 = .ok (.iload 5, 2) := by decide +kernel
theorem d4_26 : decode prog_46_method_9_code 26 = .ok (.iaload, 1) := by decide +kernel
theorem d4_27 : decode prog_46_method_9_code 27 = .ok (.iaload, 1) := by decide +kernel
theorem d4_28 : decode prog_46_method_9_code 28 = .ok (.aload_n 2, 1) := by decide +kernel
theorem d4_29 : decode prog_46_method_9_code 29 = .ok (.iload 4, 2) := by decide +kernel
theorem d4_31 : decode prog_46_method_9_code 31 = .ok (.iaload, 1) := by decide +kernel
theorem d4_32 : decode prog_46_method_9_code 32 = .ok (.if_icmp .le 19, 3) := by decide +kernel
theorem d4_35 : decode prog_46_method_9_code 35 = .ok (.aload_n 0, 1) := by decide +kernel
theorem d4_36 : decode prog_46_method_9_code 36 = .ok (.iload 5, 2) := by decide +kernel
theorem d4_38 : decode prog_46_method_9_code 38 = .ok (.iconst 1, 1) := by decide +kernel
theorem d4_39 : decode prog_46_method_9_code 39 = .ok (.iadd, 1) := by decide +kernel
theorem d4_40 : decode prog_46_method_9_code 40 = .ok (.aload_n 0, 1) := by decide +kernel
theorem d4_41 : decode prog_46_method_9_code 41 = .ok (.iload 5, 2) := by decide +kernel
theorem d4_43 : decode prog_46_method_9_code 43 = .ok (.iaload, 1) := by decide +kernel
theorem d4_44 : decode prog_46_method_9_code 44 = .ok (.iastore, 1) := by decide +kernel
theorem d4_45 : decode prog_46_method_9_code 45 = .ok (.iinc 5 (-1), 3) := by decide +kernel
theorem d4_48 : decode prog_46_method_9_code 48 = .ok (.goto (-31), 3) := by decide +kernel
theorem d4_51 : decode prog_46_method_9_code 51 = .ok (.aload_n 0, 1) := by decide +kernel
theorem d4_52 : decode prog_46_method_9_code 52 = .ok (.iload 5, 2) := by decide +kernel
theorem d4_54 : decode prog_46_method_9_code 54 = .ok (.iconst 1, 1) := by decide +kernel
theorem d4_55 : decode prog_46_method_9_code 55 = .ok (.iadd, 1) := by decide +kernel
theorem d4_56 : decode prog_46_method_9_code 56 = .ok (.iload 4, 2) := by decide +kernel
theorem d4_58 : decode prog_46_method_9_code 58 = .ok (.iastore, 1) := by decide +kernel
theorem d4_59 : decode prog_46_method_9_code 59 = .ok (.iinc 3 1, 3) := by decide +kernel
theorem d4_62 : decode prog_46_method_9_code 62 = .ok (.goto (-60), 3) := by decide +kernel
theorem d4_65 : decode prog_46_method_9_code 65 = .ok (.return_, 1) := by decide +kernel
theorem pn_4 : plainFor (⟨"com/example/colonnade/colonnade/compress/HuffmanEncoder", "sortByOccurrences", "([II[I)V"⟩ : MethodName) = true := plainFor_of_name (by first | (simp [plainName, overriddenIn]; done) | decide +kernel)
set_option maxRecDepth 65536 in
set_option maxHeartbeats 40000000 in
theorem c_sort2 {Z : State} {a0 : Array Value} (hw : ∀ d ∈ tables_1, d.before a0 Z = true) {s o : Addr} {X Y : Nat} {g fo : Nat → Int32} {h0 : Heap} {n0 : Nat} (Z0 : n0 ≤ h0.size) (A_s : AI Z h0 s .int 256 g) (g_s : n0 ≤ s) (A_o : AI Z h0 o .int 256 fo) (n_so : s ≠ o) (e0 : (g 0).toInt = (X : Int)) (e1 : (g 1).toInt = (Y : Int)) (x0 : X < 256) (x1 : Y < 256) :
    Ctr Z n0 (⟨"com/example/colonnade/colonnade/compress/HuffmanEncoder", "sortByOccurrences", "([II[I)V"⟩ : MethodName) prog_46_method_9_code 6 none ({ frames := 0, cells := 0, slots := 0, locals := 0 } : Room) [(.ref s), (.int (2 : Int32)), (.ref o)] h0 (fun v h => v = none ∧ Keep h0 h [s] ∧ ∃ g' : Nat → Int32, AI Z h s .int 256 g' ∧ (((g' 0).toInt = (X : Int) ∧ (g' 1).toInt = (Y : Int)) ∨ ((g' 0).toInt = (Y : Int) ∧ (g' 1).toInt = (X : Int)))) := by
  refine Ctr.of (L := #[.val (.ref s), .val (.int (2 : Int32)), .val (.ref o), .unset, .unset, .unset]) pn_4 Z0 (fun m => by first | (simp [entryFrame, mkF, argsToLocals, Value.category]; done) | rfl) ?_
  intro K T S0
  have KK := Keep.refl h0 [s]
  refine px_iconst (v := (1 : Int32)) S0 d4_0 rfl rfl ?_
  refine px_istoreN S0 d4_1 rfl (L' := #[.val (.ref s), .val (.int (2 : Int32)), .val (.ref o), .val (.int (1 : Int32)), .unset, .unset]) rfl ?_
  refine px_iloadN S0 d4_2 rfl rfl ?_
  refine px_iloadN S0 d4_3 rfl rfl ?_
  refine px_icmp S0 d4_4 (by decide) (pc' := 65) rfl rfl (fun (hc1 : (1 : Int32).toInt ≥ (2 : Int32).toInt) => by exfalso; revert hc1; decide) (fun (hc1 : (1 : Int32).toInt < (2 : Int32).toInt) => ?_)
  refine px_aloadN S0 d4_7 rfl rfl rfl ?_
  refine px_iloadN S0 d4_8 rfl rfl ?_
  refine px_iaload (v := (g 1)) S0 A_s (i := 1) rfl (by decide) rfl d4_9 rfl ?_
  refine px_istore S0 d4_10 rfl (L' := #[.val (.ref s), .val (.int (2 : Int32)), .val (.ref o), .val (.int (1 : Int32)), .val (.int (g 1)), .unset]) rfl ?_
  refine px_iloadN S0 d4_12 rfl rfl ?_
  refine px_iconst (v := (1 : Int32)) S0 d4_13 rfl rfl ?_
  refine px_isub S0 d4_14 rfl ?_
  rw [show ((1 : Int32) - (1 : Int32)) = (0 : Int32) from by decide]
  refine px_istore S0 d4_15 rfl (L' := #[.val (.ref s), .val (.int (2 : Int32)), .val (.ref o), .val (.int (1 : Int32)), .val (.int (g 1)), .val (.int (0 : Int32))]) rfl ?_
  refine px_iload S0 d4_17 rfl rfl ?_
  refine px_if0 S0 d4_19 (by decide) (pc' := 51) rfl rfl (fun (hc2 : (0 : Int32).toInt < 0) => by exfalso; revert hc2; decide) (fun (hc2 : (0 : Int32).toInt ≥ 0) => ?_)
  refine px_aloadN S0 d4_22 rfl rfl rfl ?_
  refine px_aloadN S0 d4_23 rfl rfl rfl ?_
  refine px_iload S0 d4_24 rfl rfl ?_
  refine px_iaload (v := (g 0)) S0 A_s (i := 0) rfl (by decide) rfl d4_26 rfl ?_
  refine px_iaload (v := (fo X)) S0 A_o (i := X) e0 x0 rfl d4_27 rfl ?_
  refine px_aloadN S0 d4_28 rfl rfl rfl ?_
  refine px_iload S0 d4_29 rfl rfl ?_
  refine px_iaload (v := (fo Y)) S0 A_o (i := Y) e1 x1 rfl d4_31 rfl ?_
  refine px_icmp S0 d4_32 (by decide) (pc' := 51) rfl rfl (fun (hc3 : (fo X).toInt ≤ (fo Y).toInt) => ?_) (fun (hc3 : (fo X).toInt > (fo Y).toInt) => ?_)
  · refine px_aloadN S0 d4_51 rfl rfl rfl ?_
    refine px_iload S0 d4_52 rfl rfl ?_
    refine px_iconst (v := (1 : Int32)) S0 d4_54 rfl rfl ?_
    refine px_iadd S0 d4_55 rfl ?_
    rw [show ((0 : Int32) + (1 : Int32)) = (1 : Int32) from by decide]
    refine px_iload S0 d4_56 rfl rfl ?_
    refine px_iastore (v := (g 1)) S0 A_s g_s (i := 1) rfl (by decide) rfl d4_58 rfl (fun T4 h4 S4 W4 A_s => ?_)
    replace A_o := A_o.other W4 (Ne.symm n_so)
    replace KK := KK.wr W4 (Or.inl (by simp))
    refine px_iinc (v := (1 : Int32)) (r := (2 : Int32)) S4 d4_59 rfl rfl rfl (by decide) (L' := #[.val (.ref s), .val (.int (2 : Int32)), .val (.ref o), .val (.int (2 : Int32)), .val (.int (g 1)), .val (.int (0 : Int32))]) rfl ?_
    refine px_goto S4 d4_62 (by decide) (pc' := 2) rfl ?_
    refine px_iloadN S4 d4_2 rfl rfl ?_
    refine px_iloadN S4 d4_3 rfl rfl ?_
    refine px_icmp S4 d4_4 (by decide) (pc' := 65) rfl rfl (fun (hc5 : (2 : Int32).toInt ≥ (2 : Int32).toInt) => ?_) (fun (hc5 : (2 : Int32).toInt < (2 : Int32).toInt) => by exfalso; revert hc5; decide)
    exact px_return S4 d4_65 rfl (by decide) (by decide) (⟨rfl, KK, _, A_s, Or.inl (⟨e0, e1⟩)⟩)
  · refine px_aloadN S0 d4_35 rfl rfl rfl ?_
    refine px_iload S0 d4_36 rfl rfl ?_
    refine px_iconst (v := (1 : Int32)) S0 d4_38 rfl rfl ?_
    refine px_iadd S0 d4_39 rfl ?_
    rw [show ((0 : Int32) + (1 : Int32)) = (1 : Int32) from by decide]
    refine px_aloadN S0 d4_40 rfl rfl rfl ?_
    refine px_iload S0 d4_41 rfl rfl ?_
    refine px_iaload (v := (g 0)) S0 A_s (i := 0) rfl (by decide) rfl d4_43 rfl ?_
    refine px_iastore (v := (g 0)) S0 A_s g_s (i := 1) rfl (by decide) rfl d4_44 rfl (fun T6 h6 S6 W6 A_s => ?_)
    replace A_o := A_o.other W6 (Ne.symm n_so)
    replace KK := KK.wr W6 (Or.inl (by simp))
    refine px_iinc (v := (-1 : Int32)) (r := (-1 : Int32)) S6 d4_45 rfl rfl rfl (by decide) (L' := #[.val (.ref s), .val (.int (2 : Int32)), .val (.ref o), .val (.int (1 : Int32)), .val (.int (g 1)), .val (.int (-1 : Int32))]) rfl ?_
    refine px_goto S6 d4_48 (by decide) (pc' := 17) rfl ?_
    refine px_iload S6 d4_17 rfl rfl ?_
    refine px_if0 S6 d4_19 (by decide) (pc' := 51) rfl rfl (fun (hc7 : (-1 : Int32).toInt < 0) => ?_) (fun (hc7 : (-1 : Int32).toInt ≥ 0) => by exfalso; revert hc7; decide)
    refine px_aloadN S6 d4_51 rfl rfl rfl ?_
    refine px_iload S6 d4_52 rfl rfl ?_
    refine px_iconst (v := (1 : Int32)) S6 d4_54 rfl rfl ?_
    refine px_iadd S6 d4_55 rfl ?_
    rw [show ((-1 : Int32) + (1 : Int32)) = (0 : Int32) from by decide]
    refine px_iload S6 d4_56 rfl rfl ?_
    refine px_iastore (v := (g 1)) S6 A_s g_s (i := 0) rfl (by decide) rfl d4_58 rfl (fun T8 h8 S8 W8 A_s => ?_)
    replace A_o := A_o.other W8 (Ne.symm n_so)
    replace KK := KK.wr W8 (Or.inl (by simp))
    refine px_iinc (v := (1 : Int32)) (r := (2 : Int32)) S8 d4_59 rfl rfl rfl (by decide) (L' := #[.val (.ref s), .val (.int (2 : Int32)), .val (.ref o), .val (.int (2 : Int32)), .val (.int (g 1)), .val (.int (-1 : Int32))]) rfl ?_
    refine px_goto S8 d4_62 (by decide) (pc' := 2) rfl ?_
    refine px_iloadN S8 d4_2 rfl rfl ?_
    refine px_iloadN S8 d4_3 rfl rfl ?_
    refine px_icmp S8 d4_4 (by decide) (pc' := 65) rfl rfl (fun (hc9 : (2 : Int32).toInt ≥ (2 : Int32).toInt) => ?_) (fun (hc9 : (2 : Int32).toInt < (2 : Int32).toInt) => by exfalso; revert hc9; decide)
    exact px_return S8 d4_65 rfl (by decide) (by decide) (⟨rfl, KK, _, A_s, Or.inr (⟨e1, e0⟩)⟩)
set_option maxRecDepth 65536 in
set_option maxHeartbeats 40000000 in
theorem c_sort3 {Z : State} {a0 : Array Value} (hw : ∀ d ∈ tables_1, d.before a0 Z = true) {s o : Addr} {X Y W : Nat} {g fo : Nat → Int32} {h0 : Heap} {n0 : Nat} (Z0 : n0 ≤ h0.size) (A_s : AI Z h0 s .int 256 g) (g_s : n0 ≤ s) (A_o : AI Z h0 o .int 256 fo) (n_so : s ≠ o) (e0 : (g 0).toInt = (X : Int)) (e1 : (g 1).toInt = (Y : Int)) (e2 : (g 2).toInt = (W : Int)) (x0 : X < 256) (x1 : Y < 256) (x2 : W < 256) :
    Ctr Z n0 (⟨"com/example/colonnade/colonnade/compress/HuffmanEncoder", "sortByOccurrences", "([II[I)V"⟩ : MethodName) prog_46_method_9_code 6 none ({ frames := 0, cells := 0, slots := 0, locals := 0 } : Room) [(.ref s), (.int (3 : Int32)), (.ref o)] h0 (fun v h => v = none ∧ Keep h0 h [s] ∧ ∃ g' : Nat → Int32, AI Z h s .int 256 g' ∧ (((g' 0).toInt = (X : Int) ∧ (g' 1).toInt = (Y : Int) ∧ (g' 2).toInt = (W : Int) ∧ ((fo W).toInt ≥ (fo X).toInt ∧ (fo W).toInt ≥ (fo Y).toInt)) ∨ ((g' 0).toInt = (Y : Int) ∧ (g' 1).toInt = (X : Int) ∧ (g' 2).toInt = (W : Int) ∧ ((fo W).toInt ≥ (fo X).toInt ∧ (fo W).toInt ≥ (fo Y).toInt)) ∨ ((g' 0).toInt = (X : Int) ∧ (g' 1).toInt = (W : Int) ∧ (g' 2).toInt = (Y : Int) ∧ (¬ ((fo W).toInt ≥ (fo X).toInt ∧ (fo W).toInt ≥ (fo Y).toInt) ∧ (fo Y).toInt ≥ (fo X).toInt)) ∨ ((g' 0).toInt = (W : Int) ∧ (g' 1).toInt = (X : Int) ∧ (g' 2).toInt = (Y : Int) ∧ (¬ ((fo W).toInt ≥ (fo X).toInt ∧ (fo W).toInt ≥ (fo Y).toInt) ∧ (fo Y).toInt ≥ (fo X).toInt)) ∨ ((g' 0).toInt = (Y : Int) ∧ (g' 1).toInt = (W : Int) ∧ (g' 2).toInt = (X : Int) ∧ (¬ ((fo W).toInt ≥ (fo X).toInt ∧ (fo W).toInt ≥ (fo Y).toInt) ∧ ¬ (fo Y).toInt ≥ (fo X).toInt)) ∨ ((g' 0).toInt = (W : Int) ∧ (g' 1).toInt = (Y : Int) ∧ (g' 2).toInt = (X : Int) ∧ (¬ ((fo W).toInt ≥ (fo X).toInt ∧ (fo W).toInt ≥ (fo Y).toInt) ∧ ¬ (fo Y).toInt ≥ (fo X).toInt)))) := by
  refine Ctr.of (L := #[.val (.ref s), .val (.int (3 : Int32)), .val (.ref o), .unset, .unset, .unset]) pn_4 Z0 (fun m => by first | (simp [entryFrame, mkF, argsToLocals, Value.category]; done) | rfl) ?_
  intro K T S0
  have KK := Keep.refl h0 [s]
  refine px_iconst (v := (1 : Int32)) S0 d4_0 rfl rfl ?_
  refine px_istoreN S0 d4_1 rfl (L' := #[.val (.ref s), .val (.int (3 : Int32)), .val (.ref o), .val (.int (1 : Int32)), .unset, .unset]) rfl ?_
  refine px_iloadN S0 d4_2 rfl rfl ?_
  refine px_iloadN S0 d4_3 rfl rfl ?_
  refine px_icmp S0 d4_4 (by decide) (pc' := 65) rfl rfl (fun (hc1 : (1 : Int32).toInt ≥ (3 : Int32).toInt) => by exfalso; revert hc1; decide) (fun (hc1 : (1 : Int32).toInt < (3 : Int32).toInt) => ?_)
  refine px_aloadN S0 d4_7 rfl rfl rfl ?_
  refine px_iloadN S0 d4_8 rfl rfl ?_
  refine px_iaload (v := (g 1)) S0 A_s (i := 1) rfl (by decide) rfl d4_9 rfl ?_
  refine px_istore S0 d4_10 rfl (L' := #[.val (.ref s), .val (.int (3 : Int32)), .val (.ref o), .val (.int (1 : Int32)), .val (.int (g 1)), .unset]) rfl ?_
  refine px_iloadN S0 d4_12 rfl rfl ?_
  refine px_iconst (v := (1 : Int32)) S0 d4_13 rfl rfl ?_
  refine px_isub S0 d4_14 rfl ?_
  rw [show ((1 : Int32) - (1 : Int32)) = (0 : Int32) from by decide]
  refine px_istore S0 d4_15 rfl (L' := #[.val (.ref s), .val (.int (3 : Int32)), .val (.ref o), .val (.int (1 : Int32)), .val (.int (g 1)), .val (.int (0 : Int32))]) rfl ?_
  refine px_iload S0 d4_17 rfl rfl ?_
  refine px_if0 S0 d4_19 (by decide) (pc' := 51) rfl rfl (fun (hc2 : (0 : Int32).toInt < 0) => by exfalso; revert hc2; decide) (fun (hc2 : (0 : Int32).toInt ≥ 0) => ?_)
  refine px_aloadN S0 d4_22 rfl rfl rfl ?_
  refine px_aloadN S0 d4_23 rfl rfl rfl ?_
  refine px_iload S0 d4_24 rfl rfl ?_
  refine px_iaload (v := (g 0)) S0 A_s (i := 0) rfl (by decide) rfl d4_26 rfl ?_
  refine px_iaload (v := (fo X)) S0 A_o (i := X) e0 x0 rfl d4_27 rfl ?_
  refine px_aloadN S0 d4_28 rfl rfl rfl ?_
  refine px_iload S0 d4_29 rfl rfl ?_
  refine px_iaload (v := (fo Y)) S0 A_o (i := Y) e1 x1 rfl d4_31 rfl ?_
  refine px_icmp S0 d4_32 (by decide) (pc' := 51) rfl rfl (fun (hc3 : (fo X).toInt ≤ (fo Y).toInt) => ?_) (fun (hc3 : (fo X).toInt > (fo Y).toInt) => ?_)
  · refine px_aloadN S0 d4_51 rfl rfl rfl ?_
    refine px_iload S0 d4_52 rfl rfl ?_
    refine px_iconst (v := (1 : Int32)) S0 d4_54 rfl rfl ?_
    refine px_iadd S0 d4_55 rfl ?_
    rw [show ((0 : Int32) + (1 : Int32)) = (1 : Int32) from by decide]
    refine px_iload S0 d4_56 rfl rfl ?_
    refine px_iastore (v := (g 1)) S0 A_s g_s (i := 1) rfl (by decide) rfl d4_58 rfl (fun T4 h4 S4 W4 A_s => ?_)
    replace A_o := A_o.other W4 (Ne.symm n_so)
    replace KK := KK.wr W4 (Or.inl (by simp))
    refine px_iinc (v := (1 : Int32)) (r := (2 : Int32)) S4 d4_59 rfl rfl rfl (by decide) (L' := #[.val (.ref s), .val (.int (3 : Int32)), .val (.ref o), .val (.int (2 : Int32)), .val (.int (g 1)), .val (.int (0 : Int32))]) rfl ?_
    refine px_goto S4 d4_62 (by decide) (pc' := 2) rfl ?_
    refine px_iloadN S4 d4_2 rfl rfl ?_
    refine px_iloadN S4 d4_3 rfl rfl ?_
    refine px_icmp S4 d4_4 (by decide) (pc' := 65) rfl rfl (fun (hc5 : (2 : Int32).toInt ≥ (3 : Int32).toInt) => by exfalso; revert hc5; decide) (fun (hc5 : (2 : Int32).toInt < (3 : Int32).toInt) => ?_)
    refine px_aloadN S4 d4_7 rfl rfl rfl ?_
    refine px_iloadN S4 d4_8 rfl rfl ?_
    refine px_iaload (v := (g 2)) S4 A_s (i := 2) rfl (by decide) rfl d4_9 rfl ?_
    refine px_istore S4 d4_10 rfl (L' := #[.val (.ref s), .val (.int (3 : Int32)), .val (.ref o), .val (.int (2 : Int32)), .val (.int (g 2)), .val (.int (0 : Int32))]) rfl ?_
    refine px_iloadN S4 d4_12 rfl rfl ?_
    refine px_iconst (v := (1 : Int32)) S4 d4_13 rfl rfl ?_
    refine px_isub S4 d4_14 rfl ?_
    rw [show ((2 : Int32) - (1 : Int32)) = (1 : Int32) from by decide]
    refine px_istore S4 d4_15 rfl (L' := #[.val (.ref s), .val (.int (3 : Int32)), .val (.ref o), .val (.int (2 : Int32)), .val (.int (g 2)), .val (.int (1 : Int32))]) rfl ?_
    refine px_iload S4 d4_17 rfl rfl ?_
    refine px_if0 S4 d4_19 (by decide) (pc' := 51) rfl rfl (fun (hc6 : (1 : Int32).toInt < 0) => by exfalso; revert hc6; decide) (fun (hc6 : (1 : Int32).toInt ≥ 0) => ?_)
    refine px_aloadN S4 d4_22 rfl rfl rfl ?_
    refine px_aloadN S4 d4_23 rfl rfl rfl ?_
    refine px_iload S4 d4_24 rfl rfl ?_
    refine px_iaload (v := (g 1)) S4 A_s (i := 1) rfl (by decide) rfl d4_26 rfl ?_
    refine px_iaload (v := (fo Y)) S4 A_o (i := Y) e1 x1 rfl d4_27 rfl ?_
    refine px_aloadN S4 d4_28 rfl rfl rfl ?_
    refine px_iload S4 d4_29 rfl rfl ?_
    refine px_iaload (v := (fo W)) S4 A_o (i := W) e2 x2 rfl d4_31 rfl ?_
    refine px_icmp S4 d4_32 (by decide) (pc' := 51) rfl rfl (fun (hc7 : (fo Y).toInt ≤ (fo W).toInt) => ?_) (fun (hc7 : (fo Y).toInt > (fo W).toInt) => ?_)
    · refine px_aloadN S4 d4_51 rfl rfl rfl ?_
      refine px_iload S4 d4_52 rfl rfl ?_
      refine px_iconst (v := (1 : Int32)) S4 d4_54 rfl rfl ?_
      refine px_iadd S4 d4_55 rfl ?_
      rw [show ((1 : Int32) + (1 : Int32)) = (2 : Int32) from by decide]
      refine px_iload S4 d4_56 rfl rfl ?_
      refine px_iastore (v := (g 2)) S4 A_s g_s (i := 2) rfl (by decide) rfl d4_58 rfl (fun T8 h8 S8 W8 A_s => ?_)
      replace A_o := A_o.other W8 (Ne.symm n_so)
      replace KK := KK.wr W8 (Or.inl (by simp))
      refine px_iinc (v := (1 : Int32)) (r := (3 : Int32)) S8 d4_59 rfl rfl rfl (by decide) (L' := #[.val (.ref s), .val (.int (3 : Int32)), .val (.ref o), .val (.int (3 : Int32)), .val (.int (g 2)), .val (.int (1 : Int32))]) rfl ?_
      refine px_goto S8 d4_62 (by decide) (pc' := 2) rfl ?_
      refine px_iloadN S8 d4_2 rfl rfl ?_
      refine px_iloadN S8 d4_3 rfl rfl ?_
      refine px_icmp S8 d4_4 (by decide) (pc' := 65) rfl rfl (fun (hc9 : (3 : Int32).toInt ≥ (3 : Int32).toInt) => ?_) (fun (hc9 : (3 : Int32).toInt < (3 : Int32).toInt) => by exfalso; revert hc9; decide)
      exact px_return S8 d4_65 rfl (by decide) (by decide) (⟨rfl, KK, _, A_s, Or.inl (⟨e0, e1, e2, by omega⟩)⟩)
    · refine px_aloadN S4 d4_35 rfl rfl rfl ?_
      refine px_iload S4 d4_36 rfl rfl ?_
      refine px_iconst (v := (1 : Int32)) S4 d4_38 rfl rfl ?_
      refine px_iadd S4 d4_39 rfl ?_
      rw [show ((1 : Int32) + (1 : Int32)) = (2 : Int32) from by decide]
      refine px_aloadN S4 d4_40 rfl rfl rfl ?_
      refine px_iload S4 d4_41 rfl rfl ?_
      refine px_iaload (v := (g 1)) S4 A_s (i := 1) rfl (by decide) rfl d4_43 rfl ?_
      refine px_iastore (v := (g 1)) S4 A_s g_s (i := 2) rfl (by decide) rfl d4_44 rfl (fun T10 h10 S10 W10 A_s => ?_)
      replace A_o := A_o.other W10 (Ne.symm n_so)
      replace KK := KK.wr W10 (Or.inl (by simp))
      refine px_iinc (v := (-1 : Int32)) (r := (0 : Int32)) S10 d4_45 rfl rfl rfl (by decide) (L' := #[.val (.ref s), .val (.int (3 : Int32)), .val (.ref o), .val (.int (2 : Int32)), .val (.int (g 2)), .val (.int (0 : Int32))]) rfl ?_
      refine px_goto S10 d4_48 (by decide) (pc' := 17) rfl ?_
      refine px_iload S10 d4_17 rfl rfl ?_
      refine px_if0 S10 d4_19 (by decide) (pc' := 51) rfl rfl (fun (hc11 : (0 : Int32).toInt < 0) => by exfalso; revert hc11; decide) (fun (hc11 : (0 : Int32).toInt ≥ 0) => ?_)
      refine px_aloadN S10 d4_22 rfl rfl rfl ?_
      refine px_aloadN S10 d4_23 rfl rfl rfl ?_
      refine px_iload S10 d4_24 rfl rfl ?_
      refine px_iaload (v := (g 0)) S10 A_s (i := 0) rfl (by decide) rfl d4_26 rfl ?_
      refine px_iaload (v := (fo X)) S10 A_o (i := X) e0 x0 rfl d4_27 rfl ?_
      refine px_aloadN S10 d4_28 rfl rfl rfl ?_
      refine px_iload S10 d4_29 rfl rfl ?_
      refine px_iaload (v := (fo W)) S10 A_o (i := W) e2 x2 rfl d4_31 rfl ?_
      refine px_icmp S10 d4_32 (by decide) (pc' := 51) rfl rfl (fun (hc12 : (fo X).toInt ≤ (fo W).toInt) => ?_) (fun (hc12 : (fo X).toInt > (fo W).toInt) => ?_)
      · refine px_aloadN S10 d4_51 rfl rfl rfl ?_
        refine px_iload S10 d4_52 rfl rfl ?_
        refine px_iconst (v := (1 : Int32)) S10 d4_54 rfl rfl ?_
        refine px_iadd S10 d4_55 rfl ?_
        rw [show ((0 : Int32) + (1 : Int32)) = (1 : Int32) from by decide]
        refine px_iload S10 d4_56 rfl rfl ?_
        refine px_iastore (v := (g 2)) S10 A_s g_s (i := 1) rfl (by decide) rfl d4_58 rfl (fun T13 h13 S13 W13 A_s => ?_)
        replace A_o := A_o.other W13 (Ne.symm n_so)
        replace KK := KK.wr W13 (Or.inl (by simp))
        refine px_iinc (v := (1 : Int32)) (r := (3 : Int32)) S13 d4_59 rfl rfl rfl (by decide) (L' := #[.val (.ref s), .val (.int (3 : Int32)), .val (.ref o), .val (.int (3 : Int32)), .val (.int (g 2)), .val (.int (0 : Int32))]) rfl ?_
        refine px_goto S13 d4_62 (by decide) (pc' := 2) rfl ?_
        refine px_iloadN S13 d4_2 rfl rfl ?_
        refine px_iloadN S13 d4_3 rfl rfl ?_
        refine px_icmp S13 d4_4 (by decide) (pc' := 65) rfl rfl (fun (hc14 : (3 : Int32).toInt ≥ (3 : Int32).toInt) => ?_) (fun (hc14 : (3 : Int32).toInt < (3 : Int32).toInt) => by exfalso; revert hc14; decide)
        exact px_return S13 d4_65 rfl (by decide) (by decide) (⟨rfl, KK, _, A_s, Or.inr (Or.inr (Or.inl (⟨e0, e2, e1, by omega⟩)))⟩)
      · refine px_aloadN S10 d4_35 rfl rfl rfl ?_
        refine px_iload S10 d4_36 rfl rfl ?_
        refine px_iconst (v := (1 : Int32)) S10 d4_38 rfl rfl ?_
        refine px_iadd S10 d4_39 rfl ?_
        rw [show ((0 : Int32) + (1 : Int32)) = (1 : Int32) from by decide]
        refine px_aloadN S10 d4_40 rfl rfl rfl ?_
        refine px_iload S10 d4_41 rfl rfl ?_
        refine px_iaload (v := (g 0)) S10 A_s (i := 0) rfl (by decide) rfl d4_43 rfl ?_
        refine px_iastore (v := (g 0)) S10 A_s g_s (i := 1) rfl (by decide) rfl d4_44 rfl (fun T15 h15 S15 W15 A_s => ?_)
        replace A_o := A_o.other W15 (Ne.symm n_so)
        replace KK := KK.wr W15 (Or.inl (by simp))
        refine px_iinc (v := (-1 : Int32)) (r := (-1 : Int32)) S15 d4_45 rfl rfl rfl (by decide) (L' := #[.val (.ref s), .val (.int (3 : Int32)), .val (.ref o), .val (.int (2 : Int32)), .val (.int (g 2)), .val (.int (-1 : Int32))]) rfl ?_
        refine px_goto S15 d4_48 (by decide) (pc' := 17) rfl ?_
        refine px_iload S15 d4_17 rfl rfl ?_
        refine px_if0 S15 d4_19 (by decide) (pc' := 51) rfl rfl (fun (hc16 : (-1 : Int32).toInt < 0) => ?_) (fun (hc16 : (-1 : Int32).toInt ≥ 0) => by exfalso; revert hc16; decide)
        refine px_aloadN S15 d4_51 rfl rfl rfl ?_
        refine px_iload S15 d4_52 rfl rfl ?_
        refine px_iconst (v := (1 : Int32)) S15 d4_54 rfl rfl ?_
        refine px_iadd S15 d4_55 rfl ?_
        rw [show ((-1 : Int32) + (1 : Int32)) = (0 : Int32) from by decide]
        refine px_iload S15 d4_56 rfl rfl ?_
        refine px_iastore (v := (g 2)) S15 A_s g_s (i := 0) rfl (by decide) rfl d4_58 rfl (fun T17 h17 S17 W17 A_s => ?_)
        replace A_o := A_o.other W17 (Ne.symm n_so)
        replace KK := KK.wr W17 (Or.inl (by simp))
        refine px_iinc (v := (1 : Int32)) (r := (3 : Int32)) S17 d4_59 rfl rfl rfl (by decide) (L' := #[.val (.ref s), .val (.int (3 : Int32)), .val (.ref o), .val (.int (3 : Int32)), .val (.int (g 2)), .val (.int (-1 : Int32))]) rfl ?_
        refine px_goto S17 d4_62 (by decide) (pc' := 2) rfl ?_
        refine px_iloadN S17 d4_2 rfl rfl ?_
        refine px_iloadN S17 d4_3 rfl rfl ?_
        refine px_icmp S17 d4_4 (by decide) (pc' := 65) rfl rfl (fun (hc18 : (3 : Int32).toInt ≥ (3 : Int32).toInt) => ?_) (fun (hc18 : (3 : Int32).toInt < (3 : Int32).toInt) => by exfalso; revert hc18; decide)
        exact px_return S17 d4_65 rfl (by decide) (by decide) (⟨rfl, KK, _, A_s, Or.inr (Or.inr (Or.inr (Or.inl (⟨e2, e0, e1, by omega⟩))))⟩)
  · refine px_aloadN S0 d4_35 rfl rfl rfl ?_
    refine px_iload S0 d4_36 rfl rfl ?_
    refine px_iconst (v := (1 : Int32)) S0 d4_38 rfl rfl ?_
    refine px_iadd S0 d4_39 rfl ?_
    rw [show ((0 : Int32) + (1 : Int32)) = (1 : Int32) from by decide]
    refine px_aloadN S0 d4_40 rfl rfl rfl ?_
    refine px_iload S0 d4_41 rfl rfl ?_
    refine px_iaload (v := (g 0)) S0 A_s (i := 0) rfl (by decide) rfl d4_43 rfl ?_
    refine px_iastore (v := (g 0)) S0 A_s g_s (i := 1) rfl (by decide) rfl d4_44 rfl (fun T19 h19 S19 W19 A_s => ?_)
    replace A_o := A_o.other W19 (Ne.symm n_so)
    replace KK := KK.wr W19 (Or.inl (by simp))
    refine px_iinc (v := (-1 : Int32)) (r := (-1 : Int32)) S19 d4_45 rfl rfl rfl (by decide) (L' := #[.val (.ref s), .val (.int (3 : Int32)), .val (.ref o), .val (.int (1 : Int32)), .val (.int (g 1)), .val (.int (-1 : Int32))]) rfl ?_
    refine px_goto S19 d4_48 (by decide) (pc' := 17) rfl ?_
    refine px_iload S19 d4_17 rfl rfl ?_
    refine px_if0 S19 d4_19 (by decide) (pc' := 51) rfl rfl (fun (hc20 : (-1 : Int32).toInt < 0) => ?_) (fun (hc20 : (-1 : Int32).toInt ≥ 0) => by exfalso; revert hc20; decide)
    refine px_aloadN S19 d4_51 rfl rfl rfl ?_
    refine px_iload S19 d4_52 rfl rfl ?_
    refine px_iconst (v := (1 : Int32)) S19 d4_54 rfl rfl ?_
    refine px_iadd S19 d4_55 rfl ?_
    rw [show ((-1 : Int32) + (1 : Int32)) = (0 : Int32) from by decide]
    refine px_iload S19 d4_56 rfl rfl ?_
    refine px_iastore (v := (g 1)) S19 A_s g_s (i := 0) rfl (by decide) rfl d4_58 rfl (fun T21 h21 S21 W21 A_s => ?_)
    replace A_o := A_o.other W21 (Ne.symm n_so)
    replace KK := KK.wr W21 (Or.inl (by simp))
    refine px_iinc (v := (1 : Int32)) (r := (2 : Int32)) S21 d4_59 rfl rfl rfl (by decide) (L' := #[.val (.ref s), .val (.int (3 : Int32)), .val (.ref o), .val (.int (2 : Int32)), .val (.int (g 1)), .val (.int (-1 : Int32))]) rfl ?_
    refine px_goto S21 d4_62 (by decide) (pc' := 2) rfl ?_
    refine px_iloadN S21 d4_2 rfl rfl ?_
    refine px_iloadN S21 d4_3 rfl rfl ?_
    refine px_icmp S21 d4_4 (by decide) (pc' := 65) rfl rfl (fun (hc22 : (2 : Int32).toInt ≥ (3 : Int32).toInt) => by exfalso; revert hc22; decide) (fun (hc22 : (2 : Int32).toInt < (3 : Int32).toInt) => ?_)
    refine px_aloadN S21 d4_7 rfl rfl rfl ?_
    refine px_iloadN S21 d4_8 rfl rfl ?_
    refine px_iaload (v := (g 2)) S21 A_s (i := 2) rfl (by decide) rfl d4_9 rfl ?_
    refine px_istore S21 d4_10 rfl (L' := #[.val (.ref s), .val (.int (3 : Int32)), .val (.ref o), .val (.int (2 : Int32)), .val (.int (g 2)), .val (.int (-1 : Int32))]) rfl ?_
    refine px_iloadN S21 d4_12 rfl rfl ?_
    refine px_iconst (v := (1 : Int32)) S21 d4_13 rfl rfl ?_
    refine px_isub S21 d4_14 rfl ?_
    rw [show ((2 : Int32) - (1 : Int32)) = (1 : Int32) from by decide]
    refine px_istore S21 d4_15 rfl (L' := #[.val (.ref s), .val (.int (3 : Int32)), .val (.ref o), .val (.int (2 : Int32)), .val (.int (g 2)), .val (.int (1 : Int32))]) rfl ?_
    refine px_iload S21 d4_17 rfl rfl ?_
    refine px_if0 S21 d4_19 (by decide) (pc' := 51) rfl rfl (fun (hc23 : (1 : Int32).toInt < 0) => by exfalso; revert hc23; decide) (fun (hc23 : (1 : Int32).toInt ≥ 0) => ?_)
    refine px_aloadN S21 d4_22 rfl rfl rfl ?_
    refine px_aloadN S21 d4_23 rfl rfl rfl ?_
    refine px_iload S21 d4_24 rfl rfl ?_
    refine px_iaload (v := (g 0)) S21 A_s (i := 1) rfl (by decide) rfl d4_26 rfl ?_
    refine px_iaload (v := (fo X)) S21 A_o (i := X) e0 x0 rfl d4_27 rfl ?_
    refine px_aloadN S21 d4_28 rfl rfl rfl ?_
    refine px_iload S21 d4_29 rfl rfl ?_
    refine px_iaload (v := (fo W)) S21 A_o (i := W) e2 x2 rfl d4_31 rfl ?_
    refine px_icmp S21 d4_32 (by decide) (pc' := 51) rfl rfl (fun (hc24 : (fo X).toInt ≤ (fo W).toInt) => ?_) (fun (hc24 : (fo X).toInt > (fo W).toInt) => ?_)
    · refine px_aloadN S21 d4_51 rfl rfl rfl ?_
      refine px_iload S21 d4_52 rfl rfl ?_
      refine px_iconst (v := (1 : Int32)) S21 d4_54 rfl rfl ?_
      refine px_iadd S21 d4_55 rfl ?_
      rw [show ((1 : Int32) + (1 : Int32)) = (2 : Int32) from by decide]
      refine px_iload S21 d4_56 rfl rfl ?_
      refine px_iastore (v := (g 2)) S21 A_s g_s (i := 2) rfl (by decide) rfl d4_58 rfl (fun T25 h25 S25 W25 A_s => ?_)
      replace A_o := A_o.other W25 (Ne.symm n_so)
      replace KK := KK.wr W25 (Or.inl (by simp))
      refine px_iinc (v := (1 : Int32)) (r := (3 : Int32)) S25 d4_59 rfl rfl rfl (by decide) (L' := #[.val (.ref s), .val (.int (3 : Int32)), .val (.ref o), .val (.int (3 : Int32)), .val (.int (g 2)), .val (.int (1 : Int32))]) rfl ?_
      refine px_goto S25 d4_62 (by decide) (pc' := 2) rfl ?_
      refine px_iloadN S25 d4_2 rfl rfl ?_
      refine px_iloadN S25 d4_3 rfl rfl ?_
      refine px_icmp S25 d4_4 (by decide) (pc' := 65) rfl rfl (fun (hc26 : (3 : Int32).toInt ≥ (3 : Int32).toInt) => ?_) (fun (hc26 : (3 : Int32).toInt < (3 : Int32).toInt) => by exfalso; revert hc26; decide)
      exact px_return S25 d4_65 rfl (by decide) (by decide) (⟨rfl, KK, _, A_s, Or.inr (Or.inl (⟨e1, e0, e2, by omega⟩))⟩)
    · refine px_aloadN S21 d4_35 rfl rfl rfl ?_
      refine px_iload S21 d4_36 rfl rfl ?_
      refine px_iconst (v := (1 : Int32)) S21 d4_38 rfl rfl ?_
      refine px_iadd S21 d4_39 rfl ?_
      rw [show ((1 : Int32) + (1 : Int32)) = (2 : Int32) from by decide]
      refine px_aloadN S21 d4_40 rfl rfl rfl ?_
      refine px_iload S21 d4_41 rfl rfl ?_
      refine px_iaload (v := (g 0)) S21 A_s (i := 1) rfl (by decide) rfl d4_43 rfl ?_
      refine px_iastore (v := (g 0)) S21 A_s g_s (i := 2) rfl (by decide) rfl d4_44 rfl (fun T27 h27 S27 W27 A_s => ?_)
      replace A_o := A_o.other W27 (Ne.symm n_so)
      replace KK := KK.wr W27 (Or.inl (by simp))
      refine px_iinc (v := (-1 : Int32)) (r := (0 : Int32)) S27 d4_45 rfl rfl rfl (by decide) (L' := #[.val (.ref s), .val (.int (3 : Int32)), .val (.ref o), .val (.int (2 : Int32)), .val (.int (g 2)), .val (.int (0 : Int32))]) rfl ?_
      refine px_goto S27 d4_48 (by decide) (pc' := 17) rfl ?_
      refine px_iload S27 d4_17 rfl rfl ?_
      refine px_if0 S27 d4_19 (by decide) (pc' := 51) rfl rfl (fun (hc28 : (0 : Int32).toInt < 0) => by exfalso; revert hc28; decide) (fun (hc28 : (0 : Int32).toInt ≥ 0) => ?_)
      refine px_aloadN S27 d4_22 rfl rfl rfl ?_
      refine px_aloadN S27 d4_23 rfl rfl rfl ?_
      refine px_iload S27 d4_24 rfl rfl ?_
      refine px_iaload (v := (g 1)) S27 A_s (i := 0) rfl (by decide) rfl d4_26 rfl ?_
      refine px_iaload (v := (fo Y)) S27 A_o (i := Y) e1 x1 rfl d4_27 rfl ?_
      refine px_aloadN S27 d4_28 rfl rfl rfl ?_
      refine px_iload S27 d4_29 rfl rfl ?_
      refine px_iaload (v := (fo W)) S27 A_o (i := W) e2 x2 rfl d4_31 rfl ?_
      refine px_icmp S27 d4_32 (by decide) (pc' := 51) rfl rfl (fun (hc29 : (fo Y).toInt ≤ (fo W).toInt) => ?_) (fun (hc29 : (fo Y).toInt > (fo W).toInt) => ?_)
      · refine px_aloadN S27 d4_51 rfl rfl rfl ?_
        refine px_iload S27 d4_52 rfl rfl ?_
        refine px_iconst (v := (1 : Int32)) S27 d4_54 rfl rfl ?_
        refine px_iadd S27 d4_55 rfl ?_
        rw [show ((0 : Int32) + (1 : Int32)) = (1 : Int32) from by decide]
        refine px_iload S27 d4_56 rfl rfl ?_
        refine px_iastore (v := (g 2)) S27 A_s g_s (i := 1) rfl (by decide) rfl d4_58 rfl (fun T30 h30 S30 W30 A_s => ?_)
        replace A_o := A_o.other W30 (Ne.symm n_so)
        replace KK := KK.wr W30 (Or.inl (by simp))
        refine px_iinc (v := (1 : Int32)) (r := (3 : Int32)) S30 d4_59 rfl rfl rfl (by decide) (L' := #[.val (.ref s), .val (.int (3 : Int32)), .val (.ref o), .val (.int (3 : Int32)), .val (.int (g 2)), .val (.int (0 : Int32))]) rfl ?_
        refine px_goto S30 d4_62 (by decide) (pc' := 2) rfl ?_
        refine px_iloadN S30 d4_2 rfl rfl ?_
        refine px_iloadN S30 d4_3 rfl rfl ?_
        refine px_icmp S30 d4_4 (by decide) (pc' := 65) rfl rfl (fun (hc31 : (3 : Int32).toInt ≥ (3 : Int32).toInt) => ?_) (fun (hc31 : (3 : Int32).toInt < (3 : Int32).toInt) => by exfalso; revert hc31; decide)
        exact px_return S30 d4_65 rfl (by decide) (by decide) (⟨rfl, KK, _, A_s, Or.inr (Or.inr (Or.inr (Or.inr (Or.inl (⟨e1, e2, e0, by omega⟩)))))⟩)
      · refine px_aloadN S27 d4_35 rfl rfl rfl ?_
        refine px_iload S27 d4_36 rfl rfl ?_
        refine px_iconst (v := (1 : Int32)) S27 d4_38 rfl rfl ?_
        refine px_iadd S27 d4_39 rfl ?_
        rw [show ((0 : Int32) + (1 : Int32)) = (1 : Int32) from by decide]
        refine px_aloadN S27 d4_40 rfl rfl rfl ?_
        refine px_iload S27 d4_41 rfl rfl ?_
        refine px_iaload (v := (g 1)) S27 A_s (i := 0) rfl (by decide) rfl d4_43 rfl ?_
        refine px_iastore (v := (g 1)) S27 A_s g_s (i := 1) rfl (by decide) rfl d4_44 rfl (fun T32 h32 S32 W32 A_s => ?_)
        replace A_o := A_o.other W32 (Ne.symm n_so)
        replace KK := KK.wr W32 (Or.inl (by simp))
        refine px_iinc (v := (-1 : Int32)) (r := (-1 : Int32)) S32 d4_45 rfl rfl rfl (by decide) (L' := #[.val (.ref s), .val (.int (3 : Int32)), .val (.ref o), .val (.int (2 : Int32)), .val (.int (g 2)), .val (.int (-1 : Int32))]) rfl ?_
        refine px_goto S32 d4_48 (by decide) (pc' := 17) rfl ?_
        refine px_iload S32 d4_17 rfl rfl ?_
        refine px_if0 S32 d4_19 (by decide) (pc' := 51) rfl rfl (fun (hc33 : (-1 : Int32).toInt < 0) => ?_) (fun (hc33 : (-1 : Int32).toInt ≥ 0) => by exfalso; revert hc33; decide)
        refine px_aloadN S32 d4_51 rfl rfl rfl ?_
        refine px_iload S32 d4_52 rfl rfl ?_
        refine px_iconst (v := (1 : Int32)) S32 d4_54 rfl rfl ?_
        refine px_iadd S32 d4_55 rfl ?_
        rw [show ((-1 : Int32) + (1 : Int32)) = (0 : Int32) from by decide]
        refine px_iload S32 d4_56 rfl rfl ?_
        refine px_iastore (v := (g 2)) S32 A_s g_s (i := 0) rfl (by decide) rfl d4_58 rfl (fun T34 h34 S34 W34 A_s => ?_)
        replace A_o := A_o.other W34 (Ne.symm n_so)
        replace KK := KK.wr W34 (Or.inl (by simp))
        refine px_iinc (v := (1 : Int32)) (r := (3 : Int32)) S34 d4_59 rfl rfl rfl (by decide) (L' := #[.val (.ref s), .val (.int (3 : Int32)), .val (.ref o), .val (.int (3 : Int32)), .val (.int (g 2)), .val (.int (-1 : Int32))]) rfl ?_
        refine px_goto S34 d4_62 (by decide) (pc' := 2) rfl ?_
        refine px_iloadN S34 d4_2 rfl rfl ?_
        refine px_iloadN S34 d4_3 rfl rfl ?_
        refine px_icmp S34 d4_4 (by decide) (pc' := 65) rfl rfl (fun (hc35 : (3 : Int32).toInt ≥ (3 : Int32).toInt) => ?_) (fun (hc35 : (3 : Int32).toInt < (3 : Int32).toInt) => by exfalso; revert hc35; decide)
        exact px_return S34 d4_65 rfl (by decide) (by decide) (⟨rfl, KK, _, A_s, Or.inr (Or.inr (Or.inr (Or.inr (Or.inr (⟨e2, e1, e0, by omega⟩)))))⟩)
theorem d5_0 : decode prog_46_method_10_code 0 = .ok (.iconst 2, 1) := by decide +kernel
theorem d5_1 : decode prog_46_method_10_code 1 = .ok (.iload_n 2, 1) := by decide +kernel
theorem d5_2 : decode prog_46_method_10_code 2 = .ok (.imul, 1) := by decide +kernel
theorem d5_3 : decode prog_46_method_10_code 3 = .ok (.iconst 1, 1) := by decide +kernel
theorem d5_4 : decode prog_46_method_10_code 4 = .ok (.isub, 1) := by decide +kernel
theorem d5_5 : decode prog_46_method_10_code 5 = .ok (.newarray .long, 2) := by decide +kernel
theorem d5_7 : decode prog_46_method_10_code 7 = .ok (.astore 4, 2) := by decide +kernel
theorem d5_9 : decode prog_46_method_10_code 9 = .ok (.iconst 2, 1) := by decide +kernel
theorem d5_10 : decode prog_46_method_10_code 10 = .ok (.iload_n 2, 1) := by decide +kernel
theorem d5_11 : decode prog_46_method_10_code 11 = .ok (.imul, 1) := by decide +kernel
theorem d5_12 : decode prog_46_method_10_code 12 = .ok (.iconst 1, 1) := by decide +kernel
theorem d5_13 : decode prog_46_method_10_code 13 = .ok (.isub, 1) := by decide +kernel
theorem d5_14 : decode prog_46_method_10_code 14 = .ok (.newarray .int, 2) := by decide +kernel
theorem d5_16 : decode prog_46_method_10_code 16 = .ok (.astore 5, 2) := by decide +kernel
theorem d5_18 : decode prog_46_method_10_code 18 = .ok (.iconst 0, 1) := by decide +kernel
theorem d5_19 : decode prog_46_method_10_code 19 = .ok (.istore 6, 2) := by decide +kernel
theorem d5_21 : decode prog_46_method_10_code 21 = .ok (.iload 6, 2) := by decide +kernel
theorem d5_23 : decode prog_46_method_10_code 23 = .ok (.iload_n 2, 1) := by decide +kernel
theorem d5_24 : decode prog_46_method_10_code 24 = .ok (.if_icmp .ge 21, 3) := by decide +kernel
theorem d5_27 : decode prog_46_method_10_code 27 = .ok (.aload 4, 2) := by decide +kernel
theorem d5_29 : decode prog_46_method_10_code 29 = .ok (.iload 6, 2) := by decide +kernel
theorem d5_31 : decode prog_46_method_10_code 31 = .ok (.aload_n 3, 1) := by decide +kernel
theorem d5_32 : decode prog_46_method_10_code 32 = .ok (.aload_n 1, 1) := by decide +kernel
theorem d5_33 : decode prog_46_method_10_code 33 = .ok (.iload 6, 2) := by decide +kernel
theorem d5_35 : decode prog_46_method_10_code 35 = .ok (.iaload, 1) := by decide +kernel
theorem d5_36 : decode prog_46_method_10_code 36 = .ok (.iaload, 1) := by decide +kernel
theorem d5_37 : decode prog_46_method_10_code 37 = .ok (.i2l, 1) := by decide +kernel
theorem d5_38 : decode prog_46_method_10_code 38 = .ok (.lastore, 1) := by decide +kernel
theorem d5_39 : decode prog_46_method_10_code 39 = .ok (.iinc 6 1, 3) := by decide +kernel
theorem d5_42 : decode prog_46_method_10_code 42 = .ok (.goto (-21), 3) := by decide +kernel
theorem d5_45 : decode prog_46_method_10_code 45 = .ok (.iconst 0, 1) := by decide +kernel
theorem d5_46 : decode prog_46_method_10_code 46 = .ok (.istore 6, 2) := by decide +kernel
theorem d5_48 : decode prog_46_method_10_code 48 = .ok (.iload_n 2, 1) := by decide +kernel
theorem d5_49 : decode prog_46_method_10_code 49 = .ok (.istore 7, 2) := by decide +kernel
theorem d5_51 : decode prog_46_method_10_code 51 = .ok (.iload_n 2, 1) := by decide +kernel
theorem d5_52 : decode prog_46_method_10_code 52 = .ok (.istore 8, 2) := by decide +kernel
theorem d5_54 : decode prog_46_method_10_code 54 = .ok (.iload 8, 2) := by decide +kernel
theorem d5_56 : decode prog_46_method_10_code 56 = .ok (.iconst 2, 1) := by decide +kernel
theorem d5_57 : decode prog_46_method_10_code 57 = .ok (.iload_n 2, 1) := by decide +kernel
theorem d5_58 : decode prog_46_method_10_code 58 = .ok (.imul, 1) := by decide +kernel
theorem d5_59 : decode prog_46_method_10_code 59 = .ok (.iconst 1, 1) := by decide +kernel
theorem d5_60 : decode prog_46_method_10_code 60 = .ok (.isub, 1) := by decide +kernel
theorem d5_61 : decode prog_46_method_10_code 61 = .ok (.if_icmp .ge 124, 3) := by decide +kernel
theorem d5_64 : decode prog_46_method_10_code 64 = .ok (.iconst 2, 1) := by decide +kernel
theorem d5_65 : decode prog_46_method_10_code 65 = .ok (.newarray .int, 2) := by decide +kernel
theorem d5_67 : decode prog_46_method_10_code 67 = .ok (.astore 9, 2) := by decide +kernel
theorem d5_69 : decode prog_46_method_10_code 69 = .ok (.iconst 0, 1) := by decide +kernel
theorem d5_70 : decode prog_46_method_10_code 70 = .ok (.istore 10, 2) := by decide +kernel
theorem d5_72 : decode prog_46_method_10_code 72 = .ok (.iload 10, 2) := by decide +kernel
theorem d5_74 : decode prog_46_method_10_code 74 = .ok (.iconst 2, 1) := by decide +kernel
theorem d5_75 : decode prog_46_method_10_code 75 = .ok (.if_icmp .ge 66, 3) := by decide +kernel
theorem d5_78 : decode prog_46_method_10_code 78 = .ok (.iload 6, 2) := by decide +kernel
theorem d5_80 : decode prog_46_method_10_code 80 = .ok (.iload_n 2, 1) := by decide +kernel
theorem d5_81 : decode prog_46_method_10_code 81 = .ok (.if_icmp .ge 28, 3) := by decide +kernel
theorem d5_84 : decode prog_46_method_10_code 84 = .ok (.iload 7, 2) := by decide +kernel
theorem d5_86 : decode prog_46_method_10_code 86 = .ok (.iload 8, 2) := by decide +kernel
theorem d5_88 : decode prog_46_method_10_code 88 = .ok (.if_icmp .ge 17, 3) := by decide +kernel
theorem d5_105 : decode prog_46_method_10_code 105 = .ok (.iconst 1, 1) := by decide +kernel
theorem d5_106 : decode prog_46_method_10_code 106 = .ok (.goto 4, 3) := by decide +kernel
theorem d5_110 : decode prog_46_method_10_code 110 = .ok (.istore 11, 2) := by decide +kernel
theorem d5_112 : decode prog_46_method_10_code 112 = .ok (.aload 9, 2) := by decide +kernel
theorem d5_114 : decode prog_46_method_10_code 114 = .ok (.iload 10, 2) := by decide +kernel
theorem d5_116 : decode prog_46_method_10_code 116 = .ok (.iload 11, 2) := by decide +kernel
theorem d5_118 : decode prog_46_method_10_code 118 = .ok (.ifCond .eq 11, 3) := by decide +kernel
theorem d5_121 : decode prog_46_method_10_code 121 = .ok (.iload 6, 2) := by decide +kernel
theorem d5_123 : decode prog_46_method_10_code 123 = .ok (.iinc 6 1, 3) := by decide +kernel
theorem d5_126 : decode prog_46_method_10_code 126 = .ok (.goto 8, 3) := by decide +kernel
theorem d5_134 : decode prog_46_method_10_code 134 = .ok (.iastore, 1) := by decide +kernel
theorem d5_135 : decode prog_46_method_10_code 135 = .ok (.iinc 10 1, 3) := by decide +kernel
theorem d5_138 : decode prog_46_method_10_code 138 = .ok (.goto (-66), 3) := by decide +kernel
theorem d5_141 : decode prog_46_method_10_code 141 = .ok (.aload 4, 2) := by decide +kernel
theorem d5_143 : decode prog_46_method_10_code 143 = .ok (.iload 8, 2) := by decide +kernel
theorem d5_145 : decode prog_46_method_10_code 145 = .ok (.aload 4, 2) := by decide +kernel
theorem d5_147 : decode prog_46_method_10_code 147 = .ok (.aload 9, 2) := by decide +kernel
theorem d5_149 : decode prog_46_method_10_code 149 = .ok (.iconst 0, 1) := by decide +kernel
theorem d5_150 : decode prog_46_method_10_code 150 = .ok (.iaload, 1) := by decide +kernel
theorem d5_151 : decode prog_46_method_10_code 151 = .ok (.laload, 1) := by decide +kernel
theorem d5_152 : decode prog_46_method_10_code 152 = .ok (.aload 4, 2) := by decide +kernel
theorem d5_154 : decode prog_46_method_10_code 154 = .ok (.aload 9, 2) := by decide +kernel
theorem d5_156 : decode prog_46_method_10_code 156 = .ok (.iconst 1, 1) := by decide +kernel
theorem d5_157 : decode prog_46_method_10_code 157 = .ok (.iaload, 1) := by decide +kernel
theorem d5_158 : decode prog_46_method_10_code 158 = .ok (.laload, 1) := by decide +kernel
theorem d5_159 : decode prog_46_method_10_code 159 = .ok (.ladd, 1) := by decide +kernel
theorem d5_160 : decode prog_46_method_10_code 160 = .ok (.lastore, 1) := by decide +kernel
theorem d5_161 : decode prog_46_method_10_code 161 = .ok (.aload 5, 2) := by decide +kernel
theorem d5_163 : decode prog_46_method_10_code 163 = .ok (.aload 9, 2) := by decide +kernel
theorem d5_165 : decode prog_46_method_10_code 165 = .ok (.iconst 0, 1) := by decide +kernel
theorem d5_166 : decode prog_46_method_10_code 166 = .ok (.iaload, 1) := by decide +kernel
theorem d5_167 : decode prog_46_method_10_code 167 = .ok (.iload 8, 2) := by decide +kernel
theorem d5_169 : decode prog_46_method_10_code 169 = .ok (.iastore, 1) := by decide +kernel
theorem d5_170 : decode prog_46_method_10_code 170 = .ok (.aload 5, 2) := by decide +kernel
theorem d5_172 : decode prog_46_method_10_code 172 = .ok (.aload 9, 2) := by decide +kernel
theorem d5_174 : decode prog_46_method_10_code 174 = .ok (.iconst 1, 1) := by decide +kernel
theorem d5_175 : decode prog_46_method_10_code 175 = .ok (.iaload, 1) := by decide +kernel
theorem d5_176 : decode prog_46_method_10_code 176 = .ok (.iload 8, 2) := by decide +kernel
theorem d5_178 : decode prog_46_method_10_code 178 = .ok (.iastore, 1) := by decide +kernel
theorem d5_179 : decode prog_46_method_10_code 179 = .ok (.iinc 8 1, 3) := by decide +kernel
theorem d5_182 : decode prog_46_method_10_code 182 = .ok (.goto (-128), 3) := by decide +kernel
theorem d5_185 : decode prog_46_method_10_code 185 = .ok (.iconst 2, 1) := by decide +kernel
theorem d5_186 : decode prog_46_method_10_code 186 = .ok (.iload_n 2, 1) := by decide +kernel
theorem d5_187 : decode prog_46_method_10_code 187 = .ok (.imul, 1) := by decide +kernel
theorem d5_188 : decode prog_46_method_10_code 188 = .ok (.iconst 1, 1) := by decide +kernel
theorem d5_189 : decode prog_46_method_10_code 189 = .ok (.isub, 1) := by decide +kernel
theorem d5_190 : decode prog_46_method_10_code 190 = .ok (.newarray .int, 2) := by decide +kernel
theorem d5_192 : decode prog_46_method_10_code 192 = .ok (.astore 8, 2) := by decide +kernel
theorem d5_194 : decode prog_46_method_10_code 194 = .ok (.iconst 2, 1) := by decide +kernel
theorem d5_195 : decode prog_46_method_10_code 195 = .ok (.iload_n 2, 1) := by decide +kernel
theorem d5_196 : decode prog_46_method_10_code 196 = .ok (.imul, 1) := by decide +kernel
theorem d5_197 : decode prog_46_method_10_code 197 = .ok (.iconst 3, 1) := by decide +kernel
theorem d5_198 : decode prog_46_method_10_code 198 = .ok (.isub, 1) := by decide +kernel
theorem d5_199 : decode prog_46_method_10_code 199 = .ok (.istore 9, 2) := by decide +kernel
theorem d5_201 : decode prog_46_method_10_code 201 = .ok (.iload 9, 2) := by decide +kernel
theorem d5_203 : decode prog_46_method_10_code 203 = .ok (.ifCond .lt 24, 3) := by decide +kernel
theorem d5_206 : decode prog_46_method_10_code 206 = .ok (.aload 8, 2) := by decide +kernel
theorem d5_208 : decode prog_46_method_10_code 208 = .ok (.iload 9, 2) := by decide +kernel
theorem d5_210 : decode prog_46_method_10_code 210 = .ok (.aload 8, 2) := by decide +kernel
theorem d5_212 : decode prog_46_method_10_code 212 = .ok (.aload 5, 2) := by decide +kernel
theorem d5_214 : decode prog_46_method_10_code 214 = .ok (.iload 9, 2) := by decide +kernel
theorem d5_216 : decode prog_46_method_10_code 216 = .ok (.iaload, 1) := by decide +kernel
theorem d5_217 : decode prog_46_method_10_code 217 = .ok (.iaload, 1) := by decide +kernel
theorem d5_218 : decode prog_46_method_10_code 218 = .ok (.iconst 1, 1) := by decide +kernel
theorem d5_219 : decode prog_46_method_10_code 219 = .ok (.iadd, 1) := by decide +kernel
theorem d5_220 : decode prog_46_method_10_code 220 = .ok (.iastore, 1) := by decide +kernel
theorem d5_221 : decode prog_46_method_10_code 221 = .ok (.iinc 9 (-1), 3) := by decide +kernel
theorem d5_224 : decode prog_46_method_10_code 224 = .ok (.goto (-23), 3) := by decide +kernel
theorem d5_227 : decode prog_46_method_10_code 227 = .ok (.iconst 0, 1) := by decide +kernel
theorem d5_228 : decode prog_46_method_10_code 228 = .ok (.istore 9, 2) := by decide +kernel
theorem d5_230 : decode prog_46_method_10_code 230 = .ok (.iload 9, 2) := by decide +kernel
theorem d5_232 : decode prog_46_method_10_code 232 = .ok (.iload_n 2, 1) := by decide +kernel
theorem d5_233 : decode prog_46_method_10_code 233 = .ok (.if_icmp .ge 23, 3) := by decide +kernel
theorem d5_236 : decode prog_46_method_10_code 236 = .ok (.aload_n 0, 1) := by decide +kernel
theorem d5_237 : decode prog_46_method_10_code 237 = .ok (.getfield 11, 3) := by decide +kernel
theorem d5_240 : decode prog_46_method_10_code 240 = .ok (.aload_n 1, 1) := by decide +kernel
theorem d5_241 : decode prog_46_method_10_code 241 = .ok (.iload 9, 2) := by decide +kernel
theorem d5_243 : decode prog_46_method_10_code 243 = .ok (.iaload, 1) := by decide +kernel
theorem d5_244 : decode prog_46_method_10_code 244 = .ok (.aload 8, 2) := by decide +kernel
theorem d5_246 : decode prog_46_method_10_code 246 = .ok (.iload 9, 2) := by decide +kernel
theorem d5_248 : decode prog_46_method_10_code 248 = .ok (.iaload, 1) := by decide +kernel
theorem d5_249 : decode prog_46_method_10_code 249 = .ok (.iastore, 1) := by decide +kernel
theorem d5_250 : decode prog_46_method_10_code 250 = .ok (.iinc 9 1, 3) := by decide +kernel
theorem d5_253 : decode prog_46_method_10_code 253 = .ok (.goto (-23), 3) := by decide +kernel
theorem d5_256 : decode prog_46_method_10_code 256 = .ok (.return_, 1) := by decide +kernel
theorem pn_5 : plainFor (⟨"com/example/colonnade/colonnade/compress/HuffmanEncoder", "huffmanLengths", "([II[I)V"⟩ : MethodName) = true := plainFor_of_name (by first | (simp [plainName, overriddenIn]; done) | decide +kernel)
set_option maxRecDepth 65536 in
set_option maxHeartbeats 40000000 in
theorem c_huff2 {Z : State} {a0 : Array Value} (hw : ∀ d ∈ tables_1, d.before a0 Z = true) {t s o ln cd : Addr} {X Y : Nat} {g fo fl : Nat → Int32} {h0 : Heap} {n0 : Nat} (Z0 : n0 ≤ h0.size) (X_t : Exa Z h0 t "com/example/colonnade/colonnade/compress/HuffmanEncoder") (F_lengths_t : Fld Z h0 t "com/example/colonnade/colonnade/compress/HuffmanEncoder" "lengths" "[I" (.ref ln)) (F_codes_t : Fld Z h0 t "com/example/colonnade/colonnade/compress/HuffmanEncoder" "codes" "[I" (.ref cd)) (A_s : AI Z h0 s .int 256 g) (A_o : AI Z h0 o .int 256 fo) (A_l : AI Z h0 ln .int 256 fl) (g_l : n0 ≤ ln) (n_tl : t ≠ ln) (n_sl : s ≠ ln) (n_ol : o ≠ ln) (e0 : (g 0).toInt = (X : Int)) (e1 : (g 1).toInt = (Y : Int)) (x0 : X < 256) (x1 : Y < 256) :
    Ctr Z n0 (⟨"com/example/colonnade/colonnade/compress/HuffmanEncoder", "huffmanLengths", "([II[I)V"⟩ : MethodName) prog_46_method_10_code 12 none ({ frames := 0, cells := 4, slots := 11, locals := 0 } : Room) [(.ref t), (.ref s), (.int (2 : Int32)), (.ref o)] h0 (fun v h => v = none ∧ Keep h0 h [ln] ∧ AI Z h ln .int 256 (updF (updF fl X (1 : Int32)) Y (1 : Int32))) := by
  refine Ctr.of (L := #[.val (.ref t), .val (.ref s), .val (.int (2 : Int32)), .val (.ref o), .unset, .unset, .unset, .unset, .unset, .unset, .unset, .unset]) pn_5 Z0 (fun m => by first | (simp [entryFrame, mkF, argsToLocals, Value.category]; done) | rfl) ?_
  intro K T S0
  have KK := Keep.refl h0 [ln]
  refine px_iconst (v := (2 : Int32)) S0 d5_0 rfl rfl ?_
  refine px_iloadN S0 d5_1 rfl rfl ?_
  refine px_imul S0 d5_2 rfl ?_
  rw [show ((2 : Int32) * (2 : Int32)) = (4 : Int32) from by decide]
  refine px_iconst (v := (1 : Int32)) S0 d5_3 rfl rfl ?_
  refine px_isub S0 d5_4 rfl ?_
  rw [show ((4 : Int32) - (1 : Int32)) = (3 : Int32) from by decide]
  refine px_newarrJ (cap := 3) S0 (hw _ (List.mem_of_getElem? (i := 26) rfl)) (n := 3) rfl (by decide) (by decide) (by decide) (by decide) d5_5 rfl (fun T1 h1 b1 z1 g_b1 S1 E1 A_b1 => ?_)
  have ne_t_b1 : t ≠ b1 := ne_new z1 X_t.lt
  have ne_s_b1 : s ≠ b1 := ne_new z1 A_s.lt
  have ne_o_b1 : o ≠ b1 := ne_new z1 A_o.lt
  have ne_ln_b1 : ln ≠ b1 := ne_new z1 A_l.lt
  replace X_t := X_t.ext E1
  replace F_lengths_t := F_lengths_t.ext E1
  replace F_codes_t := F_codes_t.ext E1
  replace A_s := A_s.ext E1
  replace A_o := A_o.ext E1
  replace A_l := A_l.ext E1
  have sz_b1 : h0.size ≤ b1 := by rw [z1]; exact KK.1
  replace KK := KK.ext E1
  refine px_astore S1 d5_7 rfl rfl (L' := #[.val (.ref t), .val (.ref s), .val (.int (2 : Int32)), .val (.ref o), .val (.ref b1), .unset, .unset, .unset, .unset, .unset, .unset, .unset]) rfl ?_
  refine px_iconst (v := (2 : Int32)) S1 d5_9 rfl rfl ?_
  refine px_iloadN S1 d5_10 rfl rfl ?_
  refine px_imul S1 d5_11 rfl ?_
  rw [show ((2 : Int32) * (2 : Int32)) = (4 : Int32) from by decide]
  refine px_iconst (v := (1 : Int32)) S1 d5_12 rfl rfl ?_
  refine px_isub S1 d5_13 rfl ?_
  rw [show ((4 : Int32) - (1 : Int32)) = (3 : Int32) from by decide]
  refine px_newarr (aty := .int) (cap := 3) S1 (hw _ (List.mem_of_getElem? (i := 0) rfl)) rfl (n := 3) rfl (by decide) (by decide) (by decide) (by decide) d5_14 rfl (fun T2 h2 b2 z2 g_b2 S2 E2 A_b2 => ?_)
  have ne_t_b2 : t ≠ b2 := ne_new z2 X_t.lt
  have ne_s_b2 : s ≠ b2 := ne_new z2 A_s.lt
  have ne_o_b2 : o ≠ b2 := ne_new z2 A_o.lt
  have ne_ln_b2 : ln ≠ b2 := ne_new z2 A_l.lt
  have ne_b1_b2 : b1 ≠ b2 := ne_new z2 A_b1.lt
  replace X_t := X_t.ext E2
  replace F_lengths_t := F_lengths_t.ext E2
  replace F_codes_t := F_codes_t.ext E2
  replace A_s := A_s.ext E2
  replace A_o := A_o.ext E2
  replace A_l := A_l.ext E2
  replace A_b1 := A_b1.ext E2
  have sz_b2 : h0.size ≤ b2 := by rw [z2]; exact KK.1
  replace KK := KK.ext E2
  refine px_astore S2 d5_16 rfl rfl (L' := #[.val (.ref t), .val (.ref s), .val (.int (2 : Int32)), .val (.ref o), .val (.ref b1), .val (.ref b2), .unset, .unset, .unset, .unset, .unset, .unset]) rfl ?_
  refine px_iconst (v := (0 : Int32)) S2 d5_18 rfl rfl ?_
  refine px_istore S2 d5_19 rfl (L' := #[.val (.ref t), .val (.ref s), .val (.int (2 : Int32)), .val (.ref o), .val (.ref b1), .val (.ref b2), .val (.int (0 : Int32)), .unset, .unset, .unset, .unset, .unset]) rfl ?_
  refine px_iload S2 d5_21 rfl rfl ?_
  refine px_iloadN S2 d5_23 rfl rfl ?_
  refine px_icmp S2 d5_24 (by decide) (pc' := 45) rfl rfl (fun (hc3 : (0 : Int32).toInt ≥ (2 : Int32).toInt) => by exfalso; revert hc3; decide) (fun (hc3 : (0 : Int32).toInt < (2 : Int32).toInt) => ?_)
  refine px_aload S2 d5_27 rfl rfl rfl ?_
  refine px_iload S2 d5_29 rfl rfl ?_
  refine px_aloadN S2 d5_31 rfl rfl rfl ?_
  refine px_aloadN S2 d5_32 rfl rfl rfl ?_
  refine px_iload S2 d5_33 rfl rfl ?_
  refine px_iaload (v := (g 0)) S2 A_s (i := 0) rfl (by decide) rfl d5_35 rfl ?_
  refine px_iaload (v := (fo X)) S2 A_o (i := X) e0 x0 rfl d5_36 rfl ?_
  refine px_i2l S2 d5_37 rfl ?_
  refine px_lastore S2 A_b1 g_b1 (i := 0) rfl (by decide) d5_38 rfl (fun T4 h4 S4 W4 A_b1 => ?_)
  replace X_t := X_t.wr W4
  replace F_lengths_t := F_lengths_t.other W4 (Or.inl ne_t_b1)
  replace F_codes_t := F_codes_t.other W4 (Or.inl ne_t_b1)
  replace A_s := A_s.other W4 ne_s_b1
  replace A_o := A_o.other W4 ne_o_b1
  replace A_l := A_l.other W4 ne_ln_b1
  replace A_b2 := A_b2.other W4 (Ne.symm ne_b1_b2)
  replace KK := KK.wr W4 (Or.inr sz_b1)
  refine px_iinc (v := (1 : Int32)) (r := (1 : Int32)) S4 d5_39 rfl rfl rfl (by decide) (L' := #[.val (.ref t), .val (.ref s), .val (.int (2 : Int32)), .val (.ref o), .val (.ref b1), .val (.ref b2), .val (.int (1 : Int32)), .unset, .unset, .unset, .unset, .unset]) rfl ?_
  refine px_goto S4 d5_42 (by decide) (pc' := 21) rfl ?_
  refine px_iload S4 d5_21 rfl rfl ?_
  refine px_iloadN S4 d5_23 rfl rfl ?_
  refine px_icmp S4 d5_24 (by decide) (pc' := 45) rfl rfl (fun (hc5 : (1 : Int32).toInt ≥ (2 : Int32).toInt) => by exfalso; revert hc5; decide) (fun (hc5 : (1 : Int32).toInt < (2 : Int32).toInt) => ?_)
  refine px_aload S4 d5_27 rfl rfl rfl ?_
  refine px_iload S4 d5_29 rfl rfl ?_
  refine px_aloadN S4 d5_31 rfl rfl rfl ?_
  refine px_aloadN S4 d5_32 rfl rfl rfl ?_
  refine px_iload S4 d5_33 rfl rfl ?_
  refine px_iaload (v := (g 1)) S4 A_s (i := 1) rfl (by decide) rfl d5_35 rfl ?_
  refine px_iaload (v := (fo Y)) S4 A_o (i := Y) e1 x1 rfl d5_36 rfl ?_
  refine px_i2l S4 d5_37 rfl ?_
  refine px_lastore S4 A_b1 g_b1 (i := 1) rfl (by decide) d5_38 rfl (fun T6 h6 S6 W6 A_b1 => ?_)
  replace X_t := X_t.wr W6
  replace F_lengths_t := F_lengths_t.other W6 (Or.inl ne_t_b1)
  replace F_codes_t := F_codes_t.other W6 (Or.inl ne_t_b1)
  replace A_s := A_s.other W6 ne_s_b1
  replace A_o := A_o.other W6 ne_o_b1
  replace A_l := A_l.other W6 ne_ln_b1
  replace A_b2 := A_b2.other W6 (Ne.symm ne_b1_b2)
  replace KK := KK.wr W6 (Or.inr sz_b1)
  refine px_iinc (v := (1 : Int32)) (r := (2 : Int32)) S6 d5_39 rfl rfl rfl (by decide) (L' := #[.val (.ref t), .val (.ref s), .val (.int (2 : Int32)), .val (.ref o), .val (.ref b1), .val (.ref b2), .val (.int (2 : Int32)), .unset, .unset, .unset, .unset, .unset]) rfl ?_
  refine px_goto S6 d5_42 (by decide) (pc' := 21) rfl ?_
  refine px_iload S6 d5_21 rfl rfl ?_
  refine px_iloadN S6 d5_23 rfl rfl ?_
  refine px_icmp S6 d5_24 (by decide) (pc' := 45) rfl rfl (fun (hc7 : (2 : Int32).toInt ≥ (2 : Int32).toInt) => ?_) (fun (hc7 : (2 : Int32).toInt < (2 : Int32).toInt) => by exfalso; revert hc7; decide)
  refine px_iconst (v := (0 : Int32)) S6 d5_45 rfl rfl ?_
  refine px_istore S6 d5_46 rfl (L' := #[.val (.ref t), .val (.ref s), .val (.int (2 : Int32)), .val (.ref o), .val (.ref b1), .val (.ref b2), .val (.int (0 : Int32)), .unset, .unset, .unset, .unset, .unset]) rfl ?_
  refine px_iloadN S6 d5_48 rfl rfl ?_
  refine px_istore S6 d5_49 rfl (L' := #[.val (.ref t), .val (.ref s), .val (.int (2 : Int32)), .val (.ref o), .val (.ref b1), .val (.ref b2), .val (.int (0 : Int32)), .val (.int (2 : Int32)), .unset, .unset, .unset, .unset]) rfl ?_
  refine px_iloadN S6 d5_51 rfl rfl ?_
  refine px_istore S6 d5_52 rfl (L' := #[.val (.ref t), .val (.ref s), .val (.int (2 : Int32)), .val (.ref o), .val (.ref b1), .val (.ref b2), .val (.int (0 : Int32)), .val (.int (2 : Int32)), .val (.int (2 : Int32)), .unset, .unset, .unset]) rfl ?_
  refine px_iload S6 d5_54 rfl rfl ?_
  refine px_iconst (v := (2 : Int32)) S6 d5_56 rfl rfl ?_
  refine px_iloadN S6 d5_57 rfl rfl ?_
  refine px_imul S6 d5_58 rfl ?_
  rw [show ((2 : Int32) * (2 : Int32)) = (4 : Int32) from by decide]
  refine px_iconst (v := (1 : Int32)) S6 d5_59 rfl rfl ?_
  refine px_isub S6 d5_60 rfl ?_
  rw [show ((4 : Int32) - (1 : Int32)) = (3 : Int32) from by decide]
  refine px_icmp S6 d5_61 (by decide) (pc' := 185) rfl rfl (fun (hc8 : (2 : Int32).toInt ≥ (3 : Int32).toInt) => by exfalso; revert hc8; decide) (fun (hc8 : (2 : Int32).toInt < (3 : Int32).toInt) => ?_)
  refine px_iconst (v := (2 : Int32)) S6 d5_64 rfl rfl ?_
  refine px_newarr (aty := .int) (cap := 2) S6 (hw _ (List.mem_of_getElem? (i := 0) rfl)) rfl (n := 2) rfl (by decide) (by decide) (by decide) (by decide) d5_65 rfl (fun T9 h9 b9 z9 g_b9 S9 E9 A_b9 => ?_)
  have ne_t_b9 : t ≠ b9 := ne_new z9 X_t.lt
  have ne_s_b9 : s ≠ b9 := ne_new z9 A_s.lt
  have ne_o_b9 : o ≠ b9 := ne_new z9 A_o.lt
  have ne_ln_b9 : ln ≠ b9 := ne_new z9 A_l.lt
  have ne_b1_b9 : b1 ≠ b9 := ne_new z9 A_b1.lt
  have ne_b2_b9 : b2 ≠ b9 := ne_new z9 A_b2.lt
  replace X_t := X_t.ext E9
  replace F_lengths_t := F_lengths_t.ext E9
  replace F_codes_t := F_codes_t.ext E9
  replace A_s := A_s.ext E9
  replace A_o := A_o.ext E9
  replace A_l := A_l.ext E9
  replace A_b1 := A_b1.ext E9
  replace A_b2 := A_b2.ext E9
  have sz_b9 : h0.size ≤ b9 := by rw [z9]; exact KK.1
  replace KK := KK.ext E9
  refine px_astore S9 d5_67 rfl rfl (L' := #[.val (.ref t), .val (.ref s), .val (.int (2 : Int32)), .val (.ref o), .val (.ref b1), .val (.ref b2), .val (.int (0 : Int32)), .val (.int (2 : Int32)), .val (.int (2 : Int32)), .val (.ref b9), .unset, .unset]) rfl ?_
  refine px_iconst (v := (0 : Int32)) S9 d5_69 rfl rfl ?_
  refine px_istore S9 d5_70 rfl (L' := #[.val (.ref t), .val (.ref s), .val (.int (2 : Int32)), .val (.ref o), .val (.ref b1), .val (.ref b2), .val (.int (0 : Int32)), .val (.int (2 : Int32)), .val (.int (2 : Int32)), .val (.ref b9), .val (.int (0 : Int32)), .unset]) rfl ?_
  refine px_iload S9 d5_72 rfl rfl ?_
  refine px_iconst (v := (2 : Int32)) S9 d5_74 rfl rfl ?_
  refine px_icmp S9 d5_75 (by decide) (pc' := 141) rfl rfl (fun (hc10 : (0 : Int32).toInt ≥ (2 : Int32).toInt) => by exfalso; revert hc10; decide) (fun (hc10 : (0 : Int32).toInt < (2 : Int32).toInt) => ?_)
  refine px_iload S9 d5_78 rfl rfl ?_
  refine px_iloadN S9 d5_80 rfl rfl ?_
  refine px_icmp S9 d5_81 (by decide) (pc' := 109) rfl rfl (fun (hc11 : (0 : Int32).toInt ≥ (2 : Int32).toInt) => by exfalso; revert hc11; decide) (fun (hc11 : (0 : Int32).toInt < (2 : Int32).toInt) => ?_)
  refine px_iload S9 d5_84 rfl rfl ?_
  refine px_iload S9 d5_86 rfl rfl ?_
  refine px_icmp S9 d5_88 (by decide) (pc' := 105) rfl rfl (fun (hc12 : (2 : Int32).toInt ≥ (2 : Int32).toInt) => ?_) (fun (hc12 : (2 : Int32).toInt < (2 : Int32).toInt) => by exfalso; revert hc12; decide)
  refine px_iconst (v := (1 : Int32)) S9 d5_105 rfl rfl ?_
  refine px_goto S9 d5_106 (by decide) (pc' := 110) rfl ?_
  refine px_istore S9 d5_110 rfl (L' := #[.val (.ref t), .val (.ref s), .val (.int (2 : Int32)), .val (.ref o), .val (.ref b1), .val (.ref b2), .val (.int (0 : Int32)), .val (.int (2 : Int32)), .val (.int (2 : Int32)), .val (.ref b9), .val (.int (0 : Int32)), .val (.int (1 : Int32))]) rfl ?_
  refine px_aload S9 d5_112 rfl rfl rfl ?_
  refine px_iload S9 d5_114 rfl rfl ?_
  refine px_iload S9 d5_116 rfl rfl ?_
  refine px_if0 S9 d5_118 (by decide) (pc' := 129) rfl rfl (fun (hc13 : (1 : Int32).toInt = 0) => by exfalso; revert hc13; decide) (fun (hc13 : ¬ (1 : Int32).toInt = 0) => ?_)
  refine px_iload S9 d5_121 rfl rfl ?_
  refine px_iinc (v := (1 : Int32)) (r := (1 : Int32)) S9 d5_123 rfl rfl rfl (by decide) (L' := #[.val (.ref t), .val (.ref s), .val (.int (2 : Int32)), .val (.ref o), .val (.ref b1), .val (.ref b2), .val (.int (1 : Int32)), .val (.int (2 : Int32)), .val (.int (2 : Int32)), .val (.ref b9), .val (.int (0 : Int32)), .val (.int (1 : Int32))]) rfl ?_
  refine px_goto S9 d5_126 (by decide) (pc' := 134) rfl ?_
  refine px_iastore (v := (0 : Int32)) S9 A_b9 g_b9 (i := 0) rfl (by decide) rfl d5_134 rfl (fun T14 h14 S14 W14 A_b9 => ?_)
  replace X_t := X_t.wr W14
  replace F_lengths_t := F_lengths_t.other W14 (Or.inl ne_t_b9)
  replace F_codes_t := F_codes_t.other W14 (Or.inl ne_t_b9)
  replace A_s := A_s.other W14 ne_s_b9
  replace A_o := A_o.other W14 ne_o_b9
  replace A_l := A_l.other W14 ne_ln_b9
  replace A_b1 := A_b1.other W14 ne_b1_b9
  replace A_b2 := A_b2.other W14 ne_b2_b9
  replace KK := KK.wr W14 (Or.inr sz_b9)
  refine px_iinc (v := (1 : Int32)) (r := (1 : Int32)) S14 d5_135 rfl rfl rfl (by decide) (L' := #[.val (.ref t), .val (.ref s), .val (.int (2 : Int32)), .val (.ref o), .val (.ref b1), .val (.ref b2), .val (.int (1 : Int32)), .val (.int (2 : Int32)), .val (.int (2 : Int32)), .val (.ref b9), .val (.int (1 : Int32)), .val (.int (1 : Int32))]) rfl ?_
  refine px_goto S14 d5_138 (by decide) (pc' := 72) rfl ?_
  refine px_iload S14 d5_72 rfl rfl ?_
  refine px_iconst (v := (2 : Int32)) S14 d5_74 rfl rfl ?_
  refine px_icmp S14 d5_75 (by decide) (pc' := 141) rfl rfl (fun (hc15 : (1 : Int32).toInt ≥ (2 : Int32).toInt) => by exfalso; revert hc15; decide) (fun (hc15 : (1 : Int32).toInt < (2 : Int32).toInt) => ?_)
  refine px_iload S14 d5_78 rfl rfl ?_
  refine px_iloadN S14 d5_80 rfl rfl ?_
  refine px_icmp S14 d5_81 (by decide) (pc' := 109) rfl rfl (fun (hc16 : (1 : Int32).toInt ≥ (2 : Int32).toInt) => by exfalso; revert hc16; decide) (fun (hc16 : (1 : Int32).toInt < (2 : Int32).toInt) => ?_)
  refine px_iload S14 d5_84 rfl rfl ?_
  refine px_iload S14 d5_86 rfl rfl ?_
  refine px_icmp S14 d5_88 (by decide) (pc' := 105) rfl rfl (fun (hc17 : (2 : Int32).toInt ≥ (2 : Int32).toInt) => ?_) (fun (hc17 : (2 : Int32).toInt < (2 : Int32).toInt) => by exfalso; revert hc17; decide)
  refine px_iconst (v := (1 : Int32)) S14 d5_105 rfl rfl ?_
  refine px_goto S14 d5_106 (by decide) (pc' := 110) rfl ?_
  refine px_istore S14 d5_110 rfl (L' := #[.val (.ref t), .val (.ref s), .val (.int (2 : Int32)), .val (.ref o), .val (.ref b1), .val (.ref b2), .val (.int (1 : Int32)), .val (.int (2 : Int32)), .val (.int (2 : Int32)), .val (.ref b9), .val (.int (1 : Int32)), .val (.int (1 : Int32))]) rfl ?_
  refine px_aload S14 d5_112 rfl rfl rfl ?_
  refine px_iload S14 d5_114 rfl rfl ?_
  refine px_iload S14 d5_116 rfl rfl ?_
  refine px_if0 S14 d5_118 (by decide) (pc' := 129) rfl rfl (fun (hc18 : (1 : Int32).toInt = 0) => by exfalso; revert hc18; decide) (fun (hc18 : ¬ (1 : Int32).toInt = 0) => ?_)
  refine px_iload S14 d5_121 rfl rfl ?_
  refine px_iinc (v := (1 : Int32)) (r := (2 : Int32)) S14 d5_123 rfl rfl rfl (by decide) (L' := #[.val (.ref t), .val (.ref s), .val (.int (2 : Int32)), .val (.ref o), .val (.ref b1), .val (.ref b2), .val (.int (2 : Int32)), .val (.int (2 : Int32)), .val (.int (2 : Int32)), .val (.ref b9), .val (.int (1 : Int32)), .val (.int (1 : Int32))]) rfl ?_
  refine px_goto S14 d5_126 (by decide) (pc' := 134) rfl ?_
  refine px_iastore (v := (1 : Int32)) S14 A_b9 g_b9 (i := 1) rfl (by decide) rfl d5_134 rfl (fun T19 h19 S19 W19 A_b9 => ?_)
  replace X_t := X_t.wr W19
  replace F_lengths_t := F_lengths_t.other W19 (Or.inl ne_t_b9)
  replace F_codes_t := F_codes_t.other W19 (Or.inl ne_t_b9)
  replace A_s := A_s.other W19 ne_s_b9
  replace A_o := A_o.other W19 ne_o_b9
  replace A_l := A_l.other W19 ne_ln_b9
  replace A_b1 := A_b1.other W19 ne_b1_b9
  replace A_b2 := A_b2.other W19 ne_b2_b9
  replace KK := KK.wr W19 (Or.inr sz_b9)
  refine px_iinc (v := (1 : Int32)) (r := (2 : Int32)) S19 d5_135 rfl rfl rfl (by decide) (L' := #[.val (.ref t), .val (.ref s), .val (.int (2 : Int32)), .val (.ref o), .val (.ref b1), .val (.ref b2), .val (.int (2 : Int32)), .val (.int (2 : Int32)), .val (.int (2 : Int32)), .val (.ref b9), .val (.int (2 : Int32)), .val (.int (1 : Int32))]) rfl ?_
  refine px_goto S19 d5_138 (by decide) (pc' := 72) rfl ?_
  refine px_iload S19 d5_72 rfl rfl ?_
  refine px_iconst (v := (2 : Int32)) S19 d5_74 rfl rfl ?_
  refine px_icmp S19 d5_75 (by decide) (pc' := 141) rfl rfl (fun (hc20 : (2 : Int32).toInt ≥ (2 : Int32).toInt) => ?_) (fun (hc20 : (2 : Int32).toInt < (2 : Int32).toInt) => by exfalso; revert hc20; decide)
  refine px_aload S19 d5_141 rfl rfl rfl ?_
  refine px_iload S19 d5_143 rfl rfl ?_
  refine px_aload S19 d5_145 rfl rfl rfl ?_
  refine px_aload S19 d5_147 rfl rfl rfl ?_
  refine px_iconst (v := (0 : Int32)) S19 d5_149 rfl rfl ?_
  refine px_iaload (v := (0 : Int32)) S19 A_b9 (i := 0) rfl (by decide) rfl d5_150 rfl ?_
  refine px_laload (v := (fo X).toInt64) S19 A_b1 (i := 0) rfl (by decide) rfl d5_151 rfl ?_
  refine px_aload S19 d5_152 rfl rfl rfl ?_
  refine px_aload S19 d5_154 rfl rfl rfl ?_
  refine px_iconst (v := (1 : Int32)) S19 d5_156 rfl rfl ?_
  refine px_iaload (v := (1 : Int32)) S19 A_b9 (i := 1) rfl (by decide) rfl d5_157 rfl ?_
  refine px_laload (v := (fo Y).toInt64) S19 A_b1 (i := 1) rfl (by decide) rfl d5_158 rfl ?_
  refine px_ladd S19 d5_159 rfl ?_
  refine px_lastore S19 A_b1 g_b1 (i := 2) rfl (by decide) d5_160 rfl (fun T21 h21 S21 W21 A_b1 => ?_)
  replace X_t := X_t.wr W21
  replace F_lengths_t := F_lengths_t.other W21 (Or.inl ne_t_b1)
  replace F_codes_t := F_codes_t.other W21 (Or.inl ne_t_b1)
  replace A_s := A_s.other W21 ne_s_b1
  replace A_o := A_o.other W21 ne_o_b1
  replace A_l := A_l.other W21 ne_ln_b1
  replace A_b2 := A_b2.other W21 (Ne.symm ne_b1_b2)
  replace A_b9 := A_b9.other W21 (Ne.symm ne_b1_b9)
  replace KK := KK.wr W21 (Or.inr sz_b1)
  refine px_aload S21 d5_161 rfl rfl rfl ?_
  refine px_aload S21 d5_163 rfl rfl rfl ?_
  refine px_iconst (v := (0 : Int32)) S21 d5_165 rfl rfl ?_
  refine px_iaload (v := (0 : Int32)) S21 A_b9 (i := 0) rfl (by decide) rfl d5_166 rfl ?_
  refine px_iload S21 d5_167 rfl rfl ?_
  refine px_iastore (v := (2 : Int32)) S21 A_b2 g_b2 (i := 0) rfl (by decide) rfl d5_169 rfl (fun T22 h22 S22 W22 A_b2 => ?_)
  replace X_t := X_t.wr W22
  replace F_lengths_t := F_lengths_t.other W22 (Or.inl ne_t_b2)
  replace F_codes_t := F_codes_t.other W22 (Or.inl ne_t_b2)
  replace A_s := A_s.other W22 ne_s_b2
  replace A_o := A_o.other W22 ne_o_b2
  replace A_l := A_l.other W22 ne_ln_b2
  replace A_b1 := A_b1.other W22 ne_b1_b2
  replace A_b9 := A_b9.other W22 (Ne.symm ne_b2_b9)
  replace KK := KK.wr W22 (Or.inr sz_b2)
  refine px_aload S22 d5_170 rfl rfl rfl ?_
  refine px_aload S22 d5_172 rfl rfl rfl ?_
  refine px_iconst (v := (1 : Int32)) S22 d5_174 rfl rfl ?_
  refine px_iaload (v := (1 : Int32)) S22 A_b9 (i := 1) rfl (by decide) rfl d5_175 rfl ?_
  refine px_iload S22 d5_176 rfl rfl ?_
  refine px_iastore (v := (2 : Int32)) S22 A_b2 g_b2 (i := 1) rfl (by decide) rfl d5_178 rfl (fun T23 h23 S23 W23 A_b2 => ?_)
  replace X_t := X_t.wr W23
  replace F_lengths_t := F_lengths_t.other W23 (Or.inl ne_t_b2)
  replace F_codes_t := F_codes_t.other W23 (Or.inl ne_t_b2)
  replace A_s := A_s.other W23 ne_s_b2
  replace A_o := A_o.other W23 ne_o_b2
  replace A_l := A_l.other W23 ne_ln_b2
  replace A_b1 := A_b1.other W23 ne_b1_b2
  replace A_b9 := A_b9.other W23 (Ne.symm ne_b2_b9)
  replace KK := KK.wr W23 (Or.inr sz_b2)
  refine px_iinc (v := (1 : Int32)) (r := (3 : Int32)) S23 d5_179 rfl rfl rfl (by decide) (L' := #[.val (.ref t), .val (.ref s), .val (.int (2 : Int32)), .val (.ref o), .val (.ref b1), .val (.ref b2), .val (.int (2 : Int32)), .val (.int (2 : Int32)), .val (.int (3 : Int32)), .val (.ref b9), .val (.int (2 : Int32)), .val (.int (1 : Int32))]) rfl ?_
  refine px_goto S23 d5_182 (by decide) (pc' := 54) rfl ?_
  refine px_iload S23 d5_54 rfl rfl ?_
  refine px_iconst (v := (2 : Int32)) S23 d5_56 rfl rfl ?_
  refine px_iloadN S23 d5_57 rfl rfl ?_
  refine px_imul S23 d5_58 rfl ?_
  rw [show ((2 : Int32) * (2 : Int32)) = (4 : Int32) from by decide]
  refine px_iconst (v := (1 : Int32)) S23 d5_59 rfl rfl ?_
  refine px_isub S23 d5_60 rfl ?_
  rw [show ((4 : Int32) - (1 : Int32)) = (3 : Int32) from by decide]
  refine px_icmp S23 d5_61 (by decide) (pc' := 185) rfl rfl (fun (hc24 : (3 : Int32).toInt ≥ (3 : Int32).toInt) => ?_) (fun (hc24 : (3 : Int32).toInt < (3 : Int32).toInt) => by exfalso; revert hc24; decide)
  refine px_iconst (v := (2 : Int32)) S23 d5_185 rfl rfl ?_
  refine px_iloadN S23 d5_186 rfl rfl ?_
  refine px_imul S23 d5_187 rfl ?_
  rw [show ((2 : Int32) * (2 : Int32)) = (4 : Int32) from by decide]
  refine px_iconst (v := (1 : Int32)) S23 d5_188 rfl rfl ?_
  refine px_isub S23 d5_189 rfl ?_
  rw [show ((4 : Int32) - (1 : Int32)) = (3 : Int32) from by decide]
  refine px_newarr (aty := .int) (cap := 3) S23 (hw _ (List.mem_of_getElem? (i := 0) rfl)) rfl (n := 3) rfl (by decide) (by decide) (by decide) (by decide) d5_190 rfl (fun T25 h25 b25 z25 g_b25 S25 E25 A_b25 => ?_)
  have ne_t_b25 : t ≠ b25 := ne_new z25 X_t.lt
  have ne_s_b25 : s ≠ b25 := ne_new z25 A_s.lt
  have ne_o_b25 : o ≠ b25 := ne_new z25 A_o.lt
  have ne_ln_b25 : ln ≠ b25 := ne_new z25 A_l.lt
  have ne_b1_b25 : b1 ≠ b25 := ne_new z25 A_b1.lt
  have ne_b2_b25 : b2 ≠ b25 := ne_new z25 A_b2.lt
  have ne_b9_b25 : b9 ≠ b25 := ne_new z25 A_b9.lt
  replace X_t := X_t.ext E25
  replace F_lengths_t := F_lengths_t.ext E25
  replace F_codes_t := F_codes_t.ext E25
  replace A_s := A_s.ext E25
  replace A_o := A_o.ext E25
  replace A_l := A_l.ext E25
  replace A_b1 := A_b1.ext E25
  replace A_b2 := A_b2.ext E25
  replace A_b9 := A_b9.ext E25
  have sz_b25 : h0.size ≤ b25 := by rw [z25]; exact KK.1
  replace KK := KK.ext E25
  refine px_astore S25 d5_192 rfl rfl (L' := #[.val (.ref t), .val (.ref s), .val (.int (2 : Int32)), .val (.ref o), .val (.ref b1), .val (.ref b2), .val (.int (2 : Int32)), .val (.int (2 : Int32)), .val (.ref b25), .val (.ref b9), .val (.int (2 : Int32)), .val (.int (1 : Int32))]) rfl ?_
  refine px_iconst (v := (2 : Int32)) S25 d5_194 rfl rfl ?_
  refine px_iloadN S25 d5_195 rfl rfl ?_
  refine px_imul S25 d5_196 rfl ?_
  rw [show ((2 : Int32) * (2 : Int32)) = (4 : Int32) from by decide]
  refine px_iconst (v := (3 : Int32)) S25 d5_197 rfl rfl ?_
  refine px_isub S25 d5_198 rfl ?_
  rw [show ((4 : Int32) - (3 : Int32)) = (1 : Int32) from by decide]
  refine px_istore S25 d5_199 rfl (L' := #[.val (.ref t), .val (.ref s), .val (.int (2 : Int32)), .val (.ref o), .val (.ref b1), .val (.ref b2), .val (.int (2 : Int32)), .val (.int (2 : Int32)), .val (.ref b25), .val (.int (1 : Int32)), .val (.int (2 : Int32)), .val (.int (1 : Int32))]) rfl ?_
  refine px_iload S25 d5_201 rfl rfl ?_
  refine px_if0 S25 d5_203 (by decide) (pc' := 227) rfl rfl (fun (hc26 : (1 : Int32).toInt < 0) => by exfalso; revert hc26; decide) (fun (hc26 : (1 : Int32).toInt ≥ 0) => ?_)
  refine px_aload S25 d5_206 rfl rfl rfl ?_
  refine px_iload S25 d5_208 rfl rfl ?_
  refine px_aload S25 d5_210 rfl rfl rfl ?_
  refine px_aload S25 d5_212 rfl rfl rfl ?_
  refine px_iload S25 d5_214 rfl rfl ?_
  refine px_iaload (v := (2 : Int32)) S25 A_b2 (i := 1) rfl (by decide) rfl d5_216 rfl ?_
  refine px_iaload (v := (0 : Int32)) S25 A_b25 (i := 2) rfl (by decide) rfl d5_217 rfl ?_
  refine px_iconst (v := (1 : Int32)) S25 d5_218 rfl rfl ?_
  refine px_iadd S25 d5_219 rfl ?_
  rw [show ((0 : Int32) + (1 : Int32)) = (1 : Int32) from by decide]
  refine px_iastore (v := (1 : Int32)) S25 A_b25 g_b25 (i := 1) rfl (by decide) rfl d5_220 rfl (fun T27 h27 S27 W27 A_b25 => ?_)
  replace X_t := X_t.wr W27
  replace F_lengths_t := F_lengths_t.other W27 (Or.inl ne_t_b25)
  replace F_codes_t := F_codes_t.other W27 (Or.inl ne_t_b25)
  replace A_s := A_s.other W27 ne_s_b25
  replace A_o := A_o.other W27 ne_o_b25
  replace A_l := A_l.other W27 ne_ln_b25
  replace A_b1 := A_b1.other W27 ne_b1_b25
  replace A_b2 := A_b2.other W27 ne_b2_b25
  replace A_b9 := A_b9.other W27 ne_b9_b25
  replace KK := KK.wr W27 (Or.inr sz_b25)
  refine px_iinc (v := (-1 : Int32)) (r := (0 : Int32)) S27 d5_221 rfl rfl rfl (by decide) (L' := #[.val (.ref t), .val (.ref s), .val (.int (2 : Int32)), .val (.ref o), .val (.ref b1), .val (.ref b2), .val (.int (2 : Int32)), .val (.int (2 : Int32)), .val (.ref b25), .val (.int (0 : Int32)), .val (.int (2 : Int32)), .val (.int (1 : Int32))]) rfl ?_
  refine px_goto S27 d5_224 (by decide) (pc' := 201) rfl ?_
  refine px_iload S27 d5_201 rfl rfl ?_
  refine px_if0 S27 d5_203 (by decide) (pc' := 227) rfl rfl (fun (hc28 : (0 : Int32).toInt < 0) => by exfalso; revert hc28; decide) (fun (hc28 : (0 : Int32).toInt ≥ 0) => ?_)
  refine px_aload S27 d5_206 rfl rfl rfl ?_
  refine px_iload S27 d5_208 rfl rfl ?_
  refine px_aload S27 d5_210 rfl rfl rfl ?_
  refine px_aload S27 d5_212 rfl rfl rfl ?_
  refine px_iload S27 d5_214 rfl rfl ?_
  refine px_iaload (v := (2 : Int32)) S27 A_b2 (i := 0) rfl (by decide) rfl d5_216 rfl ?_
  refine px_iaload (v := (0 : Int32)) S27 A_b25 (i := 2) rfl (by decide) rfl d5_217 rfl ?_
  refine px_iconst (v := (1 : Int32)) S27 d5_218 rfl rfl ?_
  refine px_iadd S27 d5_219 rfl ?_
  rw [show ((0 : Int32) + (1 : Int32)) = (1 : Int32) from by decide]
  refine px_iastore (v := (1 : Int32)) S27 A_b25 g_b25 (i := 0) rfl (by decide) rfl d5_220 rfl (fun T29 h29 S29 W29 A_b25 => ?_)
  replace X_t := X_t.wr W29
  replace F_lengths_t := F_lengths_t.other W29 (Or.inl ne_t_b25)
  replace F_codes_t := F_codes_t.other W29 (Or.inl ne_t_b25)
  replace A_s := A_s.other W29 ne_s_b25
  replace A_o := A_o.other W29 ne_o_b25
  replace A_l := A_l.other W29 ne_ln_b25
  replace A_b1 := A_b1.other W29 ne_b1_b25
  replace A_b2 := A_b2.other W29 ne_b2_b25
  replace A_b9 := A_b9.other W29 ne_b9_b25
  replace KK := KK.wr W29 (Or.inr sz_b25)
  refine px_iinc (v := (-1 : Int32)) (r := (-1 : Int32)) S29 d5_221 rfl rfl rfl (by decide) (L' := #[.val (.ref t), .val (.ref s), .val (.int (2 : Int32)), .val (.ref o), .val (.ref b1), .val (.ref b2), .val (.int (2 : Int32)), .val (.int (2 : Int32)), .val (.ref b25), .val (.int (-1 : Int32)), .val (.int (2 : Int32)), .val (.int (1 : Int32))]) rfl ?_
  refine px_goto S29 d5_224 (by decide) (pc' := 201) rfl ?_
  refine px_iload S29 d5_201 rfl rfl ?_
  refine px_if0 S29 d5_203 (by decide) (pc' := 227) rfl rfl (fun (hc30 : (-1 : Int32).toInt < 0) => ?_) (fun (hc30 : (-1 : Int32).toInt ≥ 0) => by exfalso; revert hc30; decide)
  refine px_iconst (v := (0 : Int32)) S29 d5_227 rfl rfl ?_
  refine px_istore S29 d5_228 rfl (L' := #[.val (.ref t), .val (.ref s), .val (.int (2 : Int32)), .val (.ref o), .val (.ref b1), .val (.ref b2), .val (.int (2 : Int32)), .val (.int (2 : Int32)), .val (.ref b25), .val (.int (0 : Int32)), .val (.int (2 : Int32)), .val (.int (1 : Int32))]) rfl ?_
  refine px_iload S29 d5_230 rfl rfl ?_
  refine px_iloadN S29 d5_232 rfl rfl ?_
  refine px_icmp S29 d5_233 (by decide) (pc' := 256) rfl rfl (fun (hc31 : (0 : Int32).toInt ≥ (2 : Int32).toInt) => by exfalso; revert hc31; decide) (fun (hc31 : (0 : Int32).toInt < (2 : Int32).toInt) => ?_)
  refine px_aloadN S29 d5_236 rfl rfl rfl ?_
  refine px_getfield S29 (hw _ (List.mem_of_getElem? (i := 10) rfl)) F_lengths_t d5_237 rfl (fun T32 S32 => ?_)
  refine px_aloadN S32 d5_240 rfl rfl rfl ?_
  refine px_iload S32 d5_241 rfl rfl ?_
  refine px_iaload (v := (g 0)) S32 A_s (i := 0) rfl (by decide) rfl d5_243 rfl ?_
  refine px_aload S32 d5_244 rfl rfl rfl ?_
  refine px_iload S32 d5_246 rfl rfl ?_
  refine px_iaload (v := (1 : Int32)) S32 A_b25 (i := 0) rfl (by decide) rfl d5_248 rfl ?_
  refine px_iastore (v := (1 : Int32)) S32 A_l g_l (i := X) e0 x0 rfl d5_249 rfl (fun T33 h33 S33 W33 A_l => ?_)
  replace X_t := X_t.wr W33
  replace F_lengths_t := F_lengths_t.other W33 (Or.inl n_tl)
  replace F_codes_t := F_codes_t.other W33 (Or.inl n_tl)
  replace A_s := A_s.other W33 n_sl
  replace A_o := A_o.other W33 n_ol
  replace A_b1 := A_b1.other W33 (Ne.symm ne_ln_b1)
  replace A_b2 := A_b2.other W33 (Ne.symm ne_ln_b2)
  replace A_b9 := A_b9.other W33 (Ne.symm ne_ln_b9)
  replace A_b25 := A_b25.other W33 (Ne.symm ne_ln_b25)
  replace KK := KK.wr W33 (Or.inl (by simp))
  refine px_iinc (v := (1 : Int32)) (r := (1 : Int32)) S33 d5_250 rfl rfl rfl (by decide) (L' := #[.val (.ref t), .val (.ref s), .val (.int (2 : Int32)), .val (.ref o), .val (.ref b1), .val (.ref b2), .val (.int (2 : Int32)), .val (.int (2 : Int32)), .val (.ref b25), .val (.int (1 : Int32)), .val (.int (2 : Int32)), .val (.int (1 : Int32))]) rfl ?_
  refine px_goto S33 d5_253 (by decide) (pc' := 230) rfl ?_
  refine px_iload S33 d5_230 rfl rfl ?_
  refine px_iloadN S33 d5_232 rfl rfl ?_
  refine px_icmp S33 d5_233 (by decide) (pc' := 256) rfl rfl (fun (hc34 : (1 : Int32).toInt ≥ (2 : Int32).toInt) => by exfalso; revert hc34; decide) (fun (hc34 : (1 : Int32).toInt < (2 : Int32).toInt) => ?_)
  refine px_aloadN S33 d5_236 rfl rfl rfl ?_
  refine px_getfield S33 (hw _ (List.mem_of_getElem? (i := 10) rfl)) F_lengths_t d5_237 rfl (fun T35 S35 => ?_)
  refine px_aloadN S35 d5_240 rfl rfl rfl ?_
  refine px_iload S35 d5_241 rfl rfl ?_
  refine px_iaload (v := (g 1)) S35 A_s (i := 1) rfl (by decide) rfl d5_243 rfl ?_
  refine px_aload S35 d5_244 rfl rfl rfl ?_
  refine px_iload S35 d5_246 rfl rfl ?_
  refine px_iaload (v := (1 : Int32)) S35 A_b25 (i := 1) rfl (by decide) rfl d5_248 rfl ?_
  refine px_iastore (v := (1 : Int32)) S35 A_l g_l (i := Y) e1 x1 rfl d5_249 rfl (fun T36 h36 S36 W36 A_l => ?_)
  replace X_t := X_t.wr W36
  replace F_lengths_t := F_lengths_t.other W36 (Or.inl n_tl)
  replace F_codes_t := F_codes_t.other W36 (Or.inl n_tl)
  replace A_s := A_s.other W36 n_sl
  replace A_o := A_o.other W36 n_ol
  replace A_b1 := A_b1.other W36 (Ne.symm ne_ln_b1)
  replace A_b2 := A_b2.other W36 (Ne.symm ne_ln_b2)
  replace A_b9 := A_b9.other W36 (Ne.symm ne_ln_b9)
  replace A_b25 := A_b25.other W36 (Ne.symm ne_ln_b25)
  replace KK := KK.wr W36 (Or.inl (by simp))
  refine px_iinc (v := (1 : Int32)) (r := (2 : Int32)) S36 d5_250 rfl rfl rfl (by decide) (L' := #[.val (.ref t), .val (.ref s), .val (.int (2 : Int32)), .val (.ref o), .val (.ref b1), .val (.ref b2), .val (.int (2 : Int32)), .val (.int (2 : Int32)), .val (.ref b25), .val (.int (2 : Int32)), .val (.int (2 : Int32)), .val (.int (1 : Int32))]) rfl ?_
  refine px_goto S36 d5_253 (by decide) (pc' := 230) rfl ?_
  refine px_iload S36 d5_230 rfl rfl ?_
  refine px_iloadN S36 d5_232 rfl rfl ?_
  refine px_icmp S36 d5_233 (by decide) (pc' := 256) rfl rfl (fun (hc37 : (2 : Int32).toInt ≥ (2 : Int32).toInt) => ?_) (fun (hc37 : (2 : Int32).toInt < (2 : Int32).toInt) => by exfalso; revert hc37; decide)
  exact px_return S36 d5_256 rfl (by decide) (by decide) (⟨rfl, KK, A_l⟩)
theorem d5_91 : decode prog_46_method_10_code 91 = .ok (.aload 4, 2) := by decide +kernel
theorem d5_93 : decode prog_46_method_10_code 93 = .ok (.iload 6, 2) := by decide +kernel
theorem d5_95 : decode prog_46_method_10_code 95 = .ok (.laload, 1) := by decide +kernel
theorem d5_96 : decode prog_46_method_10_code 96 = .ok (.aload 4, 2) := by decide +kernel
theorem d5_98 : decode prog_46_method_10_code 98 = .ok (.iload 7, 2) := by decide +kernel
theorem d5_100 : decode prog_46_method_10_code 100 = .ok (.laload, 1) := by decide +kernel
theorem d5_101 : decode prog_46_method_10_code 101 = .ok (.lcmp, 1) := by decide +kernel
theorem d5_102 : decode prog_46_method_10_code 102 = .ok (.ifCond .gt 7, 3) := by decide +kernel
theorem d5_109 : decode prog_46_method_10_code 109 = .ok (.iconst 0, 1) := by decide +kernel
theorem d5_129 : decode prog_46_method_10_code 129 = .ok (.iload 7, 2) := by decide +kernel
theorem d5_131 : decode prog_46_method_10_code 131 = .ok (.iinc 7 1, 3) := by decide +kernel
set_option maxRecDepth 65536 in
set_option maxHeartbeats 40000000 in
theorem c_huff3 {Z : State} {a0 : Array Value} (hw : ∀ d ∈ tables_1, d.before a0 Z = true) {t s o ln cd : Addr} {X Y W : Nat} {g fo fl : Nat → Int32} {h0 : Heap} {n0 : Nat} (Z0 : n0 ≤ h0.size) (X_t : Exa Z h0 t "com/example/colonnade/colonnade/compress/HuffmanEncoder") (F_lengths_t : Fld Z h0 t "com/example/colonnade/colonnade/compress/HuffmanEncoder" "lengths" "[I" (.ref ln)) (F_codes_t : Fld Z h0 t "com/example/colonnade/colonnade/compress/HuffmanEncoder" "codes" "[I" (.ref cd)) (A_s : AI Z h0 s .int 256 g) (A_o : AI Z h0 o .int 256 fo) (A_l : AI Z h0 ln .int 256 fl) (g_l : n0 ≤ ln) (n_tl : t ≠ ln) (n_sl : s ≠ ln) (n_ol : o ≠ ln) (e0 : (g 0).toInt = (X : Int)) (e1 : (g 1).toInt = (Y : Int)) (e2 : (g 2).toInt = (W : Int)) (x0 : X < 256) (x1 : Y < 256) (x2 : W < 256) :
    Ctr Z n0 (⟨"com/example/colonnade/colonnade/compress/HuffmanEncoder", "huffmanLengths", "([II[I)V"⟩ : MethodName) prog_46_method_10_code 12 none ({ frames := 0, cells := 5, slots := 19, locals := 0 } : Room) [(.ref t), (.ref s), (.int (3 : Int32)), (.ref o)] h0 (fun v h => v = none ∧ Keep h0 h [ln] ∧ AI Z h ln .int 256 (updF (updF (updF fl X (2 : Int32)) Y (2 : Int32)) W (1 : Int32))) := by
  refine Ctr.of (L := #[.val (.ref t), .val (.ref s), .val (.int (3 : Int32)), .val (.ref o), .unset, .unset, .unset, .unset, .unset, .unset, .unset, .unset]) pn_5 Z0 (fun m => by first | (simp [entryFrame, mkF, argsToLocals, Value.category]; done) | rfl) ?_
  intro K T S0
  have KK := Keep.refl h0 [ln]
  refine px_iconst (v := (2 : Int32)) S0 d5_0 rfl rfl ?_
  refine px_iloadN S0 d5_1 rfl rfl ?_
  refine px_imul S0 d5_2 rfl ?_
  rw [show ((2 : Int32) * (3 : Int32)) = (6 : Int32) from by decide]
  refine px_iconst (v := (1 : Int32)) S0 d5_3 rfl rfl ?_
  refine px_isub S0 d5_4 rfl ?_
  rw [show ((6 : Int32) - (1 : Int32)) = (5 : Int32) from by decide]
  refine px_newarrJ (cap := 5) S0 (hw _ (List.mem_of_getElem? (i := 26) rfl)) (n := 5) rfl (by decide) (by decide) (by decide) (by decide) d5_5 rfl (fun T1 h1 b1 z1 g_b1 S1 E1 A_b1 => ?_)
  have ne_t_b1 : t ≠ b1 := ne_new z1 X_t.lt
  have ne_s_b1 : s ≠ b1 := ne_new z1 A_s.lt
  have ne_o_b1 : o ≠ b1 := ne_new z1 A_o.lt
  have ne_ln_b1 : ln ≠ b1 := ne_new z1 A_l.lt
  replace X_t := X_t.ext E1
  replace F_lengths_t := F_lengths_t.ext E1
  replace F_codes_t := F_codes_t.ext E1
  replace A_s := A_s.ext E1
  replace A_o := A_o.ext E1
  replace A_l := A_l.ext E1
  have sz_b1 : h0.size ≤ b1 := by rw [z1]; exact KK.1
  replace KK := KK.ext E1
  refine px_astore S1 d5_7 rfl rfl (L' := #[.val (.ref t), .val (.ref s), .val (.int (3 : Int32)), .val (.ref o), .val (.ref b1), .unset, .unset, .unset, .unset, .unset, .unset, .unset]) rfl ?_
  refine px_iconst (v := (2 : Int32)) S1 d5_9 rfl rfl ?_
  refine px_iloadN S1 d5_10 rfl rfl ?_
  refine px_imul S1 d5_11 rfl ?_
  rw [show ((2 : Int32) * (3 : Int32)) = (6 : Int32) from by decide]
  refine px_iconst (v := (1 : Int32)) S1 d5_12 rfl rfl ?_
  refine px_isub S1 d5_13 rfl ?_
  rw [show ((6 : Int32) - (1 : Int32)) = (5 : Int32) from by decide]
  refine px_newarr (aty := .int) (cap := 5) S1 (hw _ (List.mem_of_getElem? (i := 0) rfl)) rfl (n := 5) rfl (by decide) (by decide) (by decide) (by decide) d5_14 rfl (fun T2 h2 b2 z2 g_b2 S2 E2 A_b2 => ?_)
  have ne_t_b2 : t ≠ b2 := ne_new z2 X_t.lt
  have ne_s_b2 : s ≠ b2 := ne_new z2 A_s.lt
  have ne_o_b2 : o ≠ b2 := ne_new z2 A_o.lt
  have ne_ln_b2 : ln ≠ b2 := ne_new z2 A_l.lt
  have ne_b1_b2 : b1 ≠ b2 := ne_new z2 A_b1.lt
  replace X_t := X_t.ext E2
  replace F_lengths_t := F_lengths_t.ext E2
  replace F_codes_t := F_codes_t.ext E2
  replace A_s := A_s.ext E2
  replace A_o := A_o.ext E2
  replace A_l := A_l.ext E2
  replace A_b1 := A_b1.ext E2
  have sz_b2 : h0.size ≤ b2 := by rw [z2]; exact KK.1
  replace KK := KK.ext E2
  refine px_astore S2 d5_16 rfl rfl (L' := #[.val (.ref t), .val (.ref s), .val (.int (3 : Int32)), .val (.ref o), .val (.ref b1), .val (.ref b2), .unset, .unset, .unset, .unset, .unset, .unset]) rfl ?_
  refine px_iconst (v := (0 : Int32)) S2 d5_18 rfl rfl ?_
  refine px_istore S2 d5_19 rfl (L' := #[.val (.ref t), .val (.ref s), .val (.int (3 : Int32)), .val (.ref o), .val (.ref b1), .val (.ref b2), .val (.int (0 : Int32)), .unset, .unset, .unset, .unset, .unset]) rfl ?_
  refine px_iload S2 d5_21 rfl rfl ?_
  refine px_iloadN S2 d5_23 rfl rfl ?_
  refine px_icmp S2 d5_24 (by decide) (pc' := 45) rfl rfl (fun (hc3 : (0 : Int32).toInt ≥ (3 : Int32).toInt) => by exfalso; revert hc3; decide) (fun (hc3 : (0 : Int32).toInt < (3 : Int32).toInt) => ?_)
  refine px_aload S2 d5_27 rfl rfl rfl ?_
  refine px_iload S2 d5_29 rfl rfl ?_
  refine px_aloadN S2 d5_31 rfl rfl rfl ?_
  refine px_aloadN S2 d5_32 rfl rfl rfl ?_
  refine px_iload S2 d5_33 rfl rfl ?_
  refine px_iaload (v := (g 0)) S2 A_s (i := 0) rfl (by decide) rfl d5_35 rfl ?_
  refine px_iaload (v := (fo X)) S2 A_o (i := X) e0 x0 rfl d5_36 rfl ?_
  refine px_i2l S2 d5_37 rfl ?_
  refine px_lastore S2 A_b1 g_b1 (i := 0) rfl (by decide) d5_38 rfl (fun T4 h4 S4 W4 A_b1 => ?_)
  replace X_t := X_t.wr W4
  replace F_lengths_t := F_lengths_t.other W4 (Or.inl ne_t_b1)
  replace F_codes_t := F_codes_t.other W4 (Or.inl ne_t_b1)
  replace A_s := A_s.other W4 ne_s_b1
  replace A_o := A_o.other W4 ne_o_b1
  replace A_l := A_l.other W4 ne_ln_b1
  replace A_b2 := A_b2.other W4 (Ne.symm ne_b1_b2)
  replace KK := KK.wr W4 (Or.inr sz_b1)
  refine px_iinc (v := (1 : Int32)) (r := (1 : Int32)) S4 d5_39 rfl rfl rfl (by decide) (L' := #[.val (.ref t), .val (.ref s), .val (.int (3 : Int32)), .val (.ref o), .val (.ref b1), .val (.ref b2), .val (.int (1 : Int32)), .unset, .unset, .unset, .unset, .unset]) rfl ?_
  refine px_goto S4 d5_42 (by decide) (pc' := 21) rfl ?_
  refine px_iload S4 d5_21 rfl rfl ?_
  refine px_iloadN S4 d5_23 rfl rfl ?_
  refine px_icmp S4 d5_24 (by decide) (pc' := 45) rfl rfl (fun (hc5 : (1 : Int32).toInt ≥ (3 : Int32).toInt) => by exfalso; revert hc5; decide) (fun (hc5 : (1 : Int32).toInt < (3 : Int32).toInt) => ?_)
  refine px_aload S4 d5_27 rfl rfl rfl ?_
  refine px_iload S4 d5_29 rfl rfl ?_
  refine px_aloadN S4 d5_31 rfl rfl rfl ?_
  refine px_aloadN S4 d5_32 rfl rfl rfl ?_
  refine px_iload S4 d5_33 rfl rfl ?_
  refine px_iaload (v := (g 1)) S4 A_s (i := 1) rfl (by decide) rfl d5_35 rfl ?_
  refine px_iaload (v := (fo Y)) S4 A_o (i := Y) e1 x1 rfl d5_36 rfl ?_
  refine px_i2l S4 d5_37 rfl ?_
  refine px_lastore S4 A_b1 g_b1 (i := 1) rfl (by decide) d5_38 rfl (fun T6 h6 S6 W6 A_b1 => ?_)
  replace X_t := X_t.wr W6
  replace F_lengths_t := F_lengths_t.other W6 (Or.inl ne_t_b1)
  replace F_codes_t := F_codes_t.other W6 (Or.inl ne_t_b1)
  replace A_s := A_s.other W6 ne_s_b1
  replace A_o := A_o.other W6 ne_o_b1
  replace A_l := A_l.other W6 ne_ln_b1
  replace A_b2 := A_b2.other W6 (Ne.symm ne_b1_b2)
  replace KK := KK.wr W6 (Or.inr sz_b1)
  refine px_iinc (v := (1 : Int32)) (r := (2 : Int32)) S6 d5_39 rfl rfl rfl (by decide) (L' := #[.val (.ref t), .val (.ref s), .val (.int (3 : Int32)), .val (.ref o), .val (.ref b1), .val (.ref b2), .val (.int (2 : Int32)), .unset, .unset, .unset, .unset, .unset]) rfl ?_
  refine px_goto S6 d5_42 (by decide) (pc' := 21) rfl ?_
  refine px_iload S6 d5_21 rfl rfl ?_
  refine px_iloadN S6 d5_23 rfl rfl ?_
  refine px_icmp S6 d5_24 (by decide) (pc' := 45) rfl rfl (fun (hc7 : (2 : Int32).toInt ≥ (3 : Int32).toInt) => by exfalso; revert hc7; decide) (fun (hc7 : (2 : Int32).toInt < (3 : Int32).toInt) => ?_)
  refine px_aload S6 d5_27 rfl rfl rfl ?_
  refine px_iload S6 d5_29 rfl rfl ?_
  refine px_aloadN S6 d5_31 rfl rfl rfl ?_
  refine px_aloadN S6 d5_32 rfl rfl rfl ?_
  refine px_iload S6 d5_33 rfl rfl ?_
  refine px_iaload (v := (g 2)) S6 A_s (i := 2) rfl (by decide) rfl d5_35 rfl ?_
  refine px_iaload (v := (fo W)) S6 A_o (i := W) e2 x2 rfl d5_36 rfl ?_
  refine px_i2l S6 d5_37 rfl ?_
  refine px_lastore S6 A_b1 g_b1 (i := 2) rfl (by decide) d5_38 rfl (fun T8 h8 S8 W8 A_b1 => ?_)
  replace X_t := X_t.wr W8
  replace F_lengths_t := F_lengths_t.other W8 (Or.inl ne_t_b1)
  replace F_codes_t := F_codes_t.other W8 (Or.inl ne_t_b1)
  replace A_s := A_s.other W8 ne_s_b1
  replace A_o := A_o.other W8 ne_o_b1
  replace A_l := A_l.other W8 ne_ln_b1
  replace A_b2 := A_b2.other W8 (Ne.symm ne_b1_b2)
  replace KK := KK.wr W8 (Or.inr sz_b1)
  refine px_iinc (v := (1 : Int32)) (r := (3 : Int32)) S8 d5_39 rfl rfl rfl (by decide) (L' := #[.val (.ref t), .val (.ref s), .val (.int (3 : Int32)), .val (.ref o), .val (.ref b1), .val (.ref b2), .val (.int (3 : Int32)), .unset, .unset, .unset, .unset, .unset]) rfl ?_
  refine px_goto S8 d5_42 (by decide) (pc' := 21) rfl ?_
  refine px_iload S8 d5_21 rfl rfl ?_
  refine px_iloadN S8 d5_23 rfl rfl ?_
  refine px_icmp S8 d5_24 (by decide) (pc' := 45) rfl rfl (fun (hc9 : (3 : Int32).toInt ≥ (3 : Int32).toInt) => ?_) (fun (hc9 : (3 : Int32).toInt < (3 : Int32).toInt) => by exfalso; revert hc9; decide)
  refine px_iconst (v := (0 : Int32)) S8 d5_45 rfl rfl ?_
  refine px_istore S8 d5_46 rfl (L' := #[.val (.ref t), .val (.ref s), .val (.int (3 : Int32)), .val (.ref o), .val (.ref b1), .val (.ref b2), .val (.int (0 : Int32)), .unset, .unset, .unset, .unset, .unset]) rfl ?_
  refine px_iloadN S8 d5_48 rfl rfl ?_
  refine px_istore S8 d5_49 rfl (L' := #[.val (.ref t), .val (.ref s), .val (.int (3 : Int32)), .val (.ref o), .val (.ref b1), .val (.ref b2), .val (.int (0 : Int32)), .val (.int (3 : Int32)), .unset, .unset, .unset, .unset]) rfl ?_
  refine px_iloadN S8 d5_51 rfl rfl ?_
  refine px_istore S8 d5_52 rfl (L' := #[.val (.ref t), .val (.ref s), .val (.int (3 : Int32)), .val (.ref o), .val (.ref b1), .val (.ref b2), .val (.int (0 : Int32)), .val (.int (3 : Int32)), .val (.int (3 : Int32)), .unset, .unset, .unset]) rfl ?_
  refine px_iload S8 d5_54 rfl rfl ?_
  refine px_iconst (v := (2 : Int32)) S8 d5_56 rfl rfl ?_
  refine px_iloadN S8 d5_57 rfl rfl ?_
  refine px_imul S8 d5_58 rfl ?_
  rw [show ((2 : Int32) * (3 : Int32)) = (6 : Int32) from by decide]
  refine px_iconst (v := (1 : Int32)) S8 d5_59 rfl rfl ?_
  refine px_isub S8 d5_60 rfl ?_
  rw [show ((6 : Int32) - (1 : Int32)) = (5 : Int32) from by decide]
  refine px_icmp S8 d5_61 (by decide) (pc' := 185) rfl rfl (fun (hc10 : (3 : Int32).toInt ≥ (5 : Int32).toInt) => by exfalso; revert hc10; decide) (fun (hc10 : (3 : Int32).toInt < (5 : Int32).toInt) => ?_)
  refine px_iconst (v := (2 : Int32)) S8 d5_64 rfl rfl ?_
  refine px_newarr (aty := .int) (cap := 2) S8 (hw _ (List.mem_of_getElem? (i := 0) rfl)) rfl (n := 2) rfl (by decide) (by decide) (by decide) (by decide) d5_65 rfl (fun T11 h11 b11 z11 g_b11 S11 E11 A_b11 => ?_)
  have ne_t_b11 : t ≠ b11 := ne_new z11 X_t.lt
  have ne_s_b11 : s ≠ b11 := ne_new z11 A_s.lt
  have ne_o_b11 : o ≠ b11 := ne_new z11 A_o.lt
  have ne_ln_b11 : ln ≠ b11 := ne_new z11 A_l.lt
  have ne_b1_b11 : b1 ≠ b11 := ne_new z11 A_b1.lt
  have ne_b2_b11 : b2 ≠ b11 := ne_new z11 A_b2.lt
  replace X_t := X_t.ext E11
  replace F_lengths_t := F_lengths_t.ext E11
  replace F_codes_t := F_codes_t.ext E11
  replace A_s := A_s.ext E11
  replace A_o := A_o.ext E11
  replace A_l := A_l.ext E11
  replace A_b1 := A_b1.ext E11
  replace A_b2 := A_b2.ext E11
  have sz_b11 : h0.size ≤ b11 := by rw [z11]; exact KK.1
  replace KK := KK.ext E11
  refine px_astore S11 d5_67 rfl rfl (L' := #[.val (.ref t), .val (.ref s), .val (.int (3 : Int32)), .val (.ref o), .val (.ref b1), .val (.ref b2), .val (.int (0 : Int32)), .val (.int (3 : Int32)), .val (.int (3 : Int32)), .val (.ref b11), .unset, .unset]) rfl ?_
  refine px_iconst (v := (0 : Int32)) S11 d5_69 rfl rfl ?_
  refine px_istore S11 d5_70 rfl (L' := #[.val (.ref t), .val (.ref s), .val (.int (3 : Int32)), .val (.ref o), .val (.ref b1), .val (.ref b2), .val (.int (0 : Int32)), .val (.int (3 : Int32)), .val (.int (3 : Int32)), .val (.ref b11), .val (.int (0 : Int32)), .unset]) rfl ?_
  refine px_iload S11 d5_72 rfl rfl ?_
  refine px_iconst (v := (2 : Int32)) S11 d5_74 rfl rfl ?_
  refine px_icmp S11 d5_75 (by decide) (pc' := 141) rfl rfl (fun (hc12 : (0 : Int32).toInt ≥ (2 : Int32).toInt) => by exfalso; revert hc12; decide) (fun (hc12 : (0 : Int32).toInt < (2 : Int32).toInt) => ?_)
  refine px_iload S11 d5_78 rfl rfl ?_
  refine px_iloadN S11 d5_80 rfl rfl ?_
  refine px_icmp S11 d5_81 (by decide) (pc' := 109) rfl rfl (fun (hc13 : (0 : Int32).toInt ≥ (3 : Int32).toInt) => by exfalso; revert hc13; decide) (fun (hc13 : (0 : Int32).toInt < (3 : Int32).toInt) => ?_)
  refine px_iload S11 d5_84 rfl rfl ?_
  refine px_iload S11 d5_86 rfl rfl ?_
  refine px_icmp S11 d5_88 (by decide) (pc' := 105) rfl rfl (fun (hc14 : (3 : Int32).toInt ≥ (3 : Int32).toInt) => ?_) (fun (hc14 : (3 : Int32).toInt < (3 : Int32).toInt) => by exfalso; revert hc14; decide)
  refine px_iconst (v := (1 : Int32)) S11 d5_105 rfl rfl ?_
  refine px_goto S11 d5_106 (by decide) (pc' := 110) rfl ?_
  refine px_istore S11 d5_110 rfl (L' := #[.val (.ref t), .val (.ref s), .val (.int (3 : Int32)), .val (.ref o), .val (.ref b1), .val (.ref b2), .val (.int (0 : Int32)), .val (.int (3 : Int32)), .val (.int (3 : Int32)), .val (.ref b11), .val (.int (0 : Int32)), .val (.int (1 : Int32))]) rfl ?_
  refine px_aload S11 d5_112 rfl rfl rfl ?_
  refine px_iload S11 d5_114 rfl rfl ?_
  refine px_iload S11 d5_116 rfl rfl ?_
  refine px_if0 S11 d5_118 (by decide) (pc' := 129) rfl rfl (fun (hc15 : (1 : Int32).toInt = 0) => by exfalso; revert hc15; decide) (fun (hc15 : ¬ (1 : Int32).toInt = 0) => ?_)
  refine px_iload S11 d5_121 rfl rfl ?_
  refine px_iinc (v := (1 : Int32)) (r := (1 : Int32)) S11 d5_123 rfl rfl rfl (by decide) (L' := #[.val (.ref t), .val (.ref s), .val (.int (3 : Int32)), .val (.ref o), .val (.ref b1), .val (.ref b2), .val (.int (1 : Int32)), .val (.int (3 : Int32)), .val (.int (3 : Int32)), .val (.ref b11), .val (.int (0 : Int32)), .val (.int (1 : Int32))]) rfl ?_
  refine px_goto S11 d5_126 (by decide) (pc' := 134) rfl ?_
  refine px_iastore (v := (0 : Int32)) S11 A_b11 g_b11 (i := 0) rfl (by decide) rfl d5_134 rfl (fun T16 h16 S16 W16 A_b11 => ?_)
  replace X_t := X_t.wr W16
  replace F_lengths_t := F_lengths_t.other W16 (Or.inl ne_t_b11)
  replace F_codes_t := F_codes_t.other W16 (Or.inl ne_t_b11)
  replace A_s := A_s.other W16 ne_s_b11
  replace A_o := A_o.other W16 ne_o_b11
  replace A_l := A_l.other W16 ne_ln_b11
  replace A_b1 := A_b1.other W16 ne_b1_b11
  replace A_b2 := A_b2.other W16 ne_b2_b11
  replace KK := KK.wr W16 (Or.inr sz_b11)
  refine px_iinc (v := (1 : Int32)) (r := (1 : Int32)) S16 d5_135 rfl rfl rfl (by decide) (L' := #[.val (.ref t), .val (.ref s), .val (.int (3 : Int32)), .val (.ref o), .val (.ref b1), .val (.ref b2), .val (.int (1 : Int32)), .val (.int (3 : Int32)), .val (.int (3 : Int32)), .val (.ref b11), .val (.int (1 : Int32)), .val (.int (1 : Int32))]) rfl ?_
  refine px_goto S16 d5_138 (by decide) (pc' := 72) rfl ?_
  refine px_iload S16 d5_72 rfl rfl ?_
  refine px_iconst (v := (2 : Int32)) S16 d5_74 rfl rfl ?_
  refine px_icmp S16 d5_75 (by decide) (pc' := 141) rfl rfl (fun (hc17 : (1 : Int32).toInt ≥ (2 : Int32).toInt) => by exfalso; revert hc17; decide) (fun (hc17 : (1 : Int32).toInt < (2 : Int32).toInt) => ?_)
  refine px_iload S16 d5_78 rfl rfl ?_
  refine px_iloadN S16 d5_80 rfl rfl ?_
  refine px_icmp S16 d5_81 (by decide) (pc' := 109) rfl rfl (fun (hc18 : (1 : Int32).toInt ≥ (3 : Int32).toInt) => by exfalso; revert hc18; decide) (fun (hc18 : (1 : Int32).toInt < (3 : Int32).toInt) => ?_)
  refine px_iload S16 d5_84 rfl rfl ?_
  refine px_iload S16 d5_86 rfl rfl ?_
  refine px_icmp S16 d5_88 (by decide) (pc' := 105) rfl rfl (fun (hc19 : (3 : Int32).toInt ≥ (3 : Int32).toInt) => ?_) (fun (hc19 : (3 : Int32).toInt < (3 : Int32).toInt) => by exfalso; revert hc19; decide)
  refine px_iconst (v := (1 : Int32)) S16 d5_105 rfl rfl ?_
  refine px_goto S16 d5_106 (by decide) (pc' := 110) rfl ?_
  refine px_istore S16 d5_110 rfl (L' := #[.val (.ref t), .val (.ref s), .val (.int (3 : Int32)), .val (.ref o), .val (.ref b1), .val (.ref b2), .val (.int (1 : Int32)), .val (.int (3 : Int32)), .val (.int (3 : Int32)), .val (.ref b11), .val (.int (1 : Int32)), .val (.int (1 : Int32))]) rfl ?_
  refine px_aload S16 d5_112 rfl rfl rfl ?_
  refine px_iload S16 d5_114 rfl rfl ?_
  refine px_iload S16 d5_116 rfl rfl ?_
  refine px_if0 S16 d5_118 (by decide) (pc' := 129) rfl rfl (fun (hc20 : (1 : Int32).toInt = 0) => by exfalso; revert hc20; decide) (fun (hc20 : ¬ (1 : Int32).toInt = 0) => ?_)
  refine px_iload S16 d5_121 rfl rfl ?_
  refine px_iinc (v := (1 : Int32)) (r := (2 : Int32)) S16 d5_123 rfl rfl rfl (by decide) (L' := #[.val (.ref t), .val (.ref s), .val (.int (3 : Int32)), .val (.ref o), .val (.ref b1), .val (.ref b2), .val (.int (2 : Int32)), .val (.int (3 : Int32)), .val (.int (3 : Int32)), .val (.ref b11), .val (.int (1 : Int32)), .val (.int (1 : Int32))]) rfl ?_
  refine px_goto S16 d5_126 (by decide) (pc' := 134) rfl ?_
  refine px_iastore (v := (1 : Int32)) S16 A_b11 g_b11 (i := 1) rfl (by decide) rfl d5_134 rfl (fun T21 h21 S21 W21 A_b11 => ?_)
  replace X_t := X_t.wr W21
  replace F_lengths_t := F_lengths_t.other W21 (Or.inl ne_t_b11)
  replace F_codes_t := F_codes_t.other W21 (Or.inl ne_t_b11)
  replace A_s := A_s.other W21 ne_s_b11
  replace A_o := A_o.other W21 ne_o_b11
  replace A_l := A_l.other W21 ne_ln_b11
  replace A_b1 := A_b1.other W21 ne_b1_b11
  replace A_b2 := A_b2.other W21 ne_b2_b11
  replace KK := KK.wr W21 (Or.inr sz_b11)
  refine px_iinc (v := (1 : Int32)) (r := (2 : Int32)) S21 d5_135 rfl rfl rfl (by decide) (L' := #[.val (.ref t), .val (.ref s), .val (.int (3 : Int32)), .val (.ref o), .val (.ref b1), .val (.ref b2), .val (.int (2 : Int32)), .val (.int (3 : Int32)), .val (.int (3 : Int32)), .val (.ref b11), .val (.int (2 : Int32)), .val (.int (1 : Int32))]) rfl ?_
  refine px_goto S21 d5_138 (by decide) (pc' := 72) rfl ?_
  refine px_iload S21 d5_72 rfl rfl ?_
  refine px_iconst (v := (2 : Int32)) S21 d5_74 rfl rfl ?_
  refine px_icmp S21 d5_75 (by decide) (pc' := 141) rfl rfl (fun (hc22 : (2 : Int32).toInt ≥ (2 : Int32).toInt) => ?_) (fun (hc22 : (2 : Int32).toInt < (2 : Int32).toInt) => by exfalso; revert hc22; decide)
  refine px_aload S21 d5_141 rfl rfl rfl ?_
  refine px_iload S21 d5_143 rfl rfl ?_
  refine px_aload S21 d5_145 rfl rfl rfl ?_
  refine px_aload S21 d5_147 rfl rfl rfl ?_
  refine px_iconst (v := (0 : Int32)) S21 d5_149 rfl rfl ?_
  refine px_iaload (v := (0 : Int32)) S21 A_b11 (i := 0) rfl (by decide) rfl d5_150 rfl ?_
  refine px_laload (v := (fo X).toInt64) S21 A_b1 (i := 0) rfl (by decide) rfl d5_151 rfl ?_
  refine px_aload S21 d5_152 rfl rfl rfl ?_
  refine px_aload S21 d5_154 rfl rfl rfl ?_
  refine px_iconst (v := (1 : Int32)) S21 d5_156 rfl rfl ?_
  refine px_iaload (v := (1 : Int32)) S21 A_b11 (i := 1) rfl (by decide) rfl d5_157 rfl ?_
  refine px_laload (v := (fo Y).toInt64) S21 A_b1 (i := 1) rfl (by decide) rfl d5_158 rfl ?_
  refine px_ladd S21 d5_159 rfl ?_
  refine px_lastore S21 A_b1 g_b1 (i := 3) rfl (by decide) d5_160 rfl (fun T23 h23 S23 W23 A_b1 => ?_)
  replace X_t := X_t.wr W23
  replace F_lengths_t := F_lengths_t.other W23 (Or.inl ne_t_b1)
  replace F_codes_t := F_codes_t.other W23 (Or.inl ne_t_b1)
  replace A_s := A_s.other W23 ne_s_b1
  replace A_o := A_o.other W23 ne_o_b1
  replace A_l := A_l.other W23 ne_ln_b1
  replace A_b2 := A_b2.other W23 (Ne.symm ne_b1_b2)
  replace A_b11 := A_b11.other W23 (Ne.symm ne_b1_b11)
  replace KK := KK.wr W23 (Or.inr sz_b1)
  refine px_aload S23 d5_161 rfl rfl rfl ?_
  refine px_aload S23 d5_163 rfl rfl rfl ?_
  refine px_iconst (v := (0 : Int32)) S23 d5_165 rfl rfl ?_
  refine px_iaload (v := (0 : Int32)) S23 A_b11 (i := 0) rfl (by decide) rfl d5_166 rfl ?_
  refine px_iload S23 d5_167 rfl rfl ?_
  refine px_iastore (v := (3 : Int32)) S23 A_b2 g_b2 (i := 0) rfl (by decide) rfl d5_169 rfl (fun T24 h24 S24 W24 A_b2 => ?_)
  replace X_t := X_t.wr W24
  replace F_lengths_t := F_lengths_t.other W24 (Or.inl ne_t_b2)
  replace F_codes_t := F_codes_t.other W24 (Or.inl ne_t_b2)
  replace A_s := A_s.other W24 ne_s_b2
  replace A_o := A_o.other W24 ne_o_b2
  replace A_l := A_l.other W24 ne_ln_b2
  replace A_b1 := A_b1.other W24 ne_b1_b2
  replace A_b11 := A_b11.other W24 (Ne.symm ne_b2_b11)
  replace KK := KK.wr W24 (Or.inr sz_b2)
  refine px_aload S24 d5_170 rfl rfl rfl ?_
  refine px_aload S24 d5_172 rfl rfl rfl ?_
  refine px_iconst (v := (1 : Int32)) S24 d5_174 rfl rfl ?_
  refine px_iaload (v := (1 : Int32)) S24 A_b11 (i := 1) rfl (by decide) rfl d5_175 rfl ?_
  refine px_iload S24 d5_176 rfl rfl ?_
  refine px_iastore (v := (3 : Int32)) S24 A_b2 g_b2 (i := 1) rfl (by decide) rfl d5_178 rfl (fun T25 h25 S25 W25 A_b2 => ?_)
  replace X_t := X_t.wr W25
  replace F_lengths_t := F_lengths_t.other W25 (Or.inl ne_t_b2)
  replace F_codes_t := F_codes_t.other W25 (Or.inl ne_t_b2)
  replace A_s := A_s.other W25 ne_s_b2
  replace A_o := A_o.other W25 ne_o_b2
  replace A_l := A_l.other W25 ne_ln_b2
  replace A_b1 := A_b1.other W25 ne_b1_b2
  replace A_b11 := A_b11.other W25 (Ne.symm ne_b2_b11)
  replace KK := KK.wr W25 (Or.inr sz_b2)
  refine px_iinc (v := (1 : Int32)) (r := (4 : Int32)) S25 d5_179 rfl rfl rfl (by decide) (L' := #[.val (.ref t), .val (.ref s), .val (.int (3 : Int32)), .val (.ref o), .val (.ref b1), .val (.ref b2), .val (.int (2 : Int32)), .val (.int (3 : Int32)), .val (.int (4 : Int32)), .val (.ref b11), .val (.int (2 : Int32)), .val (.int (1 : Int32))]) rfl ?_
  refine px_goto S25 d5_182 (by decide) (pc' := 54) rfl ?_
  refine px_iload S25 d5_54 rfl rfl ?_
  refine px_iconst (v := (2 : Int32)) S25 d5_56 rfl rfl ?_
  refine px_iloadN S25 d5_57 rfl rfl ?_
  refine px_imul S25 d5_58 rfl ?_
  rw [show ((2 : Int32) * (3 : Int32)) = (6 : Int32) from by decide]
  refine px_iconst (v := (1 : Int32)) S25 d5_59 rfl rfl ?_
  refine px_isub S25 d5_60 rfl ?_
  rw [show ((6 : Int32) - (1 : Int32)) = (5 : Int32) from by decide]
  refine px_icmp S25 d5_61 (by decide) (pc' := 185) rfl rfl (fun (hc26 : (4 : Int32).toInt ≥ (5 : Int32).toInt) => by exfalso; revert hc26; decide) (fun (hc26 : (4 : Int32).toInt < (5 : Int32).toInt) => ?_)
  refine px_iconst (v := (2 : Int32)) S25 d5_64 rfl rfl ?_
  refine px_newarr (aty := .int) (cap := 2) S25 (hw _ (List.mem_of_getElem? (i := 0) rfl)) rfl (n := 2) rfl (by decide) (by decide) (by decide) (by decide) d5_65 rfl (fun T27 h27 b27 z27 g_b27 S27 E27 A_b27 => ?_)
  have ne_t_b27 : t ≠ b27 := ne_new z27 X_t.lt
  have ne_s_b27 : s ≠ b27 := ne_new z27 A_s.lt
  have ne_o_b27 : o ≠ b27 := ne_new z27 A_o.lt
  have ne_ln_b27 : ln ≠ b27 := ne_new z27 A_l.lt
  have ne_b1_b27 : b1 ≠ b27 := ne_new z27 A_b1.lt
  have ne_b2_b27 : b2 ≠ b27 := ne_new z27 A_b2.lt
  have ne_b11_b27 : b11 ≠ b27 := ne_new z27 A_b11.lt
  replace X_t := X_t.ext E27
  replace F_lengths_t := F_lengths_t.ext E27
  replace F_codes_t := F_codes_t.ext E27
  replace A_s := A_s.ext E27
  replace A_o := A_o.ext E27
  replace A_l := A_l.ext E27
  replace A_b1 := A_b1.ext E27
  replace A_b2 := A_b2.ext E27
  replace A_b11 := A_b11.ext E27
  have sz_b27 : h0.size ≤ b27 := by rw [z27]; exact KK.1
  replace KK := KK.ext E27
  refine px_astore S27 d5_67 rfl rfl (L' := #[.val (.ref t), .val (.ref s), .val (.int (3 : Int32)), .val (.ref o), .val (.ref b1), .val (.ref b2), .val (.int (2 : Int32)), .val (.int (3 : Int32)), .val (.int (4 : Int32)), .val (.ref b27), .val (.int (2 : Int32)), .val (.int (1 : Int32))]) rfl ?_
  refine px_iconst (v := (0 : Int32)) S27 d5_69 rfl rfl ?_
  refine px_istore S27 d5_70 rfl (L' := #[.val (.ref t), .val (.ref s), .val (.int (3 : Int32)), .val (.ref o), .val (.ref b1), .val (.ref b2), .val (.int (2 : Int32)), .val (.int (3 : Int32)), .val (.int (4 : Int32)), .val (.ref b27), .val (.int (0 : Int32)), .val (.int (1 : Int32))]) rfl ?_
  refine px_iload S27 d5_72 rfl rfl ?_
  refine px_iconst (v := (2 : Int32)) S27 d5_74 rfl rfl ?_
  refine px_icmp S27 d5_75 (by decide) (pc' := 141) rfl rfl (fun (hc28 : (0 : Int32).toInt ≥ (2 : Int32).toInt) => by exfalso; revert hc28; decide) (fun (hc28 : (0 : Int32).toInt < (2 : Int32).toInt) => ?_)
  refine px_iload S27 d5_78 rfl rfl ?_
  refine px_iloadN S27 d5_80 rfl rfl ?_
  refine px_icmp S27 d5_81 (by decide) (pc' := 109) rfl rfl (fun (hc29 : (2 : Int32).toInt ≥ (3 : Int32).toInt) => by exfalso; revert hc29; decide) (fun (hc29 : (2 : Int32).toInt < (3 : Int32).toInt) => ?_)
  refine px_iload S27 d5_84 rfl rfl ?_
  refine px_iload S27 d5_86 rfl rfl ?_
  refine px_icmp S27 d5_88 (by decide) (pc' := 105) rfl rfl (fun (hc30 : (3 : Int32).toInt ≥ (4 : Int32).toInt) => by exfalso; revert hc30; decide) (fun (hc30 : (3 : Int32).toInt < (4 : Int32).toInt) => ?_)
  refine px_aload S27 d5_91 rfl rfl rfl ?_
  refine px_iload S27 d5_93 rfl rfl ?_
  refine px_laload (v := (fo W).toInt64) S27 A_b1 (i := 2) rfl (by decide) rfl d5_95 rfl ?_
  refine px_aload S27 d5_96 rfl rfl rfl ?_
  refine px_iload S27 d5_98 rfl rfl ?_
  refine px_laload (v := ((fo X).toInt64 + (fo Y).toInt64)) S27 A_b1 (i := 3) rfl (by decide) rfl d5_100 rfl ?_
  refine px_lif S27 d5_101 rfl d5_102 (by decide) (pc' := 109) rfl rfl (fun (hc31 : (fo W).toInt64.toInt > ((fo X).toInt64 + (fo Y).toInt64).toInt) => ?_) (fun (hc31 : (fo W).toInt64.toInt ≤ ((fo X).toInt64 + (fo Y).toInt64).toInt) => ?_)
  · refine px_iconst (v := (0 : Int32)) S27 d5_109 rfl rfl ?_
    refine px_istore S27 d5_110 rfl (L' := #[.val (.ref t), .val (.ref s), .val (.int (3 : Int32)), .val (.ref o), .val (.ref b1), .val (.ref b2), .val (.int (2 : Int32)), .val (.int (3 : Int32)), .val (.int (4 : Int32)), .val (.ref b27), .val (.int (0 : Int32)), .val (.int (0 : Int32))]) rfl ?_
    refine px_aload S27 d5_112 rfl rfl rfl ?_
    refine px_iload S27 d5_114 rfl rfl ?_
    refine px_iload S27 d5_116 rfl rfl ?_
    refine px_if0 S27 d5_118 (by decide) (pc' := 129) rfl rfl (fun (hc32 : (0 : Int32).toInt = 0) => ?_) (fun (hc32 : ¬ (0 : Int32).toInt = 0) => by exfalso; revert hc32; decide)
    refine px_iload S27 d5_129 rfl rfl ?_
    refine px_iinc (v := (1 : Int32)) (r := (4 : Int32)) S27 d5_131 rfl rfl rfl (by decide) (L' := #[.val (.ref t), .val (.ref s), .val (.int (3 : Int32)), .val (.ref o), .val (.ref b1), .val (.ref b2), .val (.int (2 : Int32)), .val (.int (4 : Int32)), .val (.int (4 : Int32)), .val (.ref b27), .val (.int (0 : Int32)), .val (.int (0 : Int32))]) rfl ?_
    refine px_iastore (v := (3 : Int32)) S27 A_b27 g_b27 (i := 0) rfl (by decide) rfl d5_134 rfl (fun T33 h33 S33 W33 A_b27 => ?_)
    replace X_t := X_t.wr W33
    replace F_lengths_t := F_lengths_t.other W33 (Or.inl ne_t_b27)
    replace F_codes_t := F_codes_t.other W33 (Or.inl ne_t_b27)
    replace A_s := A_s.other W33 ne_s_b27
    replace A_o := A_o.other W33 ne_o_b27
    replace A_l := A_l.other W33 ne_ln_b27
    replace A_b1 := A_b1.other W33 ne_b1_b27
    replace A_b2 := A_b2.other W33 ne_b2_b27
    replace A_b11 := A_b11.other W33 ne_b11_b27
    replace KK := KK.wr W33 (Or.inr sz_b27)
    refine px_iinc (v := (1 : Int32)) (r := (1 : Int32)) S33 d5_135 rfl rfl rfl (by decide) (L' := #[.val (.ref t), .val (.ref s), .val (.int (3 : Int32)), .val (.ref o), .val (.ref b1), .val (.ref b2), .val (.int (2 : Int32)), .val (.int (4 : Int32)), .val (.int (4 : Int32)), .val (.ref b27), .val (.int (1 : Int32)), .val (.int (0 : Int32))]) rfl ?_
    refine px_goto S33 d5_138 (by decide) (pc' := 72) rfl ?_
    refine px_iload S33 d5_72 rfl rfl ?_
    refine px_iconst (v := (2 : Int32)) S33 d5_74 rfl rfl ?_
    refine px_icmp S33 d5_75 (by decide) (pc' := 141) rfl rfl (fun (hc34 : (1 : Int32).toInt ≥ (2 : Int32).toInt) => by exfalso; revert hc34; decide) (fun (hc34 : (1 : Int32).toInt < (2 : Int32).toInt) => ?_)
    refine px_iload S33 d5_78 rfl rfl ?_
    refine px_iloadN S33 d5_80 rfl rfl ?_
    refine px_icmp S33 d5_81 (by decide) (pc' := 109) rfl rfl (fun (hc35 : (2 : Int32).toInt ≥ (3 : Int32).toInt) => by exfalso; revert hc35; decide) (fun (hc35 : (2 : Int32).toInt < (3 : Int32).toInt) => ?_)
    refine px_iload S33 d5_84 rfl rfl ?_
    refine px_iload S33 d5_86 rfl rfl ?_
    refine px_icmp S33 d5_88 (by decide) (pc' := 105) rfl rfl (fun (hc36 : (4 : Int32).toInt ≥ (4 : Int32).toInt) => ?_) (fun (hc36 : (4 : Int32).toInt < (4 : Int32).toInt) => by exfalso; revert hc36; decide)
    refine px_iconst (v := (1 : Int32)) S33 d5_105 rfl rfl ?_
    refine px_goto S33 d5_106 (by decide) (pc' := 110) rfl ?_
    refine px_istore S33 d5_110 rfl (L' := #[.val (.ref t), .val (.ref s), .val (.int (3 : Int32)), .val (.ref o), .val (.ref b1), .val (.ref b2), .val (.int (2 : Int32)), .val (.int (4 : Int32)), .val (.int (4 : Int32)), .val (.ref b27), .val (.int (1 : Int32)), .val (.int (1 : Int32))]) rfl ?_
    refine px_aload S33 d5_112 rfl rfl rfl ?_
    refine px_iload S33 d5_114 rfl rfl ?_
    refine px_iload S33 d5_116 rfl rfl ?_
    refine px_if0 S33 d5_118 (by decide) (pc' := 129) rfl rfl (fun (hc37 : (1 : Int32).toInt = 0) => by exfalso; revert hc37; decide) (fun (hc37 : ¬ (1 : Int32).toInt = 0) => ?_)
    refine px_iload S33 d5_121 rfl rfl ?_
    refine px_iinc (v := (1 : Int32)) (r := (3 : Int32)) S33 d5_123 rfl rfl rfl (by decide) (L' := #[.val (.ref t), .val (.ref s), .val (.int (3 : Int32)), .val (.ref o), .val (.ref b1), .val (.ref b2), .val (.int (3 : Int32)), .val (.int (4 : Int32)), .val (.int (4 : Int32)), .val (.ref b27), .val (.int (1 : Int32)), .val (.int (1 : Int32))]) rfl ?_
    refine px_goto S33 d5_126 (by decide) (pc' := 134) rfl ?_
    refine px_iastore (v := (2 : Int32)) S33 A_b27 g_b27 (i := 1) rfl (by decide) rfl d5_134 rfl (fun T38 h38 S38 W38 A_b27 => ?_)
    replace X_t := X_t.wr W38
    replace F_lengths_t := F_lengths_t.other W38 (Or.inl ne_t_b27)
    replace F_codes_t := F_codes_t.other W38 (Or.inl ne_t_b27)
    replace A_s := A_s.other W38 ne_s_b27
    replace A_o := A_o.other W38 ne_o_b27
    replace A_l := A_l.other W38 ne_ln_b27
    replace A_b1 := A_b1.other W38 ne_b1_b27
    replace A_b2 := A_b2.other W38 ne_b2_b27
    replace A_b11 := A_b11.other W38 ne_b11_b27
    replace KK := KK.wr W38 (Or.inr sz_b27)
    refine px_iinc (v := (1 : Int32)) (r := (2 : Int32)) S38 d5_135 rfl rfl rfl (by decide) (L' := #[.val (.ref t), .val (.ref s), .val (.int (3 : Int32)), .val (.ref o), .val (.ref b1), .val (.ref b2), .val (.int (3 : Int32)), .val (.int (4 : Int32)), .val (.int (4 : Int32)), .val (.ref b27), .val (.int (2 : Int32)), .val (.int (1 : Int32))]) rfl ?_
    refine px_goto S38 d5_138 (by decide) (pc' := 72) rfl ?_
    refine px_iload S38 d5_72 rfl rfl ?_
    refine px_iconst (v := (2 : Int32)) S38 d5_74 rfl rfl ?_
    refine px_icmp S38 d5_75 (by decide) (pc' := 141) rfl rfl (fun (hc39 : (2 : Int32).toInt ≥ (2 : Int32).toInt) => ?_) (fun (hc39 : (2 : Int32).toInt < (2 : Int32).toInt) => by exfalso; revert hc39; decide)
    refine px_aload S38 d5_141 rfl rfl rfl ?_
    refine px_iload S38 d5_143 rfl rfl ?_
    refine px_aload S38 d5_145 rfl rfl rfl ?_
    refine px_aload S38 d5_147 rfl rfl rfl ?_
    refine px_iconst (v := (0 : Int32)) S38 d5_149 rfl rfl ?_
    refine px_iaload (v := (3 : Int32)) S38 A_b27 (i := 0) rfl (by decide) rfl d5_150 rfl ?_
    refine px_laload (v := ((fo X).toInt64 + (fo Y).toInt64)) S38 A_b1 (i := 3) rfl (by decide) rfl d5_151 rfl ?_
    refine px_aload S38 d5_152 rfl rfl rfl ?_
    refine px_aload S38 d5_154 rfl rfl rfl ?_
    refine px_iconst (v := (1 : Int32)) S38 d5_156 rfl rfl ?_
    refine px_iaload (v := (2 : Int32)) S38 A_b27 (i := 1) rfl (by decide) rfl d5_157 rfl ?_
    refine px_laload (v := (fo W).toInt64) S38 A_b1 (i := 2) rfl (by decide) rfl d5_158 rfl ?_
    refine px_ladd S38 d5_159 rfl ?_
    refine px_lastore S38 A_b1 g_b1 (i := 4) rfl (by decide) d5_160 rfl (fun T40 h40 S40 W40 A_b1 => ?_)
    replace X_t := X_t.wr W40
    replace F_lengths_t := F_lengths_t.other W40 (Or.inl ne_t_b1)
    replace F_codes_t := F_codes_t.other W40 (Or.inl ne_t_b1)
    replace A_s := A_s.other W40 ne_s_b1
    replace A_o := A_o.other W40 ne_o_b1
    replace A_l := A_l.other W40 ne_ln_b1
    replace A_b2 := A_b2.other W40 (Ne.symm ne_b1_b2)
    replace A_b11 := A_b11.other W40 (Ne.symm ne_b1_b11)
    replace A_b27 := A_b27.other W40 (Ne.symm ne_b1_b27)
    replace KK := KK.wr W40 (Or.inr sz_b1)
    refine px_aload S40 d5_161 rfl rfl rfl ?_
    refine px_aload S40 d5_163 rfl rfl rfl ?_
    refine px_iconst (v := (0 : Int32)) S40 d5_165 rfl rfl ?_
    refine px_iaload (v := (3 : Int32)) S40 A_b27 (i := 0) rfl (by decide) rfl d5_166 rfl ?_
    refine px_iload S40 d5_167 rfl rfl ?_
    refine px_iastore (v := (4 : Int32)) S40 A_b2 g_b2 (i := 3) rfl (by decide) rfl d5_169 rfl (fun T41 h41 S41 W41 A_b2 => ?_)
    replace X_t := X_t.wr W41
    replace F_lengths_t := F_lengths_t.other W41 (Or.inl ne_t_b2)
    replace F_codes_t := F_codes_t.other W41 (Or.inl ne_t_b2)
    replace A_s := A_s.other W41 ne_s_b2
    replace A_o := A_o.other W41 ne_o_b2
    replace A_l := A_l.other W41 ne_ln_b2
    replace A_b1 := A_b1.other W41 ne_b1_b2
    replace A_b11 := A_b11.other W41 (Ne.symm ne_b2_b11)
    replace A_b27 := A_b27.other W41 (Ne.symm ne_b2_b27)
    replace KK := KK.wr W41 (Or.inr sz_b2)
    refine px_aload S41 d5_170 rfl rfl rfl ?_
    refine px_aload S41 d5_172 rfl rfl rfl ?_
    refine px_iconst (v := (1 : Int32)) S41 d5_174 rfl rfl ?_
    refine px_iaload (v := (2 : Int32)) S41 A_b27 (i := 1) rfl (by decide) rfl d5_175 rfl ?_
    refine px_iload S41 d5_176 rfl rfl ?_
    refine px_iastore (v := (4 : Int32)) S41 A_b2 g_b2 (i := 2) rfl (by decide) rfl d5_178 rfl (fun T42 h42 S42 W42 A_b2 => ?_)
    replace X_t := X_t.wr W42
    replace F_lengths_t := F_lengths_t.other W42 (Or.inl ne_t_b2)
    replace F_codes_t := F_codes_t.other W42 (Or.inl ne_t_b2)
    replace A_s := A_s.other W42 ne_s_b2
    replace A_o := A_o.other W42 ne_o_b2
    replace A_l := A_l.other W42 ne_ln_b2
    replace A_b1 := A_b1.other W42 ne_b1_b2
    replace A_b11 := A_b11.other W42 (Ne.symm ne_b2_b11)
    replace A_b27 := A_b27.other W42 (Ne.symm ne_b2_b27)
    replace KK := KK.wr W42 (Or.inr sz_b2)
    refine px_iinc (v := (1 : Int32)) (r := (5 : Int32)) S42 d5_179 rfl rfl rfl (by decide) (L' := #[.val (.ref t), .val (.ref s), .val (.int (3 : Int32)), .val (.ref o), .val (.ref b1), .val (.ref b2), .val (.int (3 : Int32)), .val (.int (4 : Int32)), .val (.int (5 : Int32)), .val (.ref b27), .val (.int (2 : Int32)), .val (.int (1 : Int32))]) rfl ?_
    refine px_goto S42 d5_182 (by decide) (pc' := 54) rfl ?_
    refine px_iload S42 d5_54 rfl rfl ?_
    refine px_iconst (v := (2 : Int32)) S42 d5_56 rfl rfl ?_
    refine px_iloadN S42 d5_57 rfl rfl ?_
    refine px_imul S42 d5_58 rfl ?_
    rw [show ((2 : Int32) * (3 : Int32)) = (6 : Int32) from by decide]
    refine px_iconst (v := (1 : Int32)) S42 d5_59 rfl rfl ?_
    refine px_isub S42 d5_60 rfl ?_
    rw [show ((6 : Int32) - (1 : Int32)) = (5 : Int32) from by decide]
    refine px_icmp S42 d5_61 (by decide) (pc' := 185) rfl rfl (fun (hc43 : (5 : Int32).toInt ≥ (5 : Int32).toInt) => ?_) (fun (hc43 : (5 : Int32).toInt < (5 : Int32).toInt) => by exfalso; revert hc43; decide)
    refine px_iconst (v := (2 : Int32)) S42 d5_185 rfl rfl ?_
    refine px_iloadN S42 d5_186 rfl rfl ?_
    refine px_imul S42 d5_187 rfl ?_
    rw [show ((2 : Int32) * (3 : Int32)) = (6 : Int32) from by decide]
    refine px_iconst (v := (1 : Int32)) S42 d5_188 rfl rfl ?_
    refine px_isub S42 d5_189 rfl ?_
    rw [show ((6 : Int32) - (1 : Int32)) = (5 : Int32) from by decide]
    refine px_newarr (aty := .int) (cap := 5) S42 (hw _ (List.mem_of_getElem? (i := 0) rfl)) rfl (n := 5) rfl (by decide) (by decide) (by decide) (by decide) d5_190 rfl (fun T44 h44 b44 z44 g_b44 S44 E44 A_b44 => ?_)
    have ne_t_b44 : t ≠ b44 := ne_new z44 X_t.lt
    have ne_s_b44 : s ≠ b44 := ne_new z44 A_s.lt
    have ne_o_b44 : o ≠ b44 := ne_new z44 A_o.lt
    have ne_ln_b44 : ln ≠ b44 := ne_new z44 A_l.lt
    have ne_b1_b44 : b1 ≠ b44 := ne_new z44 A_b1.lt
    have ne_b2_b44 : b2 ≠ b44 := ne_new z44 A_b2.lt
    have ne_b11_b44 : b11 ≠ b44 := ne_new z44 A_b11.lt
    have ne_b27_b44 : b27 ≠ b44 := ne_new z44 A_b27.lt
    replace X_t := X_t.ext E44
    replace F_lengths_t := F_lengths_t.ext E44
    replace F_codes_t := F_codes_t.ext E44
    replace A_s := A_s.ext E44
    replace A_o := A_o.ext E44
    replace A_l := A_l.ext E44
    replace A_b1 := A_b1.ext E44
    replace A_b2 := A_b2.ext E44
    replace A_b11 := A_b11.ext E44
    replace A_b27 := A_b27.ext E44
    have sz_b44 : h0.size ≤ b44 := by rw [z44]; exact KK.1
    replace KK := KK.ext E44
    refine px_astore S44 d5_192 rfl rfl (L' := #[.val (.ref t), .val (.ref s), .val (.int (3 : Int32)), .val (.ref o), .val (.ref b1), .val (.ref b2), .val (.int (3 : Int32)), .val (.int (4 : Int32)), .val (.ref b44), .val (.ref b27), .val (.int (2 : Int32)), .val (.int (1 : Int32))]) rfl ?_
    refine px_iconst (v := (2 : Int32)) S44 d5_194 rfl rfl ?_
    refine px_iloadN S44 d5_195 rfl rfl ?_
    refine px_imul S44 d5_196 rfl ?_
    rw [show ((2 : Int32) * (3 : Int32)) = (6 : Int32) from by decide]
    refine px_iconst (v := (3 : Int32)) S44 d5_197 rfl rfl ?_
    refine px_isub S44 d5_198 rfl ?_
    rw [show ((6 : Int32) - (3 : Int32)) = (3 : Int32) from by decide]
    refine px_istore S44 d5_199 rfl (L' := #[.val (.ref t), .val (.ref s), .val (.int (3 : Int32)), .val (.ref o), .val (.ref b1), .val (.ref b2), .val (.int (3 : Int32)), .val (.int (4 : Int32)), .val (.ref b44), .val (.int (3 : Int32)), .val (.int (2 : Int32)), .val (.int (1 : Int32))]) rfl ?_
    refine px_iload S44 d5_201 rfl rfl ?_
    refine px_if0 S44 d5_203 (by decide) (pc' := 227) rfl rfl (fun (hc45 : (3 : Int32).toInt < 0) => by exfalso; revert hc45; decide) (fun (hc45 : (3 : Int32).toInt ≥ 0) => ?_)
    refine px_aload S44 d5_206 rfl rfl rfl ?_
    refine px_iload S44 d5_208 rfl rfl ?_
    refine px_aload S44 d5_210 rfl rfl rfl ?_
    refine px_aload S44 d5_212 rfl rfl rfl ?_
    refine px_iload S44 d5_214 rfl rfl ?_
    refine px_iaload (v := (4 : Int32)) S44 A_b2 (i := 3) rfl (by decide) rfl d5_216 rfl ?_
    refine px_iaload (v := (0 : Int32)) S44 A_b44 (i := 4) rfl (by decide) rfl d5_217 rfl ?_
    refine px_iconst (v := (1 : Int32)) S44 d5_218 rfl rfl ?_
    refine px_iadd S44 d5_219 rfl ?_
    rw [show ((0 : Int32) + (1 : Int32)) = (1 : Int32) from by decide]
    refine px_iastore (v := (1 : Int32)) S44 A_b44 g_b44 (i := 3) rfl (by decide) rfl d5_220 rfl (fun T46 h46 S46 W46 A_b44 => ?_)
    replace X_t := X_t.wr W46
    replace F_lengths_t := F_lengths_t.other W46 (Or.inl ne_t_b44)
    replace F_codes_t := F_codes_t.other W46 (Or.inl ne_t_b44)
    replace A_s := A_s.other W46 ne_s_b44
    replace A_o := A_o.other W46 ne_o_b44
    replace A_l := A_l.other W46 ne_ln_b44
    replace A_b1 := A_b1.other W46 ne_b1_b44
    replace A_b2 := A_b2.other W46 ne_b2_b44
    replace A_b11 := A_b11.other W46 ne_b11_b44
    replace A_b27 := A_b27.other W46 ne_b27_b44
    replace KK := KK.wr W46 (Or.inr sz_b44)
    refine px_iinc (v := (-1 : Int32)) (r := (2 : Int32)) S46 d5_221 rfl rfl rfl (by decide) (L' := #[.val (.ref t), .val (.ref s), .val (.int (3 : Int32)), .val (.ref o), .val (.ref b1), .val (.ref b2), .val (.int (3 : Int32)), .val (.int (4 : Int32)), .val (.ref b44), .val (.int (2 : Int32)), .val (.int (2 : Int32)), .val (.int (1 : Int32))]) rfl ?_
    refine px_goto S46 d5_224 (by decide) (pc' := 201) rfl ?_
    refine px_iload S46 d5_201 rfl rfl ?_
    refine px_if0 S46 d5_203 (by decide) (pc' := 227) rfl rfl (fun (hc47 : (2 : Int32).toInt < 0) => by exfalso; revert hc47; decide) (fun (hc47 : (2 : Int32).toInt ≥ 0) => ?_)
    refine px_aload S46 d5_206 rfl rfl rfl ?_
    refine px_iload S46 d5_208 rfl rfl ?_
    refine px_aload S46 d5_210 rfl rfl rfl ?_
    refine px_aload S46 d5_212 rfl rfl rfl ?_
    refine px_iload S46 d5_214 rfl rfl ?_
    refine px_iaload (v := (4 : Int32)) S46 A_b2 (i := 2) rfl (by decide) rfl d5_216 rfl ?_
    refine px_iaload (v := (0 : Int32)) S46 A_b44 (i := 4) rfl (by decide) rfl d5_217 rfl ?_
    refine px_iconst (v := (1 : Int32)) S46 d5_218 rfl rfl ?_
    refine px_iadd S46 d5_219 rfl ?_
    rw [show ((0 : Int32) + (1 : Int32)) = (1 : Int32) from by decide]
    refine px_iastore (v := (1 : Int32)) S46 A_b44 g_b44 (i := 2) rfl (by decide) rfl d5_220 rfl (fun T48 h48 S48 W48 A_b44 => ?_)
    replace X_t := X_t.wr W48
    replace F_lengths_t := F_lengths_t.other W48 (Or.inl ne_t_b44)
    replace F_codes_t := F_codes_t.other W48 (Or.inl ne_t_b44)
    replace A_s := A_s.other W48 ne_s_b44
    replace A_o := A_o.other W48 ne_o_b44
    replace A_l := A_l.other W48 ne_ln_b44
    replace A_b1 := A_b1.other W48 ne_b1_b44
    replace A_b2 := A_b2.other W48 ne_b2_b44
    replace A_b11 := A_b11.other W48 ne_b11_b44
    replace A_b27 := A_b27.other W48 ne_b27_b44
    replace KK := KK.wr W48 (Or.inr sz_b44)
    refine px_iinc (v := (-1 : Int32)) (r := (1 : Int32)) S48 d5_221 rfl rfl rfl (by decide) (L' := #[.val (.ref t), .val (.ref s), .val (.int (3 : Int32)), .val (.ref o), .val (.ref b1), .val (.ref b2), .val (.int (3 : Int32)), .val (.int (4 : Int32)), .val (.ref b44), .val (.int (1 : Int32)), .val (.int (2 : Int32)), .val (.int (1 : Int32))]) rfl ?_
    refine px_goto S48 d5_224 (by decide) (pc' := 201) rfl ?_
    refine px_iload S48 d5_201 rfl rfl ?_
    refine px_if0 S48 d5_203 (by decide) (pc' := 227) rfl rfl (fun (hc49 : (1 : Int32).toInt < 0) => by exfalso; revert hc49; decide) (fun (hc49 : (1 : Int32).toInt ≥ 0) => ?_)
    refine px_aload S48 d5_206 rfl rfl rfl ?_
    refine px_iload S48 d5_208 rfl rfl ?_
    refine px_aload S48 d5_210 rfl rfl rfl ?_
    refine px_aload S48 d5_212 rfl rfl rfl ?_
    refine px_iload S48 d5_214 rfl rfl ?_
    refine px_iaload (v := (3 : Int32)) S48 A_b2 (i := 1) rfl (by decide) rfl d5_216 rfl ?_
    refine px_iaload (v := (1 : Int32)) S48 A_b44 (i := 3) rfl (by decide) rfl d5_217 rfl ?_
    refine px_iconst (v := (1 : Int32)) S48 d5_218 rfl rfl ?_
    refine px_iadd S48 d5_219 rfl ?_
    rw [show ((1 : Int32) + (1 : Int32)) = (2 : Int32) from by decide]
    refine px_iastore (v := (2 : Int32)) S48 A_b44 g_b44 (i := 1) rfl (by decide) rfl d5_220 rfl (fun T50 h50 S50 W50 A_b44 => ?_)
    replace X_t := X_t.wr W50
    replace F_lengths_t := F_lengths_t.other W50 (Or.inl ne_t_b44)
    replace F_codes_t := F_codes_t.other W50 (Or.inl ne_t_b44)
    replace A_s := A_s.other W50 ne_s_b44
    replace A_o := A_o.other W50 ne_o_b44
    replace A_l := A_l.other W50 ne_ln_b44
    replace A_b1 := A_b1.other W50 ne_b1_b44
    replace A_b2 := A_b2.other W50 ne_b2_b44
    replace A_b11 := A_b11.other W50 ne_b11_b44
    replace A_b27 := A_b27.other W50 ne_b27_b44
    replace KK := KK.wr W50 (Or.inr sz_b44)
    refine px_iinc (v := (-1 : Int32)) (r := (0 : Int32)) S50 d5_221 rfl rfl rfl (by decide) (L' := #[.val (.ref t), .val (.ref s), .val (.int (3 : Int32)), .val (.ref o), .val (.ref b1), .val (.ref b2), .val (.int (3 : Int32)), .val (.int (4 : Int32)), .val (.ref b44), .val (.int (0 : Int32)), .val (.int (2 : Int32)), .val (.int (1 : Int32))]) rfl ?_
    refine px_goto S50 d5_224 (by decide) (pc' := 201) rfl ?_
    refine px_iload S50 d5_201 rfl rfl ?_
    refine px_if0 S50 d5_203 (by decide) (pc' := 227) rfl rfl (fun (hc51 : (0 : Int32).toInt < 0) => by exfalso; revert hc51; decide) (fun (hc51 : (0 : Int32).toInt ≥ 0) => ?_)
    refine px_aload S50 d5_206 rfl rfl rfl ?_
    refine px_iload S50 d5_208 rfl rfl ?_
    refine px_aload S50 d5_210 rfl rfl rfl ?_
    refine px_aload S50 d5_212 rfl rfl rfl ?_
    refine px_iload S50 d5_214 rfl rfl ?_
    refine px_iaload (v := (3 : Int32)) S50 A_b2 (i := 0) rfl (by decide) rfl d5_216 rfl ?_
    refine px_iaload (v := (1 : Int32)) S50 A_b44 (i := 3) rfl (by decide) rfl d5_217 rfl ?_
    refine px_iconst (v := (1 : Int32)) S50 d5_218 rfl rfl ?_
    refine px_iadd S50 d5_219 rfl ?_
    rw [show ((1 : Int32) + (1 : Int32)) = (2 : Int32) from by decide]
    refine px_iastore (v := (2 : Int32)) S50 A_b44 g_b44 (i := 0) rfl (by decide) rfl d5_220 rfl (fun T52 h52 S52 W52 A_b44 => ?_)
    replace X_t := X_t.wr W52
    replace F_lengths_t := F_lengths_t.other W52 (Or.inl ne_t_b44)
    replace F_codes_t := F_codes_t.other W52 (Or.inl ne_t_b44)
    replace A_s := A_s.other W52 ne_s_b44
    replace A_o := A_o.other W52 ne_o_b44
    replace A_l := A_l.other W52 ne_ln_b44
    replace A_b1 := A_b1.other W52 ne_b1_b44
    replace A_b2 := A_b2.other W52 ne_b2_b44
    replace A_b11 := A_b11.other W52 ne_b11_b44
    replace A_b27 := A_b27.other W52 ne_b27_b44
    replace KK := KK.wr W52 (Or.inr sz_b44)
    refine px_iinc (v := (-1 : Int32)) (r := (-1 : Int32)) S52 d5_221 rfl rfl rfl (by decide) (L' := #[.val (.ref t), .val (.ref s), .val (.int (3 : Int32)), .val (.ref o), .val (.ref b1), .val (.ref b2), .val (.int (3 : Int32)), .val (.int (4 : Int32)), .val (.ref b44), .val (.int (-1 : Int32)), .val (.int (2 : Int32)), .val (.int (1 : Int32))]) rfl ?_
    refine px_goto S52 d5_224 (by decide) (pc' := 201) rfl ?_
    refine px_iload S52 d5_201 rfl rfl ?_
    refine px_if0 S52 d5_203 (by decide) (pc' := 227) rfl rfl (fun (hc53 : (-1 : Int32).toInt < 0) => ?_) (fun (hc53 : (-1 : Int32).toInt ≥ 0) => by exfalso; revert hc53; decide)
    refine px_iconst (v := (0 : Int32)) S52 d5_227 rfl rfl ?_
    refine px_istore S52 d5_228 rfl (L' := #[.val (.ref t), .val (.ref s), .val (.int (3 : Int32)), .val (.ref o), .val (.ref b1), .val (.ref b2), .val (.int (3 : Int32)), .val (.int (4 : Int32)), .val (.ref b44), .val (.int (0 : Int32)), .val (.int (2 : Int32)), .val (.int (1 : Int32))]) rfl ?_
    refine px_iload S52 d5_230 rfl rfl ?_
    refine px_iloadN S52 d5_232 rfl rfl ?_
    refine px_icmp S52 d5_233 (by decide) (pc' := 256) rfl rfl (fun (hc54 : (0 : Int32).toInt ≥ (3 : Int32).toInt) => by exfalso; revert hc54; decide) (fun (hc54 : (0 : Int32).toInt < (3 : Int32).toInt) => ?_)
    refine px_aloadN S52 d5_236 rfl rfl rfl ?_
    refine px_getfield S52 (hw _ (List.mem_of_getElem? (i := 10) rfl)) F_lengths_t d5_237 rfl (fun T55 S55 => ?_)
    refine px_aloadN S55 d5_240 rfl rfl rfl ?_
    refine px_iload S55 d5_241 rfl rfl ?_
    refine px_iaload (v := (g 0)) S55 A_s (i := 0) rfl (by decide) rfl d5_243 rfl ?_
    refine px_aload S55 d5_244 rfl rfl rfl ?_
    refine px_iload S55 d5_246 rfl rfl ?_
    refine px_iaload (v := (2 : Int32)) S55 A_b44 (i := 0) rfl (by decide) rfl d5_248 rfl ?_
    refine px_iastore (v := (2 : Int32)) S55 A_l g_l (i := X) e0 x0 rfl d5_249 rfl (fun T56 h56 S56 W56 A_l => ?_)
    replace X_t := X_t.wr W56
    replace F_lengths_t := F_lengths_t.other W56 (Or.inl n_tl)
    replace F_codes_t := F_codes_t.other W56 (Or.inl n_tl)
    replace A_s := A_s.other W56 n_sl
    replace A_o := A_o.other W56 n_ol
    replace A_b1 := A_b1.other W56 (Ne.symm ne_ln_b1)
    replace A_b2 := A_b2.other W56 (Ne.symm ne_ln_b2)
    replace A_b11 := A_b11.other W56 (Ne.symm ne_ln_b11)
    replace A_b27 := A_b27.other W56 (Ne.symm ne_ln_b27)
    replace A_b44 := A_b44.other W56 (Ne.symm ne_ln_b44)
    replace KK := KK.wr W56 (Or.inl (by simp))
    refine px_iinc (v := (1 : Int32)) (r := (1 : Int32)) S56 d5_250 rfl rfl rfl (by decide) (L' := #[.val (.ref t), .val (.ref s), .val (.int (3 : Int32)), .val (.ref o), .val (.ref b1), .val (.ref b2), .val (.int (3 : Int32)), .val (.int (4 : Int32)), .val (.ref b44), .val (.int (1 : Int32)), .val (.int (2 : Int32)), .val (.int (1 : Int32))]) rfl ?_
    refine px_goto S56 d5_253 (by decide) (pc' := 230) rfl ?_
    refine px_iload S56 d5_230 rfl rfl ?_
    refine px_iloadN S56 d5_232 rfl rfl ?_
    refine px_icmp S56 d5_233 (by decide) (pc' := 256) rfl rfl (fun (hc57 : (1 : Int32).toInt ≥ (3 : Int32).toInt) => by exfalso; revert hc57; decide) (fun (hc57 : (1 : Int32).toInt < (3 : Int32).toInt) => ?_)
    refine px_aloadN S56 d5_236 rfl rfl rfl ?_
    refine px_getfield S56 (hw _ (List.mem_of_getElem? (i := 10) rfl)) F_lengths_t d5_237 rfl (fun T58 S58 => ?_)
    refine px_aloadN S58 d5_240 rfl rfl rfl ?_
    refine px_iload S58 d5_241 rfl rfl ?_
    refine px_iaload (v := (g 1)) S58 A_s (i := 1) rfl (by decide) rfl d5_243 rfl ?_
    refine px_aload S58 d5_244 rfl rfl rfl ?_
    refine px_iload S58 d5_246 rfl rfl ?_
    refine px_iaload (v := (2 : Int32)) S58 A_b44 (i := 1) rfl (by decide) rfl d5_248 rfl ?_
    refine px_iastore (v := (2 : Int32)) S58 A_l g_l (i := Y) e1 x1 rfl d5_249 rfl (fun T59 h59 S59 W59 A_l => ?_)
    replace X_t := X_t.wr W59
    replace F_lengths_t := F_lengths_t.other W59 (Or.inl n_tl)
    replace F_codes_t := F_codes_t.other W59 (Or.inl n_tl)
    replace A_s := A_s.other W59 n_sl
    replace A_o := A_o.other W59 n_ol
    replace A_b1 := A_b1.other W59 (Ne.symm ne_ln_b1)
    replace A_b2 := A_b2.other W59 (Ne.symm ne_ln_b2)
    replace A_b11 := A_b11.other W59 (Ne.symm ne_ln_b11)
    replace A_b27 := A_b27.other W59 (Ne.symm ne_ln_b27)
    replace A_b44 := A_b44.other W59 (Ne.symm ne_ln_b44)
    replace KK := KK.wr W59 (Or.inl (by simp))
    refine px_iinc (v := (1 : Int32)) (r := (2 : Int32)) S59 d5_250 rfl rfl rfl (by decide) (L' := #[.val (.ref t), .val (.ref s), .val (.int (3 : Int32)), .val (.ref o), .val (.ref b1), .val (.ref b2), .val (.int (3 : Int32)), .val (.int (4 : Int32)), .val (.ref b44), .val (.int (2 : Int32)), .val (.int (2 : Int32)), .val (.int (1 : Int32))]) rfl ?_
    refine px_goto S59 d5_253 (by decide) (pc' := 230) rfl ?_
    refine px_iload S59 d5_230 rfl rfl ?_
    refine px_iloadN S59 d5_232 rfl rfl ?_
    refine px_icmp S59 d5_233 (by decide) (pc' := 256) rfl rfl (fun (hc60 : (2 : Int32).toInt ≥ (3 : Int32).toInt) => by exfalso; revert hc60; decide) (fun (hc60 : (2 : Int32).toInt < (3 : Int32).toInt) => ?_)
    refine px_aloadN S59 d5_236 rfl rfl rfl ?_
    refine px_getfield S59 (hw _ (List.mem_of_getElem? (i := 10) rfl)) F_lengths_t d5_237 rfl (fun T61 S61 => ?_)
    refine px_aloadN S61 d5_240 rfl rfl rfl ?_
    refine px_iload S61 d5_241 rfl rfl ?_
    refine px_iaload (v := (g 2)) S61 A_s (i := 2) rfl (by decide) rfl d5_243 rfl ?_
    refine px_aload S61 d5_244 rfl rfl rfl ?_
    refine px_iload S61 d5_246 rfl rfl ?_
    refine px_iaload (v := (1 : Int32)) S61 A_b44 (i := 2) rfl (by decide) rfl d5_248 rfl ?_
    refine px_iastore (v := (1 : Int32)) S61 A_l g_l (i := W) e2 x2 rfl d5_249 rfl (fun T62 h62 S62 W62 A_l => ?_)
    replace X_t := X_t.wr W62
    replace F_lengths_t := F_lengths_t.other W62 (Or.inl n_tl)
    replace F_codes_t := F_codes_t.other W62 (Or.inl n_tl)
    replace A_s := A_s.other W62 n_sl
    replace A_o := A_o.other W62 n_ol
    replace A_b1 := A_b1.other W62 (Ne.symm ne_ln_b1)
    replace A_b2 := A_b2.other W62 (Ne.symm ne_ln_b2)
    replace A_b11 := A_b11.other W62 (Ne.symm ne_ln_b11)
    replace A_b27 := A_b27.other W62 (Ne.symm ne_ln_b27)
    replace A_b44 := A_b44.other W62 (Ne.symm ne_ln_b44)
    replace KK := KK.wr W62 (Or.inl (by simp))
    refine px_iinc (v := (1 : Int32)) (r := (3 : Int32)) S62 d5_250 rfl rfl rfl (by decide) (L' := #[.val (.ref t), .val (.ref s), .val (.int (3 : Int32)), .val (.ref o), .val (.ref b1), .val (.ref b2), .val (.int (3 : Int32)), .val (.int (4 : Int32)), .val (.ref b44), .val (.int (3 : Int32)), .val (.int (2 : Int32)), .val (.int (1 : Int32))]) rfl ?_
    refine px_goto S62 d5_253 (by decide) (pc' := 230) rfl ?_
    refine px_iload S62 d5_230 rfl rfl ?_
    refine px_iloadN S62 d5_232 rfl rfl ?_
    refine px_icmp S62 d5_233 (by decide) (pc' := 256) rfl rfl (fun (hc63 : (3 : Int32).toInt ≥ (3 : Int32).toInt) => ?_) (fun (hc63 : (3 : Int32).toInt < (3 : Int32).toInt) => by exfalso; revert hc63; decide)
    exact px_return S62 d5_256 rfl (by decide) (by decide) (⟨rfl, KK, A_l⟩)
  · refine px_iconst (v := (1 : Int32)) S27 d5_105 rfl rfl ?_
    refine px_goto S27 d5_106 (by decide) (pc' := 110) rfl ?_
    refine px_istore S27 d5_110 rfl (L' := #[.val (.ref t), .val (.ref s), .val (.int (3 : Int32)), .val (.ref o), .val (.ref b1), .val (.ref b2), .val (.int (2 : Int32)), .val (.int (3 : Int32)), .val (.int (4 : Int32)), .val (.ref b27), .val (.int (0 : Int32)), .val (.int (1 : Int32))]) rfl ?_
    refine px_aload S27 d5_112 rfl rfl rfl ?_
    refine px_iload S27 d5_114 rfl rfl ?_
    refine px_iload S27 d5_116 rfl rfl ?_
    refine px_if0 S27 d5_118 (by decide) (pc' := 129) rfl rfl (fun (hc64 : (1 : Int32).toInt = 0) => by exfalso; revert hc64; decide) (fun (hc64 : ¬ (1 : Int32).toInt = 0) => ?_)
    refine px_iload S27 d5_121 rfl rfl ?_
    refine px_iinc (v := (1 : Int32)) (r := (3 : Int32)) S27 d5_123 rfl rfl rfl (by decide) (L' := #[.val (.ref t), .val (.ref s), .val (.int (3 : Int32)), .val (.ref o), .val (.ref b1), .val (.ref b2), .val (.int (3 : Int32)), .val (.int (3 : Int32)), .val (.int (4 : Int32)), .val (.ref b27), .val (.int (0 : Int32)), .val (.int (1 : Int32))]) rfl ?_
    refine px_goto S27 d5_126 (by decide) (pc' := 134) rfl ?_
    refine px_iastore (v := (2 : Int32)) S27 A_b27 g_b27 (i := 0) rfl (by decide) rfl d5_134 rfl (fun T65 h65 S65 W65 A_b27 => ?_)
    replace X_t := X_t.wr W65
    replace F_lengths_t := F_lengths_t.other W65 (Or.inl ne_t_b27)
    replace F_codes_t := F_codes_t.other W65 (Or.inl ne_t_b27)
    replace A_s := A_s.other W65 ne_s_b27
    replace A_o := A_o.other W65 ne_o_b27
    replace A_l := A_l.other W65 ne_ln_b27
    replace A_b1 := A_b1.other W65 ne_b1_b27
    replace A_b2 := A_b2.other W65 ne_b2_b27
    replace A_b11 := A_b11.other W65 ne_b11_b27
    replace KK := KK.wr W65 (Or.inr sz_b27)
    refine px_iinc (v := (1 : Int32)) (r := (1 : Int32)) S65 d5_135 rfl rfl rfl (by decide) (L' := #[.val (.ref t), .val (.ref s), .val (.int (3 : Int32)), .val (.ref o), .val (.ref b1), .val (.ref b2), .val (.int (3 : Int32)), .val (.int (3 : Int32)), .val (.int (4 : Int32)), .val (.ref b27), .val (.int (1 : Int32)), .val (.int (1 : Int32))]) rfl ?_
    refine px_goto S65 d5_138 (by decide) (pc' := 72) rfl ?_
    refine px_iload S65 d5_72 rfl rfl ?_
    refine px_iconst (v := (2 : Int32)) S65 d5_74 rfl rfl ?_
    refine px_icmp S65 d5_75 (by decide) (pc' := 141) rfl rfl (fun (hc66 : (1 : Int32).toInt ≥ (2 : Int32).toInt) => by exfalso; revert hc66; decide) (fun (hc66 : (1 : Int32).toInt < (2 : Int32).toInt) => ?_)
    refine px_iload S65 d5_78 rfl rfl ?_
    refine px_iloadN S65 d5_80 rfl rfl ?_
    refine px_icmp S65 d5_81 (by decide) (pc' := 109) rfl rfl (fun (hc67 : (3 : Int32).toInt ≥ (3 : Int32).toInt) => ?_) (fun (hc67 : (3 : Int32).toInt < (3 : Int32).toInt) => by exfalso; revert hc67; decide)
    refine px_iconst (v := (0 : Int32)) S65 d5_109 rfl rfl ?_
    refine px_istore S65 d5_110 rfl (L' := #[.val (.ref t), .val (.ref s), .val (.int (3 : Int32)), .val (.ref o), .val (.ref b1), .val (.ref b2), .val (.int (3 : Int32)), .val (.int (3 : Int32)), .val (.int (4 : Int32)), .val (.ref b27), .val (.int (1 : Int32)), .val (.int (0 : Int32))]) rfl ?_
    refine px_aload S65 d5_112 rfl rfl rfl ?_
    refine px_iload S65 d5_114 rfl rfl ?_
    refine px_iload S65 d5_116 rfl rfl ?_
    refine px_if0 S65 d5_118 (by decide) (pc' := 129) rfl rfl (fun (hc68 : (0 : Int32).toInt = 0) => ?_) (fun (hc68 : ¬ (0 : Int32).toInt = 0) => by exfalso; revert hc68; decide)
    refine px_iload S65 d5_129 rfl rfl ?_
    refine px_iinc (v := (1 : Int32)) (r := (4 : Int32)) S65 d5_131 rfl rfl rfl (by decide) (L' := #[.val (.ref t), .val (.ref s), .val (.int (3 : Int32)), .val (.ref o), .val (.ref b1), .val (.ref b2), .val (.int (3 : Int32)), .val (.int (4 : Int32)), .val (.int (4 : Int32)), .val (.ref b27), .val (.int (1 : Int32)), .val (.int (0 : Int32))]) rfl ?_
    refine px_iastore (v := (3 : Int32)) S65 A_b27 g_b27 (i := 1) rfl (by decide) rfl d5_134 rfl (fun T69 h69 S69 W69 A_b27 => ?_)
    replace X_t := X_t.wr W69
    replace F_lengths_t := F_lengths_t.other W69 (Or.inl ne_t_b27)
    replace F_codes_t := F_codes_t.other W69 (Or.inl ne_t_b27)
    replace A_s := A_s.other W69 ne_s_b27
    replace A_o := A_o.other W69 ne_o_b27
    replace A_l := A_l.other W69 ne_ln_b27
    replace A_b1 := A_b1.other W69 ne_b1_b27
    replace A_b2 := A_b2.other W69 ne_b2_b27
    replace A_b11 := A_b11.other W69 ne_b11_b27
    replace KK := KK.wr W69 (Or.inr sz_b27)
    refine px_iinc (v := (1 : Int32)) (r := (2 : Int32)) S69 d5_135 rfl rfl rfl (by decide) (L' := #[.val (.ref t), .val (.ref s), .val (.int (3 : Int32)), .val (.ref o), .val (.ref b1), .val (.ref b2), .val (.int (3 : Int32)), .val (.int (4 : Int32)), .val (.int (4 : Int32)), .val (.ref b27), .val (.int (2 : Int32)), .val (.int (0 : Int32))]) rfl ?_
    refine px_goto S69 d5_138 (by decide) (pc' := 72) rfl ?_
    refine px_iload S69 d5_72 rfl rfl ?_
    refine px_iconst (v := (2 : Int32)) S69 d5_74 rfl rfl ?_
    refine px_icmp S69 d5_75 (by decide) (pc' := 141) rfl rfl (fun (hc70 : (2 : Int32).toInt ≥ (2 : Int32).toInt) => ?_) (fun (hc70 : (2 : Int32).toInt < (2 : Int32).toInt) => by exfalso; revert hc70; decide)
    refine px_aload S69 d5_141 rfl rfl rfl ?_
    refine px_iload S69 d5_143 rfl rfl ?_
    refine px_aload S69 d5_145 rfl rfl rfl ?_
    refine px_aload S69 d5_147 rfl rfl rfl ?_
    refine px_iconst (v := (0 : Int32)) S69 d5_149 rfl rfl ?_
    refine px_iaload (v := (2 : Int32)) S69 A_b27 (i := 0) rfl (by decide) rfl d5_150 rfl ?_
    refine px_laload (v := (fo W).toInt64) S69 A_b1 (i := 2) rfl (by decide) rfl d5_151 rfl ?_
    refine px_aload S69 d5_152 rfl rfl rfl ?_
    refine px_aload S69 d5_154 rfl rfl rfl ?_
    refine px_iconst (v := (1 : Int32)) S69 d5_156 rfl rfl ?_
    refine px_iaload (v := (3 : Int32)) S69 A_b27 (i := 1) rfl (by decide) rfl d5_157 rfl ?_
    refine px_laload (v := ((fo X).toInt64 + (fo Y).toInt64)) S69 A_b1 (i := 3) rfl (by decide) rfl d5_158 rfl ?_
    refine px_ladd S69 d5_159 rfl ?_
    refine px_lastore S69 A_b1 g_b1 (i := 4) rfl (by decide) d5_160 rfl (fun T71 h71 S71 W71 A_b1 => ?_)
    replace X_t := X_t.wr W71
    replace F_lengths_t := F_lengths_t.other W71 (Or.inl ne_t_b1)
    replace F_codes_t := F_codes_t.other W71 (Or.inl ne_t_b1)
    replace A_s := A_s.other W71 ne_s_b1
    replace A_o := A_o.other W71 ne_o_b1
    replace A_l := A_l.other W71 ne_ln_b1
    replace A_b2 := A_b2.other W71 (Ne.symm ne_b1_b2)
    replace A_b11 := A_b11.other W71 (Ne.symm ne_b1_b11)
    replace A_b27 := A_b27.other W71 (Ne.symm ne_b1_b27)
    replace KK := KK.wr W71 (Or.inr sz_b1)
    refine px_aload S71 d5_161 rfl rfl rfl ?_
    refine px_aload S71 d5_163 rfl rfl rfl ?_
    refine px_iconst (v := (0 : Int32)) S71 d5_165 rfl rfl ?_
    refine px_iaload (v := (2 : Int32)) S71 A_b27 (i := 0) rfl (by decide) rfl d5_166 rfl ?_
    refine px_iload S71 d5_167 rfl rfl ?_
    refine px_iastore (v := (4 : Int32)) S71 A_b2 g_b2 (i := 2) rfl (by decide) rfl d5_169 rfl (fun T72 h72 S72 W72 A_b2 => ?_)
    replace X_t := X_t.wr W72
    replace F_lengths_t := F_lengths_t.other W72 (Or.inl ne_t_b2)
    replace F_codes_t := F_codes_t.other W72 (Or.inl ne_t_b2)
    replace A_s := A_s.other W72 ne_s_b2
    replace A_o := A_o.other W72 ne_o_b2
    replace A_l := A_l.other W72 ne_ln_b2
    replace A_b1 := A_b1.other W72 ne_b1_b2
    replace A_b11 := A_b11.other W72 (Ne.symm ne_b2_b11)
    replace A_b27 := A_b27.other W72 (Ne.symm ne_b2_b27)
    replace KK := KK.wr W72 (Or.inr sz_b2)
    refine px_aload S72 d5_170 rfl rfl rfl ?_
    refine px_aload S72 d5_172 rfl rfl rfl ?_
    refine px_iconst (v := (1 : Int32)) S72 d5_174 rfl rfl ?_
    refine px_iaload (v := (3 : Int32)) S72 A_b27 (i := 1) rfl (by decide) rfl d5_175 rfl ?_
    refine px_iload S72 d5_176 rfl rfl ?_
    refine px_iastore (v := (4 : Int32)) S72 A_b2 g_b2 (i := 3) rfl (by decide) rfl d5_178 rfl (fun T73 h73 S73 W73 A_b2 => ?_)
    replace X_t := X_t.wr W73
    replace F_lengths_t := F_lengths_t.other W73 (Or.inl ne_t_b2)
    replace F_codes_t := F_codes_t.other W73 (Or.inl ne_t_b2)
    replace A_s := A_s.other W73 ne_s_b2
    replace A_o := A_o.other W73 ne_o_b2
    replace A_l := A_l.other W73 ne_ln_b2
    replace A_b1 := A_b1.other W73 ne_b1_b2
    replace A_b11 := A_b11.other W73 (Ne.symm ne_b2_b11)
    replace A_b27 := A_b27.other W73 (Ne.symm ne_b2_b27)
    replace KK := KK.wr W73 (Or.inr sz_b2)
    refine px_iinc (v := (1 : Int32)) (r := (5 : Int32)) S73 d5_179 rfl rfl rfl (by decide) (L' := #[.val (.ref t), .val (.ref s), .val (.int (3 : Int32)), .val (.ref o), .val (.ref b1), .val (.ref b2), .val (.int (3 : Int32)), .val (.int (4 : Int32)), .val (.int (5 : Int32)), .val (.ref b27), .val (.int (2 : Int32)), .val (.int (0 : Int32))]) rfl ?_
    refine px_goto S73 d5_182 (by decide) (pc' := 54) rfl ?_
    refine px_iload S73 d5_54 rfl rfl ?_
    refine px_iconst (v := (2 : Int32)) S73 d5_56 rfl rfl ?_
    refine px_iloadN S73 d5_57 rfl rfl ?_
    refine px_imul S73 d5_58 rfl ?_
    rw [show ((2 : Int32) * (3 : Int32)) = (6 : Int32) from by decide]
    refine px_iconst (v := (1 : Int32)) S73 d5_59 rfl rfl ?_
    refine px_isub S73 d5_60 rfl ?_
    rw [show ((6 : Int32) - (1 : Int32)) = (5 : Int32) from by decide]
    refine px_icmp S73 d5_61 (by decide) (pc' := 185) rfl rfl (fun (hc74 : (5 : Int32).toInt ≥ (5 : Int32).toInt) => ?_) (fun (hc74 : (5 : Int32).toInt < (5 : Int32).toInt) => by exfalso; revert hc74; decide)
    refine px_iconst (v := (2 : Int32)) S73 d5_185 rfl rfl ?_
    refine px_iloadN S73 d5_186 rfl rfl ?_
    refine px_imul S73 d5_187 rfl ?_
    rw [show ((2 : Int32) * (3 : Int32)) = (6 : Int32) from by decide]
    refine px_iconst (v := (1 : Int32)) S73 d5_188 rfl rfl ?_
    refine px_isub S73 d5_189 rfl ?_
    rw [show ((6 : Int32) - (1 : Int32)) = (5 : Int32) from by decide]
    refine px_newarr (aty := .int) (cap := 5) S73 (hw _ (List.mem_of_getElem? (i := 0) rfl)) rfl (n := 5) rfl (by decide) (by decide) (by decide) (by decide) d5_190 rfl (fun T75 h75 b75 z75 g_b75 S75 E75 A_b75 => ?_)
    have ne_t_b75 : t ≠ b75 := ne_new z75 X_t.lt
    have ne_s_b75 : s ≠ b75 := ne_new z75 A_s.lt
    have ne_o_b75 : o ≠ b75 := ne_new z75 A_o.lt
    have ne_ln_b75 : ln ≠ b75 := ne_new z75 A_l.lt
    have ne_b1_b75 : b1 ≠ b75 := ne_new z75 A_b1.lt
    have ne_b2_b75 : b2 ≠ b75 := ne_new z75 A_b2.lt
    have ne_b11_b75 : b11 ≠ b75 := ne_new z75 A_b11.lt
    have ne_b27_b75 : b27 ≠ b75 := ne_new z75 A_b27.lt
    replace X_t := X_t.ext E75
    replace F_lengths_t := F_lengths_t.ext E75
    replace F_codes_t := F_codes_t.ext E75
    replace A_s := A_s.ext E75
    replace A_o := A_o.ext E75
    replace A_l := A_l.ext E75
    replace A_b1 := A_b1.ext E75
    replace A_b2 := A_b2.ext E75
    replace A_b11 := A_b11.ext E75
    replace A_b27 := A_b27.ext E75
    have sz_b75 : h0.size ≤ b75 := by rw [z75]; exact KK.1
    replace KK := KK.ext E75
    refine px_astore S75 d5_192 rfl rfl (L' := #[.val (.ref t), .val (.ref s), .val (.int (3 : Int32)), .val (.ref o), .val (.ref b1), .val (.ref b2), .val (.int (3 : Int32)), .val (.int (4 : Int32)), .val (.ref b75), .val (.ref b27), .val (.int (2 : Int32)), .val (.int (0 : Int32))]) rfl ?_
    refine px_iconst (v := (2 : Int32)) S75 d5_194 rfl rfl ?_
    refine px_iloadN S75 d5_195 rfl rfl ?_
    refine px_imul S75 d5_196 rfl ?_
    rw [show ((2 : Int32) * (3 : Int32)) = (6 : Int32) from by decide]
    refine px_iconst (v := (3 : Int32)) S75 d5_197 rfl rfl ?_
    refine px_isub S75 d5_198 rfl ?_
    rw [show ((6 : Int32) - (3 : Int32)) = (3 : Int32) from by decide]
    refine px_istore S75 d5_199 rfl (L' := #[.val (.ref t), .val (.ref s), .val (.int (3 : Int32)), .val (.ref o), .val (.ref b1), .val (.ref b2), .val (.int (3 : Int32)), .val (.int (4 : Int32)), .val (.ref b75), .val (.int (3 : Int32)), .val (.int (2 : Int32)), .val (.int (0 : Int32))]) rfl ?_
    refine px_iload S75 d5_201 rfl rfl ?_
    refine px_if0 S75 d5_203 (by decide) (pc' := 227) rfl rfl (fun (hc76 : (3 : Int32).toInt < 0) => by exfalso; revert hc76; decide) (fun (hc76 : (3 : Int32).toInt ≥ 0) => ?_)
    refine px_aload S75 d5_206 rfl rfl rfl ?_
    refine px_iload S75 d5_208 rfl rfl ?_
    refine px_aload S75 d5_210 rfl rfl rfl ?_
    refine px_aload S75 d5_212 rfl rfl rfl ?_
    refine px_iload S75 d5_214 rfl rfl ?_
    refine px_iaload (v := (4 : Int32)) S75 A_b2 (i := 3) rfl (by decide) rfl d5_216 rfl ?_
    refine px_iaload (v := (0 : Int32)) S75 A_b75 (i := 4) rfl (by decide) rfl d5_217 rfl ?_
    refine px_iconst (v := (1 : Int32)) S75 d5_218 rfl rfl ?_
    refine px_iadd S75 d5_219 rfl ?_
    rw [show ((0 : Int32) + (1 : Int32)) = (1 : Int32) from by decide]
    refine px_iastore (v := (1 : Int32)) S75 A_b75 g_b75 (i := 3) rfl (by decide) rfl d5_220 rfl (fun T77 h77 S77 W77 A_b75 => ?_)
    replace X_t := X_t.wr W77
    replace F_lengths_t := F_lengths_t.other W77 (Or.inl ne_t_b75)
    replace F_codes_t := F_codes_t.other W77 (Or.inl ne_t_b75)
    replace A_s := A_s.other W77 ne_s_b75
    replace A_o := A_o.other W77 ne_o_b75
    replace A_l := A_l.other W77 ne_ln_b75
    replace A_b1 := A_b1.other W77 ne_b1_b75
    replace A_b2 := A_b2.other W77 ne_b2_b75
    replace A_b11 := A_b11.other W77 ne_b11_b75
    replace A_b27 := A_b27.other W77 ne_b27_b75
    replace KK := KK.wr W77 (Or.inr sz_b75)
    refine px_iinc (v := (-1 : Int32)) (r := (2 : Int32)) S77 d5_221 rfl rfl rfl (by decide) (L' := #[.val (.ref t), .val (.ref s), .val (.int (3 : Int32)), .val (.ref o), .val (.ref b1), .val (.ref b2), .val (.int (3 : Int32)), .val (.int (4 : Int32)), .val (.ref b75), .val (.int (2 : Int32)), .val (.int (2 : Int32)), .val (.int (0 : Int32))]) rfl ?_
    refine px_goto S77 d5_224 (by decide) (pc' := 201) rfl ?_
    refine px_iload S77 d5_201 rfl rfl ?_
    refine px_if0 S77 d5_203 (by decide) (pc' := 227) rfl rfl (fun (hc78 : (2 : Int32).toInt < 0) => by exfalso; revert hc78; decide) (fun (hc78 : (2 : Int32).toInt ≥ 0) => ?_)
    refine px_aload S77 d5_206 rfl rfl rfl ?_
    refine px_iload S77 d5_208 rfl rfl ?_
    refine px_aload S77 d5_210 rfl rfl rfl ?_
    refine px_aload S77 d5_212 rfl rfl rfl ?_
    refine px_iload S77 d5_214 rfl rfl ?_
    refine px_iaload (v := (4 : Int32)) S77 A_b2 (i := 2) rfl (by decide) rfl d5_216 rfl ?_
    refine px_iaload (v := (0 : Int32)) S77 A_b75 (i := 4) rfl (by decide) rfl d5_217 rfl ?_
    refine px_iconst (v := (1 : Int32)) S77 d5_218 rfl rfl ?_
    refine px_iadd S77 d5_219 rfl ?_
    rw [show ((0 : Int32) + (1 : Int32)) = (1 : Int32) from by decide]
    refine px_iastore (v := (1 : Int32)) S77 A_b75 g_b75 (i := 2) rfl (by decide) rfl d5_220 rfl (fun T79 h79 S79 W79 A_b75 => ?_)
    replace X_t := X_t.wr W79
    replace F_lengths_t := F_lengths_t.other W79 (Or.inl ne_t_b75)
    replace F_codes_t := F_codes_t.other W79 (Or.inl ne_t_b75)
    replace A_s := A_s.other W79 ne_s_b75
    replace A_o := A_o.other W79 ne_o_b75
    replace A_l := A_l.other W79 ne_ln_b75
    replace A_b1 := A_b1.other W79 ne_b1_b75
    replace A_b2 := A_b2.other W79 ne_b2_b75
    replace A_b11 := A_b11.other W79 ne_b11_b75
    replace A_b27 := A_b27.other W79 ne_b27_b75
    replace KK := KK.wr W79 (Or.inr sz_b75)
    refine px_iinc (v := (-1 : Int32)) (r := (1 : Int32)) S79 d5_221 rfl rfl rfl (by decide) (L' := #[.val (.ref t), .val (.ref s), .val (.int (3 : Int32)), .val (.ref o), .val (.ref b1), .val (.ref b2), .val (.int (3 : Int32)), .val (.int (4 : Int32)), .val (.ref b75), .val (.int (1 : Int32)), .val (.int (2 : Int32)), .val (.int (0 : Int32))]) rfl ?_
    refine px_goto S79 d5_224 (by decide) (pc' := 201) rfl ?_
    refine px_iload S79 d5_201 rfl rfl ?_
    refine px_if0 S79 d5_203 (by decide) (pc' := 227) rfl rfl (fun (hc80 : (1 : Int32).toInt < 0) => by exfalso; revert hc80; decide) (fun (hc80 : (1 : Int32).toInt ≥ 0) => ?_)
    refine px_aload S79 d5_206 rfl rfl rfl ?_
    refine px_iload S79 d5_208 rfl rfl ?_
    refine px_aload S79 d5_210 rfl rfl rfl ?_
    refine px_aload S79 d5_212 rfl rfl rfl ?_
    refine px_iload S79 d5_214 rfl rfl ?_
    refine px_iaload (v := (3 : Int32)) S79 A_b2 (i := 1) rfl (by decide) rfl d5_216 rfl ?_
    refine px_iaload (v := (1 : Int32)) S79 A_b75 (i := 3) rfl (by decide) rfl d5_217 rfl ?_
    refine px_iconst (v := (1 : Int32)) S79 d5_218 rfl rfl ?_
    refine px_iadd S79 d5_219 rfl ?_
    rw [show ((1 : Int32) + (1 : Int32)) = (2 : Int32) from by decide]
    refine px_iastore (v := (2 : Int32)) S79 A_b75 g_b75 (i := 1) rfl (by decide) rfl d5_220 rfl (fun T81 h81 S81 W81 A_b75 => ?_)
    replace X_t := X_t.wr W81
    replace F_lengths_t := F_lengths_t.other W81 (Or.inl ne_t_b75)
    replace F_codes_t := F_codes_t.other W81 (Or.inl ne_t_b75)
    replace A_s := A_s.other W81 ne_s_b75
    replace A_o := A_o.other W81 ne_o_b75
    replace A_l := A_l.other W81 ne_ln_b75
    replace A_b1 := A_b1.other W81 ne_b1_b75
    replace A_b2 := A_b2.other W81 ne_b2_b75
    replace A_b11 := A_b11.other W81 ne_b11_b75
    replace A_b27 := A_b27.other W81 ne_b27_b75
    replace KK := KK.wr W81 (Or.inr sz_b75)
    refine px_iinc (v := (-1 : Int32)) (r := (0 : Int32)) S81 d5_221 rfl rfl rfl (by decide) (L' := #[.val (.ref t), .val (.ref s), .val (.int (3 : Int32)), .val (.ref o), .val (.ref b1), .val (.ref b2), .val (.int (3 : Int32)), .val (.int (4 : Int32)), .val (.ref b75), .val (.int (0 : Int32)), .val (.int (2 : Int32)), .val (.int (0 : Int32))]) rfl ?_
    refine px_goto S81 d5_224 (by decide) (pc' := 201) rfl ?_
    refine px_iload S81 d5_201 rfl rfl ?_
    refine px_if0 S81 d5_203 (by decide) (pc' := 227) rfl rfl (fun (hc82 : (0 : Int32).toInt < 0) => by exfalso; revert hc82; decide) (fun (hc82 : (0 : Int32).toInt ≥ 0) => ?_)
    refine px_aload S81 d5_206 rfl rfl rfl ?_
    refine px_iload S81 d5_208 rfl rfl ?_
    refine px_aload S81 d5_210 rfl rfl rfl ?_
    refine px_aload S81 d5_212 rfl rfl rfl ?_
    refine px_iload S81 d5_214 rfl rfl ?_
    refine px_iaload (v := (3 : Int32)) S81 A_b2 (i := 0) rfl (by decide) rfl d5_216 rfl ?_
    refine px_iaload (v := (1 : Int32)) S81 A_b75 (i := 3) rfl (by decide) rfl d5_217 rfl ?_
    refine px_iconst (v := (1 : Int32)) S81 d5_218 rfl rfl ?_
    refine px_iadd S81 d5_219 rfl ?_
    rw [show ((1 : Int32) + (1 : Int32)) = (2 : Int32) from by decide]
    refine px_iastore (v := (2 : Int32)) S81 A_b75 g_b75 (i := 0) rfl (by decide) rfl d5_220 rfl (fun T83 h83 S83 W83 A_b75 => ?_)
    replace X_t := X_t.wr W83
    replace F_lengths_t := F_lengths_t.other W83 (Or.inl ne_t_b75)
    replace F_codes_t := F_codes_t.other W83 (Or.inl ne_t_b75)
    replace A_s := A_s.other W83 ne_s_b75
    replace A_o := A_o.other W83 ne_o_b75
    replace A_l := A_l.other W83 ne_ln_b75
    replace A_b1 := A_b1.other W83 ne_b1_b75
    replace A_b2 := A_b2.other W83 ne_b2_b75
    replace A_b11 := A_b11.other W83 ne_b11_b75
    replace A_b27 := A_b27.other W83 ne_b27_b75
    replace KK := KK.wr W83 (Or.inr sz_b75)
    refine px_iinc (v := (-1 : Int32)) (r := (-1 : Int32)) S83 d5_221 rfl rfl rfl (by decide) (L' := #[.val (.ref t), .val (.ref s), .val (.int (3 : Int32)), .val (.ref o), .val (.ref b1), .val (.ref b2), .val (.int (3 : Int32)), .val (.int (4 : Int32)), .val (.ref b75), .val (.int (-1 : Int32)), .val (.int (2 : Int32)), .val (.int (0 : Int32))]) rfl ?_
    refine px_goto S83 d5_224 (by decide) (pc' := 201) rfl ?_
    refine px_iload S83 d5_201 rfl rfl ?_
    refine px_if0 S83 d5_203 (by decide) (pc' := 227) rfl rfl (fun (hc84 : (-1 : Int32).toInt < 0) => ?_) (fun (hc84 : (-1 : Int32).toInt ≥ 0) => by exfalso; revert hc84; decide)
    refine px_iconst (v := (0 : Int32)) S83 d5_227 rfl rfl ?_
    refine px_istore S83 d5_228 rfl (L' := #[.val (.ref t), .val (.ref s), .val (.int (3 : Int32)), .val (.ref o), .val (.ref b1), .val (.ref b2), .val (.int (3 : Int32)), .val (.int (4 : Int32)), .val (.ref b75), .val (.int (0 : Int32)), .val (.int (2 : Int32)), .val (.int (0 : Int32))]) rfl ?_
    refine px_iload S83 d5_230 rfl rfl ?_
    refine px_iloadN S83 d5_232 rfl rfl ?_
    refine px_icmp S83 d5_233 (by decide) (pc' := 256) rfl rfl (fun (hc85 : (0 : Int32).toInt ≥ (3 : Int32).toInt) => by exfalso; revert hc85; decide) (fun (hc85 : (0 : Int32).toInt < (3 : Int32).toInt) => ?_)
    refine px_aloadN S83 d5_236 rfl rfl rfl ?_
    refine px_getfield S83 (hw _ (List.mem_of_getElem? (i := 10) rfl)) F_lengths_t d5_237 rfl (fun T86 S86 => ?_)
    refine px_aloadN S86 d5_240 rfl rfl rfl ?_
    refine px_iload S86 d5_241 rfl rfl ?_
    refine px_iaload (v := (g 0)) S86 A_s (i := 0) rfl (by decide) rfl d5_243 rfl ?_
    refine px_aload S86 d5_244 rfl rfl rfl ?_
    refine px_iload S86 d5_246 rfl rfl ?_
    refine px_iaload (v := (2 : Int32)) S86 A_b75 (i := 0) rfl (by decide) rfl d5_248 rfl ?_
    refine px_iastore (v := (2 : Int32)) S86 A_l g_l (i := X) e0 x0 rfl d5_249 rfl (fun T87 h87 S87 W87 A_l => ?_)
    replace X_t := X_t.wr W87
    replace F_lengths_t := F_lengths_t.other W87 (Or.inl n_tl)
    replace F_codes_t := F_codes_t.other W87 (Or.inl n_tl)
    replace A_s := A_s.other W87 n_sl
    replace A_o := A_o.other W87 n_ol
    replace A_b1 := A_b1.other W87 (Ne.symm ne_ln_b1)
    replace A_b2 := A_b2.other W87 (Ne.symm ne_ln_b2)
    replace A_b11 := A_b11.other W87 (Ne.symm ne_ln_b11)
    replace A_b27 := A_b27.other W87 (Ne.symm ne_ln_b27)
    replace A_b75 := A_b75.other W87 (Ne.symm ne_ln_b75)
    replace KK := KK.wr W87 (Or.inl (by simp))
    refine px_iinc (v := (1 : Int32)) (r := (1 : Int32)) S87 d5_250 rfl rfl rfl (by decide) (L' := #[.val (.ref t), .val (.ref s), .val (.int (3 : Int32)), .val (.ref o), .val (.ref b1), .val (.ref b2), .val (.int (3 : Int32)), .val (.int (4 : Int32)), .val (.ref b75), .val (.int (1 : Int32)), .val (.int (2 : Int32)), .val (.int (0 : Int32))]) rfl ?_
    refine px_goto S87 d5_253 (by decide) (pc' := 230) rfl ?_
    refine px_iload S87 d5_230 rfl rfl ?_
    refine px_iloadN S87 d5_232 rfl rfl ?_
    refine px_icmp S87 d5_233 (by decide) (pc' := 256) rfl rfl (fun (hc88 : (1 : Int32).toInt ≥ (3 : Int32).toInt) => by exfalso; revert hc88; decide) (fun (hc88 : (1 : Int32).toInt < (3 : Int32).toInt) => ?_)
    refine px_aloadN S87 d5_236 rfl rfl rfl ?_
    refine px_getfield S87 (hw _ (List.mem_of_getElem? (i := 10) rfl)) F_lengths_t d5_237 rfl (fun T89 S89 => ?_)
    refine px_aloadN S89 d5_240 rfl rfl rfl ?_
    refine px_iload S89 d5_241 rfl rfl ?_
    refine px_iaload (v := (g 1)) S89 A_s (i := 1) rfl (by decide) rfl d5_243 rfl ?_
    refine px_aload S89 d5_244 rfl rfl rfl ?_
    refine px_iload S89 d5_246 rfl rfl ?_
    refine px_iaload (v := (2 : Int32)) S89 A_b75 (i := 1) rfl (by decide) rfl d5_248 rfl ?_
    refine px_iastore (v := (2 : Int32)) S89 A_l g_l (i := Y) e1 x1 rfl d5_249 rfl (fun T90 h90 S90 W90 A_l => ?_)
    replace X_t := X_t.wr W90
    replace F_lengths_t := F_lengths_t.other W90 (Or.inl n_tl)
    replace F_codes_t := F_codes_t.other W90 (Or.inl n_tl)
    replace A_s := A_s.other W90 n_sl
    replace A_o := A_o.other W90 n_ol
    replace A_b1 := A_b1.other W90 (Ne.symm ne_ln_b1)
    replace A_b2 := A_b2.other W90 (Ne.symm ne_ln_b2)
    replace A_b11 := A_b11.other W90 (Ne.symm ne_ln_b11)
    replace A_b27 := A_b27.other W90 (Ne.symm ne_ln_b27)
    replace A_b75 := A_b75.other W90 (Ne.symm ne_ln_b75)
    replace KK := KK.wr W90 (Or.inl (by simp))
    refine px_iinc (v := (1 : Int32)) (r := (2 : Int32)) S90 d5_250 rfl rfl rfl (by decide) (L' := #[.val (.ref t), .val (.ref s), .val (.int (3 : Int32)), .val (.ref o), .val (.ref b1), .val (.ref b2), .val (.int (3 : Int32)), .val (.int (4 : Int32)), .val (.ref b75), .val (.int (2 : Int32)), .val (.int (2 : Int32)), .val (.int (0 : Int32))]) rfl ?_
    refine px_goto S90 d5_253 (by decide) (pc' := 230) rfl ?_
    refine px_iload S90 d5_230 rfl rfl ?_
    refine px_iloadN S90 d5_232 rfl rfl ?_
    refine px_icmp S90 d5_233 (by decide) (pc' := 256) rfl rfl (fun (hc91 : (2 : Int32).toInt ≥ (3 : Int32).toInt) => by exfalso; revert hc91; decide) (fun (hc91 : (2 : Int32).toInt < (3 : Int32).toInt) => ?_)
    refine px_aloadN S90 d5_236 rfl rfl rfl ?_
    refine px_getfield S90 (hw _ (List.mem_of_getElem? (i := 10) rfl)) F_lengths_t d5_237 rfl (fun T92 S92 => ?_)
    refine px_aloadN S92 d5_240 rfl rfl rfl ?_
    refine px_iload S92 d5_241 rfl rfl ?_
    refine px_iaload (v := (g 2)) S92 A_s (i := 2) rfl (by decide) rfl d5_243 rfl ?_
    refine px_aload S92 d5_244 rfl rfl rfl ?_
    refine px_iload S92 d5_246 rfl rfl ?_
    refine px_iaload (v := (1 : Int32)) S92 A_b75 (i := 2) rfl (by decide) rfl d5_248 rfl ?_
    refine px_iastore (v := (1 : Int32)) S92 A_l g_l (i := W) e2 x2 rfl d5_249 rfl (fun T93 h93 S93 W93 A_l => ?_)
    replace X_t := X_t.wr W93
    replace F_lengths_t := F_lengths_t.other W93 (Or.inl n_tl)
    replace F_codes_t := F_codes_t.other W93 (Or.inl n_tl)
    replace A_s := A_s.other W93 n_sl
    replace A_o := A_o.other W93 n_ol
    replace A_b1 := A_b1.other W93 (Ne.symm ne_ln_b1)
    replace A_b2 := A_b2.other W93 (Ne.symm ne_ln_b2)
    replace A_b11 := A_b11.other W93 (Ne.symm ne_ln_b11)
    replace A_b27 := A_b27.other W93 (Ne.symm ne_ln_b27)
    replace A_b75 := A_b75.other W93 (Ne.symm ne_ln_b75)
    replace KK := KK.wr W93 (Or.inl (by simp))
    refine px_iinc (v := (1 : Int32)) (r := (3 : Int32)) S93 d5_250 rfl rfl rfl (by decide) (L' := #[.val (.ref t), .val (.ref s), .val (.int (3 : Int32)), .val (.ref o), .val (.ref b1), .val (.ref b2), .val (.int (3 : Int32)), .val (.int (4 : Int32)), .val (.ref b75), .val (.int (3 : Int32)), .val (.int (2 : Int32)), .val (.int (0 : Int32))]) rfl ?_
    refine px_goto S93 d5_253 (by decide) (pc' := 230) rfl ?_
    refine px_iload S93 d5_230 rfl rfl ?_
    refine px_iloadN S93 d5_232 rfl rfl ?_
    refine px_icmp S93 d5_233 (by decide) (pc' := 256) rfl rfl (fun (hc94 : (3 : Int32).toInt ≥ (3 : Int32).toInt) => ?_) (fun (hc94 : (3 : Int32).toInt < (3 : Int32).toInt) => by exfalso; revert hc94; decide)
    exact px_return S93 d5_256 rfl (by decide) (by decide) (⟨rfl, KK, A_l⟩)
theorem d6_0 : decode prog_46_method_11_code 0 = .ok (.lconst 0, 1) := by decide +kernel
theorem d6_1 : decode prog_46_method_11_code 1 = .ok (.lstore 4, 2) := by decide +kernel
theorem d6_3 : decode prog_46_method_11_code 3 = .ok (.iconst 0, 1) := by decide +kernel
theorem d6_4 : decode prog_46_method_11_code 4 = .ok (.istore 6, 2) := by decide +kernel
theorem d6_6 : decode prog_46_method_11_code 6 = .ok (.iload 6, 2) := by decide +kernel
theorem d6_8 : decode prog_46_method_11_code 8 = .ok (.iload_n 2, 1) := by decide +kernel
theorem d6_9 : decode prog_46_method_11_code 9 = .ok (.if_icmp .ge 51, 3) := by decide +kernel
theorem d6_12 : decode prog_46_method_11_code 12 = .ok (.aload_n 1, 1) := by decide +kernel
theorem d6_13 : decode prog_46_method_11_code 13 = .ok (.iload 6, 2) := by decide +kernel
theorem d6_15 : decode prog_46_method_11_code 15 = .ok (.iaload, 1) := by decide +kernel
theorem d6_16 : decode prog_46_method_11_code 16 = .ok (.istore 7, 2) := by decide +kernel
theorem d6_18 : decode prog_46_method_11_code 18 = .ok (.aload_n 0, 1) := by decide +kernel
theorem d6_19 : decode prog_46_method_11_code 19 = .ok (.getfield 11, 3) := by decide +kernel
theorem d6_22 : decode prog_46_method_11_code 22 = .ok (.iload 7, 2) := by decide +kernel
theorem d6_24 : decode prog_46_method_11_code 24 = .ok (.aload_n 0, 1) := by decide +kernel
theorem d6_25 : decode prog_46_method_11_code 25 = .ok (.getfield 11, 3) := by decide +kernel
theorem d6_28 : decode prog_46_method_11_code 28 = .ok (.iload 7, 2) := by decide +kernel
theorem d6_30 : decode prog_46_method_11_code 30 = .ok (.iaload, 1) := by decide +kernel
theorem d6_31 : decode prog_46_method_11_code 31 = .ok (.bipush 11, 2) := by decide +kernel
theorem d6_33 : decode prog_46_method_11_code 33 = .ok (.invokestatic 95, 3) := by decide +kernel
theorem d6_36 : decode prog_46_method_11_code 36 = .ok (.iastore, 1) := by decide +kernel
theorem d6_37 : decode prog_46_method_11_code 37 = .ok (.lload 4, 2) := by decide +kernel
theorem d6_39 : decode prog_46_method_11_code 39 = .ok (.lconst 1, 1) := by decide +kernel
theorem d6_40 : decode prog_46_method_11_code 40 = .ok (.bipush 11, 2) := by decide +kernel
theorem d6_42 : decode prog_46_method_11_code 42 = .ok (.aload_n 0, 1) := by decide +kernel
theorem d6_43 : decode prog_46_method_11_code 43 = .ok (.getfield 11, 3) := by decide +kernel
theorem d6_46 : decode prog_46_method_11_code 46 = .ok (.iload 7, 2) := by decide +kernel
theorem d6_48 : decode prog_46_method_11_code 48 = .ok (.iaload, 1) := by decide +kernel
theorem d6_49 : decode prog_46_method_11_code 49 = .ok (.isub, 1) := by decide +kernel
theorem d6_50 : decode prog_46_method_11_code 50 = .ok (.lshl, 1) := by decide +kernel
theorem d6_51 : decode prog_46_method_11_code 51 = .ok (.ladd, 1) := by decide +kernel
theorem d6_52 : decode prog_46_method_11_code 52 = .ok (.lstore 4, 2) := by decide +kernel
theorem d6_54 : decode prog_46_method_11_code 54 = .ok (.iinc 6 1, 3) := by decide +kernel
theorem d6_57 : decode prog_46_method_11_code 57 = .ok (.goto (-51), 3) := by decide +kernel
theorem d6_60 : decode prog_46_method_11_code 60 = .ok (.ldc2_w 98, 3) := by decide +kernel
theorem d6_63 : decode prog_46_method_11_code 63 = .ok (.lstore 6, 2) := by decide +kernel
theorem d6_65 : decode prog_46_method_11_code 65 = .ok (.lload 4, 2) := by decide +kernel
theorem d6_67 : decode prog_46_method_11_code 67 = .ok (.lload 6, 2) := by decide +kernel
theorem d6_69 : decode prog_46_method_11_code 69 = .ok (.lcmp, 1) := by decide +kernel
theorem d6_70 : decode prog_46_method_11_code 70 = .ok (.ifCond .le 95, 3) := by decide +kernel
theorem d6_165 : decode prog_46_method_11_code 165 = .ok (.lload 4, 2) := by decide +kernel
theorem d6_167 : decode prog_46_method_11_code 167 = .ok (.lload 6, 2) := by decide +kernel
theorem d6_169 : decode prog_46_method_11_code 169 = .ok (.lcmp, 1) := by decide +kernel
theorem d6_170 : decode prog_46_method_11_code 170 = .ok (.ifCond .ge 95, 3) := by decide +kernel
theorem d6_265 : decode prog_46_method_11_code 265 = .ok (.return_, 1) := by decide +kernel
theorem pd_6_0 : parseMethodDescriptor "(II)I" = some ⟨[.int, .int], some .int⟩ := by decide +kernel
theorem pn_6 : plainFor (⟨"com/example/colonnade/colonnade/compress/HuffmanEncoder", "limitLengths", "([II[I)V"⟩ : MethodName) = true := plainFor_of_name (by first | (simp [plainName, overriddenIn]; done) | decide +kernel)
set_option maxRecDepth 65536 in
set_option maxHeartbeats 40000000 in
theorem c_lim2 {Z : State} {a0 : Array Value} (hw : ∀ d ∈ tables_1, d.before a0 Z = true) {t s o ln cd : Addr} {X Y : Nat} {g fl : Nat → Int32} {h0 : Heap} {n0 : Nat} (Z0 : n0 ≤ h0.size) (X_t : Exa Z h0 t "com/example/colonnade/colonnade/compress/HuffmanEncoder") (F_lengths_t : Fld Z h0 t "com/example/colonnade/colonnade/compress/HuffmanEncoder" "lengths" "[I" (.ref ln)) (F_codes_t : Fld Z h0 t "com/example/colonnade/colonnade/compress/HuffmanEncoder" "codes" "[I" (.ref cd)) (A_s : AI Z h0 s .int 256 g) (A_l : AI Z h0 ln .int 256 fl) (g_l : n0 ≤ ln) (n_tl : t ≠ ln) (n_sl : s ≠ ln) (e0 : (g 0).toInt = (X : Int)) (e1 : (g 1).toInt = (Y : Int)) (x0 : X < 256) (x1 : Y < 256) (lX : fl X = (1 : Int32)) (lY : fl Y = (1 : Int32)) :
    Ctr Z n0 (⟨"com/example/colonnade/colonnade/compress/HuffmanEncoder", "limitLengths", "([II[I)V"⟩ : MethodName) prog_46_method_11_code 11 none ({ frames := 1, cells := 0, slots := 0, locals := 15 } : Room) [(.ref t), (.ref s), (.int (2 : Int32)), (.ref o)] h0 (fun v h => v = none ∧ Keep h0 h [ln] ∧ AI Z h ln .int 256 fl) := by
  refine Ctr.of (L := #[.val (.ref t), .val (.ref s), .val (.int (2 : Int32)), .val (.ref o), .unset, .unset, .unset, .unset, .unset, .unset, .unset]) pn_6 Z0 (fun m => by first | (simp [entryFrame, mkF, argsToLocals, Value.category]; done) | rfl) ?_
  intro K T S0
  have KK := Keep.refl h0 [ln]
  refine px_lconst (v := (0 : Int64)) S0 d6_0 rfl rfl ?_
  refine px_lstore S0 d6_1 rfl (L' := #[.val (.ref t), .val (.ref s), .val (.int (2 : Int32)), .val (.ref o), .val (.long (0 : Int64)), .second, .unset, .unset, .unset, .unset, .unset]) rfl ?_
  refine px_iconst (v := (0 : Int32)) S0 d6_3 rfl rfl ?_
  refine px_istore S0 d6_4 rfl (L' := #[.val (.ref t), .val (.ref s), .val (.int (2 : Int32)), .val (.ref o), .val (.long (0 : Int64)), .second, .val (.int (0 : Int32)), .unset, .unset, .unset, .unset]) rfl ?_
  refine px_iload S0 d6_6 rfl rfl ?_
  refine px_iloadN S0 d6_8 rfl rfl ?_
  refine px_icmp S0 d6_9 (by decide) (pc' := 60) rfl rfl (fun (hc1 : (0 : Int32).toInt ≥ (2 : Int32).toInt) => by exfalso; revert hc1; decide) (fun (hc1 : (0 : Int32).toInt < (2 : Int32).toInt) => ?_)
  refine px_aloadN S0 d6_12 rfl rfl rfl ?_
  refine px_iload S0 d6_13 rfl rfl ?_
  refine px_iaload (v := (g 0)) S0 A_s (i := 0) rfl (by decide) rfl d6_15 rfl ?_
  refine px_istore S0 d6_16 rfl (L' := #[.val (.ref t), .val (.ref s), .val (.int (2 : Int32)), .val (.ref o), .val (.long (0 : Int64)), .second, .val (.int (0 : Int32)), .val (.int (g 0)), .unset, .unset, .unset]) rfl ?_
  refine px_aloadN S0 d6_18 rfl rfl rfl ?_
  refine px_getfield S0 (hw _ (List.mem_of_getElem? (i := 10) rfl)) F_lengths_t d6_19 rfl (fun T2 S2 => ?_)
  refine px_iload S2 d6_22 rfl rfl ?_
  refine px_aloadN S2 d6_24 rfl rfl rfl ?_
  refine px_getfield S2 (hw _ (List.mem_of_getElem? (i := 10) rfl)) F_lengths_t d6_25 rfl (fun T3 S3 => ?_)
  refine px_iload S3 d6_28 rfl rfl ?_
  refine px_iaload (v := (1 : Int32)) S3 A_l (i := X) e0 x0 lX d6_30 rfl ?_
  refine px_bipush (v := (11 : Int32)) S3 d6_31 rfl rfl ?_
  refine px_callS (as' := [(.int (1 : Int32)), (.int (11 : Int32))]) (st := [(.int (g 0)), (.ref ln)]) (W := 2) S3 (c_min hw S3.size (by decide)) (hw _ (List.mem_of_getElem? (i := 31) rfl)) (hw _ (List.mem_of_getElem? (i := 32) rfl)) (hw _ (List.mem_of_getElem? (i := 33) rfl)) (hw _ (List.mem_of_getElem? (i := 34) rfl)) (by decide) pd_6_0 rfl rfl (by decide) rfl (by decide) (by decide) (by decide) d6_33 rfl rfl (fun T4 h4 v4 S4 q4 => ?_)
  obtain ⟨rfl, rfl⟩ := q4
  show Go _ _ _ _ _ _ _ [(.int (1 : Int32)), (.int (g 0)), (.ref ln)]
  refine px_iastore (v := (1 : Int32)) S4 A_l g_l (i := X) e0 x0 rfl d6_36 rfl (fun T5 h5 S5 W5 A_l => ?_)
  replace X_t := X_t.wr W5
  replace F_lengths_t := F_lengths_t.other W5 (Or.inl n_tl)
  replace F_codes_t := F_codes_t.other W5 (Or.inl n_tl)
  replace A_s := A_s.other W5 n_sl
  replace A_l := A_l.congr (upd_id lX)
  replace KK := KK.wr W5 (Or.inl (by simp))
  refine px_lload S5 d6_37 rfl rfl ?_
  refine px_lconst (v := (1 : Int64)) S5 d6_39 rfl rfl ?_
  refine px_bipush (v := (11 : Int32)) S5 d6_40 rfl rfl ?_
  refine px_aloadN S5 d6_42 rfl rfl rfl ?_
  refine px_getfield S5 (hw _ (List.mem_of_getElem? (i := 10) rfl)) F_lengths_t d6_43 rfl (fun T6 S6 => ?_)
  refine px_iload S6 d6_46 rfl rfl ?_
  refine px_iaload (v := (1 : Int32)) S6 A_l (i := X) e0 x0 lX d6_48 rfl ?_
  refine px_isub S6 d6_49 rfl ?_
  rw [show ((11 : Int32) - (1 : Int32)) = (10 : Int32) from by decide]
  refine px_lshl S6 d6_50 rfl ?_
  rw [show ((1 : Int64) <<< ((10 : Int32) &&& 0x3f).toInt64) = (1024 : Int64) from by decide]
  refine px_ladd S6 d6_51 rfl ?_
  rw [show ((0 : Int64) + (1024 : Int64)) = (1024 : Int64) from by decide]
  refine px_lstore S6 d6_52 rfl (L' := #[.val (.ref t), .val (.ref s), .val (.int (2 : Int32)), .val (.ref o), .val (.long (1024 : Int64)), .second, .val (.int (0 : Int32)), .val (.int (g 0)), .unset, .unset, .unset]) rfl ?_
  refine px_iinc (v := (1 : Int32)) (r := (1 : Int32)) S6 d6_54 rfl rfl rfl (by decide) (L' := #[.val (.ref t), .val (.ref s), .val (.int (2 : Int32)), .val (.ref o), .val (.long (1024 : Int64)), .second, .val (.int (1 : Int32)), .val (.int (g 0)), .unset, .unset, .unset]) rfl ?_
  refine px_goto S6 d6_57 (by decide) (pc' := 6) rfl ?_
  refine px_iload S6 d6_6 rfl rfl ?_
  refine px_iloadN S6 d6_8 rfl rfl ?_
  refine px_icmp S6 d6_9 (by decide) (pc' := 60) rfl rfl (fun (hc7 : (1 : Int32).toInt ≥ (2 : Int32).toInt) => by exfalso; revert hc7; decide) (fun (hc7 : (1 : Int32).toInt < (2 : Int32).toInt) => ?_)
  refine px_aloadN S6 d6_12 rfl rfl rfl ?_
  refine px_iload S6 d6_13 rfl rfl ?_
  refine px_iaload (v := (g 1)) S6 A_s (i := 1) rfl (by decide) rfl d6_15 rfl ?_
  refine px_istore S6 d6_16 rfl (L' := #[.val (.ref t), .val (.ref s), .val (.int (2 : Int32)), .val (.ref o), .val (.long (1024 : Int64)), .second, .val (.int (1 : Int32)), .val (.int (g 1)), .unset, .unset, .unset]) rfl ?_
  refine px_aloadN S6 d6_18 rfl rfl rfl ?_
  refine px_getfield S6 (hw _ (List.mem_of_getElem? (i := 10) rfl)) F_lengths_t d6_19 rfl (fun T8 S8 => ?_)
  refine px_iload S8 d6_22 rfl rfl ?_
  refine px_aloadN S8 d6_24 rfl rfl rfl ?_
  refine px_getfield S8 (hw _ (List.mem_of_getElem? (i := 10) rfl)) F_lengths_t d6_25 rfl (fun T9 S9 => ?_)
  refine px_iload S9 d6_28 rfl rfl ?_
  refine px_iaload (v := (1 : Int32)) S9 A_l (i := Y) e1 x1 lY d6_30 rfl ?_
  refine px_bipush (v := (11 : Int32)) S9 d6_31 rfl rfl ?_
  refine px_callS (as' := [(.int (1 : Int32)), (.int (11 : Int32))]) (st := [(.int (g 1)), (.ref ln)]) (W := 2) S9 (c_min hw S9.size (by decide)) (hw _ (List.mem_of_getElem? (i := 31) rfl)) (hw _ (List.mem_of_getElem? (i := 32) rfl)) (hw _ (List.mem_of_getElem? (i := 33) rfl)) (hw _ (List.mem_of_getElem? (i := 34) rfl)) (by decide) pd_6_0 rfl rfl (by decide) rfl (by decide) (by decide) (by decide) d6_33 rfl rfl (fun T10 h10 v10 S10 q10 => ?_)
  obtain ⟨rfl, rfl⟩ := q10
  show Go _ _ _ _ _ _ _ [(.int (1 : Int32)), (.int (g 1)), (.ref ln)]
  refine px_iastore (v := (1 : Int32)) S10 A_l g_l (i := Y) e1 x1 rfl d6_36 rfl (fun T11 h11 S11 W11 A_l => ?_)
  replace X_t := X_t.wr W11
  replace F_lengths_t := F_lengths_t.other W11 (Or.inl n_tl)
  replace F_codes_t := F_codes_t.other W11 (Or.inl n_tl)
  replace A_s := A_s.other W11 n_sl
  replace A_l := A_l.congr (upd_id lY)
  replace KK := KK.wr W11 (Or.inl (by simp))
  refine px_lload S11 d6_37 rfl rfl ?_
  refine px_lconst (v := (1 : Int64)) S11 d6_39 rfl rfl ?_
  refine px_bipush (v := (11 : Int32)) S11 d6_40 rfl rfl ?_
  refine px_aloadN S11 d6_42 rfl rfl rfl ?_
  refine px_getfield S11 (hw _ (List.mem_of_getElem? (i := 10) rfl)) F_lengths_t d6_43 rfl (fun T12 S12 => ?_)
  refine px_iload S12 d6_46 rfl rfl ?_
  refine px_iaload (v := (1 : Int32)) S12 A_l (i := Y) e1 x1 lY d6_48 rfl ?_
  refine px_isub S12 d6_49 rfl ?_
  rw [show ((11 : Int32) - (1 : Int32)) = (10 : Int32) from by decide]
  refine px_lshl S12 d6_50 rfl ?_
  rw [show ((1 : Int64) <<< ((10 : Int32) &&& 0x3f).toInt64) = (1024 : Int64) from by decide]
  refine px_ladd S12 d6_51 rfl ?_
  rw [show ((1024 : Int64) + (1024 : Int64)) = (2048 : Int64) from by decide]
  refine px_lstore S12 d6_52 rfl (L' := #[.val (.ref t), .val (.ref s), .val (.int (2 : Int32)), .val (.ref o), .val (.long (2048 : Int64)), .second, .val (.int (1 : Int32)), .val (.int (g 1)), .unset, .unset, .unset]) rfl ?_
  refine px_iinc (v := (1 : Int32)) (r := (2 : Int32)) S12 d6_54 rfl rfl rfl (by decide) (L' := #[.val (.ref t), .val (.ref s), .val (.int (2 : Int32)), .val (.ref o), .val (.long (2048 : Int64)), .second, .val (.int (2 : Int32)), .val (.int (g 1)), .unset, .unset, .unset]) rfl ?_
  refine px_goto S12 d6_57 (by decide) (pc' := 6) rfl ?_
  refine px_iload S12 d6_6 rfl rfl ?_
  refine px_iloadN S12 d6_8 rfl rfl ?_
  refine px_icmp S12 d6_9 (by decide) (pc' := 60) rfl rfl (fun (hc13 : (2 : Int32).toInt ≥ (2 : Int32).toInt) => ?_) (fun (hc13 : (2 : Int32).toInt < (2 : Int32).toInt) => by exfalso; revert hc13; decide)
  refine px_ldc2 S12 (hw _ (List.mem_of_getElem? (i := 35) rfl)) d6_60 rfl ?_
  refine px_lstore S12 d6_63 rfl (L' := #[.val (.ref t), .val (.ref s), .val (.int (2 : Int32)), .val (.ref o), .val (.long (2048 : Int64)), .second, .val (.long (2048 : Int64)), .second, .unset, .unset, .unset]) rfl ?_
  refine px_lload S12 d6_65 rfl rfl ?_
  refine px_lload S12 d6_67 rfl rfl ?_
  refine px_lif S12 d6_69 rfl d6_70 (by decide) (pc' := 165) rfl rfl (fun (hc14 : (2048 : Int64).toInt ≤ (2048 : Int64).toInt) => ?_) (fun (hc14 : (2048 : Int64).toInt > (2048 : Int64).toInt) => by exfalso; revert hc14; decide)
  refine px_lload S12 d6_165 rfl rfl ?_
  refine px_lload S12 d6_167 rfl rfl ?_
  refine px_lif S12 d6_169 rfl d6_170 (by decide) (pc' := 265) rfl rfl (fun (hc15 : (2048 : Int64).toInt ≥ (2048 : Int64).toInt) => ?_) (fun (hc15 : (2048 : Int64).toInt < (2048 : Int64).toInt) => by exfalso; revert hc15; decide)
  exact px_return S12 d6_265 rfl (by decide) (by decide) (⟨rfl, KK, A_l⟩)
set_option maxRecDepth 65536 in
set_option maxHeartbeats 40000000 in
theorem c_lim3 {Z : State} {a0 : Array Value} (hw : ∀ d ∈ tables_1, d.before a0 Z = true) {t s o ln cd : Addr} {X Y W : Nat} {g fl : Nat → Int32} {h0 : Heap} {n0 : Nat} (Z0 : n0 ≤ h0.size) (X_t : Exa Z h0 t "com/example/colonnade/colonnade/compress/HuffmanEncoder") (F_lengths_t : Fld Z h0 t "com/example/colonnade/colonnade/compress/HuffmanEncoder" "lengths" "[I" (.ref ln)) (F_codes_t : Fld Z h0 t "com/example/colonnade/colonnade/compress/HuffmanEncoder" "codes" "[I" (.ref cd)) (A_s : AI Z h0 s .int 256 g) (A_l : AI Z h0 ln .int 256 fl) (g_l : n0 ≤ ln) (n_tl : t ≠ ln) (n_sl : s ≠ ln) (e0 : (g 0).toInt = (X : Int)) (e1 : (g 1).toInt = (Y : Int)) (e2 : (g 2).toInt = (W : Int)) (x0 : X < 256) (x1 : Y < 256) (x2 : W < 256) (lX : fl X = (2 : Int32)) (lY : fl Y = (2 : Int32)) (lW : fl W = (1 : Int32)) :
    Ctr Z n0 (⟨"com/example/colonnade/colonnade/compress/HuffmanEncoder", "limitLengths", "([II[I)V"⟩ : MethodName) prog_46_method_11_code 11 none ({ frames := 1, cells := 0, slots := 0, locals := 15 } : Room) [(.ref t), (.ref s), (.int (3 : Int32)), (.ref o)] h0 (fun v h => v = none ∧ Keep h0 h [ln] ∧ AI Z h ln .int 256 fl) := by
  refine Ctr.of (L := #[.val (.ref t), .val (.ref s), .val (.int (3 : Int32)), .val (.ref o), .unset, .unset, .unset, .unset, .unset, .unset, .unset]) pn_6 Z0 (fun m => by first | (simp [entryFrame, mkF, argsToLocals, Value.category]; done) | rfl) ?_
  intro K T S0
  have KK := Keep.refl h0 [ln]
  refine px_lconst (v := (0 : Int64)) S0 d6_0 rfl rfl ?_
  refine px_lstore S0 d6_1 rfl (L' := #[.val (.ref t), .val (.ref s), .val (.int (3 : Int32)), .val (.ref o), .val (.long (0 : Int64)), .second, .unset, .unset, .unset, .unset, .unset]) rfl ?_
  refine px_iconst (v := (0 : Int32)) S0 d6_3 rfl rfl ?_
  refine px_istore S0 d6_4 rfl (L' := #[.val (.ref t), .val (.ref s), .val (.int (3 : Int32)), .val (.ref o), .val (.long (0 : Int64)), .second, .val (.int (0 : Int32)), .unset, .unset, .unset, .unset]) rfl ?_
  refine px_iload S0 d6_6 rfl rfl ?_
  refine px_iloadN S0 d6_8 rfl rfl ?_
  refine px_icmp S0 d6_9 (by decide) (pc' := 60) rfl rfl (fun (hc1 : (0 : Int32).toInt ≥ (3 : Int32).toInt) => by exfalso; revert hc1; decide) (fun (hc1 : (0 : Int32).toInt < (3 : Int32).toInt) => ?_)
  refine px_aloadN S0 d6_12 rfl rfl rfl ?_
  refine px_iload S0 d6_13 rfl rfl ?_
  refine px_iaload (v := (g 0)) S0 A_s (i := 0) rfl (by decide) rfl d6_15 rfl ?_
  refine px_istore S0 d6_16 rfl (L' := #[.val (.ref t), .val (.ref s), .val (.int (3 : Int32)), .val (.ref o), .val (.long (0 : Int64)), .second, .val (.int (0 : Int32)), .val (.int (g 0)), .unset, .unset, .unset]) rfl ?_
  refine px_aloadN S0 d6_18 rfl rfl rfl ?_
  refine px_getfield S0 (hw _ (List.mem_of_getElem? (i := 10) rfl)) F_lengths_t d6_19 rfl (fun T2 S2 => ?_)
  refine px_iload S2 d6_22 rfl rfl ?_
  refine px_aloadN S2 d6_24 rfl rfl rfl ?_
  refine px_getfield S2 (hw _ (List.mem_of_getElem? (i := 10) rfl)) F_lengths_t d6_25 rfl (fun T3 S3 => ?_)
  refine px_iload S3 d6_28 rfl rfl ?_
  refine px_iaload (v := (2 : Int32)) S3 A_l (i := X) e0 x0 lX d6_30 rfl ?_
  refine px_bipush (v := (11 : Int32)) S3 d6_31 rfl rfl ?_
  refine px_callS (as' := [(.int (2 : Int32)), (.int (11 : Int32))]) (st := [(.int (g 0)), (.ref ln)]) (W := 2) S3 (c_min hw S3.size (by decide)) (hw _ (List.mem_of_getElem? (i := 31) rfl)) (hw _ (List.mem_of_getElem? (i := 32) rfl)) (hw _ (List.mem_of_getElem? (i := 33) rfl)) (hw _ (List.mem_of_getElem? (i := 34) rfl)) (by decide) pd_6_0 rfl rfl (by decide) rfl (by decide) (by decide) (by decide) d6_33 rfl rfl (fun T4 h4 v4 S4 q4 => ?_)
  obtain ⟨rfl, rfl⟩ := q4
  show Go _ _ _ _ _ _ _ [(.int (2 : Int32)), (.int (g 0)), (.ref ln)]
  refine px_iastore (v := (2 : Int32)) S4 A_l g_l (i := X) e0 x0 rfl d6_36 rfl (fun T5 h5 S5 W5 A_l => ?_)
  replace X_t := X_t.wr W5
  replace F_lengths_t := F_lengths_t.other W5 (Or.inl n_tl)
  replace F_codes_t := F_codes_t.other W5 (Or.inl n_tl)
  replace A_s := A_s.other W5 n_sl
  replace A_l := A_l.congr (upd_id lX)
  replace KK := KK.wr W5 (Or.inl (by simp))
  refine px_lload S5 d6_37 rfl rfl ?_
  refine px_lconst (v := (1 : Int64)) S5 d6_39 rfl rfl ?_
  refine px_bipush (v := (11 : Int32)) S5 d6_40 rfl rfl ?_
  refine px_aloadN S5 d6_42 rfl rfl rfl ?_
  refine px_getfield S5 (hw _ (List.mem_of_getElem? (i := 10) rfl)) F_lengths_t d6_43 rfl (fun T6 S6 => ?_)
  refine px_iload S6 d6_46 rfl rfl ?_
  refine px_iaload (v := (2 : Int32)) S6 A_l (i := X) e0 x0 lX d6_48 rfl ?_
  refine px_isub S6 d6_49 rfl ?_
  rw [show ((11 : Int32) - (2 : Int32)) = (9 : Int32) from by decide]
  refine px_lshl S6 d6_50 rfl ?_
  rw [show ((1 : Int64) <<< ((9 : Int32) &&& 0x3f).toInt64) = (512 : Int64) from by decide]
  refine px_ladd S6 d6_51 rfl ?_
  rw [show ((0 : Int64) + (512 : Int64)) = (512 : Int64) from by decide]
  refine px_lstore S6 d6_52 rfl (L' := #[.val (.ref t), .val (.ref s), .val (.int (3 : Int32)), .val (.ref o), .val (.long (512 : Int64)), .second, .val (.int (0 : Int32)), .val (.int (g 0)), .unset, .unset, .unset]) rfl ?_
  refine px_iinc (v := (1 : Int32)) (r := (1 : Int32)) S6 d6_54 rfl rfl rfl (by decide) (L' := #[.val (.ref t), .val (.ref s), .val (.int (3 : Int32)), .val (.ref o), .val (.long (512 : Int64)), .second, .val (.int (1 : Int32)), .val (.int (g 0)), .unset, .unset, .unset]) rfl ?_
  refine px_goto S6 d6_57 (by decide) (pc' := 6) rfl ?_
  refine px_iload S6 d6_6 rfl rfl ?_
  refine px_iloadN S6 d6_8 rfl rfl ?_
  refine px_icmp S6 d6_9 (by decide) (pc' := 60) rfl rfl (fun (hc7 : (1 : Int32).toInt ≥ (3 : Int32).toInt) => by exfalso; revert hc7; decide) (fun (hc7 : (1 : Int32).toInt < (3 : Int32).toInt) => ?_)
  refine px_aloadN S6 d6_12 rfl rfl rfl ?_
  refine px_iload S6 d6_13 rfl rfl ?_
  refine px_iaload (v := (g 1)) S6 A_s (i := 1) rfl (by decide) rfl d6_15 rfl ?_
  refine px_istore S6 d6_16 rfl (L' := #[.val (.ref t), .val (.ref s), .val (.int (3 : Int32)), .val (.ref o), .val (.long (512 : Int64)), .second, .val (.int (1 : Int32)), .val (.int (g 1)), .unset, .unset, .unset]) rfl ?_
  refine px_aloadN S6 d6_18 rfl rfl rfl ?_
  refine px_getfield S6 (hw _ (List.mem_of_getElem? (i := 10) rfl)) F_lengths_t d6_19 rfl (fun T8 S8 => ?_)
  refine px_iload S8 d6_22 rfl rfl ?_
  refine px_aloadN S8 d6_24 rfl rfl rfl ?_
  refine px_getfield S8 (hw _ (List.mem_of_getElem? (i := 10) rfl)) F_lengths_t d6_25 rfl (fun T9 S9 => ?_)
  refine px_iload S9 d6_28 rfl rfl ?_
  refine px_iaload (v := (2 : Int32)) S9 A_l (i := Y) e1 x1 lY d6_30 rfl ?_
  refine px_bipush (v := (11 : Int32)) S9 d6_31 rfl rfl ?_
  refine px_callS (as' := [(.int (2 : Int32)), (.int (11 : Int32))]) (st := [(.int (g 1)), (.ref ln)]) (W := 2) S9 (c_min hw S9.size (by decide)) (hw _ (List.mem_of_getElem? (i := 31) rfl)) (hw _ (List.mem_of_getElem? (i := 32) rfl)) (hw _ (List.mem_of_getElem? (i := 33) rfl)) (hw _ (List.mem_of_getElem? (i := 34) rfl)) (by decide) pd_6_0 rfl rfl (by decide) rfl (by decide) (by decide) (by decide) d6_33 rfl rfl (fun T10 h10 v10 S10 q10 => ?_)
  obtain ⟨rfl, rfl⟩ := q10
  show Go _ _ _ _ _ _ _ [(.int (2 : Int32)), (.int (g 1)), (.ref ln)]
  refine px_iastore (v := (2 : Int32)) S10 A_l g_l (i := Y) e1 x1 rfl d6_36 rfl (fun T11 h11 S11 W11 A_l => ?_)
  replace X_t := X_t.wr W11
  replace F_lengths_t := F_lengths_t.other W11 (Or.inl n_tl)
  replace F_codes_t := F_codes_t.other W11 (Or.inl n_tl)
  replace A_s := A_s.other W11 n_sl
  replace A_l := A_l.congr (upd_id lY)
  replace KK := KK.wr W11 (Or.inl (by simp))
  refine px_lload S11 d6_37 rfl rfl ?_
  refine px_lconst (v := (1 : Int64)) S11 d6_39 rfl rfl ?_
  refine px_bipush (v := (11 : Int32)) S11 d6_40 rfl rfl ?_
  refine px_aloadN S11 d6_42 rfl rfl rfl ?_
  refine px_getfield S11 (hw _ (List.mem_of_getElem? (i := 10) rfl)) F_lengths_t d6_43 rfl (fun T12 S12 => ?_)
  refine px_iload S12 d6_46 rfl rfl ?_
  refine px_iaload (v := (2 : Int32)) S12 A_l (i := Y) e1 x1 lY d6_48 rfl ?_
  refine px_isub S12 d6_49 rfl ?_
  rw [show ((11 : Int32) - (2 : Int32)) = (9 : Int32) from by decide]
  refine px_lshl S12 d6_50 rfl ?_
  rw [show ((1 : Int64) <<< ((9 : Int32) &&& 0x3f).toInt64) = (512 : Int64) from by decide]
  refine px_ladd S12 d6_51 rfl ?_
  rw [show ((512 : Int64) + (512 : Int64)) = (1024 : Int64) from by decide]
  refine px_lstore S12 d6_52 rfl (L' := #[.val (.ref t), .val (.ref s), .val (.int (3 : Int32)), .val (.ref o), .val (.long (1024 : Int64)), .second, .val (.int (1 : Int32)), .val (.int (g 1)), .unset, .unset, .unset]) rfl ?_
  refine px_iinc (v := (1 : Int32)) (r := (2 : Int32)) S12 d6_54 rfl rfl rfl (by decide) (L' := #[.val (.ref t), .val (.ref s), .val (.int (3 : Int32)), .val (.ref o), .val (.long (1024 : Int64)), .second, .val (.int (2 : Int32)), .val (.int (g 1)), .unset, .unset, .unset]) rfl ?_
  refine px_goto S12 d6_57 (by decide) (pc' := 6) rfl ?_
  refine px_iload S12 d6_6 rfl rfl ?_
  refine px_iloadN S12 d6_8 rfl rfl ?_
  refine px_icmp S12 d6_9 (by decide) (pc' := 60) rfl rfl (fun (hc13 : (2 : Int32).toInt ≥ (3 : Int32).toInt) => by exfalso; revert hc13; decide) (fun (hc13 : (2 : Int32).toInt < (3 : Int32).toInt) => ?_)
  refine px_aloadN S12 d6_12 rfl rfl rfl ?_
  refine px_iload S12 d6_13 rfl rfl ?_
  refine px_iaload (v := (g 2)) S12 A_s (i := 2) rfl (by decide) rfl d6_15 rfl ?_
  refine px_istore S12 d6_16 rfl (L' := #[.val (.ref t), .val (.ref s), .val (.int (3 : Int32)), .val (.ref o), .val (.long (1024 : Int64)), .second, .val (.int (2 : Int32)), .val (.int (g 2)), .unset, .unset, .unset]) rfl ?_
  refine px_aloadN S12 d6_18 rfl rfl rfl ?_
  refine px_getfield S12 (hw _ (List.mem_of_getElem? (i := 10) rfl)) F_lengths_t d6_19 rfl (fun T14 S14 => ?_)
  refine px_iload S14 d6_22 rfl rfl ?_
  refine px_aloadN S14 d6_24 rfl rfl rfl ?_
  refine px_getfield S14 (hw _ (List.mem_of_getElem? (i := 10) rfl)) F_lengths_t d6_25 rfl (fun T15 S15 => ?_)
  refine px_iload S15 d6_28 rfl rfl ?_
  refine px_iaload (v := (1 : Int32)) S15 A_l (i := W) e2 x2 lW d6_30 rfl ?_
  refine px_bipush (v := (11 : Int32)) S15 d6_31 rfl rfl ?_
  refine px_callS (as' := [(.int (1 : Int32)), (.int (11 : Int32))]) (st := [(.int (g 2)), (.ref ln)]) (W := 2) S15 (c_min hw S15.size (by decide)) (hw _ (List.mem_of_getElem? (i := 31) rfl)) (hw _ (List.mem_of_getElem? (i := 32) rfl)) (hw _ (List.mem_of_getElem? (i := 33) rfl)) (hw _ (List.mem_of_getElem? (i := 34) rfl)) (by decide) pd_6_0 rfl rfl (by decide) rfl (by decide) (by decide) (by decide) d6_33 rfl rfl (fun T16 h16 v16 S16 q16 => ?_)
  obtain ⟨rfl, rfl⟩ := q16
  show Go _ _ _ _ _ _ _ [(.int (1 : Int32)), (.int (g 2)), (.ref ln)]
  refine px_iastore (v := (1 : Int32)) S16 A_l g_l (i := W) e2 x2 rfl d6_36 rfl (fun T17 h17 S17 W17 A_l => ?_)
  replace X_t := X_t.wr W17
  replace F_lengths_t := F_lengths_t.other W17 (Or.inl n_tl)
  replace F_codes_t := F_codes_t.other W17 (Or.inl n_tl)
  replace A_s := A_s.other W17 n_sl
  replace A_l := A_l.congr (upd_id lW)
  replace KK := KK.wr W17 (Or.inl (by simp))
  refine px_lload S17 d6_37 rfl rfl ?_
  refine px_lconst (v := (1 : Int64)) S17 d6_39 rfl rfl ?_
  refine px_bipush (v := (11 : Int32)) S17 d6_40 rfl rfl ?_
  refine px_aloadN S17 d6_42 rfl rfl rfl ?_
  refine px_getfield S17 (hw _ (List.mem_of_getElem? (i := 10) rfl)) F_lengths_t d6_43 rfl (fun T18 S18 => ?_)
  refine px_iload S18 d6_46 rfl rfl ?_
  refine px_iaload (v := (1 : Int32)) S18 A_l (i := W) e2 x2 lW d6_48 rfl ?_
  refine px_isub S18 d6_49 rfl ?_
  rw [show ((11 : Int32) - (1 : Int32)) = (10 : Int32) from by decide]
  refine px_lshl S18 d6_50 rfl ?_
  rw [show ((1 : Int64) <<< ((10 : Int32) &&& 0x3f).toInt64) = (1024 : Int64) from by decide]
  refine px_ladd S18 d6_51 rfl ?_
  rw [show ((1024 : Int64) + (1024 : Int64)) = (2048 : Int64) from by decide]
  refine px_lstore S18 d6_52 rfl (L' := #[.val (.ref t), .val (.ref s), .val (.int (3 : Int32)), .val (.ref o), .val (.long (2048 : Int64)), .second, .val (.int (2 : Int32)), .val (.int (g 2)), .unset, .unset, .unset]) rfl ?_
  refine px_iinc (v := (1 : Int32)) (r := (3 : Int32)) S18 d6_54 rfl rfl rfl (by decide) (L' := #[.val (.ref t), .val (.ref s), .val (.int (3 : Int32)), .val (.ref o), .val (.long (2048 : Int64)), .second, .val (.int (3 : Int32)), .val (.int (g 2)), .unset, .unset, .unset]) rfl ?_
  refine px_goto S18 d6_57 (by decide) (pc' := 6) rfl ?_
  refine px_iload S18 d6_6 rfl rfl ?_
  refine px_iloadN S18 d6_8 rfl rfl ?_
  refine px_icmp S18 d6_9 (by decide) (pc' := 60) rfl rfl (fun (hc19 : (3 : Int32).toInt ≥ (3 : Int32).toInt) => ?_) (fun (hc19 : (3 : Int32).toInt < (3 : Int32).toInt) => by exfalso; revert hc19; decide)
  refine px_ldc2 S18 (hw _ (List.mem_of_getElem? (i := 35) rfl)) d6_60 rfl ?_
  refine px_lstore S18 d6_63 rfl (L' := #[.val (.ref t), .val (.ref s), .val (.int (3 : Int32)), .val (.ref o), .val (.long (2048 : Int64)), .second, .val (.long (2048 : Int64)), .second, .unset, .unset, .unset]) rfl ?_
  refine px_lload S18 d6_65 rfl rfl ?_
  refine px_lload S18 d6_67 rfl rfl ?_
  refine px_lif S18 d6_69 rfl d6_70 (by decide) (pc' := 165) rfl rfl (fun (hc20 : (2048 : Int64).toInt ≤ (2048 : Int64).toInt) => ?_) (fun (hc20 : (2048 : Int64).toInt > (2048 : Int64).toInt) => by exfalso; revert hc20; decide)
  refine px_lload S18 d6_165 rfl rfl ?_
  refine px_lload S18 d6_167 rfl rfl ?_
  refine px_lif S18 d6_169 rfl d6_170 (by decide) (pc' := 265) rfl rfl (fun (hc21 : (2048 : Int64).toInt ≥ (2048 : Int64).toInt) => ?_) (fun (hc21 : (2048 : Int64).toInt < (2048 : Int64).toInt) => by exfalso; revert hc21; decide)
  exact px_return S18 d6_265 rfl (by decide) (by decide) (⟨rfl, KK, A_l⟩)
theorem d3_0 : decode prog_46_method_2_code 0 = .ok (.sipush 256, 3) := by decide +kernel
theorem d3_3 : decode prog_46_method_2_code 3 = .ok (.newarray .int, 2) := by decide +kernel
theorem d3_5 : decode prog_46_method_2_code 5 = .ok (.astore_n 2, 1) := by decide +kernel
theorem d3_6 : decode prog_46_method_2_code 6 = .ok (.iconst 0, 1) := by decide +kernel
theorem d3_7 : decode prog_46_method_2_code 7 = .ok (.istore_n 3, 1) := by decide +kernel
theorem d3_8 : decode prog_46_method_2_code 8 = .ok (.iconst 0, 1) := by decide +kernel
theorem d3_9 : decode prog_46_method_2_code 9 = .ok (.istore 4, 2) := by decide +kernel
theorem d3_11 : decode prog_46_method_2_code 11 = .ok (.iload 4, 2) := by decide +kernel
theorem d3_13 : decode prog_46_method_2_code 13 = .ok (.sipush 256, 3) := by decide +kernel
theorem d3_16 : decode prog_46_method_2_code 16 = .ok (.if_icmp .ge 32, 3) := by decide +kernel
theorem d3_19 : decode prog_46_method_2_code 19 = .ok (.aload_n 0, 1) := by decide +kernel
theorem d3_20 : decode prog_46_method_2_code 20 = .ok (.getfield 11, 3) := by decide +kernel
theorem d3_23 : decode prog_46_method_2_code 23 = .ok (.iload 4, 2) := by decide +kernel
theorem d3_25 : decode prog_46_method_2_code 25 = .ok (.iconst 0, 1) := by decide +kernel
theorem d3_26 : decode prog_46_method_2_code 26 = .ok (.iastore, 1) := by decide +kernel
theorem d3_27 : decode prog_46_method_2_code 27 = .ok (.aload_n 1, 1) := by decide +kernel
theorem d3_28 : decode prog_46_method_2_code 28 = .ok (.iload 4, 2) := by decide +kernel
theorem d3_30 : decode prog_46_method_2_code 30 = .ok (.iaload, 1) := by decide +kernel
theorem d3_31 : decode prog_46_method_2_code 31 = .ok (.ifCond .le 11, 3) := by decide +kernel
theorem d3_34 : decode prog_46_method_2_code 34 = .ok (.aload_n 2, 1) := by decide +kernel
theorem d3_35 : decode prog_46_method_2_code 35 = .ok (.iload_n 3, 1) := by decide +kernel
theorem d3_36 : decode prog_46_method_2_code 36 = .ok (.iinc 3 1, 3) := by decide +kernel
theorem d3_39 : decode prog_46_method_2_code 39 = .ok (.iload 4, 2) := by decide +kernel
theorem d3_41 : decode prog_46_method_2_code 41 = .ok (.iastore, 1) := by decide +kernel
theorem d3_42 : decode prog_46_method_2_code 42 = .ok (.iinc 4 1, 3) := by decide +kernel
theorem d3_45 : decode prog_46_method_2_code 45 = .ok (.goto (-34), 3) := by decide +kernel
theorem d3_48 : decode prog_46_method_2_code 48 = .ok (.iload_n 3, 1) := by decide +kernel
theorem d3_49 : decode prog_46_method_2_code 49 = .ok (.iconst 2, 1) := by decide +kernel
theorem d3_50 : decode prog_46_method_2_code 50 = .ok (.if_icmp .ge 5, 3) := by decide +kernel
theorem d3_53 : decode prog_46_method_2_code 53 = .ok (.iconst 0, 1) := by decide +kernel
theorem d3_54 : decode prog_46_method_2_code 54 = .ok (.ireturn, 1) := by decide +kernel
theorem d3_55 : decode prog_46_method_2_code 55 = .ok (.aload_n 2, 1) := by decide +kernel
theorem d3_56 : decode prog_46_method_2_code 56 = .ok (.iload_n 3, 1) := by decide +kernel
theorem d3_57 : decode prog_46_method_2_code 57 = .ok (.aload_n 1, 1) := by decide +kernel
theorem d3_58 : decode prog_46_method_2_code 58 = .ok (.invokestatic 18, 3) := by decide +kernel
theorem d3_61 : decode prog_46_method_2_code 61 = .ok (.aload_n 0, 1) := by decide +kernel
theorem d3_62 : decode prog_46_method_2_code 62 = .ok (.aload_n 2, 1) := by decide +kernel
theorem d3_63 : decode prog_46_method_2_code 63 = .ok (.iload_n 3, 1) := by decide +kernel
theorem d3_64 : decode prog_46_method_2_code 64 = .ok (.aload_n 1, 1) := by decide +kernel
theorem d3_65 : decode prog_46_method_2_code 65 = .ok (.invokevirtual 22, 3) := by decide +kernel
theorem d3_68 : decode prog_46_method_2_code 68 = .ok (.aload_n 0, 1) := by decide +kernel
theorem d3_69 : decode prog_46_method_2_code 69 = .ok (.aload_n 2, 1) := by decide +kernel
theorem d3_70 : decode prog_46_method_2_code 70 = .ok (.iload_n 3, 1) := by decide +kernel
theorem d3_71 : decode prog_46_method_2_code 71 = .ok (.aload_n 1, 1) := by decide +kernel
theorem d3_72 : decode prog_46_method_2_code 72 = .ok (.invokevirtual 25, 3) := by decide +kernel
theorem d3_75 : decode prog_46_method_2_code 75 = .ok (.aload_n 0, 1) := by decide +kernel
theorem d3_76 : decode prog_46_method_2_code 76 = .ok (.iconst 0, 1) := by decide +kernel
theorem d3_77 : decode prog_46_method_2_code 77 = .ok (.putfield 28, 3) := by decide +kernel
theorem d3_80 : decode prog_46_method_2_code 80 = .ok (.aload_n 0, 1) := by decide +kernel
theorem d3_81 : decode prog_46_method_2_code 81 = .ok (.iconst 0, 1) := by decide +kernel
theorem d3_82 : decode prog_46_method_2_code 82 = .ok (.putfield 32, 3) := by decide +kernel
theorem d3_85 : decode prog_46_method_2_code 85 = .ok (.iconst 0, 1) := by decide +kernel
theorem d3_86 : decode prog_46_method_2_code 86 = .ok (.istore 4, 2) := by decide +kernel
theorem d3_88 : decode prog_46_method_2_code 88 = .ok (.iload 4, 2) := by decide +kernel
theorem d3_90 : decode prog_46_method_2_code 90 = .ok (.sipush 256, 3) := by decide +kernel
theorem d3_93 : decode prog_46_method_2_code 93 = .ok (.if_icmp .ge 43, 3) := by decide +kernel
theorem d3_96 : decode prog_46_method_2_code 96 = .ok (.aload_n 0, 1) := by decide +kernel
theorem d3_97 : decode prog_46_method_2_code 97 = .ok (.aload_n 0, 1) := by decide +kernel
theorem d3_98 : decode prog_46_method_2_code 98 = .ok (.getfield 28, 3) := by decide +kernel
theorem d3_101 : decode prog_46_method_2_code 101 = .ok (.aload_n 0, 1) := by decide +kernel
theorem d3_102 : decode prog_46_method_2_code 102 = .ok (.getfield 11, 3) := by decide +kernel
theorem d3_105 : decode prog_46_method_2_code 105 = .ok (.iload 4, 2) := by decide +kernel
theorem d3_107 : decode prog_46_method_2_code 107 = .ok (.iaload, 1) := by decide +kernel
theorem d3_108 : decode prog_46_method_2_code 108 = .ok (.invokestatic 35, 3) := by decide +kernel
theorem d3_111 : decode prog_46_method_2_code 111 = .ok (.putfield 28, 3) := by decide +kernel
theorem d3_114 : decode prog_46_method_2_code 114 = .ok (.aload_n 0, 1) := by decide +kernel
theorem d3_115 : decode prog_46_method_2_code 115 = .ok (.getfield 11, 3) := by decide +kernel
theorem d3_118 : decode prog_46_method_2_code 118 = .ok (.iload 4, 2) := by decide +kernel
theorem d3_120 : decode prog_46_method_2_code 120 = .ok (.iaload, 1) := by decide +kernel
theorem d3_121 : decode prog_46_method_2_code 121 = .ok (.ifCond .le 9, 3) := by decide +kernel
theorem d3_124 : decode prog_46_method_2_code 124 = .ok (.aload_n 0, 1) := by decide +kernel
theorem d3_125 : decode prog_46_method_2_code 125 = .ok (.iload 4, 2) := by decide +kernel
theorem d3_127 : decode prog_46_method_2_code 127 = .ok (.putfield 32, 3) := by decide +kernel
theorem d3_130 : decode prog_46_method_2_code 130 = .ok (.iinc 4 1, 3) := by decide +kernel
theorem d3_133 : decode prog_46_method_2_code 133 = .ok (.goto (-45), 3) := by decide +kernel
theorem d3_136 : decode prog_46_method_2_code 136 = .ok (.bipush 13, 2) := by decide +kernel
theorem d3_138 : decode prog_46_method_2_code 138 = .ok (.newarray .int, 2) := by decide +kernel
theorem d3_140 : decode prog_46_method_2_code 140 = .ok (.astore 4, 2) := by decide +kernel
theorem d3_142 : decode prog_46_method_2_code 142 = .ok (.iconst 0, 1) := by decide +kernel
theorem d3_143 : decode prog_46_method_2_code 143 = .ok (.istore 5, 2) := by decide +kernel
theorem d3_145 : decode prog_46_method_2_code 145 = .ok (.iload 5, 2) := by decide +kernel
theorem d3_147 : decode prog_46_method_2_code 147 = .ok (.sipush 256, 3) := by decide +kernel
theorem d3_150 : decode prog_46_method_2_code 150 = .ok (.if_icmp .ge 41, 3) := by decide +kernel
theorem d3_153 : decode prog_46_method_2_code 153 = .ok (.aload_n 0, 1) := by decide +kernel
theorem d3_154 : decode prog_46_method_2_code 154 = .ok (.getfield 11, 3) := by decide +kernel
theorem d3_157 : decode prog_46_method_2_code 157 = .ok (.iload 5, 2) := by decide +kernel
theorem d3_159 : decode prog_46_method_2_code 159 = .ok (.iaload, 1) := by decide +kernel
theorem d3_160 : decode prog_46_method_2_code 160 = .ok (.ifCond .le 25, 3) := by decide +kernel
theorem d3_163 : decode prog_46_method_2_code 163 = .ok (.aload 4, 2) := by decide +kernel
theorem d3_165 : decode prog_46_method_2_code 165 = .ok (.aload_n 0, 1) := by decide +kernel
theorem d3_166 : decode prog_46_method_2_code 166 = .ok (.iload 5, 2) := by decide +kernel
theorem d3_168 : decode prog_46_method_2_code 168 = .ok (.invokevirtual 41, 3) := by decide +kernel
theorem d3_171 : decode prog_46_method_2_code 171 = .ok (.dup2, 1) := by decide +kernel
theorem d3_172 : decode prog_46_method_2_code 172 = .ok (.iaload, 1) := by decide +kernel
theorem d3_173 : decode prog_46_method_2_code 173 = .ok (.iconst 1, 1) := by decide +kernel
theorem d3_174 : decode prog_46_method_2_code 174 = .ok (.aload_n 0, 1) := by decide +kernel
theorem d3_175 : decode prog_46_method_2_code 175 = .ok (.iload 5, 2) := by decide +kernel
theorem d3_177 : decode prog_46_method_2_code 177 = .ok (.invokevirtual 41, 3) := by decide +kernel
theorem d3_180 : decode prog_46_method_2_code 180 = .ok (.iconst 1, 1) := by decide +kernel
theorem d3_181 : decode prog_46_method_2_code 181 = .ok (.isub, 1) := by decide +kernel
theorem d3_182 : decode prog_46_method_2_code 182 = .ok (.ishl, 1) := by decide +kernel
theorem d3_183 : decode prog_46_method_2_code 183 = .ok (.iadd, 1) := by decide +kernel
theorem d3_184 : decode prog_46_method_2_code 184 = .ok (.iastore, 1) := by decide +kernel
theorem d3_185 : decode prog_46_method_2_code 185 = .ok (.iinc 5 1, 3) := by decide +kernel
theorem d3_188 : decode prog_46_method_2_code 188 = .ok (.goto (-43), 3) := by decide +kernel
theorem d3_191 : decode prog_46_method_2_code 191 = .ok (.iconst 0, 1) := by decide +kernel
theorem d3_192 : decode prog_46_method_2_code 192 = .ok (.istore 5, 2) := by decide +kernel
theorem d3_194 : decode prog_46_method_2_code 194 = .ok (.iconst 1, 1) := by decide +kernel
theorem d3_195 : decode prog_46_method_2_code 195 = .ok (.istore 6, 2) := by decide +kernel
theorem d3_197 : decode prog_46_method_2_code 197 = .ok (.iload 6, 2) := by decide +kernel
theorem d3_199 : decode prog_46_method_2_code 199 = .ok (.bipush 12, 2) := by decide +kernel
theorem d3_201 : decode prog_46_method_2_code 201 = .ok (.if_icmp .gt 30, 3) := by decide +kernel
theorem d3_204 : decode prog_46_method_2_code 204 = .ok (.aload 4, 2) := by decide +kernel
theorem d3_206 : decode prog_46_method_2_code 206 = .ok (.iload 6, 2) := by decide +kernel
theorem d3_208 : decode prog_46_method_2_code 208 = .ok (.iaload, 1) := by decide +kernel
theorem d3_209 : decode prog_46_method_2_code 209 = .ok (.istore 7, 2) := by decide +kernel
theorem d3_211 : decode prog_46_method_2_code 211 = .ok (.aload 4, 2) := by decide +kernel
theorem d3_213 : decode prog_46_method_2_code 213 = .ok (.iload 6, 2) := by decide +kernel
theorem d3_215 : decode prog_46_method_2_code 215 = .ok (.iload 5, 2) := by decide +kernel
theorem d3_217 : decode prog_46_method_2_code 217 = .ok (.iastore, 1) := by decide +kernel
theorem d3_218 : decode prog_46_method_2_code 218 = .ok (.iload 5, 2) := by decide +kernel
theorem d3_220 : decode prog_46_method_2_code 220 = .ok (.iload 7, 2) := by decide +kernel
theorem d3_222 : decode prog_46_method_2_code 222 = .ok (.iadd, 1) := by decide +kernel
theorem d3_223 : decode prog_46_method_2_code 223 = .ok (.istore 5, 2) := by decide +kernel
theorem d3_225 : decode prog_46_method_2_code 225 = .ok (.iinc 6 1, 3) := by decide +kernel
theorem d3_228 : decode prog_46_method_2_code 228 = .ok (.goto (-31), 3) := by decide +kernel
theorem d3_231 : decode prog_46_method_2_code 231 = .ok (.iconst 0, 1) := by decide +kernel
theorem d3_232 : decode prog_46_method_2_code 232 = .ok (.istore 6, 2) := by decide +kernel
theorem d3_234 : decode prog_46_method_2_code 234 = .ok (.iload 6, 2) := by decide +kernel
theorem d3_236 : decode prog_46_method_2_code 236 = .ok (.sipush 256, 3) := by decide +kernel
theorem d3_239 : decode prog_46_method_2_code 239 = .ok (.if_icmp .ge 61, 3) := by decide +kernel
theorem d3_242 : decode prog_46_method_2_code 242 = .ok (.aload_n 0, 1) := by decide +kernel
theorem d3_243 : decode prog_46_method_2_code 243 = .ok (.getfield 11, 3) := by decide +kernel
theorem d3_246 : decode prog_46_method_2_code 246 = .ok (.iload 6, 2) := by decide +kernel
theorem d3_248 : decode prog_46_method_2_code 248 = .ok (.iaload, 1) := by decide +kernel
theorem d3_249 : decode prog_46_method_2_code 249 = .ok (.ifCond .ne 6, 3) := by decide +kernel
theorem d3_252 : decode prog_46_method_2_code 252 = .ok (.goto 42, 3) := by decide +kernel
theorem d3_255 : decode prog_46_method_2_code 255 = .ok (.aload_n 0, 1) := by decide +kernel
theorem d3_256 : decode prog_46_method_2_code 256 = .ok (.iload 6, 2) := by decide +kernel
theorem d3_258 : decode prog_46_method_2_code 258 = .ok (.invokevirtual 41, 3) := by decide +kernel
theorem d3_261 : decode prog_46_method_2_code 261 = .ok (.istore 7, 2) := by decide +kernel
theorem d3_263 : decode prog_46_method_2_code 263 = .ok (.aload_n 0, 1) := by decide +kernel
theorem d3_264 : decode prog_46_method_2_code 264 = .ok (.getfield 15, 3) := by decide +kernel
theorem d3_267 : decode prog_46_method_2_code 267 = .ok (.iload 6, 2) := by decide +kernel
theorem d3_269 : decode prog_46_method_2_code 269 = .ok (.aload 4, 2) := by decide +kernel
theorem d3_271 : decode prog_46_method_2_code 271 = .ok (.iload 7, 2) := by decide +kernel
theorem d3_273 : decode prog_46_method_2_code 273 = .ok (.iaload, 1) := by decide +kernel
theorem d3_274 : decode prog_46_method_2_code 274 = .ok (.iload 7, 2) := by decide +kernel
theorem d3_276 : decode prog_46_method_2_code 276 = .ok (.iconst 1, 1) := by decide +kernel
theorem d3_277 : decode prog_46_method_2_code 277 = .ok (.isub, 1) := by decide +kernel
theorem d3_278 : decode prog_46_method_2_code 278 = .ok (.iushr, 1) := by decide +kernel
theorem d3_279 : decode prog_46_method_2_code 279 = .ok (.iastore, 1) := by decide +kernel
theorem d3_280 : decode prog_46_method_2_code 280 = .ok (.aload 4, 2) := by decide +kernel
theorem d3_282 : decode prog_46_method_2_code 282 = .ok (.iload 7, 2) := by decide +kernel
theorem d3_284 : decode prog_46_method_2_code 284 = .ok (.dup2, 1) := by decide +kernel
theorem d3_285 : decode prog_46_method_2_code 285 = .ok (.iaload, 1) := by decide +kernel
theorem d3_286 : decode prog_46_method_2_code 286 = .ok (.iconst 1, 1) := by decide +kernel
theorem d3_287 : decode prog_46_method_2_code 287 = .ok (.iload 7, 2) := by decide +kernel
theorem d3_289 : decode prog_46_method_2_code 289 = .ok (.iconst 1, 1) := by decide +kernel
theorem d3_290 : decode prog_46_method_2_code 290 = .ok (.isub, 1) := by decide +kernel
theorem d3_291 : decode prog_46_method_2_code 291 = .ok (.ishl, 1) := by decide +kernel
theorem d3_292 : decode prog_46_method_2_code 292 = .ok (.iadd, 1) := by decide +kernel
theorem d3_293 : decode prog_46_method_2_code 293 = .ok (.iastore, 1) := by decide +kernel
theorem d3_294 : decode prog_46_method_2_code 294 = .ok (.iinc 6 1, 3) := by decide +kernel
theorem d3_297 : decode prog_46_method_2_code 297 = .ok (.goto (-63), 3) := by decide +kernel
theorem d3_300 : decode prog_46_method_2_code 300 = .ok (.iconst 1, 1) := by decide +kernel
theorem d3_301 : decode prog_46_method_2_code 301 = .ok (.ireturn, 1) := by decide +kernel
theorem pd_3_0 : parseMethodDescriptor "(I)I" = some ⟨[.int], some .int⟩ := by decide +kernel
theorem pd_3_1 : parseMethodDescriptor "(II)I" = some ⟨[.int, .int], some .int⟩ := by decide +kernel
theorem pd_3_2 : parseMethodDescriptor "([II[I)V" = some ⟨[(.array .int), .int, (.array .int)], none⟩ := by decide +kernel
theorem pn_3 : plainFor (⟨"com/example/colonnade/colonnade/compress/HuffmanEncoder", "build", "([I)Z"⟩ : MethodName) = true := plainFor_of_name (by first | (simp [plainName, overriddenIn]; done) | decide +kernel)
set_option maxRecDepth 65536 in
set_option maxHeartbeats 40000000 in
theorem c_build {Z : State} {a0 : Array Value} (hw : ∀ d ∈ tables_1, d.before a0 Z = true) {t o ln cd : Addr} {a b c na nb nc : Nat} {wd0 lg0 : Int32} {fo fl fc : Nat → Int32} {h0 : Heap} {n0 : Nat} (Z0 : n0 ≤ h0.size) (g_t : n0 ≤ t) (g_l : n0 ≤ ln) (g_c : n0 ≤ cd) (X_t : Exa Z h0 t "com/example/colonnade/colonnade/compress/HuffmanEncoder") (F_lengths_t : Fld Z h0 t "com/example/colonnade/colonnade/compress/HuffmanEncoder" "lengths" "[I" (.ref ln)) (F_codes_t : Fld Z h0 t "com/example/colonnade/colonnade/compress/HuffmanEncoder" "codes" "[I" (.ref cd)) (F_width_t : Fld Z h0 t "com/example/colonnade/colonnade/compress/HuffmanEncoder" "width" "I" (.int wd0)) (F_largest_t : Fld Z h0 t "com/example/colonnade/colonnade/compress/HuffmanEncoder" "largest" "I" (.int lg0)) (A_o : AI Z h0 o .int 256 fo) (A_l : AI Z h0 ln .int 256 fl) (A_c : AI Z h0 cd .int 256 fc) (n_t_ln : t ≠ ln) (n_t_cd : t ≠ cd) (n_ln_cd : ln ≠ cd) (n_o_t : o ≠ t) (n_o_ln : o ≠ ln) (n_o_cd : o ≠ cd) (hab : a < b) (hbc : b < c) (hc256 : c < 256) (hz0 : ∀ j, j < 256 → fl j = 0) (hfo : ∀ j, j < 256 → ¬ j = a → ¬ j = b → ¬ j = c → fo j = 0) (hna1 : na ≤ 1) (hnb1 : nb ≤ 1) (hnc1 : nc ≤ 1) (hna : Hid (na = 1 ↔ (fo a).toInt > 0)) (hnb : Hid (nb = 1 ↔ (fo b).toInt > 0)) (hnc : Hid (nc = 1 ↔ (fo c).toInt > 0)) :
    Ctr Z n0 (⟨"com/example/colonnade/colonnade/compress/HuffmanEncoder", "build", "([I)Z"⟩ : MethodName) prog_46_method_2_code 8 (some .boolean) ({ frames := 2, cells := 7, slots := 288, locals := 37 } : Room) [(.ref t), (.ref o)] h0 (fun v h => ∃ fl2 : Nat → Int32, AI Z h ln .int 256 fl2 ∧ Keep h0 h [t, ln, cd] ∧ (Exa Z h t "com/example/colonnade/colonnade/compress/HuffmanEncoder" ∧ Fld Z h t "com/example/colonnade/colonnade/compress/HuffmanEncoder" "lengths" "[I" (.ref ln)) ∧ Hid (∀ j, j < 256 → ¬ j = a → ¬ j = b → ¬ j = c → fl2 j = 0) ∧ ((na + nb + nc < 2 ∧ v = some (.int (0 : Int32)) ∧ (fl2 a).toInt = 0 ∧ (fl2 b).toInt = 0 ∧ (fl2 c).toInt = 0) ∨ (2 ≤ na + nb + nc ∧ v = some (.int (1 : Int32)) ∧ LenP na nb nc (fo a).toInt (fo b).toInt (fo c).toInt (fl2 a).toInt (fl2 b).toInt (fl2 c).toInt))) := by
  refine Ctr.of (L := #[.val (.ref t), .val (.ref o), .unset, .unset, .unset, .unset, .unset, .unset]) pn_3 Z0 (fun m => by first | (simp [entryFrame, mkF, argsToLocals, Value.category]; done) | rfl) ?_
  intro K T S0
  have KK := Keep.refl h0 [t, ln, cd]
  have l256 : (256 : Int32).toInt = 256 := rfl
  refine px_sipush (v := (256 : Int32)) S0 d3_0 rfl rfl ?_
  refine px_newarr (aty := .int) (cap := 256) S0 (hw _ (List.mem_of_getElem? (i := 0) rfl)) rfl (n := 256) rfl (by decide) (by decide) (by decide) (by decide) d3_3 rfl (fun T1 h1 b1 z1 g_b1 S1 E1 A_b1 => ?_)
  have ne_t_b1 : t ≠ b1 := ne_new z1 X_t.lt
  have ne_o_b1 : o ≠ b1 := ne_new z1 A_o.lt
  have ne_ln_b1 : ln ≠ b1 := ne_new z1 A_l.lt
  have ne_cd_b1 : cd ≠ b1 := ne_new z1 A_c.lt
  replace X_t := X_t.ext E1
  replace F_lengths_t := F_lengths_t.ext E1
  replace F_codes_t := F_codes_t.ext E1
  replace F_width_t := F_width_t.ext E1
  replace F_largest_t := F_largest_t.ext E1
  replace A_o := A_o.ext E1
  replace A_l := A_l.ext E1
  replace A_c := A_c.ext E1
  have sz_b1 : h0.size ≤ b1 := by rw [z1]; exact KK.1
  replace KK := KK.ext E1
  refine px_astoreN S1 d3_5 rfl rfl (L' := #[.val (.ref t), .val (.ref o), .val (.ref b1), .unset, .unset, .unset, .unset, .unset]) rfl ?_
  refine px_iconst (v := (0 : Int32)) S1 d3_6 rfl rfl ?_
  refine px_istoreN S1 d3_7 rfl (L' := #[.val (.ref t), .val (.ref o), .val (.ref b1), .val (.int (0 : Int32)), .unset, .unset, .unset, .unset]) rfl ?_
  refine px_iconst (v := (0 : Int32)) S1 d3_8 rfl rfl ?_
  refine px_istore S1 d3_9 rfl (L' := #[.val (.ref t), .val (.ref o), .val (.ref b1), .val (.int (0 : Int32)), .val (.int (0 : Int32)), .unset, .unset, .unset]) rfl ?_
  refine Go.loopH (α := (Nat) × (Nat) × (Int32) × (Int32) × (Nat → Int32)) (Inv := fun k xx h => Keep h0 h [t, ln, cd] ∧ (Exa Z h t "com/example/colonnade/colonnade/compress/HuffmanEncoder" ∧ Fld Z h t "com/example/colonnade/colonnade/compress/HuffmanEncoder" "lengths" "[I" (.ref ln) ∧ Fld Z h t "com/example/colonnade/colonnade/compress/HuffmanEncoder" "codes" "[I" (.ref cd) ∧ Fld Z h t "com/example/colonnade/colonnade/compress/HuffmanEncoder" "width" "I" (.int wd0) ∧ Fld Z h t "com/example/colonnade/colonnade/compress/HuffmanEncoder" "largest" "I" (.int lg0)) ∧ AI Z h o .int 256 fo ∧ AI Z h ln .int 256 fl ∧ AI Z h cd .int 256 fc ∧ AI Z h b1 .int 256 xx.2.2.2.2 ∧ xx.1 + k = 256 ∧ xx.2.2.1.toInt = (xx.1 : Int) ∧ xx.2.2.2.1.toInt = (xx.2.1 : Int) ∧ CntP na nb nc a b c xx.1 xx.2.1 ∧ Im (a < xx.1) (Im (na = 1) ((xx.2.2.2.2 0).toInt = (a : Int))) ∧ Im (b < xx.1) (Im (nb = 1) ((xx.2.2.2.2 na).toInt = (b : Int))) ∧ Im (c < xx.1) (Im (nc = 1) ((xx.2.2.2.2 (na + nb)).toInt = (c : Int)))) (pcj := 11) (cl' := 1) (sl' := 256) (Lj := fun xx => #[.val (.ref t), .val (.ref o), .val (.ref b1), .val (.int xx.2.2.2.1), .val (.int xx.2.2.1), .unset, .unset, .unset]) (stj := fun xx => []) S1 (fun k IHJ2 xx T3 h3 S3 p3 => ?_) (fun J2 => ?_)
  · clear KK X_t F_lengths_t F_codes_t F_width_t F_largest_t A_o A_l A_c A_b1
    obtain ⟨i, pr, iv, pv, g⟩ := xx
    try dsimp only at p3
    obtain ⟨KK, ⟨X_t, F_lengths_t, F_codes_t, F_width_t, F_largest_t⟩, A_o, A_l, A_c, A_b1, hk, hi, hpv, hcn, sA, sB, sC⟩ := p3
    show Go _ _ _ _ _ 11 #[.val (.ref t), .val (.ref o), .val (.ref b1), .val (.int pv), .val (.int iv), .unset, .unset, .unset] []
    refine px_iload S3 d3_11 rfl rfl ?_
    refine px_sipush (v := (256 : Int32)) S3 d3_13 rfl rfl ?_
    refine px_icmp S3 d3_16 (by decide) (pc' := 48) rfl rfl (fun (hc4 : iv.toInt ≥ (256 : Int32).toInt) => ?_) (fun (hc4 : iv.toInt < (256 : Int32).toInt) => ?_)
    · have hpr : pr = na + nb + nc := cnt_e hcn hab hbc (by omega)
      refine px_iloadN S3 d3_48 rfl rfl ?_
      refine px_iconst (v := (2 : Int32)) S3 d3_49 rfl rfl ?_
      refine px_icmp S3 d3_50 (by decide) (pc' := 55) rfl rfl (fun (hc5 : pv.toInt ≥ (2 : Int32).toInt) => ?_) (fun (hc5 : pv.toInt < (2 : Int32).toInt) => ?_)
      · refine Go.joinH (α := (Int32) × (Int32) × (Nat → Int32)) (P := fun xx h => Keep h0 h [t, ln, cd] ∧ (Exa Z h t "com/example/colonnade/colonnade/compress/HuffmanEncoder" ∧ Fld Z h t "com/example/colonnade/colonnade/compress/HuffmanEncoder" "lengths" "[I" (.ref ln) ∧ Fld Z h t "com/example/colonnade/colonnade/compress/HuffmanEncoder" "codes" "[I" (.ref cd) ∧ Fld Z h t "com/example/colonnade/colonnade/compress/HuffmanEncoder" "width" "I" (.int wd0) ∧ Fld Z h t "com/example/colonnade/colonnade/compress/HuffmanEncoder" "largest" "I" (.int lg0)) ∧ AI Z h o .int 256 fo ∧ AI Z h ln .int 256 xx.2.2 ∧ AI Z h cd .int 256 fc ∧ Hid (∀ j, j < 256 → ¬ j = a → ¬ j = b → ¬ j = c → xx.2.2 j = 0) ∧ LenP na nb nc (fo a).toInt (fo b).toInt (fo c).toInt (xx.2.2 a).toInt (xx.2.2 b).toInt (xx.2.2 c).toInt) (pcj := 75) (cl' := 6) (sl' := 275) (Lj := fun xx => #[.val (.ref t), .val (.ref o), .val (.ref b1), .val (.int xx.1), .val (.int xx.2.1), .unset, .unset, .unset]) (stj := fun xx => []) S3 (fun xx T7 h7 S7 p7 => ?_) (fun J6 => ?_)
        · clear KK X_t F_lengths_t F_codes_t F_width_t F_largest_t A_o A_l A_c A_b1 hk hi hpv hcn sA sB sC
          obtain ⟨pv2, iv2, fl2⟩ := xx
          try dsimp only at p7
          obtain ⟨KK, ⟨X_t, F_lengths_t, F_codes_t, F_width_t, F_largest_t⟩, A_o, A_l, A_c, hz, hL⟩ := p7
          show Go _ _ _ _ _ 75 #[.val (.ref t), .val (.ref o), .val (.ref b1), .val (.int pv2), .val (.int iv2), .unset, .unset, .unset] []
          have hb2 : Hid (∀ j, j < 256 → 0 ≤ (fl2 j).toInt ∧ (fl2 j).toInt ≤ 2) := Hid.mk (fun j hj => by have la := hL; unfold LenP at la; by_cases h1 : j = a; (· rw [h1]; omega); by_cases h2 : j = b; (· rw [h2]; omega); by_cases h3 : j = c; (· rw [h3]; omega); rw [hz.out j hj h1 h2 h3]; decide)
          refine px_aloadN S7 d3_75 rfl rfl rfl ?_
          refine px_iconst (v := (0 : Int32)) S7 d3_76 rfl rfl ?_
          refine px_putfield (ty := .int) S7 (hw _ (List.mem_of_getElem? (i := 36) rfl)) F_width_t X_t g_t (Or.inl (hw _ (List.mem_of_getElem? (i := 37) rfl))) (hw _ (List.mem_of_getElem? (i := 2) rfl)) (by decide) rfl rfl d3_77 rfl (fun T8 h8 S8 W8 F_width_t X_t => ?_)
          replace F_lengths_t := F_lengths_t.other W8 (Or.inr (slot_ne (Or.inr (hw _ (List.mem_of_getElem? (i := 11) rfl))) (Or.inl (hw _ (List.mem_of_getElem? (i := 37) rfl))) (by decide) (t := (.array .int)) (t' := .int) (by decide) (by decide)))
          replace F_codes_t := F_codes_t.other W8 (Or.inr (slot_ne (Or.inr (hw _ (List.mem_of_getElem? (i := 13) rfl))) (Or.inl (hw _ (List.mem_of_getElem? (i := 37) rfl))) (by decide) (t := (.array .int)) (t' := .int) (by decide) (by decide)))
          replace F_largest_t := F_largest_t.other W8 (Or.inr (slot_ne (Or.inl (hw _ (List.mem_of_getElem? (i := 39) rfl))) (Or.inl (hw _ (List.mem_of_getElem? (i := 37) rfl))) (by decide) (t := .int) (t' := .int) (by decide) (by decide)))
          replace A_o := A_o.other W8 n_o_t
          replace A_l := A_l.other W8 (Ne.symm n_t_ln)
          replace A_c := A_c.other W8 (Ne.symm n_t_cd)
          replace KK := KK.wr W8 (Or.inl (by simp))
          refine px_aloadN S8 d3_80 rfl rfl rfl ?_
          refine px_iconst (v := (0 : Int32)) S8 d3_81 rfl rfl ?_
          refine px_putfield (ty := .int) S8 (hw _ (List.mem_of_getElem? (i := 38) rfl)) F_largest_t X_t g_t (Or.inl (hw _ (List.mem_of_getElem? (i := 39) rfl))) (hw _ (List.mem_of_getElem? (i := 2) rfl)) (by decide) rfl rfl d3_82 rfl (fun T9 h9 S9 W9 F_largest_t X_t => ?_)
          replace F_lengths_t := F_lengths_t.other W9 (Or.inr (slot_ne (Or.inr (hw _ (List.mem_of_getElem? (i := 11) rfl))) (Or.inl (hw _ (List.mem_of_getElem? (i := 39) rfl))) (by decide) (t := (.array .int)) (t' := .int) (by decide) (by decide)))
          replace F_codes_t := F_codes_t.other W9 (Or.inr (slot_ne (Or.inr (hw _ (List.mem_of_getElem? (i := 13) rfl))) (Or.inl (hw _ (List.mem_of_getElem? (i := 39) rfl))) (by decide) (t := (.array .int)) (t' := .int) (by decide) (by decide)))
          replace F_width_t := F_width_t.other W9 (Or.inr (slot_ne (Or.inl (hw _ (List.mem_of_getElem? (i := 37) rfl))) (Or.inl (hw _ (List.mem_of_getElem? (i := 39) rfl))) (by decide) (t := .int) (t' := .int) (by decide) (by decide)))
          replace A_o := A_o.other W9 n_o_t
          replace A_l := A_l.other W9 (Ne.symm n_t_ln)
          replace A_c := A_c.other W9 (Ne.symm n_t_cd)
          replace KK := KK.wr W9 (Or.inl (by simp))
          refine px_iconst (v := (0 : Int32)) S9 d3_85 rfl rfl ?_
          refine px_istore S9 d3_86 rfl (L' := #[.val (.ref t), .val (.ref o), .val (.ref b1), .val (.int pv2), .val (.int (0 : Int32)), .unset, .unset, .unset]) rfl ?_
          refine Go.loopH (α := (Nat) × (Int32) × (Int32) × (Int32)) (Inv := fun k xx h => Keep h0 h [t, ln, cd] ∧ (Exa Z h t "com/example/colonnade/colonnade/compress/HuffmanEncoder" ∧ Fld Z h t "com/example/colonnade/colonnade/compress/HuffmanEncoder" "lengths" "[I" (.ref ln) ∧ Fld Z h t "com/example/colonnade/colonnade/compress/HuffmanEncoder" "codes" "[I" (.ref cd) ∧ Fld Z h t "com/example/colonnade/colonnade/compress/HuffmanEncoder" "width" "I" (.int xx.2.2.1) ∧ Fld Z h t "com/example/colonnade/colonnade/compress/HuffmanEncoder" "largest" "I" (.int xx.2.2.2)) ∧ AI Z h o .int 256 fo ∧ AI Z h ln .int 256 fl2 ∧ AI Z h cd .int 256 fc ∧ xx.1 + k = 256 ∧ xx.2.1.toInt = (xx.1 : Int) ∧ (0 ≤ xx.2.2.1.toInt ∧ xx.2.2.1.toInt ≤ 2) ∧ Hid (∀ j, j < xx.1 → (fl2 j).toInt ≤ xx.2.2.1.toInt)) (pcj := 88) (cl' := 6) (sl' := 275) (Lj := fun xx => #[.val (.ref t), .val (.ref o), .val (.ref b1), .val (.int pv2), .val (.int xx.2.1), .unset, .unset, .unset]) (stj := fun xx => []) S9 (fun k IHJ10 xx T11 h11 S11 p11 => ?_) (fun J10 => ?_)
          · clear KK X_t F_lengths_t F_codes_t F_width_t F_largest_t A_o A_l A_c
            obtain ⟨i, iv, wd, lg⟩ := xx
            try dsimp only at p11
            obtain ⟨KK, ⟨X_t, F_lengths_t, F_codes_t, F_width_t, F_largest_t⟩, A_o, A_l, A_c, hk, hi, hw2, hle⟩ := p11
            show Go _ _ _ _ _ 88 #[.val (.ref t), .val (.ref o), .val (.ref b1), .val (.int pv2), .val (.int iv), .unset, .unset, .unset] []
            refine px_iload S11 d3_88 rfl rfl ?_
            refine px_sipush (v := (256 : Int32)) S11 d3_90 rfl rfl ?_
            refine px_icmp S11 d3_93 (by decide) (pc' := 136) rfl rfl (fun (hc12 : iv.toInt ≥ (256 : Int32).toInt) => ?_) (fun (hc12 : iv.toInt < (256 : Int32).toInt) => ?_)
            · have hle2 : Hid (∀ j, j < 256 → (fl2 j).toInt ≤ wd.toInt) := Hid.mk (fun j hj => hle.out j (by omega))
              refine px_bipush (v := (13 : Int32)) S11 d3_136 rfl rfl ?_
              refine px_newarr (aty := .int) (cap := 13) S11 (hw _ (List.mem_of_getElem? (i := 0) rfl)) rfl (n := 13) rfl (by decide) (by decide) (by decide) (by decide) d3_138 rfl (fun T13 h13 b13 z13 g_b13 S13 E13 A_b13 => ?_)
              have ne_t_b13 : t ≠ b13 := ne_new z13 X_t.lt
              have ne_o_b13 : o ≠ b13 := ne_new z13 A_o.lt
              have ne_ln_b13 : ln ≠ b13 := ne_new z13 A_l.lt
              have ne_cd_b13 : cd ≠ b13 := ne_new z13 A_c.lt
              replace X_t := X_t.ext E13
              replace F_lengths_t := F_lengths_t.ext E13
              replace F_codes_t := F_codes_t.ext E13
              replace F_width_t := F_width_t.ext E13
              replace F_largest_t := F_largest_t.ext E13
              replace A_o := A_o.ext E13
              replace A_l := A_l.ext E13
              replace A_c := A_c.ext E13
              have sz_b13 : h0.size ≤ b13 := by rw [z13]; exact KK.1
              replace KK := KK.ext E13
              refine px_astore S13 d3_140 rfl rfl (L' := #[.val (.ref t), .val (.ref o), .val (.ref b1), .val (.int pv2), .val (.ref b13), .unset, .unset, .unset]) rfl ?_
              refine px_iconst (v := (0 : Int32)) S13 d3_142 rfl rfl ?_
              refine px_istore S13 d3_143 rfl (L' := #[.val (.ref t), .val (.ref o), .val (.ref b1), .val (.int pv2), .val (.ref b13), .val (.int (0 : Int32)), .unset, .unset]) rfl ?_
              refine Go.loopH (α := (Nat) × (Int32) × (Nat → Int32)) (Inv := fun k xx h => Keep h0 h [t, ln, cd] ∧ (Exa Z h t "com/example/colonnade/colonnade/compress/HuffmanEncoder" ∧ Fld Z h t "com/example/colonnade/colonnade/compress/HuffmanEncoder" "lengths" "[I" (.ref ln) ∧ Fld Z h t "com/example/colonnade/colonnade/compress/HuffmanEncoder" "codes" "[I" (.ref cd) ∧ Fld Z h t "com/example/colonnade/colonnade/compress/HuffmanEncoder" "width" "I" (.int wd) ∧ Fld Z h t "com/example/colonnade/colonnade/compress/HuffmanEncoder" "largest" "I" (.int lg)) ∧ AI Z h o .int 256 fo ∧ AI Z h ln .int 256 fl2 ∧ AI Z h cd .int 256 fc ∧ AI Z h b13 .int 13 xx.2.2 ∧ xx.1 + k = 256 ∧ xx.2.1.toInt = (xx.1 : Int)) (pcj := 145) (cl' := 7) (sl' := 288) (Lj := fun xx => #[.val (.ref t), .val (.ref o), .val (.ref b1), .val (.int pv2), .val (.ref b13), .val (.int xx.2.1), .unset, .unset]) (stj := fun xx => []) S13 (fun k IHJ14 xx T15 h15 S15 p15 => ?_) (fun J14 => ?_)
              · clear KK X_t F_lengths_t F_codes_t F_width_t F_largest_t A_o A_l A_c A_b13 hk hi hle
                obtain ⟨i, iv, nx⟩ := xx
                try dsimp only at p15
                obtain ⟨KK, ⟨X_t, F_lengths_t, F_codes_t, F_width_t, F_largest_t⟩, A_o, A_l, A_c, A_b13, hk, hi⟩ := p15
                show Go _ _ _ _ _ 145 #[.val (.ref t), .val (.ref o), .val (.ref b1), .val (.int pv2), .val (.ref b13), .val (.int iv), .unset, .unset] []
                refine px_iload S15 d3_145 rfl rfl ?_
                refine px_sipush (v := (256 : Int32)) S15 d3_147 rfl rfl ?_
                refine px_icmp S15 d3_150 (by decide) (pc' := 191) rfl rfl (fun (hc16 : iv.toInt ≥ (256 : Int32).toInt) => ?_) (fun (hc16 : iv.toInt < (256 : Int32).toInt) => ?_)
                · refine px_iconst (v := (0 : Int32)) S15 d3_191 rfl rfl ?_
                  refine px_istore S15 d3_192 rfl (L' := #[.val (.ref t), .val (.ref o), .val (.ref b1), .val (.int pv2), .val (.ref b13), .val (.int (0 : Int32)), .unset, .unset]) rfl ?_
                  refine px_iconst (v := (1 : Int32)) S15 d3_194 rfl rfl ?_
                  refine px_istore S15 d3_195 rfl (L' := #[.val (.ref t), .val (.ref o), .val (.ref b1), .val (.int pv2), .val (.ref b13), .val (.int (0 : Int32)), .val (.int (1 : Int32)), .unset]) rfl ?_
                  refine Go.loopH (α := (Nat) × (Int32) × (Int32) × (Nat → Int32) × (Slot)) (Inv := fun k xx h => Keep h0 h [t, ln, cd] ∧ (Exa Z h t "com/example/colonnade/colonnade/compress/HuffmanEncoder" ∧ Fld Z h t "com/example/colonnade/colonnade/compress/HuffmanEncoder" "lengths" "[I" (.ref ln) ∧ Fld Z h t "com/example/colonnade/colonnade/compress/HuffmanEncoder" "codes" "[I" (.ref cd) ∧ Fld Z h t "com/example/colonnade/colonnade/compress/HuffmanEncoder" "width" "I" (.int wd) ∧ Fld Z h t "com/example/colonnade/colonnade/compress/HuffmanEncoder" "largest" "I" (.int lg)) ∧ AI Z h o .int 256 fo ∧ AI Z h ln .int 256 fl2 ∧ AI Z h cd .int 256 fc ∧ AI Z h b13 .int 13 xx.2.2.2.1 ∧ xx.1 + k = 13 ∧ xx.2.1.toInt = (xx.1 : Int) ∧ Pl xx.2.2.2.2) (pcj := 197) (cl' := 7) (sl' := 288) (Lj := fun xx => #[.val (.ref t), .val (.ref o), .val (.ref b1), .val (.int pv2), .val (.ref b13), .val (.int xx.2.2.1), .val (.int xx.2.1), xx.2.2.2.2]) (stj := fun xx => []) S15 (fun k IHJ17 xx T18 h18 S18 p18 => ?_) (fun J17 => ?_)
                  · clear KK X_t F_lengths_t F_codes_t F_width_t F_largest_t A_o A_l A_c A_b13 hk hi
                    obtain ⟨k2, kv, sv, nx, s7⟩ := xx
                    try dsimp only at p18
                    obtain ⟨KK, ⟨X_t, F_lengths_t, F_codes_t, F_width_t, F_largest_t⟩, A_o, A_l, A_c, A_b13, hk, hkv, p_s7⟩ := p18
                    show Go _ _ _ _ _ 197 #[.val (.ref t), .val (.ref o), .val (.ref b1), .val (.int pv2), .val (.ref b13), .val (.int sv), .val (.int kv), s7] []
                    refine px_iload S18 d3_197 rfl rfl ?_
                    refine px_bipush (v := (12 : Int32)) S18 d3_199 rfl rfl ?_
                    refine px_icmp S18 d3_201 (by decide) (pc' := 231) rfl rfl (fun (hc19 : kv.toInt > (12 : Int32).toInt) => ?_) (fun (hc19 : kv.toInt ≤ (12 : Int32).toInt) => ?_)
                    · refine px_iconst (v := (0 : Int32)) S18 d3_231 rfl rfl ?_
                      refine px_istore S18 d3_232 rfl (L' := #[.val (.ref t), .val (.ref o), .val (.ref b1), .val (.int pv2), .val (.ref b13), .val (.int sv), .val (.int (0 : Int32)), s7]) rfl ?_
                      refine Go.loopH (α := (Nat) × (Int32) × (Nat → Int32) × (Nat → Int32) × (Slot)) (Inv := fun k xx h => Keep h0 h [t, ln, cd] ∧ (Exa Z h t "com/example/colonnade/colonnade/compress/HuffmanEncoder" ∧ Fld Z h t "com/example/colonnade/colonnade/compress/HuffmanEncoder" "lengths" "[I" (.ref ln) ∧ Fld Z h t "com/example/colonnade/colonnade/compress/HuffmanEncoder" "codes" "[I" (.ref cd) ∧ Fld Z h t "com/example/colonnade/colonnade/compress/HuffmanEncoder" "width" "I" (.int wd) ∧ Fld Z h t "com/example/colonnade/colonnade/compress/HuffmanEncoder" "largest" "I" (.int lg)) ∧ AI Z h o .int 256 fo ∧ AI Z h ln .int 256 fl2 ∧ AI Z h cd .int 256 xx.2.2.2.1 ∧ AI Z h b13 .int 13 xx.2.2.1 ∧ xx.1 + k = 256 ∧ xx.2.1.toInt = (xx.1 : Int) ∧ Pl xx.2.2.2.2) (pcj := 234) (cl' := 7) (sl' := 288) (Lj := fun xx => #[.val (.ref t), .val (.ref o), .val (.ref b1), .val (.int pv2), .val (.ref b13), .val (.int sv), .val (.int xx.2.1), xx.2.2.2.2]) (stj := fun xx => []) S18 (fun k IHJ20 xx T21 h21 S21 p21 => ?_) (fun J20 => ?_)
                      · clear KK X_t F_lengths_t F_codes_t F_width_t F_largest_t A_o A_l A_c A_b13 hk hkv
                        obtain ⟨i, iv, nx, fc2, s8⟩ := xx
                        try dsimp only at p21
                        obtain ⟨KK, ⟨X_t, F_lengths_t, F_codes_t, F_width_t, F_largest_t⟩, A_o, A_l, A_c, A_b13, hk, hi, p_s8⟩ := p21
                        show Go _ _ _ _ _ 234 #[.val (.ref t), .val (.ref o), .val (.ref b1), .val (.int pv2), .val (.ref b13), .val (.int sv), .val (.int iv), s8] []
                        refine px_iload S21 d3_234 rfl rfl ?_
                        refine px_sipush (v := (256 : Int32)) S21 d3_236 rfl rfl ?_
                        refine px_icmp S21 d3_239 (by decide) (pc' := 300) rfl rfl (fun (hc22 : iv.toInt ≥ (256 : Int32).toInt) => ?_) (fun (hc22 : iv.toInt < (256 : Int32).toInt) => ?_)
                        · refine px_iconst (v := (1 : Int32)) S21 d3_300 rfl rfl ?_
                          exact px_retN (t := .boolean) (z' := (1 : Int32)) S21 d3_301 rfl (by simp) rfl (by decide) (by decide) (⟨fl2, A_l, KK, ⟨X_t, F_lengths_t⟩, hz, Or.inr ⟨by have q := hL; unfold LenP at q; omega, rfl, hL⟩⟩)
                        · refine px_aloadN S21 d3_242 rfl rfl rfl ?_
                          refine px_getfield S21 (hw _ (List.mem_of_getElem? (i := 10) rfl)) F_lengths_t d3_243 rfl (fun T23 S23 => ?_)
                          refine px_iload S23 d3_246 rfl rfl ?_
                          refine px_iaload (v := (fl2 i)) S23 A_l (i := i) hi (by omega) rfl d3_248 rfl ?_
                          refine px_if0 S23 d3_249 (by decide) (pc' := 255) rfl rfl (fun (hc24 : ¬ (fl2 i).toInt = 0) => ?_) (fun (hc24 : (fl2 i).toInt = 0) => ?_)
                          · refine px_aloadN S23 d3_255 rfl rfl rfl ?_
                            refine px_iload S23 d3_256 rfl rfl ?_
                            refine px_callP (Cn := "com/example/colonnade/colonnade/compress/HuffmanEncoder") (yp := ({ cls := "com/example/colonnade/colonnade/compress/HuffmanEncoder", name := "build", desc := "([I)Z" } : Jvm.MethodName)) (as' := [(.int iv)]) (st := []) (W := 0) S23 (c_weight (sN := i) hw S23.size X_t F_lengths_t F_width_t A_l hi (by omega)) X_t (hw _ (List.mem_of_getElem? (i := 43) rfl)) (hw _ (List.mem_of_getElem? (i := 44) rfl)) (hw _ (List.mem_of_getElem? (i := 45) rfl)) (hw _ (List.mem_of_getElem? (i := 17) rfl)) rfl (hw _ (List.mem_of_getElem? (i := 3) rfl)) (hw _ (List.mem_of_getElem? (i := 46) rfl)) (by decide) pd_3_0 rfl rfl (by decide) rfl (by decide) (by decide) (by decide) d3_258 rfl rfl (fun T25 h25 v25 S25 q25 => ?_)
                            obtain ⟨rfl, rfl⟩ := q25
                            show Go _ _ _ _ _ _ _ [(.int ((wd + (1 : Int32)) - fl2 i))]
                            obtain ⟨wn, hwn, ewn⟩ := weight_pl (f := fl2 i) hw2.1 hw2.2 (by have q := hb2.out i (by omega); omega) (hle2.out i (by omega))
                            refine px_istore S25 d3_261 rfl (L' := #[.val (.ref t), .val (.ref o), .val (.ref b1), .val (.int pv2), .val (.ref b13), .val (.int sv), .val (.int iv), .val (.int ((wd + (1 : Int32)) - fl2 i))]) (store_pl (x := s8) rfl rfl p_s8) ?_
                            refine px_aloadN S25 d3_263 rfl rfl rfl ?_
                            refine px_getfield S25 (hw _ (List.mem_of_getElem? (i := 12) rfl)) F_codes_t d3_264 rfl (fun T26 S26 => ?_)
                            refine px_iload S26 d3_267 rfl rfl ?_
                            refine px_aload S26 d3_269 rfl rfl rfl ?_
                            refine px_iload S26 d3_271 rfl rfl ?_
                            refine px_iaload (v := (nx wn)) S26 A_b13 (i := wn) ewn hwn rfl d3_273 rfl ?_
                            refine px_iload S26 d3_274 rfl rfl ?_
                            refine px_iconst (v := (1 : Int32)) S26 d3_276 rfl rfl ?_
                            refine px_isub S26 d3_277 rfl ?_
                            refine px_iushr S26 d3_278 rfl ?_
                            refine px_iastore (v := (ushr (nx wn) (((wd + (1 : Int32)) - fl2 i) - (1 : Int32)))) S26 A_c g_c (i := i) hi (by omega) rfl d3_279 rfl (fun T27 h27 S27 W27 A_c => ?_)
                            replace X_t := X_t.wr W27
                            replace F_lengths_t := F_lengths_t.other W27 (Or.inl n_t_cd)
                            replace F_codes_t := F_codes_t.other W27 (Or.inl n_t_cd)
                            replace F_width_t := F_width_t.other W27 (Or.inl n_t_cd)
                            replace F_largest_t := F_largest_t.other W27 (Or.inl n_t_cd)
                            replace A_o := A_o.other W27 n_o_cd
                            replace A_l := A_l.other W27 n_ln_cd
                            replace A_b13 := A_b13.other W27 (Ne.symm ne_cd_b13)
                            replace KK := KK.wr W27 (Or.inl (by simp))
                            refine px_aload S27 d3_280 rfl rfl rfl ?_
                            refine px_iload S27 d3_282 rfl rfl ?_
                            refine px_dup2 S27 d3_284 rfl rfl rfl ?_
                            refine px_iaload (v := (nx wn)) S27 A_b13 (i := wn) ewn hwn rfl d3_285 rfl ?_
                            refine px_iconst (v := (1 : Int32)) S27 d3_286 rfl rfl ?_
                            refine px_iload S27 d3_287 rfl rfl ?_
                            refine px_iconst (v := (1 : Int32)) S27 d3_289 rfl rfl ?_
                            refine px_isub S27 d3_290 rfl ?_
                            refine px_ishl S27 d3_291 rfl ?_
                            refine px_iadd S27 d3_292 rfl ?_
                            refine px_iastore (v := ((nx wn) + ((1 : Int32) <<< ((((wd + (1 : Int32)) - fl2 i) - (1 : Int32)) &&& 31)))) S27 A_b13 g_b13 (i := wn) ewn hwn rfl d3_293 rfl (fun T28 h28 S28 W28 A_b13 => ?_)
                            replace X_t := X_t.wr W28
                            replace F_lengths_t := F_lengths_t.other W28 (Or.inl ne_t_b13)
                            replace F_codes_t := F_codes_t.other W28 (Or.inl ne_t_b13)
                            replace F_width_t := F_width_t.other W28 (Or.inl ne_t_b13)
                            replace F_largest_t := F_largest_t.other W28 (Or.inl ne_t_b13)
                            replace A_o := A_o.other W28 ne_o_b13
                            replace A_l := A_l.other W28 ne_ln_b13
                            replace A_c := A_c.other W28 ne_cd_b13
                            replace KK := KK.wr W28 (Or.inr sz_b13)
                            refine px_iinc (v := (1 : Int32)) (r := (iv + (1 : Int32))) S28 d3_294 rfl rfl rfl rfl (L' := #[.val (.ref t), .val (.ref o), .val (.ref b1), .val (.int pv2), .val (.ref b13), .val (.int sv), .val (.int (iv + (1 : Int32))), .val (.int ((wd + (1 : Int32)) - fl2 i))]) rfl ?_
                            generalize h_v29 : (iv + (1 : Int32)) = v29
                            refine px_goto S28 d3_297 (by decide) (pc' := 234) rfl ?_
                            exact IHJ20 (k - 1) (by omega) (i + 1, v29, (updF nx wn ((nx wn) + ((1 : Int32) <<< ((((wd + (1 : Int32)) - fl2 i) - (1 : Int32)) &&& 31)))), (updF fc2 i (ushr (nx wn) (((wd + (1 : Int32)) - fl2 i) - (1 : Int32)))), (.val (.int ((wd + (1 : Int32)) - fl2 i)))) _ _ S28 ⟨KK, ⟨X_t, F_lengths_t, F_codes_t, F_width_t, F_largest_t⟩, A_o, A_l, A_c, A_b13, by (try dsimp only); omega, inc1 h_v29 hi (by omega), rfl⟩
                          · refine px_goto S23 d3_252 (by decide) (pc' := 294) rfl ?_
                            refine px_iinc (v := (1 : Int32)) (r := (iv + (1 : Int32))) S23 d3_294 rfl rfl rfl rfl (L' := #[.val (.ref t), .val (.ref o), .val (.ref b1), .val (.int pv2), .val (.ref b13), .val (.int sv), .val (.int (iv + (1 : Int32))), s8]) rfl ?_
                            generalize h_v30 : (iv + (1 : Int32)) = v30
                            refine px_goto S23 d3_297 (by decide) (pc' := 234) rfl ?_
                            exact IHJ20 (k - 1) (by omega) (i + 1, v30, nx, fc2, s8) _ _ S23 ⟨KK, ⟨X_t, F_lengths_t, F_codes_t, F_width_t, F_largest_t⟩, A_o, A_l, A_c, A_b13, by (try dsimp only); omega, inc1 h_v30 hi (by omega), p_s8⟩
                      · exact J20 256 (0, (0 : Int32), nx, fc, s7) _ _ S18 ⟨KK, ⟨X_t, F_lengths_t, F_codes_t, F_width_t, F_largest_t⟩, A_o, A_l, A_c, A_b13, rfl, rfl, p_s7⟩
                    · refine px_aload S18 d3_204 rfl rfl rfl ?_
                      refine px_iload S18 d3_206 rfl rfl ?_
                      refine px_iaload (v := (nx k2)) S18 A_b13 (i := k2) hkv (by have q : (12 : Int32).toInt = 12 := rfl; omega) rfl d3_208 rfl ?_
                      refine px_istore S18 d3_209 rfl (L' := #[.val (.ref t), .val (.ref o), .val (.ref b1), .val (.int pv2), .val (.ref b13), .val (.int sv), .val (.int kv), .val (.int (nx k2))]) (store_pl (x := s7) rfl rfl p_s7) ?_
                      refine px_aload S18 d3_211 rfl rfl rfl ?_
                      refine px_iload S18 d3_213 rfl rfl ?_
                      refine px_iload S18 d3_215 rfl rfl ?_
                      refine px_iastore (v := sv) S18 A_b13 g_b13 (i := k2) hkv (by have q : (12 : Int32).toInt = 12 := rfl; omega) rfl d3_217 rfl (fun T31 h31 S31 W31 A_b13 => ?_)
                      replace X_t := X_t.wr W31
                      replace F_lengths_t := F_lengths_t.other W31 (Or.inl ne_t_b13)
                      replace F_codes_t := F_codes_t.other W31 (Or.inl ne_t_b13)
                      replace F_width_t := F_width_t.other W31 (Or.inl ne_t_b13)
                      replace F_largest_t := F_largest_t.other W31 (Or.inl ne_t_b13)
                      replace A_o := A_o.other W31 ne_o_b13
                      replace A_l := A_l.other W31 ne_ln_b13
                      replace A_c := A_c.other W31 ne_cd_b13
                      replace KK := KK.wr W31 (Or.inr sz_b13)
                      refine px_iload S31 d3_218 rfl rfl ?_
                      refine px_iload S31 d3_220 rfl rfl ?_
                      refine px_iadd S31 d3_222 rfl ?_
                      generalize h_v32 : (sv + (nx k2)) = v32
                      refine px_istore S31 d3_223 rfl (L' := #[.val (.ref t), .val (.ref o), .val (.ref b1), .val (.int pv2), .val (.ref b13), .val (.int v32), .val (.int kv), .val (.int (nx k2))]) rfl ?_
                      refine px_iinc (v := (1 : Int32)) (r := (kv + (1 : Int32))) S31 d3_225 rfl rfl rfl rfl (L' := #[.val (.ref t), .val (.ref o), .val (.ref b1), .val (.int pv2), .val (.ref b13), .val (.int v32), .val (.int (kv + (1 : Int32))), .val (.int (nx k2))]) rfl ?_
                      generalize h_v33 : (kv + (1 : Int32)) = v33
                      refine px_goto S31 d3_228 (by decide) (pc' := 197) rfl ?_
                      exact IHJ17 (k - 1) (by have q : (12 : Int32).toInt = 12 := rfl; omega) (k2 + 1, v33, v32, (updF nx k2 sv), (.val (.int (nx k2)))) _ _ S31 ⟨KK, ⟨X_t, F_lengths_t, F_codes_t, F_width_t, F_largest_t⟩, A_o, A_l, A_c, A_b13, by (try dsimp only); (have q : (12 : Int32).toInt = 12 := rfl); omega, inc1 h_v33 hkv (by omega), rfl⟩
                  · exact J17 12 (1, (1 : Int32), (0 : Int32), nx, .unset) _ _ S15 ⟨KK, ⟨X_t, F_lengths_t, F_codes_t, F_width_t, F_largest_t⟩, A_o, A_l, A_c, A_b13, rfl, rfl, trivial⟩
                · refine px_aloadN S15 d3_153 rfl rfl rfl ?_
                  refine px_getfield S15 (hw _ (List.mem_of_getElem? (i := 10) rfl)) F_lengths_t d3_154 rfl (fun T34 S34 => ?_)
                  refine px_iload S34 d3_157 rfl rfl ?_
                  refine px_iaload (v := (fl2 i)) S34 A_l (i := i) hi (by omega) rfl d3_159 rfl ?_
                  refine px_if0 S34 d3_160 (by decide) (pc' := 185) rfl rfl (fun (hc35 : (fl2 i).toInt ≤ 0) => ?_) (fun (hc35 : (fl2 i).toInt > 0) => ?_)
                  · refine px_iinc (v := (1 : Int32)) (r := (iv + (1 : Int32))) S34 d3_185 rfl rfl rfl rfl (L' := #[.val (.ref t), .val (.ref o), .val (.ref b1), .val (.int pv2), .val (.ref b13), .val (.int (iv + (1 : Int32))), .unset, .unset]) rfl ?_
                    generalize h_v36 : (iv + (1 : Int32)) = v36
                    refine px_goto S34 d3_188 (by decide) (pc' := 145) rfl ?_
                    exact IHJ14 (k - 1) (by omega) (i + 1, v36, nx) _ _ S34 ⟨KK, ⟨X_t, F_lengths_t, F_codes_t, F_width_t, F_largest_t⟩, A_o, A_l, A_c, A_b13, by (try dsimp only); omega, inc1 h_v36 hi (by omega)⟩
                  · refine px_aload S34 d3_163 rfl rfl rfl ?_
                    refine px_aloadN S34 d3_165 rfl rfl rfl ?_
                    refine px_iload S34 d3_166 rfl rfl ?_
                    refine px_callP (Cn := "com/example/colonnade/colonnade/compress/HuffmanEncoder") (yp := ({ cls := "com/example/colonnade/colonnade/compress/HuffmanEncoder", name := "build", desc := "([I)Z" } : Jvm.MethodName)) (as' := [(.int iv)]) (st := [(.ref b13)]) (W := 1) S34 (c_weight (sN := i) hw S34.size X_t F_lengths_t F_width_t A_l hi (by omega)) X_t (hw _ (List.mem_of_getElem? (i := 43) rfl)) (hw _ (List.mem_of_getElem? (i := 44) rfl)) (hw _ (List.mem_of_getElem? (i := 45) rfl)) (hw _ (List.mem_of_getElem? (i := 17) rfl)) rfl (hw _ (List.mem_of_getElem? (i := 3) rfl)) (hw _ (List.mem_of_getElem? (i := 46) rfl)) (by decide) pd_3_0 rfl rfl (by decide) rfl (by decide) (by decide) (by decide) d3_168 rfl rfl (fun T37 h37 v37 S37 q37 => ?_)
                    obtain ⟨rfl, rfl⟩ := q37
                    show Go _ _ _ _ _ _ _ [(.int ((wd + (1 : Int32)) - fl2 i)), (.ref b13)]
                    obtain ⟨wn, hwn, ewn⟩ := weight_pl (f := fl2 i) hw2.1 hw2.2 (by have q := hb2.out i (by omega); omega) (hle2.out i (by omega))
                    refine px_dup2 S37 d3_171 rfl rfl rfl ?_
                    refine px_iaload (v := (nx wn)) S37 A_b13 (i := wn) ewn hwn rfl d3_172 rfl ?_
                    refine px_iconst (v := (1 : Int32)) S37 d3_173 rfl rfl ?_
                    refine px_aloadN S37 d3_174 rfl rfl rfl ?_
                    refine px_iload S37 d3_175 rfl rfl ?_
                    refine px_callP (Cn := "com/example/colonnade/colonnade/compress/HuffmanEncoder") (yp := ({ cls := "com/example/colonnade/colonnade/compress/HuffmanEncoder", name := "build", desc := "([I)Z" } : Jvm.MethodName)) (as' := [(.int iv)]) (st := [(.int (1 : Int32)), (.int (nx wn)), (.int ((wd + (1 : Int32)) - fl2 i)), (.ref b13)]) (W := 4) S37 (c_weight (sN := i) hw S37.size X_t F_lengths_t F_width_t A_l hi (by omega)) X_t (hw _ (List.mem_of_getElem? (i := 43) rfl)) (hw _ (List.mem_of_getElem? (i := 44) rfl)) (hw _ (List.mem_of_getElem? (i := 45) rfl)) (hw _ (List.mem_of_getElem? (i := 17) rfl)) rfl (hw _ (List.mem_of_getElem? (i := 3) rfl)) (hw _ (List.mem_of_getElem? (i := 46) rfl)) (by decide) pd_3_0 rfl rfl (by decide) rfl (by decide) (by decide) (by decide) d3_177 rfl rfl (fun T38 h38 v38 S38 q38 => ?_)
                    obtain ⟨rfl, rfl⟩ := q38
                    show Go _ _ _ _ _ _ _ [(.int ((wd + (1 : Int32)) - fl2 i)), (.int (1 : Int32)), (.int (nx wn)), (.int ((wd + (1 : Int32)) - fl2 i)), (.ref b13)]
                    refine px_iconst (v := (1 : Int32)) S38 d3_180 rfl rfl ?_
                    refine px_isub S38 d3_181 rfl ?_
                    refine px_ishl S38 d3_182 rfl ?_
                    refine px_iadd S38 d3_183 rfl ?_
                    refine px_iastore (v := ((nx wn) + ((1 : Int32) <<< ((((wd + (1 : Int32)) - fl2 i) - (1 : Int32)) &&& 31)))) S38 A_b13 g_b13 (i := wn) ewn hwn rfl d3_184 rfl (fun T39 h39 S39 W39 A_b13 => ?_)
                    replace X_t := X_t.wr W39
                    replace F_lengths_t := F_lengths_t.other W39 (Or.inl ne_t_b13)
                    replace F_codes_t := F_codes_t.other W39 (Or.inl ne_t_b13)
                    replace F_width_t := F_width_t.other W39 (Or.inl ne_t_b13)
                    replace F_largest_t := F_largest_t.other W39 (Or.inl ne_t_b13)
                    replace A_o := A_o.other W39 ne_o_b13
                    replace A_l := A_l.other W39 ne_ln_b13
                    replace A_c := A_c.other W39 ne_cd_b13
                    replace KK := KK.wr W39 (Or.inr sz_b13)
                    refine px_iinc (v := (1 : Int32)) (r := (iv + (1 : Int32))) S39 d3_185 rfl rfl rfl rfl (L' := #[.val (.ref t), .val (.ref o), .val (.ref b1), .val (.int pv2), .val (.ref b13), .val (.int (iv + (1 : Int32))), .unset, .unset]) rfl ?_
                    generalize h_v40 : (iv + (1 : Int32)) = v40
                    refine px_goto S39 d3_188 (by decide) (pc' := 145) rfl ?_
                    exact IHJ14 (k - 1) (by omega) (i + 1, v40, (updF nx wn ((nx wn) + ((1 : Int32) <<< ((((wd + (1 : Int32)) - fl2 i) - (1 : Int32)) &&& 31))))) _ _ S39 ⟨KK, ⟨X_t, F_lengths_t, F_codes_t, F_width_t, F_largest_t⟩, A_o, A_l, A_c, A_b13, by (try dsimp only); omega, inc1 h_v40 hi (by omega)⟩
              · exact J14 256 (0, (0 : Int32), _) _ _ S13 ⟨KK, ⟨X_t, F_lengths_t, F_codes_t, F_width_t, F_largest_t⟩, A_o, A_l, A_c, A_b13, rfl, rfl⟩
            · refine px_aloadN S11 d3_96 rfl rfl rfl ?_
              refine px_aloadN S11 d3_97 rfl rfl rfl ?_
              refine px_getfield S11 (hw _ (List.mem_of_getElem? (i := 36) rfl)) F_width_t d3_98 rfl (fun T41 S41 => ?_)
              refine px_aloadN S41 d3_101 rfl rfl rfl ?_
              refine px_getfield S41 (hw _ (List.mem_of_getElem? (i := 10) rfl)) F_lengths_t d3_102 rfl (fun T42 S42 => ?_)
              refine px_iload S42 d3_105 rfl rfl ?_
              refine px_iaload (v := (fl2 i)) S42 A_l (i := i) hi (by omega) rfl d3_107 rfl ?_
              refine px_callS (as' := [(.int wd), (.int (fl2 i))]) (st := [(.ref t)]) (W := 1) S42 (c_max hw S42.size) (hw _ (List.mem_of_getElem? (i := 40) rfl)) (hw _ (List.mem_of_getElem? (i := 41) rfl)) (hw _ (List.mem_of_getElem? (i := 33) rfl)) (hw _ (List.mem_of_getElem? (i := 42) rfl)) (by decide) pd_3_1 rfl rfl (by decide) rfl (by decide) (by decide) (by decide) d3_108 rfl rfl (fun T43 h43 v43 S43 q43 => ?_)
              obtain ⟨rfl, r_, rfl, m1, m2, m3⟩ := q43
              show Go _ _ _ _ _ _ _ [(.int r_), (.ref t)]
              have b2 := hb2.out i (by omega)
              refine px_putfield (ty := .int) S43 (hw _ (List.mem_of_getElem? (i := 36) rfl)) F_width_t X_t g_t (Or.inl (hw _ (List.mem_of_getElem? (i := 37) rfl))) (hw _ (List.mem_of_getElem? (i := 2) rfl)) (by decide) rfl rfl d3_111 rfl (fun T44 h44 S44 W44 F_width_t X_t => ?_)
              replace F_lengths_t := F_lengths_t.other W44 (Or.inr (slot_ne (Or.inr (hw _ (List.mem_of_getElem? (i := 11) rfl))) (Or.inl (hw _ (List.mem_of_getElem? (i := 37) rfl))) (by decide) (t := (.array .int)) (t' := .int) (by decide) (by decide)))
              replace F_codes_t := F_codes_t.other W44 (Or.inr (slot_ne (Or.inr (hw _ (List.mem_of_getElem? (i := 13) rfl))) (Or.inl (hw _ (List.mem_of_getElem? (i := 37) rfl))) (by decide) (t := (.array .int)) (t' := .int) (by decide) (by decide)))
              replace F_largest_t := F_largest_t.other W44 (Or.inr (slot_ne (Or.inl (hw _ (List.mem_of_getElem? (i := 39) rfl))) (Or.inl (hw _ (List.mem_of_getElem? (i := 37) rfl))) (by decide) (t := .int) (t' := .int) (by decide) (by decide)))
              replace A_o := A_o.other W44 n_o_t
              replace A_l := A_l.other W44 (Ne.symm n_t_ln)
              replace A_c := A_c.other W44 (Ne.symm n_t_cd)
              replace KK := KK.wr W44 (Or.inl (by simp))
              refine px_aloadN S44 d3_114 rfl rfl rfl ?_
              refine px_getfield S44 (hw _ (List.mem_of_getElem? (i := 10) rfl)) F_lengths_t d3_115 rfl (fun T45 S45 => ?_)
              refine px_iload S45 d3_118 rfl rfl ?_
              refine px_iaload (v := (fl2 i)) S45 A_l (i := i) hi (by omega) rfl d3_120 rfl ?_
              refine px_if0 S45 d3_121 (by decide) (pc' := 130) rfl rfl (fun (hc46 : (fl2 i).toInt ≤ 0) => ?_) (fun (hc46 : (fl2 i).toInt > 0) => ?_)
              · refine px_iinc (v := (1 : Int32)) (r := (iv + (1 : Int32))) S45 d3_130 rfl rfl rfl rfl (L' := #[.val (.ref t), .val (.ref o), .val (.ref b1), .val (.int pv2), .val (.int (iv + (1 : Int32))), .unset, .unset, .unset]) rfl ?_
                generalize h_v47 : (iv + (1 : Int32)) = v47
                refine px_goto S45 d3_133 (by decide) (pc' := 88) rfl ?_
                exact IHJ10 (k - 1) (by omega) (i + 1, v47, r_, lg) _ _ S45 ⟨KK, ⟨X_t, F_lengths_t, F_codes_t, F_width_t, F_largest_t⟩, A_o, A_l, A_c, by (try dsimp only); omega, inc1 h_v47 hi (by omega), by (try dsimp only); omega, Hid.mk (fun j hj => by (try dsimp only at hj ⊢); by_cases e : j = i; (· rw [e]; exact m2); (· have q := hle.out j (by omega); omega))⟩
              · refine px_aloadN S45 d3_124 rfl rfl rfl ?_
                refine px_iload S45 d3_125 rfl rfl ?_
                refine px_putfield (ty := .int) S45 (hw _ (List.mem_of_getElem? (i := 38) rfl)) F_largest_t X_t g_t (Or.inl (hw _ (List.mem_of_getElem? (i := 39) rfl))) (hw _ (List.mem_of_getElem? (i := 2) rfl)) (by decide) rfl rfl d3_127 rfl (fun T48 h48 S48 W48 F_largest_t X_t => ?_)
                replace F_lengths_t := F_lengths_t.other W48 (Or.inr (slot_ne (Or.inr (hw _ (List.mem_of_getElem? (i := 11) rfl))) (Or.inl (hw _ (List.mem_of_getElem? (i := 39) rfl))) (by decide) (t := (.array .int)) (t' := .int) (by decide) (by decide)))
                replace F_codes_t := F_codes_t.other W48 (Or.inr (slot_ne (Or.inr (hw _ (List.mem_of_getElem? (i := 13) rfl))) (Or.inl (hw _ (List.mem_of_getElem? (i := 39) rfl))) (by decide) (t := (.array .int)) (t' := .int) (by decide) (by decide)))
                replace F_width_t := F_width_t.other W48 (Or.inr (slot_ne (Or.inl (hw _ (List.mem_of_getElem? (i := 37) rfl))) (Or.inl (hw _ (List.mem_of_getElem? (i := 39) rfl))) (by decide) (t := .int) (t' := .int) (by decide) (by decide)))
                replace A_o := A_o.other W48 n_o_t
                replace A_l := A_l.other W48 (Ne.symm n_t_ln)
                replace A_c := A_c.other W48 (Ne.symm n_t_cd)
                replace KK := KK.wr W48 (Or.inl (by simp))
                refine px_iinc (v := (1 : Int32)) (r := (iv + (1 : Int32))) S48 d3_130 rfl rfl rfl rfl (L' := #[.val (.ref t), .val (.ref o), .val (.ref b1), .val (.int pv2), .val (.int (iv + (1 : Int32))), .unset, .unset, .unset]) rfl ?_
                generalize h_v49 : (iv + (1 : Int32)) = v49
                refine px_goto S48 d3_133 (by decide) (pc' := 88) rfl ?_
                exact IHJ10 (k - 1) (by omega) (i + 1, v49, r_, iv) _ _ S48 ⟨KK, ⟨X_t, F_lengths_t, F_codes_t, F_width_t, F_largest_t⟩, A_o, A_l, A_c, by (try dsimp only); omega, inc1 h_v49 hi (by omega), by (try dsimp only); omega, Hid.mk (fun j hj => by (try dsimp only at hj ⊢); by_cases e : j = i; (· rw [e]; exact m2); (· have q := hle.out j (by omega); omega))⟩
          · exact J10 256 (0, (0 : Int32), (0 : Int32), (0 : Int32)) _ _ S9 ⟨KK, ⟨X_t, F_lengths_t, F_codes_t, F_width_t, F_largest_t⟩, A_o, A_l, A_c, rfl, rfl, by decide, Hid.mk (fun j hj => absurd hj (Nat.not_lt_zero j))⟩
        · refine px_aloadN S3 d3_55 rfl rfl rfl ?_
          rcases (show (na = 1 ∧ nb = 1 ∧ nc = 0) ∨ (na = 1 ∧ nb = 0 ∧ nc = 1) ∨ (na = 0 ∧ nb = 1 ∧ nc = 1) ∨ (na = 1 ∧ nb = 1 ∧ nc = 1) from by have q : (2 : Int32).toInt = 2 := rfl; omega) with ⟨ya, yb, yc⟩ | ⟨ya, yb, yc⟩ | ⟨ya, yb, yc⟩ | ⟨ya, yb, yc⟩
          · obtain rfl : pv = (2 : Int32) := i32_of (n := 2) (by rw [hpv]; omega) rfl
            have e0 : (g 0).toInt = (a : Int) := by have q := sA (by omega) ya; exact q
            have e1 : (g 1).toInt = (b : Int) := by have q := sB (by omega) yb; rw [ya] at q; exact q
            clear sA sB sC
            refine px_iloadN S3 d3_56 rfl rfl ?_
            refine px_aloadN S3 d3_57 rfl rfl rfl ?_
            refine px_callS (as' := [(.ref b1), (.int (2 : Int32)), (.ref o)]) (st := []) (W := 0) S3 (c_sort2 (X := a) (Y := b) hw S3.size A_b1 g_b1 A_o (Ne.symm ne_o_b1) e0 e1 (by omega) (by omega)) (hw _ (List.mem_of_getElem? (i := 19) rfl)) (hw _ (List.mem_of_getElem? (i := 20) rfl)) (hw _ (List.mem_of_getElem? (i := 3) rfl)) (hw _ (List.mem_of_getElem? (i := 21) rfl)) (by decide) pd_3_2 rfl rfl (by decide) rfl (by decide) (by decide) (by decide) d3_58 rfl rfl (fun T50 h50 v50 S50 q50 => ?_)
            obtain ⟨rfl, K50, g2, A_b1, alt⟩ := q50
            clear e0 e1
            replace X_t := X_t.keep K50
            replace F_lengths_t := F_lengths_t.keep K50 (ninS ne_t_b1 nin0)
            replace F_codes_t := F_codes_t.keep K50 (ninS ne_t_b1 nin0)
            replace F_width_t := F_width_t.keep K50 (ninS ne_t_b1 nin0)
            replace F_largest_t := F_largest_t.keep K50 (ninS ne_t_b1 nin0)
            replace A_o := A_o.keep K50 (ninS ne_o_b1 nin0)
            replace A_l := A_l.keep K50 (ninS ne_ln_b1 nin0)
            replace A_c := A_c.keep K50 (ninS ne_cd_b1 nin0)
            replace KK := KK.trans K50 (allS (Or.inr sz_b1) all0)
            rcases alt with ⟨e0, e1⟩ | ⟨e0, e1⟩
            · show Go _ _ _ _ _ _ _ []
              refine px_aloadN S50 d3_61 rfl rfl rfl ?_
              refine px_aloadN S50 d3_62 rfl rfl rfl ?_
              refine px_iloadN S50 d3_63 rfl rfl ?_
              refine px_aloadN S50 d3_64 rfl rfl rfl ?_
              refine px_callP (Cn := "com/example/colonnade/colonnade/compress/HuffmanEncoder") (yp := ({ cls := "com/example/colonnade/colonnade/compress/HuffmanEncoder", name := "build", desc := "([I)Z" } : Jvm.MethodName)) (as' := [(.ref b1), (.int (2 : Int32)), (.ref o)]) (st := []) (W := 0) S50 (c_huff2 (cd := cd) (X := a) (Y := b) hw S50.size X_t F_lengths_t F_codes_t A_b1 A_o A_l g_l n_t_ln (Ne.symm ne_ln_b1) n_o_ln e0 e1 (by omega) (by omega)) X_t (hw _ (List.mem_of_getElem? (i := 22) rfl)) (hw _ (List.mem_of_getElem? (i := 23) rfl)) (hw _ (List.mem_of_getElem? (i := 24) rfl)) (hw _ (List.mem_of_getElem? (i := 17) rfl)) rfl (hw _ (List.mem_of_getElem? (i := 3) rfl)) (hw _ (List.mem_of_getElem? (i := 25) rfl)) (by decide) pd_3_2 rfl rfl (by decide) rfl (by decide) (by decide) (by decide) d3_65 rfl rfl (fun T51 h51 v51 S51 q51 => ?_)
              obtain ⟨rfl, K51, A_l⟩ := q51
              replace X_t := X_t.keep K51
              replace F_lengths_t := F_lengths_t.keep K51 (ninS n_t_ln nin0)
              replace F_codes_t := F_codes_t.keep K51 (ninS n_t_ln nin0)
              replace F_width_t := F_width_t.keep K51 (ninS n_t_ln nin0)
              replace F_largest_t := F_largest_t.keep K51 (ninS n_t_ln nin0)
              replace A_o := A_o.keep K51 (ninS n_o_ln nin0)
              replace A_c := A_c.keep K51 (ninS (Ne.symm n_ln_cd) nin0)
              replace A_b1 := A_b1.keep K51 (ninS (Ne.symm ne_ln_b1) nin0)
              replace KK := KK.trans K51 (allS (Or.inl (by simp)) all0)
              show Go _ _ _ _ _ _ _ []
              refine px_aloadN S51 d3_68 rfl rfl rfl ?_
              refine px_aloadN S51 d3_69 rfl rfl rfl ?_
              refine px_iloadN S51 d3_70 rfl rfl ?_
              refine px_aloadN S51 d3_71 rfl rfl rfl ?_
              refine px_callP (Cn := "com/example/colonnade/colonnade/compress/HuffmanEncoder") (yp := ({ cls := "com/example/colonnade/colonnade/compress/HuffmanEncoder", name := "build", desc := "([I)Z" } : Jvm.MethodName)) (as' := [(.ref b1), (.int (2 : Int32)), (.ref o)]) (st := []) (W := 0) S51 (c_lim2 (cd := cd) (fl := (updF (updF fl a (1 : Int32)) b (1 : Int32))) (X := a) (Y := b) hw S51.size X_t F_lengths_t F_codes_t A_b1 A_l g_l n_t_ln (Ne.symm ne_ln_b1) e0 e1 (by omega) (by omega) (by rw [updF_ne _ _ (by omega), updF_same]) (by rw [updF_same])) X_t (hw _ (List.mem_of_getElem? (i := 27) rfl)) (hw _ (List.mem_of_getElem? (i := 28) rfl)) (hw _ (List.mem_of_getElem? (i := 29) rfl)) (hw _ (List.mem_of_getElem? (i := 17) rfl)) rfl (hw _ (List.mem_of_getElem? (i := 3) rfl)) (hw _ (List.mem_of_getElem? (i := 30) rfl)) (by decide) pd_3_2 rfl rfl (by decide) rfl (by decide) (by decide) (by decide) d3_72 rfl rfl (fun T52 h52 v52 S52 q52 => ?_)
              obtain ⟨rfl, K52, A_l⟩ := q52
              replace X_t := X_t.keep K52
              replace F_lengths_t := F_lengths_t.keep K52 (ninS n_t_ln nin0)
              replace F_codes_t := F_codes_t.keep K52 (ninS n_t_ln nin0)
              replace F_width_t := F_width_t.keep K52 (ninS n_t_ln nin0)
              replace F_largest_t := F_largest_t.keep K52 (ninS n_t_ln nin0)
              replace A_o := A_o.keep K52 (ninS n_o_ln nin0)
              replace A_c := A_c.keep K52 (ninS (Ne.symm n_ln_cd) nin0)
              replace A_b1 := A_b1.keep K52 (ninS (Ne.symm ne_ln_b1) nin0)
              replace KK := KK.trans K52 (allS (Or.inl (by simp)) all0)
              show Go _ _ _ _ _ _ _ []
              have va : ((updF (updF fl a (1 : Int32)) b (1 : Int32)) a).toInt = 1 := by rw [show (updF (updF fl a (1 : Int32)) b (1 : Int32)) a = (1 : Int32) from by rw [updF_ne _ _ (by omega), updF_same]]; rfl
              have vb : ((updF (updF fl a (1 : Int32)) b (1 : Int32)) b).toInt = 1 := by rw [show (updF (updF fl a (1 : Int32)) b (1 : Int32)) b = (1 : Int32) from by rw [updF_same]]; rfl
              have vc : ((updF (updF fl a (1 : Int32)) b (1 : Int32)) c).toInt = 0 := by rw [show (updF (updF fl a (1 : Int32)) b (1 : Int32)) c = (0 : Int32) from by rw [updF_ne _ _ (by omega), updF_ne _ _ (by omega), hz0 c (by omega)]]; rfl
              exact J6 ((2 : Int32), iv, (updF (updF fl a (1 : Int32)) b (1 : Int32))) _ _ (S52.more (by decide) (by decide)) ⟨KK, ⟨X_t, F_lengths_t, F_codes_t, F_width_t, F_largest_t⟩, A_o, A_l, A_c, Hid.mk (fun j hj h1 h2 h3 => by (try dsimp only); rw [updF_ne _ _ (by omega), updF_ne _ _ (by omega)]; exact hz0 j hj), by (try dsimp only); rw [va, vb, vc]; unfold LenP; omega⟩
            · show Go _ _ _ _ _ _ _ []
              refine px_aloadN S50 d3_61 rfl rfl rfl ?_
              refine px_aloadN S50 d3_62 rfl rfl rfl ?_
              refine px_iloadN S50 d3_63 rfl rfl ?_
              refine px_aloadN S50 d3_64 rfl rfl rfl ?_
              refine px_callP (Cn := "com/example/colonnade/colonnade/compress/HuffmanEncoder") (yp := ({ cls := "com/example/colonnade/colonnade/compress/HuffmanEncoder", name := "build", desc := "([I)Z" } : Jvm.MethodName)) (as' := [(.ref b1), (.int (2 : Int32)), (.ref o)]) (st := []) (W := 0) S50 (c_huff2 (cd := cd) (X := b) (Y := a) hw S50.size X_t F_lengths_t F_codes_t A_b1 A_o A_l g_l n_t_ln (Ne.symm ne_ln_b1) n_o_ln e0 e1 (by omega) (by omega)) X_t (hw _ (List.mem_of_getElem? (i := 22) rfl)) (hw _ (List.mem_of_getElem? (i := 23) rfl)) (hw _ (List.mem_of_getElem? (i := 24) rfl)) (hw _ (List.mem_of_getElem? (i := 17) rfl)) rfl (hw _ (List.mem_of_getElem? (i := 3) rfl)) (hw _ (List.mem_of_getElem? (i := 25) rfl)) (by decide) pd_3_2 rfl rfl (by decide) rfl (by decide) (by decide) (by decide) d3_65 rfl rfl (fun T53 h53 v53 S53 q53 => ?_)
              obtain ⟨rfl, K53, A_l⟩ := q53
              replace X_t := X_t.keep K53
              replace F_lengths_t := F_lengths_t.keep K53 (ninS n_t_ln nin0)
              replace F_codes_t := F_codes_t.keep K53 (ninS n_t_ln nin0)
              replace F_width_t := F_width_t.keep K53 (ninS n_t_ln nin0)
              replace F_largest_t := F_largest_t.keep K53 (ninS n_t_ln nin0)
              replace A_o := A_o.keep K53 (ninS n_o_ln nin0)
              replace A_c := A_c.keep K53 (ninS (Ne.symm n_ln_cd) nin0)
              replace A_b1 := A_b1.keep K53 (ninS (Ne.symm ne_ln_b1) nin0)
              replace KK := KK.trans K53 (allS (Or.inl (by simp)) all0)
              show Go _ _ _ _ _ _ _ []
              refine px_aloadN S53 d3_68 rfl rfl rfl ?_
              refine px_aloadN S53 d3_69 rfl rfl rfl ?_
              refine px_iloadN S53 d3_70 rfl rfl ?_
              refine px_aloadN S53 d3_71 rfl rfl rfl ?_
              refine px_callP (Cn := "com/example/colonnade/colonnade/compress/HuffmanEncoder") (yp := ({ cls := "com/example/colonnade/colonnade/compress/HuffmanEncoder", name := "build", desc := "([I)Z" } : Jvm.MethodName)) (as' := [(.ref b1), (.int (2 : Int32)), (.ref o)]) (st := []) (W := 0) S53 (c_lim2 (cd := cd) (fl := (updF (updF fl b (1 : Int32)) a (1 : Int32))) (X := b) (Y := a) hw S53.size X_t F_lengths_t F_codes_t A_b1 A_l g_l n_t_ln (Ne.symm ne_ln_b1) e0 e1 (by omega) (by omega) (by rw [updF_ne _ _ (by omega), updF_same]) (by rw [updF_same])) X_t (hw _ (List.mem_of_getElem? (i := 27) rfl)) (hw _ (List.mem_of_getElem? (i := 28) rfl)) (hw _ (List.mem_of_getElem? (i := 29) rfl)) (hw _ (List.mem_of_getElem? (i := 17) rfl)) rfl (hw _ (List.mem_of_getElem? (i := 3) rfl)) (hw _ (List.mem_of_getElem? (i := 30) rfl)) (by decide) pd_3_2 rfl rfl (by decide) rfl (by decide) (by decide) (by decide) d3_72 rfl rfl (fun T54 h54 v54 S54 q54 => ?_)
              obtain ⟨rfl, K54, A_l⟩ := q54
              replace X_t := X_t.keep K54
              replace F_lengths_t := F_lengths_t.keep K54 (ninS n_t_ln nin0)
              replace F_codes_t := F_codes_t.keep K54 (ninS n_t_ln nin0)
              replace F_width_t := F_width_t.keep K54 (ninS n_t_ln nin0)
              replace F_largest_t := F_largest_t.keep K54 (ninS n_t_ln nin0)
              replace A_o := A_o.keep K54 (ninS n_o_ln nin0)
              replace A_c := A_c.keep K54 (ninS (Ne.symm n_ln_cd) nin0)
              replace A_b1 := A_b1.keep K54 (ninS (Ne.symm ne_ln_b1) nin0)
              replace KK := KK.trans K54 (allS (Or.inl (by simp)) all0)
              show Go _ _ _ _ _ _ _ []
              have va : ((updF (updF fl b (1 : Int32)) a (1 : Int32)) a).toInt = 1 := by rw [show (updF (updF fl b (1 : Int32)) a (1 : Int32)) a = (1 : Int32) from by rw [updF_same]]; rfl
              have vb : ((updF (updF fl b (1 : Int32)) a (1 : Int32)) b).toInt = 1 := by rw [show (updF (updF fl b (1 : Int32)) a (1 : Int32)) b = (1 : Int32) from by rw [updF_ne _ _ (by omega), updF_same]]; rfl
              have vc : ((updF (updF fl b (1 : Int32)) a (1 : Int32)) c).toInt = 0 := by rw [show (updF (updF fl b (1 : Int32)) a (1 : Int32)) c = (0 : Int32) from by rw [updF_ne _ _ (by omega), updF_ne _ _ (by omega), hz0 c (by omega)]]; rfl
              exact J6 ((2 : Int32), iv, (updF (updF fl b (1 : Int32)) a (1 : Int32))) _ _ (S54.more (by decide) (by decide)) ⟨KK, ⟨X_t, F_lengths_t, F_codes_t, F_width_t, F_largest_t⟩, A_o, A_l, A_c, Hid.mk (fun j hj h1 h2 h3 => by (try dsimp only); rw [updF_ne _ _ (by omega), updF_ne _ _ (by omega)]; exact hz0 j hj), by (try dsimp only); rw [va, vb, vc]; unfold LenP; omega⟩
          · obtain rfl : pv = (2 : Int32) := i32_of (n := 2) (by rw [hpv]; omega) rfl
            have e0 : (g 0).toInt = (a : Int) := by have q := sA (by omega) ya; exact q
            have e1 : (g 1).toInt = (c : Int) := by have q := sC (by omega) yc; rw [ya, yb] at q; exact q
            clear sA sB sC
            refine px_iloadN S3 d3_56 rfl rfl ?_
            refine px_aloadN S3 d3_57 rfl rfl rfl ?_
            refine px_callS (as' := [(.ref b1), (.int (2 : Int32)), (.ref o)]) (st := []) (W := 0) S3 (c_sort2 (X := a) (Y := c) hw S3.size A_b1 g_b1 A_o (Ne.symm ne_o_b1) e0 e1 (by omega) (by omega)) (hw _ (List.mem_of_getElem? (i := 19) rfl)) (hw _ (List.mem_of_getElem? (i := 20) rfl)) (hw _ (List.mem_of_getElem? (i := 3) rfl)) (hw _ (List.mem_of_getElem? (i := 21) rfl)) (by decide) pd_3_2 rfl rfl (by decide) rfl (by decide) (by decide) (by decide) d3_58 rfl rfl (fun T55 h55 v55 S55 q55 => ?_)
            obtain ⟨rfl, K55, g2, A_b1, alt⟩ := q55
            clear e0 e1
            replace X_t := X_t.keep K55
            replace F_lengths_t := F_lengths_t.keep K55 (ninS ne_t_b1 nin0)
            replace F_codes_t := F_codes_t.keep K55 (ninS ne_t_b1 nin0)
            replace F_width_t := F_width_t.keep K55 (ninS ne_t_b1 nin0)
            replace F_largest_t := F_largest_t.keep K55 (ninS ne_t_b1 nin0)
            replace A_o := A_o.keep K55 (ninS ne_o_b1 nin0)
            replace A_l := A_l.keep K55 (ninS ne_ln_b1 nin0)
            replace A_c := A_c.keep K55 (ninS ne_cd_b1 nin0)
            replace KK := KK.trans K55 (allS (Or.inr sz_b1) all0)
            rcases alt with ⟨e0, e1⟩ | ⟨e0, e1⟩
            · show Go _ _ _ _ _ _ _ []
              refine px_aloadN S55 d3_61 rfl rfl rfl ?_
              refine px_aloadN S55 d3_62 rfl rfl rfl ?_
              refine px_iloadN S55 d3_63 rfl rfl ?_
              refine px_aloadN S55 d3_64 rfl rfl rfl ?_
              refine px_callP (Cn := "com/example/colonnade/colonnade/compress/HuffmanEncoder") (yp := ({ cls := "com/example/colonnade/colonnade/compress/HuffmanEncoder", name := "build", desc := "([I)Z" } : Jvm.MethodName)) (as' := [(.ref b1), (.int (2 : Int32)), (.ref o)]) (st := []) (W := 0) S55 (c_huff2 (cd := cd) (X := a) (Y := c) hw S55.size X_t F_lengths_t F_codes_t A_b1 A_o A_l g_l n_t_ln (Ne.symm ne_ln_b1) n_o_ln e0 e1 (by omega) (by omega)) X_t (hw _ (List.mem_of_getElem? (i := 22) rfl)) (hw _ (List.mem_of_getElem? (i := 23) rfl)) (hw _ (List.mem_of_getElem? (i := 24) rfl)) (hw _ (List.mem_of_getElem? (i := 17) rfl)) rfl (hw _ (List.mem_of_getElem? (i := 3) rfl)) (hw _ (List.mem_of_getElem? (i := 25) rfl)) (by decide) pd_3_2 rfl rfl (by decide) rfl (by decide) (by decide) (by decide) d3_65 rfl rfl (fun T56 h56 v56 S56 q56 => ?_)
              obtain ⟨rfl, K56, A_l⟩ := q56
              replace X_t := X_t.keep K56
              replace F_lengths_t := F_lengths_t.keep K56 (ninS n_t_ln nin0)
              replace F_codes_t := F_codes_t.keep K56 (ninS n_t_ln nin0)
              replace F_width_t := F_width_t.keep K56 (ninS n_t_ln nin0)
              replace F_largest_t := F_largest_t.keep K56 (ninS n_t_ln nin0)
              replace A_o := A_o.keep K56 (ninS n_o_ln nin0)
              replace A_c := A_c.keep K56 (ninS (Ne.symm n_ln_cd) nin0)
              replace A_b1 := A_b1.keep K56 (ninS (Ne.symm ne_ln_b1) nin0)
              replace KK := KK.trans K56 (allS (Or.inl (by simp)) all0)
              show Go _ _ _ _ _ _ _ []
              refine px_aloadN S56 d3_68 rfl rfl rfl ?_
              refine px_aloadN S56 d3_69 rfl rfl rfl ?_
              refine px_iloadN S56 d3_70 rfl rfl ?_
              refine px_aloadN S56 d3_71 rfl rfl rfl ?_
              refine px_callP (Cn := "com/example/colonnade/colonnade/compress/HuffmanEncoder") (yp := ({ cls := "com/example/colonnade/colonnade/compress/HuffmanEncoder", name := "build", desc := "([I)Z" } : Jvm.MethodName)) (as' := [(.ref b1), (.int (2 : Int32)), (.ref o)]) (st := []) (W := 0) S56 (c_lim2 (cd := cd) (fl := (updF (updF fl a (1 : Int32)) c (1 : Int32))) (X := a) (Y := c) hw S56.size X_t F_lengths_t F_codes_t A_b1 A_l g_l n_t_ln (Ne.symm ne_ln_b1) e0 e1 (by omega) (by omega) (by rw [updF_ne _ _ (by omega), updF_same]) (by rw [updF_same])) X_t (hw _ (List.mem_of_getElem? (i := 27) rfl)) (hw _ (List.mem_of_getElem? (i := 28) rfl)) (hw _ (List.mem_of_getElem? (i := 29) rfl)) (hw _ (List.mem_of_getElem? (i := 17) rfl)) rfl (hw _ (List.mem_of_getElem? (i := 3) rfl)) (hw _ (List.mem_of_getElem? (i := 30) rfl)) (by decide) pd_3_2 rfl rfl (by decide) rfl (by decide) (by decide) (by decide) d3_72 rfl rfl (fun T57 h57 v57 S57 q57 => ?_)
              obtain ⟨rfl, K57, A_l⟩ := q57
              replace X_t := X_t.keep K57
              replace F_lengths_t := F_lengths_t.keep K57 (ninS n_t_ln nin0)
              replace F_codes_t := F_codes_t.keep K57 (ninS n_t_ln nin0)
              replace F_width_t := F_width_t.keep K57 (ninS n_t_ln nin0)
              replace F_largest_t := F_largest_t.keep K57 (ninS n_t_ln nin0)
              replace A_o := A_o.keep K57 (ninS n_o_ln nin0)
              replace A_c := A_c.keep K57 (ninS (Ne.symm n_ln_cd) nin0)
              replace A_b1 := A_b1.keep K57 (ninS (Ne.symm ne_ln_b1) nin0)
              replace KK := KK.trans K57 (allS (Or.inl (by simp)) all0)
              show Go _ _ _ _ _ _ _ []
              have va : ((updF (updF fl a (1 : Int32)) c (1 : Int32)) a).toInt = 1 := by rw [show (updF (updF fl a (1 : Int32)) c (1 : Int32)) a = (1 : Int32) from by rw [updF_ne _ _ (by omega), updF_same]]; rfl
              have vb : ((updF (updF fl a (1 : Int32)) c (1 : Int32)) b).toInt = 0 := by rw [show (updF (updF fl a (1 : Int32)) c (1 : Int32)) b = (0 : Int32) from by rw [updF_ne _ _ (by omega), updF_ne _ _ (by omega), hz0 b (by omega)]]; rfl
              have vc : ((updF (updF fl a (1 : Int32)) c (1 : Int32)) c).toInt = 1 := by rw [show (updF (updF fl a (1 : Int32)) c (1 : Int32)) c = (1 : Int32) from by rw [updF_same]]; rfl
              exact J6 ((2 : Int32), iv, (updF (updF fl a (1 : Int32)) c (1 : Int32))) _ _ (S57.more (by decide) (by decide)) ⟨KK, ⟨X_t, F_lengths_t, F_codes_t, F_width_t, F_largest_t⟩, A_o, A_l, A_c, Hid.mk (fun j hj h1 h2 h3 => by (try dsimp only); rw [updF_ne _ _ (by omega), updF_ne _ _ (by omega)]; exact hz0 j hj), by (try dsimp only); rw [va, vb, vc]; unfold LenP; omega⟩
            · show Go _ _ _ _ _ _ _ []
              refine px_aloadN S55 d3_61 rfl rfl rfl ?_
              refine px_aloadN S55 d3_62 rfl rfl rfl ?_
              refine px_iloadN S55 d3_63 rfl rfl ?_
              refine px_aloadN S55 d3_64 rfl rfl rfl ?_
              refine px_callP (Cn := "com/example/colonnade/colonnade/compress/HuffmanEncoder") (yp := ({ cls := "com/example/colonnade/colonnade/compress/HuffmanEncoder", name := "build", desc := "([I)Z" } : Jvm.MethodName)) (as' := [(.ref b1), (.int (2 : Int32)), (.ref o)]) (st := []) (W := 0) S55 (c_huff2 (cd := cd) (X := c) (Y := a) hw S55.size X_t F_lengths_t F_codes_t A_b1 A_o A_l g_l n_t_ln (Ne.symm ne_ln_b1) n_o_ln e0 e1 (by omega) (by omega)) X_t (hw _ (List.mem_of_getElem? (i := 22) rfl)) (hw _ (List.mem_of_getElem? (i := 23) rfl)) (hw _ (List.mem_of_getElem? (i := 24) rfl)) (hw _ (List.mem_of_getElem? (i := 17) rfl)) rfl (hw _ (List.mem_of_getElem? (i := 3) rfl)) (hw _ (List.mem_of_getElem? (i := 25) rfl)) (by decide) pd_3_2 rfl rfl (by decide) rfl (by decide) (by decide) (by decide) d3_65 rfl rfl (fun T58 h58 v58 S58 q58 => ?_)
              obtain ⟨rfl, K58, A_l⟩ := q58
              replace X_t := X_t.keep K58
              replace F_lengths_t := F_lengths_t.keep K58 (ninS n_t_ln nin0)
              replace F_codes_t := F_codes_t.keep K58 (ninS n_t_ln nin0)
              replace F_width_t := F_width_t.keep K58 (ninS n_t_ln nin0)
              replace F_largest_t := F_largest_t.keep K58 (ninS n_t_ln nin0)
              replace A_o := A_o.keep K58 (ninS n_o_ln nin0)
              replace A_c := A_c.keep K58 (ninS (Ne.symm n_ln_cd) nin0)
              replace A_b1 := A_b1.keep K58 (ninS (Ne.symm ne_ln_b1) nin0)
              replace KK := KK.trans K58 (allS (Or.inl (by simp)) all0)
              show Go _ _ _ _ _ _ _ []
              refine px_aloadN S58 d3_68 rfl rfl rfl ?_
              refine px_aloadN S58 d3_69 rfl rfl rfl ?_
              refine px_iloadN S58 d3_70 rfl rfl ?_
              refine px_aloadN S58 d3_71 rfl rfl rfl ?_
              refine px_callP (Cn := "com/example/colonnade/colonnade/compress/HuffmanEncoder") (yp := ({ cls := "com/example/colonnade/colonnade/compress/HuffmanEncoder", name := "build", desc := "([I)Z" } : Jvm.MethodName)) (as' := [(.ref b1), (.int (2 : Int32)), (.ref o)]) (st := []) (W := 0) S58 (c_lim2 (cd := cd) (fl := (updF (updF fl c (1 : Int32)) a (1 : Int32))) (X := c) (Y := a) hw S58.size X_t F_lengths_t F_codes_t A_b1 A_l g_l n_t_ln (Ne.symm ne_ln_b1) e0 e1 (by omega) (by omega) (by rw [updF_ne _ _ (by omega), updF_same]) (by rw [updF_same])) X_t (hw _ (List.mem_of_getElem? (i := 27) rfl)) (hw _ (List.mem_of_getElem? (i := 28) rfl)) (hw _ (List.mem_of_getElem? (i := 29) rfl)) (hw _ (List.mem_of_getElem? (i := 17) rfl)) rfl (hw _ (List.mem_of_getElem? (i := 3) rfl)) (hw _ (List.mem_of_getElem? (i := 30) rfl)) (by decide) pd_3_2 rfl rfl (by decide) rfl (by decide) (by decide) (by decide) d3_72 rfl rfl (fun T59 h59 v59 S59 q59 => ?_)
              obtain ⟨rfl, K59, A_l⟩ := q59
              replace X_t := X_t.keep K59
              replace F_lengths_t := F_lengths_t.keep K59 (ninS n_t_ln nin0)
              replace F_codes_t := F_codes_t.keep K59 (ninS n_t_ln nin0)
              replace F_width_t := F_width_t.keep K59 (ninS n_t_ln nin0)
              replace F_largest_t := F_largest_t.keep K59 (ninS n_t_ln nin0)
              replace A_o := A_o.keep K59 (ninS n_o_ln nin0)
              replace A_c := A_c.keep K59 (ninS (Ne.symm n_ln_cd) nin0)
              replace A_b1 := A_b1.keep K59 (ninS (Ne.symm ne_ln_b1) nin0)
              replace KK := KK.trans K59 (allS (Or.inl (by simp)) all0)
              show Go _ _ _ _ _ _ _ []
              have va : ((updF (updF fl c (1 : Int32)) a (1 : Int32)) a).toInt = 1 := by rw [show (updF (updF fl c (1 : Int32)) a (1 : Int32)) a = (1 : Int32) from by rw [updF_same]]; rfl
              have vb : ((updF (updF fl c (1 : Int32)) a (1 : Int32)) b).toInt = 0 := by rw [show (updF (updF fl c (1 : Int32)) a (1 : Int32)) b = (0 : Int32) from by rw [updF_ne _ _ (by omega), updF_ne _ _ (by omega), hz0 b (by omega)]]; rfl
              have vc : ((updF (updF fl c (1 : Int32)) a (1 : Int32)) c).toInt = 1 := by rw [show (updF (updF fl c (1 : Int32)) a (1 : Int32)) c = (1 : Int32) from by rw [updF_ne _ _ (by omega), updF_same]]; rfl
              exact J6 ((2 : Int32), iv, (updF (updF fl c (1 : Int32)) a (1 : Int32))) _ _ (S59.more (by decide) (by decide)) ⟨KK, ⟨X_t, F_lengths_t, F_codes_t, F_width_t, F_largest_t⟩, A_o, A_l, A_c, Hid.mk (fun j hj h1 h2 h3 => by (try dsimp only); rw [updF_ne _ _ (by omega), updF_ne _ _ (by omega)]; exact hz0 j hj), by (try dsimp only); rw [va, vb, vc]; unfold LenP; omega⟩
          · obtain rfl : pv = (2 : Int32) := i32_of (n := 2) (by rw [hpv]; omega) rfl
            have e0 : (g 0).toInt = (b : Int) := by have q := sB (by omega) yb; rw [ya] at q; exact q
            have e1 : (g 1).toInt = (c : Int) := by have q := sC (by omega) yc; rw [ya, yb] at q; exact q
            clear sA sB sC
            refine px_iloadN S3 d3_56 rfl rfl ?_
            refine px_aloadN S3 d3_57 rfl rfl rfl ?_
            refine px_callS (as' := [(.ref b1), (.int (2 : Int32)), (.ref o)]) (st := []) (W := 0) S3 (c_sort2 (X := b) (Y := c) hw S3.size A_b1 g_b1 A_o (Ne.symm ne_o_b1) e0 e1 (by omega) (by omega)) (hw _ (List.mem_of_getElem? (i := 19) rfl)) (hw _ (List.mem_of_getElem? (i := 20) rfl)) (hw _ (List.mem_of_getElem? (i := 3) rfl)) (hw _ (List.mem_of_getElem? (i := 21) rfl)) (by decide) pd_3_2 rfl rfl (by decide) rfl (by decide) (by decide) (by decide) d3_58 rfl rfl (fun T60 h60 v60 S60 q60 => ?_)
            obtain ⟨rfl, K60, g2, A_b1, alt⟩ := q60
            clear e0 e1
            replace X_t := X_t.keep K60
            replace F_lengths_t := F_lengths_t.keep K60 (ninS ne_t_b1 nin0)
            replace F_codes_t := F_codes_t.keep K60 (ninS ne_t_b1 nin0)
            replace F_width_t := F_width_t.keep K60 (ninS ne_t_b1 nin0)
            replace F_largest_t := F_largest_t.keep K60 (ninS ne_t_b1 nin0)
            replace A_o := A_o.keep K60 (ninS ne_o_b1 nin0)
            replace A_l := A_l.keep K60 (ninS ne_ln_b1 nin0)
            replace A_c := A_c.keep K60 (ninS ne_cd_b1 nin0)
            replace KK := KK.trans K60 (allS (Or.inr sz_b1) all0)
            rcases alt with ⟨e0, e1⟩ | ⟨e0, e1⟩
            · show Go _ _ _ _ _ _ _ []
              refine px_aloadN S60 d3_61 rfl rfl rfl ?_
              refine px_aloadN S60 d3_62 rfl rfl rfl ?_
              refine px_iloadN S60 d3_63 rfl rfl ?_
              refine px_aloadN S60 d3_64 rfl rfl rfl ?_
              refine px_callP (Cn := "com/example/colonnade/colonnade/compress/HuffmanEncoder") (yp := ({ cls := "com/example/colonnade/colonnade/compress/HuffmanEncoder", name := "build", desc := "([I)Z" } : Jvm.MethodName)) (as' := [(.ref b1), (.int (2 : Int32)), (.ref o)]) (st := []) (W := 0) S60 (c_huff2 (cd := cd) (X := b) (Y := c) hw S60.size X_t F_lengths_t F_codes_t A_b1 A_o A_l g_l n_t_ln (Ne.symm ne_ln_b1) n_o_ln e0 e1 (by omega) (by omega)) X_t (hw _ (List.mem_of_getElem? (i := 22) rfl)) (hw _ (List.mem_of_getElem? (i := 23) rfl)) (hw _ (List.mem_of_getElem? (i := 24) rfl)) (hw _ (List.mem_of_getElem? (i := 17) rfl)) rfl (hw _ (List.mem_of_getElem? (i := 3) rfl)) (hw _ (List.mem_of_getElem? (i := 25) rfl)) (by decide) pd_3_2 rfl rfl (by decide) rfl (by decide) (by decide) (by decide) d3_65 rfl rfl (fun T61 h61 v61 S61 q61 => ?_)
              obtain ⟨rfl, K61, A_l⟩ := q61
              replace X_t := X_t.keep K61
              replace F_lengths_t := F_lengths_t.keep K61 (ninS n_t_ln nin0)
              replace F_codes_t := F_codes_t.keep K61 (ninS n_t_ln nin0)
              replace F_width_t := F_width_t.keep K61 (ninS n_t_ln nin0)
              replace F_largest_t := F_largest_t.keep K61 (ninS n_t_ln nin0)
              replace A_o := A_o.keep K61 (ninS n_o_ln nin0)
              replace A_c := A_c.keep K61 (ninS (Ne.symm n_ln_cd) nin0)
              replace A_b1 := A_b1.keep K61 (ninS (Ne.symm ne_ln_b1) nin0)
              replace KK := KK.trans K61 (allS (Or.inl (by simp)) all0)
              show Go _ _ _ _ _ _ _ []
              refine px_aloadN S61 d3_68 rfl rfl rfl ?_
              refine px_aloadN S61 d3_69 rfl rfl rfl ?_
              refine px_iloadN S61 d3_70 rfl rfl ?_
              refine px_aloadN S61 d3_71 rfl rfl rfl ?_
              refine px_callP (Cn := "com/example/colonnade/colonnade/compress/HuffmanEncoder") (yp := ({ cls := "com/example/colonnade/colonnade/compress/HuffmanEncoder", name := "build", desc := "([I)Z" } : Jvm.MethodName)) (as' := [(.ref b1), (.int (2 : Int32)), (.ref o)]) (st := []) (W := 0) S61 (c_lim2 (cd := cd) (fl := (updF (updF fl b (1 : Int32)) c (1 : Int32))) (X := b) (Y := c) hw S61.size X_t F_lengths_t F_codes_t A_b1 A_l g_l n_t_ln (Ne.symm ne_ln_b1) e0 e1 (by omega) (by omega) (by rw [updF_ne _ _ (by omega), updF_same]) (by rw [updF_same])) X_t (hw _ (List.mem_of_getElem? (i := 27) rfl)) (hw _ (List.mem_of_getElem? (i := 28) rfl)) (hw _ (List.mem_of_getElem? (i := 29) rfl)) (hw _ (List.mem_of_getElem? (i := 17) rfl)) rfl (hw _ (List.mem_of_getElem? (i := 3) rfl)) (hw _ (List.mem_of_getElem? (i := 30) rfl)) (by decide) pd_3_2 rfl rfl (by decide) rfl (by decide) (by decide) (by decide) d3_72 rfl rfl (fun T62 h62 v62 S62 q62 => ?_)
              obtain ⟨rfl, K62, A_l⟩ := q62
              replace X_t := X_t.keep K62
              replace F_lengths_t := F_lengths_t.keep K62 (ninS n_t_ln nin0)
              replace F_codes_t := F_codes_t.keep K62 (ninS n_t_ln nin0)
              replace F_width_t := F_width_t.keep K62 (ninS n_t_ln nin0)
              replace F_largest_t := F_largest_t.keep K62 (ninS n_t_ln nin0)
              replace A_o := A_o.keep K62 (ninS n_o_ln nin0)
              replace A_c := A_c.keep K62 (ninS (Ne.symm n_ln_cd) nin0)
              replace A_b1 := A_b1.keep K62 (ninS (Ne.symm ne_ln_b1) nin0)
              replace KK := KK.trans K62 (allS (Or.inl (by simp)) all0)
              show Go _ _ _ _ _ _ _ []
              have va : ((updF (updF fl b (1 : Int32)) c (1 : Int32)) a).toInt = 0 := by rw [show (updF (updF fl b (1 : Int32)) c (1 : Int32)) a = (0 : Int32) from by rw [updF_ne _ _ (by omega), updF_ne _ _ (by omega), hz0 a (by omega)]]; rfl
              have vb : ((updF (updF fl b (1 : Int32)) c (1 : Int32)) b).toInt = 1 := by rw [show (updF (updF fl b (1 : Int32)) c (1 : Int32)) b = (1 : Int32) from by rw [updF_ne _ _ (by omega), updF_same]]; rfl
              have vc : ((updF (updF fl b (1 : Int32)) c (1 : Int32)) c).toInt = 1 := by rw [show (updF (updF fl b (1 : Int32)) c (1 : Int32)) c = (1 : Int32) from by rw [updF_same]]; rfl
              exact J6 ((2 : Int32), iv, (updF (updF fl b (1 : Int32)) c (1 : Int32))) _ _ (S62.more (by decide) (by decide)) ⟨KK, ⟨X_t, F_lengths_t, F_codes_t, F_width_t, F_largest_t⟩, A_o, A_l, A_c, Hid.mk (fun j hj h1 h2 h3 => by (try dsimp only); rw [updF_ne _ _ (by omega), updF_ne _ _ (by omega)]; exact hz0 j hj), by (try dsimp only); rw [va, vb, vc]; unfold LenP; omega⟩
            · show Go _ _ _ _ _ _ _ []
              refine px_aloadN S60 d3_61 rfl rfl rfl ?_
              refine px_aloadN S60 d3_62 rfl rfl rfl ?_
              refine px_iloadN S60 d3_63 rfl rfl ?_
              refine px_aloadN S60 d3_64 rfl rfl rfl ?_
              refine px_callP (Cn := "com/example/colonnade/colonnade/compress/HuffmanEncoder") (yp := ({ cls := "com/example/colonnade/colonnade/compress/HuffmanEncoder", name := "build", desc := "([I)Z" } : Jvm.MethodName)) (as' := [(.ref b1), (.int (2 : Int32)), (.ref o)]) (st := []) (W := 0) S60 (c_huff2 (cd := cd) (X := c) (Y := b) hw S60.size X_t F_lengths_t F_codes_t A_b1 A_o A_l g_l n_t_ln (Ne.symm ne_ln_b1) n_o_ln e0 e1 (by omega) (by omega)) X_t (hw _ (List.mem_of_getElem? (i := 22) rfl)) (hw _ (List.mem_of_getElem? (i := 23) rfl)) (hw _ (List.mem_of_getElem? (i := 24) rfl)) (hw _ (List.mem_of_getElem? (i := 17) rfl)) rfl (hw _ (List.mem_of_getElem? (i := 3) rfl)) (hw _ (List.mem_of_getElem? (i := 25) rfl)) (by decide) pd_3_2 rfl rfl (by decide) rfl (by decide) (by decide) (by decide) d3_65 rfl rfl (fun T63 h63 v63 S63 q63 => ?_)
              obtain ⟨rfl, K63, A_l⟩ := q63
              replace X_t := X_t.keep K63
              replace F_lengths_t := F_lengths_t.keep K63 (ninS n_t_ln nin0)
              replace F_codes_t := F_codes_t.keep K63 (ninS n_t_ln nin0)
              replace F_width_t := F_width_t.keep K63 (ninS n_t_ln nin0)
              replace F_largest_t := F_largest_t.keep K63 (ninS n_t_ln nin0)
              replace A_o := A_o.keep K63 (ninS n_o_ln nin0)
              replace A_c := A_c.keep K63 (ninS (Ne.symm n_ln_cd) nin0)
              replace A_b1 := A_b1.keep K63 (ninS (Ne.symm ne_ln_b1) nin0)
              replace KK := KK.trans K63 (allS (Or.inl (by simp)) all0)
              show Go _ _ _ _ _ _ _ []
              refine px_aloadN S63 d3_68 rfl rfl rfl ?_
              refine px_aloadN S63 d3_69 rfl rfl rfl ?_
              refine px_iloadN S63 d3_70 rfl rfl ?_
              refine px_aloadN S63 d3_71 rfl rfl rfl ?_
              refine px_callP (Cn := "com/example/colonnade/colonnade/compress/HuffmanEncoder") (yp := ({ cls := "com/example/colonnade/colonnade/compress/HuffmanEncoder", name := "build", desc := "([I)Z" } : Jvm.MethodName)) (as' := [(.ref b1), (.int (2 : Int32)), (.ref o)]) (st := []) (W := 0) S63 (c_lim2 (cd := cd) (fl := (updF (updF fl c (1 : Int32)) b (1 : Int32))) (X := c) (Y := b) hw S63.size X_t F_lengths_t F_codes_t A_b1 A_l g_l n_t_ln (Ne.symm ne_ln_b1) e0 e1 (by omega) (by omega) (by rw [updF_ne _ _ (by omega), updF_same]) (by rw [updF_same])) X_t (hw _ (List.mem_of_getElem? (i := 27) rfl)) (hw _ (List.mem_of_getElem? (i := 28) rfl)) (hw _ (List.mem_of_getElem? (i := 29) rfl)) (hw _ (List.mem_of_getElem? (i := 17) rfl)) rfl (hw _ (List.mem_of_getElem? (i := 3) rfl)) (hw _ (List.mem_of_getElem? (i := 30) rfl)) (by decide) pd_3_2 rfl rfl (by decide) rfl (by decide) (by decide) (by decide) d3_72 rfl rfl (fun T64 h64 v64 S64 q64 => ?_)
              obtain ⟨rfl, K64, A_l⟩ := q64
              replace X_t := X_t.keep K64
              replace F_lengths_t := F_lengths_t.keep K64 (ninS n_t_ln nin0)
              replace F_codes_t := F_codes_t.keep K64 (ninS n_t_ln nin0)
              replace F_width_t := F_width_t.keep K64 (ninS n_t_ln nin0)
              replace F_largest_t := F_largest_t.keep K64 (ninS n_t_ln nin0)
              replace A_o := A_o.keep K64 (ninS n_o_ln nin0)
              replace A_c := A_c.keep K64 (ninS (Ne.symm n_ln_cd) nin0)
              replace A_b1 := A_b1.keep K64 (ninS (Ne.symm ne_ln_b1) nin0)
              replace KK := KK.trans K64 (allS (Or.inl (by simp)) all0)
              show Go _ _ _ _ _ _ _ []
              have va : ((updF (updF fl c (1 : Int32)) b (1 : Int32)) a).toInt = 0 := by rw [show (updF (updF fl c (1 : Int32)) b (1 : Int32)) a = (0 : Int32) from by rw [updF_ne _ _ (by omega), updF_ne _ _ (by omega), hz0 a (by omega)]]; rfl
              have vb : ((updF (updF fl c (1 : Int32)) b (1 : Int32)) b).toInt = 1 := by rw [show (updF (updF fl c (1 : Int32)) b (1 : Int32)) b = (1 : Int32) from by rw [updF_same]]; rfl
              have vc : ((updF (updF fl c (1 : Int32)) b (1 : Int32)) c).toInt = 1 := by rw [show (updF (updF fl c (1 : Int32)) b (1 : Int32)) c = (1 : Int32) from by rw [updF_ne _ _ (by omega), updF_same]]; rfl
              exact J6 ((2 : Int32), iv, (updF (updF fl c (1 : Int32)) b (1 : Int32))) _ _ (S64.more (by decide) (by decide)) ⟨KK, ⟨X_t, F_lengths_t, F_codes_t, F_width_t, F_largest_t⟩, A_o, A_l, A_c, Hid.mk (fun j hj h1 h2 h3 => by (try dsimp only); rw [updF_ne _ _ (by omega), updF_ne _ _ (by omega)]; exact hz0 j hj), by (try dsimp only); rw [va, vb, vc]; unfold LenP; omega⟩
          · obtain rfl : pv = (3 : Int32) := i32_of (n := 3) (by rw [hpv]; omega) rfl
            have e0 : (g 0).toInt = (a : Int) := by have q := sA (by omega) ya; exact q
            have e1 : (g 1).toInt = (b : Int) := by have q := sB (by omega) yb; rw [ya] at q; exact q
            have e2 : (g 2).toInt = (c : Int) := by have q := sC (by omega) yc; rw [ya, yb] at q; exact q
            clear sA sB sC
            refine px_iloadN S3 d3_56 rfl rfl ?_
            refine px_aloadN S3 d3_57 rfl rfl rfl ?_
            refine px_callS (as' := [(.ref b1), (.int (3 : Int32)), (.ref o)]) (st := []) (W := 0) S3 (c_sort3 (X := a) (Y := b) (W := c) hw S3.size A_b1 g_b1 A_o (Ne.symm ne_o_b1) e0 e1 e2 (by omega) (by omega) (by omega)) (hw _ (List.mem_of_getElem? (i := 19) rfl)) (hw _ (List.mem_of_getElem? (i := 20) rfl)) (hw _ (List.mem_of_getElem? (i := 3) rfl)) (hw _ (List.mem_of_getElem? (i := 21) rfl)) (by decide) pd_3_2 rfl rfl (by decide) rfl (by decide) (by decide) (by decide) d3_58 rfl rfl (fun T65 h65 v65 S65 q65 => ?_)
            obtain ⟨rfl, K65, g2, A_b1, alt⟩ := q65
            clear e0 e1 e2
            replace X_t := X_t.keep K65
            replace F_lengths_t := F_lengths_t.keep K65 (ninS ne_t_b1 nin0)
            replace F_codes_t := F_codes_t.keep K65 (ninS ne_t_b1 nin0)
            replace F_width_t := F_width_t.keep K65 (ninS ne_t_b1 nin0)
            replace F_largest_t := F_largest_t.keep K65 (ninS ne_t_b1 nin0)
            replace A_o := A_o.keep K65 (ninS ne_o_b1 nin0)
            replace A_l := A_l.keep K65 (ninS ne_ln_b1 nin0)
            replace A_c := A_c.keep K65 (ninS ne_cd_b1 nin0)
            replace KK := KK.trans K65 (allS (Or.inr sz_b1) all0)
            rcases alt with ⟨e0, e1, e2, cnd⟩ | ⟨e0, e1, e2, cnd⟩ | ⟨e0, e1, e2, cnd⟩ | ⟨e0, e1, e2, cnd⟩ | ⟨e0, e1, e2, cnd⟩ | ⟨e0, e1, e2, cnd⟩
            · show Go _ _ _ _ _ _ _ []
              refine px_aloadN S65 d3_61 rfl rfl rfl ?_
              refine px_aloadN S65 d3_62 rfl rfl rfl ?_
              refine px_iloadN S65 d3_63 rfl rfl ?_
              refine px_aloadN S65 d3_64 rfl rfl rfl ?_
              refine px_callP (Cn := "com/example/colonnade/colonnade/compress/HuffmanEncoder") (yp := ({ cls := "com/example/colonnade/colonnade/compress/HuffmanEncoder", name := "build", desc := "([I)Z" } : Jvm.MethodName)) (as' := [(.ref b1), (.int (3 : Int32)), (.ref o)]) (st := []) (W := 0) S65 (c_huff3 (cd := cd) (X := a) (Y := b) (W := c) hw S65.size X_t F_lengths_t F_codes_t A_b1 A_o A_l g_l n_t_ln (Ne.symm ne_ln_b1) n_o_ln e0 e1 e2 (by omega) (by omega) (by omega)) X_t (hw _ (List.mem_of_getElem? (i := 22) rfl)) (hw _ (List.mem_of_getElem? (i := 23) rfl)) (hw _ (List.mem_of_getElem? (i := 24) rfl)) (hw _ (List.mem_of_getElem? (i := 17) rfl)) rfl (hw _ (List.mem_of_getElem? (i := 3) rfl)) (hw _ (List.mem_of_getElem? (i := 25) rfl)) (by decide) pd_3_2 rfl rfl (by decide) rfl (by decide) (by decide) (by decide) d3_65 rfl rfl (fun T66 h66 v66 S66 q66 => ?_)
              obtain ⟨rfl, K66, A_l⟩ := q66
              replace X_t := X_t.keep K66
              replace F_lengths_t := F_lengths_t.keep K66 (ninS n_t_ln nin0)
              replace F_codes_t := F_codes_t.keep K66 (ninS n_t_ln nin0)
              replace F_width_t := F_width_t.keep K66 (ninS n_t_ln nin0)
              replace F_largest_t := F_largest_t.keep K66 (ninS n_t_ln nin0)
              replace A_o := A_o.keep K66 (ninS n_o_ln nin0)
              replace A_c := A_c.keep K66 (ninS (Ne.symm n_ln_cd) nin0)
              replace A_b1 := A_b1.keep K66 (ninS (Ne.symm ne_ln_b1) nin0)
              replace KK := KK.trans K66 (allS (Or.inl (by simp)) all0)
              show Go _ _ _ _ _ _ _ []
              refine px_aloadN S66 d3_68 rfl rfl rfl ?_
              refine px_aloadN S66 d3_69 rfl rfl rfl ?_
              refine px_iloadN S66 d3_70 rfl rfl ?_
              refine px_aloadN S66 d3_71 rfl rfl rfl ?_
              refine px_callP (Cn := "com/example/colonnade/colonnade/compress/HuffmanEncoder") (yp := ({ cls := "com/example/colonnade/colonnade/compress/HuffmanEncoder", name := "build", desc := "([I)Z" } : Jvm.MethodName)) (as' := [(.ref b1), (.int (3 : Int32)), (.ref o)]) (st := []) (W := 0) S66 (c_lim3 (cd := cd) (fl := (updF (updF (updF fl a (2 : Int32)) b (2 : Int32)) c (1 : Int32))) (X := a) (Y := b) (W := c) hw S66.size X_t F_lengths_t F_codes_t A_b1 A_l g_l n_t_ln (Ne.symm ne_ln_b1) e0 e1 e2 (by omega) (by omega) (by omega) (by rw [updF_ne _ _ (by omega), updF_ne _ _ (by omega), updF_same]) (by rw [updF_ne _ _ (by omega), updF_same]) (by rw [updF_same])) X_t (hw _ (List.mem_of_getElem? (i := 27) rfl)) (hw _ (List.mem_of_getElem? (i := 28) rfl)) (hw _ (List.mem_of_getElem? (i := 29) rfl)) (hw _ (List.mem_of_getElem? (i := 17) rfl)) rfl (hw _ (List.mem_of_getElem? (i := 3) rfl)) (hw _ (List.mem_of_getElem? (i := 30) rfl)) (by decide) pd_3_2 rfl rfl (by decide) rfl (by decide) (by decide) (by decide) d3_72 rfl rfl (fun T67 h67 v67 S67 q67 => ?_)
              obtain ⟨rfl, K67, A_l⟩ := q67
              replace X_t := X_t.keep K67
              replace F_lengths_t := F_lengths_t.keep K67 (ninS n_t_ln nin0)
              replace F_codes_t := F_codes_t.keep K67 (ninS n_t_ln nin0)
              replace F_width_t := F_width_t.keep K67 (ninS n_t_ln nin0)
              replace F_largest_t := F_largest_t.keep K67 (ninS n_t_ln nin0)
              replace A_o := A_o.keep K67 (ninS n_o_ln nin0)
              replace A_c := A_c.keep K67 (ninS (Ne.symm n_ln_cd) nin0)
              replace A_b1 := A_b1.keep K67 (ninS (Ne.symm ne_ln_b1) nin0)
              replace KK := KK.trans K67 (allS (Or.inl (by simp)) all0)
              show Go _ _ _ _ _ _ _ []
              have va : ((updF (updF (updF fl a (2 : Int32)) b (2 : Int32)) c (1 : Int32)) a).toInt = 2 := by rw [show (updF (updF (updF fl a (2 : Int32)) b (2 : Int32)) c (1 : Int32)) a = (2 : Int32) from by rw [updF_ne _ _ (by omega), updF_ne _ _ (by omega), updF_same]]; rfl
              have vb : ((updF (updF (updF fl a (2 : Int32)) b (2 : Int32)) c (1 : Int32)) b).toInt = 2 := by rw [show (updF (updF (updF fl a (2 : Int32)) b (2 : Int32)) c (1 : Int32)) b = (2 : Int32) from by rw [updF_ne _ _ (by omega), updF_same]]; rfl
              have vc : ((updF (updF (updF fl a (2 : Int32)) b (2 : Int32)) c (1 : Int32)) c).toInt = 1 := by rw [show (updF (updF (updF fl a (2 : Int32)) b (2 : Int32)) c (1 : Int32)) c = (1 : Int32) from by rw [updF_same]]; rfl
              exact J6 ((3 : Int32), iv, (updF (updF (updF fl a (2 : Int32)) b (2 : Int32)) c (1 : Int32))) _ _ (S67.more (by decide) (by decide)) ⟨KK, ⟨X_t, F_lengths_t, F_codes_t, F_width_t, F_largest_t⟩, A_o, A_l, A_c, Hid.mk (fun j hj h1 h2 h3 => by (try dsimp only); rw [updF_ne _ _ (by omega), updF_ne _ _ (by omega), updF_ne _ _ (by omega)]; exact hz0 j hj), by (try dsimp only); rw [va, vb, vc]; unfold LenP; omega⟩
            · show Go _ _ _ _ _ _ _ []
              refine px_aloadN S65 d3_61 rfl rfl rfl ?_
              refine px_aloadN S65 d3_62 rfl rfl rfl ?_
              refine px_iloadN S65 d3_63 rfl rfl ?_
              refine px_aloadN S65 d3_64 rfl rfl rfl ?_
              refine px_callP (Cn := "com/example/colonnade/colonnade/compress/HuffmanEncoder") (yp := ({ cls := "com/example/colonnade/colonnade/compress/HuffmanEncoder", name := "build", desc := "([I)Z" } : Jvm.MethodName)) (as' := [(.ref b1), (.int (3 : Int32)), (.ref o)]) (st := []) (W := 0) S65 (c_huff3 (cd := cd) (X := b) (Y := a) (W := c) hw S65.size X_t F_lengths_t F_codes_t A_b1 A_o A_l g_l n_t_ln (Ne.symm ne_ln_b1) n_o_ln e0 e1 e2 (by omega) (by omega) (by omega)) X_t (hw _ (List.mem_of_getElem? (i := 22) rfl)) (hw _ (List.mem_of_getElem? (i := 23) rfl)) (hw _ (List.mem_of_getElem? (i := 24) rfl)) (hw _ (List.mem_of_getElem? (i := 17) rfl)) rfl (hw _ (List.mem_of_getElem? (i := 3) rfl)) (hw _ (List.mem_of_getElem? (i := 25) rfl)) (by decide) pd_3_2 rfl rfl (by decide) rfl (by decide) (by decide) (by decide) d3_65 rfl rfl (fun T68 h68 v68 S68 q68 => ?_)
              obtain ⟨rfl, K68, A_l⟩ := q68
              replace X_t := X_t.keep K68
              replace F_lengths_t := F_lengths_t.keep K68 (ninS n_t_ln nin0)
              replace F_codes_t := F_codes_t.keep K68 (ninS n_t_ln nin0)
              replace F_width_t := F_width_t.keep K68 (ninS n_t_ln nin0)
              replace F_largest_t := F_largest_t.keep K68 (ninS n_t_ln nin0)
              replace A_o := A_o.keep K68 (ninS n_o_ln nin0)
              replace A_c := A_c.keep K68 (ninS (Ne.symm n_ln_cd) nin0)
              replace A_b1 := A_b1.keep K68 (ninS (Ne.symm ne_ln_b1) nin0)
              replace KK := KK.trans K68 (allS (Or.inl (by simp)) all0)
              show Go _ _ _ _ _ _ _ []
              refine px_aloadN S68 d3_68 rfl rfl rfl ?_
              refine px_aloadN S68 d3_69 rfl rfl rfl ?_
              refine px_iloadN S68 d3_70 rfl rfl ?_
              refine px_aloadN S68 d3_71 rfl rfl rfl ?_
              refine px_callP (Cn := "com/example/colonnade/colonnade/compress/HuffmanEncoder") (yp := ({ cls := "com/example/colonnade/colonnade/compress/HuffmanEncoder", name := "build", desc := "([I)Z" } : Jvm.MethodName)) (as' := [(.ref b1), (.int (3 : Int32)), (.ref o)]) (st := []) (W := 0) S68 (c_lim3 (cd := cd) (fl := (updF (updF (updF fl b (2 : Int32)) a (2 : Int32)) c (1 : Int32))) (X := b) (Y := a) (W := c) hw S68.size X_t F_lengths_t F_codes_t A_b1 A_l g_l n_t_ln (Ne.symm ne_ln_b1) e0 e1 e2 (by omega) (by omega) (by omega) (by rw [updF_ne _ _ (by omega), updF_ne _ _ (by omega), updF_same]) (by rw [updF_ne _ _ (by omega), updF_same]) (by rw [updF_same])) X_t (hw _ (List.mem_of_getElem? (i := 27) rfl)) (hw _ (List.mem_of_getElem? (i := 28) rfl)) (hw _ (List.mem_of_getElem? (i := 29) rfl)) (hw _ (List.mem_of_getElem? (i := 17) rfl)) rfl (hw _ (List.mem_of_getElem? (i := 3) rfl)) (hw _ (List.mem_of_getElem? (i := 30) rfl)) (by decide) pd_3_2 rfl rfl (by decide) rfl (by decide) (by decide) (by decide) d3_72 rfl rfl (fun T69 h69 v69 S69 q69 => ?_)
              obtain ⟨rfl, K69, A_l⟩ := q69
              replace X_t := X_t.keep K69
              replace F_lengths_t := F_lengths_t.keep K69 (ninS n_t_ln nin0)
              replace F_codes_t := F_codes_t.keep K69 (ninS n_t_ln nin0)
              replace F_width_t := F_width_t.keep K69 (ninS n_t_ln nin0)
              replace F_largest_t := F_largest_t.keep K69 (ninS n_t_ln nin0)
              replace A_o := A_o.keep K69 (ninS n_o_ln nin0)
              replace A_c := A_c.keep K69 (ninS (Ne.symm n_ln_cd) nin0)
              replace A_b1 := A_b1.keep K69 (ninS (Ne.symm ne_ln_b1) nin0)
              replace KK := KK.trans K69 (allS (Or.inl (by simp)) all0)
              show Go _ _ _ _ _ _ _ []
              have va : ((updF (updF (updF fl b (2 : Int32)) a (2 : Int32)) c (1 : Int32)) a).toInt = 2 := by rw [show (updF (updF (updF fl b (2 : Int32)) a (2 : Int32)) c (1 : Int32)) a = (2 : Int32) from by rw [updF_ne _ _ (by omega), updF_same]]; rfl
              have vb : ((updF (updF (updF fl b (2 : Int32)) a (2 : Int32)) c (1 : Int32)) b).toInt = 2 := by rw [show (updF (updF (updF fl b (2 : Int32)) a (2 : Int32)) c (1 : Int32)) b = (2 : Int32) from by rw [updF_ne _ _ (by omega), updF_ne _ _ (by omega), updF_same]]; rfl
              have vc : ((updF (updF (updF fl b (2 : Int32)) a (2 : Int32)) c (1 : Int32)) c).toInt = 1 := by rw [show (updF (updF (updF fl b (2 : Int32)) a (2 : Int32)) c (1 : Int32)) c = (1 : Int32) from by rw [updF_same]]; rfl
              exact J6 ((3 : Int32), iv, (updF (updF (updF fl b (2 : Int32)) a (2 : Int32)) c (1 : Int32))) _ _ (S69.more (by decide) (by decide)) ⟨KK, ⟨X_t, F_lengths_t, F_codes_t, F_width_t, F_largest_t⟩, A_o, A_l, A_c, Hid.mk (fun j hj h1 h2 h3 => by (try dsimp only); rw [updF_ne _ _ (by omega), updF_ne _ _ (by omega), updF_ne _ _ (by omega)]; exact hz0 j hj), by (try dsimp only); rw [va, vb, vc]; unfold LenP; omega⟩
            · show Go _ _ _ _ _ _ _ []
              refine px_aloadN S65 d3_61 rfl rfl rfl ?_
              refine px_aloadN S65 d3_62 rfl rfl rfl ?_
              refine px_iloadN S65 d3_63 rfl rfl ?_
              refine px_aloadN S65 d3_64 rfl rfl rfl ?_
              refine px_callP (Cn := "com/example/colonnade/colonnade/compress/HuffmanEncoder") (yp := ({ cls := "com/example/colonnade/colonnade/compress/HuffmanEncoder", name := "build", desc := "([I)Z" } : Jvm.MethodName)) (as' := [(.ref b1), (.int (3 : Int32)), (.ref o)]) (st := []) (W := 0) S65 (c_huff3 (cd := cd) (X := a) (Y := c) (W := b) hw S65.size X_t F_lengths_t F_codes_t A_b1 A_o A_l g_l n_t_ln (Ne.symm ne_ln_b1) n_o_ln e0 e1 e2 (by omega) (by omega) (by omega)) X_t (hw _ (List.mem_of_getElem? (i := 22) rfl)) (hw _ (List.mem_of_getElem? (i := 23) rfl)) (hw _ (List.mem_of_getElem? (i := 24) rfl)) (hw _ (List.mem_of_getElem? (i := 17) rfl)) rfl (hw _ (List.mem_of_getElem? (i := 3) rfl)) (hw _ (List.mem_of_getElem? (i := 25) rfl)) (by decide) pd_3_2 rfl rfl (by decide) rfl (by decide) (by decide) (by decide) d3_65 rfl rfl (fun T70 h70 v70 S70 q70 => ?_)
              obtain ⟨rfl, K70, A_l⟩ := q70
              replace X_t := X_t.keep K70
              replace F_lengths_t := F_lengths_t.keep K70 (ninS n_t_ln nin0)
              replace F_codes_t := F_codes_t.keep K70 (ninS n_t_ln nin0)
              replace F_width_t := F_width_t.keep K70 (ninS n_t_ln nin0)
              replace F_largest_t := F_largest_t.keep K70 (ninS n_t_ln nin0)
              replace A_o := A_o.keep K70 (ninS n_o_ln nin0)
              replace A_c := A_c.keep K70 (ninS (Ne.symm n_ln_cd) nin0)
              replace A_b1 := A_b1.keep K70 (ninS (Ne.symm ne_ln_b1) nin0)
              replace KK := KK.trans K70 (allS (Or.inl (by simp)) all0)
              show Go _ _ _ _ _ _ _ []
              refine px_aloadN S70 d3_68 rfl rfl rfl ?_
              refine px_aloadN S70 d3_69 rfl rfl rfl ?_
              refine px_iloadN S70 d3_70 rfl rfl ?_
              refine px_aloadN S70 d3_71 rfl rfl rfl ?_
              refine px_callP (Cn := "com/example/colonnade/colonnade/compress/HuffmanEncoder") (yp := ({ cls := "com/example/colonnade/colonnade/compress/HuffmanEncoder", name := "build", desc := "([I)Z" } : Jvm.MethodName)) (as' := [(.ref b1), (.int (3 : Int32)), (.ref o)]) (st := []) (W := 0) S70 (c_lim3 (cd := cd) (fl := (updF (updF (updF fl a (2 : Int32)) c (2 : Int32)) b (1 : Int32))) (X := a) (Y := c) (W := b) hw S70.size X_t F_lengths_t F_codes_t A_b1 A_l g_l n_t_ln (Ne.symm ne_ln_b1) e0 e1 e2 (by omega) (by omega) (by omega) (by rw [updF_ne _ _ (by omega), updF_ne _ _ (by omega), updF_same]) (by rw [updF_ne _ _ (by omega), updF_same]) (by rw [updF_same])) X_t (hw _ (List.mem_of_getElem? (i := 27) rfl)) (hw _ (List.mem_of_getElem? (i := 28) rfl)) (hw _ (List.mem_of_getElem? (i := 29) rfl)) (hw _ (List.mem_of_getElem? (i := 17) rfl)) rfl (hw _ (List.mem_of_getElem? (i := 3) rfl)) (hw _ (List.mem_of_getElem? (i := 30) rfl)) (by decide) pd_3_2 rfl rfl (by decide) rfl (by decide) (by decide) (by decide) d3_72 rfl rfl (fun T71 h71 v71 S71 q71 => ?_)
              obtain ⟨rfl, K71, A_l⟩ := q71
              replace X_t := X_t.keep K71
              replace F_lengths_t := F_lengths_t.keep K71 (ninS n_t_ln nin0)
              replace F_codes_t := F_codes_t.keep K71 (ninS n_t_ln nin0)
              replace F_width_t := F_width_t.keep K71 (ninS n_t_ln nin0)
              replace F_largest_t := F_largest_t.keep K71 (ninS n_t_ln nin0)
              replace A_o := A_o.keep K71 (ninS n_o_ln nin0)
              replace A_c := A_c.keep K71 (ninS (Ne.symm n_ln_cd) nin0)
              replace A_b1 := A_b1.keep K71 (ninS (Ne.symm ne_ln_b1) nin0)
              replace KK := KK.trans K71 (allS (Or.inl (by simp)) all0)
              show Go _ _ _ _ _ _ _ []
              have va : ((updF (updF (updF fl a (2 : Int32)) c (2 : Int32)) b (1 : Int32)) a).toInt = 2 := by rw [show (updF (updF (updF fl a (2 : Int32)) c (2 : Int32)) b (1 : Int32)) a = (2 : Int32) from by rw [updF_ne _ _ (by omega), updF_ne _ _ (by omega), updF_same]]; rfl
              have vb : ((updF (updF (updF fl a (2 : Int32)) c (2 : Int32)) b (1 : Int32)) b).toInt = 1 := by rw [show (updF (updF (updF fl a (2 : Int32)) c (2 : Int32)) b (1 : Int32)) b = (1 : Int32) from by rw [updF_same]]; rfl
              have vc : ((updF (updF (updF fl a (2 : Int32)) c (2 : Int32)) b (1 : Int32)) c).toInt = 2 := by rw [show (updF (updF (updF fl a (2 : Int32)) c (2 : Int32)) b (1 : Int32)) c = (2 : Int32) from by rw [updF_ne _ _ (by omega), updF_same]]; rfl
              exact J6 ((3 : Int32), iv, (updF (updF (updF fl a (2 : Int32)) c (2 : Int32)) b (1 : Int32))) _ _ (S71.more (by decide) (by decide)) ⟨KK, ⟨X_t, F_lengths_t, F_codes_t, F_width_t, F_largest_t⟩, A_o, A_l, A_c, Hid.mk (fun j hj h1 h2 h3 => by (try dsimp only); rw [updF_ne _ _ (by omega), updF_ne _ _ (by omega), updF_ne _ _ (by omega)]; exact hz0 j hj), by (try dsimp only); rw [va, vb, vc]; unfold LenP; omega⟩
            · show Go _ _ _ _ _ _ _ []
              refine px_aloadN S65 d3_61 rfl rfl rfl ?_
              refine px_aloadN S65 d3_62 rfl rfl rfl ?_
              refine px_iloadN S65 d3_63 rfl rfl ?_
              refine px_aloadN S65 d3_64 rfl rfl rfl ?_
              refine px_callP (Cn := "com/example/colonnade/colonnade/compress/HuffmanEncoder") (yp := ({ cls := "com/example/colonnade/colonnade/compress/HuffmanEncoder", name := "build", desc := "([I)Z" } : Jvm.MethodName)) (as' := [(.ref b1), (.int (3 : Int32)), (.ref o)]) (st := []) (W := 0) S65 (c_huff3 (cd := cd) (X := c) (Y := a) (W := b) hw S65.size X_t F_lengths_t F_codes_t A_b1 A_o A_l g_l n_t_ln (Ne.symm ne_ln_b1) n_o_ln e0 e1 e2 (by omega) (by omega) (by omega)) X_t (hw _ (List.mem_of_getElem? (i := 22) rfl)) (hw _ (List.mem_of_getElem? (i := 23) rfl)) (hw _ (List.mem_of_getElem? (i := 24) rfl)) (hw _ (List.mem_of_getElem? (i := 17) rfl)) rfl (hw _ (List.mem_of_getElem? (i := 3) rfl)) (hw _ (List.mem_of_getElem? (i := 25) rfl)) (by decide) pd_3_2 rfl rfl (by decide) rfl (by decide) (by decide) (by decide) d3_65 rfl rfl (fun T72 h72 v72 S72 q72 => ?_)
              obtain ⟨rfl, K72, A_l⟩ := q72
              replace X_t := X_t.keep K72
              replace F_lengths_t := F_lengths_t.keep K72 (ninS n_t_ln nin0)
              replace F_codes_t := F_codes_t.keep K72 (ninS n_t_ln nin0)
              replace F_width_t := F_width_t.keep K72 (ninS n_t_ln nin0)
              replace F_largest_t := F_largest_t.keep K72 (ninS n_t_ln nin0)
              replace A_o := A_o.keep K72 (ninS n_o_ln nin0)
              replace A_c := A_c.keep K72 (ninS (Ne.symm n_ln_cd) nin0)
              replace A_b1 := A_b1.keep K72 (ninS (Ne.symm ne_ln_b1) nin0)
              replace KK := KK.trans K72 (allS (Or.inl (by simp)) all0)
              show Go _ _ _ _ _ _ _ []
              refine px_aloadN S72 d3_68 rfl rfl rfl ?_
              refine px_aloadN S72 d3_69 rfl rfl rfl ?_
              refine px_iloadN S72 d3_70 rfl rfl ?_
              refine px_aloadN S72 d3_71 rfl rfl rfl ?_
              refine px_callP (Cn := "com/example/colonnade/colonnade/compress/HuffmanEncoder") (yp := ({ cls := "com/example/colonnade/colonnade/compress/HuffmanEncoder", name := "build", desc := "([I)Z" } : Jvm.MethodName)) (as' := [(.ref b1), (.int (3 : Int32)), (.ref o)]) (st := []) (W := 0) S72 (c_lim3 (cd := cd) (fl := (updF (updF (updF fl c (2 : Int32)) a (2 : Int32)) b (1 : Int32))) (X := c) (Y := a) (W := b) hw S72.size X_t F_lengths_t F_codes_t A_b1 A_l g_l n_t_ln (Ne.symm ne_ln_b1) e0 e1 e2 (by omega) (by omega) (by omega) (by rw [updF_ne _ _ (by omega), updF_ne _ _ (by omega), updF_same]) (by rw [updF_ne _ _ (by omega), updF_same]) (by rw [updF_same])) X_t (hw _ (List.mem_of_getElem? (i := 27) rfl)) (hw _ (List.mem_of_getElem? (i := 28) rfl)) (hw _ (List.mem_of_getElem? (i := 29) rfl)) (hw _ (List.mem_of_getElem? (i := 17) rfl)) rfl (hw _ (List.mem_of_getElem? (i := 3) rfl)) (hw _ (List.mem_of_getElem? (i := 30) rfl)) (by decide) pd_3_2 rfl rfl (by decide) rfl (by decide) (by decide) (by decide) d3_72 rfl rfl (fun T73 h73 v73 S73 q73 => ?_)
              obtain ⟨rfl, K73, A_l⟩ := q73
              replace X_t := X_t.keep K73
              replace F_lengths_t := F_lengths_t.keep K73 (ninS n_t_ln nin0)
              replace F_codes_t := F_codes_t.keep K73 (ninS n_t_ln nin0)
              replace F_width_t := F_width_t.keep K73 (ninS n_t_ln nin0)
              replace F_largest_t := F_largest_t.keep K73 (ninS n_t_ln nin0)
              replace A_o := A_o.keep K73 (ninS n_o_ln nin0)
              replace A_c := A_c.keep K73 (ninS (Ne.symm n_ln_cd) nin0)
              replace A_b1 := A_b1.keep K73 (ninS (Ne.symm ne_ln_b1) nin0)
              replace KK := KK.trans K73 (allS (Or.inl (by simp)) all0)
              show Go _ _ _ _ _ _ _ []
              have va : ((updF (updF (updF fl c (2 : Int32)) a (2 : Int32)) b (1 : Int32)) a).toInt = 2 := by rw [show (updF (updF (updF fl c (2 : Int32)) a (2 : Int32)) b (1 : Int32)) a = (2 : Int32) from by rw [updF_ne _ _ (by omega), updF_same]]; rfl
              have vb : ((updF (updF (updF fl c (2 : Int32)) a (2 : Int32)) b (1 : Int32)) b).toInt = 1 := by rw [show (updF (updF (updF fl c (2 : Int32)) a (2 : Int32)) b (1 : Int32)) b = (1 : Int32) from by rw [updF_same]]; rfl
              have vc : ((updF (updF (updF fl c (2 : Int32)) a (2 : Int32)) b (1 : Int32)) c).toInt = 2 := by rw [show (updF (updF (updF fl c (2 : Int32)) a (2 : Int32)) b (1 : Int32)) c = (2 : Int32) from by rw [updF_ne _ _ (by omega), updF_ne _ _ (by omega), updF_same]]; rfl
              exact J6 ((3 : Int32), iv, (updF (updF (updF fl c (2 : Int32)) a (2 : Int32)) b (1 : Int32))) _ _ (S73.more (by decide) (by decide)) ⟨KK, ⟨X_t, F_lengths_t, F_codes_t, F_width_t, F_largest_t⟩, A_o, A_l, A_c, Hid.mk (fun j hj h1 h2 h3 => by (try dsimp only); rw [updF_ne _ _ (by omega), updF_ne _ _ (by omega), updF_ne _ _ (by omega)]; exact hz0 j hj), by (try dsimp only); rw [va, vb, vc]; unfold LenP; omega⟩
            · show Go _ _ _ _ _ _ _ []
              refine px_aloadN S65 d3_61 rfl rfl rfl ?_
              refine px_aloadN S65 d3_62 rfl rfl rfl ?_
              refine px_iloadN S65 d3_63 rfl rfl ?_
              refine px_aloadN S65 d3_64 rfl rfl rfl ?_
              refine px_callP (Cn := "com/example/colonnade/colonnade/compress/HuffmanEncoder") (yp := ({ cls := "com/example/colonnade/colonnade/compress/HuffmanEncoder", name := "build", desc := "([I)Z" } : Jvm.MethodName)) (as' := [(.ref b1), (.int (3 : Int32)), (.ref o)]) (st := []) (W := 0) S65 (c_huff3 (cd := cd) (X := b) (Y := c) (W := a) hw S65.size X_t F_lengths_t F_codes_t A_b1 A_o A_l g_l n_t_ln (Ne.symm ne_ln_b1) n_o_ln e0 e1 e2 (by omega) (by omega) (by omega)) X_t (hw _ (List.mem_of_getElem? (i := 22) rfl)) (hw _ (List.mem_of_getElem? (i := 23) rfl)) (hw _ (List.mem_of_getElem? (i := 24) rfl)) (hw _ (List.mem_of_getElem? (i := 17) rfl)) rfl (hw _ (List.mem_of_getElem? (i := 3) rfl)) (hw _ (List.mem_of_getElem? (i := 25) rfl)) (by decide) pd_3_2 rfl rfl (by decide) rfl (by decide) (by decide) (by decide) d3_65 rfl rfl (fun T74 h74 v74 S74 q74 => ?_)
              obtain ⟨rfl, K74, A_l⟩ := q74
              replace X_t := X_t.keep K74
              replace F_lengths_t := F_lengths_t.keep K74 (ninS n_t_ln nin0)
              replace F_codes_t := F_codes_t.keep K74 (ninS n_t_ln nin0)
              replace F_width_t := F_width_t.keep K74 (ninS n_t_ln nin0)
              replace F_largest_t := F_largest_t.keep K74 (ninS n_t_ln nin0)
              replace A_o := A_o.keep K74 (ninS n_o_ln nin0)
              replace A_c := A_c.keep K74 (ninS (Ne.symm n_ln_cd) nin0)
              replace A_b1 := A_b1.keep K74 (ninS (Ne.symm ne_ln_b1) nin0)
              replace KK := KK.trans K74 (allS (Or.inl (by simp)) all0)
              show Go _ _ _ _ _ _ _ []
              refine px_aloadN S74 d3_68 rfl rfl rfl ?_
              refine px_aloadN S74 d3_69 rfl rfl rfl ?_
              refine px_iloadN S74 d3_70 rfl rfl ?_
              refine px_aloadN S74 d3_71 rfl rfl rfl ?_
              refine px_callP (Cn := "com/example/colonnade/colonnade/compress/HuffmanEncoder") (yp := ({ cls := "com/example/colonnade/colonnade/compress/HuffmanEncoder", name := "build", desc := "([I)Z" } : Jvm.MethodName)) (as' := [(.ref b1), (.int (3 : Int32)), (.ref o)]) (st := []) (W := 0) S74 (c_lim3 (cd := cd) (fl := (updF (updF (updF fl b (2 : Int32)) c (2 : Int32)) a (1 : Int32))) (X := b) (Y := c) (W := a) hw S74.size X_t F_lengths_t F_codes_t A_b1 A_l g_l n_t_ln (Ne.symm ne_ln_b1) e0 e1 e2 (by omega) (by omega) (by omega) (by rw [updF_ne _ _ (by omega), updF_ne _ _ (by omega), updF_same]) (by rw [updF_ne _ _ (by omega), updF_same]) (by rw [updF_same])) X_t (hw _ (List.mem_of_getElem? (i := 27) rfl)) (hw _ (List.mem_of_getElem? (i := 28) rfl)) (hw _ (List.mem_of_getElem? (i := 29) rfl)) (hw _ (List.mem_of_getElem? (i := 17) rfl)) rfl (hw _ (List.mem_of_getElem? (i := 3) rfl)) (hw _ (List.mem_of_getElem? (i := 30) rfl)) (by decide) pd_3_2 rfl rfl (by decide) rfl (by decide) (by decide) (by decide) d3_72 rfl rfl (fun T75 h75 v75 S75 q75 => ?_)
              obtain ⟨rfl, K75, A_l⟩ := q75
              replace X_t := X_t.keep K75
              replace F_lengths_t := F_lengths_t.keep K75 (ninS n_t_ln nin0)
              replace F_codes_t := F_codes_t.keep K75 (ninS n_t_ln nin0)
              replace F_width_t := F_width_t.keep K75 (ninS n_t_ln nin0)
              replace F_largest_t := F_largest_t.keep K75 (ninS n_t_ln nin0)
              replace A_o := A_o.keep K75 (ninS n_o_ln nin0)
              replace A_c := A_c.keep K75 (ninS (Ne.symm n_ln_cd) nin0)
              replace A_b1 := A_b1.keep K75 (ninS (Ne.symm ne_ln_b1) nin0)
              replace KK := KK.trans K75 (allS (Or.inl (by simp)) all0)
              show Go _ _ _ _ _ _ _ []
              have va : ((updF (updF (updF fl b (2 : Int32)) c (2 : Int32)) a (1 : Int32)) a).toInt = 1 := by rw [show (updF (updF (updF fl b (2 : Int32)) c (2 : Int32)) a (1 : Int32)) a = (1 : Int32) from by rw [updF_same]]; rfl
              have vb : ((updF (updF (updF fl b (2 : Int32)) c (2 : Int32)) a (1 : Int32)) b).toInt = 2 := by rw [show (updF (updF (updF fl b (2 : Int32)) c (2 : Int32)) a (1 : Int32)) b = (2 : Int32) from by rw [updF_ne _ _ (by omega), updF_ne _ _ (by omega), updF_same]]; rfl
              have vc : ((updF (updF (updF fl b (2 : Int32)) c (2 : Int32)) a (1 : Int32)) c).toInt = 2 := by rw [show (updF (updF (updF fl b (2 : Int32)) c (2 : Int32)) a (1 : Int32)) c = (2 : Int32) from by rw [updF_ne _ _ (by omega), updF_same]]; rfl
              exact J6 ((3 : Int32), iv, (updF (updF (updF fl b (2 : Int32)) c (2 : Int32)) a (1 : Int32))) _ _ (S75.more (by decide) (by decide)) ⟨KK, ⟨X_t, F_lengths_t, F_codes_t, F_width_t, F_largest_t⟩, A_o, A_l, A_c, Hid.mk (fun j hj h1 h2 h3 => by (try dsimp only); rw [updF_ne _ _ (by omega), updF_ne _ _ (by omega), updF_ne _ _ (by omega)]; exact hz0 j hj), by (try dsimp only); rw [va, vb, vc]; unfold LenP; omega⟩
            · show Go _ _ _ _ _ _ _ []
              refine px_aloadN S65 d3_61 rfl rfl rfl ?_
              refine px_aloadN S65 d3_62 rfl rfl rfl ?_
              refine px_iloadN S65 d3_63 rfl rfl ?_
              refine px_aloadN S65 d3_64 rfl rfl rfl ?_
              refine px_callP (Cn := "com/example/colonnade/colonnade/compress/HuffmanEncoder") (yp := ({ cls := "com/example/colonnade/colonnade/compress/HuffmanEncoder", name := "build", desc := "([I)Z" } : Jvm.MethodName)) (as' := [(.ref b1), (.int (3 : Int32)), (.ref o)]) (st := []) (W := 0) S65 (c_huff3 (cd := cd) (X := c) (Y := b) (W := a) hw S65.size X_t F_lengths_t F_codes_t A_b1 A_o A_l g_l n_t_ln (Ne.symm ne_ln_b1) n_o_ln e0 e1 e2 (by omega) (by omega) (by omega)) X_t (hw _ (List.mem_of_getElem? (i := 22) rfl)) (hw _ (List.mem_of_getElem? (i := 23) rfl)) (hw _ (List.mem_of_getElem? (i := 24) rfl)) (hw _ (List.mem_of_getElem? (i := 17) rfl)) rfl (hw _ (List.mem_of_getElem? (i := 3) rfl)) (hw _ (List.mem_of_getElem? (i := 25) rfl)) (by decide) pd_3_2 rfl rfl (by decide) rfl (by decide) (by decide) (by decide) d3_65 rfl rfl (fun T76 h76 v76 S76 q76 => ?_)
              obtain ⟨rfl, K76, A_l⟩ := q76
              replace X_t := X_t.keep K76
              replace F_lengths_t := F_lengths_t.keep K76 (ninS n_t_ln nin0)
              replace F_codes_t := F_codes_t.keep K76 (ninS n_t_ln nin0)
              replace F_width_t := F_width_t.keep K76 (ninS n_t_ln nin0)
              replace F_largest_t := F_largest_t.keep K76 (ninS n_t_ln nin0)
              replace A_o := A_o.keep K76 (ninS n_o_ln nin0)
              replace A_c := A_c.keep K76 (ninS (Ne.symm n_ln_cd) nin0)
              replace A_b1 := A_b1.keep K76 (ninS (Ne.symm ne_ln_b1) nin0)
              replace KK := KK.trans K76 (allS (Or.inl (by simp)) all0)
              show Go _ _ _ _ _ _ _ []
              refine px_aloadN S76 d3_68 rfl rfl rfl ?_
              refine px_aloadN S76 d3_69 rfl rfl rfl ?_
              refine px_iloadN S76 d3_70 rfl rfl ?_
              refine px_aloadN S76 d3_71 rfl rfl rfl ?_
              refine px_callP (Cn := "com/example/colonnade/colonnade/compress/HuffmanEncoder") (yp := ({ cls := "com/example/colonnade/colonnade/compress/HuffmanEncoder", name := "build", desc := "([I)Z" } : Jvm.MethodName)) (as' := [(.ref b1), (.int (3 : Int32)), (.ref o)]) (st := []) (W := 0) S76 (c_lim3 (cd := cd) (fl := (updF (updF (updF fl c (2 : Int32)) b (2 : Int32)) a (1 : Int32))) (X := c) (Y := b) (W := a) hw S76.size X_t F_lengths_t F_codes_t A_b1 A_l g_l n_t_ln (Ne.symm ne_ln_b1) e0 e1 e2 (by omega) (by omega) (by omega) (by rw [updF_ne _ _ (by omega), updF_ne _ _ (by omega), updF_same]) (by rw [updF_ne _ _ (by omega), updF_same]) (by rw [updF_same])) X_t (hw _ (List.mem_of_getElem? (i := 27) rfl)) (hw _ (List.mem_of_getElem? (i := 28) rfl)) (hw _ (List.mem_of_getElem? (i := 29) rfl)) (hw _ (List.mem_of_getElem? (i := 17) rfl)) rfl (hw _ (List.mem_of_getElem? (i := 3) rfl)) (hw _ (List.mem_of_getElem? (i := 30) rfl)) (by decide) pd_3_2 rfl rfl (by decide) rfl (by decide) (by decide) (by decide) d3_72 rfl rfl (fun T77 h77 v77 S77 q77 => ?_)
              obtain ⟨rfl, K77, A_l⟩ := q77
              replace X_t := X_t.keep K77
              replace F_lengths_t := F_lengths_t.keep K77 (ninS n_t_ln nin0)
              replace F_codes_t := F_codes_t.keep K77 (ninS n_t_ln nin0)
              replace F_width_t := F_width_t.keep K77 (ninS n_t_ln nin0)
              replace F_largest_t := F_largest_t.keep K77 (ninS n_t_ln nin0)
              replace A_o := A_o.keep K77 (ninS n_o_ln nin0)
              replace A_c := A_c.keep K77 (ninS (Ne.symm n_ln_cd) nin0)
              replace A_b1 := A_b1.keep K77 (ninS (Ne.symm ne_ln_b1) nin0)
              replace KK := KK.trans K77 (allS (Or.inl (by simp)) all0)
              show Go _ _ _ _ _ _ _ []
              have va : ((updF (updF (updF fl c (2 : Int32)) b (2 : Int32)) a (1 : Int32)) a).toInt = 1 := by rw [show (updF (updF (updF fl c (2 : Int32)) b (2 : Int32)) a (1 : Int32)) a = (1 : Int32) from by rw [updF_same]]; rfl
              have vb : ((updF (updF (updF fl c (2 : Int32)) b (2 : Int32)) a (1 : Int32)) b).toInt = 2 := by rw [show (updF (updF (updF fl c (2 : Int32)) b (2 : Int32)) a (1 : Int32)) b = (2 : Int32) from by rw [updF_ne _ _ (by omega), updF_same]]; rfl
              have vc : ((updF (updF (updF fl c (2 : Int32)) b (2 : Int32)) a (1 : Int32)) c).toInt = 2 := by rw [show (updF (updF (updF fl c (2 : Int32)) b (2 : Int32)) a (1 : Int32)) c = (2 : Int32) from by rw [updF_ne _ _ (by omega), updF_ne _ _ (by omega), updF_same]]; rfl
              exact J6 ((3 : Int32), iv, (updF (updF (updF fl c (2 : Int32)) b (2 : Int32)) a (1 : Int32))) _ _ (S77.more (by decide) (by decide)) ⟨KK, ⟨X_t, F_lengths_t, F_codes_t, F_width_t, F_largest_t⟩, A_o, A_l, A_c, Hid.mk (fun j hj h1 h2 h3 => by (try dsimp only); rw [updF_ne _ _ (by omega), updF_ne _ _ (by omega), updF_ne _ _ (by omega)]; exact hz0 j hj), by (try dsimp only); rw [va, vb, vc]; unfold LenP; omega⟩
      · refine px_iconst (v := (0 : Int32)) S3 d3_53 rfl rfl ?_
        exact px_retN (t := .boolean) (z' := (0 : Int32)) S3 d3_54 rfl (by simp) rfl (by decide) (by decide) (⟨fl, A_l, KK, ⟨X_t, F_lengths_t⟩, Hid.mk (fun j hj _ _ _ => hz0 j hj), Or.inl ⟨by have q : (2 : Int32).toInt = 2 := rfl; omega, rfl, by rw [hz0 a (by omega)]; rfl, by rw [hz0 b (by omega)]; rfl, by rw [hz0 c (by omega)]; rfl⟩⟩)
    · refine px_aloadN S3 d3_19 rfl rfl rfl ?_
      refine px_getfield S3 (hw _ (List.mem_of_getElem? (i := 10) rfl)) F_lengths_t d3_20 rfl (fun T78 S78 => ?_)
      refine px_iload S78 d3_23 rfl rfl ?_
      refine px_iconst (v := (0 : Int32)) S78 d3_25 rfl rfl ?_
      refine px_iastore (v := (0 : Int32)) S78 A_l g_l (i := i) hi (by omega) rfl d3_26 rfl (fun T79 h79 S79 W79 A_l => ?_)
      replace X_t := X_t.wr W79
      replace F_lengths_t := F_lengths_t.other W79 (Or.inl n_t_ln)
      replace F_codes_t := F_codes_t.other W79 (Or.inl n_t_ln)
      replace F_width_t := F_width_t.other W79 (Or.inl n_t_ln)
      replace F_largest_t := F_largest_t.other W79 (Or.inl n_t_ln)
      replace A_o := A_o.other W79 n_o_ln
      replace A_c := A_c.other W79 (Ne.symm n_ln_cd)
      replace A_b1 := A_b1.other W79 (Ne.symm ne_ln_b1)
      replace A_l := A_l.congr (upd_id (hz0 i (by omega)))
      replace KK := KK.wr W79 (Or.inl (by simp))
      rcases (show i = a ∨ i = b ∨ i = c ∨ (¬ i = a ∧ ¬ i = b ∧ ¬ i = c) from by omega) with ca | ca | ca | ca
      · have fx : (fo i).toInt = (fo a).toInt := by rw [ca]
        refine px_aloadN S79 d3_27 rfl rfl rfl ?_
        refine px_iload S79 d3_28 rfl rfl ?_
        refine px_iaload (v := (fo i)) S79 A_o (i := i) hi (by omega) rfl d3_30 rfl ?_
        refine px_if0 S79 d3_31 (by decide) (pc' := 42) rfl rfl (fun (hc80 : (fo i).toInt ≤ 0) => ?_) (fun (hc80 : (fo i).toInt > 0) => ?_)
        · refine px_iinc (v := (1 : Int32)) (r := (iv + (1 : Int32))) S79 d3_42 rfl rfl rfl rfl (L' := #[.val (.ref t), .val (.ref o), .val (.ref b1), .val (.int pv), .val (.int (iv + (1 : Int32))), .unset, .unset, .unset]) rfl ?_
          generalize h_v81 : (iv + (1 : Int32)) = v81
          refine px_goto S79 d3_45 (by decide) (pc' := 11) rfl ?_
          obtain ⟨cn2, cpr⟩ := cnt_a (d := 0) hcn hab hbc ca (by have q := hna.out; have q1 := hna1; omega)
          exact IHJ2 (k - 1) (by omega) (i + 1, pr + 0, v81, pv, g) _ _ S79 ⟨KK, ⟨X_t, F_lengths_t, F_codes_t, F_width_t, F_largest_t⟩, A_o, A_l, A_c, A_b1, by (try dsimp only); omega, inc1 h_v81 hi (by omega), hpv, cn2, fun h1 h2 => by (try dsimp only at h1 ⊢); first | (exfalso; (have q := hna.out); omega) | exact sA (by omega) h2, fun h1 h2 => by (try dsimp only at h1 ⊢); first | (exfalso; (have q := hna.out); omega) | exact sB (by omega) h2, fun h1 h2 => by (try dsimp only at h1 ⊢); first | (exfalso; (have q := hna.out); omega) | exact sC (by omega) h2⟩
        · refine px_aloadN S79 d3_34 rfl rfl rfl ?_
          refine px_iloadN S79 d3_35 rfl rfl ?_
          refine px_iinc (v := (1 : Int32)) (r := (pv + (1 : Int32))) S79 d3_36 rfl rfl rfl rfl (L' := #[.val (.ref t), .val (.ref o), .val (.ref b1), .val (.int (pv + (1 : Int32))), .val (.int iv), .unset, .unset, .unset]) rfl ?_
          generalize h_v82 : (pv + (1 : Int32)) = v82
          refine px_iload S79 d3_39 rfl rfl ?_
          refine px_iastore (v := iv) S79 A_b1 g_b1 (i := pr) hpv (by have q := cnt_le hcn hna1 hnb1 hnc1; omega) rfl d3_41 rfl (fun T83 h83 S83 W83 A_b1 => ?_)
          replace X_t := X_t.wr W83
          replace F_lengths_t := F_lengths_t.other W83 (Or.inl ne_t_b1)
          replace F_codes_t := F_codes_t.other W83 (Or.inl ne_t_b1)
          replace F_width_t := F_width_t.other W83 (Or.inl ne_t_b1)
          replace F_largest_t := F_largest_t.other W83 (Or.inl ne_t_b1)
          replace A_o := A_o.other W83 ne_o_b1
          replace A_l := A_l.other W83 ne_ln_b1
          replace A_c := A_c.other W83 ne_cd_b1
          replace KK := KK.wr W83 (Or.inr sz_b1)
          refine px_iinc (v := (1 : Int32)) (r := (iv + (1 : Int32))) S83 d3_42 rfl rfl rfl rfl (L' := #[.val (.ref t), .val (.ref o), .val (.ref b1), .val (.int v82), .val (.int (iv + (1 : Int32))), .unset, .unset, .unset]) rfl ?_
          generalize h_v84 : (iv + (1 : Int32)) = v84
          refine px_goto S83 d3_45 (by decide) (pc' := 11) rfl ?_
          obtain ⟨cn2, cpr⟩ := cnt_a (d := 1) hcn hab hbc ca (by have q := hna.out; have q1 := hna1; omega)
          exact IHJ2 (k - 1) (by omega) (i + 1, pr + 1, v84, v82, (updF g pr iv)) _ _ S83 ⟨KK, ⟨X_t, F_lengths_t, F_codes_t, F_width_t, F_largest_t⟩, A_o, A_l, A_c, A_b1, by (try dsimp only); omega, inc1 h_v84 hi (by omega), inc1 h_v82 hpv (by omega), cn2, fun _ _ => by (try dsimp only); rw [updF_at (show 0 = pr from by omega), hi, ca], fun h1 h2 => by (try dsimp only at h1 ⊢); first | (exfalso; omega) | (rw [updF_ne _ _ (by omega)]; exact sB (by omega) h2), fun h1 h2 => by (try dsimp only at h1 ⊢); first | (exfalso; omega) | (rw [updF_ne _ _ (by omega)]; exact sC (by omega) h2)⟩
      · have fx : (fo i).toInt = (fo b).toInt := by rw [ca]
        refine px_aloadN S79 d3_27 rfl rfl rfl ?_
        refine px_iload S79 d3_28 rfl rfl ?_
        refine px_iaload (v := (fo i)) S79 A_o (i := i) hi (by omega) rfl d3_30 rfl ?_
        refine px_if0 S79 d3_31 (by decide) (pc' := 42) rfl rfl (fun (hc85 : (fo i).toInt ≤ 0) => ?_) (fun (hc85 : (fo i).toInt > 0) => ?_)
        · refine px_iinc (v := (1 : Int32)) (r := (iv + (1 : Int32))) S79 d3_42 rfl rfl rfl rfl (L' := #[.val (.ref t), .val (.ref o), .val (.ref b1), .val (.int pv), .val (.int (iv + (1 : Int32))), .unset, .unset, .unset]) rfl ?_
          generalize h_v86 : (iv + (1 : Int32)) = v86
          refine px_goto S79 d3_45 (by decide) (pc' := 11) rfl ?_
          obtain ⟨cn2, cpr⟩ := cnt_b (d := 0) hcn hab hbc ca (by have q := hnb.out; have q1 := hnb1; omega)
          exact IHJ2 (k - 1) (by omega) (i + 1, pr + 0, v86, pv, g) _ _ S79 ⟨KK, ⟨X_t, F_lengths_t, F_codes_t, F_width_t, F_largest_t⟩, A_o, A_l, A_c, A_b1, by (try dsimp only); omega, inc1 h_v86 hi (by omega), hpv, cn2, fun h1 h2 => by (try dsimp only at h1 ⊢); first | (exfalso; (have q := hnb.out); omega) | exact sA (by omega) h2, fun h1 h2 => by (try dsimp only at h1 ⊢); first | (exfalso; (have q := hnb.out); omega) | exact sB (by omega) h2, fun h1 h2 => by (try dsimp only at h1 ⊢); first | (exfalso; (have q := hnb.out); omega) | exact sC (by omega) h2⟩
        · refine px_aloadN S79 d3_34 rfl rfl rfl ?_
          refine px_iloadN S79 d3_35 rfl rfl ?_
          refine px_iinc (v := (1 : Int32)) (r := (pv + (1 : Int32))) S79 d3_36 rfl rfl rfl rfl (L' := #[.val (.ref t), .val (.ref o), .val (.ref b1), .val (.int (pv + (1 : Int32))), .val (.int iv), .unset, .unset, .unset]) rfl ?_
          generalize h_v87 : (pv + (1 : Int32)) = v87
          refine px_iload S79 d3_39 rfl rfl ?_
          refine px_iastore (v := iv) S79 A_b1 g_b1 (i := pr) hpv (by have q := cnt_le hcn hna1 hnb1 hnc1; omega) rfl d3_41 rfl (fun T88 h88 S88 W88 A_b1 => ?_)
          replace X_t := X_t.wr W88
          replace F_lengths_t := F_lengths_t.other W88 (Or.inl ne_t_b1)
          replace F_codes_t := F_codes_t.other W88 (Or.inl ne_t_b1)
          replace F_width_t := F_width_t.other W88 (Or.inl ne_t_b1)
          replace F_largest_t := F_largest_t.other W88 (Or.inl ne_t_b1)
          replace A_o := A_o.other W88 ne_o_b1
          replace A_l := A_l.other W88 ne_ln_b1
          replace A_c := A_c.other W88 ne_cd_b1
          replace KK := KK.wr W88 (Or.inr sz_b1)
          refine px_iinc (v := (1 : Int32)) (r := (iv + (1 : Int32))) S88 d3_42 rfl rfl rfl rfl (L' := #[.val (.ref t), .val (.ref o), .val (.ref b1), .val (.int v87), .val (.int (iv + (1 : Int32))), .unset, .unset, .unset]) rfl ?_
          generalize h_v89 : (iv + (1 : Int32)) = v89
          refine px_goto S88 d3_45 (by decide) (pc' := 11) rfl ?_
          obtain ⟨cn2, cpr⟩ := cnt_b (d := 1) hcn hab hbc ca (by have q := hnb.out; have q1 := hnb1; omega)
          exact IHJ2 (k - 1) (by omega) (i + 1, pr + 1, v89, v87, (updF g pr iv)) _ _ S88 ⟨KK, ⟨X_t, F_lengths_t, F_codes_t, F_width_t, F_largest_t⟩, A_o, A_l, A_c, A_b1, by (try dsimp only); omega, inc1 h_v89 hi (by omega), inc1 h_v87 hpv (by omega), cn2, fun h1 h2 => by (try dsimp only at h1 ⊢); first | (exfalso; omega) | (rw [updF_ne _ _ (by omega)]; exact sA (by omega) h2), fun _ _ => by (try dsimp only); rw [updF_at (show na = pr from by omega), hi, ca], fun h1 h2 => by (try dsimp only at h1 ⊢); first | (exfalso; omega) | (rw [updF_ne _ _ (by omega)]; exact sC (by omega) h2)⟩
      · have fx : (fo i).toInt = (fo c).toInt := by rw [ca]
        refine px_aloadN S79 d3_27 rfl rfl rfl ?_
        refine px_iload S79 d3_28 rfl rfl ?_
        refine px_iaload (v := (fo i)) S79 A_o (i := i) hi (by omega) rfl d3_30 rfl ?_
        refine px_if0 S79 d3_31 (by decide) (pc' := 42) rfl rfl (fun (hc90 : (fo i).toInt ≤ 0) => ?_) (fun (hc90 : (fo i).toInt > 0) => ?_)
        · refine px_iinc (v := (1 : Int32)) (r := (iv + (1 : Int32))) S79 d3_42 rfl rfl rfl rfl (L' := #[.val (.ref t), .val (.ref o), .val (.ref b1), .val (.int pv), .val (.int (iv + (1 : Int32))), .unset, .unset, .unset]) rfl ?_
          generalize h_v91 : (iv + (1 : Int32)) = v91
          refine px_goto S79 d3_45 (by decide) (pc' := 11) rfl ?_
          obtain ⟨cn2, cpr⟩ := cnt_c (d := 0) hcn hab hbc ca (by have q := hnc.out; have q1 := hnc1; omega)
          exact IHJ2 (k - 1) (by omega) (i + 1, pr + 0, v91, pv, g) _ _ S79 ⟨KK, ⟨X_t, F_lengths_t, F_codes_t, F_width_t, F_largest_t⟩, A_o, A_l, A_c, A_b1, by (try dsimp only); omega, inc1 h_v91 hi (by omega), hpv, cn2, fun h1 h2 => by (try dsimp only at h1 ⊢); first | (exfalso; (have q := hnc.out); omega) | exact sA (by omega) h2, fun h1 h2 => by (try dsimp only at h1 ⊢); first | (exfalso; (have q := hnc.out); omega) | exact sB (by omega) h2, fun h1 h2 => by (try dsimp only at h1 ⊢); first | (exfalso; (have q := hnc.out); omega) | exact sC (by omega) h2⟩
        · refine px_aloadN S79 d3_34 rfl rfl rfl ?_
          refine px_iloadN S79 d3_35 rfl rfl ?_
          refine px_iinc (v := (1 : Int32)) (r := (pv + (1 : Int32))) S79 d3_36 rfl rfl rfl rfl (L' := #[.val (.ref t), .val (.ref o), .val (.ref b1), .val (.int (pv + (1 : Int32))), .val (.int iv), .unset, .unset, .unset]) rfl ?_
          generalize h_v92 : (pv + (1 : Int32)) = v92
          refine px_iload S79 d3_39 rfl rfl ?_
          refine px_iastore (v := iv) S79 A_b1 g_b1 (i := pr) hpv (by have q := cnt_le hcn hna1 hnb1 hnc1; omega) rfl d3_41 rfl (fun T93 h93 S93 W93 A_b1 => ?_)
          replace X_t := X_t.wr W93
          replace F_lengths_t := F_lengths_t.other W93 (Or.inl ne_t_b1)
          replace F_codes_t := F_codes_t.other W93 (Or.inl ne_t_b1)
          replace F_width_t := F_width_t.other W93 (Or.inl ne_t_b1)
          replace F_largest_t := F_largest_t.other W93 (Or.inl ne_t_b1)
          replace A_o := A_o.other W93 ne_o_b1
          replace A_l := A_l.other W93 ne_ln_b1
          replace A_c := A_c.other W93 ne_cd_b1
          replace KK := KK.wr W93 (Or.inr sz_b1)
          refine px_iinc (v := (1 : Int32)) (r := (iv + (1 : Int32))) S93 d3_42 rfl rfl rfl rfl (L' := #[.val (.ref t), .val (.ref o), .val (.ref b1), .val (.int v92), .val (.int (iv + (1 : Int32))), .unset, .unset, .unset]) rfl ?_
          generalize h_v94 : (iv + (1 : Int32)) = v94
          refine px_goto S93 d3_45 (by decide) (pc' := 11) rfl ?_
          obtain ⟨cn2, cpr⟩ := cnt_c (d := 1) hcn hab hbc ca (by have q := hnc.out; have q1 := hnc1; omega)
          exact IHJ2 (k - 1) (by omega) (i + 1, pr + 1, v94, v92, (updF g pr iv)) _ _ S93 ⟨KK, ⟨X_t, F_lengths_t, F_codes_t, F_width_t, F_largest_t⟩, A_o, A_l, A_c, A_b1, by (try dsimp only); omega, inc1 h_v94 hi (by omega), inc1 h_v92 hpv (by omega), cn2, fun h1 h2 => by (try dsimp only at h1 ⊢); first | (exfalso; omega) | (rw [updF_ne _ _ (by omega)]; exact sA (by omega) h2), fun h1 h2 => by (try dsimp only at h1 ⊢); first | (exfalso; omega) | (rw [updF_ne _ _ (by omega)]; exact sB (by omega) h2), fun _ _ => by (try dsimp only); rw [updF_at (show (na + nb) = pr from by omega), hi, ca]⟩
      · have fx : (fo i).toInt = 0 := by rw [hfo i (by omega) ca.1 ca.2.1 ca.2.2]; rfl
        refine px_aloadN S79 d3_27 rfl rfl rfl ?_
        refine px_iload S79 d3_28 rfl rfl ?_
        refine px_iaload (v := (fo i)) S79 A_o (i := i) hi (by omega) rfl d3_30 rfl ?_
        refine px_if0 S79 d3_31 (by decide) (pc' := 42) rfl rfl (fun (hc95 : (fo i).toInt ≤ 0) => ?_) (fun (hc95 : (fo i).toInt > 0) => by exfalso; have q0 := rng32 (fo i); have q1 := rng32 iv; have q2 := (show (256 : Int32).toInt = 256 from rfl); omega)
        refine px_iinc (v := (1 : Int32)) (r := (iv + (1 : Int32))) S79 d3_42 rfl rfl rfl rfl (L' := #[.val (.ref t), .val (.ref o), .val (.ref b1), .val (.int pv), .val (.int (iv + (1 : Int32))), .unset, .unset, .unset]) rfl ?_
        generalize h_v96 : (iv + (1 : Int32)) = v96
        refine px_goto S79 d3_45 (by decide) (pc' := 11) rfl ?_
        exact IHJ2 (k - 1) (by omega) (i + 1, pr, v96, pv, g) _ _ S79 ⟨KK, ⟨X_t, F_lengths_t, F_codes_t, F_width_t, F_largest_t⟩, A_o, A_l, A_c, A_b1, by (try dsimp only); omega, inc1 h_v96 hi (by omega), hpv, cnt_o hcn hab hbc ca.1 ca.2.1 ca.2.2, fun h1 => sA (by (try dsimp only at h1); omega), fun h1 => sB (by (try dsimp only at h1); omega), fun h1 => sC (by (try dsimp only at h1); omega)⟩
  · exact J2 256 (0, 0, (0 : Int32), (0 : Int32), _) _ _ S1 ⟨KK, ⟨X_t, F_lengths_t, F_codes_t, F_width_t, F_largest_t⟩, A_o, A_l, A_c, A_b1, rfl, rfl, rfl, Or.inl ⟨Nat.zero_le _, rfl⟩, fun h1 => absurd h1 (Nat.not_lt_zero _), fun h1 => absurd h1 (Nat.not_lt_zero _), fun h1 => absurd h1 (Nat.not_lt_zero _)⟩
theorem pd_0_0 : parseMethodDescriptor "()V" = some ⟨[], none⟩ := by decide +kernel
theorem pd_0_1 : parseMethodDescriptor "([I)Z" = some ⟨[(.array .int)], some .boolean⟩ := by decide +kernel
theorem pd_0_2 : parseMethodDescriptor "([I)J" = some ⟨[(.array .int)], some .long⟩ := by decide +kernel
theorem pn_0 : plainFor x = true := plainFor_of_name (by first | (simp [plainName, overriddenIn]; done) | decide +kernel)
set_option maxRecDepth 65536 in
set_option maxHeartbeats 40000000 in
theorem law_ctr {Z : State} {a0 : Array Value} (hw : ∀ d ∈ tables_1, d.before a0 Z = true) (i0 : Int32) (i1 : Int64) (i2 : Int32) (i3 : Int64) (i4 i5 : Int32) {h0 : Heap} {n0 : Nat} (Z0 : n0 ≤ h0.size) :
    Ctr Z n0 x code maxLocals ret room_1 [(.int i0), (.long i1), (.int i2), (.long i3), (.int i4), (.int i5)] h0 (fun v h => v = some (.int 1)) := by
  refine Ctr.of (L := #[.val (.int i0), .val (.long i1), .second, .val (.int i2), .val (.long i3), .second, .val (.int i4), .val (.int i5), .unset, .unset, .unset, .unset, .unset, .unset, .unset, .unset, .unset, .unset, .unset, .unset, .unset, .unset, .unset, .unset, .unset, .unset, .unset, .unset, .unset, .unset, .unset]) pn_0 Z0 (fun m => by first | (simp [entryFrame, mkF, argsToLocals, Value.category, maxLocals]; done) | rfl) ?_
  intro K T S0
  refine px_iloadN S0 at_0 rfl rfl ?_
  refine px_bipush (v := (63 : Int32)) S0 at_1 rfl rfl ?_
  refine px_iand S0 at_3 rfl ?_
  generalize h_v1 : (i0 &&& (63 : Int32)) = v1
  refine px_istore S0 at_4 rfl (L' := #[.val (.int i0), .val (.long i1), .second, .val (.int i2), .val (.long i3), .second, .val (.int i4), .val (.int i5), .val (.int v1), .unset, .unset, .unset, .unset, .unset, .unset, .unset, .unset, .unset, .unset, .unset, .unset, .unset, .unset, .unset, .unset, .unset, .unset, .unset, .unset, .unset, .unset]) rfl ?_
  obtain ⟨a, h_a, ea⟩ : ∃ n : Nat, (n ≤ 63) ∧ v1.toInt = (n : Int) := ⟨v1.toInt.toNat, by have q0 := rng32 v1; have q1 := congrArg Int32.toInt h_v1; have q2 := f_imask i0 (63 : Int32) 6 64 (by decide) (by decide) (by decide); have q3 := rng32 i0; have q4 := (show (63 : Int32).toInt = 63 from rfl); omega, by have q0 := rng32 v1; have q1 := congrArg Int32.toInt h_v1; have q2 := f_imask i0 (63 : Int32) 6 64 (by decide) (by decide) (by decide); have q3 := rng32 i0; have q4 := (show (63 : Int32).toInt = 63 from rfl); omega⟩
  clear h_v1
  refine px_iload S0 at_6 rfl rfl ?_
  refine px_iconst (v := (1 : Int32)) S0 at_8 rfl rfl ?_
  refine px_iadd S0 at_9 rfl ?_
  refine px_iloadN S0 at_10 rfl rfl ?_
  refine px_bipush (v := (6 : Int32)) S0 at_11 rfl rfl ?_
  refine px_iushr S0 at_13 rfl ?_
  refine px_bipush (v := (63 : Int32)) S0 at_14 rfl rfl ?_
  refine px_iand S0 at_16 rfl ?_
  refine px_iadd S0 at_17 rfl ?_
  generalize h_v2 : ((v1 + (1 : Int32)) + ((ushr i0 (6 : Int32)) &&& (63 : Int32))) = v2
  refine px_istore S0 at_18 rfl (L' := #[.val (.int i0), .val (.long i1), .second, .val (.int i2), .val (.long i3), .second, .val (.int i4), .val (.int i5), .val (.int v1), .val (.int v2), .unset, .unset, .unset, .unset, .unset, .unset, .unset, .unset, .unset, .unset, .unset, .unset, .unset, .unset, .unset, .unset, .unset, .unset, .unset, .unset, .unset]) rfl ?_
  obtain ⟨b, h_b, eb⟩ : ∃ n : Nat, (a < n ∧ n ≤ 127) ∧ v2.toInt = (n : Int) := ⟨v2.toInt.toNat, by have q0 := rng32 v2; have q1 := congrArg Int32.toInt h_v2; have q2 := c_iadd (v1 + (1 : Int32)) ((ushr i0 (6 : Int32)) &&& (63 : Int32)); have q3 := rng32 ((v1 + (1 : Int32)) + ((ushr i0 (6 : Int32)) &&& (63 : Int32))); have q4 := c_iadd v1 (1 : Int32); have q5 := rng32 (v1 + (1 : Int32)); have q6 := rng32 v1; have q7 := (show (1 : Int32).toInt = 1 from rfl); have q8 := f_imask (ushr i0 (6 : Int32)) (63 : Int32) 6 64 (by decide) (by decide) (by decide); have q9 := f_iushr i0 (6 : Int32) 6 64 (by decide) (by decide) (by decide); have q10 := rng32 (ushr i0 (6 : Int32)); have q11 := rng32 i0; have q12 := (show (6 : Int32).toInt = 6 from rfl); have q13 := (show (63 : Int32).toInt = 63 from rfl); omega, by have q0 := rng32 v2; have q1 := congrArg Int32.toInt h_v2; have q2 := c_iadd (v1 + (1 : Int32)) ((ushr i0 (6 : Int32)) &&& (63 : Int32)); have q3 := rng32 ((v1 + (1 : Int32)) + ((ushr i0 (6 : Int32)) &&& (63 : Int32))); have q4 := c_iadd v1 (1 : Int32); have q5 := rng32 (v1 + (1 : Int32)); have q6 := rng32 v1; have q7 := (show (1 : Int32).toInt = 1 from rfl); have q8 := f_imask (ushr i0 (6 : Int32)) (63 : Int32) 6 64 (by decide) (by decide) (by decide); have q9 := f_iushr i0 (6 : Int32) 6 64 (by decide) (by decide) (by decide); have q10 := rng32 (ushr i0 (6 : Int32)); have q11 := rng32 i0; have q12 := (show (6 : Int32).toInt = 6 from rfl); have q13 := (show (63 : Int32).toInt = 63 from rfl); omega⟩
  clear h_v2
  refine px_iload S0 at_20 rfl rfl ?_
  refine px_iconst (v := (1 : Int32)) S0 at_22 rfl rfl ?_
  refine px_iadd S0 at_23 rfl ?_
  refine px_iloadN S0 at_24 rfl rfl ?_
  refine px_bipush (v := (12 : Int32)) S0 at_25 rfl rfl ?_
  refine px_iushr S0 at_27 rfl ?_
  refine px_bipush (v := (127 : Int32)) S0 at_28 rfl rfl ?_
  refine px_iand S0 at_30 rfl ?_
  refine px_iadd S0 at_31 rfl ?_
  generalize h_v3 : ((v2 + (1 : Int32)) + ((ushr i0 (12 : Int32)) &&& (127 : Int32))) = v3
  refine px_istore S0 at_32 rfl (L' := #[.val (.int i0), .val (.long i1), .second, .val (.int i2), .val (.long i3), .second, .val (.int i4), .val (.int i5), .val (.int v1), .val (.int v2), .val (.int v3), .unset, .unset, .unset, .unset, .unset, .unset, .unset, .unset, .unset, .unset, .unset, .unset, .unset, .unset, .unset, .unset, .unset, .unset, .unset, .unset]) rfl ?_
  obtain ⟨c, h_c, ec⟩ : ∃ n : Nat, (b < n ∧ n ≤ 255) ∧ v3.toInt = (n : Int) := ⟨v3.toInt.toNat, by have q0 := rng32 v3; have q1 := congrArg Int32.toInt h_v3; have q2 := c_iadd (v2 + (1 : Int32)) ((ushr i0 (12 : Int32)) &&& (127 : Int32)); have q3 := rng32 ((v2 + (1 : Int32)) + ((ushr i0 (12 : Int32)) &&& (127 : Int32))); have q4 := c_iadd v2 (1 : Int32); have q5 := rng32 (v2 + (1 : Int32)); have q6 := rng32 v2; have q7 := (show (1 : Int32).toInt = 1 from rfl); have q8 := f_imask (ushr i0 (12 : Int32)) (127 : Int32) 7 128 (by decide) (by decide) (by decide); have q9 := f_iushr i0 (12 : Int32) 12 4096 (by decide) (by decide) (by decide); have q10 := rng32 (ushr i0 (12 : Int32)); have q11 := rng32 i0; have q12 := (show (12 : Int32).toInt = 12 from rfl); have q13 := (show (127 : Int32).toInt = 127 from rfl); omega, by have q0 := rng32 v3; have q1 := congrArg Int32.toInt h_v3; have q2 := c_iadd (v2 + (1 : Int32)) ((ushr i0 (12 : Int32)) &&& (127 : Int32)); have q3 := rng32 ((v2 + (1 : Int32)) + ((ushr i0 (12 : Int32)) &&& (127 : Int32))); have q4 := c_iadd v2 (1 : Int32); have q5 := rng32 (v2 + (1 : Int32)); have q6 := rng32 v2; have q7 := (show (1 : Int32).toInt = 1 from rfl); have q8 := f_imask (ushr i0 (12 : Int32)) (127 : Int32) 7 128 (by decide) (by decide) (by decide); have q9 := f_iushr i0 (12 : Int32) 12 4096 (by decide) (by decide) (by decide); have q10 := rng32 (ushr i0 (12 : Int32)); have q11 := rng32 i0; have q12 := (show (12 : Int32).toInt = 12 from rfl); have q13 := (show (127 : Int32).toInt = 127 from rfl); omega⟩
  clear h_v3
  refine px_iloadN S0 at_34 rfl rfl ?_
  refine px_bipush (v := (20 : Int32)) S0 at_35 rfl rfl ?_
  refine px_iushr S0 at_37 rfl ?_
  refine px_sipush (v := (255 : Int32)) S0 at_38 rfl rfl ?_
  refine px_iand S0 at_41 rfl ?_
  generalize h_v4 : ((ushr i0 (20 : Int32)) &&& (255 : Int32)) = v4
  refine px_istore S0 at_42 rfl (L' := #[.val (.int i0), .val (.long i1), .second, .val (.int i2), .val (.long i3), .second, .val (.int i4), .val (.int i5), .val (.int v1), .val (.int v2), .val (.int v3), .val (.int v4), .unset, .unset, .unset, .unset, .unset, .unset, .unset, .unset, .unset, .unset, .unset, .unset, .unset, .unset, .unset, .unset, .unset, .unset, .unset]) rfl ?_
  obtain ⟨z, h_z, ez⟩ : ∃ n : Nat, (n ≤ 255) ∧ v4.toInt = (n : Int) := ⟨v4.toInt.toNat, by have q0 := rng32 v4; have q1 := congrArg Int32.toInt h_v4; have q2 := f_imask (ushr i0 (20 : Int32)) (255 : Int32) 8 256 (by decide) (by decide) (by decide); have q3 := f_iushr i0 (20 : Int32) 20 1048576 (by decide) (by decide) (by decide); have q4 := rng32 (ushr i0 (20 : Int32)); have q5 := rng32 i0; have q6 := (show (20 : Int32).toInt = 20 from rfl); have q7 := (show (255 : Int32).toInt = 255 from rfl); omega, by have q0 := rng32 v4; have q1 := congrArg Int32.toInt h_v4; have q2 := f_imask (ushr i0 (20 : Int32)) (255 : Int32) 8 256 (by decide) (by decide) (by decide); have q3 := f_iushr i0 (20 : Int32) 20 1048576 (by decide) (by decide) (by decide); have q4 := rng32 (ushr i0 (20 : Int32)); have q5 := rng32 i0; have q6 := (show (20 : Int32).toInt = 20 from rfl); have q7 := (show (255 : Int32).toInt = 255 from rfl); omega⟩
  clear h_v4
  refine px_lloadN S0 at_44 rfl rfl ?_
  refine px_l2i S0 at_45 rfl ?_
  generalize h_v5 : i1.toInt32 = v5
  refine px_istore S0 at_46 rfl (L' := #[.val (.int i0), .val (.long i1), .second, .val (.int i2), .val (.long i3), .second, .val (.int i4), .val (.int i5), .val (.int v1), .val (.int v2), .val (.int v3), .val (.int v4), .val (.int v5), .unset, .unset, .unset, .unset, .unset, .unset, .unset, .unset, .unset, .unset, .unset, .unset, .unset, .unset, .unset, .unset, .unset, .unset]) rfl ?_
  refine px_lloadN S0 at_48 rfl rfl ?_
  refine px_bipush (v := (32 : Int32)) S0 at_49 rfl rfl ?_
  refine px_lushr S0 at_51 rfl ?_
  refine px_l2i S0 at_52 rfl ?_
  generalize h_v6 : (ushrL i1 (32 : Int32)).toInt32 = v6
  refine px_istore S0 at_53 rfl (L' := #[.val (.int i0), .val (.long i1), .second, .val (.int i2), .val (.long i3), .second, .val (.int i4), .val (.int i5), .val (.int v1), .val (.int v2), .val (.int v3), .val (.int v4), .val (.int v5), .val (.int v6), .unset, .unset, .unset, .unset, .unset, .unset, .unset, .unset, .unset, .unset, .unset, .unset, .unset, .unset, .unset, .unset, .unset]) rfl ?_
  refine px_lload S0 at_55 rfl rfl ?_
  refine px_l2i S0 at_57 rfl ?_
  generalize h_v7 : i3.toInt32 = v7
  refine px_istore S0 at_58 rfl (L' := #[.val (.int i0), .val (.long i1), .second, .val (.int i2), .val (.long i3), .second, .val (.int i4), .val (.int i5), .val (.int v1), .val (.int v2), .val (.int v3), .val (.int v4), .val (.int v5), .val (.int v6), .val (.int v7), .unset, .unset, .unset, .unset, .unset, .unset, .unset, .unset, .unset, .unset, .unset, .unset, .unset, .unset, .unset, .unset]) rfl ?_
  refine px_lload S0 at_60 rfl rfl ?_
  refine px_bipush (v := (32 : Int32)) S0 at_62 rfl rfl ?_
  refine px_lushr S0 at_64 rfl ?_
  refine px_l2i S0 at_65 rfl ?_
  generalize h_v8 : (ushrL i3 (32 : Int32)).toInt32 = v8
  refine px_istore S0 at_66 rfl (L' := #[.val (.int i0), .val (.long i1), .second, .val (.int i2), .val (.long i3), .second, .val (.int i4), .val (.int i5), .val (.int v1), .val (.int v2), .val (.int v3), .val (.int v4), .val (.int v5), .val (.int v6), .val (.int v7), .val (.int v8), .unset, .unset, .unset, .unset, .unset, .unset, .unset, .unset, .unset, .unset, .unset, .unset, .unset, .unset, .unset]) rfl ?_
  clear h_v5
  clear h_v6
  clear h_v7
  clear h_v8
  refine px_sipush (v := (256 : Int32)) S0 at_68 rfl rfl ?_
  refine px_newarr (aty := .int) (cap := 256) S0 (hw _ (List.mem_of_getElem? (i := 0) rfl)) rfl (n := 256) rfl (by decide) (by decide) (by decide) (by decide) at_71 rfl (fun T9 h9 b9 z9 g_b9 S9 E9 A_b9 => ?_)
  refine px_astore S9 at_73 rfl rfl (L' := #[.val (.int i0), .val (.long i1), .second, .val (.int i2), .val (.long i3), .second, .val (.int i4), .val (.int i5), .val (.int v1), .val (.int v2), .val (.int v3), .val (.int v4), .val (.int v5), .val (.int v6), .val (.int v7), .val (.int v8), .val (.ref b9), .unset, .unset, .unset, .unset, .unset, .unset, .unset, .unset, .unset, .unset, .unset, .unset, .unset, .unset]) rfl ?_
  refine px_aload S9 at_75 rfl rfl rfl ?_
  refine px_iload S9 at_77 rfl rfl ?_
  refine px_iload S9 at_79 rfl rfl ?_
  refine px_iastore (v := v5) S9 A_b9 g_b9 (i := a) ea (by omega) rfl at_81 rfl (fun T10 h10 S10 W10 A_b9 => ?_)
  refine px_aload S10 at_82 rfl rfl rfl ?_
  refine px_iload S10 at_84 rfl rfl ?_
  refine px_iload S10 at_86 rfl rfl ?_
  refine px_iastore (v := v6) S10 A_b9 g_b9 (i := b) eb (by omega) rfl at_88 rfl (fun T11 h11 S11 W11 A_b9 => ?_)
  refine px_aload S11 at_89 rfl rfl rfl ?_
  refine px_iload S11 at_91 rfl rfl ?_
  refine px_iloadN S11 at_93 rfl rfl ?_
  refine px_iastore (v := i2) S11 A_b9 g_b9 (i := c) ec (by omega) rfl at_94 rfl (fun T12 h12 S12 W12 A_b9 => ?_)
  refine px_sipush (v := (256 : Int32)) S12 at_95 rfl rfl ?_
  refine px_newarr (aty := .int) (cap := 256) S12 (hw _ (List.mem_of_getElem? (i := 0) rfl)) rfl (n := 256) rfl (by decide) (by decide) (by decide) (by decide) at_98 rfl (fun T13 h13 b13 z13 g_b13 S13 E13 A_b13 => ?_)
  have ne_b9_b13 : b9 ≠ b13 := ne_new z13 A_b9.lt
  replace A_b9 := A_b9.ext E13
  refine px_astore S13 at_100 rfl rfl (L' := #[.val (.int i0), .val (.long i1), .second, .val (.int i2), .val (.long i3), .second, .val (.int i4), .val (.int i5), .val (.int v1), .val (.int v2), .val (.int v3), .val (.int v4), .val (.int v5), .val (.int v6), .val (.int v7), .val (.int v8), .val (.ref b9), .val (.ref b13), .unset, .unset, .unset, .unset, .unset, .unset, .unset, .unset, .unset, .unset, .unset, .unset, .unset]) rfl ?_
  refine px_aload S13 at_102 rfl rfl rfl ?_
  refine px_iload S13 at_104 rfl rfl ?_
  refine px_iload S13 at_106 rfl rfl ?_
  refine px_iastore (v := v7) S13 A_b13 g_b13 (i := a) ea (by omega) rfl at_108 rfl (fun T14 h14 S14 W14 A_b13 => ?_)
  replace A_b9 := A_b9.other W14 ne_b9_b13
  refine px_aload S14 at_109 rfl rfl rfl ?_
  refine px_iload S14 at_111 rfl rfl ?_
  refine px_iload S14 at_113 rfl rfl ?_
  refine px_iastore (v := v8) S14 A_b13 g_b13 (i := b) eb (by omega) rfl at_115 rfl (fun T15 h15 S15 W15 A_b13 => ?_)
  replace A_b9 := A_b9.other W15 ne_b9_b13
  refine px_aload S15 at_116 rfl rfl rfl ?_
  refine px_iload S15 at_118 rfl rfl ?_
  refine px_iload S15 at_120 rfl rfl ?_
  refine px_iastore (v := i4) S15 A_b13 g_b13 (i := c) ec (by omega) rfl at_122 rfl (fun T16 h16 S16 W16 A_b13 => ?_)
  replace A_b9 := A_b9.other W16 ne_b9_b13
  obtain ⟨fo, A_b9, foa, fob, foc, hfo⟩ := AI.abs A_b9 (P := fun g => g a = v5 ∧ g b = v6 ∧ g c = i2 ∧ ∀ j, j < 256 → ¬ j = a → ¬ j = b → ¬ j = c → g j = 0) ⟨by rw [updF_ne _ _ (by omega), updF_ne _ _ (by omega), updF_same], by rw [updF_ne _ _ (by omega), updF_same], updF_same _ _ _, fun j hj h1 h2 h3 => by rw [updF_ne _ _ h3, updF_ne _ _ h2, updF_ne _ _ h1]⟩
  obtain ⟨fq0, A_b13, fqa0, fqb0, fqc0⟩ := AI.abs A_b13 (P := fun g => g a = v7 ∧ g b = v8 ∧ g c = i4) ⟨by rw [updF_ne _ _ (by omega), updF_ne _ _ (by omega), updF_same], by rw [updF_ne _ _ (by omega), updF_same], updF_same _ _ _⟩
  refine Go.joinH (α := (Nat → Int32)) (P := fun xx h => AI Z h b9 .int 256 fo ∧ AI Z h b13 .int 256 xx ∧ xx a = v7 ∧ xx b = v8 ∧ xx c = i4) (pcj := 151) (cl' := 2) (sl' := 512) (Lj := fun xx => #[.val (.int i0), .val (.long i1), .second, .val (.int i2), .val (.long i3), .second, .val (.int i4), .val (.int i5), .val (.int v1), .val (.int v2), .val (.int v3), .val (.int v4), .val (.int v5), .val (.int v6), .val (.int v7), .val (.int v8), .val (.ref b9), .val (.ref b13), .unset, .unset, .unset, .unset, .unset, .unset, .unset, .unset, .unset, .unset, .unset, .unset, .unset]) (stj := fun xx => []) S16 (fun fq T18 h18 S18 p18 => ?_) (fun J17 => ?_)
  · clear A_b9 A_b13
    try dsimp only at p18
    obtain ⟨A_b9, A_b13, fqa, fqb, fqc⟩ := p18
    show Go _ _ _ _ _ 151 #[.val (.int i0), .val (.long i1), .second, .val (.int i2), .val (.long i3), .second, .val (.int i4), .val (.int i5), .val (.int v1), .val (.int v2), .val (.int v3), .val (.int v4), .val (.int v5), .val (.int v6), .val (.int v7), .val (.int v8), .val (.ref b9), .val (.ref b13), .unset, .unset, .unset, .unset, .unset, .unset, .unset, .unset, .unset, .unset, .unset, .unset, .unset] []
    refine px_new S18 (hw _ (List.mem_of_getElem? (i := 1) rfl)) (hw _ (List.mem_of_getElem? (i := 2) rfl)) (hw _ (List.mem_of_getElem? (i := 3) rfl)) (by decide) (by decide) at_151 rfl (fun T19 h19 b19 z19 g_b19 S19 E19 X_b19 D19 => ?_)
    have ne_b9_b19 : b9 ≠ b19 := ne_new z19 A_b9.lt
    have ne_b13_b19 : b13 ≠ b19 := ne_new z19 A_b13.lt
    replace A_b9 := A_b9.ext E19
    replace A_b13 := A_b13.ext E19
    have F_lengths_b19 : Fld Z h19 b19 "com/example/colonnade/colonnade/compress/HuffmanEncoder" "lengths" "[I" .null := D19 (Or.inr (hw _ (List.mem_of_getElem? (i := 11) rfl))) (ty := (.array .int)) (by decide)
    have F_codes_b19 : Fld Z h19 b19 "com/example/colonnade/colonnade/compress/HuffmanEncoder" "codes" "[I" .null := D19 (Or.inr (hw _ (List.mem_of_getElem? (i := 13) rfl))) (ty := (.array .int)) (by decide)
    have F_width_b19 : Fld Z h19 b19 "com/example/colonnade/colonnade/compress/HuffmanEncoder" "width" "I" (.int (0 : Int32)) := D19 (Or.inl (hw _ (List.mem_of_getElem? (i := 37) rfl))) (ty := .int) (by decide)
    have F_largest_b19 : Fld Z h19 b19 "com/example/colonnade/colonnade/compress/HuffmanEncoder" "largest" "I" (.int (0 : Int32)) := D19 (Or.inl (hw _ (List.mem_of_getElem? (i := 39) rfl))) (ty := .int) (by decide)
    refine px_dup S19 at_154 rfl rfl ?_
    have lt_o := A_b9.lt
    have lt_q := A_b13.lt
    refine px_callC (as' := []) (st := [(.ref b19)]) (W := 1) S19 (c_init hw S19.size g_b19 X_b19 F_lengths_b19 F_codes_b19 F_width_b19 F_largest_b19) rfl (hw _ (List.mem_of_getElem? (i := 4) rfl)) (hw _ (List.mem_of_getElem? (i := 5) rfl)) (hw _ (List.mem_of_getElem? (i := 3) rfl)) (hw _ (List.mem_of_getElem? (i := 6) rfl)) (by decide) pd_0_0 rfl rfl (by decide) rfl (by decide) (by decide) (by decide) at_155 rfl rfl (fun T20 h20 v20 S20 q20 => ?_)
    obtain ⟨rfl, K20, ln, cd, ⟨z_l, z_c⟩, ⟨g_l, g_c⟩, ⟨n_tl, n_tc, n_lc⟩, ⟨X_t, F_lengths_t, F_codes_t, F_width_t, F_largest_t⟩, A_l, A_c⟩ := q20
    replace A_b9 := A_b9.keep K20 (ninS ne_b9_b19 nin0)
    replace A_b13 := A_b13.keep K20 (ninS ne_b13_b19 nin0)
    have n_b9_ln : b9 ≠ ln := Nat.ne_of_lt (Nat.lt_of_lt_of_le lt_o z_l)
    have n_b9_cd : b9 ≠ cd := Nat.ne_of_lt (Nat.lt_of_lt_of_le lt_o z_c)
    have n_b13_ln : b13 ≠ ln := Nat.ne_of_lt (Nat.lt_of_lt_of_le lt_q z_l)
    have n_b13_cd : b13 ≠ cd := Nat.ne_of_lt (Nat.lt_of_lt_of_le lt_q z_c)
    show Go _ _ _ _ _ _ _ [(.ref b19)]
    refine px_astore S20 at_158 rfl rfl (L' := #[.val (.int i0), .val (.long i1), .second, .val (.int i2), .val (.long i3), .second, .val (.int i4), .val (.int i5), .val (.int v1), .val (.int v2), .val (.int v3), .val (.int v4), .val (.int v5), .val (.int v6), .val (.int v7), .val (.int v8), .val (.ref b9), .val (.ref b13), .val (.ref b19), .unset, .unset, .unset, .unset, .unset, .unset, .unset, .unset, .unset, .unset, .unset, .unset]) rfl ?_
    refine px_aload S20 at_160 rfl rfl rfl ?_
    refine px_aload S20 at_162 rfl rfl rfl ?_
    obtain ⟨na, hna1, hna⟩ := pos01 (fo a).toInt
    obtain ⟨nb, hnb1, hnb⟩ := pos01 (fo b).toInt
    obtain ⟨nc, hnc1, hnc⟩ := pos01 (fo c).toInt
    refine px_callV (Cn := "com/example/colonnade/colonnade/compress/HuffmanEncoder") (as' := [(.ref b9)]) (st := []) (W := 0) S20 (c_build (a := a) (b := b) (c := c) (na := na) (nb := nb) (nc := nc) (fl := fun _ => (0 : Int32)) (fc := fun _ => (0 : Int32)) hw S20.size g_b19 g_l g_c X_t F_lengths_t F_codes_t F_width_t F_largest_t A_b9 A_l A_c n_tl n_tc n_lc ne_b9_b19 n_b9_ln n_b9_cd (by omega) (by omega) (by omega) (fun _ _ => rfl) hfo hna1 hnb1 hnc1 hna hnb hnc) X_t (hw _ (List.mem_of_getElem? (i := 14) rfl)) (hw _ (List.mem_of_getElem? (i := 15) rfl)) (hw _ (List.mem_of_getElem? (i := 17) rfl)) (hw _ (List.mem_of_getElem? (i := 16) rfl)) (hw _ (List.mem_of_getElem? (i := 3) rfl)) (hw _ (List.mem_of_getElem? (i := 18) rfl)) (S20.nf (hw _ (List.mem_of_getElem? (i := 17) rfl))) (by decide) pd_0_1 rfl rfl (by decide) rfl (by decide) (by decide) (by decide) at_164 rfl rfl (fun T21 h21 v21 S21 q21 => ?_)
    obtain ⟨fl2, A_l, K21, ⟨X_t, F_lengths_t⟩, hz, alt⟩ := q21
    replace A_b9 := A_b9.keep K21 (ninS ne_b9_b19 (ninS n_b9_ln (ninS n_b9_cd nin0)))
    replace A_b13 := A_b13.keep K21 (ninS ne_b13_b19 (ninS n_b13_ln (ninS n_b13_cd nin0)))
    rw [foa] at hna; rw [fob] at hnb; rw [foc] at hnc
    rw [foa, fob, foc] at alt
    rcases alt with ⟨n2, rfl, la, lb, lc⟩ | ⟨n2, rfl, hL⟩
    · show Go _ _ _ _ _ _ _ [(.int (0 : Int32))]
      refine px_istore S21 at_167 rfl (L' := #[.val (.int i0), .val (.long i1), .second, .val (.int i2), .val (.long i3), .second, .val (.int i4), .val (.int i5), .val (.int v1), .val (.int v2), .val (.int v3), .val (.int v4), .val (.int v5), .val (.int v6), .val (.int v7), .val (.int v8), .val (.ref b9), .val (.ref b13), .val (.ref b19), .val (.int (0 : Int32)), .unset, .unset, .unset, .unset, .unset, .unset, .unset, .unset, .unset, .unset, .unset]) rfl ?_
      refine px_iload S21 at_169 rfl rfl ?_
      refine px_if0 S21 at_171 (by decide) (pc' := 178) rfl rfl (fun (hc22 : v5.toInt ≤ 0) => ?_) (fun (hc22 : v5.toInt > 0) => ?_)
      · refine px_iconst (v := (0 : Int32)) S21 at_178 rfl rfl ?_
        refine px_istore S21 at_179 rfl (L' := #[.val (.int i0), .val (.long i1), .second, .val (.int i2), .val (.long i3), .second, .val (.int i4), .val (.int i5), .val (.int v1), .val (.int v2), .val (.int v3), .val (.int v4), .val (.int v5), .val (.int v6), .val (.int v7), .val (.int v8), .val (.ref b9), .val (.ref b13), .val (.ref b19), .val (.int (0 : Int32)), .val (.int (0 : Int32)), .unset, .unset, .unset, .unset, .unset, .unset, .unset, .unset, .unset, .unset]) rfl ?_
        refine px_iload S21 at_181 rfl rfl ?_
        refine px_if0 S21 at_183 (by decide) (pc' := 190) rfl rfl (fun (hc23 : v6.toInt ≤ 0) => ?_) (fun (hc23 : v6.toInt > 0) => ?_)
        · refine px_iconst (v := (0 : Int32)) S21 at_190 rfl rfl ?_
          refine px_istore S21 at_191 rfl (L' := #[.val (.int i0), .val (.long i1), .second, .val (.int i2), .val (.long i3), .second, .val (.int i4), .val (.int i5), .val (.int v1), .val (.int v2), .val (.int v3), .val (.int v4), .val (.int v5), .val (.int v6), .val (.int v7), .val (.int v8), .val (.ref b9), .val (.ref b13), .val (.ref b19), .val (.int (0 : Int32)), .val (.int (0 : Int32)), .val (.int (0 : Int32)), .unset, .unset, .unset, .unset, .unset, .unset, .unset, .unset, .unset]) rfl ?_
          refine px_iloadN S21 at_193 rfl rfl ?_
          refine px_if0 S21 at_194 (by decide) (pc' := 201) rfl rfl (fun (hc24 : i2.toInt ≤ 0) => ?_) (fun (hc24 : i2.toInt > 0) => ?_)
          · refine px_iconst (v := (0 : Int32)) S21 at_201 rfl rfl ?_
            refine px_istore S21 at_202 rfl (L' := #[.val (.int i0), .val (.long i1), .second, .val (.int i2), .val (.long i3), .second, .val (.int i4), .val (.int i5), .val (.int v1), .val (.int v2), .val (.int v3), .val (.int v4), .val (.int v5), .val (.int v6), .val (.int v7), .val (.int v8), .val (.ref b9), .val (.ref b13), .val (.ref b19), .val (.int (0 : Int32)), .val (.int (0 : Int32)), .val (.int (0 : Int32)), .val (.int (0 : Int32)), .unset, .unset, .unset, .unset, .unset, .unset, .unset, .unset]) rfl ?_
            refine px_iload S21 at_204 rfl rfl ?_
            refine px_if0 S21 at_206 (by decide) (pc' := 213) rfl rfl (fun (hc25 : (0 : Int32).toInt = 0) => ?_) (fun (hc25 : ¬ (0 : Int32).toInt = 0) => by exfalso; revert hc25; decide)
            refine px_iconst (v := (0 : Int32)) S21 at_213 rfl rfl ?_
            refine px_iload S21 at_214 rfl rfl ?_
            refine px_if0 S21 at_216 (by decide) (pc' := 223) rfl rfl (fun (hc26 : (0 : Int32).toInt = 0) => ?_) (fun (hc26 : ¬ (0 : Int32).toInt = 0) => by exfalso; revert hc26; decide)
            refine px_iconst (v := (0 : Int32)) S21 at_223 rfl rfl ?_
            refine px_iadd S21 at_224 rfl ?_
            rw [show ((0 : Int32) + (0 : Int32)) = (0 : Int32) from by decide]
            refine px_iload S21 at_225 rfl rfl ?_
            refine px_if0 S21 at_227 (by decide) (pc' := 234) rfl rfl (fun (hc27 : (0 : Int32).toInt = 0) => ?_) (fun (hc27 : ¬ (0 : Int32).toInt = 0) => by exfalso; revert hc27; decide)
            refine px_iconst (v := (0 : Int32)) S21 at_234 rfl rfl ?_
            refine px_iadd S21 at_235 rfl ?_
            rw [show ((0 : Int32) + (0 : Int32)) = (0 : Int32) from by decide]
            refine px_istore S21 at_236 rfl (L' := #[.val (.int i0), .val (.long i1), .second, .val (.int i2), .val (.long i3), .second, .val (.int i4), .val (.int i5), .val (.int v1), .val (.int v2), .val (.int v3), .val (.int v4), .val (.int v5), .val (.int v6), .val (.int v7), .val (.int v8), .val (.ref b9), .val (.ref b13), .val (.ref b19), .val (.int (0 : Int32)), .val (.int (0 : Int32)), .val (.int (0 : Int32)), .val (.int (0 : Int32)), .val (.int (0 : Int32)), .unset, .unset, .unset, .unset, .unset, .unset, .unset]) rfl ?_
            refine px_iconst (v := (0 : Int32)) S21 at_238 rfl rfl ?_
            refine px_istore S21 at_239 rfl (L' := #[.val (.int i0), .val (.long i1), .second, .val (.int i2), .val (.long i3), .second, .val (.int i4), .val (.int i5), .val (.int v1), .val (.int v2), .val (.int v3), .val (.int v4), .val (.int v5), .val (.int v6), .val (.int v7), .val (.int v8), .val (.ref b9), .val (.ref b13), .val (.ref b19), .val (.int (0 : Int32)), .val (.int (0 : Int32)), .val (.int (0 : Int32)), .val (.int (0 : Int32)), .val (.int (0 : Int32)), .val (.int (0 : Int32)), .unset, .unset, .unset, .unset, .unset, .unset]) rfl ?_
            refine px_iconst (v := (0 : Int32)) S21 at_241 rfl rfl ?_
            refine px_istore S21 at_242 rfl (L' := #[.val (.int i0), .val (.long i1), .second, .val (.int i2), .val (.long i3), .second, .val (.int i4), .val (.int i5), .val (.int v1), .val (.int v2), .val (.int v3), .val (.int v4), .val (.int v5), .val (.int v6), .val (.int v7), .val (.int v8), .val (.ref b9), .val (.ref b13), .val (.ref b19), .val (.int (0 : Int32)), .val (.int (0 : Int32)), .val (.int (0 : Int32)), .val (.int (0 : Int32)), .val (.int (0 : Int32)), .val (.int (0 : Int32)), .val (.int (0 : Int32)), .unset, .unset, .unset, .unset, .unset]) rfl ?_
            refine px_iconst (v := (0 : Int32)) S21 at_244 rfl rfl ?_
            refine px_istore S21 at_245 rfl (L' := #[.val (.int i0), .val (.long i1), .second, .val (.int i2), .val (.long i3), .second, .val (.int i4), .val (.int i5), .val (.int v1), .val (.int v2), .val (.int v3), .val (.int v4), .val (.int v5), .val (.int v6), .val (.int v7), .val (.int v8), .val (.ref b9), .val (.ref b13), .val (.ref b19), .val (.int (0 : Int32)), .val (.int (0 : Int32)), .val (.int (0 : Int32)), .val (.int (0 : Int32)), .val (.int (0 : Int32)), .val (.int (0 : Int32)), .val (.int (0 : Int32)), .val (.int (0 : Int32)), .unset, .unset, .unset, .unset]) rfl ?_
            refine px_iload S21 at_247 rfl rfl ?_
            refine px_iconst (v := (2 : Int32)) S21 at_249 rfl rfl ?_
            refine px_icmp S21 at_250 (by decide) (pc' := 292) rfl rfl (fun (hc28 : ¬ (0 : Int32).toInt = (2 : Int32).toInt) => ?_) (fun (hc28 : (0 : Int32).toInt = (2 : Int32).toInt) => by exfalso; revert hc28; decide)
            refine px_iload S21 at_292 rfl rfl ?_
            refine px_iconst (v := (3 : Int32)) S21 at_294 rfl rfl ?_
            refine px_icmp S21 at_295 (by decide) (pc' := 341) rfl rfl (fun (hc29 : ¬ (0 : Int32).toInt = (3 : Int32).toInt) => ?_) (fun (hc29 : (0 : Int32).toInt = (3 : Int32).toInt) => by exfalso; revert hc29; decide)
            replace la : fl2 a = (0 : Int32) := i32_of la rfl
            replace lb : fl2 b = (0 : Int32) := i32_of lb rfl
            replace lc : fl2 c = (0 : Int32) := i32_of lc rfl
            refine px_iload S21 at_341 rfl rfl ?_
            refine px_i2l S21 at_343 rfl ?_
            refine px_iload S21 at_344 rfl rfl ?_
            refine px_i2l S21 at_346 rfl ?_
            refine px_lmul S21 at_347 rfl ?_
            refine px_iload S21 at_348 rfl rfl ?_
            refine px_i2l S21 at_350 rfl ?_
            refine px_iload S21 at_351 rfl rfl ?_
            refine px_i2l S21 at_353 rfl ?_
            refine px_lmul S21 at_354 rfl ?_
            refine px_ladd S21 at_355 rfl ?_
            refine px_iload S21 at_356 rfl rfl ?_
            refine px_i2l S21 at_358 rfl ?_
            refine px_iload S21 at_359 rfl rfl ?_
            refine px_i2l S21 at_361 rfl ?_
            refine px_lmul S21 at_362 rfl ?_
            refine px_ladd S21 at_363 rfl ?_
            refine px_lstore S21 at_364 rfl (L' := #[.val (.int i0), .val (.long i1), .second, .val (.int i2), .val (.long i3), .second, .val (.int i4), .val (.int i5), .val (.int v1), .val (.int v2), .val (.int v3), .val (.int v4), .val (.int v5), .val (.int v6), .val (.int v7), .val (.int v8), .val (.ref b9), .val (.ref b13), .val (.ref b19), .val (.int (0 : Int32)), .val (.int (0 : Int32)), .val (.int (0 : Int32)), .val (.int (0 : Int32)), .val (.int (0 : Int32)), .val (.int (0 : Int32)), .val (.int (0 : Int32)), .val (.int (0 : Int32)), .val (.long (((v7.toInt64 * (0 : Int32).toInt64) + (v8.toInt64 * (0 : Int32).toInt64)) + (i4.toInt64 * (0 : Int32).toInt64))), .second, .unset, .unset]) rfl ?_
            refine px_iload S21 at_366 rfl rfl ?_
            refine px_i2l S21 at_368 rfl ?_
            refine px_iload S21 at_369 rfl rfl ?_
            refine px_i2l S21 at_371 rfl ?_
            refine px_lmul S21 at_372 rfl ?_
            refine px_iload S21 at_373 rfl rfl ?_
            refine px_i2l S21 at_375 rfl ?_
            refine px_iload S21 at_376 rfl rfl ?_
            refine px_i2l S21 at_378 rfl ?_
            refine px_lmul S21 at_379 rfl ?_
            refine px_ladd S21 at_380 rfl ?_
            refine px_iloadN S21 at_381 rfl rfl ?_
            refine px_i2l S21 at_382 rfl ?_
            refine px_iload S21 at_383 rfl rfl ?_
            refine px_i2l S21 at_385 rfl ?_
            refine px_lmul S21 at_386 rfl ?_
            refine px_ladd S21 at_387 rfl ?_
            refine px_lstore S21 at_388 rfl (L' := #[.val (.int i0), .val (.long i1), .second, .val (.int i2), .val (.long i3), .second, .val (.int i4), .val (.int i5), .val (.int v1), .val (.int v2), .val (.int v3), .val (.int v4), .val (.int v5), .val (.int v6), .val (.int v7), .val (.int v8), .val (.ref b9), .val (.ref b13), .val (.ref b19), .val (.int (0 : Int32)), .val (.int (0 : Int32)), .val (.int (0 : Int32)), .val (.int (0 : Int32)), .val (.int (0 : Int32)), .val (.int (0 : Int32)), .val (.int (0 : Int32)), .val (.int (0 : Int32)), .val (.long (((v7.toInt64 * (0 : Int32).toInt64) + (v8.toInt64 * (0 : Int32).toInt64)) + (i4.toInt64 * (0 : Int32).toInt64))), .second, .val (.long (((v5.toInt64 * (0 : Int32).toInt64) + (v6.toInt64 * (0 : Int32).toInt64)) + (i2.toInt64 * (0 : Int32).toInt64))), .second]) rfl ?_
            refine px_iload S21 at_390 rfl rfl ?_
            refine px_iload S21 at_392 rfl rfl ?_
            refine px_iconst (v := (2 : Int32)) S21 at_394 rfl rfl ?_
            refine px_icmp S21 at_395 (by decide) (pc' := 402) rfl rfl (fun (hc30 : (0 : Int32).toInt < (2 : Int32).toInt) => ?_) (fun (hc30 : (0 : Int32).toInt ≥ (2 : Int32).toInt) => by exfalso; revert hc30; decide)
            refine px_iconst (v := (0 : Int32)) S21 at_402 rfl rfl ?_
            refine px_icmp S21 at_403 (by decide) (pc' := 436) rfl rfl (fun (hc31 : ¬ (0 : Int32).toInt = (0 : Int32).toInt) => absurd rfl hc31) (fun (hc31 : (0 : Int32).toInt = (0 : Int32).toInt) => ?_)
            refine px_aload S21 at_406 rfl rfl rfl ?_
            refine px_aload S21 at_408 rfl rfl rfl ?_
            refine px_callV (Cn := "com/example/colonnade/colonnade/compress/HuffmanEncoder") (as' := [(.ref b13)]) (st := []) (W := 0) S21 (c_cost (a := a) (b := b) (c := c) hw S21.size X_t F_lengths_t A_l A_b13 (by omega) (by omega) (by omega) hz.out) X_t (hw _ (List.mem_of_getElem? (i := 47) rfl)) (hw _ (List.mem_of_getElem? (i := 48) rfl)) (hw _ (List.mem_of_getElem? (i := 50) rfl)) (hw _ (List.mem_of_getElem? (i := 49) rfl)) (hw _ (List.mem_of_getElem? (i := 3) rfl)) (hw _ (List.mem_of_getElem? (i := 51) rfl)) (S21.nf (hw _ (List.mem_of_getElem? (i := 50) rfl))) (by decide) pd_0_2 rfl rfl (by decide) rfl (by decide) (by decide) (by decide) at_410 rfl rfl (fun T32 h32 v32 S32 q32 => ?_)
            obtain ⟨r_, rfl⟩ := q32
            rw [fqa, fqb, fqc, la, lb, lc] at r_
            obtain rfl := r_
            show Go _ _ _ _ _ _ _ [(.long (((v7.toInt64 * (0 : Int32).toInt64) + (v8.toInt64 * (0 : Int32).toInt64)) + (i4.toInt64 * (0 : Int32).toInt64)))]
            refine px_lload S32 at_413 rfl rfl ?_
            refine px_lif S32 at_415 rfl at_416 (by decide) (pc' := 436) rfl rfl (fun (hc33 : ¬ (((v7.toInt64 * (0 : Int32).toInt64) + (v8.toInt64 * (0 : Int32).toInt64)) + (i4.toInt64 * (0 : Int32).toInt64)).toInt = (((v7.toInt64 * (0 : Int32).toInt64) + (v8.toInt64 * (0 : Int32).toInt64)) + (i4.toInt64 * (0 : Int32).toInt64)).toInt) => absurd rfl hc33) (fun (hc33 : (((v7.toInt64 * (0 : Int32).toInt64) + (v8.toInt64 * (0 : Int32).toInt64)) + (i4.toInt64 * (0 : Int32).toInt64)).toInt = (((v7.toInt64 * (0 : Int32).toInt64) + (v8.toInt64 * (0 : Int32).toInt64)) + (i4.toInt64 * (0 : Int32).toInt64)).toInt) => ?_)
            refine px_aload S32 at_419 rfl rfl rfl ?_
            refine px_aload S32 at_421 rfl rfl rfl ?_
            refine px_callV (Cn := "com/example/colonnade/colonnade/compress/HuffmanEncoder") (as' := [(.ref b9)]) (st := []) (W := 0) S32 (c_cost (a := a) (b := b) (c := c) hw S32.size X_t F_lengths_t A_l A_b9 (by omega) (by omega) (by omega) hz.out) X_t (hw _ (List.mem_of_getElem? (i := 47) rfl)) (hw _ (List.mem_of_getElem? (i := 48) rfl)) (hw _ (List.mem_of_getElem? (i := 50) rfl)) (hw _ (List.mem_of_getElem? (i := 49) rfl)) (hw _ (List.mem_of_getElem? (i := 3) rfl)) (hw _ (List.mem_of_getElem? (i := 51) rfl)) (S32.nf (hw _ (List.mem_of_getElem? (i := 50) rfl))) (by decide) pd_0_2 rfl rfl (by decide) rfl (by decide) (by decide) (by decide) at_423 rfl rfl (fun T34 h34 v34 S34 q34 => ?_)
            obtain ⟨r_, rfl⟩ := q34
            rw [foa, fob, foc, la, lb, lc] at r_
            obtain rfl := r_
            show Go _ _ _ _ _ _ _ [(.long (((v5.toInt64 * (0 : Int32).toInt64) + (v6.toInt64 * (0 : Int32).toInt64)) + (i2.toInt64 * (0 : Int32).toInt64)))]
            refine px_lload S34 at_426 rfl rfl ?_
            refine px_lif S34 at_428 rfl at_429 (by decide) (pc' := 436) rfl rfl (fun (hc35 : ¬ (((v5.toInt64 * (0 : Int32).toInt64) + (v6.toInt64 * (0 : Int32).toInt64)) + (i2.toInt64 * (0 : Int32).toInt64)).toInt = (((v5.toInt64 * (0 : Int32).toInt64) + (v6.toInt64 * (0 : Int32).toInt64)) + (i2.toInt64 * (0 : Int32).toInt64)).toInt) => absurd rfl hc35) (fun (hc35 : (((v5.toInt64 * (0 : Int32).toInt64) + (v6.toInt64 * (0 : Int32).toInt64)) + (i2.toInt64 * (0 : Int32).toInt64)).toInt = (((v5.toInt64 * (0 : Int32).toInt64) + (v6.toInt64 * (0 : Int32).toInt64)) + (i2.toInt64 * (0 : Int32).toInt64)).toInt) => ?_)
            refine px_iconst (v := (1 : Int32)) S34 at_432 rfl rfl ?_
            refine px_goto S34 at_433 (by decide) (pc' := 437) rfl ?_
            exact px_retN (t := .boolean) (z' := (1 : Int32)) S34 at_437 rfl (by simp) rfl (by decide) (by decide) (rfl)
          · refine px_iconst (v := (1 : Int32)) S21 at_197 rfl rfl ?_
            refine px_goto S21 at_198 (by decide) (pc' := 202) rfl ?_
            refine px_istore S21 at_202 rfl (L' := #[.val (.int i0), .val (.long i1), .second, .val (.int i2), .val (.long i3), .second, .val (.int i4), .val (.int i5), .val (.int v1), .val (.int v2), .val (.int v3), .val (.int v4), .val (.int v5), .val (.int v6), .val (.int v7), .val (.int v8), .val (.ref b9), .val (.ref b13), .val (.ref b19), .val (.int (0 : Int32)), .val (.int (0 : Int32)), .val (.int (0 : Int32)), .val (.int (1 : Int32)), .unset, .unset, .unset, .unset, .unset, .unset, .unset, .unset]) rfl ?_
            refine px_iload S21 at_204 rfl rfl ?_
            refine px_if0 S21 at_206 (by decide) (pc' := 213) rfl rfl (fun (hc36 : (0 : Int32).toInt = 0) => ?_) (fun (hc36 : ¬ (0 : Int32).toInt = 0) => by exfalso; revert hc36; decide)
            refine px_iconst (v := (0 : Int32)) S21 at_213 rfl rfl ?_
            refine px_iload S21 at_214 rfl rfl ?_
            refine px_if0 S21 at_216 (by decide) (pc' := 223) rfl rfl (fun (hc37 : (0 : Int32).toInt = 0) => ?_) (fun (hc37 : ¬ (0 : Int32).toInt = 0) => by exfalso; revert hc37; decide)
            refine px_iconst (v := (0 : Int32)) S21 at_223 rfl rfl ?_
            refine px_iadd S21 at_224 rfl ?_
            rw [show ((0 : Int32) + (0 : Int32)) = (0 : Int32) from by decide]
            refine px_iload S21 at_225 rfl rfl ?_
            refine px_if0 S21 at_227 (by decide) (pc' := 234) rfl rfl (fun (hc38 : (1 : Int32).toInt = 0) => by exfalso; revert hc38; decide) (fun (hc38 : ¬ (1 : Int32).toInt = 0) => ?_)
            refine px_iconst (v := (1 : Int32)) S21 at_230 rfl rfl ?_
            refine px_goto S21 at_231 (by decide) (pc' := 235) rfl ?_
            refine px_iadd S21 at_235 rfl ?_
            rw [show ((0 : Int32) + (1 : Int32)) = (1 : Int32) from by decide]
            refine px_istore S21 at_236 rfl (L' := #[.val (.int i0), .val (.long i1), .second, .val (.int i2), .val (.long i3), .second, .val (.int i4), .val (.int i5), .val (.int v1), .val (.int v2), .val (.int v3), .val (.int v4), .val (.int v5), .val (.int v6), .val (.int v7), .val (.int v8), .val (.ref b9), .val (.ref b13), .val (.ref b19), .val (.int (0 : Int32)), .val (.int (0 : Int32)), .val (.int (0 : Int32)), .val (.int (1 : Int32)), .val (.int (1 : Int32)), .unset, .unset, .unset, .unset, .unset, .unset, .unset]) rfl ?_
            refine px_iconst (v := (0 : Int32)) S21 at_238 rfl rfl ?_
            refine px_istore S21 at_239 rfl (L' := #[.val (.int i0), .val (.long i1), .second, .val (.int i2), .val (.long i3), .second, .val (.int i4), .val (.int i5), .val (.int v1), .val (.int v2), .val (.int v3), .val (.int v4), .val (.int v5), .val (.int v6), .val (.int v7), .val (.int v8), .val (.ref b9), .val (.ref b13), .val (.ref b19), .val (.int (0 : Int32)), .val (.int (0 : Int32)), .val (.int (0 : Int32)), .val (.int (1 : Int32)), .val (.int (1 : Int32)), .val (.int (0 : Int32)), .unset, .unset, .unset, .unset, .unset, .unset]) rfl ?_
            refine px_iconst (v := (0 : Int32)) S21 at_241 rfl rfl ?_
            refine px_istore S21 at_242 rfl (L' := #[.val (.int i0), .val (.long i1), .second, .val (.int i2), .val (.long i3), .second, .val (.int i4), .val (.int i5), .val (.int v1), .val (.int v2), .val (.int v3), .val (.int v4), .val (.int v5), .val (.int v6), .val (.int v7), .val (.int v8), .val (.ref b9), .val (.ref b13), .val (.ref b19), .val (.int (0 : Int32)), .val (.int (0 : Int32)), .val (.int (0 : Int32)), .val (.int (1 : Int32)), .val (.int (1 : Int32)), .val (.int (0 : Int32)), .val (.int (0 : Int32)), .unset, .unset, .unset, .unset, .unset]) rfl ?_
            refine px_iconst (v := (0 : Int32)) S21 at_244 rfl rfl ?_
            refine px_istore S21 at_245 rfl (L' := #[.val (.int i0), .val (.long i1), .second, .val (.int i2), .val (.long i3), .second, .val (.int i4), .val (.int i5), .val (.int v1), .val (.int v2), .val (.int v3), .val (.int v4), .val (.int v5), .val (.int v6), .val (.int v7), .val (.int v8), .val (.ref b9), .val (.ref b13), .val (.ref b19), .val (.int (0 : Int32)), .val (.int (0 : Int32)), .val (.int (0 : Int32)), .val (.int (1 : Int32)), .val (.int (1 : Int32)), .val (.int (0 : Int32)), .val (.int (0 : Int32)), .val (.int (0 : Int32)), .unset, .unset, .unset, .unset]) rfl ?_
            refine px_iload S21 at_247 rfl rfl ?_
            refine px_iconst (v := (2 : Int32)) S21 at_249 rfl rfl ?_
            refine px_icmp S21 at_250 (by decide) (pc' := 292) rfl rfl (fun (hc39 : ¬ (1 : Int32).toInt = (2 : Int32).toInt) => ?_) (fun (hc39 : (1 : Int32).toInt = (2 : Int32).toInt) => by exfalso; revert hc39; decide)
            refine px_iload S21 at_292 rfl rfl ?_
            refine px_iconst (v := (3 : Int32)) S21 at_294 rfl rfl ?_
            refine px_icmp S21 at_295 (by decide) (pc' := 341) rfl rfl (fun (hc40 : ¬ (1 : Int32).toInt = (3 : Int32).toInt) => ?_) (fun (hc40 : (1 : Int32).toInt = (3 : Int32).toInt) => by exfalso; revert hc40; decide)
            replace la : fl2 a = (0 : Int32) := i32_of la rfl
            replace lb : fl2 b = (0 : Int32) := i32_of lb rfl
            replace lc : fl2 c = (0 : Int32) := i32_of lc rfl
            refine px_iload S21 at_341 rfl rfl ?_
            refine px_i2l S21 at_343 rfl ?_
            refine px_iload S21 at_344 rfl rfl ?_
            refine px_i2l S21 at_346 rfl ?_
            refine px_lmul S21 at_347 rfl ?_
            refine px_iload S21 at_348 rfl rfl ?_
            refine px_i2l S21 at_350 rfl ?_
            refine px_iload S21 at_351 rfl rfl ?_
            refine px_i2l S21 at_353 rfl ?_
            refine px_lmul S21 at_354 rfl ?_
            refine px_ladd S21 at_355 rfl ?_
            refine px_iload S21 at_356 rfl rfl ?_
            refine px_i2l S21 at_358 rfl ?_
            refine px_iload S21 at_359 rfl rfl ?_
            refine px_i2l S21 at_361 rfl ?_
            refine px_lmul S21 at_362 rfl ?_
            refine px_ladd S21 at_363 rfl ?_
            refine px_lstore S21 at_364 rfl (L' := #[.val (.int i0), .val (.long i1), .second, .val (.int i2), .val (.long i3), .second, .val (.int i4), .val (.int i5), .val (.int v1), .val (.int v2), .val (.int v3), .val (.int v4), .val (.int v5), .val (.int v6), .val (.int v7), .val (.int v8), .val (.ref b9), .val (.ref b13), .val (.ref b19), .val (.int (0 : Int32)), .val (.int (0 : Int32)), .val (.int (0 : Int32)), .val (.int (1 : Int32)), .val (.int (1 : Int32)), .val (.int (0 : Int32)), .val (.int (0 : Int32)), .val (.int (0 : Int32)), .val (.long (((v7.toInt64 * (0 : Int32).toInt64) + (v8.toInt64 * (0 : Int32).toInt64)) + (i4.toInt64 * (0 : Int32).toInt64))), .second, .unset, .unset]) rfl ?_
            refine px_iload S21 at_366 rfl rfl ?_
            refine px_i2l S21 at_368 rfl ?_
            refine px_iload S21 at_369 rfl rfl ?_
            refine px_i2l S21 at_371 rfl ?_
            refine px_lmul S21 at_372 rfl ?_
            refine px_iload S21 at_373 rfl rfl ?_
            refine px_i2l S21 at_375 rfl ?_
            refine px_iload S21 at_376 rfl rfl ?_
            refine px_i2l S21 at_378 rfl ?_
            refine px_lmul S21 at_379 rfl ?_
            refine px_ladd S21 at_380 rfl ?_
            refine px_iloadN S21 at_381 rfl rfl ?_
            refine px_i2l S21 at_382 rfl ?_
            refine px_iload S21 at_383 rfl rfl ?_
            refine px_i2l S21 at_385 rfl ?_
            refine px_lmul S21 at_386 rfl ?_
            refine px_ladd S21 at_387 rfl ?_
            refine px_lstore S21 at_388 rfl (L' := #[.val (.int i0), .val (.long i1), .second, .val (.int i2), .val (.long i3), .second, .val (.int i4), .val (.int i5), .val (.int v1), .val (.int v2), .val (.int v3), .val (.int v4), .val (.int v5), .val (.int v6), .val (.int v7), .val (.int v8), .val (.ref b9), .val (.ref b13), .val (.ref b19), .val (.int (0 : Int32)), .val (.int (0 : Int32)), .val (.int (0 : Int32)), .val (.int (1 : Int32)), .val (.int (1 : Int32)), .val (.int (0 : Int32)), .val (.int (0 : Int32)), .val (.int (0 : Int32)), .val (.long (((v7.toInt64 * (0 : Int32).toInt64) + (v8.toInt64 * (0 : Int32).toInt64)) + (i4.toInt64 * (0 : Int32).toInt64))), .second, .val (.long (((v5.toInt64 * (0 : Int32).toInt64) + (v6.toInt64 * (0 : Int32).toInt64)) + (i2.toInt64 * (0 : Int32).toInt64))), .second]) rfl ?_
            refine px_iload S21 at_390 rfl rfl ?_
            refine px_iload S21 at_392 rfl rfl ?_
            refine px_iconst (v := (2 : Int32)) S21 at_394 rfl rfl ?_
            refine px_icmp S21 at_395 (by decide) (pc' := 402) rfl rfl (fun (hc41 : (1 : Int32).toInt < (2 : Int32).toInt) => ?_) (fun (hc41 : (1 : Int32).toInt ≥ (2 : Int32).toInt) => by exfalso; revert hc41; decide)
            refine px_iconst (v := (0 : Int32)) S21 at_402 rfl rfl ?_
            refine px_icmp S21 at_403 (by decide) (pc' := 436) rfl rfl (fun (hc42 : ¬ (0 : Int32).toInt = (0 : Int32).toInt) => absurd rfl hc42) (fun (hc42 : (0 : Int32).toInt = (0 : Int32).toInt) => ?_)
            refine px_aload S21 at_406 rfl rfl rfl ?_
            refine px_aload S21 at_408 rfl rfl rfl ?_
            refine px_callV (Cn := "com/example/colonnade/colonnade/compress/HuffmanEncoder") (as' := [(.ref b13)]) (st := []) (W := 0) S21 (c_cost (a := a) (b := b) (c := c) hw S21.size X_t F_lengths_t A_l A_b13 (by omega) (by omega) (by omega) hz.out) X_t (hw _ (List.mem_of_getElem? (i := 47) rfl)) (hw _ (List.mem_of_getElem? (i := 48) rfl)) (hw _ (List.mem_of_getElem? (i := 50) rfl)) (hw _ (List.mem_of_getElem? (i := 49) rfl)) (hw _ (List.mem_of_getElem? (i := 3) rfl)) (hw _ (List.mem_of_getElem? (i := 51) rfl)) (S21.nf (hw _ (List.mem_of_getElem? (i := 50) rfl))) (by decide) pd_0_2 rfl rfl (by decide) rfl (by decide) (by decide) (by decide) at_410 rfl rfl (fun T43 h43 v43 S43 q43 => ?_)
            obtain ⟨r_, rfl⟩ := q43
            rw [fqa, fqb, fqc, la, lb, lc] at r_
            obtain rfl := r_
            show Go _ _ _ _ _ _ _ [(.long (((v7.toInt64 * (0 : Int32).toInt64) + (v8.toInt64 * (0 : Int32).toInt64)) + (i4.toInt64 * (0 : Int32).toInt64)))]
            refine px_lload S43 at_413 rfl rfl ?_
            refine px_lif S43 at_415 rfl at_416 (by decide) (pc' := 436) rfl rfl (fun (hc44 : ¬ (((v7.toInt64 * (0 : Int32).toInt64) + (v8.toInt64 * (0 : Int32).toInt64)) + (i4.toInt64 * (0 : Int32).toInt64)).toInt = (((v7.toInt64 * (0 : Int32).toInt64) + (v8.toInt64 * (0 : Int32).toInt64)) + (i4.toInt64 * (0 : Int32).toInt64)).toInt) => absurd rfl hc44) (fun (hc44 : (((v7.toInt64 * (0 : Int32).toInt64) + (v8.toInt64 * (0 : Int32).toInt64)) + (i4.toInt64 * (0 : Int32).toInt64)).toInt = (((v7.toInt64 * (0 : Int32).toInt64) + (v8.toInt64 * (0 : Int32).toInt64)) + (i4.toInt64 * (0 : Int32).toInt64)).toInt) => ?_)
            refine px_aload S43 at_419 rfl rfl rfl ?_
            refine px_aload S43 at_421 rfl rfl rfl ?_
            refine px_callV (Cn := "com/example/colonnade/colonnade/compress/HuffmanEncoder") (as' := [(.ref b9)]) (st := []) (W := 0) S43 (c_cost (a := a) (b := b) (c := c) hw S43.size X_t F_lengths_t A_l A_b9 (by omega) (by omega) (by omega) hz.out) X_t (hw _ (List.mem_of_getElem? (i := 47) rfl)) (hw _ (List.mem_of_getElem? (i := 48) rfl)) (hw _ (List.mem_of_getElem? (i := 50) rfl)) (hw _ (List.mem_of_getElem? (i := 49) rfl)) (hw _ (List.mem_of_getElem? (i := 3) rfl)) (hw _ (List.mem_of_getElem? (i := 51) rfl)) (S43.nf (hw _ (List.mem_of_getElem? (i := 50) rfl))) (by decide) pd_0_2 rfl rfl (by decide) rfl (by decide) (by decide) (by decide) at_423 rfl rfl (fun T45 h45 v45 S45 q45 => ?_)
            obtain ⟨r_, rfl⟩ := q45
            rw [foa, fob, foc, la, lb, lc] at r_
            obtain rfl := r_
            show Go _ _ _ _ _ _ _ [(.long (((v5.toInt64 * (0 : Int32).toInt64) + (v6.toInt64 * (0 : Int32).toInt64)) + (i2.toInt64 * (0 : Int32).toInt64)))]
            refine px_lload S45 at_426 rfl rfl ?_
            refine px_lif S45 at_428 rfl at_429 (by decide) (pc' := 436) rfl rfl (fun (hc46 : ¬ (((v5.toInt64 * (0 : Int32).toInt64) + (v6.toInt64 * (0 : Int32).toInt64)) + (i2.toInt64 * (0 : Int32).toInt64)).toInt = (((v5.toInt64 * (0 : Int32).toInt64) + (v6.toInt64 * (0 : Int32).toInt64)) + (i2.toInt64 * (0 : Int32).toInt64)).toInt) => absurd rfl hc46) (fun (hc46 : (((v5.toInt64 * (0 : Int32).toInt64) + (v6.toInt64 * (0 : Int32).toInt64)) + (i2.toInt64 * (0 : Int32).toInt64)).toInt = (((v5.toInt64 * (0 : Int32).toInt64) + (v6.toInt64 * (0 : Int32).toInt64)) + (i2.toInt64 * (0 : Int32).toInt64)).toInt) => ?_)
            refine px_iconst (v := (1 : Int32)) S45 at_432 rfl rfl ?_
            refine px_goto S45 at_433 (by decide) (pc' := 437) rfl ?_
            exact px_retN (t := .boolean) (z' := (1 : Int32)) S45 at_437 rfl (by simp) rfl (by decide) (by decide) (rfl)
        · refine px_iconst (v := (1 : Int32)) S21 at_186 rfl rfl ?_
          refine px_goto S21 at_187 (by decide) (pc' := 191) rfl ?_
          refine px_istore S21 at_191 rfl (L' := #[.val (.int i0), .val (.long i1), .second, .val (.int i2), .val (.long i3), .second, .val (.int i4), .val (.int i5), .val (.int v1), .val (.int v2), .val (.int v3), .val (.int v4), .val (.int v5), .val (.int v6), .val (.int v7), .val (.int v8), .val (.ref b9), .val (.ref b13), .val (.ref b19), .val (.int (0 : Int32)), .val (.int (0 : Int32)), .val (.int (1 : Int32)), .unset, .unset, .unset, .unset, .unset, .unset, .unset, .unset, .unset]) rfl ?_
          refine px_iloadN S21 at_193 rfl rfl ?_
          refine px_if0 S21 at_194 (by decide) (pc' := 201) rfl rfl (fun (hc47 : i2.toInt ≤ 0) => ?_) (fun (hc47 : i2.toInt > 0) => ?_)
          · refine px_iconst (v := (0 : Int32)) S21 at_201 rfl rfl ?_
            refine px_istore S21 at_202 rfl (L' := #[.val (.int i0), .val (.long i1), .second, .val (.int i2), .val (.long i3), .second, .val (.int i4), .val (.int i5), .val (.int v1), .val (.int v2), .val (.int v3), .val (.int v4), .val (.int v5), .val (.int v6), .val (.int v7), .val (.int v8), .val (.ref b9), .val (.ref b13), .val (.ref b19), .val (.int (0 : Int32)), .val (.int (0 : Int32)), .val (.int (1 : Int32)), .val (.int (0 : Int32)), .unset, .unset, .unset, .unset, .unset, .unset, .unset, .unset]) rfl ?_
            refine px_iload S21 at_204 rfl rfl ?_
            refine px_if0 S21 at_206 (by decide) (pc' := 213) rfl rfl (fun (hc48 : (0 : Int32).toInt = 0) => ?_) (fun (hc48 : ¬ (0 : Int32).toInt = 0) => by exfalso; revert hc48; decide)
            refine px_iconst (v := (0 : Int32)) S21 at_213 rfl rfl ?_
            refine px_iload S21 at_214 rfl rfl ?_
            refine px_if0 S21 at_216 (by decide) (pc' := 223) rfl rfl (fun (hc49 : (1 : Int32).toInt = 0) => by exfalso; revert hc49; decide) (fun (hc49 : ¬ (1 : Int32).toInt = 0) => ?_)
            refine px_iconst (v := (1 : Int32)) S21 at_219 rfl rfl ?_
            refine px_goto S21 at_220 (by decide) (pc' := 224) rfl ?_
            refine px_iadd S21 at_224 rfl ?_
            rw [show ((0 : Int32) + (1 : Int32)) = (1 : Int32) from by decide]
            refine px_iload S21 at_225 rfl rfl ?_
            refine px_if0 S21 at_227 (by decide) (pc' := 234) rfl rfl (fun (hc50 : (0 : Int32).toInt = 0) => ?_) (fun (hc50 : ¬ (0 : Int32).toInt = 0) => by exfalso; revert hc50; decide)
            refine px_iconst (v := (0 : Int32)) S21 at_234 rfl rfl ?_
            refine px_iadd S21 at_235 rfl ?_
            rw [show ((1 : Int32) + (0 : Int32)) = (1 : Int32) from by decide]
            refine px_istore S21 at_236 rfl (L' := #[.val (.int i0), .val (.long i1), .second, .val (.int i2), .val (.long i3), .second, .val (.int i4), .val (.int i5), .val (.int v1), .val (.int v2), .val (.int v3), .val (.int v4), .val (.int v5), .val (.int v6), .val (.int v7), .val (.int v8), .val (.ref b9), .val (.ref b13), .val (.ref b19), .val (.int (0 : Int32)), .val (.int (0 : Int32)), .val (.int (1 : Int32)), .val (.int (0 : Int32)), .val (.int (1 : Int32)), .unset, .unset, .unset, .unset, .unset, .unset, .unset]) rfl ?_
            refine px_iconst (v := (0 : Int32)) S21 at_238 rfl rfl ?_
            refine px_istore S21 at_239 rfl (L' := #[.val (.int i0), .val (.long i1), .second, .val (.int i2), .val (.long i3), .second, .val (.int i4), .val (.int i5), .val (.int v1), .val (.int v2), .val (.int v3), .val (.int v4), .val (.int v5), .val (.int v6), .val (.int v7), .val (.int v8), .val (.ref b9), .val (.ref b13), .val (.ref b19), .val (.int (0 : Int32)), .val (.int (0 : Int32)), .val (.int (1 : Int32)), .val (.int (0 : Int32)), .val (.int (1 : Int32)), .val (.int (0 : Int32)), .unset, .unset, .unset, .unset, .unset, .unset]) rfl ?_
            refine px_iconst (v := (0 : Int32)) S21 at_241 rfl rfl ?_
            refine px_istore S21 at_242 rfl (L' := #[.val (.int i0), .val (.long i1), .second, .val (.int i2), .val (.long i3), .second, .val (.int i4), .val (.int i5), .val (.int v1), .val (.int v2), .val (.int v3), .val (.int v4), .val (.int v5), .val (.int v6), .val (.int v7), .val (.int v8), .val (.ref b9), .val (.ref b13), .val (.ref b19), .val (.int (0 : Int32)), .val (.int (0 : Int32)), .val (.int (1 : Int32)), .val (.int (0 : Int32)), .val (.int (1 : Int32)), .val (.int (0 : Int32)), .val (.int (0 : Int32)), .unset, .unset, .unset, .unset, .unset]) rfl ?_
            refine px_iconst (v := (0 : Int32)) S21 at_244 rfl rfl ?_
            refine px_istore S21 at_245 rfl (L' := #[.val (.int i0), .val (.long i1), .second, .val (.int i2), .val (.long i3), .second, .val (.int i4), .val (.int i5), .val (.int v1), .val (.int v2), .val (.int v3), .val (.int v4), .val (.int v5), .val (.int v6), .val (.int v7), .val (.int v8), .val (.ref b9), .val (.ref b13), .val (.ref b19), .val (.int (0 : Int32)), .val (.int (0 : Int32)), .val (.int (1 : Int32)), .val (.int (0 : Int32)), .val (.int (1 : Int32)), .val (.int (0 : Int32)), .val (.int (0 : Int32)), .val (.int (0 : Int32)), .unset, .unset, .unset, .unset]) rfl ?_
            refine px_iload S21 at_247 rfl rfl ?_
            refine px_iconst (v := (2 : Int32)) S21 at_249 rfl rfl ?_
            refine px_icmp S21 at_250 (by decide) (pc' := 292) rfl rfl (fun (hc51 : ¬ (1 : Int32).toInt = (2 : Int32).toInt) => ?_) (fun (hc51 : (1 : Int32).toInt = (2 : Int32).toInt) => by exfalso; revert hc51; decide)
            refine px_iload S21 at_292 rfl rfl ?_
            refine px_iconst (v := (3 : Int32)) S21 at_294 rfl rfl ?_
            refine px_icmp S21 at_295 (by decide) (pc' := 341) rfl rfl (fun (hc52 : ¬ (1 : Int32).toInt = (3 : Int32).toInt) => ?_) (fun (hc52 : (1 : Int32).toInt = (3 : Int32).toInt) => by exfalso; revert hc52; decide)
            replace la : fl2 a = (0 : Int32) := i32_of la rfl
            replace lb : fl2 b = (0 : Int32) := i32_of lb rfl
            replace lc : fl2 c = (0 : Int32) := i32_of lc rfl
            refine px_iload S21 at_341 rfl rfl ?_
            refine px_i2l S21 at_343 rfl ?_
            refine px_iload S21 at_344 rfl rfl ?_
            refine px_i2l S21 at_346 rfl ?_
            refine px_lmul S21 at_347 rfl ?_
            refine px_iload S21 at_348 rfl rfl ?_
            refine px_i2l S21 at_350 rfl ?_
            refine px_iload S21 at_351 rfl rfl ?_
            refine px_i2l S21 at_353 rfl ?_
            refine px_lmul S21 at_354 rfl ?_
            refine px_ladd S21 at_355 rfl ?_
            refine px_iload S21 at_356 rfl rfl ?_
            refine px_i2l S21 at_358 rfl ?_
            refine px_iload S21 at_359 rfl rfl ?_
            refine px_i2l S21 at_361 rfl ?_
            refine px_lmul S21 at_362 rfl ?_
            refine px_ladd S21 at_363 rfl ?_
            refine px_lstore S21 at_364 rfl (L' := #[.val (.int i0), .val (.long i1), .second, .val (.int i2), .val (.long i3), .second, .val (.int i4), .val (.int i5), .val (.int v1), .val (.int v2), .val (.int v3), .val (.int v4), .val (.int v5), .val (.int v6), .val (.int v7), .val (.int v8), .val (.ref b9), .val (.ref b13), .val (.ref b19), .val (.int (0 : Int32)), .val (.int (0 : Int32)), .val (.int (1 : Int32)), .val (.int (0 : Int32)), .val (.int (1 : Int32)), .val (.int (0 : Int32)), .val (.int (0 : Int32)), .val (.int (0 : Int32)), .val (.long (((v7.toInt64 * (0 : Int32).toInt64) + (v8.toInt64 * (0 : Int32).toInt64)) + (i4.toInt64 * (0 : Int32).toInt64))), .second, .unset, .unset]) rfl ?_
            refine px_iload S21 at_366 rfl rfl ?_
            refine px_i2l S21 at_368 rfl ?_
            refine px_iload S21 at_369 rfl rfl ?_
            refine px_i2l S21 at_371 rfl ?_
            refine px_lmul S21 at_372 rfl ?_
            refine px_iload S21 at_373 rfl rfl ?_
            refine px_i2l S21 at_375 rfl ?_
            refine px_iload S21 at_376 rfl rfl ?_
            refine px_i2l S21 at_378 rfl ?_
            refine px_lmul S21 at_379 rfl ?_
            refine px_ladd S21 at_380 rfl ?_
            refine px_iloadN S21 at_381 rfl rfl ?_
            refine px_i2l S21 at_382 rfl ?_
            refine px_iload S21 at_383 rfl rfl ?_
            refine px_i2l S21 at_385 rfl ?_
            refine px_lmul S21 at_386 rfl ?_
            refine px_ladd S21 at_387 rfl ?_
            refine px_lstore S21 at_388 rfl (L' := #[.val (.int i0), .val (.long i1), .second, .val (.int i2), .val (.long i3), .second, .val (.int i4), .val (.int i5), .val (.int v1), .val (.int v2), .val (.int v3), .val (.int v4), .val (.int v5), .val (.int v6), .val (.int v7), .val (.int v8), .val (.ref b9), .val (.ref b13), .val (.ref b19), .val (.int (0 : Int32)), .val (.int (0 : Int32)), .val (.int (1 : Int32)), .val (.int (0 : Int32)), .val (.int (1 : Int32)), .val (.int (0 : Int32)), .val (.int (0 : Int32)), .val (.int (0 : Int32)), .val (.long (((v7.toInt64 * (0 : Int32).toInt64) + (v8.toInt64 * (0 : Int32).toInt64)) + (i4.toInt64 * (0 : Int32).toInt64))), .second, .val (.long (((v5.toInt64 * (0 : Int32).toInt64) + (v6.toInt64 * (0 : Int32).toInt64)) + (i2.toInt64 * (0 : Int32).toInt64))), .second]) rfl ?_
            refine px_iload S21 at_390 rfl rfl ?_
            refine px_iload S21 at_392 rfl rfl ?_
            refine px_iconst (v := (2 : Int32)) S21 at_394 rfl rfl ?_
            refine px_icmp S21 at_395 (by decide) (pc' := 402) rfl rfl (fun (hc53 : (1 : Int32).toInt < (2 : Int32).toInt) => ?_) (fun (hc53 : (1 : Int32).toInt ≥ (2 : Int32).toInt) => by exfalso; revert hc53; decide)
            refine px_iconst (v := (0 : Int32)) S21 at_402 rfl rfl ?_
            refine px_icmp S21 at_403 (by decide) (pc' := 436) rfl rfl (fun (hc54 : ¬ (0 : Int32).toInt = (0 : Int32).toInt) => absurd rfl hc54) (fun (hc54 : (0 : Int32).toInt = (0 : Int32).toInt) => ?_)
            refine px_aload S21 at_406 rfl rfl rfl ?_
            refine px_aload S21 at_408 rfl rfl rfl ?_
            refine px_callV (Cn := "com/example/colonnade/colonnade/compress/HuffmanEncoder") (as' := [(.ref b13)]) (st := []) (W := 0) S21 (c_cost (a := a) (b := b) (c := c) hw S21.size X_t F_lengths_t A_l A_b13 (by omega) (by omega) (by omega) hz.out) X_t (hw _ (List.mem_of_getElem? (i := 47) rfl)) (hw _ (List.mem_of_getElem? (i := 48) rfl)) (hw _ (List.mem_of_getElem? (i := 50) rfl)) (hw _ (List.mem_of_getElem? (i := 49) rfl)) (hw _ (List.mem_of_getElem? (i := 3) rfl)) (hw _ (List.mem_of_getElem? (i := 51) rfl)) (S21.nf (hw _ (List.mem_of_getElem? (i := 50) rfl))) (by decide) pd_0_2 rfl rfl (by decide) rfl (by decide) (by decide) (by decide) at_410 rfl rfl (fun T55 h55 v55 S55 q55 => ?_)
            obtain ⟨r_, rfl⟩ := q55
            rw [fqa, fqb, fqc, la, lb, lc] at r_
            obtain rfl := r_
            show Go _ _ _ _ _ _ _ [(.long (((v7.toInt64 * (0 : Int32).toInt64) + (v8.toInt64 * (0 : Int32).toInt64)) + (i4.toInt64 * (0 : Int32).toInt64)))]
            refine px_lload S55 at_413 rfl rfl ?_
            refine px_lif S55 at_415 rfl at_416 (by decide) (pc' := 436) rfl rfl (fun (hc56 : ¬ (((v7.toInt64 * (0 : Int32).toInt64) + (v8.toInt64 * (0 : Int32).toInt64)) + (i4.toInt64 * (0 : Int32).toInt64)).toInt = (((v7.toInt64 * (0 : Int32).toInt64) + (v8.toInt64 * (0 : Int32).toInt64)) + (i4.toInt64 * (0 : Int32).toInt64)).toInt) => absurd rfl hc56) (fun (hc56 : (((v7.toInt64 * (0 : Int32).toInt64) + (v8.toInt64 * (0 : Int32).toInt64)) + (i4.toInt64 * (0 : Int32).toInt64)).toInt = (((v7.toInt64 * (0 : Int32).toInt64) + (v8.toInt64 * (0 : Int32).toInt64)) + (i4.toInt64 * (0 : Int32).toInt64)).toInt) => ?_)
            refine px_aload S55 at_419 rfl rfl rfl ?_
            refine px_aload S55 at_421 rfl rfl rfl ?_
            refine px_callV (Cn := "com/example/colonnade/colonnade/compress/HuffmanEncoder") (as' := [(.ref b9)]) (st := []) (W := 0) S55 (c_cost (a := a) (b := b) (c := c) hw S55.size X_t F_lengths_t A_l A_b9 (by omega) (by omega) (by omega) hz.out) X_t (hw _ (List.mem_of_getElem? (i := 47) rfl)) (hw _ (List.mem_of_getElem? (i := 48) rfl)) (hw _ (List.mem_of_getElem? (i := 50) rfl)) (hw _ (List.mem_of_getElem? (i := 49) rfl)) (hw _ (List.mem_of_getElem? (i := 3) rfl)) (hw _ (List.mem_of_getElem? (i := 51) rfl)) (S55.nf (hw _ (List.mem_of_getElem? (i := 50) rfl))) (by decide) pd_0_2 rfl rfl (by decide) rfl (by decide) (by decide) (by decide) at_423 rfl rfl (fun T57 h57 v57 S57 q57 => ?_)
            obtain ⟨r_, rfl⟩ := q57
            rw [foa, fob, foc, la, lb, lc] at r_
            obtain rfl := r_
            show Go _ _ _ _ _ _ _ [(.long (((v5.toInt64 * (0 : Int32).toInt64) + (v6.toInt64 * (0 : Int32).toInt64)) + (i2.toInt64 * (0 : Int32).toInt64)))]
            refine px_lload S57 at_426 rfl rfl ?_
            refine px_lif S57 at_428 rfl at_429 (by decide) (pc' := 436) rfl rfl (fun (hc58 : ¬ (((v5.toInt64 * (0 : Int32).toInt64) + (v6.toInt64 * (0 : Int32).toInt64)) + (i2.toInt64 * (0 : Int32).toInt64)).toInt = (((v5.toInt64 * (0 : Int32).toInt64) + (v6.toInt64 * (0 : Int32).toInt64)) + (i2.toInt64 * (0 : Int32).toInt64)).toInt) => absurd rfl hc58) (fun (hc58 : (((v5.toInt64 * (0 : Int32).toInt64) + (v6.toInt64 * (0 : Int32).toInt64)) + (i2.toInt64 * (0 : Int32).toInt64)).toInt = (((v5.toInt64 * (0 : Int32).toInt64) + (v6.toInt64 * (0 : Int32).toInt64)) + (i2.toInt64 * (0 : Int32).toInt64)).toInt) => ?_)
            refine px_iconst (v := (1 : Int32)) S57 at_432 rfl rfl ?_
            refine px_goto S57 at_433 (by decide) (pc' := 437) rfl ?_
            exact px_retN (t := .boolean) (z' := (1 : Int32)) S57 at_437 rfl (by simp) rfl (by decide) (by decide) (rfl)
          · refine px_iconst (v := (1 : Int32)) S21 at_197 rfl rfl ?_
            refine px_goto S21 at_198 (by decide) (pc' := 202) rfl ?_
            refine px_istore S21 at_202 rfl (L' := #[.val (.int i0), .val (.long i1), .second, .val (.int i2), .val (.long i3), .second, .val (.int i4), .val (.int i5), .val (.int v1), .val (.int v2), .val (.int v3), .val (.int v4), .val (.int v5), .val (.int v6), .val (.int v7), .val (.int v8), .val (.ref b9), .val (.ref b13), .val (.ref b19), .val (.int (0 : Int32)), .val (.int (0 : Int32)), .val (.int (1 : Int32)), .val (.int (1 : Int32)), .unset, .unset, .unset, .unset, .unset, .unset, .unset, .unset]) rfl ?_
            exfalso; have u1 := hna.out; have u2 := hnb.out; have u3 := hnc.out; omega
      · refine px_iconst (v := (1 : Int32)) S21 at_174 rfl rfl ?_
        refine px_goto S21 at_175 (by decide) (pc' := 179) rfl ?_
        refine px_istore S21 at_179 rfl (L' := #[.val (.int i0), .val (.long i1), .second, .val (.int i2), .val (.long i3), .second, .val (.int i4), .val (.int i5), .val (.int v1), .val (.int v2), .val (.int v3), .val (.int v4), .val (.int v5), .val (.int v6), .val (.int v7), .val (.int v8), .val (.ref b9), .val (.ref b13), .val (.ref b19), .val (.int (0 : Int32)), .val (.int (1 : Int32)), .unset, .unset, .unset, .unset, .unset, .unset, .unset, .unset, .unset, .unset]) rfl ?_
        refine px_iload S21 at_181 rfl rfl ?_
        refine px_if0 S21 at_183 (by decide) (pc' := 190) rfl rfl (fun (hc59 : v6.toInt ≤ 0) => ?_) (fun (hc59 : v6.toInt > 0) => ?_)
        · refine px_iconst (v := (0 : Int32)) S21 at_190 rfl rfl ?_
          refine px_istore S21 at_191 rfl (L' := #[.val (.int i0), .val (.long i1), .second, .val (.int i2), .val (.long i3), .second, .val (.int i4), .val (.int i5), .val (.int v1), .val (.int v2), .val (.int v3), .val (.int v4), .val (.int v5), .val (.int v6), .val (.int v7), .val (.int v8), .val (.ref b9), .val (.ref b13), .val (.ref b19), .val (.int (0 : Int32)), .val (.int (1 : Int32)), .val (.int (0 : Int32)), .unset, .unset, .unset, .unset, .unset, .unset, .unset, .unset, .unset]) rfl ?_
          refine px_iloadN S21 at_193 rfl rfl ?_
          refine px_if0 S21 at_194 (by decide) (pc' := 201) rfl rfl (fun (hc60 : i2.toInt ≤ 0) => ?_) (fun (hc60 : i2.toInt > 0) => ?_)
          · refine px_iconst (v := (0 : Int32)) S21 at_201 rfl rfl ?_
            refine px_istore S21 at_202 rfl (L' := #[.val (.int i0), .val (.long i1), .second, .val (.int i2), .val (.long i3), .second, .val (.int i4), .val (.int i5), .val (.int v1), .val (.int v2), .val (.int v3), .val (.int v4), .val (.int v5), .val (.int v6), .val (.int v7), .val (.int v8), .val (.ref b9), .val (.ref b13), .val (.ref b19), .val (.int (0 : Int32)), .val (.int (1 : Int32)), .val (.int (0 : Int32)), .val (.int (0 : Int32)), .unset, .unset, .unset, .unset, .unset, .unset, .unset, .unset]) rfl ?_
            refine px_iload S21 at_204 rfl rfl ?_
            refine px_if0 S21 at_206 (by decide) (pc' := 213) rfl rfl (fun (hc61 : (1 : Int32).toInt = 0) => by exfalso; revert hc61; decide) (fun (hc61 : ¬ (1 : Int32).toInt = 0) => ?_)
            refine px_iconst (v := (1 : Int32)) S21 at_209 rfl rfl ?_
            refine px_goto S21 at_210 (by decide) (pc' := 214) rfl ?_
            refine px_iload S21 at_214 rfl rfl ?_
            refine px_if0 S21 at_216 (by decide) (pc' := 223) rfl rfl (fun (hc62 : (0 : Int32).toInt = 0) => ?_) (fun (hc62 : ¬ (0 : Int32).toInt = 0) => by exfalso; revert hc62; decide)
            refine px_iconst (v := (0 : Int32)) S21 at_223 rfl rfl ?_
            refine px_iadd S21 at_224 rfl ?_
            rw [show ((1 : Int32) + (0 : Int32)) = (1 : Int32) from by decide]
            refine px_iload S21 at_225 rfl rfl ?_
            refine px_if0 S21 at_227 (by decide) (pc' := 234) rfl rfl (fun (hc63 : (0 : Int32).toInt = 0) => ?_) (fun (hc63 : ¬ (0 : Int32).toInt = 0) => by exfalso; revert hc63; decide)
            refine px_iconst (v := (0 : Int32)) S21 at_234 rfl rfl ?_
            refine px_iadd S21 at_235 rfl ?_
            rw [show ((1 : Int32) + (0 : Int32)) = (1 : Int32) from by decide]
            refine px_istore S21 at_236 rfl (L' := #[.val (.int i0), .val (.long i1), .second, .val (.int i2), .val (.long i3), .second, .val (.int i4), .val (.int i5), .val (.int v1), .val (.int v2), .val (.int v3), .val (.int v4), .val (.int v5), .val (.int v6), .val (.int v7), .val (.int v8), .val (.ref b9), .val (.ref b13), .val (.ref b19), .val (.int (0 : Int32)), .val (.int (1 : Int32)), .val (.int (0 : Int32)), .val (.int (0 : Int32)), .val (.int (1 : Int32)), .unset, .unset, .unset, .unset, .unset, .unset, .unset]) rfl ?_
            refine px_iconst (v := (0 : Int32)) S21 at_238 rfl rfl ?_
            refine px_istore S21 at_239 rfl (L' := #[.val (.int i0), .val (.long i1), .second, .val (.int i2), .val (.long i3), .second, .val (.int i4), .val (.int i5), .val (.int v1), .val (.int v2), .val (.int v3), .val (.int v4), .val (.int v5), .val (.int v6), .val (.int v7), .val (.int v8), .val (.ref b9), .val (.ref b13), .val (.ref b19), .val (.int (0 : Int32)), .val (.int (1 : Int32)), .val (.int (0 : Int32)), .val (.int (0 : Int32)), .val (.int (1 : Int32)), .val (.int (0 : Int32)), .unset, .unset, .unset, .unset, .unset, .unset]) rfl ?_
            refine px_iconst (v := (0 : Int32)) S21 at_241 rfl rfl ?_
            refine px_istore S21 at_242 rfl (L' := #[.val (.int i0), .val (.long i1), .second, .val (.int i2), .val (.long i3), .second, .val (.int i4), .val (.int i5), .val (.int v1), .val (.int v2), .val (.int v3), .val (.int v4), .val (.int v5), .val (.int v6), .val (.int v7), .val (.int v8), .val (.ref b9), .val (.ref b13), .val (.ref b19), .val (.int (0 : Int32)), .val (.int (1 : Int32)), .val (.int (0 : Int32)), .val (.int (0 : Int32)), .val (.int (1 : Int32)), .val (.int (0 : Int32)), .val (.int (0 : Int32)), .unset, .unset, .unset, .unset, .unset]) rfl ?_
            refine px_iconst (v := (0 : Int32)) S21 at_244 rfl rfl ?_
            refine px_istore S21 at_245 rfl (L' := #[.val (.int i0), .val (.long i1), .second, .val (.int i2), .val (.long i3), .second, .val (.int i4), .val (.int i5), .val (.int v1), .val (.int v2), .val (.int v3), .val (.int v4), .val (.int v5), .val (.int v6), .val (.int v7), .val (.int v8), .val (.ref b9), .val (.ref b13), .val (.ref b19), .val (.int (0 : Int32)), .val (.int (1 : Int32)), .val (.int (0 : Int32)), .val (.int (0 : Int32)), .val (.int (1 : Int32)), .val (.int (0 : Int32)), .val (.int (0 : Int32)), .val (.int (0 : Int32)), .unset, .unset, .unset, .unset]) rfl ?_
            refine px_iload S21 at_247 rfl rfl ?_
            refine px_iconst (v := (2 : Int32)) S21 at_249 rfl rfl ?_
            refine px_icmp S21 at_250 (by decide) (pc' := 292) rfl rfl (fun (hc64 : ¬ (1 : Int32).toInt = (2 : Int32).toInt) => ?_) (fun (hc64 : (1 : Int32).toInt = (2 : Int32).toInt) => by exfalso; revert hc64; decide)
            refine px_iload S21 at_292 rfl rfl ?_
            refine px_iconst (v := (3 : Int32)) S21 at_294 rfl rfl ?_
            refine px_icmp S21 at_295 (by decide) (pc' := 341) rfl rfl (fun (hc65 : ¬ (1 : Int32).toInt = (3 : Int32).toInt) => ?_) (fun (hc65 : (1 : Int32).toInt = (3 : Int32).toInt) => by exfalso; revert hc65; decide)
            replace la : fl2 a = (0 : Int32) := i32_of la rfl
            replace lb : fl2 b = (0 : Int32) := i32_of lb rfl
            replace lc : fl2 c = (0 : Int32) := i32_of lc rfl
            refine px_iload S21 at_341 rfl rfl ?_
            refine px_i2l S21 at_343 rfl ?_
            refine px_iload S21 at_344 rfl rfl ?_
            refine px_i2l S21 at_346 rfl ?_
            refine px_lmul S21 at_347 rfl ?_
            refine px_iload S21 at_348 rfl rfl ?_
            refine px_i2l S21 at_350 rfl ?_
            refine px_iload S21 at_351 rfl rfl ?_
            refine px_i2l S21 at_353 rfl ?_
            refine px_lmul S21 at_354 rfl ?_
            refine px_ladd S21 at_355 rfl ?_
            refine px_iload S21 at_356 rfl rfl ?_
            refine px_i2l S21 at_358 rfl ?_
            refine px_iload S21 at_359 rfl rfl ?_
            refine px_i2l S21 at_361 rfl ?_
            refine px_lmul S21 at_362 rfl ?_
            refine px_ladd S21 at_363 rfl ?_
            refine px_lstore S21 at_364 rfl (L' := #[.val (.int i0), .val (.long i1), .second, .val (.int i2), .val (.long i3), .second, .val (.int i4), .val (.int i5), .val (.int v1), .val (.int v2), .val (.int v3), .val (.int v4), .val (.int v5), .val (.int v6), .val (.int v7), .val (.int v8), .val (.ref b9), .val (.ref b13), .val (.ref b19), .val (.int (0 : Int32)), .val (.int (1 : Int32)), .val (.int (0 : Int32)), .val (.int (0 : Int32)), .val (.int (1 : Int32)), .val (.int (0 : Int32)), .val (.int (0 : Int32)), .val (.int (0 : Int32)), .val (.long (((v7.toInt64 * (0 : Int32).toInt64) + (v8.toInt64 * (0 : Int32).toInt64)) + (i4.toInt64 * (0 : Int32).toInt64))), .second, .unset, .unset]) rfl ?_
            refine px_iload S21 at_366 rfl rfl ?_
            refine px_i2l S21 at_368 rfl ?_
            refine px_iload S21 at_369 rfl rfl ?_
            refine px_i2l S21 at_371 rfl ?_
            refine px_lmul S21 at_372 rfl ?_
            refine px_iload S21 at_373 rfl rfl ?_
            refine px_i2l S21 at_375 rfl ?_
            refine px_iload S21 at_376 rfl rfl ?_
            refine px_i2l S21 at_378 rfl ?_
            refine px_lmul S21 at_379 rfl ?_
            refine px_ladd S21 at_380 rfl ?_
            refine px_iloadN S21 at_381 rfl rfl ?_
            refine px_i2l S21 at_382 rfl ?_
            refine px_iload S21 at_383 rfl rfl ?_
            refine px_i2l S21 at_385 rfl ?_
            refine px_lmul S21 at_386 rfl ?_
            refine px_ladd S21 at_387 rfl ?_
            refine px_lstore S21 at_388 rfl (L' := #[.val (.int i0), .val (.long i1), .second, .val (.int i2), .val (.long i3), .second, .val (.int i4), .val (.int i5), .val (.int v1), .val (.int v2), .val (.int v3), .val (.int v4), .val (.int v5), .val (.int v6), .val (.int v7), .val (.int v8), .val (.ref b9), .val (.ref b13), .val (.ref b19), .val (.int (0 : Int32)), .val (.int (1 : Int32)), .val (.int (0 : Int32)), .val (.int (0 : Int32)), .val (.int (1 : Int32)), .val (.int (0 : Int32)), .val (.int (0 : Int32)), .val (.int (0 : Int32)), .val (.long (((v7.toInt64 * (0 : Int32).toInt64) + (v8.toInt64 * (0 : Int32).toInt64)) + (i4.toInt64 * (0 : Int32).toInt64))), .second, .val (.long (((v5.toInt64 * (0 : Int32).toInt64) + (v6.toInt64 * (0 : Int32).toInt64)) + (i2.toInt64 * (0 : Int32).toInt64))), .second]) rfl ?_
            refine px_iload S21 at_390 rfl rfl ?_
            refine px_iload S21 at_392 rfl rfl ?_
            refine px_iconst (v := (2 : Int32)) S21 at_394 rfl rfl ?_
            refine px_icmp S21 at_395 (by decide) (pc' := 402) rfl rfl (fun (hc66 : (1 : Int32).toInt < (2 : Int32).toInt) => ?_) (fun (hc66 : (1 : Int32).toInt ≥ (2 : Int32).toInt) => by exfalso; revert hc66; decide)
            refine px_iconst (v := (0 : Int32)) S21 at_402 rfl rfl ?_
            refine px_icmp S21 at_403 (by decide) (pc' := 436) rfl rfl (fun (hc67 : ¬ (0 : Int32).toInt = (0 : Int32).toInt) => absurd rfl hc67) (fun (hc67 : (0 : Int32).toInt = (0 : Int32).toInt) => ?_)
            refine px_aload S21 at_406 rfl rfl rfl ?_
            refine px_aload S21 at_408 rfl rfl rfl ?_
            refine px_callV (Cn := "com/example/colonnade/colonnade/compress/HuffmanEncoder") (as' := [(.ref b13)]) (st := []) (W := 0) S21 (c_cost (a := a) (b := b) (c := c) hw S21.size X_t F_lengths_t A_l A_b13 (by omega) (by omega) (by omega) hz.out) X_t (hw _ (List.mem_of_getElem? (i := 47) rfl)) (hw _ (List.mem_of_getElem? (i := 48) rfl)) (hw _ (List.mem_of_getElem? (i := 50) rfl)) (hw _ (List.mem_of_getElem? (i := 49) rfl)) (hw _ (List.mem_of_getElem? (i := 3) rfl)) (hw _ (List.mem_of_getElem? (i := 51) rfl)) (S21.nf (hw _ (List.mem_of_getElem? (i := 50) rfl))) (by decide) pd_0_2 rfl rfl (by decide) rfl (by decide) (by decide) (by decide) at_410 rfl rfl (fun T68 h68 v68 S68 q68 => ?_)
            obtain ⟨r_, rfl⟩ := q68
            rw [fqa, fqb, fqc, la, lb, lc] at r_
            obtain rfl := r_
            show Go _ _ _ _ _ _ _ [(.long (((v7.toInt64 * (0 : Int32).toInt64) + (v8.toInt64 * (0 : Int32).toInt64)) + (i4.toInt64 * (0 : Int32).toInt64)))]
            refine px_lload S68 at_413 rfl rfl ?_
            refine px_lif S68 at_415 rfl at_416 (by decide) (pc' := 436) rfl rfl (fun (hc69 : ¬ (((v7.toInt64 * (0 : Int32).toInt64) + (v8.toInt64 * (0 : Int32).toInt64)) + (i4.toInt64 * (0 : Int32).toInt64)).toInt = (((v7.toInt64 * (0 : Int32).toInt64) + (v8.toInt64 * (0 : Int32).toInt64)) + (i4.toInt64 * (0 : Int32).toInt64)).toInt) => absurd rfl hc69) (fun (hc69 : (((v7.toInt64 * (0 : Int32).toInt64) + (v8.toInt64 * (0 : Int32).toInt64)) + (i4.toInt64 * (0 : Int32).toInt64)).toInt = (((v7.toInt64 * (0 : Int32).toInt64) + (v8.toInt64 * (0 : Int32).toInt64)) + (i4.toInt64 * (0 : Int32).toInt64)).toInt) => ?_)
            refine px_aload S68 at_419 rfl rfl rfl ?_
            refine px_aload S68 at_421 rfl rfl rfl ?_
            refine px_callV (Cn := "com/example/colonnade/colonnade/compress/HuffmanEncoder") (as' := [(.ref b9)]) (st := []) (W := 0) S68 (c_cost (a := a) (b := b) (c := c) hw S68.size X_t F_lengths_t A_l A_b9 (by omega) (by omega) (by omega) hz.out) X_t (hw _ (List.mem_of_getElem? (i := 47) rfl)) (hw _ (List.mem_of_getElem? (i := 48) rfl)) (hw _ (List.mem_of_getElem? (i := 50) rfl)) (hw _ (List.mem_of_getElem? (i := 49) rfl)) (hw _ (List.mem_of_getElem? (i := 3) rfl)) (hw _ (List.mem_of_getElem? (i := 51) rfl)) (S68.nf (hw _ (List.mem_of_getElem? (i := 50) rfl))) (by decide) pd_0_2 rfl rfl (by decide) rfl (by decide) (by decide) (by decide) at_423 rfl rfl (fun T70 h70 v70 S70 q70 => ?_)
            obtain ⟨r_, rfl⟩ := q70
            rw [foa, fob, foc, la, lb, lc] at r_
            obtain rfl := r_
            show Go _ _ _ _ _ _ _ [(.long (((v5.toInt64 * (0 : Int32).toInt64) + (v6.toInt64 * (0 : Int32).toInt64)) + (i2.toInt64 * (0 : Int32).toInt64)))]
            refine px_lload S70 at_426 rfl rfl ?_
            refine px_lif S70 at_428 rfl at_429 (by decide) (pc' := 436) rfl rfl (fun (hc71 : ¬ (((v5.toInt64 * (0 : Int32).toInt64) + (v6.toInt64 * (0 : Int32).toInt64)) + (i2.toInt64 * (0 : Int32).toInt64)).toInt = (((v5.toInt64 * (0 : Int32).toInt64) + (v6.toInt64 * (0 : Int32).toInt64)) + (i2.toInt64 * (0 : Int32).toInt64)).toInt) => absurd rfl hc71) (fun (hc71 : (((v5.toInt64 * (0 : Int32).toInt64) + (v6.toInt64 * (0 : Int32).toInt64)) + (i2.toInt64 * (0 : Int32).toInt64)).toInt = (((v5.toInt64 * (0 : Int32).toInt64) + (v6.toInt64 * (0 : Int32).toInt64)) + (i2.toInt64 * (0 : Int32).toInt64)).toInt) => ?_)
            refine px_iconst (v := (1 : Int32)) S70 at_432 rfl rfl ?_
            refine px_goto S70 at_433 (by decide) (pc' := 437) rfl ?_
            exact px_retN (t := .boolean) (z' := (1 : Int32)) S70 at_437 rfl (by simp) rfl (by decide) (by decide) (rfl)
          · refine px_iconst (v := (1 : Int32)) S21 at_197 rfl rfl ?_
            refine px_goto S21 at_198 (by decide) (pc' := 202) rfl ?_
            refine px_istore S21 at_202 rfl (L' := #[.val (.int i0), .val (.long i1), .second, .val (.int i2), .val (.long i3), .second, .val (.int i4), .val (.int i5), .val (.int v1), .val (.int v2), .val (.int v3), .val (.int v4), .val (.int v5), .val (.int v6), .val (.int v7), .val (.int v8), .val (.ref b9), .val (.ref b13), .val (.ref b19), .val (.int (0 : Int32)), .val (.int (1 : Int32)), .val (.int (0 : Int32)), .val (.int (1 : Int32)), .unset, .unset, .unset, .unset, .unset, .unset, .unset, .unset]) rfl ?_
            exfalso; have u1 := hna.out; have u2 := hnb.out; have u3 := hnc.out; omega
        · refine px_iconst (v := (1 : Int32)) S21 at_186 rfl rfl ?_
          refine px_goto S21 at_187 (by decide) (pc' := 191) rfl ?_
          refine px_istore S21 at_191 rfl (L' := #[.val (.int i0), .val (.long i1), .second, .val (.int i2), .val (.long i3), .second, .val (.int i4), .val (.int i5), .val (.int v1), .val (.int v2), .val (.int v3), .val (.int v4), .val (.int v5), .val (.int v6), .val (.int v7), .val (.int v8), .val (.ref b9), .val (.ref b13), .val (.ref b19), .val (.int (0 : Int32)), .val (.int (1 : Int32)), .val (.int (1 : Int32)), .unset, .unset, .unset, .unset, .unset, .unset, .unset, .unset, .unset]) rfl ?_
          refine px_iloadN S21 at_193 rfl rfl ?_
          refine px_if0 S21 at_194 (by decide) (pc' := 201) rfl rfl (fun (hc72 : i2.toInt ≤ 0) => ?_) (fun (hc72 : i2.toInt > 0) => ?_)
          · refine px_iconst (v := (0 : Int32)) S21 at_201 rfl rfl ?_
            refine px_istore S21 at_202 rfl (L' := #[.val (.int i0), .val (.long i1), .second, .val (.int i2), .val (.long i3), .second, .val (.int i4), .val (.int i5), .val (.int v1), .val (.int v2), .val (.int v3), .val (.int v4), .val (.int v5), .val (.int v6), .val (.int v7), .val (.int v8), .val (.ref b9), .val (.ref b13), .val (.ref b19), .val (.int (0 : Int32)), .val (.int (1 : Int32)), .val (.int (1 : Int32)), .val (.int (0 : Int32)), .unset, .unset, .unset, .unset, .unset, .unset, .unset, .unset]) rfl ?_
            exfalso; have u1 := hna.out; have u2 := hnb.out; have u3 := hnc.out; omega
          · refine px_iconst (v := (1 : Int32)) S21 at_197 rfl rfl ?_
            refine px_goto S21 at_198 (by decide) (pc' := 202) rfl ?_
            refine px_istore S21 at_202 rfl (L' := #[.val (.int i0), .val (.long i1), .second, .val (.int i2), .val (.long i3), .second, .val (.int i4), .val (.int i5), .val (.int v1), .val (.int v2), .val (.int v3), .val (.int v4), .val (.int v5), .val (.int v6), .val (.int v7), .val (.int v8), .val (.ref b9), .val (.ref b13), .val (.ref b19), .val (.int (0 : Int32)), .val (.int (1 : Int32)), .val (.int (1 : Int32)), .val (.int (1 : Int32)), .unset, .unset, .unset, .unset, .unset, .unset, .unset, .unset]) rfl ?_
            exfalso; have u1 := hna.out; have u2 := hnb.out; have u3 := hnc.out; omega
    · show Go _ _ _ _ _ _ _ [(.int (1 : Int32))]
      refine px_istore S21 at_167 rfl (L' := #[.val (.int i0), .val (.long i1), .second, .val (.int i2), .val (.long i3), .second, .val (.int i4), .val (.int i5), .val (.int v1), .val (.int v2), .val (.int v3), .val (.int v4), .val (.int v5), .val (.int v6), .val (.int v7), .val (.int v8), .val (.ref b9), .val (.ref b13), .val (.ref b19), .val (.int (1 : Int32)), .unset, .unset, .unset, .unset, .unset, .unset, .unset, .unset, .unset, .unset, .unset]) rfl ?_
      refine px_iload S21 at_169 rfl rfl ?_
      refine px_if0 S21 at_171 (by decide) (pc' := 178) rfl rfl (fun (hc73 : v5.toInt ≤ 0) => ?_) (fun (hc73 : v5.toInt > 0) => ?_)
      · refine px_iconst (v := (0 : Int32)) S21 at_178 rfl rfl ?_
        refine px_istore S21 at_179 rfl (L' := #[.val (.int i0), .val (.long i1), .second, .val (.int i2), .val (.long i3), .second, .val (.int i4), .val (.int i5), .val (.int v1), .val (.int v2), .val (.int v3), .val (.int v4), .val (.int v5), .val (.int v6), .val (.int v7), .val (.int v8), .val (.ref b9), .val (.ref b13), .val (.ref b19), .val (.int (1 : Int32)), .val (.int (0 : Int32)), .unset, .unset, .unset, .unset, .unset, .unset, .unset, .unset, .unset, .unset]) rfl ?_
        refine px_iload S21 at_181 rfl rfl ?_
        refine px_if0 S21 at_183 (by decide) (pc' := 190) rfl rfl (fun (hc74 : v6.toInt ≤ 0) => ?_) (fun (hc74 : v6.toInt > 0) => ?_)
        · refine px_iconst (v := (0 : Int32)) S21 at_190 rfl rfl ?_
          refine px_istore S21 at_191 rfl (L' := #[.val (.int i0), .val (.long i1), .second, .val (.int i2), .val (.long i3), .second, .val (.int i4), .val (.int i5), .val (.int v1), .val (.int v2), .val (.int v3), .val (.int v4), .val (.int v5), .val (.int v6), .val (.int v7), .val (.int v8), .val (.ref b9), .val (.ref b13), .val (.ref b19), .val (.int (1 : Int32)), .val (.int (0 : Int32)), .val (.int (0 : Int32)), .unset, .unset, .unset, .unset, .unset, .unset, .unset, .unset, .unset]) rfl ?_
          refine px_iloadN S21 at_193 rfl rfl ?_
          refine px_if0 S21 at_194 (by decide) (pc' := 201) rfl rfl (fun (hc75 : i2.toInt ≤ 0) => ?_) (fun (hc75 : i2.toInt > 0) => ?_)
          · refine px_iconst (v := (0 : Int32)) S21 at_201 rfl rfl ?_
            refine px_istore S21 at_202 rfl (L' := #[.val (.int i0), .val (.long i1), .second, .val (.int i2), .val (.long i3), .second, .val (.int i4), .val (.int i5), .val (.int v1), .val (.int v2), .val (.int v3), .val (.int v4), .val (.int v5), .val (.int v6), .val (.int v7), .val (.int v8), .val (.ref b9), .val (.ref b13), .val (.ref b19), .val (.int (1 : Int32)), .val (.int (0 : Int32)), .val (.int (0 : Int32)), .val (.int (0 : Int32)), .unset, .unset, .unset, .unset, .unset, .unset, .unset, .unset]) rfl ?_
            exfalso; have u1 := hna.out; have u2 := hnb.out; have u3 := hnc.out; omega
          · refine px_iconst (v := (1 : Int32)) S21 at_197 rfl rfl ?_
            refine px_goto S21 at_198 (by decide) (pc' := 202) rfl ?_
            refine px_istore S21 at_202 rfl (L' := #[.val (.int i0), .val (.long i1), .second, .val (.int i2), .val (.long i3), .second, .val (.int i4), .val (.int i5), .val (.int v1), .val (.int v2), .val (.int v3), .val (.int v4), .val (.int v5), .val (.int v6), .val (.int v7), .val (.int v8), .val (.ref b9), .val (.ref b13), .val (.ref b19), .val (.int (1 : Int32)), .val (.int (0 : Int32)), .val (.int (0 : Int32)), .val (.int (1 : Int32)), .unset, .unset, .unset, .unset, .unset, .unset, .unset, .unset]) rfl ?_
            exfalso; have u1 := hna.out; have u2 := hnb.out; have u3 := hnc.out; omega
        · refine px_iconst (v := (1 : Int32)) S21 at_186 rfl rfl ?_
          refine px_goto S21 at_187 (by decide) (pc' := 191) rfl ?_
          refine px_istore S21 at_191 rfl (L' := #[.val (.int i0), .val (.long i1), .second, .val (.int i2), .val (.long i3), .second, .val (.int i4), .val (.int i5), .val (.int v1), .val (.int v2), .val (.int v3), .val (.int v4), .val (.int v5), .val (.int v6), .val (.int v7), .val (.int v8), .val (.ref b9), .val (.ref b13), .val (.ref b19), .val (.int (1 : Int32)), .val (.int (0 : Int32)), .val (.int (1 : Int32)), .unset, .unset, .unset, .unset, .unset, .unset, .unset, .unset, .unset]) rfl ?_
          refine px_iloadN S21 at_193 rfl rfl ?_
          refine px_if0 S21 at_194 (by decide) (pc' := 201) rfl rfl (fun (hc76 : i2.toInt ≤ 0) => ?_) (fun (hc76 : i2.toInt > 0) => ?_)
          · refine px_iconst (v := (0 : Int32)) S21 at_201 rfl rfl ?_
            refine px_istore S21 at_202 rfl (L' := #[.val (.int i0), .val (.long i1), .second, .val (.int i2), .val (.long i3), .second, .val (.int i4), .val (.int i5), .val (.int v1), .val (.int v2), .val (.int v3), .val (.int v4), .val (.int v5), .val (.int v6), .val (.int v7), .val (.int v8), .val (.ref b9), .val (.ref b13), .val (.ref b19), .val (.int (1 : Int32)), .val (.int (0 : Int32)), .val (.int (1 : Int32)), .val (.int (0 : Int32)), .unset, .unset, .unset, .unset, .unset, .unset, .unset, .unset]) rfl ?_
            exfalso; have u1 := hna.out; have u2 := hnb.out; have u3 := hnc.out; omega
          · refine px_iconst (v := (1 : Int32)) S21 at_197 rfl rfl ?_
            refine px_goto S21 at_198 (by decide) (pc' := 202) rfl ?_
            refine px_istore S21 at_202 rfl (L' := #[.val (.int i0), .val (.long i1), .second, .val (.int i2), .val (.long i3), .second, .val (.int i4), .val (.int i5), .val (.int v1), .val (.int v2), .val (.int v3), .val (.int v4), .val (.int v5), .val (.int v6), .val (.int v7), .val (.int v8), .val (.ref b9), .val (.ref b13), .val (.ref b19), .val (.int (1 : Int32)), .val (.int (0 : Int32)), .val (.int (1 : Int32)), .val (.int (1 : Int32)), .unset, .unset, .unset, .unset, .unset, .unset, .unset, .unset]) rfl ?_
            refine px_iload S21 at_204 rfl rfl ?_
            refine px_if0 S21 at_206 (by decide) (pc' := 213) rfl rfl (fun (hc77 : (0 : Int32).toInt = 0) => ?_) (fun (hc77 : ¬ (0 : Int32).toInt = 0) => by exfalso; revert hc77; decide)
            refine px_iconst (v := (0 : Int32)) S21 at_213 rfl rfl ?_
            refine px_iload S21 at_214 rfl rfl ?_
            refine px_if0 S21 at_216 (by decide) (pc' := 223) rfl rfl (fun (hc78 : (1 : Int32).toInt = 0) => by exfalso; revert hc78; decide) (fun (hc78 : ¬ (1 : Int32).toInt = 0) => ?_)
            refine px_iconst (v := (1 : Int32)) S21 at_219 rfl rfl ?_
            refine px_goto S21 at_220 (by decide) (pc' := 224) rfl ?_
            refine px_iadd S21 at_224 rfl ?_
            rw [show ((0 : Int32) + (1 : Int32)) = (1 : Int32) from by decide]
            refine px_iload S21 at_225 rfl rfl ?_
            refine px_if0 S21 at_227 (by decide) (pc' := 234) rfl rfl (fun (hc79 : (1 : Int32).toInt = 0) => by exfalso; revert hc79; decide) (fun (hc79 : ¬ (1 : Int32).toInt = 0) => ?_)
            refine px_iconst (v := (1 : Int32)) S21 at_230 rfl rfl ?_
            refine px_goto S21 at_231 (by decide) (pc' := 235) rfl ?_
            refine px_iadd S21 at_235 rfl ?_
            rw [show ((1 : Int32) + (1 : Int32)) = (2 : Int32) from by decide]
            refine px_istore S21 at_236 rfl (L' := #[.val (.int i0), .val (.long i1), .second, .val (.int i2), .val (.long i3), .second, .val (.int i4), .val (.int i5), .val (.int v1), .val (.int v2), .val (.int v3), .val (.int v4), .val (.int v5), .val (.int v6), .val (.int v7), .val (.int v8), .val (.ref b9), .val (.ref b13), .val (.ref b19), .val (.int (1 : Int32)), .val (.int (0 : Int32)), .val (.int (1 : Int32)), .val (.int (1 : Int32)), .val (.int (2 : Int32)), .unset, .unset, .unset, .unset, .unset, .unset, .unset]) rfl ?_
            refine px_iconst (v := (0 : Int32)) S21 at_238 rfl rfl ?_
            refine px_istore S21 at_239 rfl (L' := #[.val (.int i0), .val (.long i1), .second, .val (.int i2), .val (.long i3), .second, .val (.int i4), .val (.int i5), .val (.int v1), .val (.int v2), .val (.int v3), .val (.int v4), .val (.int v5), .val (.int v6), .val (.int v7), .val (.int v8), .val (.ref b9), .val (.ref b13), .val (.ref b19), .val (.int (1 : Int32)), .val (.int (0 : Int32)), .val (.int (1 : Int32)), .val (.int (1 : Int32)), .val (.int (2 : Int32)), .val (.int (0 : Int32)), .unset, .unset, .unset, .unset, .unset, .unset]) rfl ?_
            refine px_iconst (v := (0 : Int32)) S21 at_241 rfl rfl ?_
            refine px_istore S21 at_242 rfl (L' := #[.val (.int i0), .val (.long i1), .second, .val (.int i2), .val (.long i3), .second, .val (.int i4), .val (.int i5), .val (.int v1), .val (.int v2), .val (.int v3), .val (.int v4), .val (.int v5), .val (.int v6), .val (.int v7), .val (.int v8), .val (.ref b9), .val (.ref b13), .val (.ref b19), .val (.int (1 : Int32)), .val (.int (0 : Int32)), .val (.int (1 : Int32)), .val (.int (1 : Int32)), .val (.int (2 : Int32)), .val (.int (0 : Int32)), .val (.int (0 : Int32)), .unset, .unset, .unset, .unset, .unset]) rfl ?_
            refine px_iconst (v := (0 : Int32)) S21 at_244 rfl rfl ?_
            refine px_istore S21 at_245 rfl (L' := #[.val (.int i0), .val (.long i1), .second, .val (.int i2), .val (.long i3), .second, .val (.int i4), .val (.int i5), .val (.int v1), .val (.int v2), .val (.int v3), .val (.int v4), .val (.int v5), .val (.int v6), .val (.int v7), .val (.int v8), .val (.ref b9), .val (.ref b13), .val (.ref b19), .val (.int (1 : Int32)), .val (.int (0 : Int32)), .val (.int (1 : Int32)), .val (.int (1 : Int32)), .val (.int (2 : Int32)), .val (.int (0 : Int32)), .val (.int (0 : Int32)), .val (.int (0 : Int32)), .unset, .unset, .unset, .unset]) rfl ?_
            refine px_iload S21 at_247 rfl rfl ?_
            refine px_iconst (v := (2 : Int32)) S21 at_249 rfl rfl ?_
            refine px_icmp S21 at_250 (by decide) (pc' := 292) rfl rfl (fun (hc80 : ¬ (2 : Int32).toInt = (2 : Int32).toInt) => absurd rfl hc80) (fun (hc80 : (2 : Int32).toInt = (2 : Int32).toInt) => ?_)
            refine px_iload S21 at_253 rfl rfl ?_
            refine px_if0 S21 at_255 (by decide) (pc' := 262) rfl rfl (fun (hc81 : (0 : Int32).toInt = 0) => ?_) (fun (hc81 : ¬ (0 : Int32).toInt = 0) => by exfalso; revert hc81; decide)
            refine px_iconst (v := (0 : Int32)) S21 at_262 rfl rfl ?_
            refine px_istore S21 at_263 rfl (L' := #[.val (.int i0), .val (.long i1), .second, .val (.int i2), .val (.long i3), .second, .val (.int i4), .val (.int i5), .val (.int v1), .val (.int v2), .val (.int v3), .val (.int v4), .val (.int v5), .val (.int v6), .val (.int v7), .val (.int v8), .val (.ref b9), .val (.ref b13), .val (.ref b19), .val (.int (1 : Int32)), .val (.int (0 : Int32)), .val (.int (1 : Int32)), .val (.int (1 : Int32)), .val (.int (2 : Int32)), .val (.int (0 : Int32)), .val (.int (0 : Int32)), .val (.int (0 : Int32)), .unset, .unset, .unset, .unset]) rfl ?_
            refine px_iload S21 at_265 rfl rfl ?_
            refine px_if0 S21 at_267 (by decide) (pc' := 274) rfl rfl (fun (hc82 : (1 : Int32).toInt = 0) => by exfalso; revert hc82; decide) (fun (hc82 : ¬ (1 : Int32).toInt = 0) => ?_)
            refine px_iconst (v := (1 : Int32)) S21 at_270 rfl rfl ?_
            refine px_goto S21 at_271 (by decide) (pc' := 275) rfl ?_
            refine px_istore S21 at_275 rfl (L' := #[.val (.int i0), .val (.long i1), .second, .val (.int i2), .val (.long i3), .second, .val (.int i4), .val (.int i5), .val (.int v1), .val (.int v2), .val (.int v3), .val (.int v4), .val (.int v5), .val (.int v6), .val (.int v7), .val (.int v8), .val (.ref b9), .val (.ref b13), .val (.ref b19), .val (.int (1 : Int32)), .val (.int (0 : Int32)), .val (.int (1 : Int32)), .val (.int (1 : Int32)), .val (.int (2 : Int32)), .val (.int (0 : Int32)), .val (.int (1 : Int32)), .val (.int (0 : Int32)), .unset, .unset, .unset, .unset]) rfl ?_
            refine px_iload S21 at_277 rfl rfl ?_
            refine px_if0 S21 at_279 (by decide) (pc' := 286) rfl rfl (fun (hc83 : (1 : Int32).toInt = 0) => by exfalso; revert hc83; decide) (fun (hc83 : ¬ (1 : Int32).toInt = 0) => ?_)
            refine px_iconst (v := (1 : Int32)) S21 at_282 rfl rfl ?_
            refine px_goto S21 at_283 (by decide) (pc' := 287) rfl ?_
            refine px_istore S21 at_287 rfl (L' := #[.val (.int i0), .val (.long i1), .second, .val (.int i2), .val (.long i3), .second, .val (.int i4), .val (.int i5), .val (.int v1), .val (.int v2), .val (.int v3), .val (.int v4), .val (.int v5), .val (.int v6), .val (.int v7), .val (.int v8), .val (.ref b9), .val (.ref b13), .val (.ref b19), .val (.int (1 : Int32)), .val (.int (0 : Int32)), .val (.int (1 : Int32)), .val (.int (1 : Int32)), .val (.int (2 : Int32)), .val (.int (0 : Int32)), .val (.int (1 : Int32)), .val (.int (1 : Int32)), .unset, .unset, .unset, .unset]) rfl ?_
            refine px_goto S21 at_289 (by decide) (pc' := 341) rfl ?_
            obtain ⟨la, lb, lc⟩ : (fl2 a).toInt = 0 ∧ (fl2 b).toInt = 1 ∧ (fl2 c).toInt = 1 := by have u1 := hna.out; have u2 := hnb.out; have u3 := hnc.out; unfold LenP at hL; omega
            replace la : fl2 a = (0 : Int32) := i32_of la rfl
            replace lb : fl2 b = (1 : Int32) := i32_of lb rfl
            replace lc : fl2 c = (1 : Int32) := i32_of lc rfl
            refine px_iload S21 at_341 rfl rfl ?_
            refine px_i2l S21 at_343 rfl ?_
            refine px_iload S21 at_344 rfl rfl ?_
            refine px_i2l S21 at_346 rfl ?_
            refine px_lmul S21 at_347 rfl ?_
            refine px_iload S21 at_348 rfl rfl ?_
            refine px_i2l S21 at_350 rfl ?_
            refine px_iload S21 at_351 rfl rfl ?_
            refine px_i2l S21 at_353 rfl ?_
            refine px_lmul S21 at_354 rfl ?_
            refine px_ladd S21 at_355 rfl ?_
            refine px_iload S21 at_356 rfl rfl ?_
            refine px_i2l S21 at_358 rfl ?_
            refine px_iload S21 at_359 rfl rfl ?_
            refine px_i2l S21 at_361 rfl ?_
            refine px_lmul S21 at_362 rfl ?_
            refine px_ladd S21 at_363 rfl ?_
            refine px_lstore S21 at_364 rfl (L' := #[.val (.int i0), .val (.long i1), .second, .val (.int i2), .val (.long i3), .second, .val (.int i4), .val (.int i5), .val (.int v1), .val (.int v2), .val (.int v3), .val (.int v4), .val (.int v5), .val (.int v6), .val (.int v7), .val (.int v8), .val (.ref b9), .val (.ref b13), .val (.ref b19), .val (.int (1 : Int32)), .val (.int (0 : Int32)), .val (.int (1 : Int32)), .val (.int (1 : Int32)), .val (.int (2 : Int32)), .val (.int (0 : Int32)), .val (.int (1 : Int32)), .val (.int (1 : Int32)), .val (.long (((v7.toInt64 * (0 : Int32).toInt64) + (v8.toInt64 * (1 : Int32).toInt64)) + (i4.toInt64 * (1 : Int32).toInt64))), .second, .unset, .unset]) rfl ?_
            refine px_iload S21 at_366 rfl rfl ?_
            refine px_i2l S21 at_368 rfl ?_
            refine px_iload S21 at_369 rfl rfl ?_
            refine px_i2l S21 at_371 rfl ?_
            refine px_lmul S21 at_372 rfl ?_
            refine px_iload S21 at_373 rfl rfl ?_
            refine px_i2l S21 at_375 rfl ?_
            refine px_iload S21 at_376 rfl rfl ?_
            refine px_i2l S21 at_378 rfl ?_
            refine px_lmul S21 at_379 rfl ?_
            refine px_ladd S21 at_380 rfl ?_
            refine px_iloadN S21 at_381 rfl rfl ?_
            refine px_i2l S21 at_382 rfl ?_
            refine px_iload S21 at_383 rfl rfl ?_
            refine px_i2l S21 at_385 rfl ?_
            refine px_lmul S21 at_386 rfl ?_
            refine px_ladd S21 at_387 rfl ?_
            refine px_lstore S21 at_388 rfl (L' := #[.val (.int i0), .val (.long i1), .second, .val (.int i2), .val (.long i3), .second, .val (.int i4), .val (.int i5), .val (.int v1), .val (.int v2), .val (.int v3), .val (.int v4), .val (.int v5), .val (.int v6), .val (.int v7), .val (.int v8), .val (.ref b9), .val (.ref b13), .val (.ref b19), .val (.int (1 : Int32)), .val (.int (0 : Int32)), .val (.int (1 : Int32)), .val (.int (1 : Int32)), .val (.int (2 : Int32)), .val (.int (0 : Int32)), .val (.int (1 : Int32)), .val (.int (1 : Int32)), .val (.long (((v7.toInt64 * (0 : Int32).toInt64) + (v8.toInt64 * (1 : Int32).toInt64)) + (i4.toInt64 * (1 : Int32).toInt64))), .second, .val (.long (((v5.toInt64 * (0 : Int32).toInt64) + (v6.toInt64 * (1 : Int32).toInt64)) + (i2.toInt64 * (1 : Int32).toInt64))), .second]) rfl ?_
            refine px_iload S21 at_390 rfl rfl ?_
            refine px_iload S21 at_392 rfl rfl ?_
            refine px_iconst (v := (2 : Int32)) S21 at_394 rfl rfl ?_
            refine px_icmp S21 at_395 (by decide) (pc' := 402) rfl rfl (fun (hc84 : (2 : Int32).toInt < (2 : Int32).toInt) => by exfalso; revert hc84; decide) (fun (hc84 : (2 : Int32).toInt ≥ (2 : Int32).toInt) => ?_)
            refine px_iconst (v := (1 : Int32)) S21 at_398 rfl rfl ?_
            refine px_goto S21 at_399 (by decide) (pc' := 403) rfl ?_
            refine px_icmp S21 at_403 (by decide) (pc' := 436) rfl rfl (fun (hc85 : ¬ (1 : Int32).toInt = (1 : Int32).toInt) => absurd rfl hc85) (fun (hc85 : (1 : Int32).toInt = (1 : Int32).toInt) => ?_)
            refine px_aload S21 at_406 rfl rfl rfl ?_
            refine px_aload S21 at_408 rfl rfl rfl ?_
            refine px_callV (Cn := "com/example/colonnade/colonnade/compress/HuffmanEncoder") (as' := [(.ref b13)]) (st := []) (W := 0) S21 (c_cost (a := a) (b := b) (c := c) hw S21.size X_t F_lengths_t A_l A_b13 (by omega) (by omega) (by omega) hz.out) X_t (hw _ (List.mem_of_getElem? (i := 47) rfl)) (hw _ (List.mem_of_getElem? (i := 48) rfl)) (hw _ (List.mem_of_getElem? (i := 50) rfl)) (hw _ (List.mem_of_getElem? (i := 49) rfl)) (hw _ (List.mem_of_getElem? (i := 3) rfl)) (hw _ (List.mem_of_getElem? (i := 51) rfl)) (S21.nf (hw _ (List.mem_of_getElem? (i := 50) rfl))) (by decide) pd_0_2 rfl rfl (by decide) rfl (by decide) (by decide) (by decide) at_410 rfl rfl (fun T86 h86 v86 S86 q86 => ?_)
            obtain ⟨r_, rfl⟩ := q86
            rw [fqa, fqb, fqc, la, lb, lc] at r_
            obtain rfl := r_
            show Go _ _ _ _ _ _ _ [(.long (((v7.toInt64 * (0 : Int32).toInt64) + (v8.toInt64 * (1 : Int32).toInt64)) + (i4.toInt64 * (1 : Int32).toInt64)))]
            refine px_lload S86 at_413 rfl rfl ?_
            refine px_lif S86 at_415 rfl at_416 (by decide) (pc' := 436) rfl rfl (fun (hc87 : ¬ (((v7.toInt64 * (0 : Int32).toInt64) + (v8.toInt64 * (1 : Int32).toInt64)) + (i4.toInt64 * (1 : Int32).toInt64)).toInt = (((v7.toInt64 * (0 : Int32).toInt64) + (v8.toInt64 * (1 : Int32).toInt64)) + (i4.toInt64 * (1 : Int32).toInt64)).toInt) => absurd rfl hc87) (fun (hc87 : (((v7.toInt64 * (0 : Int32).toInt64) + (v8.toInt64 * (1 : Int32).toInt64)) + (i4.toInt64 * (1 : Int32).toInt64)).toInt = (((v7.toInt64 * (0 : Int32).toInt64) + (v8.toInt64 * (1 : Int32).toInt64)) + (i4.toInt64 * (1 : Int32).toInt64)).toInt) => ?_)
            refine px_aload S86 at_419 rfl rfl rfl ?_
            refine px_aload S86 at_421 rfl rfl rfl ?_
            refine px_callV (Cn := "com/example/colonnade/colonnade/compress/HuffmanEncoder") (as' := [(.ref b9)]) (st := []) (W := 0) S86 (c_cost (a := a) (b := b) (c := c) hw S86.size X_t F_lengths_t A_l A_b9 (by omega) (by omega) (by omega) hz.out) X_t (hw _ (List.mem_of_getElem? (i := 47) rfl)) (hw _ (List.mem_of_getElem? (i := 48) rfl)) (hw _ (List.mem_of_getElem? (i := 50) rfl)) (hw _ (List.mem_of_getElem? (i := 49) rfl)) (hw _ (List.mem_of_getElem? (i := 3) rfl)) (hw _ (List.mem_of_getElem? (i := 51) rfl)) (S86.nf (hw _ (List.mem_of_getElem? (i := 50) rfl))) (by decide) pd_0_2 rfl rfl (by decide) rfl (by decide) (by decide) (by decide) at_423 rfl rfl (fun T88 h88 v88 S88 q88 => ?_)
            obtain ⟨r_, rfl⟩ := q88
            rw [foa, fob, foc, la, lb, lc] at r_
            obtain rfl := r_
            show Go _ _ _ _ _ _ _ [(.long (((v5.toInt64 * (0 : Int32).toInt64) + (v6.toInt64 * (1 : Int32).toInt64)) + (i2.toInt64 * (1 : Int32).toInt64)))]
            refine px_lload S88 at_426 rfl rfl ?_
            refine px_lif S88 at_428 rfl at_429 (by decide) (pc' := 436) rfl rfl (fun (hc89 : ¬ (((v5.toInt64 * (0 : Int32).toInt64) + (v6.toInt64 * (1 : Int32).toInt64)) + (i2.toInt64 * (1 : Int32).toInt64)).toInt = (((v5.toInt64 * (0 : Int32).toInt64) + (v6.toInt64 * (1 : Int32).toInt64)) + (i2.toInt64 * (1 : Int32).toInt64)).toInt) => absurd rfl hc89) (fun (hc89 : (((v5.toInt64 * (0 : Int32).toInt64) + (v6.toInt64 * (1 : Int32).toInt64)) + (i2.toInt64 * (1 : Int32).toInt64)).toInt = (((v5.toInt64 * (0 : Int32).toInt64) + (v6.toInt64 * (1 : Int32).toInt64)) + (i2.toInt64 * (1 : Int32).toInt64)).toInt) => ?_)
            refine px_iconst (v := (1 : Int32)) S88 at_432 rfl rfl ?_
            refine px_goto S88 at_433 (by decide) (pc' := 437) rfl ?_
            exact px_retN (t := .boolean) (z' := (1 : Int32)) S88 at_437 rfl (by simp) rfl (by decide) (by decide) (rfl)
      · refine px_iconst (v := (1 : Int32)) S21 at_174 rfl rfl ?_
        refine px_goto S21 at_175 (by decide) (pc' := 179) rfl ?_
        refine px_istore S21 at_179 rfl (L' := #[.val (.int i0), .val (.long i1), .second, .val (.int i2), .val (.long i3), .second, .val (.int i4), .val (.int i5), .val (.int v1), .val (.int v2), .val (.int v3), .val (.int v4), .val (.int v5), .val (.int v6), .val (.int v7), .val (.int v8), .val (.ref b9), .val (.ref b13), .val (.ref b19), .val (.int (1 : Int32)), .val (.int (1 : Int32)), .unset, .unset, .unset, .unset, .unset, .unset, .unset, .unset, .unset, .unset]) rfl ?_
        refine px_iload S21 at_181 rfl rfl ?_
        refine px_if0 S21 at_183 (by decide) (pc' := 190) rfl rfl (fun (hc90 : v6.toInt ≤ 0) => ?_) (fun (hc90 : v6.toInt > 0) => ?_)
        · refine px_iconst (v := (0 : Int32)) S21 at_190 rfl rfl ?_
          refine px_istore S21 at_191 rfl (L' := #[.val (.int i0), .val (.long i1), .second, .val (.int i2), .val (.long i3), .second, .val (.int i4), .val (.int i5), .val (.int v1), .val (.int v2), .val (.int v3), .val (.int v4), .val (.int v5), .val (.int v6), .val (.int v7), .val (.int v8), .val (.ref b9), .val (.ref b13), .val (.ref b19), .val (.int (1 : Int32)), .val (.int (1 : Int32)), .val (.int (0 : Int32)), .unset, .unset, .unset, .unset, .unset, .unset, .unset, .unset, .unset]) rfl ?_
          refine px_iloadN S21 at_193 rfl rfl ?_
          refine px_if0 S21 at_194 (by decide) (pc' := 201) rfl rfl (fun (hc91 : i2.toInt ≤ 0) => ?_) (fun (hc91 : i2.toInt > 0) => ?_)
          · refine px_iconst (v := (0 : Int32)) S21 at_201 rfl rfl ?_
            refine px_istore S21 at_202 rfl (L' := #[.val (.int i0), .val (.long i1), .second, .val (.int i2), .val (.long i3), .second, .val (.int i4), .val (.int i5), .val (.int v1), .val (.int v2), .val (.int v3), .val (.int v4), .val (.int v5), .val (.int v6), .val (.int v7), .val (.int v8), .val (.ref b9), .val (.ref b13), .val (.ref b19), .val (.int (1 : Int32)), .val (.int (1 : Int32)), .val (.int (0 : Int32)), .val (.int (0 : Int32)), .unset, .unset, .unset, .unset, .unset, .unset, .unset, .unset]) rfl ?_
            exfalso; have u1 := hna.out; have u2 := hnb.out; have u3 := hnc.out; omega
          · refine px_iconst (v := (1 : Int32)) S21 at_197 rfl rfl ?_
            refine px_goto S21 at_198 (by decide) (pc' := 202) rfl ?_
            refine px_istore S21 at_202 rfl (L' := #[.val (.int i0), .val (.long i1), .second, .val (.int i2), .val (.long i3), .second, .val (.int i4), .val (.int i5), .val (.int v1), .val (.int v2), .val (.int v3), .val (.int v4), .val (.int v5), .val (.int v6), .val (.int v7), .val (.int v8), .val (.ref b9), .val (.ref b13), .val (.ref b19), .val (.int (1 : Int32)), .val (.int (1 : Int32)), .val (.int (0 : Int32)), .val (.int (1 : Int32)), .unset, .unset, .unset, .unset, .unset, .unset, .unset, .unset]) rfl ?_
            refine px_iload S21 at_204 rfl rfl ?_
            refine px_if0 S21 at_206 (by decide) (pc' := 213) rfl rfl (fun (hc92 : (1 : Int32).toInt = 0) => by exfalso; revert hc92; decide) (fun (hc92 : ¬ (1 : Int32).toInt = 0) => ?_)
            refine px_iconst (v := (1 : Int32)) S21 at_209 rfl rfl ?_
            refine px_goto S21 at_210 (by decide) (pc' := 214) rfl ?_
            refine px_iload S21 at_214 rfl rfl ?_
            refine px_if0 S21 at_216 (by decide) (pc' := 223) rfl rfl (fun (hc93 : (0 : Int32).toInt = 0) => ?_) (fun (hc93 : ¬ (0 : Int32).toInt = 0) => by exfalso; revert hc93; decide)
            refine px_iconst (v := (0 : Int32)) S21 at_223 rfl rfl ?_
            refine px_iadd S21 at_224 rfl ?_
            rw [show ((1 : Int32) + (0 : Int32)) = (1 : Int32) from by decide]
            refine px_iload S21 at_225 rfl rfl ?_
            refine px_if0 S21 at_227 (by decide) (pc' := 234) rfl rfl (fun (hc94 : (1 : Int32).toInt = 0) => by exfalso; revert hc94; decide) (fun (hc94 : ¬ (1 : Int32).toInt = 0) => ?_)
            refine px_iconst (v := (1 : Int32)) S21 at_230 rfl rfl ?_
            refine px_goto S21 at_231 (by decide) (pc' := 235) rfl ?_
            refine px_iadd S21 at_235 rfl ?_
            rw [show ((1 : Int32) + (1 : Int32)) = (2 : Int32) from by decide]
            refine px_istore S21 at_236 rfl (L' := #[.val (.int i0), .val (.long i1), .second, .val (.int i2), .val (.long i3), .second, .val (.int i4), .val (.int i5), .val (.int v1), .val (.int v2), .val (.int v3), .val (.int v4), .val (.int v5), .val (.int v6), .val (.int v7), .val (.int v8), .val (.ref b9), .val (.ref b13), .val (.ref b19), .val (.int (1 : Int32)), .val (.int (1 : Int32)), .val (.int (0 : Int32)), .val (.int (1 : Int32)), .val (.int (2 : Int32)), .unset, .unset, .unset, .unset, .unset, .unset, .unset]) rfl ?_
            refine px_iconst (v := (0 : Int32)) S21 at_238 rfl rfl ?_
            refine px_istore S21 at_239 rfl (L' := #[.val (.int i0), .val (.long i1), .second, .val (.int i2), .val (.long i3), .second, .val (.int i4), .val (.int i5), .val (.int v1), .val (.int v2), .val (.int v3), .val (.int v4), .val (.int v5), .val (.int v6), .val (.int v7), .val (.int v8), .val (.ref b9), .val (.ref b13), .val (.ref b19), .val (.int (1 : Int32)), .val (.int (1 : Int32)), .val (.int (0 : Int32)), .val (.int (1 : Int32)), .val (.int (2 : Int32)), .val (.int (0 : Int32)), .unset, .unset, .unset, .unset, .unset, .unset]) rfl ?_
            refine px_iconst (v := (0 : Int32)) S21 at_241 rfl rfl ?_
            refine px_istore S21 at_242 rfl (L' := #[.val (.int i0), .val (.long i1), .second, .val (.int i2), .val (.long i3), .second, .val (.int i4), .val (.int i5), .val (.int v1), .val (.int v2), .val (.int v3), .val (.int v4), .val (.int v5), .val (.int v6), .val (.int v7), .val (.int v8), .val (.ref b9), .val (.ref b13), .val (.ref b19), .val (.int (1 : Int32)), .val (.int (1 : Int32)), .val (.int (0 : Int32)), .val (.int (1 : Int32)), .val (.int (2 : Int32)), .val (.int (0 : Int32)), .val (.int (0 : Int32)), .unset, .unset, .unset, .unset, .unset]) rfl ?_
            refine px_iconst (v := (0 : Int32)) S21 at_244 rfl rfl ?_
            refine px_istore S21 at_245 rfl (L' := #[.val (.int i0), .val (.long i1), .second, .val (.int i2), .val (.long i3), .second, .val (.int i4), .val (.int i5), .val (.int v1), .val (.int v2), .val (.int v3), .val (.int v4), .val (.int v5), .val (.int v6), .val (.int v7), .val (.int v8), .val (.ref b9), .val (.ref b13), .val (.ref b19), .val (.int (1 : Int32)), .val (.int (1 : Int32)), .val (.int (0 : Int32)), .val (.int (1 : Int32)), .val (.int (2 : Int32)), .val (.int (0 : Int32)), .val (.int (0 : Int32)), .val (.int (0 : Int32)), .unset, .unset, .unset, .unset]) rfl ?_
            refine px_iload S21 at_247 rfl rfl ?_
            refine px_iconst (v := (2 : Int32)) S21 at_249 rfl rfl ?_
            refine px_icmp S21 at_250 (by decide) (pc' := 292) rfl rfl (fun (hc95 : ¬ (2 : Int32).toInt = (2 : Int32).toInt) => absurd rfl hc95) (fun (hc95 : (2 : Int32).toInt = (2 : Int32).toInt) => ?_)
            refine px_iload S21 at_253 rfl rfl ?_
            refine px_if0 S21 at_255 (by decide) (pc' := 262) rfl rfl (fun (hc96 : (1 : Int32).toInt = 0) => by exfalso; revert hc96; decide) (fun (hc96 : ¬ (1 : Int32).toInt = 0) => ?_)
            refine px_iconst (v := (1 : Int32)) S21 at_258 rfl rfl ?_
            refine px_goto S21 at_259 (by decide) (pc' := 263) rfl ?_
            refine px_istore S21 at_263 rfl (L' := #[.val (.int i0), .val (.long i1), .second, .val (.int i2), .val (.long i3), .second, .val (.int i4), .val (.int i5), .val (.int v1), .val (.int v2), .val (.int v3), .val (.int v4), .val (.int v5), .val (.int v6), .val (.int v7), .val (.int v8), .val (.ref b9), .val (.ref b13), .val (.ref b19), .val (.int (1 : Int32)), .val (.int (1 : Int32)), .val (.int (0 : Int32)), .val (.int (1 : Int32)), .val (.int (2 : Int32)), .val (.int (1 : Int32)), .val (.int (0 : Int32)), .val (.int (0 : Int32)), .unset, .unset, .unset, .unset]) rfl ?_
            refine px_iload S21 at_265 rfl rfl ?_
            refine px_if0 S21 at_267 (by decide) (pc' := 274) rfl rfl (fun (hc97 : (0 : Int32).toInt = 0) => ?_) (fun (hc97 : ¬ (0 : Int32).toInt = 0) => by exfalso; revert hc97; decide)
            refine px_iconst (v := (0 : Int32)) S21 at_274 rfl rfl ?_
            refine px_istore S21 at_275 rfl (L' := #[.val (.int i0), .val (.long i1), .second, .val (.int i2), .val (.long i3), .second, .val (.int i4), .val (.int i5), .val (.int v1), .val (.int v2), .val (.int v3), .val (.int v4), .val (.int v5), .val (.int v6), .val (.int v7), .val (.int v8), .val (.ref b9), .val (.ref b13), .val (.ref b19), .val (.int (1 : Int32)), .val (.int (1 : Int32)), .val (.int (0 : Int32)), .val (.int (1 : Int32)), .val (.int (2 : Int32)), .val (.int (1 : Int32)), .val (.int (0 : Int32)), .val (.int (0 : Int32)), .unset, .unset, .unset, .unset]) rfl ?_
            refine px_iload S21 at_277 rfl rfl ?_
            refine px_if0 S21 at_279 (by decide) (pc' := 286) rfl rfl (fun (hc98 : (1 : Int32).toInt = 0) => by exfalso; revert hc98; decide) (fun (hc98 : ¬ (1 : Int32).toInt = 0) => ?_)
            refine px_iconst (v := (1 : Int32)) S21 at_282 rfl rfl ?_
            refine px_goto S21 at_283 (by decide) (pc' := 287) rfl ?_
            refine px_istore S21 at_287 rfl (L' := #[.val (.int i0), .val (.long i1), .second, .val (.int i2), .val (.long i3), .second, .val (.int i4), .val (.int i5), .val (.int v1), .val (.int v2), .val (.int v3), .val (.int v4), .val (.int v5), .val (.int v6), .val (.int v7), .val (.int v8), .val (.ref b9), .val (.ref b13), .val (.ref b19), .val (.int (1 : Int32)), .val (.int (1 : Int32)), .val (.int (0 : Int32)), .val (.int (1 : Int32)), .val (.int (2 : Int32)), .val (.int (1 : Int32)), .val (.int (0 : Int32)), .val (.int (1 : Int32)), .unset, .unset, .unset, .unset]) rfl ?_
            refine px_goto S21 at_289 (by decide) (pc' := 341) rfl ?_
            obtain ⟨la, lb, lc⟩ : (fl2 a).toInt = 1 ∧ (fl2 b).toInt = 0 ∧ (fl2 c).toInt = 1 := by have u1 := hna.out; have u2 := hnb.out; have u3 := hnc.out; unfold LenP at hL; omega
            replace la : fl2 a = (1 : Int32) := i32_of la rfl
            replace lb : fl2 b = (0 : Int32) := i32_of lb rfl
            replace lc : fl2 c = (1 : Int32) := i32_of lc rfl
            refine px_iload S21 at_341 rfl rfl ?_
            refine px_i2l S21 at_343 rfl ?_
            refine px_iload S21 at_344 rfl rfl ?_
            refine px_i2l S21 at_346 rfl ?_
            refine px_lmul S21 at_347 rfl ?_
            refine px_iload S21 at_348 rfl rfl ?_
            refine px_i2l S21 at_350 rfl ?_
            refine px_iload S21 at_351 rfl rfl ?_
            refine px_i2l S21 at_353 rfl ?_
            refine px_lmul S21 at_354 rfl ?_
            refine px_ladd S21 at_355 rfl ?_
            refine px_iload S21 at_356 rfl rfl ?_
            refine px_i2l S21 at_358 rfl ?_
            refine px_iload S21 at_359 rfl rfl ?_
            refine px_i2l S21 at_361 rfl ?_
            refine px_lmul S21 at_362 rfl ?_
            refine px_ladd S21 at_363 rfl ?_
            refine px_lstore S21 at_364 rfl (L' := #[.val (.int i0), .val (.long i1), .second, .val (.int i2), .val (.long i3), .second, .val (.int i4), .val (.int i5), .val (.int v1), .val (.int v2), .val (.int v3), .val (.int v4), .val (.int v5), .val (.int v6), .val (.int v7), .val (.int v8), .val (.ref b9), .val (.ref b13), .val (.ref b19), .val (.int (1 : Int32)), .val (.int (1 : Int32)), .val (.int (0 : Int32)), .val (.int (1 : Int32)), .val (.int (2 : Int32)), .val (.int (1 : Int32)), .val (.int (0 : Int32)), .val (.int (1 : Int32)), .val (.long (((v7.toInt64 * (1 : Int32).toInt64) + (v8.toInt64 * (0 : Int32).toInt64)) + (i4.toInt64 * (1 : Int32).toInt64))), .second, .unset, .unset]) rfl ?_
            refine px_iload S21 at_366 rfl rfl ?_
            refine px_i2l S21 at_368 rfl ?_
            refine px_iload S21 at_369 rfl rfl ?_
            refine px_i2l S21 at_371 rfl ?_
            refine px_lmul S21 at_372 rfl ?_
            refine px_iload S21 at_373 rfl rfl ?_
            refine px_i2l S21 at_375 rfl ?_
            refine px_iload S21 at_376 rfl rfl ?_
            refine px_i2l S21 at_378 rfl ?_
            refine px_lmul S21 at_379 rfl ?_
            refine px_ladd S21 at_380 rfl ?_
            refine px_iloadN S21 at_381 rfl rfl ?_
            refine px_i2l S21 at_382 rfl ?_
            refine px_iload S21 at_383 rfl rfl ?_
            refine px_i2l S21 at_385 rfl ?_
            refine px_lmul S21 at_386 rfl ?_
            refine px_ladd S21 at_387 rfl ?_
            refine px_lstore S21 at_388 rfl (L' := #[.val (.int i0), .val (.long i1), .second, .val (.int i2), .val (.long i3), .second, .val (.int i4), .val (.int i5), .val (.int v1), .val (.int v2), .val (.int v3), .val (.int v4), .val (.int v5), .val (.int v6), .val (.int v7), .val (.int v8), .val (.ref b9), .val (.ref b13), .val (.ref b19), .val (.int (1 : Int32)), .val (.int (1 : Int32)), .val (.int (0 : Int32)), .val (.int (1 : Int32)), .val (.int (2 : Int32)), .val (.int (1 : Int32)), .val (.int (0 : Int32)), .val (.int (1 : Int32)), .val (.long (((v7.toInt64 * (1 : Int32).toInt64) + (v8.toInt64 * (0 : Int32).toInt64)) + (i4.toInt64 * (1 : Int32).toInt64))), .second, .val (.long (((v5.toInt64 * (1 : Int32).toInt64) + (v6.toInt64 * (0 : Int32).toInt64)) + (i2.toInt64 * (1 : Int32).toInt64))), .second]) rfl ?_
            refine px_iload S21 at_390 rfl rfl ?_
            refine px_iload S21 at_392 rfl rfl ?_
            refine px_iconst (v := (2 : Int32)) S21 at_394 rfl rfl ?_
            refine px_icmp S21 at_395 (by decide) (pc' := 402) rfl rfl (fun (hc99 : (2 : Int32).toInt < (2 : Int32).toInt) => by exfalso; revert hc99; decide) (fun (hc99 : (2 : Int32).toInt ≥ (2 : Int32).toInt) => ?_)
            refine px_iconst (v := (1 : Int32)) S21 at_398 rfl rfl ?_
            refine px_goto S21 at_399 (by decide) (pc' := 403) rfl ?_
            refine px_icmp S21 at_403 (by decide) (pc' := 436) rfl rfl (fun (hc100 : ¬ (1 : Int32).toInt = (1 : Int32).toInt) => absurd rfl hc100) (fun (hc100 : (1 : Int32).toInt = (1 : Int32).toInt) => ?_)
            refine px_aload S21 at_406 rfl rfl rfl ?_
            refine px_aload S21 at_408 rfl rfl rfl ?_
            refine px_callV (Cn := "com/example/colonnade/colonnade/compress/HuffmanEncoder") (as' := [(.ref b13)]) (st := []) (W := 0) S21 (c_cost (a := a) (b := b) (c := c) hw S21.size X_t F_lengths_t A_l A_b13 (by omega) (by omega) (by omega) hz.out) X_t (hw _ (List.mem_of_getElem? (i := 47) rfl)) (hw _ (List.mem_of_getElem? (i := 48) rfl)) (hw _ (List.mem_of_getElem? (i := 50) rfl)) (hw _ (List.mem_of_getElem? (i := 49) rfl)) (hw _ (List.mem_of_getElem? (i := 3) rfl)) (hw _ (List.mem_of_getElem? (i := 51) rfl)) (S21.nf (hw _ (List.mem_of_getElem? (i := 50) rfl))) (by decide) pd_0_2 rfl rfl (by decide) rfl (by decide) (by decide) (by decide) at_410 rfl rfl (fun T101 h101 v101 S101 q101 => ?_)
            obtain ⟨r_, rfl⟩ := q101
            rw [fqa, fqb, fqc, la, lb, lc] at r_
            obtain rfl := r_
            show Go _ _ _ _ _ _ _ [(.long (((v7.toInt64 * (1 : Int32).toInt64) + (v8.toInt64 * (0 : Int32).toInt64)) + (i4.toInt64 * (1 : Int32).toInt64)))]
            refine px_lload S101 at_413 rfl rfl ?_
            refine px_lif S101 at_415 rfl at_416 (by decide) (pc' := 436) rfl rfl (fun (hc102 : ¬ (((v7.toInt64 * (1 : Int32).toInt64) + (v8.toInt64 * (0 : Int32).toInt64)) + (i4.toInt64 * (1 : Int32).toInt64)).toInt = (((v7.toInt64 * (1 : Int32).toInt64) + (v8.toInt64 * (0 : Int32).toInt64)) + (i4.toInt64 * (1 : Int32).toInt64)).toInt) => absurd rfl hc102) (fun (hc102 : (((v7.toInt64 * (1 : Int32).toInt64) + (v8.toInt64 * (0 : Int32).toInt64)) + (i4.toInt64 * (1 : Int32).toInt64)).toInt = (((v7.toInt64 * (1 : Int32).toInt64) + (v8.toInt64 * (0 : Int32).toInt64)) + (i4.toInt64 * (1 : Int32).toInt64)).toInt) => ?_)
            refine px_aload S101 at_419 rfl rfl rfl ?_
            refine px_aload S101 at_421 rfl rfl rfl ?_
            refine px_callV (Cn := "com/example/colonnade/colonnade/compress/HuffmanEncoder") (as' := [(.ref b9)]) (st := []) (W := 0) S101 (c_cost (a := a) (b := b) (c := c) hw S101.size X_t F_lengths_t A_l A_b9 (by omega) (by omega) (by omega) hz.out) X_t (hw _ (List.mem_of_getElem? (i := 47) rfl)) (hw _ (List.mem_of_getElem? (i := 48) rfl)) (hw _ (List.mem_of_getElem? (i := 50) rfl)) (hw _ (List.mem_of_getElem? (i := 49) rfl)) (hw _ (List.mem_of_getElem? (i := 3) rfl)) (hw _ (List.mem_of_getElem? (i := 51) rfl)) (S101.nf (hw _ (List.mem_of_getElem? (i := 50) rfl))) (by decide) pd_0_2 rfl rfl (by decide) rfl (by decide) (by decide) (by decide) at_423 rfl rfl (fun T103 h103 v103 S103 q103 => ?_)
            obtain ⟨r_, rfl⟩ := q103
            rw [foa, fob, foc, la, lb, lc] at r_
            obtain rfl := r_
            show Go _ _ _ _ _ _ _ [(.long (((v5.toInt64 * (1 : Int32).toInt64) + (v6.toInt64 * (0 : Int32).toInt64)) + (i2.toInt64 * (1 : Int32).toInt64)))]
            refine px_lload S103 at_426 rfl rfl ?_
            refine px_lif S103 at_428 rfl at_429 (by decide) (pc' := 436) rfl rfl (fun (hc104 : ¬ (((v5.toInt64 * (1 : Int32).toInt64) + (v6.toInt64 * (0 : Int32).toInt64)) + (i2.toInt64 * (1 : Int32).toInt64)).toInt = (((v5.toInt64 * (1 : Int32).toInt64) + (v6.toInt64 * (0 : Int32).toInt64)) + (i2.toInt64 * (1 : Int32).toInt64)).toInt) => absurd rfl hc104) (fun (hc104 : (((v5.toInt64 * (1 : Int32).toInt64) + (v6.toInt64 * (0 : Int32).toInt64)) + (i2.toInt64 * (1 : Int32).toInt64)).toInt = (((v5.toInt64 * (1 : Int32).toInt64) + (v6.toInt64 * (0 : Int32).toInt64)) + (i2.toInt64 * (1 : Int32).toInt64)).toInt) => ?_)
            refine px_iconst (v := (1 : Int32)) S103 at_432 rfl rfl ?_
            refine px_goto S103 at_433 (by decide) (pc' := 437) rfl ?_
            exact px_retN (t := .boolean) (z' := (1 : Int32)) S103 at_437 rfl (by simp) rfl (by decide) (by decide) (rfl)
        · refine px_iconst (v := (1 : Int32)) S21 at_186 rfl rfl ?_
          refine px_goto S21 at_187 (by decide) (pc' := 191) rfl ?_
          refine px_istore S21 at_191 rfl (L' := #[.val (.int i0), .val (.long i1), .second, .val (.int i2), .val (.long i3), .second, .val (.int i4), .val (.int i5), .val (.int v1), .val (.int v2), .val (.int v3), .val (.int v4), .val (.int v5), .val (.int v6), .val (.int v7), .val (.int v8), .val (.ref b9), .val (.ref b13), .val (.ref b19), .val (.int (1 : Int32)), .val (.int (1 : Int32)), .val (.int (1 : Int32)), .unset, .unset, .unset, .unset, .unset, .unset, .unset, .unset, .unset]) rfl ?_
          refine px_iloadN S21 at_193 rfl rfl ?_
          refine px_if0 S21 at_194 (by decide) (pc' := 201) rfl rfl (fun (hc105 : i2.toInt ≤ 0) => ?_) (fun (hc105 : i2.toInt > 0) => ?_)
          · refine px_iconst (v := (0 : Int32)) S21 at_201 rfl rfl ?_
            refine px_istore S21 at_202 rfl (L' := #[.val (.int i0), .val (.long i1), .second, .val (.int i2), .val (.long i3), .second, .val (.int i4), .val (.int i5), .val (.int v1), .val (.int v2), .val (.int v3), .val (.int v4), .val (.int v5), .val (.int v6), .val (.int v7), .val (.int v8), .val (.ref b9), .val (.ref b13), .val (.ref b19), .val (.int (1 : Int32)), .val (.int (1 : Int32)), .val (.int (1 : Int32)), .val (.int (0 : Int32)), .unset, .unset, .unset, .unset, .unset, .unset, .unset, .unset]) rfl ?_
            refine px_iload S21 at_204 rfl rfl ?_
            refine px_if0 S21 at_206 (by decide) (pc' := 213) rfl rfl (fun (hc106 : (1 : Int32).toInt = 0) => by exfalso; revert hc106; decide) (fun (hc106 : ¬ (1 : Int32).toInt = 0) => ?_)
            refine px_iconst (v := (1 : Int32)) S21 at_209 rfl rfl ?_
            refine px_goto S21 at_210 (by decide) (pc' := 214) rfl ?_
            refine px_iload S21 at_214 rfl rfl ?_
            refine px_if0 S21 at_216 (by decide) (pc' := 223) rfl rfl (fun (hc107 : (1 : Int32).toInt = 0) => by exfalso; revert hc107; decide) (fun (hc107 : ¬ (1 : Int32).toInt = 0) => ?_)
            refine px_iconst (v := (1 : Int32)) S21 at_219 rfl rfl ?_
            refine px_goto S21 at_220 (by decide) (pc' := 224) rfl ?_
            refine px_iadd S21 at_224 rfl ?_
            rw [show ((1 : Int32) + (1 : Int32)) = (2 : Int32) from by decide]
            refine px_iload S21 at_225 rfl rfl ?_
            refine px_if0 S21 at_227 (by decide) (pc' := 234) rfl rfl (fun (hc108 : (0 : Int32).toInt = 0) => ?_) (fun (hc108 : ¬ (0 : Int32).toInt = 0) => by exfalso; revert hc108; decide)
            refine px_iconst (v := (0 : Int32)) S21 at_234 rfl rfl ?_
            refine px_iadd S21 at_235 rfl ?_
            rw [show ((2 : Int32) + (0 : Int32)) = (2 : Int32) from by decide]
            refine px_istore S21 at_236 rfl (L' := #[.val (.int i0), .val (.long i1), .second, .val (.int i2), .val (.long i3), .second, .val (.int i4), .val (.int i5), .val (.int v1), .val (.int v2), .val (.int v3), .val (.int v4), .val (.int v5), .val (.int v6), .val (.int v7), .val (.int v8), .val (.ref b9), .val (.ref b13), .val (.ref b19), .val (.int (1 : Int32)), .val (.int (1 : Int32)), .val (.int (1 : Int32)), .val (.int (0 : Int32)), .val (.int (2 : Int32)), .unset, .unset, .unset, .unset, .unset, .unset, .unset]) rfl ?_
            refine px_iconst (v := (0 : Int32)) S21 at_238 rfl rfl ?_
            refine px_istore S21 at_239 rfl (L' := #[.val (.int i0), .val (.long i1), .second, .val (.int i2), .val (.long i3), .second, .val (.int i4), .val (.int i5), .val (.int v1), .val (.int v2), .val (.int v3), .val (.int v4), .val (.int v5), .val (.int v6), .val (.int v7), .val (.int v8), .val (.ref b9), .val (.ref b13), .val (.ref b19), .val (.int (1 : Int32)), .val (.int (1 : Int32)), .val (.int (1 : Int32)), .val (.int (0 : Int32)), .val (.int (2 : Int32)), .val (.int (0 : Int32)), .unset, .unset, .unset, .unset, .unset, .unset]) rfl ?_
            refine px_iconst (v := (0 : Int32)) S21 at_241 rfl rfl ?_
            refine px_istore S21 at_242 rfl (L' := #[.val (.int i0), .val (.long i1), .second, .val (.int i2), .val (.long i3), .second, .val (.int i4), .val (.int i5), .val (.int v1), .val (.int v2), .val (.int v3), .val (.int v4), .val (.int v5), .val (.int v6), .val (.int v7), .val (.int v8), .val (.ref b9), .val (.ref b13), .val (.ref b19), .val (.int (1 : Int32)), .val (.int (1 : Int32)), .val (.int (1 : Int32)), .val (.int (0 : Int32)), .val (.int (2 : Int32)), .val (.int (0 : Int32)), .val (.int (0 : Int32)), .unset, .unset, .unset, .unset, .unset]) rfl ?_
            refine px_iconst (v := (0 : Int32)) S21 at_244 rfl rfl ?_
            refine px_istore S21 at_245 rfl (L' := #[.val (.int i0), .val (.long i1), .second, .val (.int i2), .val (.long i3), .second, .val (.int i4), .val (.int i5), .val (.int v1), .val (.int v2), .val (.int v3), .val (.int v4), .val (.int v5), .val (.int v6), .val (.int v7), .val (.int v8), .val (.ref b9), .val (.ref b13), .val (.ref b19), .val (.int (1 : Int32)), .val (.int (1 : Int32)), .val (.int (1 : Int32)), .val (.int (0 : Int32)), .val (.int (2 : Int32)), .val (.int (0 : Int32)), .val (.int (0 : Int32)), .val (.int (0 : Int32)), .unset, .unset, .unset, .unset]) rfl ?_
            refine px_iload S21 at_247 rfl rfl ?_
            refine px_iconst (v := (2 : Int32)) S21 at_249 rfl rfl ?_
            refine px_icmp S21 at_250 (by decide) (pc' := 292) rfl rfl (fun (hc109 : ¬ (2 : Int32).toInt = (2 : Int32).toInt) => absurd rfl hc109) (fun (hc109 : (2 : Int32).toInt = (2 : Int32).toInt) => ?_)
            refine px_iload S21 at_253 rfl rfl ?_
            refine px_if0 S21 at_255 (by decide) (pc' := 262) rfl rfl (fun (hc110 : (1 : Int32).toInt = 0) => by exfalso; revert hc110; decide) (fun (hc110 : ¬ (1 : Int32).toInt = 0) => ?_)
            refine px_iconst (v := (1 : Int32)) S21 at_258 rfl rfl ?_
            refine px_goto S21 at_259 (by decide) (pc' := 263) rfl ?_
            refine px_istore S21 at_263 rfl (L' := #[.val (.int i0), .val (.long i1), .second, .val (.int i2), .val (.long i3), .second, .val (.int i4), .val (.int i5), .val (.int v1), .val (.int v2), .val (.int v3), .val (.int v4), .val (.int v5), .val (.int v6), .val (.int v7), .val (.int v8), .val (.ref b9), .val (.ref b13), .val (.ref b19), .val (.int (1 : Int32)), .val (.int (1 : Int32)), .val (.int (1 : Int32)), .val (.int (0 : Int32)), .val (.int (2 : Int32)), .val (.int (1 : Int32)), .val (.int (0 : Int32)), .val (.int (0 : Int32)), .unset, .unset, .unset, .unset]) rfl ?_
            refine px_iload S21 at_265 rfl rfl ?_
            refine px_if0 S21 at_267 (by decide) (pc' := 274) rfl rfl (fun (hc111 : (1 : Int32).toInt = 0) => by exfalso; revert hc111; decide) (fun (hc111 : ¬ (1 : Int32).toInt = 0) => ?_)
            refine px_iconst (v := (1 : Int32)) S21 at_270 rfl rfl ?_
            refine px_goto S21 at_271 (by decide) (pc' := 275) rfl ?_
            refine px_istore S21 at_275 rfl (L' := #[.val (.int i0), .val (.long i1), .second, .val (.int i2), .val (.long i3), .second, .val (.int i4), .val (.int i5), .val (.int v1), .val (.int v2), .val (.int v3), .val (.int v4), .val (.int v5), .val (.int v6), .val (.int v7), .val (.int v8), .val (.ref b9), .val (.ref b13), .val (.ref b19), .val (.int (1 : Int32)), .val (.int (1 : Int32)), .val (.int (1 : Int32)), .val (.int (0 : Int32)), .val (.int (2 : Int32)), .val (.int (1 : Int32)), .val (.int (1 : Int32)), .val (.int (0 : Int32)), .unset, .unset, .unset, .unset]) rfl ?_
            refine px_iload S21 at_277 rfl rfl ?_
            refine px_if0 S21 at_279 (by decide) (pc' := 286) rfl rfl (fun (hc112 : (0 : Int32).toInt = 0) => ?_) (fun (hc112 : ¬ (0 : Int32).toInt = 0) => by exfalso; revert hc112; decide)
            refine px_iconst (v := (0 : Int32)) S21 at_286 rfl rfl ?_
            refine px_istore S21 at_287 rfl (L' := #[.val (.int i0), .val (.long i1), .second, .val (.int i2), .val (.long i3), .second, .val (.int i4), .val (.int i5), .val (.int v1), .val (.int v2), .val (.int v3), .val (.int v4), .val (.int v5), .val (.int v6), .val (.int v7), .val (.int v8), .val (.ref b9), .val (.ref b13), .val (.ref b19), .val (.int (1 : Int32)), .val (.int (1 : Int32)), .val (.int (1 : Int32)), .val (.int (0 : Int32)), .val (.int (2 : Int32)), .val (.int (1 : Int32)), .val (.int (1 : Int32)), .val (.int (0 : Int32)), .unset, .unset, .unset, .unset]) rfl ?_
            refine px_goto S21 at_289 (by decide) (pc' := 341) rfl ?_
            obtain ⟨la, lb, lc⟩ : (fl2 a).toInt = 1 ∧ (fl2 b).toInt = 1 ∧ (fl2 c).toInt = 0 := by have u1 := hna.out; have u2 := hnb.out; have u3 := hnc.out; unfold LenP at hL; omega
            replace la : fl2 a = (1 : Int32) := i32_of la rfl
            replace lb : fl2 b = (1 : Int32) := i32_of lb rfl
            replace lc : fl2 c = (0 : Int32) := i32_of lc rfl
            refine px_iload S21 at_341 rfl rfl ?_
            refine px_i2l S21 at_343 rfl ?_
            refine px_iload S21 at_344 rfl rfl ?_
            refine px_i2l S21 at_346 rfl ?_
            refine px_lmul S21 at_347 rfl ?_
            refine px_iload S21 at_348 rfl rfl ?_
            refine px_i2l S21 at_350 rfl ?_
            refine px_iload S21 at_351 rfl rfl ?_
            refine px_i2l S21 at_353 rfl ?_
            refine px_lmul S21 at_354 rfl ?_
            refine px_ladd S21 at_355 rfl ?_
            refine px_iload S21 at_356 rfl rfl ?_
            refine px_i2l S21 at_358 rfl ?_
            refine px_iload S21 at_359 rfl rfl ?_
            refine px_i2l S21 at_361 rfl ?_
            refine px_lmul S21 at_362 rfl ?_
            refine px_ladd S21 at_363 rfl ?_
            refine px_lstore S21 at_364 rfl (L' := #[.val (.int i0), .val (.long i1), .second, .val (.int i2), .val (.long i3), .second, .val (.int i4), .val (.int i5), .val (.int v1), .val (.int v2), .val (.int v3), .val (.int v4), .val (.int v5), .val (.int v6), .val (.int v7), .val (.int v8), .val (.ref b9), .val (.ref b13), .val (.ref b19), .val (.int (1 : Int32)), .val (.int (1 : Int32)), .val (.int (1 : Int32)), .val (.int (0 : Int32)), .val (.int (2 : Int32)), .val (.int (1 : Int32)), .val (.int (1 : Int32)), .val (.int (0 : Int32)), .val (.long (((v7.toInt64 * (1 : Int32).toInt64) + (v8.toInt64 * (1 : Int32).toInt64)) + (i4.toInt64 * (0 : Int32).toInt64))), .second, .unset, .unset]) rfl ?_
            refine px_iload S21 at_366 rfl rfl ?_
            refine px_i2l S21 at_368 rfl ?_
            refine px_iload S21 at_369 rfl rfl ?_
            refine px_i2l S21 at_371 rfl ?_
            refine px_lmul S21 at_372 rfl ?_
            refine px_iload S21 at_373 rfl rfl ?_
            refine px_i2l S21 at_375 rfl ?_
            refine px_iload S21 at_376 rfl rfl ?_
            refine px_i2l S21 at_378 rfl ?_
            refine px_lmul S21 at_379 rfl ?_
            refine px_ladd S21 at_380 rfl ?_
            refine px_iloadN S21 at_381 rfl rfl ?_
            refine px_i2l S21 at_382 rfl ?_
            refine px_iload S21 at_383 rfl rfl ?_
            refine px_i2l S21 at_385 rfl ?_
            refine px_lmul S21 at_386 rfl ?_
            refine px_ladd S21 at_387 rfl ?_
            refine px_lstore S21 at_388 rfl (L' := #[.val (.int i0), .val (.long i1), .second, .val (.int i2), .val (.long i3), .second, .val (.int i4), .val (.int i5), .val (.int v1), .val (.int v2), .val (.int v3), .val (.int v4), .val (.int v5), .val (.int v6), .val (.int v7), .val (.int v8), .val (.ref b9), .val (.ref b13), .val (.ref b19), .val (.int (1 : Int32)), .val (.int (1 : Int32)), .val (.int (1 : Int32)), .val (.int (0 : Int32)), .val (.int (2 : Int32)), .val (.int (1 : Int32)), .val (.int (1 : Int32)), .val (.int (0 : Int32)), .val (.long (((v7.toInt64 * (1 : Int32).toInt64) + (v8.toInt64 * (1 : Int32).toInt64)) + (i4.toInt64 * (0 : Int32).toInt64))), .second, .val (.long (((v5.toInt64 * (1 : Int32).toInt64) + (v6.toInt64 * (1 : Int32).toInt64)) + (i2.toInt64 * (0 : Int32).toInt64))), .second]) rfl ?_
            refine px_iload S21 at_390 rfl rfl ?_
            refine px_iload S21 at_392 rfl rfl ?_
            refine px_iconst (v := (2 : Int32)) S21 at_394 rfl rfl ?_
            refine px_icmp S21 at_395 (by decide) (pc' := 402) rfl rfl (fun (hc113 : (2 : Int32).toInt < (2 : Int32).toInt) => by exfalso; revert hc113; decide) (fun (hc113 : (2 : Int32).toInt ≥ (2 : Int32).toInt) => ?_)
            refine px_iconst (v := (1 : Int32)) S21 at_398 rfl rfl ?_
            refine px_goto S21 at_399 (by decide) (pc' := 403) rfl ?_
            refine px_icmp S21 at_403 (by decide) (pc' := 436) rfl rfl (fun (hc114 : ¬ (1 : Int32).toInt = (1 : Int32).toInt) => absurd rfl hc114) (fun (hc114 : (1 : Int32).toInt = (1 : Int32).toInt) => ?_)
            refine px_aload S21 at_406 rfl rfl rfl ?_
            refine px_aload S21 at_408 rfl rfl rfl ?_
            refine px_callV (Cn := "com/example/colonnade/colonnade/compress/HuffmanEncoder") (as' := [(.ref b13)]) (st := []) (W := 0) S21 (c_cost (a := a) (b := b) (c := c) hw S21.size X_t F_lengths_t A_l A_b13 (by omega) (by omega) (by omega) hz.out) X_t (hw _ (List.mem_of_getElem? (i := 47) rfl)) (hw _ (List.mem_of_getElem? (i := 48) rfl)) (hw _ (List.mem_of_getElem? (i := 50) rfl)) (hw _ (List.mem_of_getElem? (i := 49) rfl)) (hw _ (List.mem_of_getElem? (i := 3) rfl)) (hw _ (List.mem_of_getElem? (i := 51) rfl)) (S21.nf (hw _ (List.mem_of_getElem? (i := 50) rfl))) (by decide) pd_0_2 rfl rfl (by decide) rfl (by decide) (by decide) (by decide) at_410 rfl rfl (fun T115 h115 v115 S115 q115 => ?_)
            obtain ⟨r_, rfl⟩ := q115
            rw [fqa, fqb, fqc, la, lb, lc] at r_
            obtain rfl := r_
            show Go _ _ _ _ _ _ _ [(.long (((v7.toInt64 * (1 : Int32).toInt64) + (v8.toInt64 * (1 : Int32).toInt64)) + (i4.toInt64 * (0 : Int32).toInt64)))]
            refine px_lload S115 at_413 rfl rfl ?_
            refine px_lif S115 at_415 rfl at_416 (by decide) (pc' := 436) rfl rfl (fun (hc116 : ¬ (((v7.toInt64 * (1 : Int32).toInt64) + (v8.toInt64 * (1 : Int32).toInt64)) + (i4.toInt64 * (0 : Int32).toInt64)).toInt = (((v7.toInt64 * (1 : Int32).toInt64) + (v8.toInt64 * (1 : Int32).toInt64)) + (i4.toInt64 * (0 : Int32).toInt64)).toInt) => absurd rfl hc116) (fun (hc116 : (((v7.toInt64 * (1 : Int32).toInt64) + (v8.toInt64 * (1 : Int32).toInt64)) + (i4.toInt64 * (0 : Int32).toInt64)).toInt = (((v7.toInt64 * (1 : Int32).toInt64) + (v8.toInt64 * (1 : Int32).toInt64)) + (i4.toInt64 * (0 : Int32).toInt64)).toInt) => ?_)
            refine px_aload S115 at_419 rfl rfl rfl ?_
            refine px_aload S115 at_421 rfl rfl rfl ?_
            refine px_callV (Cn := "com/example/colonnade/colonnade/compress/HuffmanEncoder") (as' := [(.ref b9)]) (st := []) (W := 0) S115 (c_cost (a := a) (b := b) (c := c) hw S115.size X_t F_lengths_t A_l A_b9 (by omega) (by omega) (by omega) hz.out) X_t (hw _ (List.mem_of_getElem? (i := 47) rfl)) (hw _ (List.mem_of_getElem? (i := 48) rfl)) (hw _ (List.mem_of_getElem? (i := 50) rfl)) (hw _ (List.mem_of_getElem? (i := 49) rfl)) (hw _ (List.mem_of_getElem? (i := 3) rfl)) (hw _ (List.mem_of_getElem? (i := 51) rfl)) (S115.nf (hw _ (List.mem_of_getElem? (i := 50) rfl))) (by decide) pd_0_2 rfl rfl (by decide) rfl (by decide) (by decide) (by decide) at_423 rfl rfl (fun T117 h117 v117 S117 q117 => ?_)
            obtain ⟨r_, rfl⟩ := q117
            rw [foa, fob, foc, la, lb, lc] at r_
            obtain rfl := r_
            show Go _ _ _ _ _ _ _ [(.long (((v5.toInt64 * (1 : Int32).toInt64) + (v6.toInt64 * (1 : Int32).toInt64)) + (i2.toInt64 * (0 : Int32).toInt64)))]
            refine px_lload S117 at_426 rfl rfl ?_
            refine px_lif S117 at_428 rfl at_429 (by decide) (pc' := 436) rfl rfl (fun (hc118 : ¬ (((v5.toInt64 * (1 : Int32).toInt64) + (v6.toInt64 * (1 : Int32).toInt64)) + (i2.toInt64 * (0 : Int32).toInt64)).toInt = (((v5.toInt64 * (1 : Int32).toInt64) + (v6.toInt64 * (1 : Int32).toInt64)) + (i2.toInt64 * (0 : Int32).toInt64)).toInt) => absurd rfl hc118) (fun (hc118 : (((v5.toInt64 * (1 : Int32).toInt64) + (v6.toInt64 * (1 : Int32).toInt64)) + (i2.toInt64 * (0 : Int32).toInt64)).toInt = (((v5.toInt64 * (1 : Int32).toInt64) + (v6.toInt64 * (1 : Int32).toInt64)) + (i2.toInt64 * (0 : Int32).toInt64)).toInt) => ?_)
            refine px_iconst (v := (1 : Int32)) S117 at_432 rfl rfl ?_
            refine px_goto S117 at_433 (by decide) (pc' := 437) rfl ?_
            exact px_retN (t := .boolean) (z' := (1 : Int32)) S117 at_437 rfl (by simp) rfl (by decide) (by decide) (rfl)
          · refine px_iconst (v := (1 : Int32)) S21 at_197 rfl rfl ?_
            refine px_goto S21 at_198 (by decide) (pc' := 202) rfl ?_
            refine px_istore S21 at_202 rfl (L' := #[.val (.int i0), .val (.long i1), .second, .val (.int i2), .val (.long i3), .second, .val (.int i4), .val (.int i5), .val (.int v1), .val (.int v2), .val (.int v3), .val (.int v4), .val (.int v5), .val (.int v6), .val (.int v7), .val (.int v8), .val (.ref b9), .val (.ref b13), .val (.ref b19), .val (.int (1 : Int32)), .val (.int (1 : Int32)), .val (.int (1 : Int32)), .val (.int (1 : Int32)), .unset, .unset, .unset, .unset, .unset, .unset, .unset, .unset]) rfl ?_
            refine px_iload S21 at_204 rfl rfl ?_
            refine px_if0 S21 at_206 (by decide) (pc' := 213) rfl rfl (fun (hc119 : (1 : Int32).toInt = 0) => by exfalso; revert hc119; decide) (fun (hc119 : ¬ (1 : Int32).toInt = 0) => ?_)
            refine px_iconst (v := (1 : Int32)) S21 at_209 rfl rfl ?_
            refine px_goto S21 at_210 (by decide) (pc' := 214) rfl ?_
            refine px_iload S21 at_214 rfl rfl ?_
            refine px_if0 S21 at_216 (by decide) (pc' := 223) rfl rfl (fun (hc120 : (1 : Int32).toInt = 0) => by exfalso; revert hc120; decide) (fun (hc120 : ¬ (1 : Int32).toInt = 0) => ?_)
            refine px_iconst (v := (1 : Int32)) S21 at_219 rfl rfl ?_
            refine px_goto S21 at_220 (by decide) (pc' := 224) rfl ?_
            refine px_iadd S21 at_224 rfl ?_
            rw [show ((1 : Int32) + (1 : Int32)) = (2 : Int32) from by decide]
            refine px_iload S21 at_225 rfl rfl ?_
            refine px_if0 S21 at_227 (by decide) (pc' := 234) rfl rfl (fun (hc121 : (1 : Int32).toInt = 0) => by exfalso; revert hc121; decide) (fun (hc121 : ¬ (1 : Int32).toInt = 0) => ?_)
            refine px_iconst (v := (1 : Int32)) S21 at_230 rfl rfl ?_
            refine px_goto S21 at_231 (by decide) (pc' := 235) rfl ?_
            refine px_iadd S21 at_235 rfl ?_
            rw [show ((2 : Int32) + (1 : Int32)) = (3 : Int32) from by decide]
            refine px_istore S21 at_236 rfl (L' := #[.val (.int i0), .val (.long i1), .second, .val (.int i2), .val (.long i3), .second, .val (.int i4), .val (.int i5), .val (.int v1), .val (.int v2), .val (.int v3), .val (.int v4), .val (.int v5), .val (.int v6), .val (.int v7), .val (.int v8), .val (.ref b9), .val (.ref b13), .val (.ref b19), .val (.int (1 : Int32)), .val (.int (1 : Int32)), .val (.int (1 : Int32)), .val (.int (1 : Int32)), .val (.int (3 : Int32)), .unset, .unset, .unset, .unset, .unset, .unset, .unset]) rfl ?_
            refine px_iconst (v := (0 : Int32)) S21 at_238 rfl rfl ?_
            refine px_istore S21 at_239 rfl (L' := #[.val (.int i0), .val (.long i1), .second, .val (.int i2), .val (.long i3), .second, .val (.int i4), .val (.int i5), .val (.int v1), .val (.int v2), .val (.int v3), .val (.int v4), .val (.int v5), .val (.int v6), .val (.int v7), .val (.int v8), .val (.ref b9), .val (.ref b13), .val (.ref b19), .val (.int (1 : Int32)), .val (.int (1 : Int32)), .val (.int (1 : Int32)), .val (.int (1 : Int32)), .val (.int (3 : Int32)), .val (.int (0 : Int32)), .unset, .unset, .unset, .unset, .unset, .unset]) rfl ?_
            refine px_iconst (v := (0 : Int32)) S21 at_241 rfl rfl ?_
            refine px_istore S21 at_242 rfl (L' := #[.val (.int i0), .val (.long i1), .second, .val (.int i2), .val (.long i3), .second, .val (.int i4), .val (.int i5), .val (.int v1), .val (.int v2), .val (.int v3), .val (.int v4), .val (.int v5), .val (.int v6), .val (.int v7), .val (.int v8), .val (.ref b9), .val (.ref b13), .val (.ref b19), .val (.int (1 : Int32)), .val (.int (1 : Int32)), .val (.int (1 : Int32)), .val (.int (1 : Int32)), .val (.int (3 : Int32)), .val (.int (0 : Int32)), .val (.int (0 : Int32)), .unset, .unset, .unset, .unset, .unset]) rfl ?_
            refine px_iconst (v := (0 : Int32)) S21 at_244 rfl rfl ?_
            refine px_istore S21 at_245 rfl (L' := #[.val (.int i0), .val (.long i1), .second, .val (.int i2), .val (.long i3), .second, .val (.int i4), .val (.int i5), .val (.int v1), .val (.int v2), .val (.int v3), .val (.int v4), .val (.int v5), .val (.int v6), .val (.int v7), .val (.int v8), .val (.ref b9), .val (.ref b13), .val (.ref b19), .val (.int (1 : Int32)), .val (.int (1 : Int32)), .val (.int (1 : Int32)), .val (.int (1 : Int32)), .val (.int (3 : Int32)), .val (.int (0 : Int32)), .val (.int (0 : Int32)), .val (.int (0 : Int32)), .unset, .unset, .unset, .unset]) rfl ?_
            refine px_iload S21 at_247 rfl rfl ?_
            refine px_iconst (v := (2 : Int32)) S21 at_249 rfl rfl ?_
            refine px_icmp S21 at_250 (by decide) (pc' := 292) rfl rfl (fun (hc122 : ¬ (3 : Int32).toInt = (2 : Int32).toInt) => ?_) (fun (hc122 : (3 : Int32).toInt = (2 : Int32).toInt) => by exfalso; revert hc122; decide)
            refine px_iload S21 at_292 rfl rfl ?_
            refine px_iconst (v := (3 : Int32)) S21 at_294 rfl rfl ?_
            refine px_icmp S21 at_295 (by decide) (pc' := 341) rfl rfl (fun (hc123 : ¬ (3 : Int32).toInt = (3 : Int32).toInt) => absurd rfl hc123) (fun (hc123 : (3 : Int32).toInt = (3 : Int32).toInt) => ?_)
            refine px_iconst (v := (2 : Int32)) S21 at_298 rfl rfl ?_
            refine px_istore S21 at_299 rfl (L' := #[.val (.int i0), .val (.long i1), .second, .val (.int i2), .val (.long i3), .second, .val (.int i4), .val (.int i5), .val (.int v1), .val (.int v2), .val (.int v3), .val (.int v4), .val (.int v5), .val (.int v6), .val (.int v7), .val (.int v8), .val (.ref b9), .val (.ref b13), .val (.ref b19), .val (.int (1 : Int32)), .val (.int (1 : Int32)), .val (.int (1 : Int32)), .val (.int (1 : Int32)), .val (.int (3 : Int32)), .val (.int (2 : Int32)), .val (.int (0 : Int32)), .val (.int (0 : Int32)), .unset, .unset, .unset, .unset]) rfl ?_
            refine px_iconst (v := (2 : Int32)) S21 at_301 rfl rfl ?_
            refine px_istore S21 at_302 rfl (L' := #[.val (.int i0), .val (.long i1), .second, .val (.int i2), .val (.long i3), .second, .val (.int i4), .val (.int i5), .val (.int v1), .val (.int v2), .val (.int v3), .val (.int v4), .val (.int v5), .val (.int v6), .val (.int v7), .val (.int v8), .val (.ref b9), .val (.ref b13), .val (.ref b19), .val (.int (1 : Int32)), .val (.int (1 : Int32)), .val (.int (1 : Int32)), .val (.int (1 : Int32)), .val (.int (3 : Int32)), .val (.int (2 : Int32)), .val (.int (2 : Int32)), .val (.int (0 : Int32)), .unset, .unset, .unset, .unset]) rfl ?_
            refine px_iconst (v := (2 : Int32)) S21 at_304 rfl rfl ?_
            refine px_istore S21 at_305 rfl (L' := #[.val (.int i0), .val (.long i1), .second, .val (.int i2), .val (.long i3), .second, .val (.int i4), .val (.int i5), .val (.int v1), .val (.int v2), .val (.int v3), .val (.int v4), .val (.int v5), .val (.int v6), .val (.int v7), .val (.int v8), .val (.ref b9), .val (.ref b13), .val (.ref b19), .val (.int (1 : Int32)), .val (.int (1 : Int32)), .val (.int (1 : Int32)), .val (.int (1 : Int32)), .val (.int (3 : Int32)), .val (.int (2 : Int32)), .val (.int (2 : Int32)), .val (.int (2 : Int32)), .unset, .unset, .unset, .unset]) rfl ?_
            refine px_iloadN S21 at_307 rfl rfl ?_
            refine px_iload S21 at_308 rfl rfl ?_
            refine px_icmp S21 at_310 (by decide) (pc' := 325) rfl rfl (fun (hc124 : i2.toInt < v5.toInt) => ?_) (fun (hc124 : i2.toInt ≥ v5.toInt) => ?_)
            · refine px_iload S21 at_325 rfl rfl ?_
              refine px_iload S21 at_327 rfl rfl ?_
              refine px_icmp S21 at_329 (by decide) (pc' := 338) rfl rfl (fun (hc125 : v6.toInt < v5.toInt) => ?_) (fun (hc125 : v6.toInt ≥ v5.toInt) => ?_)
              · refine px_iconst (v := (1 : Int32)) S21 at_338 rfl rfl ?_
                refine px_istore S21 at_339 rfl (L' := #[.val (.int i0), .val (.long i1), .second, .val (.int i2), .val (.long i3), .second, .val (.int i4), .val (.int i5), .val (.int v1), .val (.int v2), .val (.int v3), .val (.int v4), .val (.int v5), .val (.int v6), .val (.int v7), .val (.int v8), .val (.ref b9), .val (.ref b13), .val (.ref b19), .val (.int (1 : Int32)), .val (.int (1 : Int32)), .val (.int (1 : Int32)), .val (.int (1 : Int32)), .val (.int (3 : Int32)), .val (.int (1 : Int32)), .val (.int (2 : Int32)), .val (.int (2 : Int32)), .unset, .unset, .unset, .unset]) rfl ?_
                obtain ⟨la, lb, lc⟩ : (fl2 a).toInt = 1 ∧ (fl2 b).toInt = 2 ∧ (fl2 c).toInt = 2 := by have u1 := hna.out; have u2 := hnb.out; have u3 := hnc.out; unfold LenP at hL; omega
                replace la : fl2 a = (1 : Int32) := i32_of la rfl
                replace lb : fl2 b = (2 : Int32) := i32_of lb rfl
                replace lc : fl2 c = (2 : Int32) := i32_of lc rfl
                refine px_iload S21 at_341 rfl rfl ?_
                refine px_i2l S21 at_343 rfl ?_
                refine px_iload S21 at_344 rfl rfl ?_
                refine px_i2l S21 at_346 rfl ?_
                refine px_lmul S21 at_347 rfl ?_
                refine px_iload S21 at_348 rfl rfl ?_
                refine px_i2l S21 at_350 rfl ?_
                refine px_iload S21 at_351 rfl rfl ?_
                refine px_i2l S21 at_353 rfl ?_
                refine px_lmul S21 at_354 rfl ?_
                refine px_ladd S21 at_355 rfl ?_
                refine px_iload S21 at_356 rfl rfl ?_
                refine px_i2l S21 at_358 rfl ?_
                refine px_iload S21 at_359 rfl rfl ?_
                refine px_i2l S21 at_361 rfl ?_
                refine px_lmul S21 at_362 rfl ?_
                refine px_ladd S21 at_363 rfl ?_
                refine px_lstore S21 at_364 rfl (L' := #[.val (.int i0), .val (.long i1), .second, .val (.int i2), .val (.long i3), .second, .val (.int i4), .val (.int i5), .val (.int v1), .val (.int v2), .val (.int v3), .val (.int v4), .val (.int v5), .val (.int v6), .val (.int v7), .val (.int v8), .val (.ref b9), .val (.ref b13), .val (.ref b19), .val (.int (1 : Int32)), .val (.int (1 : Int32)), .val (.int (1 : Int32)), .val (.int (1 : Int32)), .val (.int (3 : Int32)), .val (.int (1 : Int32)), .val (.int (2 : Int32)), .val (.int (2 : Int32)), .val (.long (((v7.toInt64 * (1 : Int32).toInt64) + (v8.toInt64 * (2 : Int32).toInt64)) + (i4.toInt64 * (2 : Int32).toInt64))), .second, .unset, .unset]) rfl ?_
                refine px_iload S21 at_366 rfl rfl ?_
                refine px_i2l S21 at_368 rfl ?_
                refine px_iload S21 at_369 rfl rfl ?_
                refine px_i2l S21 at_371 rfl ?_
                refine px_lmul S21 at_372 rfl ?_
                refine px_iload S21 at_373 rfl rfl ?_
                refine px_i2l S21 at_375 rfl ?_
                refine px_iload S21 at_376 rfl rfl ?_
                refine px_i2l S21 at_378 rfl ?_
                refine px_lmul S21 at_379 rfl ?_
                refine px_ladd S21 at_380 rfl ?_
                refine px_iloadN S21 at_381 rfl rfl ?_
                refine px_i2l S21 at_382 rfl ?_
                refine px_iload S21 at_383 rfl rfl ?_
                refine px_i2l S21 at_385 rfl ?_
                refine px_lmul S21 at_386 rfl ?_
                refine px_ladd S21 at_387 rfl ?_
                refine px_lstore S21 at_388 rfl (L' := #[.val (.int i0), .val (.long i1), .second, .val (.int i2), .val (.long i3), .second, .val (.int i4), .val (.int i5), .val (.int v1), .val (.int v2), .val (.int v3), .val (.int v4), .val (.int v5), .val (.int v6), .val (.int v7), .val (.int v8), .val (.ref b9), .val (.ref b13), .val (.ref b19), .val (.int (1 : Int32)), .val (.int (1 : Int32)), .val (.int (1 : Int32)), .val (.int (1 : Int32)), .val (.int (3 : Int32)), .val (.int (1 : Int32)), .val (.int (2 : Int32)), .val (.int (2 : Int32)), .val (.long (((v7.toInt64 * (1 : Int32).toInt64) + (v8.toInt64 * (2 : Int32).toInt64)) + (i4.toInt64 * (2 : Int32).toInt64))), .second, .val (.long (((v5.toInt64 * (1 : Int32).toInt64) + (v6.toInt64 * (2 : Int32).toInt64)) + (i2.toInt64 * (2 : Int32).toInt64))), .second]) rfl ?_
                refine px_iload S21 at_390 rfl rfl ?_
                refine px_iload S21 at_392 rfl rfl ?_
                refine px_iconst (v := (2 : Int32)) S21 at_394 rfl rfl ?_
                refine px_icmp S21 at_395 (by decide) (pc' := 402) rfl rfl (fun (hc126 : (3 : Int32).toInt < (2 : Int32).toInt) => by exfalso; revert hc126; decide) (fun (hc126 : (3 : Int32).toInt ≥ (2 : Int32).toInt) => ?_)
                refine px_iconst (v := (1 : Int32)) S21 at_398 rfl rfl ?_
                refine px_goto S21 at_399 (by decide) (pc' := 403) rfl ?_
                refine px_icmp S21 at_403 (by decide) (pc' := 436) rfl rfl (fun (hc127 : ¬ (1 : Int32).toInt = (1 : Int32).toInt) => absurd rfl hc127) (fun (hc127 : (1 : Int32).toInt = (1 : Int32).toInt) => ?_)
                refine px_aload S21 at_406 rfl rfl rfl ?_
                refine px_aload S21 at_408 rfl rfl rfl ?_
                refine px_callV (Cn := "com/example/colonnade/colonnade/compress/HuffmanEncoder") (as' := [(.ref b13)]) (st := []) (W := 0) S21 (c_cost (a := a) (b := b) (c := c) hw S21.size X_t F_lengths_t A_l A_b13 (by omega) (by omega) (by omega) hz.out) X_t (hw _ (List.mem_of_getElem? (i := 47) rfl)) (hw _ (List.mem_of_getElem? (i := 48) rfl)) (hw _ (List.mem_of_getElem? (i := 50) rfl)) (hw _ (List.mem_of_getElem? (i := 49) rfl)) (hw _ (List.mem_of_getElem? (i := 3) rfl)) (hw _ (List.mem_of_getElem? (i := 51) rfl)) (S21.nf (hw _ (List.mem_of_getElem? (i := 50) rfl))) (by decide) pd_0_2 rfl rfl (by decide) rfl (by decide) (by decide) (by decide) at_410 rfl rfl (fun T128 h128 v128 S128 q128 => ?_)
                obtain ⟨r_, rfl⟩ := q128
                rw [fqa, fqb, fqc, la, lb, lc] at r_
                obtain rfl := r_
                show Go _ _ _ _ _ _ _ [(.long (((v7.toInt64 * (1 : Int32).toInt64) + (v8.toInt64 * (2 : Int32).toInt64)) + (i4.toInt64 * (2 : Int32).toInt64)))]
                refine px_lload S128 at_413 rfl rfl ?_
                refine px_lif S128 at_415 rfl at_416 (by decide) (pc' := 436) rfl rfl (fun (hc129 : ¬ (((v7.toInt64 * (1 : Int32).toInt64) + (v8.toInt64 * (2 : Int32).toInt64)) + (i4.toInt64 * (2 : Int32).toInt64)).toInt = (((v7.toInt64 * (1 : Int32).toInt64) + (v8.toInt64 * (2 : Int32).toInt64)) + (i4.toInt64 * (2 : Int32).toInt64)).toInt) => absurd rfl hc129) (fun (hc129 : (((v7.toInt64 * (1 : Int32).toInt64) + (v8.toInt64 * (2 : Int32).toInt64)) + (i4.toInt64 * (2 : Int32).toInt64)).toInt = (((v7.toInt64 * (1 : Int32).toInt64) + (v8.toInt64 * (2 : Int32).toInt64)) + (i4.toInt64 * (2 : Int32).toInt64)).toInt) => ?_)
                refine px_aload S128 at_419 rfl rfl rfl ?_
                refine px_aload S128 at_421 rfl rfl rfl ?_
                refine px_callV (Cn := "com/example/colonnade/colonnade/compress/HuffmanEncoder") (as' := [(.ref b9)]) (st := []) (W := 0) S128 (c_cost (a := a) (b := b) (c := c) hw S128.size X_t F_lengths_t A_l A_b9 (by omega) (by omega) (by omega) hz.out) X_t (hw _ (List.mem_of_getElem? (i := 47) rfl)) (hw _ (List.mem_of_getElem? (i := 48) rfl)) (hw _ (List.mem_of_getElem? (i := 50) rfl)) (hw _ (List.mem_of_getElem? (i := 49) rfl)) (hw _ (List.mem_of_getElem? (i := 3) rfl)) (hw _ (List.mem_of_getElem? (i := 51) rfl)) (S128.nf (hw _ (List.mem_of_getElem? (i := 50) rfl))) (by decide) pd_0_2 rfl rfl (by decide) rfl (by decide) (by decide) (by decide) at_423 rfl rfl (fun T130 h130 v130 S130 q130 => ?_)
                obtain ⟨r_, rfl⟩ := q130
                rw [foa, fob, foc, la, lb, lc] at r_
                obtain rfl := r_
                show Go _ _ _ _ _ _ _ [(.long (((v5.toInt64 * (1 : Int32).toInt64) + (v6.toInt64 * (2 : Int32).toInt64)) + (i2.toInt64 * (2 : Int32).toInt64)))]
                refine px_lload S130 at_426 rfl rfl ?_
                refine px_lif S130 at_428 rfl at_429 (by decide) (pc' := 436) rfl rfl (fun (hc131 : ¬ (((v5.toInt64 * (1 : Int32).toInt64) + (v6.toInt64 * (2 : Int32).toInt64)) + (i2.toInt64 * (2 : Int32).toInt64)).toInt = (((v5.toInt64 * (1 : Int32).toInt64) + (v6.toInt64 * (2 : Int32).toInt64)) + (i2.toInt64 * (2 : Int32).toInt64)).toInt) => absurd rfl hc131) (fun (hc131 : (((v5.toInt64 * (1 : Int32).toInt64) + (v6.toInt64 * (2 : Int32).toInt64)) + (i2.toInt64 * (2 : Int32).toInt64)).toInt = (((v5.toInt64 * (1 : Int32).toInt64) + (v6.toInt64 * (2 : Int32).toInt64)) + (i2.toInt64 * (2 : Int32).toInt64)).toInt) => ?_)
                refine px_iconst (v := (1 : Int32)) S130 at_432 rfl rfl ?_
                refine px_goto S130 at_433 (by decide) (pc' := 437) rfl ?_
                exact px_retN (t := .boolean) (z' := (1 : Int32)) S130 at_437 rfl (by simp) rfl (by decide) (by decide) (rfl)
              · refine px_iconst (v := (1 : Int32)) S21 at_332 rfl rfl ?_
                refine px_istore S21 at_333 rfl (L' := #[.val (.int i0), .val (.long i1), .second, .val (.int i2), .val (.long i3), .second, .val (.int i4), .val (.int i5), .val (.int v1), .val (.int v2), .val (.int v3), .val (.int v4), .val (.int v5), .val (.int v6), .val (.int v7), .val (.int v8), .val (.ref b9), .val (.ref b13), .val (.ref b19), .val (.int (1 : Int32)), .val (.int (1 : Int32)), .val (.int (1 : Int32)), .val (.int (1 : Int32)), .val (.int (3 : Int32)), .val (.int (2 : Int32)), .val (.int (1 : Int32)), .val (.int (2 : Int32)), .unset, .unset, .unset, .unset]) rfl ?_
                refine px_goto S21 at_335 (by decide) (pc' := 341) rfl ?_
                obtain ⟨la, lb, lc⟩ : (fl2 a).toInt = 2 ∧ (fl2 b).toInt = 1 ∧ (fl2 c).toInt = 2 := by have u1 := hna.out; have u2 := hnb.out; have u3 := hnc.out; unfold LenP at hL; omega
                replace la : fl2 a = (2 : Int32) := i32_of la rfl
                replace lb : fl2 b = (1 : Int32) := i32_of lb rfl
                replace lc : fl2 c = (2 : Int32) := i32_of lc rfl
                refine px_iload S21 at_341 rfl rfl ?_
                refine px_i2l S21 at_343 rfl ?_
                refine px_iload S21 at_344 rfl rfl ?_
                refine px_i2l S21 at_346 rfl ?_
                refine px_lmul S21 at_347 rfl ?_
                refine px_iload S21 at_348 rfl rfl ?_
                refine px_i2l S21 at_350 rfl ?_
                refine px_iload S21 at_351 rfl rfl ?_
                refine px_i2l S21 at_353 rfl ?_
                refine px_lmul S21 at_354 rfl ?_
                refine px_ladd S21 at_355 rfl ?_
                refine px_iload S21 at_356 rfl rfl ?_
                refine px_i2l S21 at_358 rfl ?_
                refine px_iload S21 at_359 rfl rfl ?_
                refine px_i2l S21 at_361 rfl ?_
                refine px_lmul S21 at_362 rfl ?_
                refine px_ladd S21 at_363 rfl ?_
                refine px_lstore S21 at_364 rfl (L' := #[.val (.int i0), .val (.long i1), .second, .val (.int i2), .val (.long i3), .second, .val (.int i4), .val (.int i5), .val (.int v1), .val (.int v2), .val (.int v3), .val (.int v4), .val (.int v5), .val (.int v6), .val (.int v7), .val (.int v8), .val (.ref b9), .val (.ref b13), .val (.ref b19), .val (.int (1 : Int32)), .val (.int (1 : Int32)), .val (.int (1 : Int32)), .val (.int (1 : Int32)), .val (.int (3 : Int32)), .val (.int (2 : Int32)), .val (.int (1 : Int32)), .val (.int (2 : Int32)), .val (.long (((v7.toInt64 * (2 : Int32).toInt64) + (v8.toInt64 * (1 : Int32).toInt64)) + (i4.toInt64 * (2 : Int32).toInt64))), .second, .unset, .unset]) rfl ?_
                refine px_iload S21 at_366 rfl rfl ?_
                refine px_i2l S21 at_368 rfl ?_
                refine px_iload S21 at_369 rfl rfl ?_
                refine px_i2l S21 at_371 rfl ?_
                refine px_lmul S21 at_372 rfl ?_
                refine px_iload S21 at_373 rfl rfl ?_
                refine px_i2l S21 at_375 rfl ?_
                refine px_iload S21 at_376 rfl rfl ?_
                refine px_i2l S21 at_378 rfl ?_
                refine px_lmul S21 at_379 rfl ?_
                refine px_ladd S21 at_380 rfl ?_
                refine px_iloadN S21 at_381 rfl rfl ?_
                refine px_i2l S21 at_382 rfl ?_
                refine px_iload S21 at_383 rfl rfl ?_
                refine px_i2l S21 at_385 rfl ?_
                refine px_lmul S21 at_386 rfl ?_
                refine px_ladd S21 at_387 rfl ?_
                refine px_lstore S21 at_388 rfl (L' := #[.val (.int i0), .val (.long i1), .second, .val (.int i2), .val (.long i3), .second, .val (.int i4), .val (.int i5), .val (.int v1), .val (.int v2), .val (.int v3), .val (.int v4), .val (.int v5), .val (.int v6), .val (.int v7), .val (.int v8), .val (.ref b9), .val (.ref b13), .val (.ref b19), .val (.int (1 : Int32)), .val (.int (1 : Int32)), .val (.int (1 : Int32)), .val (.int (1 : Int32)), .val (.int (3 : Int32)), .val (.int (2 : Int32)), .val (.int (1 : Int32)), .val (.int (2 : Int32)), .val (.long (((v7.toInt64 * (2 : Int32).toInt64) + (v8.toInt64 * (1 : Int32).toInt64)) + (i4.toInt64 * (2 : Int32).toInt64))), .second, .val (.long (((v5.toInt64 * (2 : Int32).toInt64) + (v6.toInt64 * (1 : Int32).toInt64)) + (i2.toInt64 * (2 : Int32).toInt64))), .second]) rfl ?_
                refine px_iload S21 at_390 rfl rfl ?_
                refine px_iload S21 at_392 rfl rfl ?_
                refine px_iconst (v := (2 : Int32)) S21 at_394 rfl rfl ?_
                refine px_icmp S21 at_395 (by decide) (pc' := 402) rfl rfl (fun (hc132 : (3 : Int32).toInt < (2 : Int32).toInt) => by exfalso; revert hc132; decide) (fun (hc132 : (3 : Int32).toInt ≥ (2 : Int32).toInt) => ?_)
                refine px_iconst (v := (1 : Int32)) S21 at_398 rfl rfl ?_
                refine px_goto S21 at_399 (by decide) (pc' := 403) rfl ?_
                refine px_icmp S21 at_403 (by decide) (pc' := 436) rfl rfl (fun (hc133 : ¬ (1 : Int32).toInt = (1 : Int32).toInt) => absurd rfl hc133) (fun (hc133 : (1 : Int32).toInt = (1 : Int32).toInt) => ?_)
                refine px_aload S21 at_406 rfl rfl rfl ?_
                refine px_aload S21 at_408 rfl rfl rfl ?_
                refine px_callV (Cn := "com/example/colonnade/colonnade/compress/HuffmanEncoder") (as' := [(.ref b13)]) (st := []) (W := 0) S21 (c_cost (a := a) (b := b) (c := c) hw S21.size X_t F_lengths_t A_l A_b13 (by omega) (by omega) (by omega) hz.out) X_t (hw _ (List.mem_of_getElem? (i := 47) rfl)) (hw _ (List.mem_of_getElem? (i := 48) rfl)) (hw _ (List.mem_of_getElem? (i := 50) rfl)) (hw _ (List.mem_of_getElem? (i := 49) rfl)) (hw _ (List.mem_of_getElem? (i := 3) rfl)) (hw _ (List.mem_of_getElem? (i := 51) rfl)) (S21.nf (hw _ (List.mem_of_getElem? (i := 50) rfl))) (by decide) pd_0_2 rfl rfl (by decide) rfl (by decide) (by decide) (by decide) at_410 rfl rfl (fun T134 h134 v134 S134 q134 => ?_)
                obtain ⟨r_, rfl⟩ := q134
                rw [fqa, fqb, fqc, la, lb, lc] at r_
                obtain rfl := r_
                show Go _ _ _ _ _ _ _ [(.long (((v7.toInt64 * (2 : Int32).toInt64) + (v8.toInt64 * (1 : Int32).toInt64)) + (i4.toInt64 * (2 : Int32).toInt64)))]
                refine px_lload S134 at_413 rfl rfl ?_
                refine px_lif S134 at_415 rfl at_416 (by decide) (pc' := 436) rfl rfl (fun (hc135 : ¬ (((v7.toInt64 * (2 : Int32).toInt64) + (v8.toInt64 * (1 : Int32).toInt64)) + (i4.toInt64 * (2 : Int32).toInt64)).toInt = (((v7.toInt64 * (2 : Int32).toInt64) + (v8.toInt64 * (1 : Int32).toInt64)) + (i4.toInt64 * (2 : Int32).toInt64)).toInt) => absurd rfl hc135) (fun (hc135 : (((v7.toInt64 * (2 : Int32).toInt64) + (v8.toInt64 * (1 : Int32).toInt64)) + (i4.toInt64 * (2 : Int32).toInt64)).toInt = (((v7.toInt64 * (2 : Int32).toInt64) + (v8.toInt64 * (1 : Int32).toInt64)) + (i4.toInt64 * (2 : Int32).toInt64)).toInt) => ?_)
                refine px_aload S134 at_419 rfl rfl rfl ?_
                refine px_aload S134 at_421 rfl rfl rfl ?_
                refine px_callV (Cn := "com/example/colonnade/colonnade/compress/HuffmanEncoder") (as' := [(.ref b9)]) (st := []) (W := 0) S134 (c_cost (a := a) (b := b) (c := c) hw S134.size X_t F_lengths_t A_l A_b9 (by omega) (by omega) (by omega) hz.out) X_t (hw _ (List.mem_of_getElem? (i := 47) rfl)) (hw _ (List.mem_of_getElem? (i := 48) rfl)) (hw _ (List.mem_of_getElem? (i := 50) rfl)) (hw _ (List.mem_of_getElem? (i := 49) rfl)) (hw _ (List.mem_of_getElem? (i := 3) rfl)) (hw _ (List.mem_of_getElem? (i := 51) rfl)) (S134.nf (hw _ (List.mem_of_getElem? (i := 50) rfl))) (by decide) pd_0_2 rfl rfl (by decide) rfl (by decide) (by decide) (by decide) at_423 rfl rfl (fun T136 h136 v136 S136 q136 => ?_)
                obtain ⟨r_, rfl⟩ := q136
                rw [foa, fob, foc, la, lb, lc] at r_
                obtain rfl := r_
                show Go _ _ _ _ _ _ _ [(.long (((v5.toInt64 * (2 : Int32).toInt64) + (v6.toInt64 * (1 : Int32).toInt64)) + (i2.toInt64 * (2 : Int32).toInt64)))]
                refine px_lload S136 at_426 rfl rfl ?_
                refine px_lif S136 at_428 rfl at_429 (by decide) (pc' := 436) rfl rfl (fun (hc137 : ¬ (((v5.toInt64 * (2 : Int32).toInt64) + (v6.toInt64 * (1 : Int32).toInt64)) + (i2.toInt64 * (2 : Int32).toInt64)).toInt = (((v5.toInt64 * (2 : Int32).toInt64) + (v6.toInt64 * (1 : Int32).toInt64)) + (i2.toInt64 * (2 : Int32).toInt64)).toInt) => absurd rfl hc137) (fun (hc137 : (((v5.toInt64 * (2 : Int32).toInt64) + (v6.toInt64 * (1 : Int32).toInt64)) + (i2.toInt64 * (2 : Int32).toInt64)).toInt = (((v5.toInt64 * (2 : Int32).toInt64) + (v6.toInt64 * (1 : Int32).toInt64)) + (i2.toInt64 * (2 : Int32).toInt64)).toInt) => ?_)
                refine px_iconst (v := (1 : Int32)) S136 at_432 rfl rfl ?_
                refine px_goto S136 at_433 (by decide) (pc' := 437) rfl ?_
                exact px_retN (t := .boolean) (z' := (1 : Int32)) S136 at_437 rfl (by simp) rfl (by decide) (by decide) (rfl)
            · refine px_iloadN S21 at_313 rfl rfl ?_
              refine px_iload S21 at_314 rfl rfl ?_
              refine px_icmp S21 at_316 (by decide) (pc' := 325) rfl rfl (fun (hc138 : i2.toInt < v6.toInt) => ?_) (fun (hc138 : i2.toInt ≥ v6.toInt) => ?_)
              · refine px_iload S21 at_325 rfl rfl ?_
                refine px_iload S21 at_327 rfl rfl ?_
                refine px_icmp S21 at_329 (by decide) (pc' := 338) rfl rfl (fun (hc139 : v6.toInt < v5.toInt) => ?_) (fun (hc139 : v6.toInt ≥ v5.toInt) => ?_)
                · refine px_iconst (v := (1 : Int32)) S21 at_338 rfl rfl ?_
                  refine px_istore S21 at_339 rfl (L' := #[.val (.int i0), .val (.long i1), .second, .val (.int i2), .val (.long i3), .second, .val (.int i4), .val (.int i5), .val (.int v1), .val (.int v2), .val (.int v3), .val (.int v4), .val (.int v5), .val (.int v6), .val (.int v7), .val (.int v8), .val (.ref b9), .val (.ref b13), .val (.ref b19), .val (.int (1 : Int32)), .val (.int (1 : Int32)), .val (.int (1 : Int32)), .val (.int (1 : Int32)), .val (.int (3 : Int32)), .val (.int (1 : Int32)), .val (.int (2 : Int32)), .val (.int (2 : Int32)), .unset, .unset, .unset, .unset]) rfl ?_
                  obtain ⟨la, lb, lc⟩ : (fl2 a).toInt = 1 ∧ (fl2 b).toInt = 2 ∧ (fl2 c).toInt = 2 := by have u1 := hna.out; have u2 := hnb.out; have u3 := hnc.out; unfold LenP at hL; omega
                  replace la : fl2 a = (1 : Int32) := i32_of la rfl
                  replace lb : fl2 b = (2 : Int32) := i32_of lb rfl
                  replace lc : fl2 c = (2 : Int32) := i32_of lc rfl
                  refine px_iload S21 at_341 rfl rfl ?_
                  refine px_i2l S21 at_343 rfl ?_
                  refine px_iload S21 at_344 rfl rfl ?_
                  refine px_i2l S21 at_346 rfl ?_
                  refine px_lmul S21 at_347 rfl ?_
                  refine px_iload S21 at_348 rfl rfl ?_
                  refine px_i2l S21 at_350 rfl ?_
                  refine px_iload S21 at_351 rfl rfl ?_
                  refine px_i2l S21 at_353 rfl ?_
                  refine px_lmul S21 at_354 rfl ?_
                  refine px_ladd S21 at_355 rfl ?_
                  refine px_iload S21 at_356 rfl rfl ?_
                  refine px_i2l S21 at_358 rfl ?_
                  refine px_iload S21 at_359 rfl rfl ?_
                  refine px_i2l S21 at_361 rfl ?_
                  refine px_lmul S21 at_362 rfl ?_
                  refine px_ladd S21 at_363 rfl ?_
                  refine px_lstore S21 at_364 rfl (L' := #[.val (.int i0), .val (.long i1), .second, .val (.int i2), .val (.long i3), .second, .val (.int i4), .val (.int i5), .val (.int v1), .val (.int v2), .val (.int v3), .val (.int v4), .val (.int v5), .val (.int v6), .val (.int v7), .val (.int v8), .val (.ref b9), .val (.ref b13), .val (.ref b19), .val (.int (1 : Int32)), .val (.int (1 : Int32)), .val (.int (1 : Int32)), .val (.int (1 : Int32)), .val (.int (3 : Int32)), .val (.int (1 : Int32)), .val (.int (2 : Int32)), .val (.int (2 : Int32)), .val (.long (((v7.toInt64 * (1 : Int32).toInt64) + (v8.toInt64 * (2 : Int32).toInt64)) + (i4.toInt64 * (2 : Int32).toInt64))), .second, .unset, .unset]) rfl ?_
                  refine px_iload S21 at_366 rfl rfl ?_
                  refine px_i2l S21 at_368 rfl ?_
                  refine px_iload S21 at_369 rfl rfl ?_
                  refine px_i2l S21 at_371 rfl ?_
                  refine px_lmul S21 at_372 rfl ?_
                  refine px_iload S21 at_373 rfl rfl ?_
                  refine px_i2l S21 at_375 rfl ?_
                  refine px_iload S21 at_376 rfl rfl ?_
                  refine px_i2l S21 at_378 rfl ?_
                  refine px_lmul S21 at_379 rfl ?_
                  refine px_ladd S21 at_380 rfl ?_
                  refine px_iloadN S21 at_381 rfl rfl ?_
                  refine px_i2l S21 at_382 rfl ?_
                  refine px_iload S21 at_383 rfl rfl ?_
                  refine px_i2l S21 at_385 rfl ?_
                  refine px_lmul S21 at_386 rfl ?_
                  refine px_ladd S21 at_387 rfl ?_
                  refine px_lstore S21 at_388 rfl (L' := #[.val (.int i0), .val (.long i1), .second, .val (.int i2), .val (.long i3), .second, .val (.int i4), .val (.int i5), .val (.int v1), .val (.int v2), .val (.int v3), .val (.int v4), .val (.int v5), .val (.int v6), .val (.int v7), .val (.int v8), .val (.ref b9), .val (.ref b13), .val (.ref b19), .val (.int (1 : Int32)), .val (.int (1 : Int32)), .val (.int (1 : Int32)), .val (.int (1 : Int32)), .val (.int (3 : Int32)), .val (.int (1 : Int32)), .val (.int (2 : Int32)), .val (.int (2 : Int32)), .val (.long (((v7.toInt64 * (1 : Int32).toInt64) + (v8.toInt64 * (2 : Int32).toInt64)) + (i4.toInt64 * (2 : Int32).toInt64))), .second, .val (.long (((v5.toInt64 * (1 : Int32).toInt64) + (v6.toInt64 * (2 : Int32).toInt64)) + (i2.toInt64 * (2 : Int32).toInt64))), .second]) rfl ?_
                  refine px_iload S21 at_390 rfl rfl ?_
                  refine px_iload S21 at_392 rfl rfl ?_
                  refine px_iconst (v := (2 : Int32)) S21 at_394 rfl rfl ?_
                  refine px_icmp S21 at_395 (by decide) (pc' := 402) rfl rfl (fun (hc140 : (3 : Int32).toInt < (2 : Int32).toInt) => by exfalso; revert hc140; decide) (fun (hc140 : (3 : Int32).toInt ≥ (2 : Int32).toInt) => ?_)
                  refine px_iconst (v := (1 : Int32)) S21 at_398 rfl rfl ?_
                  refine px_goto S21 at_399 (by decide) (pc' := 403) rfl ?_
                  refine px_icmp S21 at_403 (by decide) (pc' := 436) rfl rfl (fun (hc141 : ¬ (1 : Int32).toInt = (1 : Int32).toInt) => absurd rfl hc141) (fun (hc141 : (1 : Int32).toInt = (1 : Int32).toInt) => ?_)
                  refine px_aload S21 at_406 rfl rfl rfl ?_
                  refine px_aload S21 at_408 rfl rfl rfl ?_
                  refine px_callV (Cn := "com/example/colonnade/colonnade/compress/HuffmanEncoder") (as' := [(.ref b13)]) (st := []) (W := 0) S21 (c_cost (a := a) (b := b) (c := c) hw S21.size X_t F_lengths_t A_l A_b13 (by omega) (by omega) (by omega) hz.out) X_t (hw _ (List.mem_of_getElem? (i := 47) rfl)) (hw _ (List.mem_of_getElem? (i := 48) rfl)) (hw _ (List.mem_of_getElem? (i := 50) rfl)) (hw _ (List.mem_of_getElem? (i := 49) rfl)) (hw _ (List.mem_of_getElem? (i := 3) rfl)) (hw _ (List.mem_of_getElem? (i := 51) rfl)) (S21.nf (hw _ (List.mem_of_getElem? (i := 50) rfl))) (by decide) pd_0_2 rfl rfl (by decide) rfl (by decide) (by decide) (by decide) at_410 rfl rfl (fun T142 h142 v142 S142 q142 => ?_)
                  obtain ⟨r_, rfl⟩ := q142
                  rw [fqa, fqb, fqc, la, lb, lc] at r_
                  obtain rfl := r_
                  show Go _ _ _ _ _ _ _ [(.long (((v7.toInt64 * (1 : Int32).toInt64) + (v8.toInt64 * (2 : Int32).toInt64)) + (i4.toInt64 * (2 : Int32).toInt64)))]
                  refine px_lload S142 at_413 rfl rfl ?_
                  refine px_lif S142 at_415 rfl at_416 (by decide) (pc' := 436) rfl rfl (fun (hc143 : ¬ (((v7.toInt64 * (1 : Int32).toInt64) + (v8.toInt64 * (2 : Int32).toInt64)) + (i4.toInt64 * (2 : Int32).toInt64)).toInt = (((v7.toInt64 * (1 : Int32).toInt64) + (v8.toInt64 * (2 : Int32).toInt64)) + (i4.toInt64 * (2 : Int32).toInt64)).toInt) => absurd rfl hc143) (fun (hc143 : (((v7.toInt64 * (1 : Int32).toInt64) + (v8.toInt64 * (2 : Int32).toInt64)) + (i4.toInt64 * (2 : Int32).toInt64)).toInt = (((v7.toInt64 * (1 : Int32).toInt64) + (v8.toInt64 * (2 : Int32).toInt64)) + (i4.toInt64 * (2 : Int32).toInt64)).toInt) => ?_)
                  refine px_aload S142 at_419 rfl rfl rfl ?_
                  refine px_aload S142 at_421 rfl rfl rfl ?_
                  refine px_callV (Cn := "com/example/colonnade/colonnade/compress/HuffmanEncoder") (as' := [(.ref b9)]) (st := []) (W := 0) S142 (c_cost (a := a) (b := b) (c := c) hw S142.size X_t F_lengths_t A_l A_b9 (by omega) (by omega) (by omega) hz.out) X_t (hw _ (List.mem_of_getElem? (i := 47) rfl)) (hw _ (List.mem_of_getElem? (i := 48) rfl)) (hw _ (List.mem_of_getElem? (i := 50) rfl)) (hw _ (List.mem_of_getElem? (i := 49) rfl)) (hw _ (List.mem_of_getElem? (i := 3) rfl)) (hw _ (List.mem_of_getElem? (i := 51) rfl)) (S142.nf (hw _ (List.mem_of_getElem? (i := 50) rfl))) (by decide) pd_0_2 rfl rfl (by decide) rfl (by decide) (by decide) (by decide) at_423 rfl rfl (fun T144 h144 v144 S144 q144 => ?_)
                  obtain ⟨r_, rfl⟩ := q144
                  rw [foa, fob, foc, la, lb, lc] at r_
                  obtain rfl := r_
                  show Go _ _ _ _ _ _ _ [(.long (((v5.toInt64 * (1 : Int32).toInt64) + (v6.toInt64 * (2 : Int32).toInt64)) + (i2.toInt64 * (2 : Int32).toInt64)))]
                  refine px_lload S144 at_426 rfl rfl ?_
                  refine px_lif S144 at_428 rfl at_429 (by decide) (pc' := 436) rfl rfl (fun (hc145 : ¬ (((v5.toInt64 * (1 : Int32).toInt64) + (v6.toInt64 * (2 : Int32).toInt64)) + (i2.toInt64 * (2 : Int32).toInt64)).toInt = (((v5.toInt64 * (1 : Int32).toInt64) + (v6.toInt64 * (2 : Int32).toInt64)) + (i2.toInt64 * (2 : Int32).toInt64)).toInt) => absurd rfl hc145) (fun (hc145 : (((v5.toInt64 * (1 : Int32).toInt64) + (v6.toInt64 * (2 : Int32).toInt64)) + (i2.toInt64 * (2 : Int32).toInt64)).toInt = (((v5.toInt64 * (1 : Int32).toInt64) + (v6.toInt64 * (2 : Int32).toInt64)) + (i2.toInt64 * (2 : Int32).toInt64)).toInt) => ?_)
                  refine px_iconst (v := (1 : Int32)) S144 at_432 rfl rfl ?_
                  refine px_goto S144 at_433 (by decide) (pc' := 437) rfl ?_
                  exact px_retN (t := .boolean) (z' := (1 : Int32)) S144 at_437 rfl (by simp) rfl (by decide) (by decide) (rfl)
                · refine px_iconst (v := (1 : Int32)) S21 at_332 rfl rfl ?_
                  refine px_istore S21 at_333 rfl (L' := #[.val (.int i0), .val (.long i1), .second, .val (.int i2), .val (.long i3), .second, .val (.int i4), .val (.int i5), .val (.int v1), .val (.int v2), .val (.int v3), .val (.int v4), .val (.int v5), .val (.int v6), .val (.int v7), .val (.int v8), .val (.ref b9), .val (.ref b13), .val (.ref b19), .val (.int (1 : Int32)), .val (.int (1 : Int32)), .val (.int (1 : Int32)), .val (.int (1 : Int32)), .val (.int (3 : Int32)), .val (.int (2 : Int32)), .val (.int (1 : Int32)), .val (.int (2 : Int32)), .unset, .unset, .unset, .unset]) rfl ?_
                  refine px_goto S21 at_335 (by decide) (pc' := 341) rfl ?_
                  obtain ⟨la, lb, lc⟩ : (fl2 a).toInt = 2 ∧ (fl2 b).toInt = 1 ∧ (fl2 c).toInt = 2 := by have u1 := hna.out; have u2 := hnb.out; have u3 := hnc.out; unfold LenP at hL; omega
                  replace la : fl2 a = (2 : Int32) := i32_of la rfl
                  replace lb : fl2 b = (1 : Int32) := i32_of lb rfl
                  replace lc : fl2 c = (2 : Int32) := i32_of lc rfl
                  refine px_iload S21 at_341 rfl rfl ?_
                  refine px_i2l S21 at_343 rfl ?_
                  refine px_iload S21 at_344 rfl rfl ?_
                  refine px_i2l S21 at_346 rfl ?_
                  refine px_lmul S21 at_347 rfl ?_
                  refine px_iload S21 at_348 rfl rfl ?_
                  refine px_i2l S21 at_350 rfl ?_
                  refine px_iload S21 at_351 rfl rfl ?_
                  refine px_i2l S21 at_353 rfl ?_
                  refine px_lmul S21 at_354 rfl ?_
                  refine px_ladd S21 at_355 rfl ?_
                  refine px_iload S21 at_356 rfl rfl ?_
                  refine px_i2l S21 at_358 rfl ?_
                  refine px_iload S21 at_359 rfl rfl ?_
                  refine px_i2l S21 at_361 rfl ?_
                  refine px_lmul S21 at_362 rfl ?_
                  refine px_ladd S21 at_363 rfl ?_
                  refine px_lstore S21 at_364 rfl (L' := #[.val (.int i0), .val (.long i1), .second, .val (.int i2), .val (.long i3), .second, .val (.int i4), .val (.int i5), .val (.int v1), .val (.int v2), .val (.int v3), .val (.int v4), .val (.int v5), .val (.int v6), .val (.int v7), .val (.int v8), .val (.ref b9), .val (.ref b13), .val (.ref b19), .val (.int (1 : Int32)), .val (.int (1 : Int32)), .val (.int (1 : Int32)), .val (.int (1 : Int32)), .val (.int (3 : Int32)), .val (.int (2 : Int32)), .val (.int (1 : Int32)), .val (.int (2 : Int32)), .val (.long (((v7.toInt64 * (2 : Int32).toInt64) + (v8.toInt64 * (1 : Int32).toInt64)) + (i4.toInt64 * (2 : Int32).toInt64))), .second, .unset, .unset]) rfl ?_
                  refine px_iload S21 at_366 rfl rfl ?_
                  refine px_i2l S21 at_368 rfl ?_
                  refine px_iload S21 at_369 rfl rfl ?_
                  refine px_i2l S21 at_371 rfl ?_
                  refine px_lmul S21 at_372 rfl ?_
                  refine px_iload S21 at_373 rfl rfl ?_
                  refine px_i2l S21 at_375 rfl ?_
                  refine px_iload S21 at_376 rfl rfl ?_
                  refine px_i2l S21 at_378 rfl ?_
                  refine px_lmul S21 at_379 rfl ?_
                  refine px_ladd S21 at_380 rfl ?_
                  refine px_iloadN S21 at_381 rfl rfl ?_
                  refine px_i2l S21 at_382 rfl ?_
                  refine px_iload S21 at_383 rfl rfl ?_
                  refine px_i2l S21 at_385 rfl ?_
                  refine px_lmul S21 at_386 rfl ?_
                  refine px_ladd S21 at_387 rfl ?_
                  refine px_lstore S21 at_388 rfl (L' := #[.val (.int i0), .val (.long i1), .second, .val (.int i2), .val (.long i3), .second, .val (.int i4), .val (.int i5), .val (.int v1), .val (.int v2), .val (.int v3), .val (.int v4), .val (.int v5), .val (.int v6), .val (.int v7), .val (.int v8), .val (.ref b9), .val (.ref b13), .val (.ref b19), .val (.int (1 : Int32)), .val (.int (1 : Int32)), .val (.int (1 : Int32)), .val (.int (1 : Int32)), .val (.int (3 : Int32)), .val (.int (2 : Int32)), .val (.int (1 : Int32)), .val (.int (2 : Int32)), .val (.long (((v7.toInt64 * (2 : Int32).toInt64) + (v8.toInt64 * (1 : Int32).toInt64)) + (i4.toInt64 * (2 : Int32).toInt64))), .second, .val (.long (((v5.toInt64 * (2 : Int32).toInt64) + (v6.toInt64 * (1 : Int32).toInt64)) + (i2.toInt64 * (2 : Int32).toInt64))), .second]) rfl ?_
                  refine px_iload S21 at_390 rfl rfl ?_
                  refine px_iload S21 at_392 rfl rfl ?_
                  refine px_iconst (v := (2 : Int32)) S21 at_394 rfl rfl ?_
                  refine px_icmp S21 at_395 (by decide) (pc' := 402) rfl rfl (fun (hc146 : (3 : Int32).toInt < (2 : Int32).toInt) => by exfalso; revert hc146; decide) (fun (hc146 : (3 : Int32).toInt ≥ (2 : Int32).toInt) => ?_)
                  refine px_iconst (v := (1 : Int32)) S21 at_398 rfl rfl ?_
                  refine px_goto S21 at_399 (by decide) (pc' := 403) rfl ?_
                  refine px_icmp S21 at_403 (by decide) (pc' := 436) rfl rfl (fun (hc147 : ¬ (1 : Int32).toInt = (1 : Int32).toInt) => absurd rfl hc147) (fun (hc147 : (1 : Int32).toInt = (1 : Int32).toInt) => ?_)
                  refine px_aload S21 at_406 rfl rfl rfl ?_
                  refine px_aload S21 at_408 rfl rfl rfl ?_
                  refine px_callV (Cn := "com/example/colonnade/colonnade/compress/HuffmanEncoder") (as' := [(.ref b13)]) (st := []) (W := 0) S21 (c_cost (a := a) (b := b) (c := c) hw S21.size X_t F_lengths_t A_l A_b13 (by omega) (by omega) (by omega) hz.out) X_t (hw _ (List.mem_of_getElem? (i := 47) rfl)) (hw _ (List.mem_of_getElem? (i := 48) rfl)) (hw _ (List.mem_of_getElem? (i := 50) rfl)) (hw _ (List.mem_of_getElem? (i := 49) rfl)) (hw _ (List.mem_of_getElem? (i := 3) rfl)) (hw _ (List.mem_of_getElem? (i := 51) rfl)) (S21.nf (hw _ (List.mem_of_getElem? (i := 50) rfl))) (by decide) pd_0_2 rfl rfl (by decide) rfl (by decide) (by decide) (by decide) at_410 rfl rfl (fun T148 h148 v148 S148 q148 => ?_)
                  obtain ⟨r_, rfl⟩ := q148
                  rw [fqa, fqb, fqc, la, lb, lc] at r_
                  obtain rfl := r_
                  show Go _ _ _ _ _ _ _ [(.long (((v7.toInt64 * (2 : Int32).toInt64) + (v8.toInt64 * (1 : Int32).toInt64)) + (i4.toInt64 * (2 : Int32).toInt64)))]
                  refine px_lload S148 at_413 rfl rfl ?_
                  refine px_lif S148 at_415 rfl at_416 (by decide) (pc' := 436) rfl rfl (fun (hc149 : ¬ (((v7.toInt64 * (2 : Int32).toInt64) + (v8.toInt64 * (1 : Int32).toInt64)) + (i4.toInt64 * (2 : Int32).toInt64)).toInt = (((v7.toInt64 * (2 : Int32).toInt64) + (v8.toInt64 * (1 : Int32).toInt64)) + (i4.toInt64 * (2 : Int32).toInt64)).toInt) => absurd rfl hc149) (fun (hc149 : (((v7.toInt64 * (2 : Int32).toInt64) + (v8.toInt64 * (1 : Int32).toInt64)) + (i4.toInt64 * (2 : Int32).toInt64)).toInt = (((v7.toInt64 * (2 : Int32).toInt64) + (v8.toInt64 * (1 : Int32).toInt64)) + (i4.toInt64 * (2 : Int32).toInt64)).toInt) => ?_)
                  refine px_aload S148 at_419 rfl rfl rfl ?_
                  refine px_aload S148 at_421 rfl rfl rfl ?_
                  refine px_callV (Cn := "com/example/colonnade/colonnade/compress/HuffmanEncoder") (as' := [(.ref b9)]) (st := []) (W := 0) S148 (c_cost (a := a) (b := b) (c := c) hw S148.size X_t F_lengths_t A_l A_b9 (by omega) (by omega) (by omega) hz.out) X_t (hw _ (List.mem_of_getElem? (i := 47) rfl)) (hw _ (List.mem_of_getElem? (i := 48) rfl)) (hw _ (List.mem_of_getElem? (i := 50) rfl)) (hw _ (List.mem_of_getElem? (i := 49) rfl)) (hw _ (List.mem_of_getElem? (i := 3) rfl)) (hw _ (List.mem_of_getElem? (i := 51) rfl)) (S148.nf (hw _ (List.mem_of_getElem? (i := 50) rfl))) (by decide) pd_0_2 rfl rfl (by decide) rfl (by decide) (by decide) (by decide) at_423 rfl rfl (fun T150 h150 v150 S150 q150 => ?_)
                  obtain ⟨r_, rfl⟩ := q150
                  rw [foa, fob, foc, la, lb, lc] at r_
                  obtain rfl := r_
                  show Go _ _ _ _ _ _ _ [(.long (((v5.toInt64 * (2 : Int32).toInt64) + (v6.toInt64 * (1 : Int32).toInt64)) + (i2.toInt64 * (2 : Int32).toInt64)))]
                  refine px_lload S150 at_426 rfl rfl ?_
                  refine px_lif S150 at_428 rfl at_429 (by decide) (pc' := 436) rfl rfl (fun (hc151 : ¬ (((v5.toInt64 * (2 : Int32).toInt64) + (v6.toInt64 * (1 : Int32).toInt64)) + (i2.toInt64 * (2 : Int32).toInt64)).toInt = (((v5.toInt64 * (2 : Int32).toInt64) + (v6.toInt64 * (1 : Int32).toInt64)) + (i2.toInt64 * (2 : Int32).toInt64)).toInt) => absurd rfl hc151) (fun (hc151 : (((v5.toInt64 * (2 : Int32).toInt64) + (v6.toInt64 * (1 : Int32).toInt64)) + (i2.toInt64 * (2 : Int32).toInt64)).toInt = (((v5.toInt64 * (2 : Int32).toInt64) + (v6.toInt64 * (1 : Int32).toInt64)) + (i2.toInt64 * (2 : Int32).toInt64)).toInt) => ?_)
                  refine px_iconst (v := (1 : Int32)) S150 at_432 rfl rfl ?_
                  refine px_goto S150 at_433 (by decide) (pc' := 437) rfl ?_
                  exact px_retN (t := .boolean) (z' := (1 : Int32)) S150 at_437 rfl (by simp) rfl (by decide) (by decide) (rfl)
              · refine px_iconst (v := (1 : Int32)) S21 at_319 rfl rfl ?_
                refine px_istore S21 at_320 rfl (L' := #[.val (.int i0), .val (.long i1), .second, .val (.int i2), .val (.long i3), .second, .val (.int i4), .val (.int i5), .val (.int v1), .val (.int v2), .val (.int v3), .val (.int v4), .val (.int v5), .val (.int v6), .val (.int v7), .val (.int v8), .val (.ref b9), .val (.ref b13), .val (.ref b19), .val (.int (1 : Int32)), .val (.int (1 : Int32)), .val (.int (1 : Int32)), .val (.int (1 : Int32)), .val (.int (3 : Int32)), .val (.int (2 : Int32)), .val (.int (2 : Int32)), .val (.int (1 : Int32)), .unset, .unset, .unset, .unset]) rfl ?_
                refine px_goto S21 at_322 (by decide) (pc' := 341) rfl ?_
                obtain ⟨la, lb, lc⟩ : (fl2 a).toInt = 2 ∧ (fl2 b).toInt = 2 ∧ (fl2 c).toInt = 1 := by have u1 := hna.out; have u2 := hnb.out; have u3 := hnc.out; unfold LenP at hL; omega
                replace la : fl2 a = (2 : Int32) := i32_of la rfl
                replace lb : fl2 b = (2 : Int32) := i32_of lb rfl
                replace lc : fl2 c = (1 : Int32) := i32_of lc rfl
                refine px_iload S21 at_341 rfl rfl ?_
                refine px_i2l S21 at_343 rfl ?_
                refine px_iload S21 at_344 rfl rfl ?_
                refine px_i2l S21 at_346 rfl ?_
                refine px_lmul S21 at_347 rfl ?_
                refine px_iload S21 at_348 rfl rfl ?_
                refine px_i2l S21 at_350 rfl ?_
                refine px_iload S21 at_351 rfl rfl ?_
                refine px_i2l S21 at_353 rfl ?_
                refine px_lmul S21 at_354 rfl ?_
                refine px_ladd S21 at_355 rfl ?_
                refine px_iload S21 at_356 rfl rfl ?_
                refine px_i2l S21 at_358 rfl ?_
                refine px_iload S21 at_359 rfl rfl ?_
                refine px_i2l S21 at_361 rfl ?_
                refine px_lmul S21 at_362 rfl ?_
                refine px_ladd S21 at_363 rfl ?_
                refine px_lstore S21 at_364 rfl (L' := #[.val (.int i0), .val (.long i1), .second, .val (.int i2), .val (.long i3), .second, .val (.int i4), .val (.int i5), .val (.int v1), .val (.int v2), .val (.int v3), .val (.int v4), .val (.int v5), .val (.int v6), .val (.int v7), .val (.int v8), .val (.ref b9), .val (.ref b13), .val (.ref b19), .val (.int (1 : Int32)), .val (.int (1 : Int32)), .val (.int (1 : Int32)), .val (.int (1 : Int32)), .val (.int (3 : Int32)), .val (.int (2 : Int32)), .val (.int (2 : Int32)), .val (.int (1 : Int32)), .val (.long (((v7.toInt64 * (2 : Int32).toInt64) + (v8.toInt64 * (2 : Int32).toInt64)) + (i4.toInt64 * (1 : Int32).toInt64))), .second, .unset, .unset]) rfl ?_
                refine px_iload S21 at_366 rfl rfl ?_
                refine px_i2l S21 at_368 rfl ?_
                refine px_iload S21 at_369 rfl rfl ?_
                refine px_i2l S21 at_371 rfl ?_
                refine px_lmul S21 at_372 rfl ?_
                refine px_iload S21 at_373 rfl rfl ?_
                refine px_i2l S21 at_375 rfl ?_
                refine px_iload S21 at_376 rfl rfl ?_
                refine px_i2l S21 at_378 rfl ?_
                refine px_lmul S21 at_379 rfl ?_
                refine px_ladd S21 at_380 rfl ?_
                refine px_iloadN S21 at_381 rfl rfl ?_
                refine px_i2l S21 at_382 rfl ?_
                refine px_iload S21 at_383 rfl rfl ?_
                refine px_i2l S21 at_385 rfl ?_
                refine px_lmul S21 at_386 rfl ?_
                refine px_ladd S21 at_387 rfl ?_
                refine px_lstore S21 at_388 rfl (L' := #[.val (.int i0), .val (.long i1), .second, .val (.int i2), .val (.long i3), .second, .val (.int i4), .val (.int i5), .val (.int v1), .val (.int v2), .val (.int v3), .val (.int v4), .val (.int v5), .val (.int v6), .val (.int v7), .val (.int v8), .val (.ref b9), .val (.ref b13), .val (.ref b19), .val (.int (1 : Int32)), .val (.int (1 : Int32)), .val (.int (1 : Int32)), .val (.int (1 : Int32)), .val (.int (3 : Int32)), .val (.int (2 : Int32)), .val (.int (2 : Int32)), .val (.int (1 : Int32)), .val (.long (((v7.toInt64 * (2 : Int32).toInt64) + (v8.toInt64 * (2 : Int32).toInt64)) + (i4.toInt64 * (1 : Int32).toInt64))), .second, .val (.long (((v5.toInt64 * (2 : Int32).toInt64) + (v6.toInt64 * (2 : Int32).toInt64)) + (i2.toInt64 * (1 : Int32).toInt64))), .second]) rfl ?_
                refine px_iload S21 at_390 rfl rfl ?_
                refine px_iload S21 at_392 rfl rfl ?_
                refine px_iconst (v := (2 : Int32)) S21 at_394 rfl rfl ?_
                refine px_icmp S21 at_395 (by decide) (pc' := 402) rfl rfl (fun (hc152 : (3 : Int32).toInt < (2 : Int32).toInt) => by exfalso; revert hc152; decide) (fun (hc152 : (3 : Int32).toInt ≥ (2 : Int32).toInt) => ?_)
                refine px_iconst (v := (1 : Int32)) S21 at_398 rfl rfl ?_
                refine px_goto S21 at_399 (by decide) (pc' := 403) rfl ?_
                refine px_icmp S21 at_403 (by decide) (pc' := 436) rfl rfl (fun (hc153 : ¬ (1 : Int32).toInt = (1 : Int32).toInt) => absurd rfl hc153) (fun (hc153 : (1 : Int32).toInt = (1 : Int32).toInt) => ?_)
                refine px_aload S21 at_406 rfl rfl rfl ?_
                refine px_aload S21 at_408 rfl rfl rfl ?_
                refine px_callV (Cn := "com/example/colonnade/colonnade/compress/HuffmanEncoder") (as' := [(.ref b13)]) (st := []) (W := 0) S21 (c_cost (a := a) (b := b) (c := c) hw S21.size X_t F_lengths_t A_l A_b13 (by omega) (by omega) (by omega) hz.out) X_t (hw _ (List.mem_of_getElem? (i := 47) rfl)) (hw _ (List.mem_of_getElem? (i := 48) rfl)) (hw _ (List.mem_of_getElem? (i := 50) rfl)) (hw _ (List.mem_of_getElem? (i := 49) rfl)) (hw _ (List.mem_of_getElem? (i := 3) rfl)) (hw _ (List.mem_of_getElem? (i := 51) rfl)) (S21.nf (hw _ (List.mem_of_getElem? (i := 50) rfl))) (by decide) pd_0_2 rfl rfl (by decide) rfl (by decide) (by decide) (by decide) at_410 rfl rfl (fun T154 h154 v154 S154 q154 => ?_)
                obtain ⟨r_, rfl⟩ := q154
                rw [fqa, fqb, fqc, la, lb, lc] at r_
                obtain rfl := r_
                show Go _ _ _ _ _ _ _ [(.long (((v7.toInt64 * (2 : Int32).toInt64) + (v8.toInt64 * (2 : Int32).toInt64)) + (i4.toInt64 * (1 : Int32).toInt64)))]
                refine px_lload S154 at_413 rfl rfl ?_
                refine px_lif S154 at_415 rfl at_416 (by decide) (pc' := 436) rfl rfl (fun (hc155 : ¬ (((v7.toInt64 * (2 : Int32).toInt64) + (v8.toInt64 * (2 : Int32).toInt64)) + (i4.toInt64 * (1 : Int32).toInt64)).toInt = (((v7.toInt64 * (2 : Int32).toInt64) + (v8.toInt64 * (2 : Int32).toInt64)) + (i4.toInt64 * (1 : Int32).toInt64)).toInt) => absurd rfl hc155) (fun (hc155 : (((v7.toInt64 * (2 : Int32).toInt64) + (v8.toInt64 * (2 : Int32).toInt64)) + (i4.toInt64 * (1 : Int32).toInt64)).toInt = (((v7.toInt64 * (2 : Int32).toInt64) + (v8.toInt64 * (2 : Int32).toInt64)) + (i4.toInt64 * (1 : Int32).toInt64)).toInt) => ?_)
                refine px_aload S154 at_419 rfl rfl rfl ?_
                refine px_aload S154 at_421 rfl rfl rfl ?_
                refine px_callV (Cn := "com/example/colonnade/colonnade/compress/HuffmanEncoder") (as' := [(.ref b9)]) (st := []) (W := 0) S154 (c_cost (a := a) (b := b) (c := c) hw S154.size X_t F_lengths_t A_l A_b9 (by omega) (by omega) (by omega) hz.out) X_t (hw _ (List.mem_of_getElem? (i := 47) rfl)) (hw _ (List.mem_of_getElem? (i := 48) rfl)) (hw _ (List.mem_of_getElem? (i := 50) rfl)) (hw _ (List.mem_of_getElem? (i := 49) rfl)) (hw _ (List.mem_of_getElem? (i := 3) rfl)) (hw _ (List.mem_of_getElem? (i := 51) rfl)) (S154.nf (hw _ (List.mem_of_getElem? (i := 50) rfl))) (by decide) pd_0_2 rfl rfl (by decide) rfl (by decide) (by decide) (by decide) at_423 rfl rfl (fun T156 h156 v156 S156 q156 => ?_)
                obtain ⟨r_, rfl⟩ := q156
                rw [foa, fob, foc, la, lb, lc] at r_
                obtain rfl := r_
                show Go _ _ _ _ _ _ _ [(.long (((v5.toInt64 * (2 : Int32).toInt64) + (v6.toInt64 * (2 : Int32).toInt64)) + (i2.toInt64 * (1 : Int32).toInt64)))]
                refine px_lload S156 at_426 rfl rfl ?_
                refine px_lif S156 at_428 rfl at_429 (by decide) (pc' := 436) rfl rfl (fun (hc157 : ¬ (((v5.toInt64 * (2 : Int32).toInt64) + (v6.toInt64 * (2 : Int32).toInt64)) + (i2.toInt64 * (1 : Int32).toInt64)).toInt = (((v5.toInt64 * (2 : Int32).toInt64) + (v6.toInt64 * (2 : Int32).toInt64)) + (i2.toInt64 * (1 : Int32).toInt64)).toInt) => absurd rfl hc157) (fun (hc157 : (((v5.toInt64 * (2 : Int32).toInt64) + (v6.toInt64 * (2 : Int32).toInt64)) + (i2.toInt64 * (1 : Int32).toInt64)).toInt = (((v5.toInt64 * (2 : Int32).toInt64) + (v6.toInt64 * (2 : Int32).toInt64)) + (i2.toInt64 * (1 : Int32).toInt64)).toInt) => ?_)
                refine px_iconst (v := (1 : Int32)) S156 at_432 rfl rfl ?_
                refine px_goto S156 at_433 (by decide) (pc' := 437) rfl ?_
                exact px_retN (t := .boolean) (z' := (1 : Int32)) S156 at_437 rfl (by simp) rfl (by decide) (by decide) (rfl)
  · refine px_iload S16 at_123 rfl rfl ?_
    refine px_iload S16 at_125 rfl rfl ?_
    refine px_icmp S16 at_127 (by decide) (pc' := 151) rfl rfl (fun (hc158 : v4.toInt = v1.toInt) => ?_) (fun (hc158 : ¬ v4.toInt = v1.toInt) => ?_)
    · exact J17 fq0 _ _ S16 ⟨A_b9, A_b13, fqa0, fqb0, fqc0⟩
    · refine px_iload S16 at_130 rfl rfl ?_
      refine px_iload S16 at_132 rfl rfl ?_
      refine px_icmp S16 at_134 (by decide) (pc' := 151) rfl rfl (fun (hc159 : v4.toInt = v2.toInt) => ?_) (fun (hc159 : ¬ v4.toInt = v2.toInt) => ?_)
      · exact J17 fq0 _ _ S16 ⟨A_b9, A_b13, fqa0, fqb0, fqc0⟩
      · refine px_iload S16 at_137 rfl rfl ?_
        refine px_iload S16 at_139 rfl rfl ?_
        refine px_icmp S16 at_141 (by decide) (pc' := 151) rfl rfl (fun (hc160 : v4.toInt = v3.toInt) => ?_) (fun (hc160 : ¬ v4.toInt = v3.toInt) => ?_)
        · exact J17 fq0 _ _ S16 ⟨A_b9, A_b13, fqa0, fqb0, fqc0⟩
        · refine px_aload S16 at_144 rfl rfl rfl ?_
          refine px_iload S16 at_146 rfl rfl ?_
          refine px_iload S16 at_148 rfl rfl ?_
          refine px_iastore (v := i5) S16 A_b13 g_b13 (i := z) ez (by omega) rfl at_150 rfl (fun T161 h161 S161 W161 A_b13 => ?_)
          replace A_b9 := A_b9.other W161 ne_b9_b13
          exact J17 (updF fq0 z i5) _ _ S161 ⟨A_b9, A_b13, by (try dsimp only); rw [updF_ne _ _ (by omega)]; exact fqa0, by (try dsimp only); rw [updF_ne _ _ (by omega)]; exact fqb0, by (try dsimp only); rw [updF_ne _ _ (by omega)]; exact fqc0⟩
set_option maxRecDepth 65536 in
set_option maxHeartbeats 40000000 in
theorem comes_1 {Post : Tables → Env → Array Value → State → Outcome → State → Prop} (hpost : ∀ tb e args s v u, (limb_1_1.after args s (.returned v) u = true ∧ limb_1_2.after args s (.returned v) u = true ∧ True) → FrameEnd s (.returned v) u (Jvm.fieldLocs frame_1_writes args s ++ Jvm.arrayLocs frame_1_arrays args s ++ Jvm.staticLocs frame_1_statics s) 32 2752 → Post tb e args s (.returned v) u) :
    ArmFor flags0 classFile x code maxLocals ret World_1 tables_1 room_1 Calls_1 rest_1 Pre_1 Post := by
  intro l hfl _ _ p e ha hc hk s m args below hf hA hF happ hP
  obtain ⟨hcalls, hrest, hpre⟩ := hP
  obtain ⟨-, -, -, hnamed, -, -, -, hat⟩ := (Spec.applies_iff hf).mp happ
  obtain ⟨hg, hn⟩ := and_e (Cond.before_iff.mp (show (Jvm.Cond.and given_1 narrow_1).before args s = true from hpre))
  obtain ⟨hcount, hg0⟩ := and_e hg
  obtain ⟨ha0, hg1⟩ := and_e hg0
  obtain ⟨ha1, hg2⟩ := and_e hg1
  obtain ⟨ha2, hg3⟩ := and_e hg2
  obtain ⟨ha3, hg4⟩ := and_e hg3
  obtain ⟨ha4, hg5⟩ := and_e hg4
  obtain ⟨w0, w1, w2, w3, w4, w5, rfl⟩ : ∃ w0 w1 w2 w3 w4 w5 : Value, args = #[w0, w1, w2, w3, w4, w5] := by
    have hs : args.size = 6 := by simpa [Cond.value, given_1] using hcount
    obtain ⟨L⟩ := args
    match L, hs with
    | [w0, w1, w2, w3, w4, w5], _ => exact ⟨w0, w1, w2, w3, w4, w5, rfl⟩
  have hw := fun d (hd : d ∈ tables_1) => atoms_spec (ws := Jvm.Cond.code x code maxLocals ret :: tables_1) hat d (List.mem_cons_of_mem _ hd)
  obtain ⟨i0, ei0⟩ := is_v ha0
  obtain rfl : w0 = (.int i0) := Option.some.inj ei0
  obtain ⟨i1, ei1⟩ := isL_v ha1
  obtain rfl : w1 = (.long i1) := Option.some.inj ei1
  obtain ⟨i2, ei2⟩ := is_v ha2
  obtain rfl : w2 = (.int i2) := Option.some.inj ei2
  obtain ⟨i3, ei3⟩ := isL_v ha3
  obtain rfl : w3 = (.long i3) := Option.some.inj ei3
  obtain ⟨i4, ei4⟩ := is_v ha4
  obtain rfl : w4 = (.int i4) := Option.some.inj ei4
  obtain ⟨i5, ei5⟩ := is_v hg5
  obtain rfl : w5 = (.int i5) := Option.some.inj ei5
  obtain ⟨n, o, h1, h2, h3, _, L, rfl, ⟨rfl, N⟩, hq⟩ := law_ctr (Z := s) hw i0 i1 i2 i3 i4 i5 (Nat.le_refl _) l tables_1 p e ha hc hk s m _ below hf ((Spec.applies_iff_loose hf).mp happ).1 ⟨rfl, State.Warmed39.refl s, rfl⟩ trivial
  refine ⟨n, _, h1, h2, h3, hpost _ _ _ _ _ _ ⟨Cond.after_iff.mpr rfl, Cond.after_iff.mpr (eq_i res_at (Term.int_eval (1)) rfl), trivial⟩ ⟨hq.1, hq.2.1, (hq.2.2.sift fun y hy => Or.inr (N y hy)).mono (Nat.le_refl _) (Nat.le_refl _)⟩⟩
theorem main_1_1 : Claimed_1_1 := comes_1 fun _ _ _ _ _ _ h hF => ⟨h.1, hF⟩
theorem main_1_2 : Claimed_1_2 := comes_1 fun _ _ _ _ _ _ h hF => ⟨h.2.1, hF⟩
end Jvm.Pilot.@@N@@
namespace Jvm.Pilot.@@N@@
open Jvm Jvm.ClassFile Sem Op Lib Jvm.Free Jvm.Stand Jvm.Pilot.@@N@@.Jvm.D
/-! MADE BY PROGRAM (witnessworld.py) out of the Statement's table words and the real class files: 12 classes; the members and pool entries that the words name. The judged class is class 1, her method 1. -/
namespace start1
open Jvm.ClassFile
def u (s : String) : CpInfo := .utf8 (stringToUtf16 s)
/-- a pool by its gaps: so many unusable entries, then the entry; so many at the end -/
def gap : Nat → List CpInfo → List CpInfo
  | 0, r => r
  | n + 1, r => .unusable :: gap n r
def poolList (es : List (Nat × CpInfo)) (last : Nat) : List CpInfo := es.foldr (fun e r => gap e.1 (e.2 :: r)) (gap last [])
def pool (es : List (Nat × CpInfo)) (last : Nat) : Array CpInfo := ⟨poolList es last⟩
def fileOf (pool : Array CpInfo) (this : Nat) (attrs : Array Attribute := #[]) (ms : Array MethodInfo := #[]) (fl : Nat := 33) (sup : Nat := 0) (ifs : Array Nat := #[]) (fds : Array FieldInfo := #[]) : ClassFile where
  minorVersion := 0
  majorVersion := 65
  constantPool := pool
  accessFlags := fl
  thisClass := this
  superClass := sup
  interfaces := ifs
  fields := fds
  methods := ms
  attributes := attrs
def plain (name : String) (sup : Option ClassId) : Class where
  name := name
  kind := .ordinary
  loader := none
  accessFlags := 33
  super := sup
  interfaces := #[]
  cf := none
  fields := #[]
  methods := #[]
  instanceTypes := #[]
  staticTypes := #[]
  resolved := #[]
  callSites := []
  init := .initialized
  statics := none
  mirror := none

def pool0 : Array CpInfo := pool [(5, u "<init>"), (0, u "()V"), (1, .class_ 10), (1, u "java/lang/Object")] 113

def k0c0 : Code := { maxStack := 0, maxLocals := 1, code := object_method_1_code, exceptionTable := #[], attributes := #[] }
def k0m0 : Method := { name := "<init>", desc := "()V", sig := { parameters := [], returnType := none }, accessFlags := 1, code := some k0c0 }
/-- java/lang/Object -/
def k0 : Class := { plain "java/lang/Object" none with
  accessFlags := 33
  interfaces := #[]
  cf := some (fileOf pool0 8 #[] #[{ accessFlags := 1, nameIndex := 5, descriptorIndex := 6, attributes := #[] }] 33 0 #[] #[])
  fields := #[]
  methods := #[k0m0]
  instanceTypes := #[]
  staticTypes := #[]
  resolved := Array.replicate 124 none
  statics := none }

def pool1 : Array CpInfo := pool [(2, .class_ 4), (0, .nameAndType 5 6), (0, u "java/lang/Object"), (0, u "<init>"), (0, u "()V"), (0, .class_ 8), (0, u "com/example/colonnade/colonnade/compress/HuffmanEncoder"), (0, .methodref 7 3), (0, .methodref 7 11), (0, .nameAndType 12 13), (0, u "build"), (0, u "([I)Z"), (0, .methodref 7 15), (0, .nameAndType 16 17), (0, u "cost"), (0, u "([I)J"), (0, .class_ 19), (0, u "com/example/colonnade/colonnade/compress/HuffmanEncoderCostPinLaw"), (2, u "law"), (0, u "(IJIJII)Z")] 5

def k1m0 : Method := { name := "<init>", desc := "()V", sig := { parameters := [], returnType := none }, accessFlags := 1, code := none }
def k1c1 : Code := { maxStack := 6, maxLocals := 31, code := code, exceptionTable := #[], attributes := #[] }
def k1m1 : Method := { name := "law", desc := "(IJIJII)Z", sig := { parameters := [.int, .long, .int, .long, .int, .int], returnType := some .boolean }, accessFlags := 9, code := some k1c1 }
/-- com/example/colonnade/colonnade/compress/HuffmanEncoderCostPinLaw -/
def k1 : Class := { plain "com/example/colonnade/colonnade/compress/HuffmanEncoderCostPinLaw" (some 0) with
  accessFlags := 49
  interfaces := #[]
  cf := some (fileOf pool1 18 #[] #[{ accessFlags := 1, nameIndex := 5, descriptorIndex := 6, attributes := #[] }, { accessFlags := 9, nameIndex := 22, descriptorIndex := 23, attributes := #[] }] 49 2 #[] #[])
  fields := #[]
  methods := #[k1m0, k1m1]
  instanceTypes := #[]
  staticTypes := #[]
  resolved := Array.replicate 29 none
  statics := none }

def pool2 : Array CpInfo := pool [(3, .methodref 4 5), (0, .class_ 6), (0, .nameAndType 7 8), (0, u "java/lang/Object"), (0, u "<init>"), (0, u "()V"), (0, .class_ 10), (0, u "com/example/colonnade/colonnade/compress/HuffmanEncoder"), (0, .fieldref 9 12), (0, .nameAndType 13 14), (0, u "lengths"), (0, u "[I"), (0, .fieldref 9 16), (0, .nameAndType 17 14), (0, u "codes"), (0, .methodref 9 19), (0, .nameAndType 20 21), (0, u "sortByOccurrences"), (0, u "([II[I)V"), (0, .methodref 9 23), (0, .nameAndType 24 21), (0, u "huffmanLengths"), (0, .methodref 9 26), (0, .nameAndType 27 21), (0, u "limitLengths"), (0, .fieldref 9 29), (0, .nameAndType 30 31), (0, u "width"), (0, u "I"), (0, .fieldref 9 33), (0, .nameAndType 34 31), (0, u "largest"), (0, .methodref 36 37), (0, .class_ 38), (0, .nameAndType 39 40), (0, u "java/lang/Math"), (0, u "max"), (0, u "(II)I"), (0, .methodref 9 42), (0, .nameAndType 43 44), (0, u "weight"), (0, u "(I)I"), (50, .methodref 36 96), (0, .nameAndType 97 40), (0, u "min"), (0, .long 2048), (1, u "BYTES"), (2, u "LONGEST"), (1, u "LONGEST_DESCRIPTION"), (1, u "DIRECT"), (1, u "WEIGHTS_LOG"), (3, u "build"), (0, u "([I)Z"), (2, u "cost"), (0, u "([I)J")] 7

def k2c0 : Code := { maxStack := 2, maxLocals := 1, code := prog_46_method_1_code, exceptionTable := #[], attributes := #[] }
def k2m0 : Method := { name := "<init>", desc := "()V", sig := { parameters := [], returnType := none }, accessFlags := 0, code := some k2c0 }
def k2c1 : Code := { maxStack := 6, maxLocals := 8, code := prog_46_method_2_code, exceptionTable := #[], attributes := #[] }
def k2m1 : Method := { name := "build", desc := "([I)Z", sig := { parameters := [(.array .int)], returnType := some .boolean }, accessFlags := 0, code := some k2c1 }
def k2c2 : Code := { maxStack := 6, maxLocals := 5, code := prog_46_method_3_code, exceptionTable := #[], attributes := #[] }
def k2m2 : Method := { name := "cost", desc := "([I)J", sig := { parameters := [(.array .int)], returnType := some .long }, accessFlags := 0, code := some k2c2 }
def k2c3 : Code := { maxStack := 3, maxLocals := 2, code := prog_46_method_7_code, exceptionTable := #[], attributes := #[] }
def k2m3 : Method := { name := "weight", desc := "(I)I", sig := { parameters := [.int], returnType := some .int }, accessFlags := 2, code := some k2c3 }
def k2c4 : Code := { maxStack := 4, maxLocals := 6, code := prog_46_method_9_code, exceptionTable := #[], attributes := #[] }
def k2m4 : Method := { name := "sortByOccurrences", desc := "([II[I)V", sig := { parameters := [(.array .int), .int, (.array .int)], returnType := none }, accessFlags := 10, code := some k2c4 }
def k2c5 : Code := { maxStack := 7, maxLocals := 12, code := prog_46_method_10_code, exceptionTable := #[], attributes := #[] }
def k2m5 : Method := { name := "huffmanLengths", desc := "([II[I)V", sig := { parameters := [(.array .int), .int, (.array .int)], returnType := none }, accessFlags := 2, code := some k2c5 }
def k2c6 : Code := { maxStack := 7, maxLocals := 11, code := prog_46_method_11_code, exceptionTable := #[], attributes := #[] }
def k2m6 : Method := { name := "limitLengths", desc := "([II[I)V", sig := { parameters := [(.array .int), .int, (.array .int)], returnType := none }, accessFlags := 2, code := some k2c6 }
/-- com/example/colonnade/colonnade/compress/HuffmanEncoder -/
def k2 : Class := { plain "com/example/colonnade/colonnade/compress/HuffmanEncoder" (some 0) with
  accessFlags := 48
  interfaces := #[]
  cf := some (fileOf pool2 9 #[] #[{ accessFlags := 0, nameIndex := 7, descriptorIndex := 8, attributes := #[] }, { accessFlags := 0, nameIndex := 113, descriptorIndex := 114, attributes := #[] }, { accessFlags := 0, nameIndex := 117, descriptorIndex := 118, attributes := #[] }, { accessFlags := 2, nameIndex := 43, descriptorIndex := 44, attributes := #[] }, { accessFlags := 10, nameIndex := 20, descriptorIndex := 21, attributes := #[] }, { accessFlags := 2, nameIndex := 24, descriptorIndex := 21, attributes := #[] }, { accessFlags := 2, nameIndex := 27, descriptorIndex := 21, attributes := #[] }] 48 4 #[] #[{ accessFlags := 26, nameIndex := 100, descriptorIndex := 31, attributes := #[] }, { accessFlags := 26, nameIndex := 103, descriptorIndex := 31, attributes := #[] }, { accessFlags := 26, nameIndex := 105, descriptorIndex := 31, attributes := #[] }, { accessFlags := 26, nameIndex := 107, descriptorIndex := 31, attributes := #[] }, { accessFlags := 26, nameIndex := 109, descriptorIndex := 31, attributes := #[] }, { accessFlags := 18, nameIndex := 13, descriptorIndex := 14, attributes := #[] }, { accessFlags := 18, nameIndex := 17, descriptorIndex := 14, attributes := #[] }, { accessFlags := 2, nameIndex := 30, descriptorIndex := 31, attributes := #[] }, { accessFlags := 2, nameIndex := 34, descriptorIndex := 31, attributes := #[] }])
  fields := #[{ name := "BYTES", type := .int, accessFlags := 26, slot := 0, constantValue := 0 }, { name := "LONGEST", type := .int, accessFlags := 26, slot := 1, constantValue := 0 }, { name := "LONGEST_DESCRIPTION", type := .int, accessFlags := 26, slot := 2, constantValue := 0 }, { name := "DIRECT", type := .int, accessFlags := 26, slot := 3, constantValue := 0 }, { name := "WEIGHTS_LOG", type := .int, accessFlags := 26, slot := 4, constantValue := 0 }, { name := "lengths", type := (.array .int), accessFlags := 18, slot := 0, constantValue := 0 }, { name := "codes", type := (.array .int), accessFlags := 18, slot := 1, constantValue := 0 }, { name := "width", type := .int, accessFlags := 2, slot := 2, constantValue := 0 }, { name := "largest", type := .int, accessFlags := 2, slot := 3, constantValue := 0 }]
  methods := #[k2m0, k2m1, k2m2, k2m3, k2m4, k2m5, k2m6]
  instanceTypes := #[(.array .int), (.array .int), .int, .int]
  staticTypes := #[.int, .int, .int, .int, .int]
  resolved := Array.replicate 126 none
  statics := none }

def pool3 : Array CpInfo := pool [(1, .class_ 2), (0, u "java/lang/Math"), (1, .class_ 6), (1, u "java/lang/Object"), (0, u "<init>"), (0, u "()V"), (89, .class_ 100), (1, u "java/lang/Math$RandomNumberGeneratorHolder"), (71, u "negativeZeroFloatBits"), (0, u "J"), (2, u "negativeZeroDoubleBits"), (21, u "max"), (2, u "min"), (43, u "$assertionsDisabled"), (0, u "Z"), (88, u "(II)I"), (2, u "twoToTheDoubleScaleDown"), (0, u "D"), (4, u "twoToTheDoubleScaleUp"), (9, u "E"), (3, u "PI"), (2, u "TAU"), (2, u "DEGREES_TO_RADIANS"), (0, u "RADIANS_TO_DEGREES")] 94

def k3m0 : Method := { name := "<init>", desc := "()V", sig := { parameters := [], returnType := none }, accessFlags := 2, code := none }
def k3c1 : Code := { maxStack := 2, maxLocals := 2, code := jdk_29_method_65_code, exceptionTable := #[], attributes := #[] }
def k3m1 : Method := { name := "max", desc := "(II)I", sig := { parameters := [.int, .int], returnType := some .int }, accessFlags := 9, code := some k3c1 }
def k3c2 : Code := { maxStack := 2, maxLocals := 2, code := jdk_29_method_69_code, exceptionTable := #[], attributes := #[] }
def k3m2 : Method := { name := "min", desc := "(II)I", sig := { parameters := [.int, .int], returnType := some .int }, accessFlags := 9, code := some k3c2 }
/-- java/lang/Math -/
def k3 : Class := { plain "java/lang/Math" (some 0) with
  accessFlags := 49
  interfaces := #[]
  cf := some (fileOf pool3 1 #[.nestMembers #[98]] #[{ accessFlags := 2, nameIndex := 7, descriptorIndex := 8, attributes := #[] }, { accessFlags := 9, nameIndex := 198, descriptorIndex := 335, attributes := #[] }, { accessFlags := 9, nameIndex := 201, descriptorIndex := 335, attributes := #[] }] 49 4 #[] #[{ accessFlags := 25, nameIndex := 354, descriptorIndex := 339, attributes := #[] }, { accessFlags := 25, nameIndex := 358, descriptorIndex := 339, attributes := #[] }, { accessFlags := 25, nameIndex := 361, descriptorIndex := 339, attributes := #[] }, { accessFlags := 26, nameIndex := 364, descriptorIndex := 339, attributes := #[] }, { accessFlags := 26, nameIndex := 365, descriptorIndex := 339, attributes := #[] }, { accessFlags := 26, nameIndex := 172, descriptorIndex := 173, attributes := #[] }, { accessFlags := 26, nameIndex := 176, descriptorIndex := 173, attributes := #[] }, { accessFlags := 8, nameIndex := 344, descriptorIndex := 339, attributes := #[] }, { accessFlags := 8, nameIndex := 338, descriptorIndex := 339, attributes := #[] }, { accessFlags := 4120, nameIndex := 245, descriptorIndex := 246, attributes := #[] }])
  fields := #[{ name := "E", type := .double, accessFlags := 25, slot := 0, constantValue := 0 }, { name := "PI", type := .double, accessFlags := 25, slot := 1, constantValue := 0 }, { name := "TAU", type := .double, accessFlags := 25, slot := 2, constantValue := 0 }, { name := "DEGREES_TO_RADIANS", type := .double, accessFlags := 26, slot := 3, constantValue := 0 }, { name := "RADIANS_TO_DEGREES", type := .double, accessFlags := 26, slot := 4, constantValue := 0 }, { name := "negativeZeroFloatBits", type := .long, accessFlags := 26, slot := 5, constantValue := 0 }, { name := "negativeZeroDoubleBits", type := .long, accessFlags := 26, slot := 6, constantValue := 0 }, { name := "twoToTheDoubleScaleUp", type := .double, accessFlags := 8, slot := 7, constantValue := 0 }, { name := "twoToTheDoubleScaleDown", type := .double, accessFlags := 8, slot := 8, constantValue := 0 }, { name := "$assertionsDisabled", type := .boolean, accessFlags := 4120, slot := 9, constantValue := 0 }]
  methods := #[k3m0, k3m1, k3m2]
  instanceTypes := #[]
  staticTypes := #[.double, .double, .double, .double, .double, .long, .long, .double, .double, .boolean]
  resolved := Array.replicate 460 none
  statics := none }

def pool4 : Array CpInfo := pool [(1, u "java/lang/Cloneable"), (0, .class_ 1), (0, u "java/lang/Object"), (0, .class_ 3)] 3

/-- java/lang/Cloneable -/
def k4 : Class := { plain "java/lang/Cloneable" (some 0) with
  accessFlags := 1537
  interfaces := #[]
  cf := some (fileOf pool4 2 #[] #[] 1537 4 #[] #[])
  fields := #[]
  methods := #[]
  instanceTypes := #[]
  staticTypes := #[]
  resolved := Array.replicate 8 none
  statics := none }

def pool5 : Array CpInfo := pool [(1, u "java/io/Serializable"), (0, .class_ 1), (0, u "java/lang/Object"), (0, .class_ 3)] 3

/-- java/io/Serializable -/
def k5 : Class := { plain "java/io/Serializable" (some 0) with
  accessFlags := 1537
  interfaces := #[]
  cf := some (fileOf pool5 2 #[] #[] 1537 4 #[] #[])
  fields := #[]
  methods := #[]
  instanceTypes := #[]
  staticTypes := #[]
  resolved := Array.replicate 8 none
  statics := none }

/-- the primitive byte -/
def k6 : Class := { plain "byte" none with kind := .primitive 'B', accessFlags := 0x411 }
/-- [B -/
def k7 : Class := { plain "[B" (some 0) with kind := .array 6 .byte, interfaces := #[4, 5], accessFlags := 1041 }

/-- the primitive int -/
def k8 : Class := { plain "int" none with kind := .primitive 'I', accessFlags := 0x411 }
/-- [I -/
def k9 : Class := { plain "[I" (some 0) with kind := .array 8 .int, interfaces := #[4, 5], accessFlags := 1041 }

/-- the primitive long -/
def k10 : Class := { plain "long" none with kind := .primitive 'J', accessFlags := 0x411 }
/-- [J -/
def k11 : Class := { plain "[J" (some 0) with kind := .array 10 .long, interfaces := #[4, 5], accessFlags := 1041 }

def heap : Heap := #[]
def classes : Array Class := #[k0, k1, k2, k3, k4, k5, k6, k7, k8, k9, k10, k11]
def interned : List (Array UInt16 × Addr) := []
def slotsUsed : Nat := 0
def theMethod : MethodId := ⟨1, 1⟩
def args0 : Array Value := #[.int 5, .long 1, .int 1, .long 9, .int 4, .int 4]
def aboutOver (below : List Frame) : State where
  vm := { classes := classes, interned := interned.toArray }
  heap := heap
  slotsUsed := slotsUsed
  threads := #[{ frames := .invoking theMethod args0 :: below }]
def below0 : List Frame := [.native { method := ⟨0, 0⟩, args := #[] }]
def about1 : State := aboutOver below0
def p0 : Program := .bare "" "" ""
def e0 : Env := launch0.env 0 0 0
theorem w_frames : about1.frames = Frame.invoking theMethod args0 :: below0 := rfl
set_option maxRecDepth 65536 in
theorem w_args : argsFit about1.vm theMethod args0 = true := by decide +kernel
set_option maxRecDepth 65536 in
theorem w_heap : heapFits about1 = true := by decide +kernel
set_option maxRecDepth 65536 in
theorem w_runnable : about1.curStatus? = some .runnable := by decide +kernel
set_option maxRecDepth 65536 in
theorem w_alone : about1.alone = true := by decide +kernel
set_option maxRecDepth 65536 in
theorem w_named : about1.methodNamed? x = some theMethod := by decide +kernel
set_option maxRecDepth 65536 in
theorem w_hears : about1.hears theMethod below0 = true := by decide +kernel
set_option maxRecDepth 65536 in
theorem w_ripe : about1.ripe theMethod args0 below0 = true := by decide +kernel
theorem w_running : about1.status = .running := rfl
set_option maxRecDepth 65536 in
theorem w_room : about1.hasRoom e0.platform room_1 = true :=
  launch0.hasRoom_least _ room_1 (by decide +kernel) (by decide +kernel) (by decide +kernel) (by decide +kernel) (by decide +kernel) (by decide +kernel)
theorem allAtoms_all (ts : List Jvm.Cond) (a : Array Jvm.Value) (st : Jvm.State) : (allAtoms ts).before a st = ts.all (fun c => c.before a st) := by
  induction ts with
  | nil => rfl
  | cons c t ih =>
    show (Jvm.Cond.and c (allAtoms t)).before a st = _
    rw [Jvm.Cond.before_and, ih, List.all_cons]
def words1 : List Jvm.Cond := Jvm.Cond.code x code maxLocals ret :: tables_1
/-- a 'code' word, met by the world's own term for the bytes: nothing is compared byte by byte -/
theorem code_word {y : MethodName} {bytes : ByteArray} {mx : Nat} {rt : Option FieldType} {a : Array Value} {s : State} {m : MethodId} {meth : Method} {c : Code} (h1 : s.methodNamed? y = some m) (h2 : s.vm.method? m = some meth) (h3 : meth.code = some c) (h4 : c.code = bytes)
    (h5 : (c.maxLocals == mx && c.exceptionTable.isEmpty && decide (c.maxStack ≤ mostOperands) && decide (meth.sig.returnType = rt) && !meth.locks && decide (parseMethodDescriptor y.desc = some meth.sig)) = true) : (Jvm.Cond.code y bytes mx rt).before a s = true := by
  simp only [Bool.and_eq_true, beq_iff_eq, Bool.not_eq_true', decide_eq_true_eq] at h5
  obtain ⟨⟨⟨⟨⟨g1, g2⟩, g3⟩, g4⟩, g5⟩, g6⟩ := h5
  simp [Cond.before, Cond.holds, Cond.value, h1, h2, h3, h4, g1, g2, g3, g4, g5, g6]
def isCode : Jvm.Cond → Bool
  | .code _ _ _ _ => true
  | _ => false
theorem all_split {L : List Jvm.Cond} {P : Jvm.Cond → Bool} (h1 : L.all (fun c => isCode c || P c) = true) (h2 : ∀ c ∈ L.filter isCode, P c = true) : L.all P = true := by
  refine List.all_eq_true.mpr fun c hc => ?_
  have h := List.all_eq_true.mp h1 c hc
  rcases Bool.eq_false_or_eq_true (isCode c) with hi | hi
  · exact h2 c (List.mem_filter.mpr ⟨hc, hi⟩)
  · simpa [hi] using h
set_option maxRecDepth 65536 in
theorem w_c0 : (Jvm.Cond.code x code maxLocals ret).before args0 about1 = true := code_word (m := ⟨1, 1⟩) (meth := k1m1) (c := k1c1) (by decide +kernel) rfl rfl rfl (by decide +kernel)
set_option maxRecDepth 65536 in
theorem w_c1 : (Jvm.Cond.code ({ cls := "com/example/colonnade/colonnade/compress/HuffmanEncoder", name := "<init>", desc := "()V" } : Jvm.MethodName) prog_46_method_1_code (1 : Nat) (Option.none : Option Jvm.ClassFile.FieldType)).before args0 about1 = true := code_word (m := ⟨2, 0⟩) (meth := k2m0) (c := k2c0) (by decide +kernel) rfl rfl rfl (by decide +kernel)
set_option maxRecDepth 65536 in
theorem w_c2 : (Jvm.Cond.code ({ cls := "java/lang/Object", name := "<init>", desc := "()V" } : Jvm.MethodName) object_method_1_code (1 : Nat) (Option.none : Option Jvm.ClassFile.FieldType)).before args0 about1 = true := code_word (m := ⟨0, 0⟩) (meth := k0m0) (c := k0c0) (by decide +kernel) rfl rfl rfl (by decide +kernel)
set_option maxRecDepth 65536 in
theorem w_c3 : (Jvm.Cond.code ({ cls := "com/example/colonnade/colonnade/compress/HuffmanEncoder", name := "build", desc := "([I)Z" } : Jvm.MethodName) prog_46_method_2_code (8 : Nat) (Option.some Jvm.ClassFile.FieldType.boolean)).before args0 about1 = true := code_word (m := ⟨2, 1⟩) (meth := k2m1) (c := k2c1) (by decide +kernel) rfl rfl rfl (by decide +kernel)
set_option maxRecDepth 65536 in
theorem w_c4 : (Jvm.Cond.code ({ cls := "com/example/colonnade/colonnade/compress/HuffmanEncoder", name := "sortByOccurrences", desc := "([II[I)V" } : Jvm.MethodName) prog_46_method_9_code (6 : Nat) (Option.none : Option Jvm.ClassFile.FieldType)).before args0 about1 = true := code_word (m := ⟨2, 4⟩) (meth := k2m4) (c := k2c4) (by decide +kernel) rfl rfl rfl (by decide +kernel)
set_option maxRecDepth 65536 in
theorem w_c5 : (Jvm.Cond.code ({ cls := "com/example/colonnade/colonnade/compress/HuffmanEncoder", name := "huffmanLengths", desc := "([II[I)V" } : Jvm.MethodName) prog_46_method_10_code (12 : Nat) (Option.none : Option Jvm.ClassFile.FieldType)).before args0 about1 = true := code_word (m := ⟨2, 5⟩) (meth := k2m5) (c := k2c5) (by decide +kernel) rfl rfl rfl (by decide +kernel)
set_option maxRecDepth 65536 in
theorem w_c6 : (Jvm.Cond.code ({ cls := "com/example/colonnade/colonnade/compress/HuffmanEncoder", name := "limitLengths", desc := "([II[I)V" } : Jvm.MethodName) prog_46_method_11_code (11 : Nat) (Option.none : Option Jvm.ClassFile.FieldType)).before args0 about1 = true := code_word (m := ⟨2, 6⟩) (meth := k2m6) (c := k2c6) (by decide +kernel) rfl rfl rfl (by decide +kernel)
set_option maxRecDepth 65536 in
theorem w_c7 : (Jvm.Cond.code ({ cls := "java/lang/Math", name := "min", desc := "(II)I" } : Jvm.MethodName) jdk_29_method_69_code (2 : Nat) (Option.some Jvm.ClassFile.FieldType.int)).before args0 about1 = true := code_word (m := ⟨3, 2⟩) (meth := k3m2) (c := k3c2) (by decide +kernel) rfl rfl rfl (by decide +kernel)
set_option maxRecDepth 65536 in
theorem w_c8 : (Jvm.Cond.code ({ cls := "java/lang/Math", name := "max", desc := "(II)I" } : Jvm.MethodName) jdk_29_method_65_code (2 : Nat) (Option.some Jvm.ClassFile.FieldType.int)).before args0 about1 = true := code_word (m := ⟨3, 1⟩) (meth := k3m1) (c := k3c1) (by decide +kernel) rfl rfl rfl (by decide +kernel)
set_option maxRecDepth 65536 in
theorem w_c9 : (Jvm.Cond.code ({ cls := "com/example/colonnade/colonnade/compress/HuffmanEncoder", name := "weight", desc := "(I)I" } : Jvm.MethodName) prog_46_method_7_code (2 : Nat) (Option.some Jvm.ClassFile.FieldType.int)).before args0 about1 = true := code_word (m := ⟨2, 3⟩) (meth := k2m3) (c := k2c3) (by decide +kernel) rfl rfl rfl (by decide +kernel)
set_option maxRecDepth 65536 in
theorem w_c10 : (Jvm.Cond.code ({ cls := "com/example/colonnade/colonnade/compress/HuffmanEncoder", name := "cost", desc := "([I)J" } : Jvm.MethodName) prog_46_method_3_code (5 : Nat) (Option.some Jvm.ClassFile.FieldType.long)).before args0 about1 = true := code_word (m := ⟨2, 2⟩) (meth := k2m2) (c := k2c2) (by decide +kernel) rfl rfl rfl (by decide +kernel)
def codes1 : List Jvm.Cond := [Jvm.Cond.code x code maxLocals ret, Jvm.Cond.code ({ cls := "com/example/colonnade/colonnade/compress/HuffmanEncoder", name := "<init>", desc := "()V" } : Jvm.MethodName) prog_46_method_1_code (1 : Nat) (Option.none : Option Jvm.ClassFile.FieldType), Jvm.Cond.code ({ cls := "java/lang/Object", name := "<init>", desc := "()V" } : Jvm.MethodName) object_method_1_code (1 : Nat) (Option.none : Option Jvm.ClassFile.FieldType), Jvm.Cond.code ({ cls := "com/example/colonnade/colonnade/compress/HuffmanEncoder", name := "build", desc := "([I)Z" } : Jvm.MethodName) prog_46_method_2_code (8 : Nat) (Option.some Jvm.ClassFile.FieldType.boolean), Jvm.Cond.code ({ cls := "com/example/colonnade/colonnade/compress/HuffmanEncoder", name := "sortByOccurrences", desc := "([II[I)V" } : Jvm.MethodName) prog_46_method_9_code (6 : Nat) (Option.none : Option Jvm.ClassFile.FieldType), Jvm.Cond.code ({ cls := "com/example/colonnade/colonnade/compress/HuffmanEncoder", name := "huffmanLengths", desc := "([II[I)V" } : Jvm.MethodName) prog_46_method_10_code (12 : Nat) (Option.none : Option Jvm.ClassFile.FieldType), Jvm.Cond.code ({ cls := "com/example/colonnade/colonnade/compress/HuffmanEncoder", name := "limitLengths", desc := "([II[I)V" } : Jvm.MethodName) prog_46_method_11_code (11 : Nat) (Option.none : Option Jvm.ClassFile.FieldType), Jvm.Cond.code ({ cls := "java/lang/Math", name := "min", desc := "(II)I" } : Jvm.MethodName) jdk_29_method_69_code (2 : Nat) (Option.some Jvm.ClassFile.FieldType.int), Jvm.Cond.code ({ cls := "java/lang/Math", name := "max", desc := "(II)I" } : Jvm.MethodName) jdk_29_method_65_code (2 : Nat) (Option.some Jvm.ClassFile.FieldType.int), Jvm.Cond.code ({ cls := "com/example/colonnade/colonnade/compress/HuffmanEncoder", name := "weight", desc := "(I)I" } : Jvm.MethodName) prog_46_method_7_code (2 : Nat) (Option.some Jvm.ClassFile.FieldType.int), Jvm.Cond.code ({ cls := "com/example/colonnade/colonnade/compress/HuffmanEncoder", name := "cost", desc := "([I)J" } : Jvm.MethodName) prog_46_method_3_code (5 : Nat) (Option.some Jvm.ClassFile.FieldType.long)]
set_option maxRecDepth 65536 in
theorem codes_eq : words1.filter isCode = codes1 := rfl
theorem w_codes : ∀ c ∈ words1.filter isCode, c.before args0 about1 = true := by
  rw [codes_eq]
  intro c hc
  simp only [codes1, List.mem_cons, List.not_mem_nil, or_false] at hc
  rcases hc with rfl | rfl | rfl | rfl | rfl | rfl | rfl | rfl | rfl | rfl | rfl
  · exact w_c0
  · exact w_c1
  · exact w_c2
  · exact w_c3
  · exact w_c4
  · exact w_c5
  · exact w_c6
  · exact w_c7
  · exact w_c8
  · exact w_c9
  · exact w_c10
set_option maxRecDepth 65536 in
theorem w_t1 : (words1.take 24).all (fun c => isCode c || c.before args0 about1) = true := by decide +kernel
set_option maxRecDepth 65536 in
theorem w_t2 : ((words1.drop 24).take 24).all (fun c => isCode c || c.before args0 about1) = true := by decide +kernel
set_option maxRecDepth 65536 in
theorem w_t3 : ((words1.drop 24).drop 24).all (fun c => isCode c || c.before args0 about1) = true := by decide +kernel
theorem w_tables : (allAtoms (Jvm.Cond.code x code maxLocals ret :: tables_1)).before args0 about1 = true := by
  rw [allAtoms_all]
  show words1.all (fun c => c.before args0 about1) = true
  refine all_split ?_ w_codes
  rw [← List.take_append_drop 24 words1, List.all_append, w_t1, ← List.take_append_drop 24 (words1.drop 24), List.all_append, w_t2, w_t3]
  rfl
set_option maxRecDepth 65536 in
theorem w_case : (Jvm.Cond.and given_1 narrow_1).before args0 about1 = true := by decide +kernel
theorem w_applies : (headSpec (Jvm.Cond.code x code maxLocals ret :: tables_1) room_1).applies x e0.platform about1 = true :=
  (Spec.applies_iff w_frames).mpr ⟨w_running, w_runnable, w_alone, w_named, w_hears, w_ripe, w_room, w_tables⟩
theorem atStart : AtStart classFile x code maxLocals ret World_1 tables_1 room_1 Calls_1 rest_1 Pre_1 launch0 p0 e0 about1 theMethod args0 below0 :=
  ⟨lists_1, trivial, launch0.admits_env _ _ _, launch0.least_env, fairChoices_fair.cas, fairChoices_fair.clock, w_frames, w_args, w_heap, w_applies, trivial, trivial, w_case⟩
end start1
theorem witness_1 : WitnessClaimed_1 := ⟨start1.p0, start1.e0, start1.about1, start1.theMethod, start1.args0, start1.below0, start1.atStart⟩
end Jvm.Pilot.@@N@@
