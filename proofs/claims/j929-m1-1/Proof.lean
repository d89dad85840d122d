import JvmDerived
import JvmDerived.Pilot.@@N@@Statement
import JvmDerived.Pilot.@@N@@Code
set_option linter.unusedVariables false
set_option linter.unusedSimpArgs false
namespace Jvm.OwnK
open Sem ClassFile Op Lib Jvm.Stand Jvm.Free Jvm.LawKit Jvm.RoadKit
def Ctx : Type := Program × Launch × Env × State × MethodId × Array Value × List Frame × Method × Code
def Ctx.p (K : Ctx) : Program := K.1
def Ctx.l (K : Ctx) : Launch := K.2.1
def Ctx.e (K : Ctx) : Env := K.2.2.1
def Ctx.s (K : Ctx) : State := K.2.2.2.1
def Ctx.m (K : Ctx) : MethodId := K.2.2.2.2.1
def Ctx.args (K : Ctx) : Array Value := K.2.2.2.2.2.1
def Ctx.below (K : Ctx) : List Frame := K.2.2.2.2.2.2.1
def Ctx.meth (K : Ctx) : Method := K.2.2.2.2.2.2.2.1
def Ctx.c (K : Ctx) : Code := K.2.2.2.2.2.2.2.2
/-- from here the run ends by a return that answers Q -/
def Go (K : Ctx) (R : Room) (n0 : Nat) (Q : Option Value → Heap → Prop) (T : State) (pc : Nat) (L : Array Slot) (st : List Value) : Prop :=
  ∃ (s₂ : State) (o : Outcome), Steps K.p.tables K.e K.below (T.setTop (mkF K.m pc L st)) s₂ ∧ s₂.status = .running ∧ Ended s₂ K.below o ∧
    ∃ (v : Option Value) (Lc : List Loc), o = .returned v ∧ (Q v s₂.heap ∧ Fr n0 Lc) ∧ FrameEnd K.s o s₂ Lc R.cells R.slots
/-- where the run stands -/
def St (K : Ctx) (Z : State) (R : Room) (y : MethodName) (bytes : ByteArray) (maxL : Nat) (ret : Option FieldType) (n0 : Nat) (T : State) (h : Heap) (cells slots : Nat) : Prop :=
  (∃ locs, Stand K.p K.l K.e R K.s K.m K.args K.below K.meth K.c T locs cells slots ∧ Fr n0 locs) ∧ T.heap = h ∧ n0 ≤ K.s.heap.size ∧ K.p.tables.exec = Jvm.exec ∧ Z.Warmed39 K.s.vm ∧ K.c.code = bytes ∧ K.c.maxLocals = maxL ∧
    K.meth.sig.returnType = ret ∧ K.meth.locks = false ∧ K.s.vm.findClass y.cls = some K.m.cls ∧ K.meth.name = y.name
/-- what a body does, called with the arguments as' at the heap h -/
def Ctr (Z : State) (n0 : Nat) (y : MethodName) (bytes : ByteArray) (maxL : Nat) (ret : Option FieldType) (R : Room) (as' : List Value) (h : Heap) (Q : Option Value → Heap → Prop) : Prop :=
  ∀ (l : Launch) (ws : List Jvm.Cond), MetFree l y (head1 (Jvm.Cond.code y bytes maxL ret :: ws) R) (fun a U => a = as'.toArray ∧ Z.Warmed39 U.vm ∧ U.heap = h) (fun _ _ _ _ _ => True)
    (fun _ U o U' => ∃ v L, o = .returned v ∧ (Q v U'.heap ∧ Fr n0 L) ∧ FrameEnd U o U' L R.cells R.slots)
section Kit
variable {K : Ctx} {Z : State} {R : Room} {y : MethodName} {bytes : ByteArray} {maxL : Nat} {ret : Option FieldType} {n0 : Nat} {T : State} {h : Heap} {cl sl : Nat} {Q : Option Value → Heap → Prop} {pc pc' : Nat} {L L' : Array Slot} {st : List Value} {a0 : Array Value}
theorem Go.step {T' : State} {st' : List Value} (hs : ∀ target, Steps K.p.tables K.e K.below (T'.setTop (mkF K.m pc' L' st')) target → Steps K.p.tables K.e K.below (T.setTop (mkF K.m pc L st)) target) (k : Go K R n0 Q T' pc' L' st') : Go K R n0 Q T pc L st := by
  obtain ⟨s₂, o, h1, r⟩ := k
  exact ⟨s₂, o, hs _ h1, r⟩
theorem St.size (S : St K Z R y bytes maxL ret n0 T h cl sl) : n0 ≤ h.size := by
  obtain ⟨⟨locs, X, hF⟩, e0, hn, -⟩ := S
  have q : K.s.heap.size ≤ T.heap.size := X.same.2.1
  rw [← e0]; exact Nat.le_trans hn q
theorem St.more (S : St K Z R y bytes maxL ret n0 T h cl sl) {cl' sl' : Nat} (h1 : cl ≤ cl') (h2 : sl ≤ sl') : St K Z R y bytes maxL ret n0 T h cl' sl' := by
  obtain ⟨⟨locs, X, hF⟩, r⟩ := S
  exact ⟨⟨locs, X.more h1 h2, hF⟩, r⟩
theorem Ctr.of {as' : List Value} (hpl : plainFor y = true) (hn : n0 ≤ h.size) (hef : ∀ m, entryFrame m as'.toArray maxL = mkF m 0 L []) (body : ∀ (K : Ctx) (T : State), St K Z R y bytes maxL ret n0 T h 0 0 → Go K R n0 Q T 0 L []) : Ctr Z n0 y bytes maxL ret R as' h Q := by
  intro l ws
  refine MetFree.of_bodySF hpl hisR ?_
  intro p e s m args below meth c s₁ Bd hml0 hP hK
  obtain ⟨rfl, hZ, hh⟩ := hP
  have e0 : s₁.heap = h := by rw [← hh, Bd.state]; rfl
  have X0 : Stand p l e R s m as'.toArray below meth c s₁ [] 0 0 := Stand.of_body Bd
  obtain ⟨s₂, o, h1, h2, h3, h4⟩ := body (p, l, e, s, m, as'.toArray, below, meth, c) s₁ ⟨⟨[], X0, Fr.nil _⟩, e0, by rw [← hh] at hn; exact hn, Bd.exec, hZ, Bd.bytes, hml0, Bd.returns, BodyLoose.notSynchronized Bd, findClass_of_methodNamed Bd.named, (name_of_methodNamed Bd.named Bd.method).1⟩
  exact ⟨s₂, o, castTop (hef m) h1, h2, h3, h4⟩
theorem Ctr.imp {as' : List Value} {Q' : Option Value → Heap → Prop} (C : Ctr Z n0 y bytes maxL ret R as' h Q) (hq : ∀ v h', Q v h' → Q' v h') : Ctr Z n0 y bytes maxL ret R as' h Q' := by
  intro l ws p e ha hc hk s m args below hf happ hP hK
  obtain ⟨n, o, h1, h2, h3, v, L, e1, ⟨e2, e3⟩, e4⟩ := C l ws p e ha hc hk s m args below hf happ hP hK
  exact ⟨n, o, h1, h2, h3, v, L, e1, ⟨hq _ _ e2, e3⟩, e4⟩

theorem px_iload (S : St K Z R y bytes maxL ret n0 T h cl sl) {k : Nat} {v : Int32} (hd : decode bytes pc = .ok (.iload k, 2)) (hp : pc + 2 = pc') (hl : L[k]? = some (.val (.int v))) (k : Go K R n0 Q T pc' L (.int v :: st)) : Go K R n0 Q T pc L st := by
  subst hp
  obtain ⟨⟨locs, X, hF⟩, e0, hn0, hx, hZ, hby, hml, hret, hlk, hown, hnm⟩ := S
  exact Go.step (fun _ t => XS.iload X.here hx rfl (hb hby hd) hl t) k
theorem px_iloadN (S : St K Z R y bytes maxL ret n0 T h cl sl) {k : Fin 4} {v : Int32} (hd : decode bytes pc = .ok (.iload_n k, 1)) (hp : pc + 1 = pc') (hl : L[k.val]? = some (.val (.int v))) (k : Go K R n0 Q T pc' L (.int v :: st)) : Go K R n0 Q T pc L st := by
  subst hp
  obtain ⟨⟨locs, X, hF⟩, e0, hn0, hx, hZ, hby, hml, hret, hlk, hown, hnm⟩ := S
  exact Go.step (fun _ t => XS.iloadN X.here hx rfl (hb hby hd) hl t) k
theorem px_lload (S : St K Z R y bytes maxL ret n0 T h cl sl) {k : Nat} {v : Int64} (hd : decode bytes pc = .ok (.lload k, 2)) (hp : pc + 2 = pc') (hl : L[k]? = some (.val (.long v))) (k : Go K R n0 Q T pc' L (.long v :: st)) : Go K R n0 Q T pc L st := by
  subst hp
  obtain ⟨⟨locs, X, hF⟩, e0, hn0, hx, hZ, hby, hml, hret, hlk, hown, hnm⟩ := S
  exact Go.step (fun _ t => XS.lload X.here hx rfl (hb hby hd) hl t) k
theorem px_lloadN (S : St K Z R y bytes maxL ret n0 T h cl sl) {k : Fin 4} {v : Int64} (hd : decode bytes pc = .ok (.lload_n k, 1)) (hp : pc + 1 = pc') (hl : L[k.val]? = some (.val (.long v))) (k : Go K R n0 Q T pc' L (.long v :: st)) : Go K R n0 Q T pc L st := by
  subst hp
  obtain ⟨⟨locs, X, hF⟩, e0, hn0, hx, hZ, hby, hml, hret, hlk, hown, hnm⟩ := S
  exact Go.step (fun _ t => XS.lloadN X.here hx rfl (hb hby hd) hl t) k
theorem px_aload (S : St K Z R y bytes maxL ret n0 T h cl sl) {k : Nat} {v : Value} (hd : decode bytes pc = .ok (.aload k, 2)) (hp : pc + 2 = pc') (hl : L[k]? = some (.val v)) (hv : v.isRef = true) (k : Go K R n0 Q T pc' L (v :: st)) : Go K R n0 Q T pc L st := by
  subst hp
  obtain ⟨⟨locs, X, hF⟩, e0, hn0, hx, hZ, hby, hml, hret, hlk, hown, hnm⟩ := S
  exact Go.step (fun _ t => XS.aload X.here hx rfl (hb hby hd) hl hv t) k
theorem px_aloadN (S : St K Z R y bytes maxL ret n0 T h cl sl) {k : Fin 4} {v : Value} (hd : decode bytes pc = .ok (.aload_n k, 1)) (hp : pc + 1 = pc') (hl : L[k.val]? = some (.val v)) (hv : v.isRef = true) (k : Go K R n0 Q T pc' L (v :: st)) : Go K R n0 Q T pc L st := by
  subst hp
  obtain ⟨⟨locs, X, hF⟩, e0, hn0, hx, hZ, hby, hml, hret, hlk, hown, hnm⟩ := S
  exact Go.step (fun _ t => XS.aloadN X.here hx rfl (hb hby hd) hl hv t) k
theorem px_istore (S : St K Z R y bytes maxL ret n0 T h cl sl) {k : Nat} {v : Int32} (hd : decode bytes pc = .ok (.istore k, 2)) (hp : pc + 2 = pc') (hl : storeLocals L k (.int v) = some L') (k : Go K R n0 Q T pc' L' st) : Go K R n0 Q T pc L (.int v :: st) := by
  subst hp
  obtain ⟨⟨locs, X, hF⟩, e0, hn0, hx, hZ, hby, hml, hret, hlk, hown, hnm⟩ := S
  exact Go.step (fun _ t => XS.istore X.here hx rfl (hb hby hd) rfl hl t) k
theorem px_istoreN (S : St K Z R y bytes maxL ret n0 T h cl sl) {k : Fin 4} {v : Int32} (hd : decode bytes pc = .ok (.istore_n k, 1)) (hp : pc + 1 = pc') (hl : storeLocals L k.val (.int v) = some L') (k : Go K R n0 Q T pc' L' st) : Go K R n0 Q T pc L (.int v :: st) := by
  subst hp
  obtain ⟨⟨locs, X, hF⟩, e0, hn0, hx, hZ, hby, hml, hret, hlk, hown, hnm⟩ := S
  exact Go.step (fun _ t => XS.istoreN X.here hx rfl (hb hby hd) rfl hl t) k
theorem px_lstore (S : St K Z R y bytes maxL ret n0 T h cl sl) {k : Nat} {v : Int64} (hd : decode bytes pc = .ok (.lstore k, 2)) (hp : pc + 2 = pc') (hl : storeLocals L k (.long v) = some L') (k : Go K R n0 Q T pc' L' st) : Go K R n0 Q T pc L (.long v :: st) := by
  subst hp
  obtain ⟨⟨locs, X, hF⟩, e0, hn0, hx, hZ, hby, hml, hret, hlk, hown, hnm⟩ := S
  exact Go.step (fun _ t => XS.lstore X.here hx rfl (hb hby hd) rfl hl t) k
theorem px_lstoreN (S : St K Z R y bytes maxL ret n0 T h cl sl) {k : Fin 4} {v : Int64} (hd : decode bytes pc = .ok (.lstore_n k, 1)) (hp : pc + 1 = pc') (hl : storeLocals L k.val (.long v) = some L') (k : Go K R n0 Q T pc' L' st) : Go K R n0 Q T pc L (.long v :: st) := by
  subst hp
  obtain ⟨⟨locs, X, hF⟩, e0, hn0, hx, hZ, hby, hml, hret, hlk, hown, hnm⟩ := S
  exact Go.step (fun _ t => XS.lstoreN X.here hx rfl (hb hby hd) rfl hl t) k
theorem px_astore (S : St K Z R y bytes maxL ret n0 T h cl sl) {k : Nat} {v : Value} (hd : decode bytes pc = .ok (.astore k, 2)) (hp : pc + 2 = pc') (hv : v.isRef = true) (hl : storeLocals L k v = some L') (k : Go K R n0 Q T pc' L' st) : Go K R n0 Q T pc L (v :: st) := by
  subst hp
  obtain ⟨⟨locs, X, hF⟩, e0, hn0, hx, hZ, hby, hml, hret, hlk, hown, hnm⟩ := S
  exact Go.step (fun _ t => XS.astore X.here hx rfl (hb hby hd) rfl hv hl t) k
theorem px_astoreN (S : St K Z R y bytes maxL ret n0 T h cl sl) {k : Fin 4} {v : Value} (hd : decode bytes pc = .ok (.astore_n k, 1)) (hp : pc + 1 = pc') (hv : v.isRef = true) (hl : storeLocals L k.val v = some L') (k : Go K R n0 Q T pc' L' st) : Go K R n0 Q T pc L (v :: st) := by
  subst hp
  obtain ⟨⟨locs, X, hF⟩, e0, hn0, hx, hZ, hby, hml, hret, hlk, hown, hnm⟩ := S
  exact Go.step (fun _ t => XS.astoreN X.here hx rfl (hb hby hd) rfl hv hl t) k
theorem px_iconst (S : St K Z R y bytes maxL ret n0 T h cl sl) {i : Int} {v : Int32} (hd : decode bytes pc = .ok (.iconst i, 1)) (hp : pc + 1 = pc') (hv : Int32.ofInt i = v) (k : Go K R n0 Q T pc' L (.int v :: st)) : Go K R n0 Q T pc L st := by
  subst hp
  obtain ⟨⟨locs, X, hF⟩, e0, hn0, hx, hZ, hby, hml, hret, hlk, hown, hnm⟩ := S
  exact Go.step (fun _ t => XS.iconst X.here hx rfl (hb hby hd) (by rw [hv]; exact t)) k
theorem px_bipush (S : St K Z R y bytes maxL ret n0 T h cl sl) {i : Int} {v : Int32} (hd : decode bytes pc = .ok (.bipush i, 2)) (hp : pc + 2 = pc') (hv : (Int8.ofInt i).toInt32 = v) (k : Go K R n0 Q T pc' L (.int v :: st)) : Go K R n0 Q T pc L st := by
  subst hp
  obtain ⟨⟨locs, X, hF⟩, e0, hn0, hx, hZ, hby, hml, hret, hlk, hown, hnm⟩ := S
  exact Go.step (fun _ t => XS.bipush X.here hx rfl (hb hby hd) (by rw [hv]; exact t)) k
theorem px_sipush (S : St K Z R y bytes maxL ret n0 T h cl sl) {i : Int} {v : Int32} (hd : decode bytes pc = .ok (.sipush i, 3)) (hp : pc + 3 = pc') (hv : (Int16.ofInt i).toInt32 = v) (k : Go K R n0 Q T pc' L (.int v :: st)) : Go K R n0 Q T pc L st := by
  subst hp
  obtain ⟨⟨locs, X, hF⟩, e0, hn0, hx, hZ, hby, hml, hret, hlk, hown, hnm⟩ := S
  exact Go.step (fun _ t => XS.sipush X.here hx rfl (hb hby hd) (by rw [hv]; exact t)) k
theorem px_lconst (S : St K Z R y bytes maxL ret n0 T h cl sl) {i : Fin 2} {v : Int64} (hd : decode bytes pc = .ok (.lconst i, 1)) (hp : pc + 1 = pc') (hv : Int64.ofNat i = v) (k : Go K R n0 Q T pc' L (.long v :: st)) : Go K R n0 Q T pc L st := by
  subst hp
  obtain ⟨⟨locs, X, hF⟩, e0, hn0, hx, hZ, hby, hml, hret, hlk, hown, hnm⟩ := S
  exact Go.step (fun _ t => XS.lconst X.here hx rfl (hb hby hd) (by rw [hv]; exact t)) k
theorem px_aconstNull (S : St K Z R y bytes maxL ret n0 T h cl sl) (hd : decode bytes pc = .ok (.aconst_null, 1)) (hp : pc + 1 = pc') (k : Go K R n0 Q T pc' L (.null :: st)) : Go K R n0 Q T pc L st := by
  subst hp
  obtain ⟨⟨locs, X, hF⟩, e0, hn0, hx, hZ, hby, hml, hret, hlk, hown, hnm⟩ := S
  exact Go.step (fun _ t => XS.aconstNull X.here hx rfl (hb hby hd) t) k
theorem px_iadd (S : St K Z R y bytes maxL ret n0 T h cl sl) {u v : Int32} (hd : decode bytes pc = .ok (.iadd, 1)) (hp : pc + 1 = pc') (k : Go K R n0 Q T pc' L (.int (u + v) :: st)) : Go K R n0 Q T pc L (.int v :: .int u :: st) := by
  subst hp
  obtain ⟨⟨locs, X, hF⟩, e0, hn0, hx, hZ, hby, hml, hret, hlk, hown, hnm⟩ := S
  exact Go.step (fun _ t => XS.iadd X.here hx rfl (hb hby hd) rfl t) k
theorem px_ladd (S : St K Z R y bytes maxL ret n0 T h cl sl) {u v : Int64} (hd : decode bytes pc = .ok (.ladd, 1)) (hp : pc + 1 = pc') (k : Go K R n0 Q T pc' L (.long (u + v) :: st)) : Go K R n0 Q T pc L (.long v :: .long u :: st) := by
  subst hp
  obtain ⟨⟨locs, X, hF⟩, e0, hn0, hx, hZ, hby, hml, hret, hlk, hown, hnm⟩ := S
  exact Go.step (fun _ t => XS.ladd X.here hx rfl (hb hby hd) rfl t) k
theorem px_isub (S : St K Z R y bytes maxL ret n0 T h cl sl) {u v : Int32} (hd : decode bytes pc = .ok (.isub, 1)) (hp : pc + 1 = pc') (k : Go K R n0 Q T pc' L (.int (u - v) :: st)) : Go K R n0 Q T pc L (.int v :: .int u :: st) := by
  subst hp
  obtain ⟨⟨locs, X, hF⟩, e0, hn0, hx, hZ, hby, hml, hret, hlk, hown, hnm⟩ := S
  exact Go.step (fun _ t => XS.isub X.here hx rfl (hb hby hd) rfl t) k
theorem px_lsub (S : St K Z R y bytes maxL ret n0 T h cl sl) {u v : Int64} (hd : decode bytes pc = .ok (.lsub, 1)) (hp : pc + 1 = pc') (k : Go K R n0 Q T pc' L (.long (u - v) :: st)) : Go K R n0 Q T pc L (.long v :: .long u :: st) := by
  subst hp
  obtain ⟨⟨locs, X, hF⟩, e0, hn0, hx, hZ, hby, hml, hret, hlk, hown, hnm⟩ := S
  exact Go.step (fun _ t => XS.lsub X.here hx rfl (hb hby hd) rfl t) k
theorem px_imul (S : St K Z R y bytes maxL ret n0 T h cl sl) {u v : Int32} (hd : decode bytes pc = .ok (.imul, 1)) (hp : pc + 1 = pc') (k : Go K R n0 Q T pc' L (.int (u * v) :: st)) : Go K R n0 Q T pc L (.int v :: .int u :: st) := by
  subst hp
  obtain ⟨⟨locs, X, hF⟩, e0, hn0, hx, hZ, hby, hml, hret, hlk, hown, hnm⟩ := S
  exact Go.step (fun _ t => XS.imul X.here hx rfl (hb hby hd) rfl t) k
theorem px_lmul (S : St K Z R y bytes maxL ret n0 T h cl sl) {u v : Int64} (hd : decode bytes pc = .ok (.lmul, 1)) (hp : pc + 1 = pc') (k : Go K R n0 Q T pc' L (.long (u * v) :: st)) : Go K R n0 Q T pc L (.long v :: .long u :: st) := by
  subst hp
  obtain ⟨⟨locs, X, hF⟩, e0, hn0, hx, hZ, hby, hml, hret, hlk, hown, hnm⟩ := S
  exact Go.step (fun _ t => XS.lmul X.here hx rfl (hb hby hd) rfl t) k
theorem px_iand (S : St K Z R y bytes maxL ret n0 T h cl sl) {u v : Int32} (hd : decode bytes pc = .ok (.iand, 1)) (hp : pc + 1 = pc') (k : Go K R n0 Q T pc' L (.int (u &&& v) :: st)) : Go K R n0 Q T pc L (.int v :: .int u :: st) := by
  subst hp
  obtain ⟨⟨locs, X, hF⟩, e0, hn0, hx, hZ, hby, hml, hret, hlk, hown, hnm⟩ := S
  exact Go.step (fun _ t => XS.iand X.here hx rfl (hb hby hd) rfl t) k
theorem px_land (S : St K Z R y bytes maxL ret n0 T h cl sl) {u v : Int64} (hd : decode bytes pc = .ok (.land, 1)) (hp : pc + 1 = pc') (k : Go K R n0 Q T pc' L (.long (u &&& v) :: st)) : Go K R n0 Q T pc L (.long v :: .long u :: st) := by
  subst hp
  obtain ⟨⟨locs, X, hF⟩, e0, hn0, hx, hZ, hby, hml, hret, hlk, hown, hnm⟩ := S
  exact Go.step (fun _ t => XS.land X.here hx rfl (hb hby hd) rfl t) k
theorem px_ior (S : St K Z R y bytes maxL ret n0 T h cl sl) {u v : Int32} (hd : decode bytes pc = .ok (.ior, 1)) (hp : pc + 1 = pc') (k : Go K R n0 Q T pc' L (.int (u ||| v) :: st)) : Go K R n0 Q T pc L (.int v :: .int u :: st) := by
  subst hp
  obtain ⟨⟨locs, X, hF⟩, e0, hn0, hx, hZ, hby, hml, hret, hlk, hown, hnm⟩ := S
  exact Go.step (fun _ t => XS.ior X.here hx rfl (hb hby hd) rfl t) k
theorem px_lor (S : St K Z R y bytes maxL ret n0 T h cl sl) {u v : Int64} (hd : decode bytes pc = .ok (.lor, 1)) (hp : pc + 1 = pc') (k : Go K R n0 Q T pc' L (.long (u ||| v) :: st)) : Go K R n0 Q T pc L (.long v :: .long u :: st) := by
  subst hp
  obtain ⟨⟨locs, X, hF⟩, e0, hn0, hx, hZ, hby, hml, hret, hlk, hown, hnm⟩ := S
  exact Go.step (fun _ t => XS.lor X.here hx rfl (hb hby hd) rfl t) k
theorem px_ixor (S : St K Z R y bytes maxL ret n0 T h cl sl) {u v : Int32} (hd : decode bytes pc = .ok (.ixor, 1)) (hp : pc + 1 = pc') (k : Go K R n0 Q T pc' L (.int (u ^^^ v) :: st)) : Go K R n0 Q T pc L (.int v :: .int u :: st) := by
  subst hp
  obtain ⟨⟨locs, X, hF⟩, e0, hn0, hx, hZ, hby, hml, hret, hlk, hown, hnm⟩ := S
  exact Go.step (fun _ t => XS.ixor X.here hx rfl (hb hby hd) rfl t) k
theorem px_lxor (S : St K Z R y bytes maxL ret n0 T h cl sl) {u v : Int64} (hd : decode bytes pc = .ok (.lxor, 1)) (hp : pc + 1 = pc') (k : Go K R n0 Q T pc' L (.long (u ^^^ v) :: st)) : Go K R n0 Q T pc L (.long v :: .long u :: st) := by
  subst hp
  obtain ⟨⟨locs, X, hF⟩, e0, hn0, hx, hZ, hby, hml, hret, hlk, hown, hnm⟩ := S
  exact Go.step (fun _ t => XS.lxor X.here hx rfl (hb hby hd) rfl t) k
def ushr (u v : Int32) : Int32 := (u.toUInt32 >>> (v &&& 31).toUInt32).toInt32
def ushrL (u : Int64) (v : Int32) : Int64 := (u.toUInt64 >>> (v &&& 0x3f).toInt64.toUInt64).toInt64
def i2c (v : Int32) : Int32 := v.toUInt32.toUInt16.toUInt32.toInt32
def i2b (v : Int32) : Int32 := v.toInt8.toInt32
def i2s (v : Int32) : Int32 := v.toInt16.toInt32
theorem px_ishl (S : St K Z R y bytes maxL ret n0 T h cl sl) {u v : Int32} (hd : decode bytes pc = .ok (.ishl, 1)) (hp : pc + 1 = pc') (k : Go K R n0 Q T pc' L (.int (u <<< (v &&& 31)) :: st)) : Go K R n0 Q T pc L (.int v :: .int u :: st) := by
  subst hp
  obtain ⟨⟨locs, X, hF⟩, e0, hn0, hx, hZ, hby, hml, hret, hlk, hown, hnm⟩ := S
  exact Go.step (fun _ t => XS.ishl X.here hx rfl (hb hby hd) rfl t) k
theorem px_ishr (S : St K Z R y bytes maxL ret n0 T h cl sl) {u v : Int32} (hd : decode bytes pc = .ok (.ishr, 1)) (hp : pc + 1 = pc') (k : Go K R n0 Q T pc' L (.int (u >>> (v &&& 31)) :: st)) : Go K R n0 Q T pc L (.int v :: .int u :: st) := by
  subst hp
  obtain ⟨⟨locs, X, hF⟩, e0, hn0, hx, hZ, hby, hml, hret, hlk, hown, hnm⟩ := S
  exact Go.step (fun _ t => XS.ishr X.here hx rfl (hb hby hd) rfl t) k
theorem px_iushr (S : St K Z R y bytes maxL ret n0 T h cl sl) {u v : Int32} (hd : decode bytes pc = .ok (.iushr, 1)) (hp : pc + 1 = pc') (k : Go K R n0 Q T pc' L (.int (ushr u v) :: st)) : Go K R n0 Q T pc L (.int v :: .int u :: st) := by
  subst hp
  obtain ⟨⟨locs, X, hF⟩, e0, hn0, hx, hZ, hby, hml, hret, hlk, hown, hnm⟩ := S
  exact Go.step (fun _ t => XS.iushr X.here hx rfl (hb hby hd) rfl t) k
theorem px_lshl (S : St K Z R y bytes maxL ret n0 T h cl sl) {u : Int64} {v : Int32} (hd : decode bytes pc = .ok (.lshl, 1)) (hp : pc + 1 = pc') (k : Go K R n0 Q T pc' L (.long (u <<< (v &&& 0x3f).toInt64) :: st)) : Go K R n0 Q T pc L (.int v :: .long u :: st) := by
  subst hp
  obtain ⟨⟨locs, X, hF⟩, e0, hn0, hx, hZ, hby, hml, hret, hlk, hown, hnm⟩ := S
  exact Go.step (fun _ t => XS.lshl X.here hx rfl (hb hby hd) rfl t) k
theorem px_lshr (S : St K Z R y bytes maxL ret n0 T h cl sl) {u : Int64} {v : Int32} (hd : decode bytes pc = .ok (.lshr, 1)) (hp : pc + 1 = pc') (k : Go K R n0 Q T pc' L (.long (u >>> (v &&& 0x3f).toInt64) :: st)) : Go K R n0 Q T pc L (.int v :: .long u :: st) := by
  subst hp
  obtain ⟨⟨locs, X, hF⟩, e0, hn0, hx, hZ, hby, hml, hret, hlk, hown, hnm⟩ := S
  exact Go.step (fun _ t => XS.lshr X.here hx rfl (hb hby hd) rfl t) k
theorem px_lushr (S : St K Z R y bytes maxL ret n0 T h cl sl) {u : Int64} {v : Int32} (hd : decode bytes pc = .ok (.lushr, 1)) (hp : pc + 1 = pc') (k : Go K R n0 Q T pc' L (.long (ushrL u v) :: st)) : Go K R n0 Q T pc L (.int v :: .long u :: st) := by
  subst hp
  obtain ⟨⟨locs, X, hF⟩, e0, hn0, hx, hZ, hby, hml, hret, hlk, hown, hnm⟩ := S
  exact Go.step (fun _ t => XS.lushr X.here hx rfl (hb hby hd) rfl t) k
theorem px_idiv (S : St K Z R y bytes maxL ret n0 T h cl sl) {u v : Int32} (hd : decode bytes pc = .ok (.idiv, 1)) (hp : pc + 1 = pc') (hz : v ≠ 0) (k : Go K R n0 Q T pc' L (.int (u / v) :: st)) : Go K R n0 Q T pc L (.int v :: .int u :: st) := by
  subst hp
  obtain ⟨⟨locs, X, hF⟩, e0, hn0, hx, hZ, hby, hml, hret, hlk, hown, hnm⟩ := S
  exact Go.step (fun _ t => XS.idiv X.here hx rfl (hb hby hd) rfl hz t) k
theorem px_irem (S : St K Z R y bytes maxL ret n0 T h cl sl) {u v : Int32} (hd : decode bytes pc = .ok (.irem, 1)) (hp : pc + 1 = pc') (hz : v ≠ 0) (k : Go K R n0 Q T pc' L (.int (u % v) :: st)) : Go K R n0 Q T pc L (.int v :: .int u :: st) := by
  subst hp
  obtain ⟨⟨locs, X, hF⟩, e0, hn0, hx, hZ, hby, hml, hret, hlk, hown, hnm⟩ := S
  exact Go.step (fun _ t => iremM X hx rfl (hb hby hd) rfl hz t) k
theorem px_ldiv (S : St K Z R y bytes maxL ret n0 T h cl sl) {u v : Int64} (hd : decode bytes pc = .ok (.ldiv, 1)) (hp : pc + 1 = pc') (hz : v ≠ 0) (k : Go K R n0 Q T pc' L (.long (u / v) :: st)) : Go K R n0 Q T pc L (.long v :: .long u :: st) := by
  subst hp
  obtain ⟨⟨locs, X, hF⟩, e0, hn0, hx, hZ, hby, hml, hret, hlk, hown, hnm⟩ := S
  exact Go.step (fun _ t => XS.ldiv X.here hx rfl (hb hby hd) rfl hz t) k
theorem px_ineg (S : St K Z R y bytes maxL ret n0 T h cl sl) {u : Int32} (hd : decode bytes pc = .ok (.ineg, 1)) (hp : pc + 1 = pc') (k : Go K R n0 Q T pc' L (.int (-u) :: st)) : Go K R n0 Q T pc L (.int u :: st) := by
  subst hp
  obtain ⟨⟨locs, X, hF⟩, e0, hn0, hx, hZ, hby, hml, hret, hlk, hown, hnm⟩ := S
  exact Go.step (fun _ t => XS.ineg X.here hx rfl (hb hby hd) rfl t) k
theorem px_lneg (S : St K Z R y bytes maxL ret n0 T h cl sl) {u : Int64} (hd : decode bytes pc = .ok (.lneg, 1)) (hp : pc + 1 = pc') (k : Go K R n0 Q T pc' L (.long (-u) :: st)) : Go K R n0 Q T pc L (.long u :: st) := by
  subst hp
  obtain ⟨⟨locs, X, hF⟩, e0, hn0, hx, hZ, hby, hml, hret, hlk, hown, hnm⟩ := S
  exact Go.step (fun _ t => XS.lneg X.here hx rfl (hb hby hd) rfl t) k
theorem px_i2l (S : St K Z R y bytes maxL ret n0 T h cl sl) {u : Int32} (hd : decode bytes pc = .ok (.i2l, 1)) (hp : pc + 1 = pc') (k : Go K R n0 Q T pc' L (.long u.toInt64 :: st)) : Go K R n0 Q T pc L (.int u :: st) := by
  subst hp
  obtain ⟨⟨locs, X, hF⟩, e0, hn0, hx, hZ, hby, hml, hret, hlk, hown, hnm⟩ := S
  exact Go.step (fun _ t => XS.i2l X.here hx rfl (hb hby hd) rfl t) k
theorem px_l2i (S : St K Z R y bytes maxL ret n0 T h cl sl) {u : Int64} (hd : decode bytes pc = .ok (.l2i, 1)) (hp : pc + 1 = pc') (k : Go K R n0 Q T pc' L (.int u.toInt32 :: st)) : Go K R n0 Q T pc L (.long u :: st) := by
  subst hp
  obtain ⟨⟨locs, X, hF⟩, e0, hn0, hx, hZ, hby, hml, hret, hlk, hown, hnm⟩ := S
  exact Go.step (fun _ t => XS.l2i X.here hx rfl (hb hby hd) rfl t) k
theorem px_i2b (S : St K Z R y bytes maxL ret n0 T h cl sl) {u : Int32} (hd : decode bytes pc = .ok (.i2b, 1)) (hp : pc + 1 = pc') (k : Go K R n0 Q T pc' L (.int (i2b u) :: st)) : Go K R n0 Q T pc L (.int u :: st) := by
  subst hp
  obtain ⟨⟨locs, X, hF⟩, e0, hn0, hx, hZ, hby, hml, hret, hlk, hown, hnm⟩ := S
  exact Go.step (fun _ t => XS.i2b X.here hx rfl (hb hby hd) rfl t) k
theorem px_i2c (S : St K Z R y bytes maxL ret n0 T h cl sl) {u : Int32} (hd : decode bytes pc = .ok (.i2c, 1)) (hp : pc + 1 = pc') (k : Go K R n0 Q T pc' L (.int (i2c u) :: st)) : Go K R n0 Q T pc L (.int u :: st) := by
  subst hp
  obtain ⟨⟨locs, X, hF⟩, e0, hn0, hx, hZ, hby, hml, hret, hlk, hown, hnm⟩ := S
  exact Go.step (fun _ t => XS.i2c X.here hx rfl (hb hby hd) rfl t) k
theorem px_i2s (S : St K Z R y bytes maxL ret n0 T h cl sl) {u : Int32} (hd : decode bytes pc = .ok (.i2s, 1)) (hp : pc + 1 = pc') (k : Go K R n0 Q T pc' L (.int (i2s u) :: st)) : Go K R n0 Q T pc L (.int u :: st) := by
  subst hp
  obtain ⟨⟨locs, X, hF⟩, e0, hn0, hx, hZ, hby, hml, hret, hlk, hown, hnm⟩ := S
  exact Go.step (fun _ t => XS.i2s X.here hx rfl (hb hby hd) rfl t) k
theorem px_lcmp (S : St K Z R y bytes maxL ret n0 T h cl sl) {u v : Int64} (hd : decode bytes pc = .ok (.lcmp, 1)) (hp : pc + 1 = pc') (k : Go K R n0 Q T pc' L (.int (lcmpW u v) :: st)) : Go K R n0 Q T pc L (.long v :: .long u :: st) := by
  subst hp
  obtain ⟨⟨locs, X, hF⟩, e0, hn0, hx, hZ, hby, hml, hret, hlk, hown, hnm⟩ := S
  exact Go.step (fun _ t => XS.lcmp X.here hx rfl (hb hby hd) rfl t) k
theorem px_pop (S : St K Z R y bytes maxL ret n0 T h cl sl) {u : Value} (hd : decode bytes pc = .ok (.pop, 1)) (hp : pc + 1 = pc') (hc : u.category = 1) (k : Go K R n0 Q T pc' L st) : Go K R n0 Q T pc L (u :: st) := by
  subst hp
  obtain ⟨⟨locs, X, hF⟩, e0, hn0, hx, hZ, hby, hml, hret, hlk, hown, hnm⟩ := S
  exact Go.step (fun _ t => XS.pop X.here hx rfl (hb hby hd) rfl hc t) k
theorem px_dup (S : St K Z R y bytes maxL ret n0 T h cl sl) {u : Value} (hd : decode bytes pc = .ok (.dup, 1)) (hp : pc + 1 = pc') (hc : u.category = 1) (k : Go K R n0 Q T pc' L (u :: u :: st)) : Go K R n0 Q T pc L (u :: st) := by
  subst hp
  obtain ⟨⟨locs, X, hF⟩, e0, hn0, hx, hZ, hby, hml, hret, hlk, hown, hnm⟩ := S
  exact Go.step (fun _ t => XS.dup X.here hx rfl (hb hby hd) rfl hc t) k
theorem px_dupX1 (S : St K Z R y bytes maxL ret n0 T h cl sl) {u v : Value} (hd : decode bytes pc = .ok (.dup_x1, 1)) (hp : pc + 1 = pc') (hc : u.category = 1) (hc2 : v.category = 1) (k : Go K R n0 Q T pc' L (u :: v :: u :: st)) : Go K R n0 Q T pc L (u :: v :: st) := by
  subst hp
  obtain ⟨⟨locs, X, hF⟩, e0, hn0, hx, hZ, hby, hml, hret, hlk, hown, hnm⟩ := S
  exact Go.step (fun _ t => XS.dupX1 X.here hx rfl (hb hby hd) rfl hc hc2 t) k
theorem px_dup2 (S : St K Z R y bytes maxL ret n0 T h cl sl) {u v : Value} (hd : decode bytes pc = .ok (.dup2, 1)) (hp : pc + 1 = pc') (hc : u.category = 1) (hc2 : v.category = 1) (k : Go K R n0 Q T pc' L (u :: v :: u :: v :: st)) : Go K R n0 Q T pc L (u :: v :: st) := by
  subst hp
  obtain ⟨⟨locs, X, hF⟩, e0, hn0, hx, hZ, hby, hml, hret, hlk, hown, hnm⟩ := S
  exact Go.step (fun _ t => Jvm.Free.XT.dup2 X.here hx rfl (hb hby hd) rfl hc hc2 t) k
theorem px_iinc (S : St K Z R y bytes maxL ret n0 T h cl sl) {k : Nat} {cst : Int} {u v r : Int32} (hd : decode bytes pc = .ok (.iinc k cst, 3)) (hp : pc + 3 = pc') (hl : L[k]? = some (.val (.int u))) (hv : Int32.ofInt cst = v) (hr : u + v = r) (hl' : storeLocals L k (.int r) = some L') (k' : Go K R n0 Q T pc' L' st) : Go K R n0 Q T pc L st := by
  subst hp
  subst hv
  subst hr
  obtain ⟨⟨locs, X, hF⟩, e0, hn0, hx, hZ, hby, hml, hret, hlk, hown, hnm⟩ := S
  exact Go.step (fun _ t => XS.iinc X.here hx rfl (hb hby hd) hl hl' t) k'
theorem px_goto (S : St K Z R y bytes maxL ret n0 T h cl sl) {o : Int} (hd : decode bytes pc = .ok (.goto o, 3)) (ho : 0 ≤ (pc : Int) + o) (hp : ((pc : Int) + o).toNat = pc') (k : Go K R n0 Q T pc' L st) : Go K R n0 Q T pc L st := by
  obtain ⟨⟨locs, X, hF⟩, e0, hn0, hx, hZ, hby, hml, hret, hlk, hown, hnm⟩ := S
  exact Go.step (fun _ t => XS.goto X.here hx rfl rfl (hb hby hd) ho hp t) k
def yesC : ClassFile.Cond → Int → Int → Prop
  | .eq, x, y => x = y
  | .ne, x, y => ¬ x = y
  | .lt, x, y => x < y
  | .ge, x, y => y ≤ x
  | .gt, x, y => y < x
  | .le, x, y => x ≤ y
def noC : ClassFile.Cond → Int → Int → Prop
  | .eq, x, y => ¬ x = y
  | .ne, x, y => x = y
  | .lt, x, y => y ≤ x
  | .ge, x, y => x < y
  | .gt, x, y => x ≤ y
  | .le, x, y => y < x
theorem yesC_of {cd : ClassFile.Cond} {x y : Int32} (h : if_icmp.holds cd x y = true) : yesC cd x.toInt y.toInt := by
  cases cd <;> simp [if_icmp.holds, yesC, Int32.lt_iff_toInt_lt, Int32.le_iff_toInt_le, ← Int32.toInt_inj] at h ⊢ <;> omega
theorem noC_of {cd : ClassFile.Cond} {x y : Int32} (h : if_icmp.holds cd x y = false) : noC cd x.toInt y.toInt := by
  cases cd <;> simp [if_icmp.holds, noC, Int32.lt_iff_toInt_lt, Int32.le_iff_toInt_le, ← Int32.toInt_inj] at h ⊢ <;> omega
theorem px_icmp (S : St K Z R y bytes maxL ret n0 T h cl sl) {cd : ClassFile.Cond} {o : Int} {u v : Int32} {pcn : Nat} (hd : decode bytes pc = .ok (.if_icmp cd o, 3)) (ho : 0 ≤ (pc : Int) + o) (hp : ((pc : Int) + o).toNat = pc') (hn : pc + 3 = pcn)
    (ky : yesC cd u.toInt v.toInt → Go K R n0 Q T pc' L st) (kn : noC cd u.toInt v.toInt → Go K R n0 Q T pcn L st) : Go K R n0 Q T pc L (.int v :: .int u :: st) := by
  subst hn
  obtain ⟨⟨locs, X, hF⟩, e0, hn0, hx, hZ, hby, hml, hret, hlk, hown, hnm⟩ := S
  cases hc : if_icmp.holds cd u v
  · exact Go.step (fun _ t => XS.icmpNo X.here hx rfl (hb hby hd) rfl hc t) (kn (noC_of hc))
  · exact Go.step (fun _ t => XS.icmpYes X.here hx rfl rfl (hb hby hd) rfl hc ho hp t) (ky (yesC_of hc))
theorem px_if0 (S : St K Z R y bytes maxL ret n0 T h cl sl) {cd : ClassFile.Cond} {o : Int} {u : Int32} {pcn : Nat} (hd : decode bytes pc = .ok (.ifCond cd o, 3)) (ho : 0 ≤ (pc : Int) + o) (hp : ((pc : Int) + o).toNat = pc') (hn : pc + 3 = pcn)
    (ky : yesC cd u.toInt 0 → Go K R n0 Q T pc' L st) (kn : noC cd u.toInt 0 → Go K R n0 Q T pcn L st) : Go K R n0 Q T pc L (.int u :: st) := by
  subst hn
  obtain ⟨⟨locs, X, hF⟩, e0, hn0, hx, hZ, hby, hml, hret, hlk, hown, hnm⟩ := S
  cases hc : ifCond.holds cd u
  · exact Go.step (fun _ t => XS.ifNo X.here hx rfl (hb hby hd) rfl hc t) (kn (noC_of (y := 0) ((if0 cd u).symm.trans hc)))
  · exact Go.step (fun _ t => XS.ifYes X.here hx rfl rfl (hb hby hd) rfl hc ho hp t) (ky (yesC_of (y := 0) ((if0 cd u).symm.trans hc)))
theorem yesL {cd : ClassFile.Cond} {x y : Int64} (h : yesC cd (lcmpW x y).toInt 0) : yesC cd x.toInt y.toInt := by
  have q := c_lcmp x y
  cases cd <;> simp only [yesC] at h ⊢ <;> omega
theorem noL {cd : ClassFile.Cond} {x y : Int64} (h : noC cd (lcmpW x y).toInt 0) : noC cd x.toInt y.toInt := by
  have q := c_lcmp x y
  cases cd <;> simp only [noC] at h ⊢ <;> omega
theorem px_lif (S : St K Z R y bytes maxL ret n0 T h cl sl) {cd : ClassFile.Cond} {o : Int} {u v : Int64} {pc1 pcn : Nat} (hd1 : decode bytes pc = .ok (.lcmp, 1)) (hp1 : pc + 1 = pc1) (hd : decode bytes pc1 = .ok (.ifCond cd o, 3)) (ho : 0 ≤ (pc1 : Int) + o) (hp : ((pc1 : Int) + o).toNat = pc') (hn : pc1 + 3 = pcn)
    (ky : yesC cd u.toInt v.toInt → Go K R n0 Q T pc' L st) (kn : noC cd u.toInt v.toInt → Go K R n0 Q T pcn L st) : Go K R n0 Q T pc L (.long v :: .long u :: st) :=
  px_lcmp S hd1 hp1 (px_if0 S hd ho hp hn (fun q => ky (yesL q)) (fun q => kn (noL q)))
theorem px_ifnull (S : St K Z R y bytes maxL ret n0 T h cl sl) {o : Int} {a : Addr} (hd : decode bytes pc = .ok (.ifnull o, 3)) (hp : pc + 3 = pc') (k : Go K R n0 Q T pc' L st) : Go K R n0 Q T pc L (.ref a :: st) := by
  subst hp
  obtain ⟨⟨locs, X, hF⟩, e0, hn0, hx, hZ, hby, hml, hret, hlk, hown, hnm⟩ := S
  exact Go.step (fun _ t => XS.ifnullNo X.here hx rfl (hb hby hd) rfl t) k
theorem px_ifnullY (S : St K Z R y bytes maxL ret n0 T h cl sl) {o : Int} (hd : decode bytes pc = .ok (.ifnull o, 3)) (ho : 0 ≤ (pc : Int) + o) (hp : ((pc : Int) + o).toNat = pc') (k : Go K R n0 Q T pc' L st) : Go K R n0 Q T pc L (.null :: st) := by
  obtain ⟨⟨locs, X, hF⟩, e0, hn0, hx, hZ, hby, hml, hret, hlk, hown, hnm⟩ := S
  exact Go.step (fun _ t => XS.ifnullYes X.here hx rfl rfl (hb hby hd) rfl ho hp t) k
theorem px_ifnonnull (S : St K Z R y bytes maxL ret n0 T h cl sl) {o : Int} {a : Addr} (hd : decode bytes pc = .ok (.ifnonnull o, 3)) (ho : 0 ≤ (pc : Int) + o) (hp : ((pc : Int) + o).toNat = pc') (k : Go K R n0 Q T pc' L st) : Go K R n0 Q T pc L (.ref a :: st) := by
  obtain ⟨⟨locs, X, hF⟩, e0, hn0, hx, hZ, hby, hml, hret, hlk, hown, hnm⟩ := S
  exact Go.step (fun _ t => XS.ifnonnullYes X.here hx rfl rfl (hb hby hd) rfl ho hp t) k
theorem px_ifnonnullN (S : St K Z R y bytes maxL ret n0 T h cl sl) {o : Int} (hd : decode bytes pc = .ok (.ifnonnull o, 3)) (hp : pc + 3 = pc') (k : Go K R n0 Q T pc' L st) : Go K R n0 Q T pc L (.null :: st) := by
  subst hp
  obtain ⟨⟨locs, X, hF⟩, e0, hn0, hx, hZ, hby, hml, hret, hlk, hown, hnm⟩ := S
  exact Go.step (fun _ t => XS.ifnonnullNo X.here hx rfl (hb hby hd) rfl t) k
theorem px_ldcI (S : St K Z R y bytes maxL ret n0 T h cl sl) {idx : Nat} {v : Int32} (w : (Jvm.Cond.constant y.cls idx v).before a0 Z = true) (hd : decode bytes pc = .ok (.ldc idx, 2)) (hp : pc + 2 = pc') (k : Go K R n0 Q T pc' L (.int v :: st)) : Go K R n0 Q T pc L st := by
  subst hp
  obtain ⟨⟨locs, X, hF⟩, e0, hn0, hx, hZ, hby, hml, hret, hlk, hown, hnm⟩ := S
  exact Go.step (fun _ t => X.ldcInt hx hown (mvT hZ w) (g := mkF K.m pc L st) rfl (hb hby hd) _ t) k
theorem px_ldcwI (S : St K Z R y bytes maxL ret n0 T h cl sl) {idx : Nat} {v : Int32} (w : (Jvm.Cond.constant y.cls idx v).before a0 Z = true) (hd : decode bytes pc = .ok (.ldc_w idx, 3)) (hp : pc + 3 = pc') (k : Go K R n0 Q T pc' L (.int v :: st)) : Go K R n0 Q T pc L st := by
  subst hp
  obtain ⟨⟨locs, X, hF⟩, e0, hn0, hx, hZ, hby, hml, hret, hlk, hown, hnm⟩ := S
  exact Go.step (fun _ t => X.ldcwInt hx hown (mvT hZ w) (g := mkF K.m pc L st) rfl (hb hby hd) _ t) k
theorem px_ldc2 (S : St K Z R y bytes maxL ret n0 T h cl sl) {idx : Nat} {v : Int64} (w : (Jvm.Cond.constantLong y.cls idx v).before a0 Z = true) (hd : decode bytes pc = .ok (.ldc2_w idx, 3)) (hp : pc + 3 = pc') (k : Go K R n0 Q T pc' L (.long v :: st)) : Go K R n0 Q T pc L st := by
  subst hp
  obtain ⟨⟨locs, X, hF⟩, e0, hn0, hx, hZ, hby, hml, hret, hlk, hown, hnm⟩ := S
  exact Go.step (fun _ t => X.ldc2Long hx hown (mvT hZ w) (g := mkF K.m pc L st) rfl (hb hby hd) _ t) k
theorem px_ret {v : Option Value} (S : St K Z R y bytes maxL ret n0 T h cl sl) (hv : ret = none → v = none) (hc : cl ≤ R.cells) (hs : sl ≤ R.slots)
    (hd : ∀ (locs : List Loc) (fs : List Frame), Stand K.p K.l K.e R K.s K.m K.args K.below K.meth K.c T locs cl sl → K.p.tables.exec = Jvm.exec → K.c.code = bytes → K.meth.sig.returnType = ret → (∀ (f : JFrame) (acts : List Action), f.method = K.m → f.locked = none → f.entered = [] → (doReturn K.e (T.setTop f) acts v).1 = T.setFrames fs) → Steps K.p.tables K.e K.below (T.setTop (mkF K.m pc L st)) (T.setFrames fs))
    (hq : Q v h) : Go K R n0 Q T pc L st := by
  obtain ⟨⟨locs, X, hF⟩, e0, hn0, hx, hZ, hby, hml, hret, hlk, hown, hnm⟩ := S
  obtain ⟨fs, hr, hrun, hended, hW, hsame⟩ := X.leave (v := v) (fun q => hv (hret ▸ q)) hlk
  refine ⟨_, _, hd locs fs X hx hby hret hr, hrun, hended, _, _, rfl, ⟨?_, hF⟩, ⟨_, rfl⟩, hW, hsame.mono hc hs⟩
  show Q v T.heap
  rw [e0]; exact hq
theorem px_return (S : St K Z R y bytes maxL ret n0 T h cl sl) (hd : decode bytes pc = .ok (.return_, 1)) (hrt : ret = none) (hc : cl ≤ R.cells) (hs : sl ≤ R.slots) (hq : Q none h) : Go K R n0 Q T pc L [] :=
  px_ret S (fun _ => rfl) hc hs (fun _ _ X hx hby hret hr => X.returnOut hx (hret.trans hrt) (hb hby hd) hr) hq
theorem px_retN {t : FieldType} {z z' : Int32} (S : St K Z R y bytes maxL ret n0 T h cl sl) (hd : decode bytes pc = .ok (.ireturn, 1)) (hrt : ret = some t) (ht : t = .boolean ∨ t = .byte ∨ t = .char ∨ t = .short) (hz : nar t z = z') (hc : cl ≤ R.cells) (hs : sl ≤ R.slots) (hq : Q (some (.int z')) h) : Go K R n0 Q T pc L (.int z :: st) := by
  subst hz
  exact px_ret S (fun q => by rw [hrt] at q; cases q) hc hs (fun _ _ X hx hby hret hr => retN X hx (hret.trans hrt) ht (hb hby hd) hr) hq
theorem px_retI {z : Int32} (S : St K Z R y bytes maxL ret n0 T h cl sl) (hd : decode bytes pc = .ok (.ireturn, 1)) (hrt : ret = some .int) (hc : cl ≤ R.cells) (hs : sl ≤ R.slots) (hq : Q (some (.int z)) h) : Go K R n0 Q T pc L (.int z :: st) :=
  px_ret S (fun q => by rw [hrt] at q; cases q) hc hs (fun _ _ X hx hby hret hr => retOut X hx (hret.trans hrt) rfl (Or.inl ⟨rfl, Or.inl rfl, z, rfl⟩) (hb hby hd) hr) hq
theorem px_retJ {z : Int64} (S : St K Z R y bytes maxL ret n0 T h cl sl) (hd : decode bytes pc = .ok (.lreturn, 1)) (hrt : ret = some .long) (hc : cl ≤ R.cells) (hs : sl ≤ R.slots) (hq : Q (some (.long z)) h) : Go K R n0 Q T pc L (.long z :: st) :=
  px_ret S (fun q => by rw [hrt] at q; cases q) hc hs (fun _ _ X hx hby hret hr => retOut X hx (hret.trans hrt) rfl (Or.inr (Or.inl ⟨rfl, rfl, z, rfl⟩)) (hb hby hd) hr) hq
theorem narrow_ref {t : FieldType} {v : Value} (ht : t.isReference = true) : narrow t v = v := by cases t <;> simp [FieldType.isReference] at ht <;> cases v <;> rfl
theorem px_retA {t : FieldType} {v : Value} (S : St K Z R y bytes maxL ret n0 T h cl sl) (hd : decode bytes pc = .ok (.areturn, 1)) (hrt : ret = some t) (ht : t.isReference = true) (hv : v.isRef = true) (hc : cl ≤ R.cells) (hs : sl ≤ R.slots) (hq : Q (some v) h) : Go K R n0 Q T pc L (v :: st) :=
  px_ret S (fun q => by rw [hrt] at q; cases q) hc hs (fun _ _ X hx hby hret hr => retOut X hx (hret.trans hrt) (narrow_ref ht) (Or.inr (Or.inr (Or.inr (Or.inr ⟨rfl, ht, hv⟩)))) (hb hby hd) hr) hq
/-- an array of ints (or of bytes, chars, shorts, booleans) of n places that hold f 0 .. -/
def AI (Z : State) (h : Heap) (a : Addr) (ty : FieldType) (n : Nat) (f : Nat → Int32) : Prop := ∃ c : Cell, Arr Z h a c ty ∧ c.slots.size = n ∧ n < 2147483648 ∧ ∀ i, i < n → c.slots[i]? = some (.int (f i)) ∧ fits ty (.int (f i)) = true
def AJ (Z : State) (h : Heap) (a : Addr) (n : Nat) (f : Nat → Int64) : Prop := ∃ c : Cell, Arr Z h a c .long ∧ c.slots.size = n ∧ n < 2147483648 ∧ ∀ i, i < n → c.slots[i]? = some (.long (f i))
def updF {α : Type} (f : Nat → α) (i : Nat) (v : α) : Nat → α := fun j => if j = i then v else f j
theorem updF_same {α : Type} (f : Nat → α) (i : Nat) (v : α) : updF f i v i = v := by simp [updF]
theorem updF_ne {α : Type} (f : Nat → α) {i j : Nat} (v : α) (q : ¬ j = i) : updF f i v j = f j := by simp [updF, q]
variable {h' : Heap} {a b : Addr} {ty : FieldType} {n : Nat} {f : Nat → Int32} {fj : Nat → Int64}
theorem AI.lt (A : AI Z h a ty n f) : a < h.size := by obtain ⟨c, A, -⟩ := A; exact A.lt
theorem AJ.lt (A : AJ Z h a n fj) : a < h.size := by obtain ⟨c, A, -⟩ := A; exact A.lt
theorem AI.len (A : AI Z h a ty n f) : n < 2147483648 := by obtain ⟨c, -, -, q, -⟩ := A; exact q
theorem AJ.len (A : AJ Z h a n fj) : n < 2147483648 := by obtain ⟨c, -, -, q, -⟩ := A; exact q
theorem AI.ext (A : AI Z h a ty n f) (E : Ext h h') : AI Z h' a ty n f := by obtain ⟨c, A, r⟩ := A; exact ⟨c, A.ext E, r⟩
theorem AJ.ext (A : AJ Z h a n fj) (E : Ext h h') : AJ Z h' a n fj := by obtain ⟨c, A, r⟩ := A; exact ⟨c, A.ext E, r⟩
theorem AI.other {s0 : Nat} {v : Value} (A : AI Z h a ty n f) (W : Wr h h' b s0 v) (q : a ≠ b) : AI Z h' a ty n f := by obtain ⟨c, A, r⟩ := A; exact ⟨c, A.other W q, r⟩
theorem AJ.other {s0 : Nat} {v : Value} (A : AJ Z h a n fj) (W : Wr h h' b s0 v) (q : a ≠ b) : AJ Z h' a n fj := by obtain ⟨c, A, r⟩ := A; exact ⟨c, A.other W q, r⟩
theorem AI.keep {ws : List Addr} (A : AI Z h a ty n f) (W : Keep h h' ws) (q : a ∉ ws) : AI Z h' a ty n f := by obtain ⟨c, A, r⟩ := A; exact ⟨c, ⟨W.2.1 a c A.1 q, A.2⟩, r⟩
theorem AJ.keep {ws : List Addr} (A : AJ Z h a n fj) (W : Keep h h' ws) (q : a ∉ ws) : AJ Z h' a n fj := by obtain ⟨c, A, r⟩ := A; exact ⟨c, ⟨W.2.1 a c A.1 q, A.2⟩, r⟩
theorem AI.congr {g : Nat → Int32} (A : AI Z h a ty n f) (q : ∀ i, i < n → f i = g i) : AI Z h a ty n g := by obtain ⟨c, A, r1, r2, r3⟩ := A; exact ⟨c, A, r1, r2, fun i hi => by rw [← q i hi]; exact r3 i hi⟩
theorem AJ.congr {g : Nat → Int64} (A : AJ Z h a n fj) (q : ∀ i, i < n → fj i = g i) : AJ Z h a n g := by obtain ⟨c, A, r1, r2, r3⟩ := A; exact ⟨c, A, r1, r2, fun i hi => by rw [r3 i hi, q i hi]⟩
theorem clampI {j : Int32} {i : Nat} (hj : j.toInt = (i : Int)) : j.toNatClampNeg = i := by
  have q : j.toNatClampNeg = j.toInt.toNat := rfl
  rw [q, hj]; rfl
theorem inbI {c : Cell} {j : Int32} {i : Nat} (hj : j.toInt = (i : Int)) (hi : i < c.slots.size) : ¬ (j < 0 ∨ c.slots.size ≤ j.toNatClampNeg) := by
  rw [clampI hj]
  intro q
  rcases q with q | q
  · have q2 := Int32.lt_iff_toInt_lt.mp q
    have z : (0 : Int32).toInt = 0 := rfl
    omega
  · omega
theorem AI.same {c : Cell} {i : Nat} {v : Int32} (A : Arr Z h a c ty) (h1 : c.slots.size = n) (h2 : n < 2147483648) (h3 : ∀ i, i < n → c.slots[i]? = some (.int (f i)) ∧ fits ty (.int (f i)) = true) (W : Wr h h' a i (.int v)) (hi : i < n) (hft : fits ty (.int v) = true) : AI Z h' a ty n (updF f i v) := by
  refine ⟨_, A.same W, by simp [Cell.setSlot, h1], h2, fun j hj => ?_⟩
  by_cases q : j = i
  · subst q
    rw [updF_same]
    exact ⟨by simp [Cell.setSlot, h1, hj], hft⟩
  · rw [updF_ne _ _ q]
    have q' : ¬ i = j := fun e => q e.symm
    exact ⟨by simp [Cell.setSlot, Array.getElem?_setIfInBounds, q', (h3 j hj).1], (h3 j hj).2⟩
theorem AJ.same {c : Cell} {i : Nat} {v : Int64} (A : Arr Z h a c .long) (h1 : c.slots.size = n) (h2 : n < 2147483648) (h3 : ∀ i, i < n → c.slots[i]? = some (.long (fj i))) (W : Wr h h' a i (.long v)) (hi : i < n) : AJ Z h' a n (updF fj i v) := by
  refine ⟨_, A.same W, by simp [Cell.setSlot, h1], h2, fun j hj => ?_⟩
  by_cases q : j = i
  · subst q
    rw [updF_same]
    simp [Cell.setSlot, h1, hj]
  · rw [updF_ne _ _ q]
    have q' : ¬ i = j := fun e => q e.symm
    simp [Cell.setSlot, Array.getElem?_setIfInBounds, q', h3 j hj]
theorem px_iaload (S : St K Z R y bytes maxL ret n0 T h cl sl) (A : AI Z h a .int n f) {j v : Int32} {i : Nat} (hj : j.toInt = (i : Int)) (hi : i < n) (hv : f i = v) (hd : decode bytes pc = .ok (.iaload, 1)) (hp : pc + 1 = pc') (k : Go K R n0 Q T pc' L (.int v :: st)) : Go K R n0 Q T pc L (.int j :: .ref a :: st) := by
  subst hp
  subst hv
  obtain ⟨⟨locs, X, hF⟩, e0, hn0, hx, hZ, hby, hml, hret, hlk, hown, hnm⟩ := S
  obtain ⟨c, A, h1, h2, h3⟩ := A
  exact Go.step (fun _ t => X.iaload hx (j := j) (v := .int (f i)) (by rw [e0]; exact A.1) (State.isArrayOf_alike hZ.alike A.2.1) A.2.2 (inbI hj (h1 ▸ hi)) (by rw [clampI hj]; exact (h3 i hi).1) (g := mkF K.m pc L (.int j :: .ref a :: st)) rfl rfl (hb hby hd) _ t) k
theorem px_caload (S : St K Z R y bytes maxL ret n0 T h cl sl) (A : AI Z h a .char n f) {j v : Int32} {i : Nat} (hj : j.toInt = (i : Int)) (hi : i < n) (hv : f i = v) (hd : decode bytes pc = .ok (.caload, 1)) (hp : pc + 1 = pc') (k : Go K R n0 Q T pc' L (.int v :: st)) : Go K R n0 Q T pc L (.int j :: .ref a :: st) := by
  subst hp
  subst hv
  obtain ⟨⟨locs, X, hF⟩, e0, hn0, hx, hZ, hby, hml, hret, hlk, hown, hnm⟩ := S
  obtain ⟨c, A, h1, h2, h3⟩ := A
  exact Go.step (fun _ t => X.caload hx (j := j) (v := .int (f i)) (by rw [e0]; exact A.1) (State.isArrayOf_alike hZ.alike A.2.1) A.2.2 (inbI hj (h1 ▸ hi)) (by rw [clampI hj]; exact (h3 i hi).1) (g := mkF K.m pc L (.int j :: .ref a :: st)) rfl rfl (hb hby hd) _ t) k
theorem px_saload (S : St K Z R y bytes maxL ret n0 T h cl sl) (A : AI Z h a .short n f) {j v : Int32} {i : Nat} (hj : j.toInt = (i : Int)) (hi : i < n) (hv : f i = v) (hd : decode bytes pc = .ok (.saload, 1)) (hp : pc + 1 = pc') (k : Go K R n0 Q T pc' L (.int v :: st)) : Go K R n0 Q T pc L (.int j :: .ref a :: st) := by
  subst hp
  subst hv
  obtain ⟨⟨locs, X, hF⟩, e0, hn0, hx, hZ, hby, hml, hret, hlk, hown, hnm⟩ := S
  obtain ⟨c, A, h1, h2, h3⟩ := A
  exact Go.step (fun _ t => X.saload hx (j := j) (v := .int (f i)) (by rw [e0]; exact A.1) (State.isArrayOf_alike hZ.alike A.2.1) A.2.2 (inbI hj (h1 ▸ hi)) (by rw [clampI hj]; exact (h3 i hi).1) (g := mkF K.m pc L (.int j :: .ref a :: st)) rfl rfl (hb hby hd) _ t) k
theorem px_baload (S : St K Z R y bytes maxL ret n0 T h cl sl) (A : AI Z h a .byte n f) {j v : Int32} {i : Nat} (hj : j.toInt = (i : Int)) (hi : i < n) (hv : f i = v) (hd : decode bytes pc = .ok (.baload, 1)) (hp : pc + 1 = pc') (k : Go K R n0 Q T pc' L (.int v :: st)) : Go K R n0 Q T pc L (.int j :: .ref a :: st) := by
  subst hp
  subst hv
  obtain ⟨⟨locs, X, hF⟩, e0, hn0, hx, hZ, hby, hml, hret, hlk, hown, hnm⟩ := S
  obtain ⟨c, A, h1, h2, h3⟩ := A
  exact Go.step (fun _ t => X.baloadBytes hx (j := j) (v := .int (f i)) (by rw [e0]; exact A.1) (State.isArrayOf_alike hZ.alike A.2.1) A.2.2 (inbI hj (h1 ▸ hi)) (by rw [clampI hj]; exact (h3 i hi).1) (g := mkF K.m pc L (.int j :: .ref a :: st)) rfl rfl (hb hby hd) _ t) k
theorem px_laload (S : St K Z R y bytes maxL ret n0 T h cl sl) (A : AJ Z h a n fj) {j : Int32} {v : Int64} {i : Nat} (hj : j.toInt = (i : Int)) (hi : i < n) (hv : fj i = v) (hd : decode bytes pc = .ok (.laload, 1)) (hp : pc + 1 = pc') (k : Go K R n0 Q T pc' L (.long v :: st)) : Go K R n0 Q T pc L (.int j :: .ref a :: st) := by
  subst hp
  subst hv
  obtain ⟨⟨locs, X, hF⟩, e0, hn0, hx, hZ, hby, hml, hret, hlk, hown, hnm⟩ := S
  obtain ⟨c, A, h1, h2, h3⟩ := A
  exact Go.step (fun _ t => X.laload hx (j := j) (v := .long (fj i)) (by rw [e0]; exact A.1) (State.isArrayOf_alike hZ.alike A.2.1) A.2.2 (inbI hj (h1 ▸ hi)) (by rw [clampI hj]; exact h3 i hi) (g := mkF K.m pc L (.int j :: .ref a :: st)) rfl rfl (hb hby hd) _ t) k
theorem len32 {c : Cell} (h1 : c.slots.size = n) (h2 : n < 2147483648) {v : Int32} (hv : v.toInt = (n : Int)) : c.slots.size.toInt32 = v := by
  rw [h1]
  apply Int32.toInt_inj.mp
  rw [hv]
  have := Int32.toInt_ofNat_of_lt (n := n) h2
  exact this
theorem px_alenI (S : St K Z R y bytes maxL ret n0 T h cl sl) (A : AI Z h a ty n f) {v : Int32} (hv : v.toInt = (n : Int)) (hd : decode bytes pc = .ok (.arraylength, 1)) (hp : pc + 1 = pc') (k : Go K R n0 Q T pc' L (.int v :: st)) : Go K R n0 Q T pc L (.ref a :: st) := by
  subst hp
  obtain ⟨⟨locs, X, hF⟩, e0, hn0, hx, hZ, hby, hml, hret, hlk, hown, hnm⟩ := S
  obtain ⟨c, A, h1, h2, h3⟩ := A
  refine Go.step (fun _ t => X.arraylength hx (by rw [e0]; exact A.1) (State.isArrayOf_alike hZ.alike A.2.1) (g := mkF K.m pc L (.ref a :: st)) rfl rfl (hb hby hd) _ t) ?_
  rw [len32 h1 h2 hv]
  exact k
theorem px_alenJ (S : St K Z R y bytes maxL ret n0 T h cl sl) (A : AJ Z h a n fj) {v : Int32} (hv : v.toInt = (n : Int)) (hd : decode bytes pc = .ok (.arraylength, 1)) (hp : pc + 1 = pc') (k : Go K R n0 Q T pc' L (.int v :: st)) : Go K R n0 Q T pc L (.ref a :: st) := by
  subst hp
  obtain ⟨⟨locs, X, hF⟩, e0, hn0, hx, hZ, hby, hml, hret, hlk, hown, hnm⟩ := S
  obtain ⟨c, A, h1, h2, h3⟩ := A
  refine Go.step (fun _ t => X.arraylength hx (by rw [e0]; exact A.1) (State.isArrayOf_alike hZ.alike A.2.1) (g := mkF K.m pc L (.ref a :: st)) rfl rfl (hb hby hd) _ t) ?_
  rw [len32 h1 h2 hv]
  exact k
theorem px_iastore (S : St K Z R y bytes maxL ret n0 T h cl sl) (A : AI Z h a .int n f) (ha : n0 ≤ a) {j u v : Int32} {i : Nat} (hj : j.toInt = (i : Int)) (hi : i < n) (hv : u = v) (hd : decode bytes pc = .ok (.iastore, 1)) (hp : pc + 1 = pc')
    (k : ∀ (T' : State) (h' : Heap), St K Z R y bytes maxL ret n0 T' h' cl sl → Wr h h' a i (.int v) → AI Z h' a .int n (updF f i v) → Go K R n0 Q T' pc' L st) : Go K R n0 Q T pc L (.int u :: .int j :: .ref a :: st) := by
  subst hp
  subst hv
  obtain ⟨⟨locs, X, hF⟩, e0, hn0, hx, hZ, hby, hml, hret, hlk, hown, hnm⟩ := S
  obtain ⟨c, A, h1, h2, h3⟩ := A
  obtain ⟨T', h', X', e', W, stp⟩ := stI X hx hZ e0 A (j := j) (inbI hj (h1 ▸ hi)) (g := mkF K.m pc L (.int u :: .int j :: .ref a :: st)) rfl rfl (hb hby hd)
  have hF' := Fr.snoc X' hF ha
  rw [clampI hj] at W
  exact Go.step stp (k T' h' ⟨⟨_, X', hF'⟩, e', hn0, hx, hZ, hby, hml, hret, hlk, hown, hnm⟩ W (AI.same A h1 h2 h3 W hi rfl))
theorem px_castore (S : St K Z R y bytes maxL ret n0 T h cl sl) (A : AI Z h a .char n f) (ha : n0 ≤ a) {j u v : Int32} {i : Nat} (hj : j.toInt = (i : Int)) (hi : i < n) (hv : (nar .char u) = v) (hd : decode bytes pc = .ok (.castore, 1)) (hp : pc + 1 = pc')
    (k : ∀ (T' : State) (h' : Heap), St K Z R y bytes maxL ret n0 T' h' cl sl → Wr h h' a i (.int v) → AI Z h' a .char n (updF f i v) → Go K R n0 Q T' pc' L st) : Go K R n0 Q T pc L (.int u :: .int j :: .ref a :: st) := by
  subst hp
  subst hv
  obtain ⟨⟨locs, X, hF⟩, e0, hn0, hx, hZ, hby, hml, hret, hlk, hown, hnm⟩ := S
  obtain ⟨c, A, h1, h2, h3⟩ := A
  obtain ⟨T', h', X', e', W, stp⟩ := stC X hx hZ e0 A (j := j) (inbI hj (h1 ▸ hi)) (g := mkF K.m pc L (.int u :: .int j :: .ref a :: st)) rfl rfl (hb hby hd)
  have hF' := Fr.snoc X' hF ha
  rw [clampI hj] at W
  exact Go.step stp (k T' h' ⟨⟨_, X', hF'⟩, e', hn0, hx, hZ, hby, hml, hret, hlk, hown, hnm⟩ W (AI.same A h1 h2 h3 W hi (fits_nar_char _)))
theorem px_sastore (S : St K Z R y bytes maxL ret n0 T h cl sl) (A : AI Z h a .short n f) (ha : n0 ≤ a) {j u v : Int32} {i : Nat} (hj : j.toInt = (i : Int)) (hi : i < n) (hv : (nar .short u) = v) (hd : decode bytes pc = .ok (.sastore, 1)) (hp : pc + 1 = pc')
    (k : ∀ (T' : State) (h' : Heap), St K Z R y bytes maxL ret n0 T' h' cl sl → Wr h h' a i (.int v) → AI Z h' a .short n (updF f i v) → Go K R n0 Q T' pc' L st) : Go K R n0 Q T pc L (.int u :: .int j :: .ref a :: st) := by
  subst hp
  subst hv
  obtain ⟨⟨locs, X, hF⟩, e0, hn0, hx, hZ, hby, hml, hret, hlk, hown, hnm⟩ := S
  obtain ⟨c, A, h1, h2, h3⟩ := A
  obtain ⟨T', h', X', e', W, stp⟩ := stS X hx hZ e0 A (j := j) (inbI hj (h1 ▸ hi)) (g := mkF K.m pc L (.int u :: .int j :: .ref a :: st)) rfl rfl (hb hby hd)
  have hF' := Fr.snoc X' hF ha
  rw [clampI hj] at W
  exact Go.step stp (k T' h' ⟨⟨_, X', hF'⟩, e', hn0, hx, hZ, hby, hml, hret, hlk, hown, hnm⟩ W (AI.same A h1 h2 h3 W hi (fits_nar_short _)))
theorem px_bastore (S : St K Z R y bytes maxL ret n0 T h cl sl) (A : AI Z h a .byte n f) (ha : n0 ≤ a) {j u v : Int32} {i : Nat} (hj : j.toInt = (i : Int)) (hi : i < n) (hv : (nar .byte u) = v) (hd : decode bytes pc = .ok (.bastore, 1)) (hp : pc + 1 = pc')
    (k : ∀ (T' : State) (h' : Heap), St K Z R y bytes maxL ret n0 T' h' cl sl → Wr h h' a i (.int v) → AI Z h' a .byte n (updF f i v) → Go K R n0 Q T' pc' L st) : Go K R n0 Q T pc L (.int u :: .int j :: .ref a :: st) := by
  subst hp
  subst hv
  obtain ⟨⟨locs, X, hF⟩, e0, hn0, hx, hZ, hby, hml, hret, hlk, hown, hnm⟩ := S
  obtain ⟨c, A, h1, h2, h3⟩ := A
  obtain ⟨T', h', X', e', W, stp⟩ := stB X hx hZ e0 A (j := j) (inbI hj (h1 ▸ hi)) (g := mkF K.m pc L (.int u :: .int j :: .ref a :: st)) rfl rfl (hb hby hd)
  have hF' := Fr.snoc X' hF ha
  rw [clampI hj] at W
  exact Go.step stp (k T' h' ⟨⟨_, X', hF'⟩, e', hn0, hx, hZ, hby, hml, hret, hlk, hown, hnm⟩ W (AI.same A h1 h2 h3 W hi (fits_nar_byte _)))
theorem px_lastore (S : St K Z R y bytes maxL ret n0 T h cl sl) (A : AJ Z h a n fj) (ha : n0 ≤ a) {j : Int32} {u : Int64} {i : Nat} (hj : j.toInt = (i : Int)) (hi : i < n) (hd : decode bytes pc = .ok (.lastore, 1)) (hp : pc + 1 = pc')
    (k : ∀ (T' : State) (h' : Heap), St K Z R y bytes maxL ret n0 T' h' cl sl → Wr h h' a i (.long u) → AJ Z h' a n (updF fj i u) → Go K R n0 Q T' pc' L st) : Go K R n0 Q T pc L (.long u :: .int j :: .ref a :: st) := by
  subst hp
  obtain ⟨⟨locs, X, hF⟩, e0, hn0, hx, hZ, hby, hml, hret, hlk, hown, hnm⟩ := S
  obtain ⟨c, A, h1, h2, h3⟩ := A
  obtain ⟨T', h', X', e', W, stp⟩ := stJ X hx hZ e0 A (j := j) (inbI hj (h1 ▸ hi)) (g := mkF K.m pc L (.long u :: .int j :: .ref a :: st)) rfl rfl (hb hby hd)
  have hF' := Fr.snoc X' hF ha
  rw [clampI hj] at W
  exact Go.step stp (k T' h' ⟨⟨_, X', hF'⟩, e', hn0, hx, hZ, hby, hml, hret, hlk, hown, hnm⟩ W (AJ.same A h1 h2 h3 W hi))
theorem nneg {u : Int32} (hu : u.toInt = (n : Int)) : ¬ u < 0 := fun q => by
  have q2 := Int32.lt_iff_toInt_lt.mp q
  have z : (0 : Int32).toInt = 0 := rfl
  omega
theorem small {u : Int32} (hu : u.toInt = (n : Int)) : n < 2147483648 := by
  have := (rng32 u).2
  omega
theorem px_newarr {aty : ArrayType} (S : St K Z R y bytes maxL ret n0 T h cl sl) (w : (Jvm.Cond.arrayClass (newarray.typeOf aty)).before a0 Z = true) (hdv : defaultValue (newarray.typeOf aty) = .int 0) {u : Int32} {cap : Nat} (hu : u.toInt = (n : Int)) (hcap : n ≤ cap) (hb8 : cap * 8 ≤ 536870912) (hc : cl + 1 ≤ R.cells) (hs : sl + cap ≤ R.slots)
    (hd : decode bytes pc = .ok (.newarray aty, 2)) (hp : pc + 2 = pc')
    (k : ∀ (T' : State) (h' : Heap) (a : Addr), a = h.size → n0 ≤ a → St K Z R y bytes maxL ret n0 T' h' (cl + 1) (sl + cap) → Ext h h' → AI Z h' a (newarray.typeOf aty) n (fun _ => 0) → Go K R n0 Q T' pc' L (.ref a :: st)) : Go K R n0 Q T pc L (.int u :: st) := by
  subst hp
  have hsz := S.size
  obtain ⟨⟨locs, X, hF⟩, e0, hn0, hx, hZ, hby, hml, hret, hlk, hown, hnm⟩ := S
  obtain ⟨T', h', cA, X', e', E, A, stp⟩ := newP X hx hZ w e0 (g := mkF K.m pc L (.int u :: st)) rfl (hb hby hd) rfl (nneg hu) (cap := cap) (by rw [clampI hu]; exact hcap) hb8 hc hs
  refine Go.step stp (k T' h' h.size rfl hsz ⟨⟨_, X', hF⟩, e', hn0, hx, hZ, hby, hml, hret, hlk, hown, hnm⟩ E ⟨_, A, by rw [sz_new, clampI hu], small hu, fun i hi => ⟨?_, ?_⟩⟩)
  · simp [newA, clampI hu, hi, hdv]
  · rw [← hdv]; cases aty <;> first | rfl | (simp [newarray.typeOf, defaultValue] at hdv)
theorem px_newarrJ (S : St K Z R y bytes maxL ret n0 T h cl sl) (w : (Jvm.Cond.arrayClass FieldType.long).before a0 Z = true) {u : Int32} {cap : Nat} (hu : u.toInt = (n : Int)) (hcap : n ≤ cap) (hb8 : cap * 8 ≤ 536870912) (hc : cl + 1 ≤ R.cells) (hs : sl + cap ≤ R.slots)
    (hd : decode bytes pc = .ok (.newarray .long, 2)) (hp : pc + 2 = pc')
    (k : ∀ (T' : State) (h' : Heap) (a : Addr), a = h.size → n0 ≤ a → St K Z R y bytes maxL ret n0 T' h' (cl + 1) (sl + cap) → Ext h h' → AJ Z h' a n (fun _ => 0) → Go K R n0 Q T' pc' L (.ref a :: st)) : Go K R n0 Q T pc L (.int u :: st) := by
  subst hp
  have hsz := S.size
  obtain ⟨⟨locs, X, hF⟩, e0, hn0, hx, hZ, hby, hml, hret, hlk, hown, hnm⟩ := S
  obtain ⟨T', h', cA, X', e', E, A, stp⟩ := newP X hx hZ (aty := .long) w e0 (g := mkF K.m pc L (.int u :: st)) rfl (hb hby hd) rfl (nneg hu) (cap := cap) (by rw [clampI hu]; exact hcap) hb8 hc hs
  refine Go.step stp (k T' h' h.size rfl hsz ⟨⟨_, X', hF⟩, e', hn0, hx, hZ, hby, hml, hret, hlk, hown, hnm⟩ E ⟨_, A, by rw [sz_new, clampI hu], small hu, fun i hi => ?_⟩)
  simp [newA, clampI hu, hi, defaultValue, newarray.typeOf]
theorem px_new {C : String} {idx k0 : Nat} (S : St K Z R y bytes maxL ret n0 T h cl sl) (w : (Jvm.Cond.classLink y.cls idx C).before a0 Z = true) (wi : (Jvm.Cond.instantiable C k0).before a0 Z = true) (wz : (Jvm.Cond.initialized C).before a0 Z = true) (hc : cl + 1 ≤ R.cells) (hs : sl + k0 ≤ R.slots) (hd : decode bytes pc = .ok (.new idx, 3)) (hp : pc + 3 = pc')
    (k : ∀ (T' : State) (h' : Heap) (a : Addr), a = h.size → n0 ≤ a → St K Z R y bytes maxL ret n0 T' h' (cl + 1) (sl + k0) → Ext h h' → Exa Z h' a C → (∀ {O nm d : String} {ty : FieldType}, Laid Z a0 C O nm d → parseFieldDescriptor d = some ty → Fld Z h' a O nm d (defaultValue ty)) → Go K R n0 Q T' pc' L (.ref a :: st)) : Go K R n0 Q T pc L st := by
  subst hp
  have hsz := S.size
  obtain ⟨⟨locs, X, hF⟩, e0, hn0, hx, hZ, hby, hml, hret, hlk, hown, hnm⟩ := S
  obtain ⟨T', h', X', e', E, A, D, -, stp⟩ := newO X hx hZ hown w wi wz e0 (g := mkF K.m pc L st) rfl (hb hby hd) hc hs
  exact Go.step stp (k T' h' h.size rfl hsz ⟨⟨_, X', hF⟩, e', hn0, hx, hZ, hby, hml, hret, hlk, hown, hnm⟩ E A (fun {O nm d ty} => D))
theorem px_getfield {C nm d : String} {idx : Nat} {v : Value} (S : St K Z R y bytes maxL ret n0 T h cl sl) (w : (Jvm.Cond.fieldLink y.cls idx C nm d).before a0 Z = true) (F : Fld Z h a C nm d v) (hd : decode bytes pc = .ok (.getfield idx, 3)) (hp : pc + 3 = pc')
    (k : ∀ (T' : State), St K Z R y bytes maxL ret n0 T' h cl sl → Go K R n0 Q T' pc' L (v :: st)) : Go K R n0 Q T pc L (.ref a :: st) := by
  subst hp
  obtain ⟨⟨locs, X, hF⟩, e0, hn0, hx, hZ, hby, hml, hret, hlk, hown, hnm⟩ := S
  obtain ⟨T', X', e', stp⟩ := getF X hx hZ hown (host := "") (Or.inl w) Via.refl e0 F (g := mkF K.m pc L (.ref a :: st)) rfl rfl (hb hby hd)
  exact Go.step stp (k T' ⟨⟨_, X', hF⟩, e', hn0, hx, hZ, hby, hml, hret, hlk, hown, hnm⟩)
theorem px_putfield {C nm d : String} {idx kk : Nat} {v v' old : Value} {ty : FieldType} (S : St K Z R y bytes maxL ret n0 T h cl sl) (w : (Jvm.Cond.fieldLink y.cls idx C nm d).before a0 Z = true) (F : Fld Z h a C nm d old) (E : Exa Z h a C) (ha : n0 ≤ a)
    (hl : (Jvm.Cond.lays C C nm d).before a0 Z = true ∨ ((Jvm.Cond.laysFinal C C nm d).before a0 Z = true ∧ y.cls = C ∧ y.name = "<init>")) (wi : (Jvm.Cond.instantiable C kk).before a0 Z = true) (hty : parseFieldDescriptor d = some ty) (hv : narrow ty v = v') (hf : fits ty v' = true) (hd : decode bytes pc = .ok (.putfield idx, 3)) (hp : pc + 3 = pc')
    (k : ∀ (T' : State) (h' : Heap), St K Z R y bytes maxL ret n0 T' h' cl sl → Wr h h' a (Jvm.RoadKit.slotOf Z C nm d) v' → Fld Z h' a C nm d v' → Exa Z h' a C → Go K R n0 Q T' pc' L st) : Go K R n0 Q T pc L (v :: .ref a :: st) := by
  subst hp
  obtain ⟨⟨locs, X, hF⟩, e0, hn0, hx, hZ, hby, hml, hret, hlk, hown, hnm⟩ := S
  obtain ⟨T', h', X', e', W, stp⟩ := putFN X hx hZ hown w Via.refl e0 F E (hl.imp id fun q => ⟨q.1, q.2.1, hnm.trans q.2.2⟩) wi hty hv hf (g := mkF K.m pc L (v :: .ref a :: st)) rfl rfl (hb hby hd)
  have hF' := Fr.snoc X' hF ha
  exact Go.step stp (k T' h' ⟨⟨_, X', hF'⟩, e', hn0, hx, hZ, hby, hml, hret, hlk, hown, hnm⟩ W (F.same W) (E.wr W))
theorem px_initO {idx W : Nat} (S : St K Z R y bytes maxL ret n0 T h cl sl) (w1 : (Jvm.Cond.methodLink y.cls idx Lib.objectInit).before a0 Z = true) (w2 : (Jvm.Cond.instanceMethod Lib.objectInit).before a0 Z = true) (w3 : (Jvm.Cond.code Lib.objectInit ⟨#[0xb1]⟩ 1 none).before a0 Z = true) (hL : L.size = maxL) (hfr : 1 ≤ R.frames) (hW : (st.map fun v => v.category).sum = W) (hlo : W + 12 ≤ R.locals) (hd : decode bytes pc = .ok (.invokespecial idx, 3)) (hp : pc + 3 = pc')
    (k : ∀ (T' : State), St K Z R y bytes maxL ret n0 T' h cl sl → Go K R n0 Q T' pc' L st) : Go K R n0 Q T pc L (.ref a :: st) := by
  subst hp
  obtain ⟨⟨locs, X, hF⟩, e0, hn0, hx, hZ, hby, hml, hret, hlk, hown, hnm⟩ := S
  obtain ⟨T', X', e', stp⟩ := initO X hx hZ hown w1 w2 w3 e0 (g := mkF K.m pc L (.ref a :: st)) rfl (hL.trans hml.symm) rfl (hb hby hd) hfr (W := W) (by show 2 * 0 + _ ≤ _; rw [hW]; omega) hlo
  exact Go.step stp (k T' ⟨⟨_, X', hF⟩, e', hn0, hx, hZ, hby, hml, hret, hlk, hown, hnm⟩)
theorem px_callS {y' : MethodName} {b' : ByteArray} {mx' : Nat} {rt' : Option FieldType} {rm : Room} {as' : List Value} {Q' : Option Value → Heap → Prop} {W idx : Nat} {ps : List FieldType} {rr : Option FieldType} (S : St K Z R y bytes maxL ret n0 T h cl sl) (C : Ctr Z n0 y' b' mx' rt' rm as' h Q') (w1 : (Jvm.Cond.methodLink y.cls idx y').before a0 Z = true) (w2 : (Jvm.Cond.static y').before a0 Z = true) (w3 : (Jvm.Cond.initialized y'.cls).before a0 Z = true) (w4 : (Jvm.Cond.code y' b' mx' rt').before a0 Z = true) (hy : y'.cls ≠ "java/lang/invoke/MethodHandle" ∧ y'.cls ≠ "java/lang/invoke/VarHandle")
    (hps : parseMethodDescriptor y'.desc = some ⟨ps, rr⟩) (hlen : as'.length = ps.length) (hL : L.size = maxL) (hfr : rm.frames + 1 ≤ R.frames) (hW : (st.map fun v => v.category).sum = W) (hlo : W + (mx' + 11) + rm.locals ≤ R.locals) (hc : cl + rm.cells ≤ R.cells) (hs : sl + rm.slots ≤ R.slots) (hd : decode bytes pc = .ok (.invokestatic idx, 3)) (hp : pc + 3 = pc') {stk : List Value} (hst : stk = as'.reverse ++ st)
    (k : ∀ (T' : State) (h' : Heap) (v : Option Value), St K Z R y bytes maxL ret n0 T' h' (cl + rm.cells) (sl + rm.slots) → Q' v h' → Go K R n0 Q T' pc' L (v.toList ++ st)) : Go K R n0 Q T pc L stk := by
  subst hp
  subst hst
  obtain ⟨⟨locs, X, hF⟩, e0, hn0, hx, hZ, hby, hml, hret, hlk, hown, hnm⟩ := S
  obtain ⟨v, _, ⟨T1, L1, c1, n1⟩, -, X1, ⟨Lc, hq, hl1, hc1, hs1⟩, stp⟩ := Jvm.LawKit.callS X hx (y := y') hown (mvT hZ w1) (mvT hZ w2) (mvT hZ w3) (mvT hZ w4) hy (backOf (Q := fun v h' L => Q' v h' ∧ Fr n0 L) (W := W) (C K.l []) hZ w4 w3 hfr hlo) (g := mkF K.m pc L (as'.reverse ++ st)) rfl (hL.trans hml.symm) (argsL := as') (rest := st) (lenOf hps hlen) rfl (by show 2 * 0 + _ ≤ _; rw [hW]; omega) (hb hby hd) (fun _ _ => ⟨rfl, e0, hc, hs⟩)
  dsimp only [Pt.U, Pt.locs, Pt.cells, Pt.slots] at X1 hl1 hc1 hs1 stp hq
  subst hl1 hc1 hs1
  obtain ⟨hq, hFc⟩ := hq
  exact Go.step stp (k T1 T1.heap v ⟨⟨_, X1, Fr.app hF hFc⟩, rfl, hn0, hx, hZ, hby, hml, hret, hlk, hown, hnm⟩ hq)
theorem Go.trans {T' : State} {st' : List Value} (hs : Steps K.p.tables K.e K.below (T.setTop (mkF K.m pc L st)) (T'.setTop (mkF K.m pc' L' st'))) (k : Go K R n0 Q T' pc' L' st') : Go K R n0 Q T pc L st := by
  obtain ⟨s₂, o, h1, r⟩ := k
  exact ⟨s₂, o, hs.trans h1, r⟩
theorem px_callC {y' : MethodName} {b' : ByteArray} {mx' : Nat} {rm : Room} {as' : List Value} {Q' : Option Value → Heap → Prop} {W idx : Nat} {ps : List FieldType} {rr : Option FieldType} (S : St K Z R y bytes maxL ret n0 T h cl sl) (C : Ctr Z n0 y' b' mx' none rm (.ref a :: as') h Q') (hin : y'.name = "<init>") (w1 : (Jvm.Cond.methodLink y.cls idx y').before a0 Z = true) (w2 : (Jvm.Cond.instanceMethod y').before a0 Z = true) (w3 : (Jvm.Cond.initialized y'.cls).before a0 Z = true) (w4 : (Jvm.Cond.code y' b' mx' none).before a0 Z = true) (hy : y'.cls ≠ "java/lang/invoke/MethodHandle" ∧ y'.cls ≠ "java/lang/invoke/VarHandle")
    (hps : parseMethodDescriptor y'.desc = some ⟨ps, rr⟩) (hlen : as'.length = ps.length) (hL : L.size = maxL) (hfr : rm.frames + 1 ≤ R.frames) (hW : (st.map fun v => v.category).sum = W) (hlo : W + (mx' + 11) + rm.locals ≤ R.locals) (hc : cl + rm.cells ≤ R.cells) (hs : sl + rm.slots ≤ R.slots) (hd : decode bytes pc = .ok (.invokespecial idx, 3)) (hp : pc + 3 = pc') {stk : List Value} (hst : stk = as'.reverse ++ .ref a :: st)
    (k : ∀ (T' : State) (h' : Heap) (v : Option Value), St K Z R y bytes maxL ret n0 T' h' (cl + rm.cells) (sl + rm.slots) → Q' v h' → Go K R n0 Q T' pc' L (v.toList ++ st)) : Go K R n0 Q T pc L stk := by
  subst hp
  subst hst
  obtain ⟨⟨locs, X, hF⟩, e0, hn0, hx, hZ, hby, hml, hret, hlk, hown, hnm⟩ := S
  obtain ⟨v, _, ⟨T1, L1, c1, n1⟩, -, X1, ⟨Lc, hq, hl1, hc1, hs1⟩, stp⟩ := X.specialBack hx (y := y') hin hown (mvT hZ w1) (mvT hZ w2) (mvT hZ w4) hy (backOf (Q := fun v h' L => Q' v h' ∧ Fr n0 L) (W := W) (C K.l []) hZ w4 w3 hfr hlo) (g := mkF K.m pc L (as'.reverse ++ .ref a :: st)) rfl (hL.trans hml.symm) (Steps.refl _) (a := a) (argsL := as') (rest := st) (lenOf hps hlen) rfl (by show 2 * 0 + _ ≤ _; rw [hW]; omega) (hb hby hd) (fun _ _ => ⟨rfl, e0, hc, hs⟩)
  dsimp only [Pt.U, Pt.locs, Pt.cells, Pt.slots] at X1 hl1 hc1 hs1 stp hq
  subst hl1 hc1 hs1
  obtain ⟨hq, hFc⟩ := hq
  exact Go.trans stp (k T1 T1.heap v ⟨⟨_, X1, Fr.app hF hFc⟩, rfl, hn0, hx, hZ, hby, hml, hret, hlk, hown, hnm⟩ hq)
theorem px_callV {y' : MethodName} {b' : ByteArray} {mx' : Nat} {rt' : Option FieldType} {rm : Room} {as' : List Value} {Q' : Option Value → Heap → Prop} {W idx : Nat} {ps : List FieldType} {rr : Option FieldType} {Cn : String} (S : St K Z R y bytes maxL ret n0 T h cl sl) (C : Ctr Z n0 y' b' mx' rt' rm (.ref a :: as') h Q') (E : Exa Z h a Cn) (w1 : (Jvm.Cond.methodLink y.cls idx y').before a0 Z = true) (w2 : (Jvm.Cond.declares y').before a0 Z = true) (w5 : (Jvm.Cond.selects Cn y' y').before a0 Z = true) (w6 : (Jvm.Cond.instanceMethod y').before a0 Z = true) (w3 : (Jvm.Cond.initialized y'.cls).before a0 Z = true) (w4 : (Jvm.Cond.code y' b' mx' rt').before a0 Z = true) (hnf : NotFace K.s y') (hy : y'.cls ≠ "java/lang/invoke/MethodHandle" ∧ y'.cls ≠ "java/lang/invoke/VarHandle")
    (hps : parseMethodDescriptor y'.desc = some ⟨ps, rr⟩) (hlen : as'.length = ps.length) (hL : L.size = maxL) (hfr : rm.frames + 1 ≤ R.frames) (hW : (st.map fun v => v.category).sum = W) (hlo : W + (mx' + 11) + rm.locals ≤ R.locals) (hc : cl + rm.cells ≤ R.cells) (hs : sl + rm.slots ≤ R.slots) (hd : decode bytes pc = .ok (.invokevirtual idx, 3)) (hp : pc + 3 = pc') {stk : List Value} (hst : stk = as'.reverse ++ .ref a :: st)
    (k : ∀ (T' : State) (h' : Heap) (v : Option Value), St K Z R y bytes maxL ret n0 T' h' (cl + rm.cells) (sl + rm.slots) → Q' v h' → Go K R n0 Q T' pc' L (v.toList ++ st)) : Go K R n0 Q T pc L stk := by
  subst hp
  subst hst
  obtain ⟨⟨locs, X, hF⟩, e0, hn0, hx, hZ, hby, hml, hret, hlk, hown, hnm⟩ := S
  obtain ⟨cq, kq, qa, qb, qc⟩ := isOf hZ e0 E
  obtain ⟨v, _, ⟨T1, L1, c1, n1⟩, -, X1, ⟨Lc, hq, hl1, hc1, hs1⟩, stp⟩ := X.virtualBack hx (y := y') (z := y') hown (mvT hZ w1) (mvT hZ w2) hnf (mvT hZ w5) (mvT hZ w6) hy (backOf (Q := fun v h' L => Q' v h' ∧ Fr n0 L) (W := W) (C K.l []) hZ w4 w3 hfr hlo) qa qc (g := mkF K.m pc L (as'.reverse ++ .ref a :: st)) rfl (hL.trans hml.symm) (Steps.refl _) (argsL := as') (rest := st) (lenOf hps hlen) rfl (by show 2 * 0 + _ ≤ _; rw [hW]; omega) (hb hby hd) (fun _ _ => ⟨rfl, e0, hc, hs⟩)
  dsimp only [Pt.U, Pt.locs, Pt.cells, Pt.slots] at X1 hl1 hc1 hs1 stp hq
  subst hl1 hc1 hs1
  obtain ⟨hq, hFc⟩ := hq
  exact Go.trans stp (k T1 T1.heap v ⟨⟨_, X1, Fr.app hF hFc⟩, rfl, hn0, hx, hZ, hby, hml, hret, hlk, hown, hnm⟩ hq)
theorem px_callI {y' : MethodName} {b' : ByteArray} {mx' : Nat} {rt' : Option FieldType} {rm : Room} {as' : List Value} {Q' : Option Value → Heap → Prop} {W idx : Nat} {ps : List FieldType} {rr : Option FieldType} {Cn : String} {xi : MethodName} {count : Nat} (S : St K Z R y bytes maxL ret n0 T h cl sl) (C : Ctr Z n0 y' b' mx' rt' rm (.ref a :: as') h Q') (E : Exa Z h a Cn) (w1 : (Jvm.Cond.methodLink y.cls idx xi).before a0 Z = true) (w2 : (Jvm.Cond.declares xi).before a0 Z = true) (w7 : (Jvm.Cond.interfaceMethod xi.cls xi.cls xi.name xi.desc).before a0 Z = true) (hface : ((Jvm.Cond.interfaceMethod xi.cls xi.cls xi.name xi.desc).onTables && (Jvm.Cond.interfaceMethod xi.cls xi.cls xi.name xi.desc).keepsFace) = true) (w5 : (Jvm.Cond.selects Cn xi y').before a0 Z = true) (w6 : (Jvm.Cond.instanceMethod y').before a0 Z = true) (w8 : (Jvm.Cond.publicMethod y').before a0 Z = true) (w9 : (Jvm.Cond.unhidden Cn xi.name xi.desc).before a0 Z = true) (w10 : (Jvm.Cond.castable Cn xi.cls).before a0 Z = true) (w3 : (Jvm.Cond.initialized y'.cls).before a0 Z = true) (w4 : (Jvm.Cond.code y' b' mx' rt').before a0 Z = true) (hy : xi.cls ≠ "java/lang/invoke/MethodHandle" ∧ xi.cls ≠ "java/lang/invoke/VarHandle")
    (hps : parseMethodDescriptor xi.desc = some ⟨ps, rr⟩) (hlen : as'.length = ps.length) (hL : L.size = maxL) (hfr : rm.frames + 1 ≤ R.frames) (hW : (st.map fun v => v.category).sum = W) (hlo : W + (mx' + 11) + rm.locals ≤ R.locals) (hc : cl + rm.cells ≤ R.cells) (hs : sl + rm.slots ≤ R.slots) (hd : decode bytes pc = .ok (.invokeinterface idx count, 5)) (hp : pc + 5 = pc') {stk : List Value} (hst : stk = as'.reverse ++ .ref a :: st)
    (k : ∀ (T' : State) (h' : Heap) (v : Option Value), St K Z R y bytes maxL ret n0 T' h' (cl + rm.cells) (sl + rm.slots) → Q' v h' → Go K R n0 Q T' pc' L (v.toList ++ st)) : Go K R n0 Q T pc L stk := by
  subst hp
  subst hst
  obtain ⟨⟨locs, X, hF⟩, e0, hn0, hx, hZ, hby, hml, hret, hlk, hown, hnm⟩ := S
  obtain ⟨cq, kq, qa, qb, qc⟩ := isOf hZ e0 E
  obtain ⟨v, _, ⟨T1, L1, c1, n1⟩, -, X1, ⟨Lc, hq, hl1, hc1, hs1⟩, stp⟩ := X.interfaceBack hx (xi := xi) (y := y') hown (mvT hZ w1) (mvT hZ w2) (mvT hZ w7 hface) (mvT hZ w5) (mvT hZ w6) (mvT hZ w8) (mvT hZ w9) (mvT hZ w10) hy (backOf (Q := fun v h' L => Q' v h' ∧ Fr n0 L) (W := W) (C K.l []) hZ w4 w3 hfr hlo) qa qb qc (g := mkF K.m pc L (as'.reverse ++ .ref a :: st)) rfl (hL.trans hml.symm) (Steps.refl _) (argsL := as') (rest := st) (lenOf hps hlen) rfl (by show 2 * 0 + _ ≤ _; rw [hW]; omega) (hb hby hd) (fun _ _ => ⟨rfl, e0, hc, hs⟩)
  dsimp only [Pt.U, Pt.locs, Pt.cells, Pt.slots] at X1 hl1 hc1 hs1 stp hq
  subst hl1 hc1 hs1
  obtain ⟨hq, hFc⟩ := hq
  exact Go.trans stp (k T1 T1.heap v ⟨⟨_, X1, Fr.app hF hFc⟩, rfl, hn0, hx, hZ, hby, hml, hret, hlk, hown, hnm⟩ hq)
theorem St.nf {y' : MethodName} (S : St K Z R y bytes maxL ret n0 T h cl sl) (w : (Jvm.Cond.selects y'.cls y' y').before a0 Z = true) : NotFace K.s y' := by
  obtain ⟨⟨locs, X, hF⟩, e0, hn0, hx, hZ, hby, hml, hret, hlk, hown, hnm⟩ := S
  exact notFace_of_selects (args := #[]) (mvT hZ w)
theorem px_lsw (S : St K Z R y bytes maxL ret n0 T h cl sl) {df o : Int} {ps : Array (Int × Int)} {pl : List (Int × Int)} {ln : Nat} {u : Int32} (hd : decode bytes pc = .ok (.lookupswitch df ps, ln)) (hpl : ps.toList = pl) (hm : (pl.zip (pl.drop 1)).all (fun (a, next) => a.1 < next.1) = true) (hu : lookupswitch.offset pl df u.toInt = o) (ho : 0 ≤ (pc : Int) + o) (hp : ((pc : Int) + o).toNat = pc') (k : Go K R n0 Q T pc' L st) : Go K R n0 Q T pc L (.int u :: st) := by
  subst hp
  subst hpl
  obtain ⟨⟨locs, X, hF⟩, e0, hn0, hx, hZ, hby, hml, hret, hlk, hown, hnm⟩ := S
  refine Go.step (fun _ t => ?_) k
  have hd' := hb hby hd
  show Steps K.p.tables K.e K.below (T.setTop { method := K.m, pc := pc, locals := L, stack := .int u :: st, locked := none }) _
  jvm_step X.here [X.here.top, hx, hd', lookupswitch.wp_chain, hu, ho]
  exact ⟨by simpa using hm, t⟩
theorem Go.join {α : Type} {P : α → Prop} {pcj : Nat} {Lj : α → Array Slot} {stj : α → List Value} (h1 : ∀ x, P x → Go K R n0 Q T pcj (Lj x) (stj x)) (h2 : (∀ x, P x → Go K R n0 Q T pcj (Lj x) (stj x)) → Go K R n0 Q T pc L st) : Go K R n0 Q T pc L st := h2 h1
theorem Go.joinT {α : Type} {P : α → Prop} {pcj cl' sl' : Nat} {Lj : α → Array Slot} {stj : α → List Value} (S : St K Z R y bytes maxL ret n0 T h cl sl) (h1 : ∀ (x : α) (T' : State), St K Z R y bytes maxL ret n0 T' h cl' sl' → P x → Go K R n0 Q T' pcj (Lj x) (stj x)) (h2 : (∀ (x : α) (T' : State), St K Z R y bytes maxL ret n0 T' h cl' sl' → P x → Go K R n0 Q T' pcj (Lj x) (stj x)) → Go K R n0 Q T pc L st) : Go K R n0 Q T pc L st := h2 h1
theorem Go.joinH {α : Type} {P : α → Heap → Prop} {pcj cl' sl' : Nat} {Lj : α → Array Slot} {stj : α → List Value} (S : St K Z R y bytes maxL ret n0 T h cl sl) (h1 : ∀ (x : α) (T' : State) (h' : Heap), St K Z R y bytes maxL ret n0 T' h' cl' sl' → P x h' → Go K R n0 Q T' pcj (Lj x) (stj x)) (h2 : (∀ (x : α) (T' : State) (h' : Heap), St K Z R y bytes maxL ret n0 T' h' cl' sl' → P x h' → Go K R n0 Q T' pcj (Lj x) (stj x)) → Go K R n0 Q T pc L st) : Go K R n0 Q T pc L st := h2 h1
theorem Go.loopH {α : Type} {Inv : Nat → α → Heap → Prop} {pcj cl' sl' : Nat} {Lj : α → Array Slot} {stj : α → List Value} (S : St K Z R y bytes maxL ret n0 T h cl sl)
    (h1 : ∀ k, (∀ j, j < k → ∀ (x : α) (T' : State) (h' : Heap), St K Z R y bytes maxL ret n0 T' h' cl' sl' → Inv j x h' → Go K R n0 Q T' pcj (Lj x) (stj x)) → ∀ (x : α) (T' : State) (h' : Heap), St K Z R y bytes maxL ret n0 T' h' cl' sl' → Inv k x h' → Go K R n0 Q T' pcj (Lj x) (stj x))
    (h2 : (∀ (k : Nat) (x : α) (T' : State) (h' : Heap), St K Z R y bytes maxL ret n0 T' h' cl' sl' → Inv k x h' → Go K R n0 Q T' pcj (Lj x) (stj x)) → Go K R n0 Q T pc L st) : Go K R n0 Q T pc L st := h2 (fun k => Nat.strongRecOn k h1)
theorem i32_of {x y : Int32} {n : Int} (h : x.toInt = n) (hy : y.toInt = n) : x = y := Int32.toInt_inj.mp (h.trans hy.symm)
theorem i64_of {x y : Int64} {n : Int} (h : x.toInt = n) (hy : y.toInt = n) : x = y := Int64.toInt_inj.mp (h.trans hy.symm)
theorem ne_new {a b n : Nat} (e : a = n) (h : b < n) : b ≠ a := by omega
theorem f_imul (x y : Int32) (n : Int) (hy : y.toInt = n) : ((x * y).toInt - x.toInt * n) % 4294967296 = 0 := by rw [← hy]; exact c_imul x y
theorem f_imul' (x y : Int32) (n : Int) (hx : x.toInt = n) : ((x * y).toInt - n * y.toInt) % 4294967296 = 0 := by rw [← hx]; exact c_imul x y
theorem f_lmul (x y : Int64) (n : Int) (hy : y.toInt = n) : ((x * y).toInt - x.toInt * n) % 18446744073709551616 = 0 := by rw [← hy]; exact c_lmul x y
theorem f_lmul' (x y : Int64) (n : Int) (hx : x.toInt = n) : ((x * y).toInt - n * y.toInt) % 18446744073709551616 = 0 := by rw [← hx]; exact c_lmul x y
theorem f_imask (x m : Int32) (k : Nat) (P : Int) (hk : k ≤ 31) (hm : m.toBitVec.toNat = 2 ^ k - 1) (hP : ((2 ^ k : Nat) : Int) = P) : (x &&& m).toInt = x.toInt % P := by rw [← hP]; exact c_mask x m k hk hm
theorem f_imask' (m x : Int32) (k : Nat) (P : Int) (hk : k ≤ 31) (hm : m.toBitVec.toNat = 2 ^ k - 1) (hP : ((2 ^ k : Nat) : Int) = P) : (m &&& x).toInt = x.toInt % P := by rw [Int32.and_comm]; exact f_imask x m k P hk hm hP
theorem f_lmask (x m : Int64) (k : Nat) (P : Int) (hk : k ≤ 63) (hm : m.toBitVec.toNat = 2 ^ k - 1) (hP : ((2 ^ k : Nat) : Int) = P) : (x &&& m).toInt = x.toInt % P := by rw [← hP]; exact c_maskL x m k hk hm
theorem f_lmask' (m x : Int64) (k : Nat) (P : Int) (hk : k ≤ 63) (hm : m.toBitVec.toNat = 2 ^ k - 1) (hP : ((2 ^ k : Nat) : Int) = P) : (m &&& x).toInt = x.toInt % P := by rw [Int64.and_comm]; exact f_lmask x m k P hk hm hP
theorem f_ishl (x q : Int32) (k : Nat) (P : Int) (hk : q.toBitVec.toNat % 32 = k) (hP : ((2 ^ k : Nat) : Int) = P) : ((x <<< (q &&& 31)).toInt - x.toInt * P) % 4294967296 = 0 := by rw [← hP]; exact c_ishl x q k hk
theorem f_ishr (x q : Int32) (k : Nat) (P : Int) (hk : q.toBitVec.toNat % 32 = k) (hP : ((2 ^ k : Nat) : Int) = P) : (x >>> (q &&& 31)).toInt = x.toInt / P := by rw [← hP]; exact c_ishr x q k hk
theorem f_iushr (x q : Int32) (k : Nat) (P : Int) (hk : q.toBitVec.toNat % 32 = k) (h0 : 0 < k) (hP : ((2 ^ k : Nat) : Int) = P) : (ushr x q).toInt = (x.toInt % 4294967296) / P := by rw [← hP]; exact c_iushr x q k hk h0
theorem f_lshl (x : Int64) (q : Int32) (k : Nat) (P : Int) (hk : q.toBitVec.toNat % 64 = k) (hP : ((2 ^ k : Nat) : Int) = P) : ((x <<< (q &&& 0x3f).toInt64).toInt - x.toInt * P) % 18446744073709551616 = 0 := by rw [← hP]; exact c_lshl x q k hk
theorem f_lshr (x : Int64) (q : Int32) (k : Nat) (P : Int) (hk : q.toBitVec.toNat % 64 = k) (hP : ((2 ^ k : Nat) : Int) = P) : (x >>> (q &&& 0x3f).toInt64).toInt = x.toInt / P := by rw [← hP]; exact c_lshr x q k hk
theorem f_lushr (x : Int64) (q : Int32) (k : Nat) (P : Int) (hk : q.toBitVec.toNat % 64 = k) (h0 : 0 < k) (hP : ((2 ^ k : Nat) : Int) = P) : (ushrL x q).toInt = (x.toInt % 18446744073709551616) / P := by rw [← hP]; exact c_lushr x q k hk h0
theorem f_idiv (x y : Int32) (d : Int) (hy : y.toInt = d) (hd : y ≠ -1) : (0 ≤ x.toInt → (x / y).toInt = x.toInt / d) ∧ (x.toInt < 0 → (x / y).toInt = -((-x.toInt) / d)) := c_idiv x y d hy hd
theorem f_irem (x y : Int32) (d : Int) (hy : y.toInt = d) : (0 ≤ x.toInt → (x % y).toInt = x.toInt % d) ∧ (x.toInt < 0 → (x % y).toInt = -((-x.toInt) % d)) := c_irem x y d hy
theorem f_ldiv (x y : Int64) (d : Int) (hy : y.toInt = d) (hd : y ≠ -1) : (0 ≤ x.toInt → (x / y).toInt = x.toInt / d) ∧ (x.toInt < 0 → (x / y).toInt = -((-x.toInt) / d)) := c_ldiv x y d hy hd
theorem f_i2b (x : Int32) : ((i2b x).toInt - x.toInt) % 256 = 0 ∧ -128 ≤ (i2b x).toInt ∧ (i2b x).toInt < 128 := c_i2b x
theorem f_i2s (x : Int32) : ((i2s x).toInt - x.toInt) % 65536 = 0 ∧ -32768 ≤ (i2s x).toInt ∧ (i2s x).toInt < 32768 := c_i2s x
theorem f_i2c (x : Int32) : ((i2c x).toInt - x.toInt) % 65536 = 0 ∧ 0 ≤ (i2c x).toInt ∧ (i2c x).toInt < 65536 := c_i2c x
theorem x_iadd {a b : Int32} {la ha lb hb : Int} (p : la ≤ a.toInt ∧ a.toInt ≤ ha) (q : lb ≤ b.toInt ∧ b.toInt ≤ hb) (h1 : -2147483648 ≤ la + lb) (h2 : ha + hb < 2147483648) : (a + b).toInt = a.toInt + b.toInt := by have r := c_iadd a b; have s := rng32 (a + b); omega
theorem x_isub {a b : Int32} {la ha lb hb : Int} (p : la ≤ a.toInt ∧ a.toInt ≤ ha) (q : lb ≤ b.toInt ∧ b.toInt ≤ hb) (h1 : -2147483648 ≤ la - hb) (h2 : ha - lb < 2147483648) : (a - b).toInt = a.toInt - b.toInt := by have r := c_isub a b; have s := rng32 (a - b); omega
theorem x_imask {a m : Int32} {P : Int} (k : Nat) (hk : k ≤ 32 - 1) (hm : m.toBitVec.toNat = 2 ^ k - 1) (hP : ((2 ^ k : Nat) : Int) = P) : (a &&& m).toInt = a.toInt % P := f_imask a m k P hk hm hP
theorem x_ineg {a : Int32} {la ha : Int} (p : la ≤ a.toInt ∧ a.toInt ≤ ha) (h1 : -2147483648 < la) : (-a).toInt = -a.toInt := by have r := c_ineg a; have s := rng32 (-a); have t := rng32 a; omega
theorem x_ishr {x : Int32} {q : Int32} {P : Int} (k : Nat) (hk : q.toBitVec.toNat % 32 = k) (hP : ((2 ^ k : Nat) : Int) = P) : (x >>> (q &&& 31)).toInt = x.toInt / P := f_ishr x q k P hk hP
theorem x_iushr {x : Int32} {q : Int32} {P la ha : Int} (p : la ≤ x.toInt ∧ x.toInt ≤ ha) (h1 : 0 ≤ la) (k : Nat) (hk : q.toBitVec.toNat % 32 = k) (h0 : 0 < k) (hP : ((2 ^ k : Nat) : Int) = P) : (ushr x q).toInt = x.toInt / P := by
  have r := f_iushr x q k P hk h0 hP
  have s := rng32 x
  rw [r]; congr 1; omega
theorem x_imul {a b : Int32} {la ha n : Int} (p : la ≤ a.toInt ∧ a.toInt ≤ ha) (hn : b.toInt = n) (h0 : 0 ≤ n) (h1 : -2147483648 ≤ la * n) (h2 : ha * n < 2147483648) : (a * b).toInt = a.toInt * n := by
  have r := f_imul a b n hn
  have s := rng32 (a * b)
  have m1 := Int.mul_le_mul_of_nonneg_right p.1 h0
  have m2 := Int.mul_le_mul_of_nonneg_right p.2 h0
  generalize a.toInt * n = z at *
  generalize la * n = z1 at *
  generalize ha * n = z2 at *
  omega
theorem x_imulN {a b : Int32} {la ha n : Int} (p : la ≤ a.toInt ∧ a.toInt ≤ ha) (hn : b.toInt = n) (h0 : n ≤ 0) (h1 : -2147483648 ≤ ha * n) (h2 : la * n < 2147483648) : (a * b).toInt = a.toInt * n := by
  have r := f_imul a b n hn
  have s := rng32 (a * b)
  have m1 := Int.mul_le_mul_of_nonpos_right p.1 h0
  have m2 := Int.mul_le_mul_of_nonpos_right p.2 h0
  generalize a.toInt * n = z at *
  generalize la * n = z1 at *
  generalize ha * n = z2 at *
  omega
theorem x_imulN' {a b : Int32} {la ha n : Int} (p : la ≤ b.toInt ∧ b.toInt ≤ ha) (hn : a.toInt = n) (h0 : n ≤ 0) (h1 : -2147483648 ≤ ha * n) (h2 : la * n < 2147483648) : (a * b).toInt = b.toInt * n := by
  rw [Int32.mul_comm]; exact x_imulN p hn h0 h1 h2
theorem x_imul' {a b : Int32} {la ha n : Int} (p : la ≤ b.toInt ∧ b.toInt ≤ ha) (hn : a.toInt = n) (h0 : 0 ≤ n) (h1 : -2147483648 ≤ la * n) (h2 : ha * n < 2147483648) : (a * b).toInt = b.toInt * n := by
  rw [Int32.mul_comm]; exact x_imul p hn h0 h1 h2
theorem x_ladd {a b : Int64} {la ha lb hb : Int} (p : la ≤ a.toInt ∧ a.toInt ≤ ha) (q : lb ≤ b.toInt ∧ b.toInt ≤ hb) (h1 : -9223372036854775808 ≤ la + lb) (h2 : ha + hb < 9223372036854775808) : (a + b).toInt = a.toInt + b.toInt := by have r := c_ladd a b; have s := rng64 (a + b); omega
theorem x_lsub {a b : Int64} {la ha lb hb : Int} (p : la ≤ a.toInt ∧ a.toInt ≤ ha) (q : lb ≤ b.toInt ∧ b.toInt ≤ hb) (h1 : -9223372036854775808 ≤ la - hb) (h2 : ha - lb < 9223372036854775808) : (a - b).toInt = a.toInt - b.toInt := by have r := c_lsub a b; have s := rng64 (a - b); omega
theorem x_lmask {a m : Int64} {P : Int} (k : Nat) (hk : k ≤ 64 - 1) (hm : m.toBitVec.toNat = 2 ^ k - 1) (hP : ((2 ^ k : Nat) : Int) = P) : (a &&& m).toInt = a.toInt % P := f_lmask a m k P hk hm hP
theorem x_lneg {a : Int64} {la ha : Int} (p : la ≤ a.toInt ∧ a.toInt ≤ ha) (h1 : -9223372036854775808 < la) : (-a).toInt = -a.toInt := by have r := c_lneg a; have s := rng64 (-a); have t := rng64 a; omega
theorem x_lshr {x : Int64} {q : Int32} {P : Int} (k : Nat) (hk : q.toBitVec.toNat % 64 = k) (hP : ((2 ^ k : Nat) : Int) = P) : (x >>> (q &&& 0x3f).toInt64).toInt = x.toInt / P := f_lshr x q k P hk hP
theorem x_lushr {x : Int64} {q : Int32} {P la ha : Int} (p : la ≤ x.toInt ∧ x.toInt ≤ ha) (h1 : 0 ≤ la) (k : Nat) (hk : q.toBitVec.toNat % 64 = k) (h0 : 0 < k) (hP : ((2 ^ k : Nat) : Int) = P) : (ushrL x q).toInt = x.toInt / P := by
  have r := f_lushr x q k P hk h0 hP
  have s := rng64 x
  rw [r]; congr 1; omega
theorem x_lmul {a b : Int64} {la ha n : Int} (p : la ≤ a.toInt ∧ a.toInt ≤ ha) (hn : b.toInt = n) (h0 : 0 ≤ n) (h1 : -9223372036854775808 ≤ la * n) (h2 : ha * n < 9223372036854775808) : (a * b).toInt = a.toInt * n := by
  have r := f_lmul a b n hn
  have s := rng64 (a * b)
  have m1 := Int.mul_le_mul_of_nonneg_right p.1 h0
  have m2 := Int.mul_le_mul_of_nonneg_right p.2 h0
  generalize a.toInt * n = z at *
  generalize la * n = z1 at *
  generalize ha * n = z2 at *
  omega
theorem x_lmulN {a b : Int64} {la ha n : Int} (p : la ≤ a.toInt ∧ a.toInt ≤ ha) (hn : b.toInt = n) (h0 : n ≤ 0) (h1 : -9223372036854775808 ≤ ha * n) (h2 : la * n < 9223372036854775808) : (a * b).toInt = a.toInt * n := by
  have r := f_lmul a b n hn
  have s := rng64 (a * b)
  have m1 := Int.mul_le_mul_of_nonpos_right p.1 h0
  have m2 := Int.mul_le_mul_of_nonpos_right p.2 h0
  generalize a.toInt * n = z at *
  generalize la * n = z1 at *
  generalize ha * n = z2 at *
  omega
theorem x_lmulN' {a b : Int64} {la ha n : Int} (p : la ≤ b.toInt ∧ b.toInt ≤ ha) (hn : a.toInt = n) (h0 : n ≤ 0) (h1 : -9223372036854775808 ≤ ha * n) (h2 : la * n < 9223372036854775808) : (a * b).toInt = b.toInt * n := by
  rw [Int64.mul_comm]; exact x_lmulN p hn h0 h1 h2
theorem x_lmul' {a b : Int64} {la ha n : Int} (p : la ≤ b.toInt ∧ b.toInt ≤ ha) (hn : a.toInt = n) (h0 : 0 ≤ n) (h1 : -9223372036854775808 ≤ la * n) (h2 : ha * n < 9223372036854775808) : (a * b).toInt = b.toInt * n := by
  rw [Int64.mul_comm]; exact x_lmul p hn h0 h1 h2
theorem ib_add {a b la ha lb hb lo hi : Int} (p : la ≤ a ∧ a ≤ ha) (q : lb ≤ b ∧ b ≤ hb) (h1 : lo ≤ la + lb) (h2 : ha + hb ≤ hi) : lo ≤ a + b ∧ a + b ≤ hi := by omega
theorem ib_sub {a b la ha lb hb lo hi : Int} (p : la ≤ a ∧ a ≤ ha) (q : lb ≤ b ∧ b ≤ hb) (h1 : lo ≤ la - hb) (h2 : ha - lb ≤ hi) : lo ≤ a - b ∧ a - b ≤ hi := by omega
theorem ib_neg {a la ha lo hi : Int} (p : la ≤ a ∧ a ≤ ha) (h1 : lo ≤ -ha) (h2 : -la ≤ hi) : lo ≤ -a ∧ -a ≤ hi := by omega
theorem ib_mod {a lo hi : Int} (P : Int) (hP : 0 < P) (h1 : lo ≤ 0) (h2 : P - 1 ≤ hi) : lo ≤ a % P ∧ a % P ≤ hi := by have := Int.emod_nonneg a (Int.ne_of_gt hP); have := Int.emod_lt_of_pos a hP; omega
theorem ib_div {a la ha lo hi : Int} (P : Int) (hP : 0 < P) (p : la ≤ a ∧ a ≤ ha) (h1 : lo ≤ la / P) (h2 : ha / P ≤ hi) : lo ≤ a / P ∧ a / P ≤ hi := ⟨Int.le_trans h1 (Int.ediv_le_ediv hP p.1), Int.le_trans (Int.ediv_le_ediv hP p.2) h2⟩
theorem ib_mul {a la ha lo hi : Int} (n : Int) (h0 : 0 ≤ n) (p : la ≤ a ∧ a ≤ ha) (h1 : lo ≤ la * n) (h2 : ha * n ≤ hi) : lo ≤ a * n ∧ a * n ≤ hi := ⟨Int.le_trans h1 (Int.mul_le_mul_of_nonneg_right p.1 h0), Int.le_trans (Int.mul_le_mul_of_nonneg_right p.2 h0) h2⟩
theorem ib_mulN {a la ha lo hi : Int} (n : Int) (h0 : n ≤ 0) (p : la ≤ a ∧ a ≤ ha) (h1 : lo ≤ ha * n) (h2 : la * n ≤ hi) : lo ≤ a * n ∧ a * n ≤ hi := ⟨Int.le_trans h1 (Int.mul_le_mul_of_nonpos_right p.2 h0), Int.le_trans (Int.mul_le_mul_of_nonpos_right p.1 h0) h2⟩
theorem x_idiv {a b : Int32} {la ha d : Int} (p : la ≤ a.toInt ∧ a.toInt ≤ ha) (hy : b.toInt = d) (h0 : 0 ≤ la) (hd : b ≠ -1) : (a / b).toInt = a.toInt / d := (c_idiv a b d hy hd).1 (Int.le_trans h0 p.1)
theorem x_irem {a b : Int32} {la ha d : Int} (p : la ≤ a.toInt ∧ a.toInt ≤ ha) (hy : b.toInt = d) (h0 : 0 ≤ la) : (a % b).toInt = a.toInt % d := (c_irem a b d hy).1 (Int.le_trans h0 p.1)
theorem rb32 (x : Int32) : -2147483648 ≤ x.toInt ∧ x.toInt ≤ 2147483647 := by have := rng32 x; omega
theorem rb64 (x : Int64) : -9223372036854775808 ≤ x.toInt ∧ x.toInt ≤ 9223372036854775807 := by have := rng64 x; omega
theorem x_l2i {x : Int64} {la ha : Int} (p : la ≤ x.toInt ∧ x.toInt ≤ ha) (h1 : -2147483648 ≤ la) (h2 : ha < 2147483648) : x.toInt32.toInt = x.toInt := by have r := c_l2i x; have s := rng32 x.toInt32; omega
end Kit
end Jvm.OwnK
namespace Jvm.Pilot.@@N@@
open Jvm Jvm.ClassFile Sem Op Lib Jvm.Free Jvm.Stand Jvm.LawKit Jvm.RoadKit Bundle Jvm.OwnK Jvm.Pilot.@@N@@.Jvm.D
abbrev Bud (Z : State) (h : Heap) (a : Addr) (mx tk : Int64) (sp : Int32) : Prop := Exa Z h a "com/example/striate/striate/segment/ReadBudget" ∧ Fld Z h a "com/example/striate/striate/segment/ReadBudget" "maxBytes" "J" (.long mx) ∧ Fld Z h a "com/example/striate/striate/segment/ReadBudget" "taken" "J" (.long tk) ∧ Fld Z h a "com/example/striate/striate/segment/ReadBudget" "spent" "Z" (.int sp)
theorem d1_0 : decode jdk_29_method_66_code 0 = .ok (.lload_n 0, 1) := by decide +kernel
theorem d1_1 : decode jdk_29_method_66_code 1 = .ok (.lload_n 2, 1) := by decide +kernel
theorem d1_2 : decode jdk_29_method_66_code 2 = .ok (.lcmp, 1) := by decide +kernel
theorem d1_3 : decode jdk_29_method_66_code 3 = .ok (.ifCond .lt 7, 3) := by decide +kernel
theorem d1_6 : decode jdk_29_method_66_code 6 = .ok (.lload_n 0, 1) := by decide +kernel
theorem d1_7 : decode jdk_29_method_66_code 7 = .ok (.goto 4, 3) := by decide +kernel
theorem d1_10 : decode jdk_29_method_66_code 10 = .ok (.lload_n 2, 1) := by decide +kernel
theorem d1_11 : decode jdk_29_method_66_code 11 = .ok (.lreturn, 1) := by decide +kernel
set_option maxRecDepth 65536 in
set_option maxHeartbeats 40000000 in
theorem c_max {Z : State} {a0 : Array Value} (hw : ∀ d ∈ tables_1, d.before a0 Z = true) {x z : Int64} {h0 : Heap} {n0 : Nat} (Z0 : n0 ≤ h0.size) :
    Ctr Z n0 (⟨"java/lang/Math", "max", "(JJ)J"⟩ : MethodName) jdk_29_method_66_code 4 (some .long) ({ frames := 0, cells := 0, slots := 0, locals := 0 } : Room) [(.long x), (.long z)] h0 (fun v h => h = h0 ∧ ((v = some (.long x) ∧ x.toInt ≥ z.toInt) ∨ (v = some (.long z) ∧ x.toInt < z.toInt))) := by
  refine Ctr.of (L := #[.val (.long x), .second, .val (.long z), .second]) (Jvm.Free.JP.mathPlain rfl (by decide +kernel)) Z0 (fun m => by first | (simp [entryFrame, mkF, argsToLocals, Value.category]; done) | rfl) ?_
  intro K T S0
  refine px_lloadN S0 d1_0 rfl rfl ?_
  refine px_lloadN S0 d1_1 rfl rfl ?_
  refine px_lif S0 d1_2 rfl d1_3 (by decide) (pc' := 10) rfl rfl (fun (hc1 : x.toInt < z.toInt) => ?_) (fun (hc1 : x.toInt ≥ z.toInt) => ?_)
  · refine px_lloadN S0 d1_10 rfl rfl ?_
    exact px_retJ S0 d1_11 rfl (by decide) (by decide) (⟨rfl, Or.inr ⟨rfl, hc1⟩⟩)
  · refine px_lloadN S0 d1_6 rfl rfl ?_
    refine px_goto S0 d1_7 (by decide) (pc' := 11) rfl ?_
    exact px_retJ S0 d1_11 rfl (by decide) (by decide) (⟨rfl, Or.inl ⟨rfl, hc1⟩⟩)
theorem d2_0 : decode prog_56_method_1_code 0 = .ok (.aload_n 0, 1) := by decide +kernel
theorem d2_1 : decode prog_56_method_1_code 1 = .ok (.invokespecial 1, 3) := by decide +kernel
theorem d2_4 : decode prog_56_method_1_code 4 = .ok (.aload_n 0, 1) := by decide +kernel
theorem d2_5 : decode prog_56_method_1_code 5 = .ok (.lload_n 1, 1) := by decide +kernel
theorem d2_6 : decode prog_56_method_1_code 6 = .ok (.putfield 7, 3) := by decide +kernel
theorem d2_9 : decode prog_56_method_1_code 9 = .ok (.return_, 1) := by decide +kernel
theorem pn_2 : plainFor (⟨"com/example/striate/striate/segment/ReadBudget", "<init>", "(J)V"⟩ : MethodName) = true := plainFor_of_name (by first | (simp [plainName, overriddenIn]; done) | decide +kernel)
set_option maxRecDepth 65536 in
set_option maxHeartbeats 40000000 in
theorem c_init {Z : State} {a0 : Array Value} (hw : ∀ d ∈ tables_1, d.before a0 Z = true) {a : Addr} {mx tk : Int64} {sp : Int32} {x : Int64} {h0 : Heap} {n0 : Nat} (Z0 : n0 ≤ h0.size) (g_a : n0 ≤ a) (B0 : Bud Z h0 a mx tk sp) :
    Ctr Z n0 (⟨"com/example/striate/striate/segment/ReadBudget", "<init>", "(J)V"⟩ : MethodName) prog_56_method_1_code 3 none ({ frames := 1, cells := 0, slots := 0, locals := 12 } : Room) [(.ref a), (.long x)] h0 (fun v h => v = none ∧ Bud Z h a x tk sp) := by
  refine Ctr.of (L := #[.val (.ref a), .val (.long x), .second]) pn_2 Z0 (fun m => by first | (simp [entryFrame, mkF, argsToLocals, Value.category]; done) | rfl) ?_
  intro K T S0
  obtain ⟨X_a, F_maxBytes_a, F_taken_a, F_spent_a⟩ := B0
  refine px_aloadN S0 d2_0 rfl rfl rfl ?_
  refine px_initO (W := 0) S0 (hw _ (List.mem_of_getElem? (i := 12) rfl)) (hw _ (List.mem_of_getElem? (i := 13) rfl)) (hw _ (List.mem_of_getElem? (i := 14) rfl)) rfl (by decide) rfl (by decide) d2_1 rfl (fun T1 S1 => ?_)
  refine px_aloadN S1 d2_4 rfl rfl rfl ?_
  refine px_lloadN S1 d2_5 rfl rfl ?_
  refine px_putfield (ty := .long) S1 (hw _ (List.mem_of_getElem? (i := 15) rfl)) F_maxBytes_a X_a g_a (Or.inr ⟨(hw _ (List.mem_of_getElem? (i := 16) rfl)), rfl, rfl⟩) (hw _ (List.mem_of_getElem? (i := 7) rfl)) (by decide) rfl rfl d2_6 rfl (fun T2 h2 S2 W2 F_maxBytes_a X_a => ?_)
  replace F_taken_a := F_taken_a.other W2 (Or.inr (slot_ne (Or.inl (hw _ (List.mem_of_getElem? (i := 23) rfl))) (Or.inr (hw _ (List.mem_of_getElem? (i := 16) rfl))) (by decide) (t := .long) (t' := .long) (by decide) (by decide)))
  replace F_spent_a := F_spent_a.other W2 (Or.inr (slot_ne (Or.inl (hw _ (List.mem_of_getElem? (i := 25) rfl))) (Or.inr (hw _ (List.mem_of_getElem? (i := 16) rfl))) (by decide) (t := .boolean) (t' := .long) (by decide) (by decide)))
  exact px_return S2 d2_9 rfl (by decide) (by decide) (⟨rfl, X_a, F_maxBytes_a, F_taken_a, F_spent_a⟩)
theorem d5_0 : decode prog_56_method_2_code 0 = .ok (.aload_n 0, 1) := by decide +kernel
theorem d5_1 : decode prog_56_method_2_code 1 = .ok (.getfield 13, 3) := by decide +kernel
theorem d5_4 : decode prog_56_method_2_code 4 = .ok (.ireturn, 1) := by decide +kernel
theorem pn_5 : plainFor (⟨"com/example/striate/striate/segment/ReadBudget", "spent", "()Z"⟩ : MethodName) = true := plainFor_of_name (by first | (simp [plainName, overriddenIn]; done) | decide +kernel)
set_option maxRecDepth 65536 in
set_option maxHeartbeats 40000000 in
theorem c_spent {Z : State} {a0 : Array Value} (hw : ∀ d ∈ tables_1, d.before a0 Z = true) {a : Addr} {mx tk : Int64} {sp : Int32}  {h0 : Heap} {n0 : Nat} (Z0 : n0 ≤ h0.size) (g_a : n0 ≤ a) (B0 : Bud Z h0 a mx tk sp) (hs : nar .boolean sp = sp) :
    Ctr Z n0 (⟨"com/example/striate/striate/segment/ReadBudget", "spent", "()Z"⟩ : MethodName) prog_56_method_2_code 1 (some .boolean) ({ frames := 0, cells := 0, slots := 0, locals := 0 } : Room) [(.ref a)] h0 (fun v h => v = some (.int sp) ∧ Bud Z h a mx tk sp) := by
  refine Ctr.of (L := #[.val (.ref a)]) pn_5 Z0 (fun m => by first | (simp [entryFrame, mkF, argsToLocals, Value.category]; done) | rfl) ?_
  intro K T S0
  obtain ⟨X_a, F_maxBytes_a, F_taken_a, F_spent_a⟩ := B0
  refine px_aloadN S0 d5_0 rfl rfl rfl ?_
  refine px_getfield S0 (hw _ (List.mem_of_getElem? (i := 24) rfl)) F_spent_a d5_1 rfl (fun T1 S1 => ?_)
  exact px_retN (t := .boolean) (z' := sp) S1 d5_4 rfl (by simp) hs (by decide) (by decide) (⟨rfl, X_a, F_maxBytes_a, F_taken_a, F_spent_a⟩)
theorem d4_0 : decode prog_56_method_3_code 0 = .ok (.aload_n 0, 1) := by decide +kernel
theorem d4_1 : decode prog_56_method_3_code 1 = .ok (.getfield 17, 3) := by decide +kernel
theorem d4_4 : decode prog_56_method_3_code 4 = .ok (.lconst 0, 1) := by decide +kernel
theorem d4_5 : decode prog_56_method_3_code 5 = .ok (.lcmp, 1) := by decide +kernel
theorem d4_6 : decode prog_56_method_3_code 6 = .ok (.ifCond .le 26, 3) := by decide +kernel
theorem d4_9 : decode prog_56_method_3_code 9 = .ok (.iload_n 1, 1) := by decide +kernel
theorem d4_10 : decode prog_56_method_3_code 10 = .ok (.i2l, 1) := by decide +kernel
theorem d4_11 : decode prog_56_method_3_code 11 = .ok (.aload_n 0, 1) := by decide +kernel
theorem d4_12 : decode prog_56_method_3_code 12 = .ok (.getfield 7, 3) := by decide +kernel
theorem d4_15 : decode prog_56_method_3_code 15 = .ok (.aload_n 0, 1) := by decide +kernel
theorem d4_16 : decode prog_56_method_3_code 16 = .ok (.getfield 17, 3) := by decide +kernel
theorem d4_19 : decode prog_56_method_3_code 19 = .ok (.lsub, 1) := by decide +kernel
theorem d4_20 : decode prog_56_method_3_code 20 = .ok (.lcmp, 1) := by decide +kernel
theorem d4_21 : decode prog_56_method_3_code 21 = .ok (.ifCond .le 11, 3) := by decide +kernel
theorem d4_24 : decode prog_56_method_3_code 24 = .ok (.aload_n 0, 1) := by decide +kernel
theorem d4_25 : decode prog_56_method_3_code 25 = .ok (.iconst 1, 1) := by decide +kernel
theorem d4_26 : decode prog_56_method_3_code 26 = .ok (.putfield 13, 3) := by decide +kernel
theorem d4_29 : decode prog_56_method_3_code 29 = .ok (.goto 14, 3) := by decide +kernel
theorem d4_32 : decode prog_56_method_3_code 32 = .ok (.aload_n 0, 1) := by decide +kernel
theorem d4_33 : decode prog_56_method_3_code 33 = .ok (.dup, 1) := by decide +kernel
theorem d4_34 : decode prog_56_method_3_code 34 = .ok (.getfield 17, 3) := by decide +kernel
theorem d4_37 : decode prog_56_method_3_code 37 = .ok (.iload_n 1, 1) := by decide +kernel
theorem d4_38 : decode prog_56_method_3_code 38 = .ok (.i2l, 1) := by decide +kernel
theorem d4_39 : decode prog_56_method_3_code 39 = .ok (.ladd, 1) := by decide +kernel
theorem d4_40 : decode prog_56_method_3_code 40 = .ok (.putfield 17, 3) := by decide +kernel
theorem d4_43 : decode prog_56_method_3_code 43 = .ok (.aload_n 0, 1) := by decide +kernel
theorem d4_44 : decode prog_56_method_3_code 44 = .ok (.getfield 13, 3) := by decide +kernel
theorem d4_47 : decode prog_56_method_3_code 47 = .ok (.ifCond .ne 7, 3) := by decide +kernel
theorem d4_50 : decode prog_56_method_3_code 50 = .ok (.iconst 1, 1) := by decide +kernel
theorem d4_51 : decode prog_56_method_3_code 51 = .ok (.goto 4, 3) := by decide +kernel
theorem d4_54 : decode prog_56_method_3_code 54 = .ok (.iconst 0, 1) := by decide +kernel
theorem d4_55 : decode prog_56_method_3_code 55 = .ok (.ireturn, 1) := by decide +kernel
theorem pn_4 : plainFor (⟨"com/example/striate/striate/segment/ReadBudget", "take", "(I)Z"⟩ : MethodName) = true := plainFor_of_name (by first | (simp [plainName, overriddenIn]; done) | decide +kernel)
set_option maxRecDepth 65536 in
set_option maxHeartbeats 40000000 in
theorem c_take {Z : State} {a0 : Array Value} (hw : ∀ d ∈ tables_1, d.before a0 Z = true) {a : Addr} {mx tk : Int64} {sp x : Int32} {h0 : Heap} {n0 : Nat} (Z0 : n0 ≤ h0.size) (g_a : n0 ≤ a) (B0 : Bud Z h0 a mx tk sp) :
    Ctr Z n0 (⟨"com/example/striate/striate/segment/ReadBudget", "take", "(I)Z"⟩ : MethodName) prog_56_method_3_code 2 (some .boolean) ({ frames := 0, cells := 0, slots := 0, locals := 0 } : Room) [(.ref a), (.int x)] h0 (fun v h => ((0 < tk.toInt ∧ x.toInt64.toInt > (mx - tk).toInt) ∧ v = some (.int 0) ∧ Bud Z h a mx tk 1) ∨ (¬ (0 < tk.toInt ∧ x.toInt64.toInt > (mx - tk).toInt) ∧ sp.toInt = 0 ∧ v = some (.int 1) ∧ Bud Z h a mx (tk + x.toInt64) sp) ∨ (¬ (0 < tk.toInt ∧ x.toInt64.toInt > (mx - tk).toInt) ∧ ¬ sp.toInt = 0 ∧ v = some (.int 0) ∧ Bud Z h a mx (tk + x.toInt64) sp)) := by
  refine Ctr.of (L := #[.val (.ref a), .val (.int x)]) pn_4 Z0 (fun m => by first | (simp [entryFrame, mkF, argsToLocals, Value.category]; done) | rfl) ?_
  intro K T S0
  obtain ⟨X_a, F_maxBytes_a, F_taken_a, F_spent_a⟩ := B0
  refine px_aloadN S0 d4_0 rfl rfl rfl ?_
  refine px_getfield S0 (hw _ (List.mem_of_getElem? (i := 22) rfl)) F_taken_a d4_1 rfl (fun T1 S1 => ?_)
  refine px_lconst (v := (0 : Int64)) S1 d4_4 rfl rfl ?_
  refine px_lif S1 d4_5 rfl d4_6 (by decide) (pc' := 32) rfl rfl (fun (hc2 : tk.toInt ≤ (0 : Int64).toInt) => ?_) (fun (hc2 : tk.toInt > (0 : Int64).toInt) => ?_)
  · refine px_aloadN S1 d4_32 rfl rfl rfl ?_
    refine px_dup S1 d4_33 rfl rfl ?_
    refine px_getfield S1 (hw _ (List.mem_of_getElem? (i := 22) rfl)) F_taken_a d4_34 rfl (fun T3 S3 => ?_)
    refine px_iloadN S3 d4_37 rfl rfl ?_
    refine px_i2l S3 d4_38 rfl ?_
    refine px_ladd S3 d4_39 rfl ?_
    refine px_putfield (ty := .long) S3 (hw _ (List.mem_of_getElem? (i := 22) rfl)) F_taken_a X_a g_a (Or.inl (hw _ (List.mem_of_getElem? (i := 23) rfl))) (hw _ (List.mem_of_getElem? (i := 7) rfl)) (by decide) rfl rfl d4_40 rfl (fun T4 h4 S4 W4 F_taken_a X_a => ?_)
    replace F_maxBytes_a := F_maxBytes_a.other W4 (Or.inr (slot_ne (Or.inr (hw _ (List.mem_of_getElem? (i := 16) rfl))) (Or.inl (hw _ (List.mem_of_getElem? (i := 23) rfl))) (by decide) (t := .long) (t' := .long) (by decide) (by decide)))
    replace F_spent_a := F_spent_a.other W4 (Or.inr (slot_ne (Or.inl (hw _ (List.mem_of_getElem? (i := 25) rfl))) (Or.inl (hw _ (List.mem_of_getElem? (i := 23) rfl))) (by decide) (t := .boolean) (t' := .long) (by decide) (by decide)))
    refine px_aloadN S4 d4_43 rfl rfl rfl ?_
    refine px_getfield S4 (hw _ (List.mem_of_getElem? (i := 24) rfl)) F_spent_a d4_44 rfl (fun T5 S5 => ?_)
    refine px_if0 S5 d4_47 (by decide) (pc' := 54) rfl rfl (fun (hc6 : ¬ sp.toInt = 0) => ?_) (fun (hc6 : sp.toInt = 0) => ?_)
    · refine px_iconst (v := (0 : Int32)) S5 d4_54 rfl rfl ?_
      exact px_retN (t := .boolean) (z' := (0 : Int32)) S5 d4_55 rfl (by simp) rfl (by decide) (by decide) (Or.inr (Or.inr ⟨by have q0 := rng64 tk; have q1 := (show (0 : Int64).toInt = 0 from rfl); have q2 := rng32 sp; omega, hc6, rfl, X_a, F_maxBytes_a, F_taken_a, F_spent_a⟩))
    · refine px_iconst (v := (1 : Int32)) S5 d4_50 rfl rfl ?_
      refine px_goto S5 d4_51 (by decide) (pc' := 55) rfl ?_
      exact px_retN (t := .boolean) (z' := (1 : Int32)) S5 d4_55 rfl (by simp) rfl (by decide) (by decide) (Or.inr (Or.inl ⟨by have q0 := rng64 tk; have q1 := (show (0 : Int64).toInt = 0 from rfl); have q2 := rng32 sp; omega, hc6, rfl, X_a, F_maxBytes_a, F_taken_a, F_spent_a⟩))
  · refine px_iloadN S1 d4_9 rfl rfl ?_
    refine px_i2l S1 d4_10 rfl ?_
    refine px_aloadN S1 d4_11 rfl rfl rfl ?_
    refine px_getfield S1 (hw _ (List.mem_of_getElem? (i := 15) rfl)) F_maxBytes_a d4_12 rfl (fun T7 S7 => ?_)
    refine px_aloadN S7 d4_15 rfl rfl rfl ?_
    refine px_getfield S7 (hw _ (List.mem_of_getElem? (i := 22) rfl)) F_taken_a d4_16 rfl (fun T8 S8 => ?_)
    refine px_lsub S8 d4_19 rfl ?_
    refine px_lif S8 d4_20 rfl d4_21 (by decide) (pc' := 32) rfl rfl (fun (hc9 : x.toInt64.toInt ≤ (mx - tk).toInt) => ?_) (fun (hc9 : x.toInt64.toInt > (mx - tk).toInt) => ?_)
    · refine px_aloadN S8 d4_32 rfl rfl rfl ?_
      refine px_dup S8 d4_33 rfl rfl ?_
      refine px_getfield S8 (hw _ (List.mem_of_getElem? (i := 22) rfl)) F_taken_a d4_34 rfl (fun T10 S10 => ?_)
      refine px_iloadN S10 d4_37 rfl rfl ?_
      refine px_i2l S10 d4_38 rfl ?_
      refine px_ladd S10 d4_39 rfl ?_
      refine px_putfield (ty := .long) S10 (hw _ (List.mem_of_getElem? (i := 22) rfl)) F_taken_a X_a g_a (Or.inl (hw _ (List.mem_of_getElem? (i := 23) rfl))) (hw _ (List.mem_of_getElem? (i := 7) rfl)) (by decide) rfl rfl d4_40 rfl (fun T11 h11 S11 W11 F_taken_a X_a => ?_)
      replace F_maxBytes_a := F_maxBytes_a.other W11 (Or.inr (slot_ne (Or.inr (hw _ (List.mem_of_getElem? (i := 16) rfl))) (Or.inl (hw _ (List.mem_of_getElem? (i := 23) rfl))) (by decide) (t := .long) (t' := .long) (by decide) (by decide)))
      replace F_spent_a := F_spent_a.other W11 (Or.inr (slot_ne (Or.inl (hw _ (List.mem_of_getElem? (i := 25) rfl))) (Or.inl (hw _ (List.mem_of_getElem? (i := 23) rfl))) (by decide) (t := .boolean) (t' := .long) (by decide) (by decide)))
      refine px_aloadN S11 d4_43 rfl rfl rfl ?_
      refine px_getfield S11 (hw _ (List.mem_of_getElem? (i := 24) rfl)) F_spent_a d4_44 rfl (fun T12 S12 => ?_)
      refine px_if0 S12 d4_47 (by decide) (pc' := 54) rfl rfl (fun (hc13 : ¬ sp.toInt = 0) => ?_) (fun (hc13 : sp.toInt = 0) => ?_)
      · refine px_iconst (v := (0 : Int32)) S12 d4_54 rfl rfl ?_
        exact px_retN (t := .boolean) (z' := (0 : Int32)) S12 d4_55 rfl (by simp) rfl (by decide) (by decide) (Or.inr (Or.inr ⟨by have q0 := rng64 tk; have q1 := (show (0 : Int64).toInt = 0 from rfl); have q2 := c_i2l x; have q3 := rng32 x; have q4 := c_lsub mx tk; have q5 := rng64 (mx - tk); have q6 := rng64 mx; have q7 := rng32 sp; omega, hc13, rfl, X_a, F_maxBytes_a, F_taken_a, F_spent_a⟩))
      · refine px_iconst (v := (1 : Int32)) S12 d4_50 rfl rfl ?_
        refine px_goto S12 d4_51 (by decide) (pc' := 55) rfl ?_
        exact px_retN (t := .boolean) (z' := (1 : Int32)) S12 d4_55 rfl (by simp) rfl (by decide) (by decide) (Or.inr (Or.inl ⟨by have q0 := rng64 tk; have q1 := (show (0 : Int64).toInt = 0 from rfl); have q2 := c_i2l x; have q3 := rng32 x; have q4 := c_lsub mx tk; have q5 := rng64 (mx - tk); have q6 := rng64 mx; have q7 := rng32 sp; omega, hc13, rfl, X_a, F_maxBytes_a, F_taken_a, F_spent_a⟩))
    · refine px_aloadN S8 d4_24 rfl rfl rfl ?_
      refine px_iconst (v := (1 : Int32)) S8 d4_25 rfl rfl ?_
      refine px_putfield (v' := .int (1 : Int32)) (ty := .boolean) S8 (hw _ (List.mem_of_getElem? (i := 24) rfl)) F_spent_a X_a g_a (Or.inl (hw _ (List.mem_of_getElem? (i := 25) rfl))) (hw _ (List.mem_of_getElem? (i := 7) rfl)) (by decide) rfl rfl d4_26 rfl (fun T14 h14 S14 W14 F_spent_a X_a => ?_)
      replace F_maxBytes_a := F_maxBytes_a.other W14 (Or.inr (slot_ne (Or.inr (hw _ (List.mem_of_getElem? (i := 16) rfl))) (Or.inl (hw _ (List.mem_of_getElem? (i := 25) rfl))) (by decide) (t := .long) (t' := .boolean) (by decide) (by decide)))
      replace F_taken_a := F_taken_a.other W14 (Or.inr (slot_ne (Or.inl (hw _ (List.mem_of_getElem? (i := 23) rfl))) (Or.inl (hw _ (List.mem_of_getElem? (i := 25) rfl))) (by decide) (t := .long) (t' := .boolean) (by decide) (by decide)))
      refine px_goto S14 d4_29 (by decide) (pc' := 43) rfl ?_
      refine px_aloadN S14 d4_43 rfl rfl rfl ?_
      refine px_getfield S14 (hw _ (List.mem_of_getElem? (i := 24) rfl)) F_spent_a d4_44 rfl (fun T15 S15 => ?_)
      refine px_if0 S15 d4_47 (by decide) (pc' := 54) rfl rfl (fun (hc16 : ¬ (1 : Int32).toInt = 0) => ?_) (fun (hc16 : (1 : Int32).toInt = 0) => by exfalso; revert hc16; decide)
      refine px_iconst (v := (0 : Int32)) S15 d4_54 rfl rfl ?_
      exact px_retN (t := .boolean) (z' := (0 : Int32)) S15 d4_55 rfl (by simp) rfl (by decide) (by decide) (Or.inl ⟨by have q0 := rng64 tk; have q1 := (show (0 : Int64).toInt = 0 from rfl); have q2 := c_i2l x; have q3 := rng32 x; have q4 := c_lsub mx tk; have q5 := rng64 (mx - tk); have q6 := rng64 mx; omega, rfl, X_a, F_maxBytes_a, F_taken_a, F_spent_a⟩)
theorem pd_0_0 : parseMethodDescriptor "(J)V" = some ⟨[.long], none⟩ := by decide +kernel
theorem pd_0_1 : parseMethodDescriptor "(I)Z" = some ⟨[.int], some .boolean⟩ := by decide +kernel
theorem pd_0_2 : parseMethodDescriptor "()Z" = some ⟨[], some .boolean⟩ := by decide +kernel
theorem pd_0_3 : parseMethodDescriptor "(JJ)J" = some ⟨[.long, .long], some .long⟩ := by decide +kernel
theorem pn_0 : plainFor x = true := plainFor_of_name (by first | (simp [plainName, overriddenIn]; done) | decide +kernel)
set_option maxRecDepth 65536 in
set_option maxHeartbeats 40000000 in
theorem law_ctr {Z : State} {a0 : Array Value} (hw : ∀ d ∈ tables_1, d.before a0 Z = true) (i0 : Int64) (i1 i2 i3 i4 : Int32) {h0 : Heap} {n0 : Nat} (Z0 : n0 ≤ h0.size) :
    Ctr Z n0 x code maxLocals ret room_1 [(.long i0), (.int i1), (.int i2), (.int i3), (.int i4)] h0 (fun v h => v = some (.int 1)) := by
  refine Ctr.of (L := #[.val (.long i0), .second, .val (.int i1), .val (.int i2), .val (.int i3), .val (.int i4), .unset, .unset, .unset, .unset, .unset, .unset, .unset, .unset, .unset, .unset, .unset, .unset, .unset, .unset, .unset, .unset, .unset, .unset, .unset, .unset, .unset, .unset, .unset, .unset, .unset, .unset, .unset]) pn_0 Z0 (fun m => by first | (simp [entryFrame, mkF, argsToLocals, Value.category, maxLocals]; done) | rfl) ?_
  intro K T S0
  refine px_iloadN S0 at_0 rfl rfl ?_
  refine px_i2l S0 at_1 rfl ?_
  refine px_ldc2 S0 (hw _ (List.mem_of_getElem? (i := 0) rfl)) at_2 rfl ?_
  refine px_land S0 at_5 rfl ?_
  generalize h_v1 : (i1.toInt64 &&& (2147483647 : Int64)) = v1
  refine px_lstore S0 at_6 rfl (L' := #[.val (.long i0), .second, .val (.int i1), .val (.int i2), .val (.int i3), .val (.int i4), .val (.long v1), .second, .unset, .unset, .unset, .unset, .unset, .unset, .unset, .unset, .unset, .unset, .unset, .unset, .unset, .unset, .unset, .unset, .unset, .unset, .unset, .unset, .unset, .unset, .unset, .unset, .unset]) rfl ?_
  refine px_iloadN S0 at_8 rfl rfl ?_
  refine px_i2l S0 at_9 rfl ?_
  refine px_ldc2 S0 (hw _ (List.mem_of_getElem? (i := 0) rfl)) at_10 rfl ?_
  refine px_land S0 at_13 rfl ?_
  generalize h_v2 : (i2.toInt64 &&& (2147483647 : Int64)) = v2
  refine px_lstore S0 at_14 rfl (L' := #[.val (.long i0), .second, .val (.int i1), .val (.int i2), .val (.int i3), .val (.int i4), .val (.long v1), .second, .val (.long v2), .second, .unset, .unset, .unset, .unset, .unset, .unset, .unset, .unset, .unset, .unset, .unset, .unset, .unset, .unset, .unset, .unset, .unset, .unset, .unset, .unset, .unset, .unset, .unset]) rfl ?_
  refine px_iload S0 at_16 rfl rfl ?_
  refine px_i2l S0 at_18 rfl ?_
  refine px_ldc2 S0 (hw _ (List.mem_of_getElem? (i := 0) rfl)) at_19 rfl ?_
  refine px_land S0 at_22 rfl ?_
  generalize h_v3 : (i3.toInt64 &&& (2147483647 : Int64)) = v3
  refine px_lstore S0 at_23 rfl (L' := #[.val (.long i0), .second, .val (.int i1), .val (.int i2), .val (.int i3), .val (.int i4), .val (.long v1), .second, .val (.long v2), .second, .val (.long v3), .second, .unset, .unset, .unset, .unset, .unset, .unset, .unset, .unset, .unset, .unset, .unset, .unset, .unset, .unset, .unset, .unset, .unset, .unset, .unset, .unset, .unset]) rfl ?_
  refine px_iload S0 at_25 rfl rfl ?_
  refine px_iconst (v := (3 : Int32)) S0 at_27 rfl rfl ?_
  refine px_iand S0 at_28 rfl ?_
  generalize h_v4 : (i4 &&& (3 : Int32)) = v4
  refine px_istore S0 at_29 rfl (L' := #[.val (.long i0), .second, .val (.int i1), .val (.int i2), .val (.int i3), .val (.int i4), .val (.long v1), .second, .val (.long v2), .second, .val (.long v3), .second, .val (.int v4), .unset, .unset, .unset, .unset, .unset, .unset, .unset, .unset, .unset, .unset, .unset, .unset, .unset, .unset, .unset, .unset, .unset, .unset, .unset, .unset]) rfl ?_
  refine px_lloadN S0 at_31 rfl rfl ?_
  refine px_ldc2 S0 (hw _ (List.mem_of_getElem? (i := 1) rfl)) at_32 rfl ?_
  refine px_land S0 at_35 rfl ?_
  refine px_lconst (v := (1 : Int64)) S0 at_36 rfl rfl ?_
  refine px_lsub S0 at_37 rfl ?_
  generalize h_v5 : ((i0 &&& (3 : Int64)) - (1 : Int64)) = v5
  refine px_lstore S0 at_38 rfl (L' := #[.val (.long i0), .second, .val (.int i1), .val (.int i2), .val (.int i3), .val (.int i4), .val (.long v1), .second, .val (.long v2), .second, .val (.long v3), .second, .val (.int v4), .val (.long v5), .second, .unset, .unset, .unset, .unset, .unset, .unset, .unset, .unset, .unset, .unset, .unset, .unset, .unset, .unset, .unset, .unset, .unset, .unset]) rfl ?_
  refine Go.joinT (P := fun mx : Int64 => 0 ≤ mx.toInt) (pcj := 105) (cl' := 0) (sl' := 0) (Lj := fun mx => #[.val (.long i0), .second, .val (.int i1), .val (.int i2), .val (.int i3), .val (.int i4), .val (.long v1), .second, .val (.long v2), .second, .val (.long v3), .second, .val (.int v4), .val (.long v5), .second, .val (.long mx), .second, .unset, .unset, .unset, .unset, .unset, .unset, .unset, .unset, .unset, .unset, .unset, .unset, .unset, .unset, .unset, .unset]) (stj := fun mx => []) S0 (fun mx T7 S7 p_mx => ?_) (fun J6 => ?_)
  · show Go _ _ _ _ _ 105 #[.val (.long i0), .second, .val (.int i1), .val (.int i2), .val (.int i3), .val (.int i4), .val (.long v1), .second, .val (.long v2), .second, .val (.long v3), .second, .val (.int v4), .val (.long v5), .second, .val (.long mx), .second, .unset, .unset, .unset, .unset, .unset, .unset, .unset, .unset, .unset, .unset, .unset, .unset, .unset, .unset, .unset, .unset] []
    refine px_new S7 (hw _ (List.mem_of_getElem? (i := 6) rfl)) (hw _ (List.mem_of_getElem? (i := 7) rfl)) (hw _ (List.mem_of_getElem? (i := 8) rfl)) (by decide) (by decide) at_105 rfl (fun T8 h8 b8 z8 g_b8 S8 E8 X_b8 D8 => ?_)
    have F_maxBytes_b8 : Fld Z h8 b8 "com/example/striate/striate/segment/ReadBudget" "maxBytes" "J" (.long (0 : Int64)) := D8 (Or.inr (hw _ (List.mem_of_getElem? (i := 16) rfl))) (ty := .long) (by decide)
    have F_taken_b8 : Fld Z h8 b8 "com/example/striate/striate/segment/ReadBudget" "taken" "J" (.long (0 : Int64)) := D8 (Or.inl (hw _ (List.mem_of_getElem? (i := 23) rfl))) (ty := .long) (by decide)
    have F_spent_b8 : Fld Z h8 b8 "com/example/striate/striate/segment/ReadBudget" "spent" "Z" (.int (0 : Int32)) := D8 (Or.inl (hw _ (List.mem_of_getElem? (i := 25) rfl))) (ty := .boolean) (by decide)
    refine px_dup S8 at_108 rfl rfl ?_
    refine px_lload S8 at_109 rfl rfl ?_
    refine px_callC (as' := [(.long mx)]) (st := [(.ref b8)]) (W := 1) S8 (c_init hw S8.size g_b8 ⟨X_b8, F_maxBytes_b8, F_taken_b8, F_spent_b8⟩) rfl (hw _ (List.mem_of_getElem? (i := 9) rfl)) (hw _ (List.mem_of_getElem? (i := 10) rfl)) (hw _ (List.mem_of_getElem? (i := 8) rfl)) (hw _ (List.mem_of_getElem? (i := 11) rfl)) (by decide) pd_0_0 rfl rfl (by decide) rfl (by decide) (by decide) (by decide) at_111 rfl rfl (fun T9 h9 v9 S9 q9 => ?_)
    obtain ⟨rfl, X_b8, F_maxBytes_b8, F_taken_b8, F_spent_b8⟩ := q9
    show Go _ _ _ _ _ _ _ [(.ref b8)]
    refine px_astore S9 at_114 rfl rfl (L' := #[.val (.long i0), .second, .val (.int i1), .val (.int i2), .val (.int i3), .val (.int i4), .val (.long v1), .second, .val (.long v2), .second, .val (.long v3), .second, .val (.int v4), .val (.long v5), .second, .val (.long mx), .second, .val (.ref b8), .unset, .unset, .unset, .unset, .unset, .unset, .unset, .unset, .unset, .unset, .unset, .unset, .unset, .unset, .unset]) rfl ?_
    refine px_aload S9 at_116 rfl rfl rfl ?_
    refine px_lload S9 at_118 rfl rfl ?_
    refine px_l2i S9 at_120 rfl ?_
    refine px_callV (Cn := "com/example/striate/striate/segment/ReadBudget") (as' := [(.int v1.toInt32)]) (st := []) (W := 0) S9 (c_take hw S9.size g_b8 ⟨X_b8, F_maxBytes_b8, F_taken_b8, F_spent_b8⟩) X_b8 (hw _ (List.mem_of_getElem? (i := 17) rfl)) (hw _ (List.mem_of_getElem? (i := 18) rfl)) (hw _ (List.mem_of_getElem? (i := 20) rfl)) (hw _ (List.mem_of_getElem? (i := 19) rfl)) (hw _ (List.mem_of_getElem? (i := 8) rfl)) (hw _ (List.mem_of_getElem? (i := 21) rfl)) (S9.nf (hw _ (List.mem_of_getElem? (i := 20) rfl))) (by decide) pd_0_1 rfl rfl (by decide) rfl (by decide) (by decide) (by decide) at_121 rfl rfl (fun T10 h10 v10 S10 q10 => ?_)
    rcases q10 with ⟨k10, rfl, X_b8, F_maxBytes_b8, F_taken_b8, F_spent_b8⟩ | ⟨k10, j10, rfl, X_b8, F_maxBytes_b8, F_taken_b8, F_spent_b8⟩ | ⟨k10, j10, rfl, X_b8, F_maxBytes_b8, F_taken_b8, F_spent_b8⟩
    · show Go _ _ _ _ _ _ _ [(.int (0 : Int32))]
      exfalso; have q0 := rng64 mx; have q1 := (show (0 : Int64).toInt = 0 from rfl); have q2 := c_i2l v1.toInt32; have q3 := c_l2i v1; have q4 := rng32 v1.toInt32; have q5 := rng64 v1; have q6 := congrArg Int64.toInt h_v1; have q7 := f_lmask i1.toInt64 (2147483647 : Int64) 31 2147483648 (by decide) (by decide) (by decide); have q8 := c_i2l i1; have q9 := rng32 i1; have q10 := (show (2147483647 : Int64).toInt = 2147483647 from rfl); have q11 := c_lsub mx (0 : Int64); have q12 := rng64 (mx - (0 : Int64)); have q13 := (show (0 : Int32).toInt = 0 from rfl); omega
    · show Go _ _ _ _ _ _ _ [(.int (1 : Int32))]
      refine px_istore S10 at_124 rfl (L' := #[.val (.long i0), .second, .val (.int i1), .val (.int i2), .val (.int i3), .val (.int i4), .val (.long v1), .second, .val (.long v2), .second, .val (.long v3), .second, .val (.int v4), .val (.long v5), .second, .val (.long mx), .second, .val (.ref b8), .val (.int (1 : Int32)), .unset, .unset, .unset, .unset, .unset, .unset, .unset, .unset, .unset, .unset, .unset, .unset, .unset, .unset]) rfl ?_
      refine px_aload S10 at_126 rfl rfl rfl ?_
      refine px_callV (Cn := "com/example/striate/striate/segment/ReadBudget") (as' := []) (st := []) (W := 0) S10 (c_spent hw S10.size g_b8 ⟨X_b8, F_maxBytes_b8, F_taken_b8, F_spent_b8⟩ rfl) X_b8 (hw _ (List.mem_of_getElem? (i := 26) rfl)) (hw _ (List.mem_of_getElem? (i := 27) rfl)) (hw _ (List.mem_of_getElem? (i := 29) rfl)) (hw _ (List.mem_of_getElem? (i := 28) rfl)) (hw _ (List.mem_of_getElem? (i := 8) rfl)) (hw _ (List.mem_of_getElem? (i := 30) rfl)) (S10.nf (hw _ (List.mem_of_getElem? (i := 29) rfl))) (by decide) pd_0_2 rfl rfl (by decide) rfl (by decide) (by decide) (by decide) at_128 rfl rfl (fun T11 h11 v11 S11 q11 => ?_)
      obtain ⟨rfl, X_b8, F_maxBytes_b8, F_taken_b8, F_spent_b8⟩ := q11
      show Go _ _ _ _ _ _ _ [(.int (0 : Int32))]
      refine px_istore S11 at_131 rfl (L' := #[.val (.long i0), .second, .val (.int i1), .val (.int i2), .val (.int i3), .val (.int i4), .val (.long v1), .second, .val (.long v2), .second, .val (.long v3), .second, .val (.int v4), .val (.long v5), .second, .val (.long mx), .second, .val (.ref b8), .val (.int (1 : Int32)), .val (.int (0 : Int32)), .unset, .unset, .unset, .unset, .unset, .unset, .unset, .unset, .unset, .unset, .unset, .unset, .unset]) rfl ?_
      refine px_aload S11 at_133 rfl rfl rfl ?_
      refine px_lload S11 at_135 rfl rfl ?_
      refine px_l2i S11 at_137 rfl ?_
      refine px_callV (Cn := "com/example/striate/striate/segment/ReadBudget") (as' := [(.int v2.toInt32)]) (st := []) (W := 0) S11 (c_take hw S11.size g_b8 ⟨X_b8, F_maxBytes_b8, F_taken_b8, F_spent_b8⟩) X_b8 (hw _ (List.mem_of_getElem? (i := 17) rfl)) (hw _ (List.mem_of_getElem? (i := 18) rfl)) (hw _ (List.mem_of_getElem? (i := 20) rfl)) (hw _ (List.mem_of_getElem? (i := 19) rfl)) (hw _ (List.mem_of_getElem? (i := 8) rfl)) (hw _ (List.mem_of_getElem? (i := 21) rfl)) (S11.nf (hw _ (List.mem_of_getElem? (i := 20) rfl))) (by decide) pd_0_1 rfl rfl (by decide) rfl (by decide) (by decide) (by decide) at_138 rfl rfl (fun T12 h12 v12 S12 q12 => ?_)
      rcases q12 with ⟨k12, rfl, X_b8, F_maxBytes_b8, F_taken_b8, F_spent_b8⟩ | ⟨k12, j12, rfl, X_b8, F_maxBytes_b8, F_taken_b8, F_spent_b8⟩ | ⟨k12, j12, rfl, X_b8, F_maxBytes_b8, F_taken_b8, F_spent_b8⟩
      · show Go _ _ _ _ _ _ _ [(.int (0 : Int32))]
        refine px_istore S12 at_141 rfl (L' := #[.val (.long i0), .second, .val (.int i1), .val (.int i2), .val (.int i3), .val (.int i4), .val (.long v1), .second, .val (.long v2), .second, .val (.long v3), .second, .val (.int v4), .val (.long v5), .second, .val (.long mx), .second, .val (.ref b8), .val (.int (1 : Int32)), .val (.int (0 : Int32)), .val (.int (0 : Int32)), .unset, .unset, .unset, .unset, .unset, .unset, .unset, .unset, .unset, .unset, .unset, .unset]) rfl ?_
        refine px_aload S12 at_143 rfl rfl rfl ?_
        refine px_callV (Cn := "com/example/striate/striate/segment/ReadBudget") (as' := []) (st := []) (W := 0) S12 (c_spent hw S12.size g_b8 ⟨X_b8, F_maxBytes_b8, F_taken_b8, F_spent_b8⟩ rfl) X_b8 (hw _ (List.mem_of_getElem? (i := 26) rfl)) (hw _ (List.mem_of_getElem? (i := 27) rfl)) (hw _ (List.mem_of_getElem? (i := 29) rfl)) (hw _ (List.mem_of_getElem? (i := 28) rfl)) (hw _ (List.mem_of_getElem? (i := 8) rfl)) (hw _ (List.mem_of_getElem? (i := 30) rfl)) (S12.nf (hw _ (List.mem_of_getElem? (i := 29) rfl))) (by decide) pd_0_2 rfl rfl (by decide) rfl (by decide) (by decide) (by decide) at_145 rfl rfl (fun T13 h13 v13 S13 q13 => ?_)
        obtain ⟨rfl, X_b8, F_maxBytes_b8, F_taken_b8, F_spent_b8⟩ := q13
        show Go _ _ _ _ _ _ _ [(.int (1 : Int32))]
        refine px_istore S13 at_148 rfl (L' := #[.val (.long i0), .second, .val (.int i1), .val (.int i2), .val (.int i3), .val (.int i4), .val (.long v1), .second, .val (.long v2), .second, .val (.long v3), .second, .val (.int v4), .val (.long v5), .second, .val (.long mx), .second, .val (.ref b8), .val (.int (1 : Int32)), .val (.int (0 : Int32)), .val (.int (0 : Int32)), .val (.int (1 : Int32)), .unset, .unset, .unset, .unset, .unset, .unset, .unset, .unset, .unset, .unset, .unset]) rfl ?_
        refine px_aload S13 at_150 rfl rfl rfl ?_
        refine px_lload S13 at_152 rfl rfl ?_
        refine px_l2i S13 at_154 rfl ?_
        refine px_callV (Cn := "com/example/striate/striate/segment/ReadBudget") (as' := [(.int v3.toInt32)]) (st := []) (W := 0) S13 (c_take hw S13.size g_b8 ⟨X_b8, F_maxBytes_b8, F_taken_b8, F_spent_b8⟩) X_b8 (hw _ (List.mem_of_getElem? (i := 17) rfl)) (hw _ (List.mem_of_getElem? (i := 18) rfl)) (hw _ (List.mem_of_getElem? (i := 20) rfl)) (hw _ (List.mem_of_getElem? (i := 19) rfl)) (hw _ (List.mem_of_getElem? (i := 8) rfl)) (hw _ (List.mem_of_getElem? (i := 21) rfl)) (S13.nf (hw _ (List.mem_of_getElem? (i := 20) rfl))) (by decide) pd_0_1 rfl rfl (by decide) rfl (by decide) (by decide) (by decide) at_155 rfl rfl (fun T14 h14 v14 S14 q14 => ?_)
        rcases q14 with ⟨k14, rfl, X_b8, F_maxBytes_b8, F_taken_b8, F_spent_b8⟩ | ⟨k14, j14, rfl, X_b8, F_maxBytes_b8, F_taken_b8, F_spent_b8⟩ | ⟨k14, j14, rfl, X_b8, F_maxBytes_b8, F_taken_b8, F_spent_b8⟩
        · show Go _ _ _ _ _ _ _ [(.int (0 : Int32))]
          refine px_istore S14 at_158 rfl (L' := #[.val (.long i0), .second, .val (.int i1), .val (.int i2), .val (.int i3), .val (.int i4), .val (.long v1), .second, .val (.long v2), .second, .val (.long v3), .second, .val (.int v4), .val (.long v5), .second, .val (.long mx), .second, .val (.ref b8), .val (.int (1 : Int32)), .val (.int (0 : Int32)), .val (.int (0 : Int32)), .val (.int (1 : Int32)), .val (.int (0 : Int32)), .unset, .unset, .unset, .unset, .unset, .unset, .unset, .unset, .unset, .unset]) rfl ?_
          refine px_aload S14 at_160 rfl rfl rfl ?_
          refine px_callV (Cn := "com/example/striate/striate/segment/ReadBudget") (as' := []) (st := []) (W := 0) S14 (c_spent hw S14.size g_b8 ⟨X_b8, F_maxBytes_b8, F_taken_b8, F_spent_b8⟩ rfl) X_b8 (hw _ (List.mem_of_getElem? (i := 26) rfl)) (hw _ (List.mem_of_getElem? (i := 27) rfl)) (hw _ (List.mem_of_getElem? (i := 29) rfl)) (hw _ (List.mem_of_getElem? (i := 28) rfl)) (hw _ (List.mem_of_getElem? (i := 8) rfl)) (hw _ (List.mem_of_getElem? (i := 30) rfl)) (S14.nf (hw _ (List.mem_of_getElem? (i := 29) rfl))) (by decide) pd_0_2 rfl rfl (by decide) rfl (by decide) (by decide) (by decide) at_162 rfl rfl (fun T15 h15 v15 S15 q15 => ?_)
          obtain ⟨rfl, X_b8, F_maxBytes_b8, F_taken_b8, F_spent_b8⟩ := q15
          show Go _ _ _ _ _ _ _ [(.int (1 : Int32))]
          refine px_istore S15 at_165 rfl (L' := #[.val (.long i0), .second, .val (.int i1), .val (.int i2), .val (.int i3), .val (.int i4), .val (.long v1), .second, .val (.long v2), .second, .val (.long v3), .second, .val (.int v4), .val (.long v5), .second, .val (.long mx), .second, .val (.ref b8), .val (.int (1 : Int32)), .val (.int (0 : Int32)), .val (.int (0 : Int32)), .val (.int (1 : Int32)), .val (.int (0 : Int32)), .val (.int (1 : Int32)), .unset, .unset, .unset, .unset, .unset, .unset, .unset, .unset, .unset]) rfl ?_
          refine px_lconst (v := (0 : Int64)) S15 at_167 rfl rfl ?_
          refine px_lstore S15 at_168 rfl (L' := #[.val (.long i0), .second, .val (.int i1), .val (.int i2), .val (.int i3), .val (.int i4), .val (.long v1), .second, .val (.long v2), .second, .val (.long v3), .second, .val (.int v4), .val (.long v5), .second, .val (.long mx), .second, .val (.ref b8), .val (.int (1 : Int32)), .val (.int (0 : Int32)), .val (.int (0 : Int32)), .val (.int (1 : Int32)), .val (.int (0 : Int32)), .val (.int (1 : Int32)), .val (.long (0 : Int64)), .second, .unset, .unset, .unset, .unset, .unset, .unset, .unset]) rfl ?_
          refine px_iconst (v := (0 : Int32)) S15 at_170 rfl rfl ?_
          refine px_istore S15 at_171 rfl (L' := #[.val (.long i0), .second, .val (.int i1), .val (.int i2), .val (.int i3), .val (.int i4), .val (.long v1), .second, .val (.long v2), .second, .val (.long v3), .second, .val (.int v4), .val (.long v5), .second, .val (.long mx), .second, .val (.ref b8), .val (.int (1 : Int32)), .val (.int (0 : Int32)), .val (.int (0 : Int32)), .val (.int (1 : Int32)), .val (.int (0 : Int32)), .val (.int (1 : Int32)), .val (.long (0 : Int64)), .second, .val (.int (0 : Int32)), .unset, .unset, .unset, .unset, .unset, .unset]) rfl ?_
          refine px_iload S15 at_173 rfl rfl ?_
          refine px_if0 S15 at_175 (by decide) (pc' := 200) rfl rfl (fun (hc16 : ¬ (0 : Int32).toInt = 0) => by exfalso; revert hc16; decide) (fun (hc16 : (0 : Int32).toInt = 0) => ?_)
          refine px_lload S15 at_178 rfl rfl ?_
          refine px_lconst (v := (0 : Int64)) S15 at_180 rfl rfl ?_
          refine px_lif S15 at_181 rfl at_182 (by decide) (pc' := 196) rfl rfl (fun (hc17 : (0 : Int64).toInt = (0 : Int64).toInt) => ?_) (fun (hc17 : ¬ (0 : Int64).toInt = (0 : Int64).toInt) => absurd rfl hc17)
          refine px_iconst (v := (1 : Int32)) S15 at_196 rfl rfl ?_
          refine px_goto S15 at_197 (by decide) (pc' := 201) rfl ?_
          refine px_istore S15 at_201 rfl (L' := #[.val (.long i0), .second, .val (.int i1), .val (.int i2), .val (.int i3), .val (.int i4), .val (.long v1), .second, .val (.long v2), .second, .val (.long v3), .second, .val (.int v4), .val (.long v5), .second, .val (.long mx), .second, .val (.ref b8), .val (.int (1 : Int32)), .val (.int (0 : Int32)), .val (.int (0 : Int32)), .val (.int (1 : Int32)), .val (.int (0 : Int32)), .val (.int (1 : Int32)), .val (.long (0 : Int64)), .second, .val (.int (0 : Int32)), .val (.int (1 : Int32)), .unset, .unset, .unset, .unset, .unset]) rfl ?_
          refine px_iload S15 at_203 rfl rfl ?_
          refine px_if0 S15 at_205 (by decide) (pc' := 218) rfl rfl (fun (hc18 : (1 : Int32).toInt = 0) => by exfalso; revert hc18; decide) (fun (hc18 : ¬ (1 : Int32).toInt = 0) => ?_)
          refine px_lload S15 at_208 rfl rfl ?_
          refine px_lload S15 at_210 rfl rfl ?_
          refine px_ladd S15 at_212 rfl ?_
          generalize h_v19 : ((0 : Int64) + v1) = v19
          refine px_lstore S15 at_213 rfl (L' := #[.val (.long i0), .second, .val (.int i1), .val (.int i2), .val (.int i3), .val (.int i4), .val (.long v1), .second, .val (.long v2), .second, .val (.long v3), .second, .val (.int v4), .val (.long v5), .second, .val (.long mx), .second, .val (.ref b8), .val (.int (1 : Int32)), .val (.int (0 : Int32)), .val (.int (0 : Int32)), .val (.int (1 : Int32)), .val (.int (0 : Int32)), .val (.int (1 : Int32)), .val (.long v19), .second, .val (.int (0 : Int32)), .val (.int (1 : Int32)), .unset, .unset, .unset, .unset, .unset]) rfl ?_
          refine px_goto S15 at_215 (by decide) (pc' := 221) rfl ?_
          refine px_iload S15 at_221 rfl rfl ?_
          refine px_istore S15 at_223 rfl (L' := #[.val (.long i0), .second, .val (.int i1), .val (.int i2), .val (.int i3), .val (.int i4), .val (.long v1), .second, .val (.long v2), .second, .val (.long v3), .second, .val (.int v4), .val (.long v5), .second, .val (.long mx), .second, .val (.ref b8), .val (.int (1 : Int32)), .val (.int (0 : Int32)), .val (.int (0 : Int32)), .val (.int (1 : Int32)), .val (.int (0 : Int32)), .val (.int (1 : Int32)), .val (.long v19), .second, .val (.int (0 : Int32)), .val (.int (1 : Int32)), .val (.int (0 : Int32)), .unset, .unset, .unset, .unset]) rfl ?_
          refine px_iload S15 at_225 rfl rfl ?_
          refine px_if0 S15 at_227 (by decide) (pc' := 252) rfl rfl (fun (hc20 : ¬ (0 : Int32).toInt = 0) => by exfalso; revert hc20; decide) (fun (hc20 : (0 : Int32).toInt = 0) => ?_)
          refine px_lload S15 at_230 rfl rfl ?_
          refine px_lconst (v := (0 : Int64)) S15 at_232 rfl rfl ?_
          refine px_lif S15 at_233 rfl at_234 (by decide) (pc' := 248) rfl rfl (fun (hc21 : v19.toInt = (0 : Int64).toInt) => by exfalso; have q0 := rng64 v19; have q1 := congrArg Int64.toInt h_v19; have q2 := c_ladd (0 : Int64) v1; have q3 := rng64 ((0 : Int64) + v1); have q4 := (show (0 : Int64).toInt = 0 from rfl); have q5 := rng64 v1; have q6 := congrArg Int64.toInt h_v1; have q7 := f_lmask i1.toInt64 (2147483647 : Int64) 31 2147483648 (by decide) (by decide) (by decide); have q8 := c_i2l i1; have q9 := rng32 i1; have q10 := (show (2147483647 : Int64).toInt = 2147483647 from rfl); have q11 := rng64 mx; have q12 := c_i2l v1.toInt32; have q13 := c_l2i v1; have q14 := rng32 v1.toInt32; have q15 := c_lsub mx (0 : Int64); have q16 := rng64 (mx - (0 : Int64)); have q17 := (show (0 : Int32).toInt = 0 from rfl); have q18 := c_ladd (0 : Int64) v1.toInt32.toInt64; have q19 := rng64 ((0 : Int64) + v1.toInt32.toInt64); have q20 := c_i2l v2.toInt32; have q21 := c_l2i v2; have q22 := rng32 v2.toInt32; have q23 := rng64 v2; have q24 := congrArg Int64.toInt h_v2; have q25 := f_lmask i2.toInt64 (2147483647 : Int64) 31 2147483648 (by decide) (by decide) (by decide); have q26 := c_i2l i2; have q27 := rng32 i2; have q28 := c_lsub mx ((0 : Int64) + v1.toInt32.toInt64); have q29 := rng64 (mx - ((0 : Int64) + v1.toInt32.toInt64)); have q30 := c_i2l v3.toInt32; have q31 := c_l2i v3; have q32 := rng32 v3.toInt32; have q33 := rng64 v3; have q34 := congrArg Int64.toInt h_v3; have q35 := f_lmask i3.toInt64 (2147483647 : Int64) 31 2147483648 (by decide) (by decide) (by decide); have q36 := c_i2l i3; have q37 := rng32 i3; have q38 := (show (1 : Int32).toInt = 1 from rfl); omega) (fun (hc21 : ¬ v19.toInt = (0 : Int64).toInt) => ?_)
          refine px_lload S15 at_237 rfl rfl ?_
          refine px_lload S15 at_239 rfl rfl ?_
          refine px_ladd S15 at_241 rfl ?_
          refine px_lload S15 at_242 rfl rfl ?_
          refine px_lif S15 at_244 rfl at_245 (by decide) (pc' := 252) rfl rfl (fun (hc22 : (v19 + v2).toInt > mx.toInt) => ?_) (fun (hc22 : (v19 + v2).toInt ≤ mx.toInt) => by exfalso; have q0 := c_ladd v19 v2; have q1 := rng64 (v19 + v2); have q2 := rng64 v19; have q3 := congrArg Int64.toInt h_v19; have q4 := c_ladd (0 : Int64) v1; have q5 := rng64 ((0 : Int64) + v1); have q6 := (show (0 : Int64).toInt = 0 from rfl); have q7 := rng64 v1; have q8 := congrArg Int64.toInt h_v1; have q9 := f_lmask i1.toInt64 (2147483647 : Int64) 31 2147483648 (by decide) (by decide) (by decide); have q10 := c_i2l i1; have q11 := rng32 i1; have q12 := (show (2147483647 : Int64).toInt = 2147483647 from rfl); have q13 := rng64 v2; have q14 := congrArg Int64.toInt h_v2; have q15 := f_lmask i2.toInt64 (2147483647 : Int64) 31 2147483648 (by decide) (by decide) (by decide); have q16 := c_i2l i2; have q17 := rng32 i2; have q18 := rng64 mx; have q19 := c_i2l v1.toInt32; have q20 := c_l2i v1; have q21 := rng32 v1.toInt32; have q22 := c_lsub mx (0 : Int64); have q23 := rng64 (mx - (0 : Int64)); have q24 := (show (0 : Int32).toInt = 0 from rfl); have q25 := c_ladd (0 : Int64) v1.toInt32.toInt64; have q26 := rng64 ((0 : Int64) + v1.toInt32.toInt64); have q27 := c_i2l v2.toInt32; have q28 := c_l2i v2; have q29 := rng32 v2.toInt32; have q30 := c_lsub mx ((0 : Int64) + v1.toInt32.toInt64); have q31 := rng64 (mx - ((0 : Int64) + v1.toInt32.toInt64)); have q32 := c_i2l v3.toInt32; have q33 := c_l2i v3; have q34 := rng32 v3.toInt32; have q35 := rng64 v3; have q36 := congrArg Int64.toInt h_v3; have q37 := f_lmask i3.toInt64 (2147483647 : Int64) 31 2147483648 (by decide) (by decide) (by decide); have q38 := c_i2l i3; have q39 := rng32 i3; have q40 := (show (1 : Int32).toInt = 1 from rfl); omega)
          refine px_iconst (v := (0 : Int32)) S15 at_252 rfl rfl ?_
          refine px_istore S15 at_253 rfl (L' := #[.val (.long i0), .second, .val (.int i1), .val (.int i2), .val (.int i3), .val (.int i4), .val (.long v1), .second, .val (.long v2), .second, .val (.long v3), .second, .val (.int v4), .val (.long v5), .second, .val (.long mx), .second, .val (.ref b8), .val (.int (1 : Int32)), .val (.int (0 : Int32)), .val (.int (0 : Int32)), .val (.int (1 : Int32)), .val (.int (0 : Int32)), .val (.int (1 : Int32)), .val (.long v19), .second, .val (.int (0 : Int32)), .val (.int (1 : Int32)), .val (.int (0 : Int32)), .val (.int (0 : Int32)), .unset, .unset, .unset]) rfl ?_
          refine px_iload S15 at_255 rfl rfl ?_
          refine px_if0 S15 at_257 (by decide) (pc' := 270) rfl rfl (fun (hc23 : (0 : Int32).toInt = 0) => ?_) (fun (hc23 : ¬ (0 : Int32).toInt = 0) => by exfalso; revert hc23; decide)
          refine px_iconst (v := (1 : Int32)) S15 at_270 rfl rfl ?_
          refine px_istore S15 at_271 rfl (L' := #[.val (.long i0), .second, .val (.int i1), .val (.int i2), .val (.int i3), .val (.int i4), .val (.long v1), .second, .val (.long v2), .second, .val (.long v3), .second, .val (.int v4), .val (.long v5), .second, .val (.long mx), .second, .val (.ref b8), .val (.int (1 : Int32)), .val (.int (0 : Int32)), .val (.int (0 : Int32)), .val (.int (1 : Int32)), .val (.int (0 : Int32)), .val (.int (1 : Int32)), .val (.long v19), .second, .val (.int (1 : Int32)), .val (.int (1 : Int32)), .val (.int (0 : Int32)), .val (.int (0 : Int32)), .unset, .unset, .unset]) rfl ?_
          refine px_iload S15 at_273 rfl rfl ?_
          refine px_istore S15 at_275 rfl (L' := #[.val (.long i0), .second, .val (.int i1), .val (.int i2), .val (.int i3), .val (.int i4), .val (.long v1), .second, .val (.long v2), .second, .val (.long v3), .second, .val (.int v4), .val (.long v5), .second, .val (.long mx), .second, .val (.ref b8), .val (.int (1 : Int32)), .val (.int (0 : Int32)), .val (.int (0 : Int32)), .val (.int (1 : Int32)), .val (.int (0 : Int32)), .val (.int (1 : Int32)), .val (.long v19), .second, .val (.int (1 : Int32)), .val (.int (1 : Int32)), .val (.int (0 : Int32)), .val (.int (0 : Int32)), .val (.int (1 : Int32)), .unset, .unset]) rfl ?_
          refine px_iload S15 at_277 rfl rfl ?_
          refine px_if0 S15 at_279 (by decide) (pc' := 304) rfl rfl (fun (hc24 : ¬ (1 : Int32).toInt = 0) => ?_) (fun (hc24 : (1 : Int32).toInt = 0) => by exfalso; revert hc24; decide)
          refine px_iconst (v := (0 : Int32)) S15 at_304 rfl rfl ?_
          refine px_istore S15 at_305 rfl (L' := #[.val (.long i0), .second, .val (.int i1), .val (.int i2), .val (.int i3), .val (.int i4), .val (.long v1), .second, .val (.long v2), .second, .val (.long v3), .second, .val (.int v4), .val (.long v5), .second, .val (.long mx), .second, .val (.ref b8), .val (.int (1 : Int32)), .val (.int (0 : Int32)), .val (.int (0 : Int32)), .val (.int (1 : Int32)), .val (.int (0 : Int32)), .val (.int (1 : Int32)), .val (.long v19), .second, .val (.int (1 : Int32)), .val (.int (1 : Int32)), .val (.int (0 : Int32)), .val (.int (0 : Int32)), .val (.int (1 : Int32)), .val (.int (0 : Int32)), .unset]) rfl ?_
          refine px_iload S15 at_307 rfl rfl ?_
          refine px_if0 S15 at_309 (by decide) (pc' := 322) rfl rfl (fun (hc25 : (0 : Int32).toInt = 0) => ?_) (fun (hc25 : ¬ (0 : Int32).toInt = 0) => by exfalso; revert hc25; decide)
          refine px_iconst (v := (1 : Int32)) S15 at_322 rfl rfl ?_
          refine px_istore S15 at_323 rfl (L' := #[.val (.long i0), .second, .val (.int i1), .val (.int i2), .val (.int i3), .val (.int i4), .val (.long v1), .second, .val (.long v2), .second, .val (.long v3), .second, .val (.int v4), .val (.long v5), .second, .val (.long mx), .second, .val (.ref b8), .val (.int (1 : Int32)), .val (.int (0 : Int32)), .val (.int (0 : Int32)), .val (.int (1 : Int32)), .val (.int (0 : Int32)), .val (.int (1 : Int32)), .val (.long v19), .second, .val (.int (1 : Int32)), .val (.int (1 : Int32)), .val (.int (0 : Int32)), .val (.int (0 : Int32)), .val (.int (1 : Int32)), .val (.int (0 : Int32)), .unset]) rfl ?_
          refine px_iload S15 at_325 rfl rfl ?_
          refine px_istore S15 at_327 rfl (L' := #[.val (.long i0), .second, .val (.int i1), .val (.int i2), .val (.int i3), .val (.int i4), .val (.long v1), .second, .val (.long v2), .second, .val (.long v3), .second, .val (.int v4), .val (.long v5), .second, .val (.long mx), .second, .val (.ref b8), .val (.int (1 : Int32)), .val (.int (0 : Int32)), .val (.int (0 : Int32)), .val (.int (1 : Int32)), .val (.int (0 : Int32)), .val (.int (1 : Int32)), .val (.long v19), .second, .val (.int (1 : Int32)), .val (.int (1 : Int32)), .val (.int (0 : Int32)), .val (.int (0 : Int32)), .val (.int (1 : Int32)), .val (.int (0 : Int32)), .val (.int (1 : Int32))]) rfl ?_
          refine px_iload S15 at_329 rfl rfl ?_
          refine px_iload S15 at_331 rfl rfl ?_
          refine px_icmp S15 at_333 (by decide) (pc' := 375) rfl rfl (fun (hc26 : ¬ (1 : Int32).toInt = (1 : Int32).toInt) => absurd rfl hc26) (fun (hc26 : (1 : Int32).toInt = (1 : Int32).toInt) => ?_)
          refine px_iload S15 at_336 rfl rfl ?_
          refine px_iload S15 at_338 rfl rfl ?_
          refine px_icmp S15 at_340 (by decide) (pc' := 375) rfl rfl (fun (hc27 : ¬ (0 : Int32).toInt = (0 : Int32).toInt) => absurd rfl hc27) (fun (hc27 : (0 : Int32).toInt = (0 : Int32).toInt) => ?_)
          refine px_iload S15 at_343 rfl rfl ?_
          refine px_iload S15 at_345 rfl rfl ?_
          refine px_icmp S15 at_347 (by decide) (pc' := 375) rfl rfl (fun (hc28 : ¬ (0 : Int32).toInt = (0 : Int32).toInt) => absurd rfl hc28) (fun (hc28 : (0 : Int32).toInt = (0 : Int32).toInt) => ?_)
          refine px_iload S15 at_350 rfl rfl ?_
          refine px_iload S15 at_352 rfl rfl ?_
          refine px_icmp S15 at_354 (by decide) (pc' := 375) rfl rfl (fun (hc29 : ¬ (1 : Int32).toInt = (1 : Int32).toInt) => absurd rfl hc29) (fun (hc29 : (1 : Int32).toInt = (1 : Int32).toInt) => ?_)
          refine px_iload S15 at_357 rfl rfl ?_
          refine px_iload S15 at_359 rfl rfl ?_
          refine px_icmp S15 at_361 (by decide) (pc' := 375) rfl rfl (fun (hc30 : ¬ (0 : Int32).toInt = (0 : Int32).toInt) => absurd rfl hc30) (fun (hc30 : (0 : Int32).toInt = (0 : Int32).toInt) => ?_)
          refine px_iload S15 at_364 rfl rfl ?_
          refine px_iload S15 at_366 rfl rfl ?_
          refine px_icmp S15 at_368 (by decide) (pc' := 375) rfl rfl (fun (hc31 : ¬ (1 : Int32).toInt = (1 : Int32).toInt) => absurd rfl hc31) (fun (hc31 : (1 : Int32).toInt = (1 : Int32).toInt) => ?_)
          refine px_iconst (v := (1 : Int32)) S15 at_371 rfl rfl ?_
          refine px_goto S15 at_372 (by decide) (pc' := 376) rfl ?_
          exact px_retN (t := .boolean) (z' := (1 : Int32)) S15 at_376 rfl (by simp) rfl (by decide) (by decide) (rfl)
        · show Go _ _ _ _ _ _ _ [(.int (1 : Int32))]
          exfalso; have q0 := rng64 mx; have q1 := (show (0 : Int64).toInt = 0 from rfl); have q2 := c_i2l v1.toInt32; have q3 := c_l2i v1; have q4 := rng32 v1.toInt32; have q5 := rng64 v1; have q6 := congrArg Int64.toInt h_v1; have q7 := f_lmask i1.toInt64 (2147483647 : Int64) 31 2147483648 (by decide) (by decide) (by decide); have q8 := c_i2l i1; have q9 := rng32 i1; have q10 := (show (2147483647 : Int64).toInt = 2147483647 from rfl); have q11 := c_lsub mx (0 : Int64); have q12 := rng64 (mx - (0 : Int64)); have q13 := (show (0 : Int32).toInt = 0 from rfl); have q14 := c_ladd (0 : Int64) v1.toInt32.toInt64; have q15 := rng64 ((0 : Int64) + v1.toInt32.toInt64); have q16 := c_i2l v2.toInt32; have q17 := c_l2i v2; have q18 := rng32 v2.toInt32; have q19 := rng64 v2; have q20 := congrArg Int64.toInt h_v2; have q21 := f_lmask i2.toInt64 (2147483647 : Int64) 31 2147483648 (by decide) (by decide) (by decide); have q22 := c_i2l i2; have q23 := rng32 i2; have q24 := c_lsub mx ((0 : Int64) + v1.toInt32.toInt64); have q25 := rng64 (mx - ((0 : Int64) + v1.toInt32.toInt64)); have q26 := c_i2l v3.toInt32; have q27 := c_l2i v3; have q28 := rng32 v3.toInt32; have q29 := rng64 v3; have q30 := congrArg Int64.toInt h_v3; have q31 := f_lmask i3.toInt64 (2147483647 : Int64) 31 2147483648 (by decide) (by decide) (by decide); have q32 := c_i2l i3; have q33 := rng32 i3; have q34 := (show (1 : Int32).toInt = 1 from rfl); omega
        · show Go _ _ _ _ _ _ _ [(.int (0 : Int32))]
          refine px_istore S14 at_158 rfl (L' := #[.val (.long i0), .second, .val (.int i1), .val (.int i2), .val (.int i3), .val (.int i4), .val (.long v1), .second, .val (.long v2), .second, .val (.long v3), .second, .val (.int v4), .val (.long v5), .second, .val (.long mx), .second, .val (.ref b8), .val (.int (1 : Int32)), .val (.int (0 : Int32)), .val (.int (0 : Int32)), .val (.int (1 : Int32)), .val (.int (0 : Int32)), .unset, .unset, .unset, .unset, .unset, .unset, .unset, .unset, .unset, .unset]) rfl ?_
          refine px_aload S14 at_160 rfl rfl rfl ?_
          refine px_callV (Cn := "com/example/striate/striate/segment/ReadBudget") (as' := []) (st := []) (W := 0) S14 (c_spent hw S14.size g_b8 ⟨X_b8, F_maxBytes_b8, F_taken_b8, F_spent_b8⟩ rfl) X_b8 (hw _ (List.mem_of_getElem? (i := 26) rfl)) (hw _ (List.mem_of_getElem? (i := 27) rfl)) (hw _ (List.mem_of_getElem? (i := 29) rfl)) (hw _ (List.mem_of_getElem? (i := 28) rfl)) (hw _ (List.mem_of_getElem? (i := 8) rfl)) (hw _ (List.mem_of_getElem? (i := 30) rfl)) (S14.nf (hw _ (List.mem_of_getElem? (i := 29) rfl))) (by decide) pd_0_2 rfl rfl (by decide) rfl (by decide) (by decide) (by decide) at_162 rfl rfl (fun T32 h32 v32 S32 q32 => ?_)
          obtain ⟨rfl, X_b8, F_maxBytes_b8, F_taken_b8, F_spent_b8⟩ := q32
          show Go _ _ _ _ _ _ _ [(.int (1 : Int32))]
          refine px_istore S32 at_165 rfl (L' := #[.val (.long i0), .second, .val (.int i1), .val (.int i2), .val (.int i3), .val (.int i4), .val (.long v1), .second, .val (.long v2), .second, .val (.long v3), .second, .val (.int v4), .val (.long v5), .second, .val (.long mx), .second, .val (.ref b8), .val (.int (1 : Int32)), .val (.int (0 : Int32)), .val (.int (0 : Int32)), .val (.int (1 : Int32)), .val (.int (0 : Int32)), .val (.int (1 : Int32)), .unset, .unset, .unset, .unset, .unset, .unset, .unset, .unset, .unset]) rfl ?_
          refine px_lconst (v := (0 : Int64)) S32 at_167 rfl rfl ?_
          refine px_lstore S32 at_168 rfl (L' := #[.val (.long i0), .second, .val (.int i1), .val (.int i2), .val (.int i3), .val (.int i4), .val (.long v1), .second, .val (.long v2), .second, .val (.long v3), .second, .val (.int v4), .val (.long v5), .second, .val (.long mx), .second, .val (.ref b8), .val (.int (1 : Int32)), .val (.int (0 : Int32)), .val (.int (0 : Int32)), .val (.int (1 : Int32)), .val (.int (0 : Int32)), .val (.int (1 : Int32)), .val (.long (0 : Int64)), .second, .unset, .unset, .unset, .unset, .unset, .unset, .unset]) rfl ?_
          refine px_iconst (v := (0 : Int32)) S32 at_170 rfl rfl ?_
          refine px_istore S32 at_171 rfl (L' := #[.val (.long i0), .second, .val (.int i1), .val (.int i2), .val (.int i3), .val (.int i4), .val (.long v1), .second, .val (.long v2), .second, .val (.long v3), .second, .val (.int v4), .val (.long v5), .second, .val (.long mx), .second, .val (.ref b8), .val (.int (1 : Int32)), .val (.int (0 : Int32)), .val (.int (0 : Int32)), .val (.int (1 : Int32)), .val (.int (0 : Int32)), .val (.int (1 : Int32)), .val (.long (0 : Int64)), .second, .val (.int (0 : Int32)), .unset, .unset, .unset, .unset, .unset, .unset]) rfl ?_
          refine px_iload S32 at_173 rfl rfl ?_
          refine px_if0 S32 at_175 (by decide) (pc' := 200) rfl rfl (fun (hc33 : ¬ (0 : Int32).toInt = 0) => by exfalso; revert hc33; decide) (fun (hc33 : (0 : Int32).toInt = 0) => ?_)
          refine px_lload S32 at_178 rfl rfl ?_
          refine px_lconst (v := (0 : Int64)) S32 at_180 rfl rfl ?_
          refine px_lif S32 at_181 rfl at_182 (by decide) (pc' := 196) rfl rfl (fun (hc34 : (0 : Int64).toInt = (0 : Int64).toInt) => ?_) (fun (hc34 : ¬ (0 : Int64).toInt = (0 : Int64).toInt) => absurd rfl hc34)
          refine px_iconst (v := (1 : Int32)) S32 at_196 rfl rfl ?_
          refine px_goto S32 at_197 (by decide) (pc' := 201) rfl ?_
          refine px_istore S32 at_201 rfl (L' := #[.val (.long i0), .second, .val (.int i1), .val (.int i2), .val (.int i3), .val (.int i4), .val (.long v1), .second, .val (.long v2), .second, .val (.long v3), .second, .val (.int v4), .val (.long v5), .second, .val (.long mx), .second, .val (.ref b8), .val (.int (1 : Int32)), .val (.int (0 : Int32)), .val (.int (0 : Int32)), .val (.int (1 : Int32)), .val (.int (0 : Int32)), .val (.int (1 : Int32)), .val (.long (0 : Int64)), .second, .val (.int (0 : Int32)), .val (.int (1 : Int32)), .unset, .unset, .unset, .unset, .unset]) rfl ?_
          refine px_iload S32 at_203 rfl rfl ?_
          refine px_if0 S32 at_205 (by decide) (pc' := 218) rfl rfl (fun (hc35 : (1 : Int32).toInt = 0) => by exfalso; revert hc35; decide) (fun (hc35 : ¬ (1 : Int32).toInt = 0) => ?_)
          refine px_lload S32 at_208 rfl rfl ?_
          refine px_lload S32 at_210 rfl rfl ?_
          refine px_ladd S32 at_212 rfl ?_
          generalize h_v36 : ((0 : Int64) + v1) = v36
          refine px_lstore S32 at_213 rfl (L' := #[.val (.long i0), .second, .val (.int i1), .val (.int i2), .val (.int i3), .val (.int i4), .val (.long v1), .second, .val (.long v2), .second, .val (.long v3), .second, .val (.int v4), .val (.long v5), .second, .val (.long mx), .second, .val (.ref b8), .val (.int (1 : Int32)), .val (.int (0 : Int32)), .val (.int (0 : Int32)), .val (.int (1 : Int32)), .val (.int (0 : Int32)), .val (.int (1 : Int32)), .val (.long v36), .second, .val (.int (0 : Int32)), .val (.int (1 : Int32)), .unset, .unset, .unset, .unset, .unset]) rfl ?_
          refine px_goto S32 at_215 (by decide) (pc' := 221) rfl ?_
          refine px_iload S32 at_221 rfl rfl ?_
          refine px_istore S32 at_223 rfl (L' := #[.val (.long i0), .second, .val (.int i1), .val (.int i2), .val (.int i3), .val (.int i4), .val (.long v1), .second, .val (.long v2), .second, .val (.long v3), .second, .val (.int v4), .val (.long v5), .second, .val (.long mx), .second, .val (.ref b8), .val (.int (1 : Int32)), .val (.int (0 : Int32)), .val (.int (0 : Int32)), .val (.int (1 : Int32)), .val (.int (0 : Int32)), .val (.int (1 : Int32)), .val (.long v36), .second, .val (.int (0 : Int32)), .val (.int (1 : Int32)), .val (.int (0 : Int32)), .unset, .unset, .unset, .unset]) rfl ?_
          refine px_iload S32 at_225 rfl rfl ?_
          refine px_if0 S32 at_227 (by decide) (pc' := 252) rfl rfl (fun (hc37 : ¬ (0 : Int32).toInt = 0) => by exfalso; revert hc37; decide) (fun (hc37 : (0 : Int32).toInt = 0) => ?_)
          refine px_lload S32 at_230 rfl rfl ?_
          refine px_lconst (v := (0 : Int64)) S32 at_232 rfl rfl ?_
          refine px_lif S32 at_233 rfl at_234 (by decide) (pc' := 248) rfl rfl (fun (hc38 : v36.toInt = (0 : Int64).toInt) => by exfalso; have q0 := rng64 v36; have q1 := congrArg Int64.toInt h_v36; have q2 := c_ladd (0 : Int64) v1; have q3 := rng64 ((0 : Int64) + v1); have q4 := (show (0 : Int64).toInt = 0 from rfl); have q5 := rng64 v1; have q6 := congrArg Int64.toInt h_v1; have q7 := f_lmask i1.toInt64 (2147483647 : Int64) 31 2147483648 (by decide) (by decide) (by decide); have q8 := c_i2l i1; have q9 := rng32 i1; have q10 := (show (2147483647 : Int64).toInt = 2147483647 from rfl); have q11 := rng64 mx; have q12 := c_i2l v1.toInt32; have q13 := c_l2i v1; have q14 := rng32 v1.toInt32; have q15 := c_lsub mx (0 : Int64); have q16 := rng64 (mx - (0 : Int64)); have q17 := (show (0 : Int32).toInt = 0 from rfl); have q18 := c_ladd (0 : Int64) v1.toInt32.toInt64; have q19 := rng64 ((0 : Int64) + v1.toInt32.toInt64); have q20 := c_i2l v2.toInt32; have q21 := c_l2i v2; have q22 := rng32 v2.toInt32; have q23 := rng64 v2; have q24 := congrArg Int64.toInt h_v2; have q25 := f_lmask i2.toInt64 (2147483647 : Int64) 31 2147483648 (by decide) (by decide) (by decide); have q26 := c_i2l i2; have q27 := rng32 i2; have q28 := c_lsub mx ((0 : Int64) + v1.toInt32.toInt64); have q29 := rng64 (mx - ((0 : Int64) + v1.toInt32.toInt64)); have q30 := c_i2l v3.toInt32; have q31 := c_l2i v3; have q32 := rng32 v3.toInt32; have q33 := rng64 v3; have q34 := congrArg Int64.toInt h_v3; have q35 := f_lmask i3.toInt64 (2147483647 : Int64) 31 2147483648 (by decide) (by decide) (by decide); have q36 := c_i2l i3; have q37 := rng32 i3; have q38 := (show (1 : Int32).toInt = 1 from rfl); omega) (fun (hc38 : ¬ v36.toInt = (0 : Int64).toInt) => ?_)
          refine px_lload S32 at_237 rfl rfl ?_
          refine px_lload S32 at_239 rfl rfl ?_
          refine px_ladd S32 at_241 rfl ?_
          refine px_lload S32 at_242 rfl rfl ?_
          refine px_lif S32 at_244 rfl at_245 (by decide) (pc' := 252) rfl rfl (fun (hc39 : (v36 + v2).toInt > mx.toInt) => ?_) (fun (hc39 : (v36 + v2).toInt ≤ mx.toInt) => by exfalso; have q0 := c_ladd v36 v2; have q1 := rng64 (v36 + v2); have q2 := rng64 v36; have q3 := congrArg Int64.toInt h_v36; have q4 := c_ladd (0 : Int64) v1; have q5 := rng64 ((0 : Int64) + v1); have q6 := (show (0 : Int64).toInt = 0 from rfl); have q7 := rng64 v1; have q8 := congrArg Int64.toInt h_v1; have q9 := f_lmask i1.toInt64 (2147483647 : Int64) 31 2147483648 (by decide) (by decide) (by decide); have q10 := c_i2l i1; have q11 := rng32 i1; have q12 := (show (2147483647 : Int64).toInt = 2147483647 from rfl); have q13 := rng64 v2; have q14 := congrArg Int64.toInt h_v2; have q15 := f_lmask i2.toInt64 (2147483647 : Int64) 31 2147483648 (by decide) (by decide) (by decide); have q16 := c_i2l i2; have q17 := rng32 i2; have q18 := rng64 mx; have q19 := c_i2l v1.toInt32; have q20 := c_l2i v1; have q21 := rng32 v1.toInt32; have q22 := c_lsub mx (0 : Int64); have q23 := rng64 (mx - (0 : Int64)); have q24 := (show (0 : Int32).toInt = 0 from rfl); have q25 := c_ladd (0 : Int64) v1.toInt32.toInt64; have q26 := rng64 ((0 : Int64) + v1.toInt32.toInt64); have q27 := c_i2l v2.toInt32; have q28 := c_l2i v2; have q29 := rng32 v2.toInt32; have q30 := c_lsub mx ((0 : Int64) + v1.toInt32.toInt64); have q31 := rng64 (mx - ((0 : Int64) + v1.toInt32.toInt64)); have q32 := c_i2l v3.toInt32; have q33 := c_l2i v3; have q34 := rng32 v3.toInt32; have q35 := rng64 v3; have q36 := congrArg Int64.toInt h_v3; have q37 := f_lmask i3.toInt64 (2147483647 : Int64) 31 2147483648 (by decide) (by decide) (by decide); have q38 := c_i2l i3; have q39 := rng32 i3; have q40 := (show (1 : Int32).toInt = 1 from rfl); omega)
          refine px_iconst (v := (0 : Int32)) S32 at_252 rfl rfl ?_
          refine px_istore S32 at_253 rfl (L' := #[.val (.long i0), .second, .val (.int i1), .val (.int i2), .val (.int i3), .val (.int i4), .val (.long v1), .second, .val (.long v2), .second, .val (.long v3), .second, .val (.int v4), .val (.long v5), .second, .val (.long mx), .second, .val (.ref b8), .val (.int (1 : Int32)), .val (.int (0 : Int32)), .val (.int (0 : Int32)), .val (.int (1 : Int32)), .val (.int (0 : Int32)), .val (.int (1 : Int32)), .val (.long v36), .second, .val (.int (0 : Int32)), .val (.int (1 : Int32)), .val (.int (0 : Int32)), .val (.int (0 : Int32)), .unset, .unset, .unset]) rfl ?_
          refine px_iload S32 at_255 rfl rfl ?_
          refine px_if0 S32 at_257 (by decide) (pc' := 270) rfl rfl (fun (hc40 : (0 : Int32).toInt = 0) => ?_) (fun (hc40 : ¬ (0 : Int32).toInt = 0) => by exfalso; revert hc40; decide)
          refine px_iconst (v := (1 : Int32)) S32 at_270 rfl rfl ?_
          refine px_istore S32 at_271 rfl (L' := #[.val (.long i0), .second, .val (.int i1), .val (.int i2), .val (.int i3), .val (.int i4), .val (.long v1), .second, .val (.long v2), .second, .val (.long v3), .second, .val (.int v4), .val (.long v5), .second, .val (.long mx), .second, .val (.ref b8), .val (.int (1 : Int32)), .val (.int (0 : Int32)), .val (.int (0 : Int32)), .val (.int (1 : Int32)), .val (.int (0 : Int32)), .val (.int (1 : Int32)), .val (.long v36), .second, .val (.int (1 : Int32)), .val (.int (1 : Int32)), .val (.int (0 : Int32)), .val (.int (0 : Int32)), .unset, .unset, .unset]) rfl ?_
          refine px_iload S32 at_273 rfl rfl ?_
          refine px_istore S32 at_275 rfl (L' := #[.val (.long i0), .second, .val (.int i1), .val (.int i2), .val (.int i3), .val (.int i4), .val (.long v1), .second, .val (.long v2), .second, .val (.long v3), .second, .val (.int v4), .val (.long v5), .second, .val (.long mx), .second, .val (.ref b8), .val (.int (1 : Int32)), .val (.int (0 : Int32)), .val (.int (0 : Int32)), .val (.int (1 : Int32)), .val (.int (0 : Int32)), .val (.int (1 : Int32)), .val (.long v36), .second, .val (.int (1 : Int32)), .val (.int (1 : Int32)), .val (.int (0 : Int32)), .val (.int (0 : Int32)), .val (.int (1 : Int32)), .unset, .unset]) rfl ?_
          refine px_iload S32 at_277 rfl rfl ?_
          refine px_if0 S32 at_279 (by decide) (pc' := 304) rfl rfl (fun (hc41 : ¬ (1 : Int32).toInt = 0) => ?_) (fun (hc41 : (1 : Int32).toInt = 0) => by exfalso; revert hc41; decide)
          refine px_iconst (v := (0 : Int32)) S32 at_304 rfl rfl ?_
          refine px_istore S32 at_305 rfl (L' := #[.val (.long i0), .second, .val (.int i1), .val (.int i2), .val (.int i3), .val (.int i4), .val (.long v1), .second, .val (.long v2), .second, .val (.long v3), .second, .val (.int v4), .val (.long v5), .second, .val (.long mx), .second, .val (.ref b8), .val (.int (1 : Int32)), .val (.int (0 : Int32)), .val (.int (0 : Int32)), .val (.int (1 : Int32)), .val (.int (0 : Int32)), .val (.int (1 : Int32)), .val (.long v36), .second, .val (.int (1 : Int32)), .val (.int (1 : Int32)), .val (.int (0 : Int32)), .val (.int (0 : Int32)), .val (.int (1 : Int32)), .val (.int (0 : Int32)), .unset]) rfl ?_
          refine px_iload S32 at_307 rfl rfl ?_
          refine px_if0 S32 at_309 (by decide) (pc' := 322) rfl rfl (fun (hc42 : (0 : Int32).toInt = 0) => ?_) (fun (hc42 : ¬ (0 : Int32).toInt = 0) => by exfalso; revert hc42; decide)
          refine px_iconst (v := (1 : Int32)) S32 at_322 rfl rfl ?_
          refine px_istore S32 at_323 rfl (L' := #[.val (.long i0), .second, .val (.int i1), .val (.int i2), .val (.int i3), .val (.int i4), .val (.long v1), .second, .val (.long v2), .second, .val (.long v3), .second, .val (.int v4), .val (.long v5), .second, .val (.long mx), .second, .val (.ref b8), .val (.int (1 : Int32)), .val (.int (0 : Int32)), .val (.int (0 : Int32)), .val (.int (1 : Int32)), .val (.int (0 : Int32)), .val (.int (1 : Int32)), .val (.long v36), .second, .val (.int (1 : Int32)), .val (.int (1 : Int32)), .val (.int (0 : Int32)), .val (.int (0 : Int32)), .val (.int (1 : Int32)), .val (.int (0 : Int32)), .unset]) rfl ?_
          refine px_iload S32 at_325 rfl rfl ?_
          refine px_istore S32 at_327 rfl (L' := #[.val (.long i0), .second, .val (.int i1), .val (.int i2), .val (.int i3), .val (.int i4), .val (.long v1), .second, .val (.long v2), .second, .val (.long v3), .second, .val (.int v4), .val (.long v5), .second, .val (.long mx), .second, .val (.ref b8), .val (.int (1 : Int32)), .val (.int (0 : Int32)), .val (.int (0 : Int32)), .val (.int (1 : Int32)), .val (.int (0 : Int32)), .val (.int (1 : Int32)), .val (.long v36), .second, .val (.int (1 : Int32)), .val (.int (1 : Int32)), .val (.int (0 : Int32)), .val (.int (0 : Int32)), .val (.int (1 : Int32)), .val (.int (0 : Int32)), .val (.int (1 : Int32))]) rfl ?_
          refine px_iload S32 at_329 rfl rfl ?_
          refine px_iload S32 at_331 rfl rfl ?_
          refine px_icmp S32 at_333 (by decide) (pc' := 375) rfl rfl (fun (hc43 : ¬ (1 : Int32).toInt = (1 : Int32).toInt) => absurd rfl hc43) (fun (hc43 : (1 : Int32).toInt = (1 : Int32).toInt) => ?_)
          refine px_iload S32 at_336 rfl rfl ?_
          refine px_iload S32 at_338 rfl rfl ?_
          refine px_icmp S32 at_340 (by decide) (pc' := 375) rfl rfl (fun (hc44 : ¬ (0 : Int32).toInt = (0 : Int32).toInt) => absurd rfl hc44) (fun (hc44 : (0 : Int32).toInt = (0 : Int32).toInt) => ?_)
          refine px_iload S32 at_343 rfl rfl ?_
          refine px_iload S32 at_345 rfl rfl ?_
          refine px_icmp S32 at_347 (by decide) (pc' := 375) rfl rfl (fun (hc45 : ¬ (0 : Int32).toInt = (0 : Int32).toInt) => absurd rfl hc45) (fun (hc45 : (0 : Int32).toInt = (0 : Int32).toInt) => ?_)
          refine px_iload S32 at_350 rfl rfl ?_
          refine px_iload S32 at_352 rfl rfl ?_
          refine px_icmp S32 at_354 (by decide) (pc' := 375) rfl rfl (fun (hc46 : ¬ (1 : Int32).toInt = (1 : Int32).toInt) => absurd rfl hc46) (fun (hc46 : (1 : Int32).toInt = (1 : Int32).toInt) => ?_)
          refine px_iload S32 at_357 rfl rfl ?_
          refine px_iload S32 at_359 rfl rfl ?_
          refine px_icmp S32 at_361 (by decide) (pc' := 375) rfl rfl (fun (hc47 : ¬ (0 : Int32).toInt = (0 : Int32).toInt) => absurd rfl hc47) (fun (hc47 : (0 : Int32).toInt = (0 : Int32).toInt) => ?_)
          refine px_iload S32 at_364 rfl rfl ?_
          refine px_iload S32 at_366 rfl rfl ?_
          refine px_icmp S32 at_368 (by decide) (pc' := 375) rfl rfl (fun (hc48 : ¬ (1 : Int32).toInt = (1 : Int32).toInt) => absurd rfl hc48) (fun (hc48 : (1 : Int32).toInt = (1 : Int32).toInt) => ?_)
          refine px_iconst (v := (1 : Int32)) S32 at_371 rfl rfl ?_
          refine px_goto S32 at_372 (by decide) (pc' := 376) rfl ?_
          exact px_retN (t := .boolean) (z' := (1 : Int32)) S32 at_376 rfl (by simp) rfl (by decide) (by decide) (rfl)
      · show Go _ _ _ _ _ _ _ [(.int (1 : Int32))]
        refine px_istore S12 at_141 rfl (L' := #[.val (.long i0), .second, .val (.int i1), .val (.int i2), .val (.int i3), .val (.int i4), .val (.long v1), .second, .val (.long v2), .second, .val (.long v3), .second, .val (.int v4), .val (.long v5), .second, .val (.long mx), .second, .val (.ref b8), .val (.int (1 : Int32)), .val (.int (0 : Int32)), .val (.int (1 : Int32)), .unset, .unset, .unset, .unset, .unset, .unset, .unset, .unset, .unset, .unset, .unset, .unset]) rfl ?_
        refine px_aload S12 at_143 rfl rfl rfl ?_
        refine px_callV (Cn := "com/example/striate/striate/segment/ReadBudget") (as' := []) (st := []) (W := 0) S12 (c_spent hw S12.size g_b8 ⟨X_b8, F_maxBytes_b8, F_taken_b8, F_spent_b8⟩ rfl) X_b8 (hw _ (List.mem_of_getElem? (i := 26) rfl)) (hw _ (List.mem_of_getElem? (i := 27) rfl)) (hw _ (List.mem_of_getElem? (i := 29) rfl)) (hw _ (List.mem_of_getElem? (i := 28) rfl)) (hw _ (List.mem_of_getElem? (i := 8) rfl)) (hw _ (List.mem_of_getElem? (i := 30) rfl)) (S12.nf (hw _ (List.mem_of_getElem? (i := 29) rfl))) (by decide) pd_0_2 rfl rfl (by decide) rfl (by decide) (by decide) (by decide) at_145 rfl rfl (fun T49 h49 v49 S49 q49 => ?_)
        obtain ⟨rfl, X_b8, F_maxBytes_b8, F_taken_b8, F_spent_b8⟩ := q49
        show Go _ _ _ _ _ _ _ [(.int (0 : Int32))]
        refine px_istore S49 at_148 rfl (L' := #[.val (.long i0), .second, .val (.int i1), .val (.int i2), .val (.int i3), .val (.int i4), .val (.long v1), .second, .val (.long v2), .second, .val (.long v3), .second, .val (.int v4), .val (.long v5), .second, .val (.long mx), .second, .val (.ref b8), .val (.int (1 : Int32)), .val (.int (0 : Int32)), .val (.int (1 : Int32)), .val (.int (0 : Int32)), .unset, .unset, .unset, .unset, .unset, .unset, .unset, .unset, .unset, .unset, .unset]) rfl ?_
        refine px_aload S49 at_150 rfl rfl rfl ?_
        refine px_lload S49 at_152 rfl rfl ?_
        refine px_l2i S49 at_154 rfl ?_
        refine px_callV (Cn := "com/example/striate/striate/segment/ReadBudget") (as' := [(.int v3.toInt32)]) (st := []) (W := 0) S49 (c_take hw S49.size g_b8 ⟨X_b8, F_maxBytes_b8, F_taken_b8, F_spent_b8⟩) X_b8 (hw _ (List.mem_of_getElem? (i := 17) rfl)) (hw _ (List.mem_of_getElem? (i := 18) rfl)) (hw _ (List.mem_of_getElem? (i := 20) rfl)) (hw _ (List.mem_of_getElem? (i := 19) rfl)) (hw _ (List.mem_of_getElem? (i := 8) rfl)) (hw _ (List.mem_of_getElem? (i := 21) rfl)) (S49.nf (hw _ (List.mem_of_getElem? (i := 20) rfl))) (by decide) pd_0_1 rfl rfl (by decide) rfl (by decide) (by decide) (by decide) at_155 rfl rfl (fun T50 h50 v50 S50 q50 => ?_)
        rcases q50 with ⟨k50, rfl, X_b8, F_maxBytes_b8, F_taken_b8, F_spent_b8⟩ | ⟨k50, j50, rfl, X_b8, F_maxBytes_b8, F_taken_b8, F_spent_b8⟩ | ⟨k50, j50, rfl, X_b8, F_maxBytes_b8, F_taken_b8, F_spent_b8⟩
        · show Go _ _ _ _ _ _ _ [(.int (0 : Int32))]
          refine px_istore S50 at_158 rfl (L' := #[.val (.long i0), .second, .val (.int i1), .val (.int i2), .val (.int i3), .val (.int i4), .val (.long v1), .second, .val (.long v2), .second, .val (.long v3), .second, .val (.int v4), .val (.long v5), .second, .val (.long mx), .second, .val (.ref b8), .val (.int (1 : Int32)), .val (.int (0 : Int32)), .val (.int (1 : Int32)), .val (.int (0 : Int32)), .val (.int (0 : Int32)), .unset, .unset, .unset, .unset, .unset, .unset, .unset, .unset, .unset, .unset]) rfl ?_
          refine px_aload S50 at_160 rfl rfl rfl ?_
          refine px_callV (Cn := "com/example/striate/striate/segment/ReadBudget") (as' := []) (st := []) (W := 0) S50 (c_spent hw S50.size g_b8 ⟨X_b8, F_maxBytes_b8, F_taken_b8, F_spent_b8⟩ rfl) X_b8 (hw _ (List.mem_of_getElem? (i := 26) rfl)) (hw _ (List.mem_of_getElem? (i := 27) rfl)) (hw _ (List.mem_of_getElem? (i := 29) rfl)) (hw _ (List.mem_of_getElem? (i := 28) rfl)) (hw _ (List.mem_of_getElem? (i := 8) rfl)) (hw _ (List.mem_of_getElem? (i := 30) rfl)) (S50.nf (hw _ (List.mem_of_getElem? (i := 29) rfl))) (by decide) pd_0_2 rfl rfl (by decide) rfl (by decide) (by decide) (by decide) at_162 rfl rfl (fun T51 h51 v51 S51 q51 => ?_)
          obtain ⟨rfl, X_b8, F_maxBytes_b8, F_taken_b8, F_spent_b8⟩ := q51
          show Go _ _ _ _ _ _ _ [(.int (1 : Int32))]
          refine px_istore S51 at_165 rfl (L' := #[.val (.long i0), .second, .val (.int i1), .val (.int i2), .val (.int i3), .val (.int i4), .val (.long v1), .second, .val (.long v2), .second, .val (.long v3), .second, .val (.int v4), .val (.long v5), .second, .val (.long mx), .second, .val (.ref b8), .val (.int (1 : Int32)), .val (.int (0 : Int32)), .val (.int (1 : Int32)), .val (.int (0 : Int32)), .val (.int (0 : Int32)), .val (.int (1 : Int32)), .unset, .unset, .unset, .unset, .unset, .unset, .unset, .unset, .unset]) rfl ?_
          refine px_lconst (v := (0 : Int64)) S51 at_167 rfl rfl ?_
          refine px_lstore S51 at_168 rfl (L' := #[.val (.long i0), .second, .val (.int i1), .val (.int i2), .val (.int i3), .val (.int i4), .val (.long v1), .second, .val (.long v2), .second, .val (.long v3), .second, .val (.int v4), .val (.long v5), .second, .val (.long mx), .second, .val (.ref b8), .val (.int (1 : Int32)), .val (.int (0 : Int32)), .val (.int (1 : Int32)), .val (.int (0 : Int32)), .val (.int (0 : Int32)), .val (.int (1 : Int32)), .val (.long (0 : Int64)), .second, .unset, .unset, .unset, .unset, .unset, .unset, .unset]) rfl ?_
          refine px_iconst (v := (0 : Int32)) S51 at_170 rfl rfl ?_
          refine px_istore S51 at_171 rfl (L' := #[.val (.long i0), .second, .val (.int i1), .val (.int i2), .val (.int i3), .val (.int i4), .val (.long v1), .second, .val (.long v2), .second, .val (.long v3), .second, .val (.int v4), .val (.long v5), .second, .val (.long mx), .second, .val (.ref b8), .val (.int (1 : Int32)), .val (.int (0 : Int32)), .val (.int (1 : Int32)), .val (.int (0 : Int32)), .val (.int (0 : Int32)), .val (.int (1 : Int32)), .val (.long (0 : Int64)), .second, .val (.int (0 : Int32)), .unset, .unset, .unset, .unset, .unset, .unset]) rfl ?_
          refine px_iload S51 at_173 rfl rfl ?_
          refine px_if0 S51 at_175 (by decide) (pc' := 200) rfl rfl (fun (hc52 : ¬ (0 : Int32).toInt = 0) => by exfalso; revert hc52; decide) (fun (hc52 : (0 : Int32).toInt = 0) => ?_)
          refine px_lload S51 at_178 rfl rfl ?_
          refine px_lconst (v := (0 : Int64)) S51 at_180 rfl rfl ?_
          refine px_lif S51 at_181 rfl at_182 (by decide) (pc' := 196) rfl rfl (fun (hc53 : (0 : Int64).toInt = (0 : Int64).toInt) => ?_) (fun (hc53 : ¬ (0 : Int64).toInt = (0 : Int64).toInt) => absurd rfl hc53)
          refine px_iconst (v := (1 : Int32)) S51 at_196 rfl rfl ?_
          refine px_goto S51 at_197 (by decide) (pc' := 201) rfl ?_
          refine px_istore S51 at_201 rfl (L' := #[.val (.long i0), .second, .val (.int i1), .val (.int i2), .val (.int i3), .val (.int i4), .val (.long v1), .second, .val (.long v2), .second, .val (.long v3), .second, .val (.int v4), .val (.long v5), .second, .val (.long mx), .second, .val (.ref b8), .val (.int (1 : Int32)), .val (.int (0 : Int32)), .val (.int (1 : Int32)), .val (.int (0 : Int32)), .val (.int (0 : Int32)), .val (.int (1 : Int32)), .val (.long (0 : Int64)), .second, .val (.int (0 : Int32)), .val (.int (1 : Int32)), .unset, .unset, .unset, .unset, .unset]) rfl ?_
          refine px_iload S51 at_203 rfl rfl ?_
          refine px_if0 S51 at_205 (by decide) (pc' := 218) rfl rfl (fun (hc54 : (1 : Int32).toInt = 0) => by exfalso; revert hc54; decide) (fun (hc54 : ¬ (1 : Int32).toInt = 0) => ?_)
          refine px_lload S51 at_208 rfl rfl ?_
          refine px_lload S51 at_210 rfl rfl ?_
          refine px_ladd S51 at_212 rfl ?_
          generalize h_v55 : ((0 : Int64) + v1) = v55
          refine px_lstore S51 at_213 rfl (L' := #[.val (.long i0), .second, .val (.int i1), .val (.int i2), .val (.int i3), .val (.int i4), .val (.long v1), .second, .val (.long v2), .second, .val (.long v3), .second, .val (.int v4), .val (.long v5), .second, .val (.long mx), .second, .val (.ref b8), .val (.int (1 : Int32)), .val (.int (0 : Int32)), .val (.int (1 : Int32)), .val (.int (0 : Int32)), .val (.int (0 : Int32)), .val (.int (1 : Int32)), .val (.long v55), .second, .val (.int (0 : Int32)), .val (.int (1 : Int32)), .unset, .unset, .unset, .unset, .unset]) rfl ?_
          refine px_goto S51 at_215 (by decide) (pc' := 221) rfl ?_
          refine px_iload S51 at_221 rfl rfl ?_
          refine px_istore S51 at_223 rfl (L' := #[.val (.long i0), .second, .val (.int i1), .val (.int i2), .val (.int i3), .val (.int i4), .val (.long v1), .second, .val (.long v2), .second, .val (.long v3), .second, .val (.int v4), .val (.long v5), .second, .val (.long mx), .second, .val (.ref b8), .val (.int (1 : Int32)), .val (.int (0 : Int32)), .val (.int (1 : Int32)), .val (.int (0 : Int32)), .val (.int (0 : Int32)), .val (.int (1 : Int32)), .val (.long v55), .second, .val (.int (0 : Int32)), .val (.int (1 : Int32)), .val (.int (0 : Int32)), .unset, .unset, .unset, .unset]) rfl ?_
          refine px_iload S51 at_225 rfl rfl ?_
          refine px_if0 S51 at_227 (by decide) (pc' := 252) rfl rfl (fun (hc56 : ¬ (0 : Int32).toInt = 0) => by exfalso; revert hc56; decide) (fun (hc56 : (0 : Int32).toInt = 0) => ?_)
          refine px_lload S51 at_230 rfl rfl ?_
          refine px_lconst (v := (0 : Int64)) S51 at_232 rfl rfl ?_
          refine px_lif S51 at_233 rfl at_234 (by decide) (pc' := 248) rfl rfl (fun (hc57 : v55.toInt = (0 : Int64).toInt) => ?_) (fun (hc57 : ¬ v55.toInt = (0 : Int64).toInt) => ?_)
          · refine px_iconst (v := (1 : Int32)) S51 at_248 rfl rfl ?_
            refine px_goto S51 at_249 (by decide) (pc' := 253) rfl ?_
            refine px_istore S51 at_253 rfl (L' := #[.val (.long i0), .second, .val (.int i1), .val (.int i2), .val (.int i3), .val (.int i4), .val (.long v1), .second, .val (.long v2), .second, .val (.long v3), .second, .val (.int v4), .val (.long v5), .second, .val (.long mx), .second, .val (.ref b8), .val (.int (1 : Int32)), .val (.int (0 : Int32)), .val (.int (1 : Int32)), .val (.int (0 : Int32)), .val (.int (0 : Int32)), .val (.int (1 : Int32)), .val (.long v55), .second, .val (.int (0 : Int32)), .val (.int (1 : Int32)), .val (.int (0 : Int32)), .val (.int (1 : Int32)), .unset, .unset, .unset]) rfl ?_
            refine px_iload S51 at_255 rfl rfl ?_
            refine px_if0 S51 at_257 (by decide) (pc' := 270) rfl rfl (fun (hc58 : (1 : Int32).toInt = 0) => by exfalso; revert hc58; decide) (fun (hc58 : ¬ (1 : Int32).toInt = 0) => ?_)
            refine px_lload S51 at_260 rfl rfl ?_
            refine px_lload S51 at_262 rfl rfl ?_
            refine px_ladd S51 at_264 rfl ?_
            generalize h_v59 : (v55 + v2) = v59
            refine px_lstore S51 at_265 rfl (L' := #[.val (.long i0), .second, .val (.int i1), .val (.int i2), .val (.int i3), .val (.int i4), .val (.long v1), .second, .val (.long v2), .second, .val (.long v3), .second, .val (.int v4), .val (.long v5), .second, .val (.long mx), .second, .val (.ref b8), .val (.int (1 : Int32)), .val (.int (0 : Int32)), .val (.int (1 : Int32)), .val (.int (0 : Int32)), .val (.int (0 : Int32)), .val (.int (1 : Int32)), .val (.long v59), .second, .val (.int (0 : Int32)), .val (.int (1 : Int32)), .val (.int (0 : Int32)), .val (.int (1 : Int32)), .unset, .unset, .unset]) rfl ?_
            refine px_goto S51 at_267 (by decide) (pc' := 273) rfl ?_
            refine px_iload S51 at_273 rfl rfl ?_
            refine px_istore S51 at_275 rfl (L' := #[.val (.long i0), .second, .val (.int i1), .val (.int i2), .val (.int i3), .val (.int i4), .val (.long v1), .second, .val (.long v2), .second, .val (.long v3), .second, .val (.int v4), .val (.long v5), .second, .val (.long mx), .second, .val (.ref b8), .val (.int (1 : Int32)), .val (.int (0 : Int32)), .val (.int (1 : Int32)), .val (.int (0 : Int32)), .val (.int (0 : Int32)), .val (.int (1 : Int32)), .val (.long v59), .second, .val (.int (0 : Int32)), .val (.int (1 : Int32)), .val (.int (0 : Int32)), .val (.int (1 : Int32)), .val (.int (0 : Int32)), .unset, .unset]) rfl ?_
            refine px_iload S51 at_277 rfl rfl ?_
            refine px_if0 S51 at_279 (by decide) (pc' := 304) rfl rfl (fun (hc60 : ¬ (0 : Int32).toInt = 0) => by exfalso; revert hc60; decide) (fun (hc60 : (0 : Int32).toInt = 0) => ?_)
            refine px_lload S51 at_282 rfl rfl ?_
            refine px_lconst (v := (0 : Int64)) S51 at_284 rfl rfl ?_
            refine px_lif S51 at_285 rfl at_286 (by decide) (pc' := 300) rfl rfl (fun (hc61 : v59.toInt = (0 : Int64).toInt) => by exfalso; have q0 := rng64 v59; have q1 := congrArg Int64.toInt h_v59; have q2 := c_ladd v55 v2; have q3 := rng64 (v55 + v2); have q4 := rng64 v55; have q5 := congrArg Int64.toInt h_v55; have q6 := c_ladd (0 : Int64) v1; have q7 := rng64 ((0 : Int64) + v1); have q8 := (show (0 : Int64).toInt = 0 from rfl); have q9 := rng64 v1; have q10 := congrArg Int64.toInt h_v1; have q11 := f_lmask i1.toInt64 (2147483647 : Int64) 31 2147483648 (by decide) (by decide) (by decide); have q12 := c_i2l i1; have q13 := rng32 i1; have q14 := (show (2147483647 : Int64).toInt = 2147483647 from rfl); have q15 := rng64 v2; have q16 := congrArg Int64.toInt h_v2; have q17 := f_lmask i2.toInt64 (2147483647 : Int64) 31 2147483648 (by decide) (by decide) (by decide); have q18 := c_i2l i2; have q19 := rng32 i2; have q20 := rng64 mx; have q21 := c_i2l v1.toInt32; have q22 := c_l2i v1; have q23 := rng32 v1.toInt32; have q24 := c_lsub mx (0 : Int64); have q25 := rng64 (mx - (0 : Int64)); have q26 := (show (0 : Int32).toInt = 0 from rfl); have q27 := c_ladd (0 : Int64) v1.toInt32.toInt64; have q28 := rng64 ((0 : Int64) + v1.toInt32.toInt64); have q29 := c_i2l v2.toInt32; have q30 := c_l2i v2; have q31 := rng32 v2.toInt32; have q32 := c_lsub mx ((0 : Int64) + v1.toInt32.toInt64); have q33 := rng64 (mx - ((0 : Int64) + v1.toInt32.toInt64)); have q34 := c_ladd ((0 : Int64) + v1.toInt32.toInt64) v2.toInt32.toInt64; have q35 := rng64 (((0 : Int64) + v1.toInt32.toInt64) + v2.toInt32.toInt64); have q36 := c_i2l v3.toInt32; have q37 := c_l2i v3; have q38 := rng32 v3.toInt32; have q39 := rng64 v3; have q40 := congrArg Int64.toInt h_v3; have q41 := f_lmask i3.toInt64 (2147483647 : Int64) 31 2147483648 (by decide) (by decide) (by decide); have q42 := c_i2l i3; have q43 := rng32 i3; have q44 := c_lsub mx (((0 : Int64) + v1.toInt32.toInt64) + v2.toInt32.toInt64); have q45 := rng64 (mx - (((0 : Int64) + v1.toInt32.toInt64) + v2.toInt32.toInt64)); omega) (fun (hc61 : ¬ v59.toInt = (0 : Int64).toInt) => ?_)
            refine px_lload S51 at_289 rfl rfl ?_
            refine px_lload S51 at_291 rfl rfl ?_
            refine px_ladd S51 at_293 rfl ?_
            refine px_lload S51 at_294 rfl rfl ?_
            refine px_lif S51 at_296 rfl at_297 (by decide) (pc' := 304) rfl rfl (fun (hc62 : (v59 + v3).toInt > mx.toInt) => ?_) (fun (hc62 : (v59 + v3).toInt ≤ mx.toInt) => by exfalso; have q0 := c_ladd v59 v3; have q1 := rng64 (v59 + v3); have q2 := rng64 v59; have q3 := congrArg Int64.toInt h_v59; have q4 := c_ladd v55 v2; have q5 := rng64 (v55 + v2); have q6 := rng64 v55; have q7 := congrArg Int64.toInt h_v55; have q8 := c_ladd (0 : Int64) v1; have q9 := rng64 ((0 : Int64) + v1); have q10 := (show (0 : Int64).toInt = 0 from rfl); have q11 := rng64 v1; have q12 := congrArg Int64.toInt h_v1; have q13 := f_lmask i1.toInt64 (2147483647 : Int64) 31 2147483648 (by decide) (by decide) (by decide); have q14 := c_i2l i1; have q15 := rng32 i1; have q16 := (show (2147483647 : Int64).toInt = 2147483647 from rfl); have q17 := rng64 v2; have q18 := congrArg Int64.toInt h_v2; have q19 := f_lmask i2.toInt64 (2147483647 : Int64) 31 2147483648 (by decide) (by decide) (by decide); have q20 := c_i2l i2; have q21 := rng32 i2; have q22 := rng64 v3; have q23 := congrArg Int64.toInt h_v3; have q24 := f_lmask i3.toInt64 (2147483647 : Int64) 31 2147483648 (by decide) (by decide) (by decide); have q25 := c_i2l i3; have q26 := rng32 i3; have q27 := rng64 mx; have q28 := c_i2l v1.toInt32; have q29 := c_l2i v1; have q30 := rng32 v1.toInt32; have q31 := c_lsub mx (0 : Int64); have q32 := rng64 (mx - (0 : Int64)); have q33 := (show (0 : Int32).toInt = 0 from rfl); have q34 := c_ladd (0 : Int64) v1.toInt32.toInt64; have q35 := rng64 ((0 : Int64) + v1.toInt32.toInt64); have q36 := c_i2l v2.toInt32; have q37 := c_l2i v2; have q38 := rng32 v2.toInt32; have q39 := c_lsub mx ((0 : Int64) + v1.toInt32.toInt64); have q40 := rng64 (mx - ((0 : Int64) + v1.toInt32.toInt64)); have q41 := c_ladd ((0 : Int64) + v1.toInt32.toInt64) v2.toInt32.toInt64; have q42 := rng64 (((0 : Int64) + v1.toInt32.toInt64) + v2.toInt32.toInt64); have q43 := c_i2l v3.toInt32; have q44 := c_l2i v3; have q45 := rng32 v3.toInt32; have q46 := c_lsub mx (((0 : Int64) + v1.toInt32.toInt64) + v2.toInt32.toInt64); have q47 := rng64 (mx - (((0 : Int64) + v1.toInt32.toInt64) + v2.toInt32.toInt64)); omega)
            refine px_iconst (v := (0 : Int32)) S51 at_304 rfl rfl ?_
            refine px_istore S51 at_305 rfl (L' := #[.val (.long i0), .second, .val (.int i1), .val (.int i2), .val (.int i3), .val (.int i4), .val (.long v1), .second, .val (.long v2), .second, .val (.long v3), .second, .val (.int v4), .val (.long v5), .second, .val (.long mx), .second, .val (.ref b8), .val (.int (1 : Int32)), .val (.int (0 : Int32)), .val (.int (1 : Int32)), .val (.int (0 : Int32)), .val (.int (0 : Int32)), .val (.int (1 : Int32)), .val (.long v59), .second, .val (.int (0 : Int32)), .val (.int (1 : Int32)), .val (.int (0 : Int32)), .val (.int (1 : Int32)), .val (.int (0 : Int32)), .val (.int (0 : Int32)), .unset]) rfl ?_
            refine px_iload S51 at_307 rfl rfl ?_
            refine px_if0 S51 at_309 (by decide) (pc' := 322) rfl rfl (fun (hc63 : (0 : Int32).toInt = 0) => ?_) (fun (hc63 : ¬ (0 : Int32).toInt = 0) => by exfalso; revert hc63; decide)
            refine px_iconst (v := (1 : Int32)) S51 at_322 rfl rfl ?_
            refine px_istore S51 at_323 rfl (L' := #[.val (.long i0), .second, .val (.int i1), .val (.int i2), .val (.int i3), .val (.int i4), .val (.long v1), .second, .val (.long v2), .second, .val (.long v3), .second, .val (.int v4), .val (.long v5), .second, .val (.long mx), .second, .val (.ref b8), .val (.int (1 : Int32)), .val (.int (0 : Int32)), .val (.int (1 : Int32)), .val (.int (0 : Int32)), .val (.int (0 : Int32)), .val (.int (1 : Int32)), .val (.long v59), .second, .val (.int (1 : Int32)), .val (.int (1 : Int32)), .val (.int (0 : Int32)), .val (.int (1 : Int32)), .val (.int (0 : Int32)), .val (.int (0 : Int32)), .unset]) rfl ?_
            refine px_iload S51 at_325 rfl rfl ?_
            refine px_istore S51 at_327 rfl (L' := #[.val (.long i0), .second, .val (.int i1), .val (.int i2), .val (.int i3), .val (.int i4), .val (.long v1), .second, .val (.long v2), .second, .val (.long v3), .second, .val (.int v4), .val (.long v5), .second, .val (.long mx), .second, .val (.ref b8), .val (.int (1 : Int32)), .val (.int (0 : Int32)), .val (.int (1 : Int32)), .val (.int (0 : Int32)), .val (.int (0 : Int32)), .val (.int (1 : Int32)), .val (.long v59), .second, .val (.int (1 : Int32)), .val (.int (1 : Int32)), .val (.int (0 : Int32)), .val (.int (1 : Int32)), .val (.int (0 : Int32)), .val (.int (0 : Int32)), .val (.int (1 : Int32))]) rfl ?_
            refine px_iload S51 at_329 rfl rfl ?_
            refine px_iload S51 at_331 rfl rfl ?_
            refine px_icmp S51 at_333 (by decide) (pc' := 375) rfl rfl (fun (hc64 : ¬ (1 : Int32).toInt = (1 : Int32).toInt) => absurd rfl hc64) (fun (hc64 : (1 : Int32).toInt = (1 : Int32).toInt) => ?_)
            refine px_iload S51 at_336 rfl rfl ?_
            refine px_iload S51 at_338 rfl rfl ?_
            refine px_icmp S51 at_340 (by decide) (pc' := 375) rfl rfl (fun (hc65 : ¬ (0 : Int32).toInt = (0 : Int32).toInt) => absurd rfl hc65) (fun (hc65 : (0 : Int32).toInt = (0 : Int32).toInt) => ?_)
            refine px_iload S51 at_343 rfl rfl ?_
            refine px_iload S51 at_345 rfl rfl ?_
            refine px_icmp S51 at_347 (by decide) (pc' := 375) rfl rfl (fun (hc66 : ¬ (1 : Int32).toInt = (1 : Int32).toInt) => absurd rfl hc66) (fun (hc66 : (1 : Int32).toInt = (1 : Int32).toInt) => ?_)
            refine px_iload S51 at_350 rfl rfl ?_
            refine px_iload S51 at_352 rfl rfl ?_
            refine px_icmp S51 at_354 (by decide) (pc' := 375) rfl rfl (fun (hc67 : ¬ (0 : Int32).toInt = (0 : Int32).toInt) => absurd rfl hc67) (fun (hc67 : (0 : Int32).toInt = (0 : Int32).toInt) => ?_)
            refine px_iload S51 at_357 rfl rfl ?_
            refine px_iload S51 at_359 rfl rfl ?_
            refine px_icmp S51 at_361 (by decide) (pc' := 375) rfl rfl (fun (hc68 : ¬ (0 : Int32).toInt = (0 : Int32).toInt) => absurd rfl hc68) (fun (hc68 : (0 : Int32).toInt = (0 : Int32).toInt) => ?_)
            refine px_iload S51 at_364 rfl rfl ?_
            refine px_iload S51 at_366 rfl rfl ?_
            refine px_icmp S51 at_368 (by decide) (pc' := 375) rfl rfl (fun (hc69 : ¬ (1 : Int32).toInt = (1 : Int32).toInt) => absurd rfl hc69) (fun (hc69 : (1 : Int32).toInt = (1 : Int32).toInt) => ?_)
            refine px_iconst (v := (1 : Int32)) S51 at_371 rfl rfl ?_
            refine px_goto S51 at_372 (by decide) (pc' := 376) rfl ?_
            exact px_retN (t := .boolean) (z' := (1 : Int32)) S51 at_376 rfl (by simp) rfl (by decide) (by decide) (rfl)
          · refine px_lload S51 at_237 rfl rfl ?_
            refine px_lload S51 at_239 rfl rfl ?_
            refine px_ladd S51 at_241 rfl ?_
            refine px_lload S51 at_242 rfl rfl ?_
            refine px_lif S51 at_244 rfl at_245 (by decide) (pc' := 252) rfl rfl (fun (hc70 : (v55 + v2).toInt > mx.toInt) => by exfalso; have q0 := c_ladd v55 v2; have q1 := rng64 (v55 + v2); have q2 := rng64 v55; have q3 := congrArg Int64.toInt h_v55; have q4 := c_ladd (0 : Int64) v1; have q5 := rng64 ((0 : Int64) + v1); have q6 := (show (0 : Int64).toInt = 0 from rfl); have q7 := rng64 v1; have q8 := congrArg Int64.toInt h_v1; have q9 := f_lmask i1.toInt64 (2147483647 : Int64) 31 2147483648 (by decide) (by decide) (by decide); have q10 := c_i2l i1; have q11 := rng32 i1; have q12 := (show (2147483647 : Int64).toInt = 2147483647 from rfl); have q13 := rng64 v2; have q14 := congrArg Int64.toInt h_v2; have q15 := f_lmask i2.toInt64 (2147483647 : Int64) 31 2147483648 (by decide) (by decide) (by decide); have q16 := c_i2l i2; have q17 := rng32 i2; have q18 := rng64 mx; have q19 := c_i2l v1.toInt32; have q20 := c_l2i v1; have q21 := rng32 v1.toInt32; have q22 := c_lsub mx (0 : Int64); have q23 := rng64 (mx - (0 : Int64)); have q24 := (show (0 : Int32).toInt = 0 from rfl); have q25 := c_ladd (0 : Int64) v1.toInt32.toInt64; have q26 := rng64 ((0 : Int64) + v1.toInt32.toInt64); have q27 := c_i2l v2.toInt32; have q28 := c_l2i v2; have q29 := rng32 v2.toInt32; have q30 := c_lsub mx ((0 : Int64) + v1.toInt32.toInt64); have q31 := rng64 (mx - ((0 : Int64) + v1.toInt32.toInt64)); have q32 := c_ladd ((0 : Int64) + v1.toInt32.toInt64) v2.toInt32.toInt64; have q33 := rng64 (((0 : Int64) + v1.toInt32.toInt64) + v2.toInt32.toInt64); have q34 := c_i2l v3.toInt32; have q35 := c_l2i v3; have q36 := rng32 v3.toInt32; have q37 := rng64 v3; have q38 := congrArg Int64.toInt h_v3; have q39 := f_lmask i3.toInt64 (2147483647 : Int64) 31 2147483648 (by decide) (by decide) (by decide); have q40 := c_i2l i3; have q41 := rng32 i3; have q42 := c_lsub mx (((0 : Int64) + v1.toInt32.toInt64) + v2.toInt32.toInt64); have q43 := rng64 (mx - (((0 : Int64) + v1.toInt32.toInt64) + v2.toInt32.toInt64)); omega) (fun (hc70 : (v55 + v2).toInt ≤ mx.toInt) => ?_)
            refine px_iconst (v := (1 : Int32)) S51 at_248 rfl rfl ?_
            refine px_goto S51 at_249 (by decide) (pc' := 253) rfl ?_
            refine px_istore S51 at_253 rfl (L' := #[.val (.long i0), .second, .val (.int i1), .val (.int i2), .val (.int i3), .val (.int i4), .val (.long v1), .second, .val (.long v2), .second, .val (.long v3), .second, .val (.int v4), .val (.long v5), .second, .val (.long mx), .second, .val (.ref b8), .val (.int (1 : Int32)), .val (.int (0 : Int32)), .val (.int (1 : Int32)), .val (.int (0 : Int32)), .val (.int (0 : Int32)), .val (.int (1 : Int32)), .val (.long v55), .second, .val (.int (0 : Int32)), .val (.int (1 : Int32)), .val (.int (0 : Int32)), .val (.int (1 : Int32)), .unset, .unset, .unset]) rfl ?_
            refine px_iload S51 at_255 rfl rfl ?_
            refine px_if0 S51 at_257 (by decide) (pc' := 270) rfl rfl (fun (hc71 : (1 : Int32).toInt = 0) => by exfalso; revert hc71; decide) (fun (hc71 : ¬ (1 : Int32).toInt = 0) => ?_)
            refine px_lload S51 at_260 rfl rfl ?_
            refine px_lload S51 at_262 rfl rfl ?_
            refine px_ladd S51 at_264 rfl ?_
            generalize h_v72 : (v55 + v2) = v72
            refine px_lstore S51 at_265 rfl (L' := #[.val (.long i0), .second, .val (.int i1), .val (.int i2), .val (.int i3), .val (.int i4), .val (.long v1), .second, .val (.long v2), .second, .val (.long v3), .second, .val (.int v4), .val (.long v5), .second, .val (.long mx), .second, .val (.ref b8), .val (.int (1 : Int32)), .val (.int (0 : Int32)), .val (.int (1 : Int32)), .val (.int (0 : Int32)), .val (.int (0 : Int32)), .val (.int (1 : Int32)), .val (.long v72), .second, .val (.int (0 : Int32)), .val (.int (1 : Int32)), .val (.int (0 : Int32)), .val (.int (1 : Int32)), .unset, .unset, .unset]) rfl ?_
            refine px_goto S51 at_267 (by decide) (pc' := 273) rfl ?_
            refine px_iload S51 at_273 rfl rfl ?_
            refine px_istore S51 at_275 rfl (L' := #[.val (.long i0), .second, .val (.int i1), .val (.int i2), .val (.int i3), .val (.int i4), .val (.long v1), .second, .val (.long v2), .second, .val (.long v3), .second, .val (.int v4), .val (.long v5), .second, .val (.long mx), .second, .val (.ref b8), .val (.int (1 : Int32)), .val (.int (0 : Int32)), .val (.int (1 : Int32)), .val (.int (0 : Int32)), .val (.int (0 : Int32)), .val (.int (1 : Int32)), .val (.long v72), .second, .val (.int (0 : Int32)), .val (.int (1 : Int32)), .val (.int (0 : Int32)), .val (.int (1 : Int32)), .val (.int (0 : Int32)), .unset, .unset]) rfl ?_
            refine px_iload S51 at_277 rfl rfl ?_
            refine px_if0 S51 at_279 (by decide) (pc' := 304) rfl rfl (fun (hc73 : ¬ (0 : Int32).toInt = 0) => by exfalso; revert hc73; decide) (fun (hc73 : (0 : Int32).toInt = 0) => ?_)
            refine px_lload S51 at_282 rfl rfl ?_
            refine px_lconst (v := (0 : Int64)) S51 at_284 rfl rfl ?_
            refine px_lif S51 at_285 rfl at_286 (by decide) (pc' := 300) rfl rfl (fun (hc74 : v72.toInt = (0 : Int64).toInt) => by exfalso; have q0 := rng64 v72; have q1 := congrArg Int64.toInt h_v72; have q2 := c_ladd v55 v2; have q3 := rng64 (v55 + v2); have q4 := rng64 v55; have q5 := congrArg Int64.toInt h_v55; have q6 := c_ladd (0 : Int64) v1; have q7 := rng64 ((0 : Int64) + v1); have q8 := (show (0 : Int64).toInt = 0 from rfl); have q9 := rng64 v1; have q10 := congrArg Int64.toInt h_v1; have q11 := f_lmask i1.toInt64 (2147483647 : Int64) 31 2147483648 (by decide) (by decide) (by decide); have q12 := c_i2l i1; have q13 := rng32 i1; have q14 := (show (2147483647 : Int64).toInt = 2147483647 from rfl); have q15 := rng64 v2; have q16 := congrArg Int64.toInt h_v2; have q17 := f_lmask i2.toInt64 (2147483647 : Int64) 31 2147483648 (by decide) (by decide) (by decide); have q18 := c_i2l i2; have q19 := rng32 i2; have q20 := rng64 mx; have q21 := c_i2l v1.toInt32; have q22 := c_l2i v1; have q23 := rng32 v1.toInt32; have q24 := c_lsub mx (0 : Int64); have q25 := rng64 (mx - (0 : Int64)); have q26 := (show (0 : Int32).toInt = 0 from rfl); have q27 := c_ladd (0 : Int64) v1.toInt32.toInt64; have q28 := rng64 ((0 : Int64) + v1.toInt32.toInt64); have q29 := c_i2l v2.toInt32; have q30 := c_l2i v2; have q31 := rng32 v2.toInt32; have q32 := c_lsub mx ((0 : Int64) + v1.toInt32.toInt64); have q33 := rng64 (mx - ((0 : Int64) + v1.toInt32.toInt64)); have q34 := c_ladd ((0 : Int64) + v1.toInt32.toInt64) v2.toInt32.toInt64; have q35 := rng64 (((0 : Int64) + v1.toInt32.toInt64) + v2.toInt32.toInt64); have q36 := c_i2l v3.toInt32; have q37 := c_l2i v3; have q38 := rng32 v3.toInt32; have q39 := rng64 v3; have q40 := congrArg Int64.toInt h_v3; have q41 := f_lmask i3.toInt64 (2147483647 : Int64) 31 2147483648 (by decide) (by decide) (by decide); have q42 := c_i2l i3; have q43 := rng32 i3; have q44 := c_lsub mx (((0 : Int64) + v1.toInt32.toInt64) + v2.toInt32.toInt64); have q45 := rng64 (mx - (((0 : Int64) + v1.toInt32.toInt64) + v2.toInt32.toInt64)); omega) (fun (hc74 : ¬ v72.toInt = (0 : Int64).toInt) => ?_)
            refine px_lload S51 at_289 rfl rfl ?_
            refine px_lload S51 at_291 rfl rfl ?_
            refine px_ladd S51 at_293 rfl ?_
            refine px_lload S51 at_294 rfl rfl ?_
            refine px_lif S51 at_296 rfl at_297 (by decide) (pc' := 304) rfl rfl (fun (hc75 : (v72 + v3).toInt > mx.toInt) => ?_) (fun (hc75 : (v72 + v3).toInt ≤ mx.toInt) => by exfalso; have q0 := c_ladd v72 v3; have q1 := rng64 (v72 + v3); have q2 := rng64 v72; have q3 := congrArg Int64.toInt h_v72; have q4 := c_ladd v55 v2; have q5 := rng64 (v55 + v2); have q6 := rng64 v55; have q7 := congrArg Int64.toInt h_v55; have q8 := c_ladd (0 : Int64) v1; have q9 := rng64 ((0 : Int64) + v1); have q10 := (show (0 : Int64).toInt = 0 from rfl); have q11 := rng64 v1; have q12 := congrArg Int64.toInt h_v1; have q13 := f_lmask i1.toInt64 (2147483647 : Int64) 31 2147483648 (by decide) (by decide) (by decide); have q14 := c_i2l i1; have q15 := rng32 i1; have q16 := (show (2147483647 : Int64).toInt = 2147483647 from rfl); have q17 := rng64 v2; have q18 := congrArg Int64.toInt h_v2; have q19 := f_lmask i2.toInt64 (2147483647 : Int64) 31 2147483648 (by decide) (by decide) (by decide); have q20 := c_i2l i2; have q21 := rng32 i2; have q22 := rng64 v3; have q23 := congrArg Int64.toInt h_v3; have q24 := f_lmask i3.toInt64 (2147483647 : Int64) 31 2147483648 (by decide) (by decide) (by decide); have q25 := c_i2l i3; have q26 := rng32 i3; have q27 := rng64 mx; have q28 := c_i2l v1.toInt32; have q29 := c_l2i v1; have q30 := rng32 v1.toInt32; have q31 := c_lsub mx (0 : Int64); have q32 := rng64 (mx - (0 : Int64)); have q33 := (show (0 : Int32).toInt = 0 from rfl); have q34 := c_ladd (0 : Int64) v1.toInt32.toInt64; have q35 := rng64 ((0 : Int64) + v1.toInt32.toInt64); have q36 := c_i2l v2.toInt32; have q37 := c_l2i v2; have q38 := rng32 v2.toInt32; have q39 := c_lsub mx ((0 : Int64) + v1.toInt32.toInt64); have q40 := rng64 (mx - ((0 : Int64) + v1.toInt32.toInt64)); have q41 := c_ladd ((0 : Int64) + v1.toInt32.toInt64) v2.toInt32.toInt64; have q42 := rng64 (((0 : Int64) + v1.toInt32.toInt64) + v2.toInt32.toInt64); have q43 := c_i2l v3.toInt32; have q44 := c_l2i v3; have q45 := rng32 v3.toInt32; have q46 := c_lsub mx (((0 : Int64) + v1.toInt32.toInt64) + v2.toInt32.toInt64); have q47 := rng64 (mx - (((0 : Int64) + v1.toInt32.toInt64) + v2.toInt32.toInt64)); omega)
            refine px_iconst (v := (0 : Int32)) S51 at_304 rfl rfl ?_
            refine px_istore S51 at_305 rfl (L' := #[.val (.long i0), .second, .val (.int i1), .val (.int i2), .val (.int i3), .val (.int i4), .val (.long v1), .second, .val (.long v2), .second, .val (.long v3), .second, .val (.int v4), .val (.long v5), .second, .val (.long mx), .second, .val (.ref b8), .val (.int (1 : Int32)), .val (.int (0 : Int32)), .val (.int (1 : Int32)), .val (.int (0 : Int32)), .val (.int (0 : Int32)), .val (.int (1 : Int32)), .val (.long v72), .second, .val (.int (0 : Int32)), .val (.int (1 : Int32)), .val (.int (0 : Int32)), .val (.int (1 : Int32)), .val (.int (0 : Int32)), .val (.int (0 : Int32)), .unset]) rfl ?_
            refine px_iload S51 at_307 rfl rfl ?_
            refine px_if0 S51 at_309 (by decide) (pc' := 322) rfl rfl (fun (hc76 : (0 : Int32).toInt = 0) => ?_) (fun (hc76 : ¬ (0 : Int32).toInt = 0) => by exfalso; revert hc76; decide)
            refine px_iconst (v := (1 : Int32)) S51 at_322 rfl rfl ?_
            refine px_istore S51 at_323 rfl (L' := #[.val (.long i0), .second, .val (.int i1), .val (.int i2), .val (.int i3), .val (.int i4), .val (.long v1), .second, .val (.long v2), .second, .val (.long v3), .second, .val (.int v4), .val (.long v5), .second, .val (.long mx), .second, .val (.ref b8), .val (.int (1 : Int32)), .val (.int (0 : Int32)), .val (.int (1 : Int32)), .val (.int (0 : Int32)), .val (.int (0 : Int32)), .val (.int (1 : Int32)), .val (.long v72), .second, .val (.int (1 : Int32)), .val (.int (1 : Int32)), .val (.int (0 : Int32)), .val (.int (1 : Int32)), .val (.int (0 : Int32)), .val (.int (0 : Int32)), .unset]) rfl ?_
            refine px_iload S51 at_325 rfl rfl ?_
            refine px_istore S51 at_327 rfl (L' := #[.val (.long i0), .second, .val (.int i1), .val (.int i2), .val (.int i3), .val (.int i4), .val (.long v1), .second, .val (.long v2), .second, .val (.long v3), .second, .val (.int v4), .val (.long v5), .second, .val (.long mx), .second, .val (.ref b8), .val (.int (1 : Int32)), .val (.int (0 : Int32)), .val (.int (1 : Int32)), .val (.int (0 : Int32)), .val (.int (0 : Int32)), .val (.int (1 : Int32)), .val (.long v72), .second, .val (.int (1 : Int32)), .val (.int (1 : Int32)), .val (.int (0 : Int32)), .val (.int (1 : Int32)), .val (.int (0 : Int32)), .val (.int (0 : Int32)), .val (.int (1 : Int32))]) rfl ?_
            refine px_iload S51 at_329 rfl rfl ?_
            refine px_iload S51 at_331 rfl rfl ?_
            refine px_icmp S51 at_333 (by decide) (pc' := 375) rfl rfl (fun (hc77 : ¬ (1 : Int32).toInt = (1 : Int32).toInt) => absurd rfl hc77) (fun (hc77 : (1 : Int32).toInt = (1 : Int32).toInt) => ?_)
            refine px_iload S51 at_336 rfl rfl ?_
            refine px_iload S51 at_338 rfl rfl ?_
            refine px_icmp S51 at_340 (by decide) (pc' := 375) rfl rfl (fun (hc78 : ¬ (0 : Int32).toInt = (0 : Int32).toInt) => absurd rfl hc78) (fun (hc78 : (0 : Int32).toInt = (0 : Int32).toInt) => ?_)
            refine px_iload S51 at_343 rfl rfl ?_
            refine px_iload S51 at_345 rfl rfl ?_
            refine px_icmp S51 at_347 (by decide) (pc' := 375) rfl rfl (fun (hc79 : ¬ (1 : Int32).toInt = (1 : Int32).toInt) => absurd rfl hc79) (fun (hc79 : (1 : Int32).toInt = (1 : Int32).toInt) => ?_)
            refine px_iload S51 at_350 rfl rfl ?_
            refine px_iload S51 at_352 rfl rfl ?_
            refine px_icmp S51 at_354 (by decide) (pc' := 375) rfl rfl (fun (hc80 : ¬ (0 : Int32).toInt = (0 : Int32).toInt) => absurd rfl hc80) (fun (hc80 : (0 : Int32).toInt = (0 : Int32).toInt) => ?_)
            refine px_iload S51 at_357 rfl rfl ?_
            refine px_iload S51 at_359 rfl rfl ?_
            refine px_icmp S51 at_361 (by decide) (pc' := 375) rfl rfl (fun (hc81 : ¬ (0 : Int32).toInt = (0 : Int32).toInt) => absurd rfl hc81) (fun (hc81 : (0 : Int32).toInt = (0 : Int32).toInt) => ?_)
            refine px_iload S51 at_364 rfl rfl ?_
            refine px_iload S51 at_366 rfl rfl ?_
            refine px_icmp S51 at_368 (by decide) (pc' := 375) rfl rfl (fun (hc82 : ¬ (1 : Int32).toInt = (1 : Int32).toInt) => absurd rfl hc82) (fun (hc82 : (1 : Int32).toInt = (1 : Int32).toInt) => ?_)
            refine px_iconst (v := (1 : Int32)) S51 at_371 rfl rfl ?_
            refine px_goto S51 at_372 (by decide) (pc' := 376) rfl ?_
            exact px_retN (t := .boolean) (z' := (1 : Int32)) S51 at_376 rfl (by simp) rfl (by decide) (by decide) (rfl)
        · show Go _ _ _ _ _ _ _ [(.int (1 : Int32))]
          refine px_istore S50 at_158 rfl (L' := #[.val (.long i0), .second, .val (.int i1), .val (.int i2), .val (.int i3), .val (.int i4), .val (.long v1), .second, .val (.long v2), .second, .val (.long v3), .second, .val (.int v4), .val (.long v5), .second, .val (.long mx), .second, .val (.ref b8), .val (.int (1 : Int32)), .val (.int (0 : Int32)), .val (.int (1 : Int32)), .val (.int (0 : Int32)), .val (.int (1 : Int32)), .unset, .unset, .unset, .unset, .unset, .unset, .unset, .unset, .unset, .unset]) rfl ?_
          refine px_aload S50 at_160 rfl rfl rfl ?_
          refine px_callV (Cn := "com/example/striate/striate/segment/ReadBudget") (as' := []) (st := []) (W := 0) S50 (c_spent hw S50.size g_b8 ⟨X_b8, F_maxBytes_b8, F_taken_b8, F_spent_b8⟩ rfl) X_b8 (hw _ (List.mem_of_getElem? (i := 26) rfl)) (hw _ (List.mem_of_getElem? (i := 27) rfl)) (hw _ (List.mem_of_getElem? (i := 29) rfl)) (hw _ (List.mem_of_getElem? (i := 28) rfl)) (hw _ (List.mem_of_getElem? (i := 8) rfl)) (hw _ (List.mem_of_getElem? (i := 30) rfl)) (S50.nf (hw _ (List.mem_of_getElem? (i := 29) rfl))) (by decide) pd_0_2 rfl rfl (by decide) rfl (by decide) (by decide) (by decide) at_162 rfl rfl (fun T83 h83 v83 S83 q83 => ?_)
          obtain ⟨rfl, X_b8, F_maxBytes_b8, F_taken_b8, F_spent_b8⟩ := q83
          show Go _ _ _ _ _ _ _ [(.int (0 : Int32))]
          refine px_istore S83 at_165 rfl (L' := #[.val (.long i0), .second, .val (.int i1), .val (.int i2), .val (.int i3), .val (.int i4), .val (.long v1), .second, .val (.long v2), .second, .val (.long v3), .second, .val (.int v4), .val (.long v5), .second, .val (.long mx), .second, .val (.ref b8), .val (.int (1 : Int32)), .val (.int (0 : Int32)), .val (.int (1 : Int32)), .val (.int (0 : Int32)), .val (.int (1 : Int32)), .val (.int (0 : Int32)), .unset, .unset, .unset, .unset, .unset, .unset, .unset, .unset, .unset]) rfl ?_
          refine px_lconst (v := (0 : Int64)) S83 at_167 rfl rfl ?_
          refine px_lstore S83 at_168 rfl (L' := #[.val (.long i0), .second, .val (.int i1), .val (.int i2), .val (.int i3), .val (.int i4), .val (.long v1), .second, .val (.long v2), .second, .val (.long v3), .second, .val (.int v4), .val (.long v5), .second, .val (.long mx), .second, .val (.ref b8), .val (.int (1 : Int32)), .val (.int (0 : Int32)), .val (.int (1 : Int32)), .val (.int (0 : Int32)), .val (.int (1 : Int32)), .val (.int (0 : Int32)), .val (.long (0 : Int64)), .second, .unset, .unset, .unset, .unset, .unset, .unset, .unset]) rfl ?_
          refine px_iconst (v := (0 : Int32)) S83 at_170 rfl rfl ?_
          refine px_istore S83 at_171 rfl (L' := #[.val (.long i0), .second, .val (.int i1), .val (.int i2), .val (.int i3), .val (.int i4), .val (.long v1), .second, .val (.long v2), .second, .val (.long v3), .second, .val (.int v4), .val (.long v5), .second, .val (.long mx), .second, .val (.ref b8), .val (.int (1 : Int32)), .val (.int (0 : Int32)), .val (.int (1 : Int32)), .val (.int (0 : Int32)), .val (.int (1 : Int32)), .val (.int (0 : Int32)), .val (.long (0 : Int64)), .second, .val (.int (0 : Int32)), .unset, .unset, .unset, .unset, .unset, .unset]) rfl ?_
          refine px_iload S83 at_173 rfl rfl ?_
          refine px_if0 S83 at_175 (by decide) (pc' := 200) rfl rfl (fun (hc84 : ¬ (0 : Int32).toInt = 0) => by exfalso; revert hc84; decide) (fun (hc84 : (0 : Int32).toInt = 0) => ?_)
          refine px_lload S83 at_178 rfl rfl ?_
          refine px_lconst (v := (0 : Int64)) S83 at_180 rfl rfl ?_
          refine px_lif S83 at_181 rfl at_182 (by decide) (pc' := 196) rfl rfl (fun (hc85 : (0 : Int64).toInt = (0 : Int64).toInt) => ?_) (fun (hc85 : ¬ (0 : Int64).toInt = (0 : Int64).toInt) => absurd rfl hc85)
          refine px_iconst (v := (1 : Int32)) S83 at_196 rfl rfl ?_
          refine px_goto S83 at_197 (by decide) (pc' := 201) rfl ?_
          refine px_istore S83 at_201 rfl (L' := #[.val (.long i0), .second, .val (.int i1), .val (.int i2), .val (.int i3), .val (.int i4), .val (.long v1), .second, .val (.long v2), .second, .val (.long v3), .second, .val (.int v4), .val (.long v5), .second, .val (.long mx), .second, .val (.ref b8), .val (.int (1 : Int32)), .val (.int (0 : Int32)), .val (.int (1 : Int32)), .val (.int (0 : Int32)), .val (.int (1 : Int32)), .val (.int (0 : Int32)), .val (.long (0 : Int64)), .second, .val (.int (0 : Int32)), .val (.int (1 : Int32)), .unset, .unset, .unset, .unset, .unset]) rfl ?_
          refine px_iload S83 at_203 rfl rfl ?_
          refine px_if0 S83 at_205 (by decide) (pc' := 218) rfl rfl (fun (hc86 : (1 : Int32).toInt = 0) => by exfalso; revert hc86; decide) (fun (hc86 : ¬ (1 : Int32).toInt = 0) => ?_)
          refine px_lload S83 at_208 rfl rfl ?_
          refine px_lload S83 at_210 rfl rfl ?_
          refine px_ladd S83 at_212 rfl ?_
          generalize h_v87 : ((0 : Int64) + v1) = v87
          refine px_lstore S83 at_213 rfl (L' := #[.val (.long i0), .second, .val (.int i1), .val (.int i2), .val (.int i3), .val (.int i4), .val (.long v1), .second, .val (.long v2), .second, .val (.long v3), .second, .val (.int v4), .val (.long v5), .second, .val (.long mx), .second, .val (.ref b8), .val (.int (1 : Int32)), .val (.int (0 : Int32)), .val (.int (1 : Int32)), .val (.int (0 : Int32)), .val (.int (1 : Int32)), .val (.int (0 : Int32)), .val (.long v87), .second, .val (.int (0 : Int32)), .val (.int (1 : Int32)), .unset, .unset, .unset, .unset, .unset]) rfl ?_
          refine px_goto S83 at_215 (by decide) (pc' := 221) rfl ?_
          refine px_iload S83 at_221 rfl rfl ?_
          refine px_istore S83 at_223 rfl (L' := #[.val (.long i0), .second, .val (.int i1), .val (.int i2), .val (.int i3), .val (.int i4), .val (.long v1), .second, .val (.long v2), .second, .val (.long v3), .second, .val (.int v4), .val (.long v5), .second, .val (.long mx), .second, .val (.ref b8), .val (.int (1 : Int32)), .val (.int (0 : Int32)), .val (.int (1 : Int32)), .val (.int (0 : Int32)), .val (.int (1 : Int32)), .val (.int (0 : Int32)), .val (.long v87), .second, .val (.int (0 : Int32)), .val (.int (1 : Int32)), .val (.int (0 : Int32)), .unset, .unset, .unset, .unset]) rfl ?_
          refine px_iload S83 at_225 rfl rfl ?_
          refine px_if0 S83 at_227 (by decide) (pc' := 252) rfl rfl (fun (hc88 : ¬ (0 : Int32).toInt = 0) => by exfalso; revert hc88; decide) (fun (hc88 : (0 : Int32).toInt = 0) => ?_)
          refine px_lload S83 at_230 rfl rfl ?_
          refine px_lconst (v := (0 : Int64)) S83 at_232 rfl rfl ?_
          refine px_lif S83 at_233 rfl at_234 (by decide) (pc' := 248) rfl rfl (fun (hc89 : v87.toInt = (0 : Int64).toInt) => ?_) (fun (hc89 : ¬ v87.toInt = (0 : Int64).toInt) => ?_)
          · refine px_iconst (v := (1 : Int32)) S83 at_248 rfl rfl ?_
            refine px_goto S83 at_249 (by decide) (pc' := 253) rfl ?_
            refine px_istore S83 at_253 rfl (L' := #[.val (.long i0), .second, .val (.int i1), .val (.int i2), .val (.int i3), .val (.int i4), .val (.long v1), .second, .val (.long v2), .second, .val (.long v3), .second, .val (.int v4), .val (.long v5), .second, .val (.long mx), .second, .val (.ref b8), .val (.int (1 : Int32)), .val (.int (0 : Int32)), .val (.int (1 : Int32)), .val (.int (0 : Int32)), .val (.int (1 : Int32)), .val (.int (0 : Int32)), .val (.long v87), .second, .val (.int (0 : Int32)), .val (.int (1 : Int32)), .val (.int (0 : Int32)), .val (.int (1 : Int32)), .unset, .unset, .unset]) rfl ?_
            refine px_iload S83 at_255 rfl rfl ?_
            refine px_if0 S83 at_257 (by decide) (pc' := 270) rfl rfl (fun (hc90 : (1 : Int32).toInt = 0) => by exfalso; revert hc90; decide) (fun (hc90 : ¬ (1 : Int32).toInt = 0) => ?_)
            refine px_lload S83 at_260 rfl rfl ?_
            refine px_lload S83 at_262 rfl rfl ?_
            refine px_ladd S83 at_264 rfl ?_
            generalize h_v91 : (v87 + v2) = v91
            refine px_lstore S83 at_265 rfl (L' := #[.val (.long i0), .second, .val (.int i1), .val (.int i2), .val (.int i3), .val (.int i4), .val (.long v1), .second, .val (.long v2), .second, .val (.long v3), .second, .val (.int v4), .val (.long v5), .second, .val (.long mx), .second, .val (.ref b8), .val (.int (1 : Int32)), .val (.int (0 : Int32)), .val (.int (1 : Int32)), .val (.int (0 : Int32)), .val (.int (1 : Int32)), .val (.int (0 : Int32)), .val (.long v91), .second, .val (.int (0 : Int32)), .val (.int (1 : Int32)), .val (.int (0 : Int32)), .val (.int (1 : Int32)), .unset, .unset, .unset]) rfl ?_
            refine px_goto S83 at_267 (by decide) (pc' := 273) rfl ?_
            refine px_iload S83 at_273 rfl rfl ?_
            refine px_istore S83 at_275 rfl (L' := #[.val (.long i0), .second, .val (.int i1), .val (.int i2), .val (.int i3), .val (.int i4), .val (.long v1), .second, .val (.long v2), .second, .val (.long v3), .second, .val (.int v4), .val (.long v5), .second, .val (.long mx), .second, .val (.ref b8), .val (.int (1 : Int32)), .val (.int (0 : Int32)), .val (.int (1 : Int32)), .val (.int (0 : Int32)), .val (.int (1 : Int32)), .val (.int (0 : Int32)), .val (.long v91), .second, .val (.int (0 : Int32)), .val (.int (1 : Int32)), .val (.int (0 : Int32)), .val (.int (1 : Int32)), .val (.int (0 : Int32)), .unset, .unset]) rfl ?_
            refine px_iload S83 at_277 rfl rfl ?_
            refine px_if0 S83 at_279 (by decide) (pc' := 304) rfl rfl (fun (hc92 : ¬ (0 : Int32).toInt = 0) => by exfalso; revert hc92; decide) (fun (hc92 : (0 : Int32).toInt = 0) => ?_)
            refine px_lload S83 at_282 rfl rfl ?_
            refine px_lconst (v := (0 : Int64)) S83 at_284 rfl rfl ?_
            refine px_lif S83 at_285 rfl at_286 (by decide) (pc' := 300) rfl rfl (fun (hc93 : v91.toInt = (0 : Int64).toInt) => ?_) (fun (hc93 : ¬ v91.toInt = (0 : Int64).toInt) => ?_)
            · refine px_iconst (v := (1 : Int32)) S83 at_300 rfl rfl ?_
              refine px_goto S83 at_301 (by decide) (pc' := 305) rfl ?_
              refine px_istore S83 at_305 rfl (L' := #[.val (.long i0), .second, .val (.int i1), .val (.int i2), .val (.int i3), .val (.int i4), .val (.long v1), .second, .val (.long v2), .second, .val (.long v3), .second, .val (.int v4), .val (.long v5), .second, .val (.long mx), .second, .val (.ref b8), .val (.int (1 : Int32)), .val (.int (0 : Int32)), .val (.int (1 : Int32)), .val (.int (0 : Int32)), .val (.int (1 : Int32)), .val (.int (0 : Int32)), .val (.long v91), .second, .val (.int (0 : Int32)), .val (.int (1 : Int32)), .val (.int (0 : Int32)), .val (.int (1 : Int32)), .val (.int (0 : Int32)), .val (.int (1 : Int32)), .unset]) rfl ?_
              refine px_iload S83 at_307 rfl rfl ?_
              refine px_if0 S83 at_309 (by decide) (pc' := 322) rfl rfl (fun (hc94 : (1 : Int32).toInt = 0) => by exfalso; revert hc94; decide) (fun (hc94 : ¬ (1 : Int32).toInt = 0) => ?_)
              refine px_lload S83 at_312 rfl rfl ?_
              refine px_lload S83 at_314 rfl rfl ?_
              refine px_ladd S83 at_316 rfl ?_
              generalize h_v95 : (v91 + v3) = v95
              refine px_lstore S83 at_317 rfl (L' := #[.val (.long i0), .second, .val (.int i1), .val (.int i2), .val (.int i3), .val (.int i4), .val (.long v1), .second, .val (.long v2), .second, .val (.long v3), .second, .val (.int v4), .val (.long v5), .second, .val (.long mx), .second, .val (.ref b8), .val (.int (1 : Int32)), .val (.int (0 : Int32)), .val (.int (1 : Int32)), .val (.int (0 : Int32)), .val (.int (1 : Int32)), .val (.int (0 : Int32)), .val (.long v95), .second, .val (.int (0 : Int32)), .val (.int (1 : Int32)), .val (.int (0 : Int32)), .val (.int (1 : Int32)), .val (.int (0 : Int32)), .val (.int (1 : Int32)), .unset]) rfl ?_
              refine px_goto S83 at_319 (by decide) (pc' := 325) rfl ?_
              refine px_iload S83 at_325 rfl rfl ?_
              refine px_istore S83 at_327 rfl (L' := #[.val (.long i0), .second, .val (.int i1), .val (.int i2), .val (.int i3), .val (.int i4), .val (.long v1), .second, .val (.long v2), .second, .val (.long v3), .second, .val (.int v4), .val (.long v5), .second, .val (.long mx), .second, .val (.ref b8), .val (.int (1 : Int32)), .val (.int (0 : Int32)), .val (.int (1 : Int32)), .val (.int (0 : Int32)), .val (.int (1 : Int32)), .val (.int (0 : Int32)), .val (.long v95), .second, .val (.int (0 : Int32)), .val (.int (1 : Int32)), .val (.int (0 : Int32)), .val (.int (1 : Int32)), .val (.int (0 : Int32)), .val (.int (1 : Int32)), .val (.int (0 : Int32))]) rfl ?_
              refine px_iload S83 at_329 rfl rfl ?_
              refine px_iload S83 at_331 rfl rfl ?_
              refine px_icmp S83 at_333 (by decide) (pc' := 375) rfl rfl (fun (hc96 : ¬ (1 : Int32).toInt = (1 : Int32).toInt) => absurd rfl hc96) (fun (hc96 : (1 : Int32).toInt = (1 : Int32).toInt) => ?_)
              refine px_iload S83 at_336 rfl rfl ?_
              refine px_iload S83 at_338 rfl rfl ?_
              refine px_icmp S83 at_340 (by decide) (pc' := 375) rfl rfl (fun (hc97 : ¬ (0 : Int32).toInt = (0 : Int32).toInt) => absurd rfl hc97) (fun (hc97 : (0 : Int32).toInt = (0 : Int32).toInt) => ?_)
              refine px_iload S83 at_343 rfl rfl ?_
              refine px_iload S83 at_345 rfl rfl ?_
              refine px_icmp S83 at_347 (by decide) (pc' := 375) rfl rfl (fun (hc98 : ¬ (1 : Int32).toInt = (1 : Int32).toInt) => absurd rfl hc98) (fun (hc98 : (1 : Int32).toInt = (1 : Int32).toInt) => ?_)
              refine px_iload S83 at_350 rfl rfl ?_
              refine px_iload S83 at_352 rfl rfl ?_
              refine px_icmp S83 at_354 (by decide) (pc' := 375) rfl rfl (fun (hc99 : ¬ (0 : Int32).toInt = (0 : Int32).toInt) => absurd rfl hc99) (fun (hc99 : (0 : Int32).toInt = (0 : Int32).toInt) => ?_)
              refine px_iload S83 at_357 rfl rfl ?_
              refine px_iload S83 at_359 rfl rfl ?_
              refine px_icmp S83 at_361 (by decide) (pc' := 375) rfl rfl (fun (hc100 : ¬ (1 : Int32).toInt = (1 : Int32).toInt) => absurd rfl hc100) (fun (hc100 : (1 : Int32).toInt = (1 : Int32).toInt) => ?_)
              refine px_iload S83 at_364 rfl rfl ?_
              refine px_iload S83 at_366 rfl rfl ?_
              refine px_icmp S83 at_368 (by decide) (pc' := 375) rfl rfl (fun (hc101 : ¬ (0 : Int32).toInt = (0 : Int32).toInt) => absurd rfl hc101) (fun (hc101 : (0 : Int32).toInt = (0 : Int32).toInt) => ?_)
              refine px_iconst (v := (1 : Int32)) S83 at_371 rfl rfl ?_
              refine px_goto S83 at_372 (by decide) (pc' := 376) rfl ?_
              exact px_retN (t := .boolean) (z' := (1 : Int32)) S83 at_376 rfl (by simp) rfl (by decide) (by decide) (rfl)
            · refine px_lload S83 at_289 rfl rfl ?_
              refine px_lload S83 at_291 rfl rfl ?_
              refine px_ladd S83 at_293 rfl ?_
              refine px_lload S83 at_294 rfl rfl ?_
              refine px_lif S83 at_296 rfl at_297 (by decide) (pc' := 304) rfl rfl (fun (hc102 : (v91 + v3).toInt > mx.toInt) => by exfalso; have q0 := c_ladd v91 v3; have q1 := rng64 (v91 + v3); have q2 := rng64 v91; have q3 := congrArg Int64.toInt h_v91; have q4 := c_ladd v87 v2; have q5 := rng64 (v87 + v2); have q6 := rng64 v87; have q7 := congrArg Int64.toInt h_v87; have q8 := c_ladd (0 : Int64) v1; have q9 := rng64 ((0 : Int64) + v1); have q10 := (show (0 : Int64).toInt = 0 from rfl); have q11 := rng64 v1; have q12 := congrArg Int64.toInt h_v1; have q13 := f_lmask i1.toInt64 (2147483647 : Int64) 31 2147483648 (by decide) (by decide) (by decide); have q14 := c_i2l i1; have q15 := rng32 i1; have q16 := (show (2147483647 : Int64).toInt = 2147483647 from rfl); have q17 := rng64 v2; have q18 := congrArg Int64.toInt h_v2; have q19 := f_lmask i2.toInt64 (2147483647 : Int64) 31 2147483648 (by decide) (by decide) (by decide); have q20 := c_i2l i2; have q21 := rng32 i2; have q22 := rng64 v3; have q23 := congrArg Int64.toInt h_v3; have q24 := f_lmask i3.toInt64 (2147483647 : Int64) 31 2147483648 (by decide) (by decide) (by decide); have q25 := c_i2l i3; have q26 := rng32 i3; have q27 := rng64 mx; have q28 := c_i2l v1.toInt32; have q29 := c_l2i v1; have q30 := rng32 v1.toInt32; have q31 := c_lsub mx (0 : Int64); have q32 := rng64 (mx - (0 : Int64)); have q33 := (show (0 : Int32).toInt = 0 from rfl); have q34 := c_ladd (0 : Int64) v1.toInt32.toInt64; have q35 := rng64 ((0 : Int64) + v1.toInt32.toInt64); have q36 := c_i2l v2.toInt32; have q37 := c_l2i v2; have q38 := rng32 v2.toInt32; have q39 := c_lsub mx ((0 : Int64) + v1.toInt32.toInt64); have q40 := rng64 (mx - ((0 : Int64) + v1.toInt32.toInt64)); have q41 := c_ladd ((0 : Int64) + v1.toInt32.toInt64) v2.toInt32.toInt64; have q42 := rng64 (((0 : Int64) + v1.toInt32.toInt64) + v2.toInt32.toInt64); have q43 := c_i2l v3.toInt32; have q44 := c_l2i v3; have q45 := rng32 v3.toInt32; have q46 := c_lsub mx (((0 : Int64) + v1.toInt32.toInt64) + v2.toInt32.toInt64); have q47 := rng64 (mx - (((0 : Int64) + v1.toInt32.toInt64) + v2.toInt32.toInt64)); omega) (fun (hc102 : (v91 + v3).toInt ≤ mx.toInt) => ?_)
              refine px_iconst (v := (1 : Int32)) S83 at_300 rfl rfl ?_
              refine px_goto S83 at_301 (by decide) (pc' := 305) rfl ?_
              refine px_istore S83 at_305 rfl (L' := #[.val (.long i0), .second, .val (.int i1), .val (.int i2), .val (.int i3), .val (.int i4), .val (.long v1), .second, .val (.long v2), .second, .val (.long v3), .second, .val (.int v4), .val (.long v5), .second, .val (.long mx), .second, .val (.ref b8), .val (.int (1 : Int32)), .val (.int (0 : Int32)), .val (.int (1 : Int32)), .val (.int (0 : Int32)), .val (.int (1 : Int32)), .val (.int (0 : Int32)), .val (.long v91), .second, .val (.int (0 : Int32)), .val (.int (1 : Int32)), .val (.int (0 : Int32)), .val (.int (1 : Int32)), .val (.int (0 : Int32)), .val (.int (1 : Int32)), .unset]) rfl ?_
              refine px_iload S83 at_307 rfl rfl ?_
              refine px_if0 S83 at_309 (by decide) (pc' := 322) rfl rfl (fun (hc103 : (1 : Int32).toInt = 0) => by exfalso; revert hc103; decide) (fun (hc103 : ¬ (1 : Int32).toInt = 0) => ?_)
              refine px_lload S83 at_312 rfl rfl ?_
              refine px_lload S83 at_314 rfl rfl ?_
              refine px_ladd S83 at_316 rfl ?_
              generalize h_v104 : (v91 + v3) = v104
              refine px_lstore S83 at_317 rfl (L' := #[.val (.long i0), .second, .val (.int i1), .val (.int i2), .val (.int i3), .val (.int i4), .val (.long v1), .second, .val (.long v2), .second, .val (.long v3), .second, .val (.int v4), .val (.long v5), .second, .val (.long mx), .second, .val (.ref b8), .val (.int (1 : Int32)), .val (.int (0 : Int32)), .val (.int (1 : Int32)), .val (.int (0 : Int32)), .val (.int (1 : Int32)), .val (.int (0 : Int32)), .val (.long v104), .second, .val (.int (0 : Int32)), .val (.int (1 : Int32)), .val (.int (0 : Int32)), .val (.int (1 : Int32)), .val (.int (0 : Int32)), .val (.int (1 : Int32)), .unset]) rfl ?_
              refine px_goto S83 at_319 (by decide) (pc' := 325) rfl ?_
              refine px_iload S83 at_325 rfl rfl ?_
              refine px_istore S83 at_327 rfl (L' := #[.val (.long i0), .second, .val (.int i1), .val (.int i2), .val (.int i3), .val (.int i4), .val (.long v1), .second, .val (.long v2), .second, .val (.long v3), .second, .val (.int v4), .val (.long v5), .second, .val (.long mx), .second, .val (.ref b8), .val (.int (1 : Int32)), .val (.int (0 : Int32)), .val (.int (1 : Int32)), .val (.int (0 : Int32)), .val (.int (1 : Int32)), .val (.int (0 : Int32)), .val (.long v104), .second, .val (.int (0 : Int32)), .val (.int (1 : Int32)), .val (.int (0 : Int32)), .val (.int (1 : Int32)), .val (.int (0 : Int32)), .val (.int (1 : Int32)), .val (.int (0 : Int32))]) rfl ?_
              refine px_iload S83 at_329 rfl rfl ?_
              refine px_iload S83 at_331 rfl rfl ?_
              refine px_icmp S83 at_333 (by decide) (pc' := 375) rfl rfl (fun (hc105 : ¬ (1 : Int32).toInt = (1 : Int32).toInt) => absurd rfl hc105) (fun (hc105 : (1 : Int32).toInt = (1 : Int32).toInt) => ?_)
              refine px_iload S83 at_336 rfl rfl ?_
              refine px_iload S83 at_338 rfl rfl ?_
              refine px_icmp S83 at_340 (by decide) (pc' := 375) rfl rfl (fun (hc106 : ¬ (0 : Int32).toInt = (0 : Int32).toInt) => absurd rfl hc106) (fun (hc106 : (0 : Int32).toInt = (0 : Int32).toInt) => ?_)
              refine px_iload S83 at_343 rfl rfl ?_
              refine px_iload S83 at_345 rfl rfl ?_
              refine px_icmp S83 at_347 (by decide) (pc' := 375) rfl rfl (fun (hc107 : ¬ (1 : Int32).toInt = (1 : Int32).toInt) => absurd rfl hc107) (fun (hc107 : (1 : Int32).toInt = (1 : Int32).toInt) => ?_)
              refine px_iload S83 at_350 rfl rfl ?_
              refine px_iload S83 at_352 rfl rfl ?_
              refine px_icmp S83 at_354 (by decide) (pc' := 375) rfl rfl (fun (hc108 : ¬ (0 : Int32).toInt = (0 : Int32).toInt) => absurd rfl hc108) (fun (hc108 : (0 : Int32).toInt = (0 : Int32).toInt) => ?_)
              refine px_iload S83 at_357 rfl rfl ?_
              refine px_iload S83 at_359 rfl rfl ?_
              refine px_icmp S83 at_361 (by decide) (pc' := 375) rfl rfl (fun (hc109 : ¬ (1 : Int32).toInt = (1 : Int32).toInt) => absurd rfl hc109) (fun (hc109 : (1 : Int32).toInt = (1 : Int32).toInt) => ?_)
              refine px_iload S83 at_364 rfl rfl ?_
              refine px_iload S83 at_366 rfl rfl ?_
              refine px_icmp S83 at_368 (by decide) (pc' := 375) rfl rfl (fun (hc110 : ¬ (0 : Int32).toInt = (0 : Int32).toInt) => absurd rfl hc110) (fun (hc110 : (0 : Int32).toInt = (0 : Int32).toInt) => ?_)
              refine px_iconst (v := (1 : Int32)) S83 at_371 rfl rfl ?_
              refine px_goto S83 at_372 (by decide) (pc' := 376) rfl ?_
              exact px_retN (t := .boolean) (z' := (1 : Int32)) S83 at_376 rfl (by simp) rfl (by decide) (by decide) (rfl)
          · refine px_lload S83 at_237 rfl rfl ?_
            refine px_lload S83 at_239 rfl rfl ?_
            refine px_ladd S83 at_241 rfl ?_
            refine px_lload S83 at_242 rfl rfl ?_
            refine px_lif S83 at_244 rfl at_245 (by decide) (pc' := 252) rfl rfl (fun (hc111 : (v87 + v2).toInt > mx.toInt) => by exfalso; have q0 := c_ladd v87 v2; have q1 := rng64 (v87 + v2); have q2 := rng64 v87; have q3 := congrArg Int64.toInt h_v87; have q4 := c_ladd (0 : Int64) v1; have q5 := rng64 ((0 : Int64) + v1); have q6 := (show (0 : Int64).toInt = 0 from rfl); have q7 := rng64 v1; have q8 := congrArg Int64.toInt h_v1; have q9 := f_lmask i1.toInt64 (2147483647 : Int64) 31 2147483648 (by decide) (by decide) (by decide); have q10 := c_i2l i1; have q11 := rng32 i1; have q12 := (show (2147483647 : Int64).toInt = 2147483647 from rfl); have q13 := rng64 v2; have q14 := congrArg Int64.toInt h_v2; have q15 := f_lmask i2.toInt64 (2147483647 : Int64) 31 2147483648 (by decide) (by decide) (by decide); have q16 := c_i2l i2; have q17 := rng32 i2; have q18 := rng64 mx; have q19 := c_i2l v1.toInt32; have q20 := c_l2i v1; have q21 := rng32 v1.toInt32; have q22 := c_lsub mx (0 : Int64); have q23 := rng64 (mx - (0 : Int64)); have q24 := (show (0 : Int32).toInt = 0 from rfl); have q25 := c_ladd (0 : Int64) v1.toInt32.toInt64; have q26 := rng64 ((0 : Int64) + v1.toInt32.toInt64); have q27 := c_i2l v2.toInt32; have q28 := c_l2i v2; have q29 := rng32 v2.toInt32; have q30 := c_lsub mx ((0 : Int64) + v1.toInt32.toInt64); have q31 := rng64 (mx - ((0 : Int64) + v1.toInt32.toInt64)); have q32 := c_ladd ((0 : Int64) + v1.toInt32.toInt64) v2.toInt32.toInt64; have q33 := rng64 (((0 : Int64) + v1.toInt32.toInt64) + v2.toInt32.toInt64); have q34 := c_i2l v3.toInt32; have q35 := c_l2i v3; have q36 := rng32 v3.toInt32; have q37 := rng64 v3; have q38 := congrArg Int64.toInt h_v3; have q39 := f_lmask i3.toInt64 (2147483647 : Int64) 31 2147483648 (by decide) (by decide) (by decide); have q40 := c_i2l i3; have q41 := rng32 i3; have q42 := c_lsub mx (((0 : Int64) + v1.toInt32.toInt64) + v2.toInt32.toInt64); have q43 := rng64 (mx - (((0 : Int64) + v1.toInt32.toInt64) + v2.toInt32.toInt64)); omega) (fun (hc111 : (v87 + v2).toInt ≤ mx.toInt) => ?_)
            refine px_iconst (v := (1 : Int32)) S83 at_248 rfl rfl ?_
            refine px_goto S83 at_249 (by decide) (pc' := 253) rfl ?_
            refine px_istore S83 at_253 rfl (L' := #[.val (.long i0), .second, .val (.int i1), .val (.int i2), .val (.int i3), .val (.int i4), .val (.long v1), .second, .val (.long v2), .second, .val (.long v3), .second, .val (.int v4), .val (.long v5), .second, .val (.long mx), .second, .val (.ref b8), .val (.int (1 : Int32)), .val (.int (0 : Int32)), .val (.int (1 : Int32)), .val (.int (0 : Int32)), .val (.int (1 : Int32)), .val (.int (0 : Int32)), .val (.long v87), .second, .val (.int (0 : Int32)), .val (.int (1 : Int32)), .val (.int (0 : Int32)), .val (.int (1 : Int32)), .unset, .unset, .unset]) rfl ?_
            refine px_iload S83 at_255 rfl rfl ?_
            refine px_if0 S83 at_257 (by decide) (pc' := 270) rfl rfl (fun (hc112 : (1 : Int32).toInt = 0) => by exfalso; revert hc112; decide) (fun (hc112 : ¬ (1 : Int32).toInt = 0) => ?_)
            refine px_lload S83 at_260 rfl rfl ?_
            refine px_lload S83 at_262 rfl rfl ?_
            refine px_ladd S83 at_264 rfl ?_
            generalize h_v113 : (v87 + v2) = v113
            refine px_lstore S83 at_265 rfl (L' := #[.val (.long i0), .second, .val (.int i1), .val (.int i2), .val (.int i3), .val (.int i4), .val (.long v1), .second, .val (.long v2), .second, .val (.long v3), .second, .val (.int v4), .val (.long v5), .second, .val (.long mx), .second, .val (.ref b8), .val (.int (1 : Int32)), .val (.int (0 : Int32)), .val (.int (1 : Int32)), .val (.int (0 : Int32)), .val (.int (1 : Int32)), .val (.int (0 : Int32)), .val (.long v113), .second, .val (.int (0 : Int32)), .val (.int (1 : Int32)), .val (.int (0 : Int32)), .val (.int (1 : Int32)), .unset, .unset, .unset]) rfl ?_
            refine px_goto S83 at_267 (by decide) (pc' := 273) rfl ?_
            refine px_iload S83 at_273 rfl rfl ?_
            refine px_istore S83 at_275 rfl (L' := #[.val (.long i0), .second, .val (.int i1), .val (.int i2), .val (.int i3), .val (.int i4), .val (.long v1), .second, .val (.long v2), .second, .val (.long v3), .second, .val (.int v4), .val (.long v5), .second, .val (.long mx), .second, .val (.ref b8), .val (.int (1 : Int32)), .val (.int (0 : Int32)), .val (.int (1 : Int32)), .val (.int (0 : Int32)), .val (.int (1 : Int32)), .val (.int (0 : Int32)), .val (.long v113), .second, .val (.int (0 : Int32)), .val (.int (1 : Int32)), .val (.int (0 : Int32)), .val (.int (1 : Int32)), .val (.int (0 : Int32)), .unset, .unset]) rfl ?_
            refine px_iload S83 at_277 rfl rfl ?_
            refine px_if0 S83 at_279 (by decide) (pc' := 304) rfl rfl (fun (hc114 : ¬ (0 : Int32).toInt = 0) => by exfalso; revert hc114; decide) (fun (hc114 : (0 : Int32).toInt = 0) => ?_)
            refine px_lload S83 at_282 rfl rfl ?_
            refine px_lconst (v := (0 : Int64)) S83 at_284 rfl rfl ?_
            refine px_lif S83 at_285 rfl at_286 (by decide) (pc' := 300) rfl rfl (fun (hc115 : v113.toInt = (0 : Int64).toInt) => by exfalso; have q0 := rng64 v113; have q1 := congrArg Int64.toInt h_v113; have q2 := c_ladd v87 v2; have q3 := rng64 (v87 + v2); have q4 := rng64 v87; have q5 := congrArg Int64.toInt h_v87; have q6 := c_ladd (0 : Int64) v1; have q7 := rng64 ((0 : Int64) + v1); have q8 := (show (0 : Int64).toInt = 0 from rfl); have q9 := rng64 v1; have q10 := congrArg Int64.toInt h_v1; have q11 := f_lmask i1.toInt64 (2147483647 : Int64) 31 2147483648 (by decide) (by decide) (by decide); have q12 := c_i2l i1; have q13 := rng32 i1; have q14 := (show (2147483647 : Int64).toInt = 2147483647 from rfl); have q15 := rng64 v2; have q16 := congrArg Int64.toInt h_v2; have q17 := f_lmask i2.toInt64 (2147483647 : Int64) 31 2147483648 (by decide) (by decide) (by decide); have q18 := c_i2l i2; have q19 := rng32 i2; have q20 := rng64 mx; have q21 := c_i2l v1.toInt32; have q22 := c_l2i v1; have q23 := rng32 v1.toInt32; have q24 := c_lsub mx (0 : Int64); have q25 := rng64 (mx - (0 : Int64)); have q26 := (show (0 : Int32).toInt = 0 from rfl); have q27 := c_ladd (0 : Int64) v1.toInt32.toInt64; have q28 := rng64 ((0 : Int64) + v1.toInt32.toInt64); have q29 := c_i2l v2.toInt32; have q30 := c_l2i v2; have q31 := rng32 v2.toInt32; have q32 := c_lsub mx ((0 : Int64) + v1.toInt32.toInt64); have q33 := rng64 (mx - ((0 : Int64) + v1.toInt32.toInt64)); have q34 := c_ladd ((0 : Int64) + v1.toInt32.toInt64) v2.toInt32.toInt64; have q35 := rng64 (((0 : Int64) + v1.toInt32.toInt64) + v2.toInt32.toInt64); have q36 := c_i2l v3.toInt32; have q37 := c_l2i v3; have q38 := rng32 v3.toInt32; have q39 := rng64 v3; have q40 := congrArg Int64.toInt h_v3; have q41 := f_lmask i3.toInt64 (2147483647 : Int64) 31 2147483648 (by decide) (by decide) (by decide); have q42 := c_i2l i3; have q43 := rng32 i3; have q44 := c_lsub mx (((0 : Int64) + v1.toInt32.toInt64) + v2.toInt32.toInt64); have q45 := rng64 (mx - (((0 : Int64) + v1.toInt32.toInt64) + v2.toInt32.toInt64)); omega) (fun (hc115 : ¬ v113.toInt = (0 : Int64).toInt) => ?_)
            refine px_lload S83 at_289 rfl rfl ?_
            refine px_lload S83 at_291 rfl rfl ?_
            refine px_ladd S83 at_293 rfl ?_
            refine px_lload S83 at_294 rfl rfl ?_
            refine px_lif S83 at_296 rfl at_297 (by decide) (pc' := 304) rfl rfl (fun (hc116 : (v113 + v3).toInt > mx.toInt) => by exfalso; have q0 := c_ladd v113 v3; have q1 := rng64 (v113 + v3); have q2 := rng64 v113; have q3 := congrArg Int64.toInt h_v113; have q4 := c_ladd v87 v2; have q5 := rng64 (v87 + v2); have q6 := rng64 v87; have q7 := congrArg Int64.toInt h_v87; have q8 := c_ladd (0 : Int64) v1; have q9 := rng64 ((0 : Int64) + v1); have q10 := (show (0 : Int64).toInt = 0 from rfl); have q11 := rng64 v1; have q12 := congrArg Int64.toInt h_v1; have q13 := f_lmask i1.toInt64 (2147483647 : Int64) 31 2147483648 (by decide) (by decide) (by decide); have q14 := c_i2l i1; have q15 := rng32 i1; have q16 := (show (2147483647 : Int64).toInt = 2147483647 from rfl); have q17 := rng64 v2; have q18 := congrArg Int64.toInt h_v2; have q19 := f_lmask i2.toInt64 (2147483647 : Int64) 31 2147483648 (by decide) (by decide) (by decide); have q20 := c_i2l i2; have q21 := rng32 i2; have q22 := rng64 v3; have q23 := congrArg Int64.toInt h_v3; have q24 := f_lmask i3.toInt64 (2147483647 : Int64) 31 2147483648 (by decide) (by decide) (by decide); have q25 := c_i2l i3; have q26 := rng32 i3; have q27 := rng64 mx; have q28 := c_i2l v1.toInt32; have q29 := c_l2i v1; have q30 := rng32 v1.toInt32; have q31 := c_lsub mx (0 : Int64); have q32 := rng64 (mx - (0 : Int64)); have q33 := (show (0 : Int32).toInt = 0 from rfl); have q34 := c_ladd (0 : Int64) v1.toInt32.toInt64; have q35 := rng64 ((0 : Int64) + v1.toInt32.toInt64); have q36 := c_i2l v2.toInt32; have q37 := c_l2i v2; have q38 := rng32 v2.toInt32; have q39 := c_lsub mx ((0 : Int64) + v1.toInt32.toInt64); have q40 := rng64 (mx - ((0 : Int64) + v1.toInt32.toInt64)); have q41 := c_ladd ((0 : Int64) + v1.toInt32.toInt64) v2.toInt32.toInt64; have q42 := rng64 (((0 : Int64) + v1.toInt32.toInt64) + v2.toInt32.toInt64); have q43 := c_i2l v3.toInt32; have q44 := c_l2i v3; have q45 := rng32 v3.toInt32; have q46 := c_lsub mx (((0 : Int64) + v1.toInt32.toInt64) + v2.toInt32.toInt64); have q47 := rng64 (mx - (((0 : Int64) + v1.toInt32.toInt64) + v2.toInt32.toInt64)); omega) (fun (hc116 : (v113 + v3).toInt ≤ mx.toInt) => ?_)
            refine px_iconst (v := (1 : Int32)) S83 at_300 rfl rfl ?_
            refine px_goto S83 at_301 (by decide) (pc' := 305) rfl ?_
            refine px_istore S83 at_305 rfl (L' := #[.val (.long i0), .second, .val (.int i1), .val (.int i2), .val (.int i3), .val (.int i4), .val (.long v1), .second, .val (.long v2), .second, .val (.long v3), .second, .val (.int v4), .val (.long v5), .second, .val (.long mx), .second, .val (.ref b8), .val (.int (1 : Int32)), .val (.int (0 : Int32)), .val (.int (1 : Int32)), .val (.int (0 : Int32)), .val (.int (1 : Int32)), .val (.int (0 : Int32)), .val (.long v113), .second, .val (.int (0 : Int32)), .val (.int (1 : Int32)), .val (.int (0 : Int32)), .val (.int (1 : Int32)), .val (.int (0 : Int32)), .val (.int (1 : Int32)), .unset]) rfl ?_
            refine px_iload S83 at_307 rfl rfl ?_
            refine px_if0 S83 at_309 (by decide) (pc' := 322) rfl rfl (fun (hc117 : (1 : Int32).toInt = 0) => by exfalso; revert hc117; decide) (fun (hc117 : ¬ (1 : Int32).toInt = 0) => ?_)
            refine px_lload S83 at_312 rfl rfl ?_
            refine px_lload S83 at_314 rfl rfl ?_
            refine px_ladd S83 at_316 rfl ?_
            generalize h_v118 : (v113 + v3) = v118
            refine px_lstore S83 at_317 rfl (L' := #[.val (.long i0), .second, .val (.int i1), .val (.int i2), .val (.int i3), .val (.int i4), .val (.long v1), .second, .val (.long v2), .second, .val (.long v3), .second, .val (.int v4), .val (.long v5), .second, .val (.long mx), .second, .val (.ref b8), .val (.int (1 : Int32)), .val (.int (0 : Int32)), .val (.int (1 : Int32)), .val (.int (0 : Int32)), .val (.int (1 : Int32)), .val (.int (0 : Int32)), .val (.long v118), .second, .val (.int (0 : Int32)), .val (.int (1 : Int32)), .val (.int (0 : Int32)), .val (.int (1 : Int32)), .val (.int (0 : Int32)), .val (.int (1 : Int32)), .unset]) rfl ?_
            refine px_goto S83 at_319 (by decide) (pc' := 325) rfl ?_
            refine px_iload S83 at_325 rfl rfl ?_
            refine px_istore S83 at_327 rfl (L' := #[.val (.long i0), .second, .val (.int i1), .val (.int i2), .val (.int i3), .val (.int i4), .val (.long v1), .second, .val (.long v2), .second, .val (.long v3), .second, .val (.int v4), .val (.long v5), .second, .val (.long mx), .second, .val (.ref b8), .val (.int (1 : Int32)), .val (.int (0 : Int32)), .val (.int (1 : Int32)), .val (.int (0 : Int32)), .val (.int (1 : Int32)), .val (.int (0 : Int32)), .val (.long v118), .second, .val (.int (0 : Int32)), .val (.int (1 : Int32)), .val (.int (0 : Int32)), .val (.int (1 : Int32)), .val (.int (0 : Int32)), .val (.int (1 : Int32)), .val (.int (0 : Int32))]) rfl ?_
            refine px_iload S83 at_329 rfl rfl ?_
            refine px_iload S83 at_331 rfl rfl ?_
            refine px_icmp S83 at_333 (by decide) (pc' := 375) rfl rfl (fun (hc119 : ¬ (1 : Int32).toInt = (1 : Int32).toInt) => absurd rfl hc119) (fun (hc119 : (1 : Int32).toInt = (1 : Int32).toInt) => ?_)
            refine px_iload S83 at_336 rfl rfl ?_
            refine px_iload S83 at_338 rfl rfl ?_
            refine px_icmp S83 at_340 (by decide) (pc' := 375) rfl rfl (fun (hc120 : ¬ (0 : Int32).toInt = (0 : Int32).toInt) => absurd rfl hc120) (fun (hc120 : (0 : Int32).toInt = (0 : Int32).toInt) => ?_)
            refine px_iload S83 at_343 rfl rfl ?_
            refine px_iload S83 at_345 rfl rfl ?_
            refine px_icmp S83 at_347 (by decide) (pc' := 375) rfl rfl (fun (hc121 : ¬ (1 : Int32).toInt = (1 : Int32).toInt) => absurd rfl hc121) (fun (hc121 : (1 : Int32).toInt = (1 : Int32).toInt) => ?_)
            refine px_iload S83 at_350 rfl rfl ?_
            refine px_iload S83 at_352 rfl rfl ?_
            refine px_icmp S83 at_354 (by decide) (pc' := 375) rfl rfl (fun (hc122 : ¬ (0 : Int32).toInt = (0 : Int32).toInt) => absurd rfl hc122) (fun (hc122 : (0 : Int32).toInt = (0 : Int32).toInt) => ?_)
            refine px_iload S83 at_357 rfl rfl ?_
            refine px_iload S83 at_359 rfl rfl ?_
            refine px_icmp S83 at_361 (by decide) (pc' := 375) rfl rfl (fun (hc123 : ¬ (1 : Int32).toInt = (1 : Int32).toInt) => absurd rfl hc123) (fun (hc123 : (1 : Int32).toInt = (1 : Int32).toInt) => ?_)
            refine px_iload S83 at_364 rfl rfl ?_
            refine px_iload S83 at_366 rfl rfl ?_
            refine px_icmp S83 at_368 (by decide) (pc' := 375) rfl rfl (fun (hc124 : ¬ (0 : Int32).toInt = (0 : Int32).toInt) => absurd rfl hc124) (fun (hc124 : (0 : Int32).toInt = (0 : Int32).toInt) => ?_)
            refine px_iconst (v := (1 : Int32)) S83 at_371 rfl rfl ?_
            refine px_goto S83 at_372 (by decide) (pc' := 376) rfl ?_
            exact px_retN (t := .boolean) (z' := (1 : Int32)) S83 at_376 rfl (by simp) rfl (by decide) (by decide) (rfl)
        · show Go _ _ _ _ _ _ _ [(.int (0 : Int32))]
          exfalso; have q0 := rng64 mx; have q1 := (show (0 : Int64).toInt = 0 from rfl); have q2 := c_i2l v1.toInt32; have q3 := c_l2i v1; have q4 := rng32 v1.toInt32; have q5 := rng64 v1; have q6 := congrArg Int64.toInt h_v1; have q7 := f_lmask i1.toInt64 (2147483647 : Int64) 31 2147483648 (by decide) (by decide) (by decide); have q8 := c_i2l i1; have q9 := rng32 i1; have q10 := (show (2147483647 : Int64).toInt = 2147483647 from rfl); have q11 := c_lsub mx (0 : Int64); have q12 := rng64 (mx - (0 : Int64)); have q13 := (show (0 : Int32).toInt = 0 from rfl); have q14 := c_ladd (0 : Int64) v1.toInt32.toInt64; have q15 := rng64 ((0 : Int64) + v1.toInt32.toInt64); have q16 := c_i2l v2.toInt32; have q17 := c_l2i v2; have q18 := rng32 v2.toInt32; have q19 := rng64 v2; have q20 := congrArg Int64.toInt h_v2; have q21 := f_lmask i2.toInt64 (2147483647 : Int64) 31 2147483648 (by decide) (by decide) (by decide); have q22 := c_i2l i2; have q23 := rng32 i2; have q24 := c_lsub mx ((0 : Int64) + v1.toInt32.toInt64); have q25 := rng64 (mx - ((0 : Int64) + v1.toInt32.toInt64)); have q26 := c_ladd ((0 : Int64) + v1.toInt32.toInt64) v2.toInt32.toInt64; have q27 := rng64 (((0 : Int64) + v1.toInt32.toInt64) + v2.toInt32.toInt64); have q28 := c_i2l v3.toInt32; have q29 := c_l2i v3; have q30 := rng32 v3.toInt32; have q31 := rng64 v3; have q32 := congrArg Int64.toInt h_v3; have q33 := f_lmask i3.toInt64 (2147483647 : Int64) 31 2147483648 (by decide) (by decide) (by decide); have q34 := c_i2l i3; have q35 := rng32 i3; have q36 := c_lsub mx (((0 : Int64) + v1.toInt32.toInt64) + v2.toInt32.toInt64); have q37 := rng64 (mx - (((0 : Int64) + v1.toInt32.toInt64) + v2.toInt32.toInt64)); omega
      · show Go _ _ _ _ _ _ _ [(.int (0 : Int32))]
        exfalso; have q0 := rng64 mx; have q1 := (show (0 : Int64).toInt = 0 from rfl); have q2 := c_i2l v1.toInt32; have q3 := c_l2i v1; have q4 := rng32 v1.toInt32; have q5 := rng64 v1; have q6 := congrArg Int64.toInt h_v1; have q7 := f_lmask i1.toInt64 (2147483647 : Int64) 31 2147483648 (by decide) (by decide) (by decide); have q8 := c_i2l i1; have q9 := rng32 i1; have q10 := (show (2147483647 : Int64).toInt = 2147483647 from rfl); have q11 := c_lsub mx (0 : Int64); have q12 := rng64 (mx - (0 : Int64)); have q13 := (show (0 : Int32).toInt = 0 from rfl); have q14 := c_ladd (0 : Int64) v1.toInt32.toInt64; have q15 := rng64 ((0 : Int64) + v1.toInt32.toInt64); have q16 := c_i2l v2.toInt32; have q17 := c_l2i v2; have q18 := rng32 v2.toInt32; have q19 := rng64 v2; have q20 := congrArg Int64.toInt h_v2; have q21 := f_lmask i2.toInt64 (2147483647 : Int64) 31 2147483648 (by decide) (by decide) (by decide); have q22 := c_i2l i2; have q23 := rng32 i2; have q24 := c_lsub mx ((0 : Int64) + v1.toInt32.toInt64); have q25 := rng64 (mx - ((0 : Int64) + v1.toInt32.toInt64)); omega
    · show Go _ _ _ _ _ _ _ [(.int (0 : Int32))]
      exfalso; have q0 := rng64 mx; have q1 := (show (0 : Int64).toInt = 0 from rfl); have q2 := c_i2l v1.toInt32; have q3 := c_l2i v1; have q4 := rng32 v1.toInt32; have q5 := rng64 v1; have q6 := congrArg Int64.toInt h_v1; have q7 := f_lmask i1.toInt64 (2147483647 : Int64) 31 2147483648 (by decide) (by decide) (by decide); have q8 := c_i2l i1; have q9 := rng32 i1; have q10 := (show (2147483647 : Int64).toInt = 2147483647 from rfl); have q11 := c_lsub mx (0 : Int64); have q12 := rng64 (mx - (0 : Int64)); have q13 := (show (0 : Int32).toInt = 0 from rfl); omega
  · refine px_iload S0 at_40 rfl rfl ?_
    refine px_if0 S0 at_42 (by decide) (pc' := 55) rfl rfl (fun (hc125 : ¬ v4.toInt = 0) => ?_) (fun (hc125 : v4.toInt = 0) => ?_)
    · refine px_iload S0 at_55 rfl rfl ?_
      refine px_iconst (v := (1 : Int32)) S0 at_57 rfl rfl ?_
      refine px_icmp S0 at_58 (by decide) (pc' := 71) rfl rfl (fun (hc126 : ¬ v4.toInt = (1 : Int32).toInt) => ?_) (fun (hc126 : v4.toInt = (1 : Int32).toInt) => ?_)
      · refine px_iload S0 at_71 rfl rfl ?_
        refine px_iconst (v := (2 : Int32)) S0 at_73 rfl rfl ?_
        refine px_icmp S0 at_74 (by decide) (pc' := 94) rfl rfl (fun (hc127 : ¬ v4.toInt = (2 : Int32).toInt) => ?_) (fun (hc127 : v4.toInt = (2 : Int32).toInt) => ?_)
        · refine px_lconst (v := (0 : Int64)) S0 at_94 rfl rfl ?_
          refine px_lload S0 at_95 rfl rfl ?_
          refine px_lload S0 at_97 rfl rfl ?_
          refine px_ladd S0 at_99 rfl ?_
          refine px_callS (as' := [(.long (0 : Int64)), (.long (v1 + v5))]) (st := []) (W := 0) S0 (c_max hw S0.size) (hw _ (List.mem_of_getElem? (i := 2) rfl)) (hw _ (List.mem_of_getElem? (i := 3) rfl)) (hw _ (List.mem_of_getElem? (i := 4) rfl)) (hw _ (List.mem_of_getElem? (i := 5) rfl)) (by decide) pd_0_3 rfl rfl (by decide) rfl (by decide) (by decide) (by decide) at_100 rfl rfl (fun T128 h128 v128 S128 q128 => ?_)
          obtain ⟨rfl, q128⟩ := q128
          rcases q128 with ⟨rfl, k128⟩ | ⟨rfl, k128⟩
          · show Go _ _ _ _ _ _ _ [(.long (0 : Int64))]
            refine px_lstore S128 at_103 rfl (L' := #[.val (.long i0), .second, .val (.int i1), .val (.int i2), .val (.int i3), .val (.int i4), .val (.long v1), .second, .val (.long v2), .second, .val (.long v3), .second, .val (.int v4), .val (.long v5), .second, .val (.long (0 : Int64)), .second, .unset, .unset, .unset, .unset, .unset, .unset, .unset, .unset, .unset, .unset, .unset, .unset, .unset, .unset, .unset, .unset]) rfl ?_
            exact J6 _ _ S128 (show 0 ≤ (0 : Int64).toInt from by have q0 := (show (0 : Int64).toInt = 0 from rfl); have q1 := rng32 v4; have q2 := congrArg Int32.toInt h_v4; have q3 := f_imask i4 (3 : Int32) 2 4 (by decide) (by decide) (by decide); have q4 := rng32 i4; have q5 := (show (3 : Int32).toInt = 3 from rfl); have q6 := (show (1 : Int32).toInt = 1 from rfl); have q7 := (show (2 : Int32).toInt = 2 from rfl); have q8 := c_ladd v1 v5; have q9 := rng64 (v1 + v5); have q10 := rng64 v1; have q11 := congrArg Int64.toInt h_v1; have q12 := f_lmask i1.toInt64 (2147483647 : Int64) 31 2147483648 (by decide) (by decide) (by decide); have q13 := c_i2l i1; have q14 := rng32 i1; have q15 := (show (2147483647 : Int64).toInt = 2147483647 from rfl); have q16 := rng64 v5; have q17 := congrArg Int64.toInt h_v5; have q18 := c_lsub (i0 &&& (3 : Int64)) (1 : Int64); have q19 := rng64 ((i0 &&& (3 : Int64)) - (1 : Int64)); have q20 := f_lmask i0 (3 : Int64) 2 4 (by decide) (by decide) (by decide); have q21 := rng64 i0; have q22 := (show (3 : Int64).toInt = 3 from rfl); have q23 := (show (1 : Int64).toInt = 1 from rfl); omega)
          · show Go _ _ _ _ _ _ _ [(.long (v1 + v5))]
            generalize h_v129 : (v1 + v5) = v129
            refine px_lstore S128 at_103 rfl (L' := #[.val (.long i0), .second, .val (.int i1), .val (.int i2), .val (.int i3), .val (.int i4), .val (.long v1), .second, .val (.long v2), .second, .val (.long v3), .second, .val (.int v4), .val (.long v5), .second, .val (.long v129), .second, .unset, .unset, .unset, .unset, .unset, .unset, .unset, .unset, .unset, .unset, .unset, .unset, .unset, .unset, .unset, .unset]) rfl ?_
            exact J6 _ _ S128 (show 0 ≤ v129.toInt from by have q0 := rng64 v129; have q1 := congrArg Int64.toInt h_v129; have q2 := c_ladd v1 v5; have q3 := rng64 (v1 + v5); have q4 := rng64 v1; have q5 := congrArg Int64.toInt h_v1; have q6 := f_lmask i1.toInt64 (2147483647 : Int64) 31 2147483648 (by decide) (by decide) (by decide); have q7 := c_i2l i1; have q8 := rng32 i1; have q9 := (show (2147483647 : Int64).toInt = 2147483647 from rfl); have q10 := rng64 v5; have q11 := congrArg Int64.toInt h_v5; have q12 := c_lsub (i0 &&& (3 : Int64)) (1 : Int64); have q13 := rng64 ((i0 &&& (3 : Int64)) - (1 : Int64)); have q14 := f_lmask i0 (3 : Int64) 2 4 (by decide) (by decide) (by decide); have q15 := rng64 i0; have q16 := (show (3 : Int64).toInt = 3 from rfl); have q17 := (show (1 : Int64).toInt = 1 from rfl); have q18 := rng32 v4; have q19 := congrArg Int32.toInt h_v4; have q20 := f_imask i4 (3 : Int32) 2 4 (by decide) (by decide) (by decide); have q21 := rng32 i4; have q22 := (show (3 : Int32).toInt = 3 from rfl); have q23 := (show (1 : Int32).toInt = 1 from rfl); have q24 := (show (2 : Int32).toInt = 2 from rfl); have q25 := (show (0 : Int64).toInt = 0 from rfl); omega)
        · refine px_lconst (v := (0 : Int64)) S0 at_77 rfl rfl ?_
          refine px_lload S0 at_78 rfl rfl ?_
          refine px_lload S0 at_80 rfl rfl ?_
          refine px_ladd S0 at_82 rfl ?_
          refine px_lload S0 at_83 rfl rfl ?_
          refine px_ladd S0 at_85 rfl ?_
          refine px_callS (as' := [(.long (0 : Int64)), (.long ((v1 + v2) + v5))]) (st := []) (W := 0) S0 (c_max hw S0.size) (hw _ (List.mem_of_getElem? (i := 2) rfl)) (hw _ (List.mem_of_getElem? (i := 3) rfl)) (hw _ (List.mem_of_getElem? (i := 4) rfl)) (hw _ (List.mem_of_getElem? (i := 5) rfl)) (by decide) pd_0_3 rfl rfl (by decide) rfl (by decide) (by decide) (by decide) at_86 rfl rfl (fun T130 h130 v130 S130 q130 => ?_)
          obtain ⟨rfl, q130⟩ := q130
          rcases q130 with ⟨rfl, k130⟩ | ⟨rfl, k130⟩
          · show Go _ _ _ _ _ _ _ [(.long (0 : Int64))]
            refine px_lstore S130 at_89 rfl (L' := #[.val (.long i0), .second, .val (.int i1), .val (.int i2), .val (.int i3), .val (.int i4), .val (.long v1), .second, .val (.long v2), .second, .val (.long v3), .second, .val (.int v4), .val (.long v5), .second, .val (.long (0 : Int64)), .second, .unset, .unset, .unset, .unset, .unset, .unset, .unset, .unset, .unset, .unset, .unset, .unset, .unset, .unset, .unset, .unset]) rfl ?_
            refine px_goto S130 at_91 (by decide) (pc' := 105) rfl ?_
            exact J6 _ _ S130 (show 0 ≤ (0 : Int64).toInt from by have q0 := (show (0 : Int64).toInt = 0 from rfl); have q1 := rng32 v4; have q2 := congrArg Int32.toInt h_v4; have q3 := f_imask i4 (3 : Int32) 2 4 (by decide) (by decide) (by decide); have q4 := rng32 i4; have q5 := (show (3 : Int32).toInt = 3 from rfl); have q6 := (show (1 : Int32).toInt = 1 from rfl); have q7 := (show (2 : Int32).toInt = 2 from rfl); have q8 := c_ladd (v1 + v2) v5; have q9 := rng64 ((v1 + v2) + v5); have q10 := c_ladd v1 v2; have q11 := rng64 (v1 + v2); have q12 := rng64 v1; have q13 := congrArg Int64.toInt h_v1; have q14 := f_lmask i1.toInt64 (2147483647 : Int64) 31 2147483648 (by decide) (by decide) (by decide); have q15 := c_i2l i1; have q16 := rng32 i1; have q17 := (show (2147483647 : Int64).toInt = 2147483647 from rfl); have q18 := rng64 v2; have q19 := congrArg Int64.toInt h_v2; have q20 := f_lmask i2.toInt64 (2147483647 : Int64) 31 2147483648 (by decide) (by decide) (by decide); have q21 := c_i2l i2; have q22 := rng32 i2; have q23 := rng64 v5; have q24 := congrArg Int64.toInt h_v5; have q25 := c_lsub (i0 &&& (3 : Int64)) (1 : Int64); have q26 := rng64 ((i0 &&& (3 : Int64)) - (1 : Int64)); have q27 := f_lmask i0 (3 : Int64) 2 4 (by decide) (by decide) (by decide); have q28 := rng64 i0; have q29 := (show (3 : Int64).toInt = 3 from rfl); have q30 := (show (1 : Int64).toInt = 1 from rfl); omega)
          · show Go _ _ _ _ _ _ _ [(.long ((v1 + v2) + v5))]
            generalize h_v131 : ((v1 + v2) + v5) = v131
            refine px_lstore S130 at_89 rfl (L' := #[.val (.long i0), .second, .val (.int i1), .val (.int i2), .val (.int i3), .val (.int i4), .val (.long v1), .second, .val (.long v2), .second, .val (.long v3), .second, .val (.int v4), .val (.long v5), .second, .val (.long v131), .second, .unset, .unset, .unset, .unset, .unset, .unset, .unset, .unset, .unset, .unset, .unset, .unset, .unset, .unset, .unset, .unset]) rfl ?_
            refine px_goto S130 at_91 (by decide) (pc' := 105) rfl ?_
            exact J6 _ _ S130 (show 0 ≤ v131.toInt from by have q0 := rng64 v131; have q1 := congrArg Int64.toInt h_v131; have q2 := c_ladd (v1 + v2) v5; have q3 := rng64 ((v1 + v2) + v5); have q4 := c_ladd v1 v2; have q5 := rng64 (v1 + v2); have q6 := rng64 v1; have q7 := congrArg Int64.toInt h_v1; have q8 := f_lmask i1.toInt64 (2147483647 : Int64) 31 2147483648 (by decide) (by decide) (by decide); have q9 := c_i2l i1; have q10 := rng32 i1; have q11 := (show (2147483647 : Int64).toInt = 2147483647 from rfl); have q12 := rng64 v2; have q13 := congrArg Int64.toInt h_v2; have q14 := f_lmask i2.toInt64 (2147483647 : Int64) 31 2147483648 (by decide) (by decide) (by decide); have q15 := c_i2l i2; have q16 := rng32 i2; have q17 := rng64 v5; have q18 := congrArg Int64.toInt h_v5; have q19 := c_lsub (i0 &&& (3 : Int64)) (1 : Int64); have q20 := rng64 ((i0 &&& (3 : Int64)) - (1 : Int64)); have q21 := f_lmask i0 (3 : Int64) 2 4 (by decide) (by decide) (by decide); have q22 := rng64 i0; have q23 := (show (3 : Int64).toInt = 3 from rfl); have q24 := (show (1 : Int64).toInt = 1 from rfl); have q25 := rng32 v4; have q26 := congrArg Int32.toInt h_v4; have q27 := f_imask i4 (3 : Int32) 2 4 (by decide) (by decide) (by decide); have q28 := rng32 i4; have q29 := (show (3 : Int32).toInt = 3 from rfl); have q30 := (show (1 : Int32).toInt = 1 from rfl); have q31 := (show (2 : Int32).toInt = 2 from rfl); have q32 := (show (0 : Int64).toInt = 0 from rfl); omega)
      · refine px_lloadN S0 at_61 rfl rfl ?_
        refine px_ldc2 S0 (hw _ (List.mem_of_getElem? (i := 31) rfl)) at_62 rfl ?_
        refine px_land S0 at_65 rfl ?_
        generalize h_v132 : (i0 &&& (8589934591 : Int64)) = v132
        refine px_lstore S0 at_66 rfl (L' := #[.val (.long i0), .second, .val (.int i1), .val (.int i2), .val (.int i3), .val (.int i4), .val (.long v1), .second, .val (.long v2), .second, .val (.long v3), .second, .val (.int v4), .val (.long v5), .second, .val (.long v132), .second, .unset, .unset, .unset, .unset, .unset, .unset, .unset, .unset, .unset, .unset, .unset, .unset, .unset, .unset, .unset, .unset]) rfl ?_
        refine px_goto S0 at_68 (by decide) (pc' := 105) rfl ?_
        exact J6 _ _ S0 (show 0 ≤ v132.toInt from by have q0 := rng64 v132; have q1 := congrArg Int64.toInt h_v132; have q2 := f_lmask i0 (8589934591 : Int64) 33 8589934592 (by decide) (by decide) (by decide); have q3 := rng64 i0; have q4 := (show (8589934591 : Int64).toInt = 8589934591 from rfl); have q5 := rng32 v4; have q6 := congrArg Int32.toInt h_v4; have q7 := f_imask i4 (3 : Int32) 2 4 (by decide) (by decide) (by decide); have q8 := rng32 i4; have q9 := (show (3 : Int32).toInt = 3 from rfl); have q10 := (show (1 : Int32).toInt = 1 from rfl); omega)
    · refine px_lloadN S0 at_45 rfl rfl ?_
      refine px_ldc2 S0 (hw _ (List.mem_of_getElem? (i := 32) rfl)) at_46 rfl ?_
      refine px_land S0 at_49 rfl ?_
      generalize h_v133 : (i0 &&& (9223372036854775807 : Int64)) = v133
      refine px_lstore S0 at_50 rfl (L' := #[.val (.long i0), .second, .val (.int i1), .val (.int i2), .val (.int i3), .val (.int i4), .val (.long v1), .second, .val (.long v2), .second, .val (.long v3), .second, .val (.int v4), .val (.long v5), .second, .val (.long v133), .second, .unset, .unset, .unset, .unset, .unset, .unset, .unset, .unset, .unset, .unset, .unset, .unset, .unset, .unset, .unset, .unset]) rfl ?_
      refine px_goto S0 at_52 (by decide) (pc' := 105) rfl ?_
      exact J6 _ _ S0 (show 0 ≤ v133.toInt from by have q0 := rng64 v133; have q1 := congrArg Int64.toInt h_v133; have q2 := f_lmask i0 (9223372036854775807 : Int64) 63 9223372036854775808 (by decide) (by decide) (by decide); have q3 := rng64 i0; have q4 := (show (9223372036854775807 : Int64).toInt = 9223372036854775807 from rfl); have q5 := rng32 v4; have q6 := congrArg Int32.toInt h_v4; have q7 := f_imask i4 (3 : Int32) 2 4 (by decide) (by decide) (by decide); have q8 := rng32 i4; have q9 := (show (3 : Int32).toInt = 3 from rfl); omega)
set_option maxRecDepth 65536 in
set_option maxHeartbeats 40000000 in
theorem comes_1 {Post : Tables → Env → Array Value → State → Outcome → State → Prop} (hpost : ∀ tb e args s v u, (limb_1_1.after args s (.returned v) u = true ∧ limb_1_2.after args s (.returned v) u = true ∧ True) → FrameEnd s (.returned v) u (Jvm.fieldLocs frame_1_writes args s ++ Jvm.arrayLocs frame_1_arrays args s ++ Jvm.staticLocs frame_1_statics s) 16 128 → Post tb e args s (.returned v) u) :
    ArmFor flags0 classFile x code maxLocals ret World_1 tables_1 room_1 Calls_1 rest_1 Pre_1 Post := by
  intro l hfl _ _ p e ha hc hk s m args below hf hA hF happ hP
  obtain ⟨hcalls, hrest, hpre⟩ := hP
  obtain ⟨-, -, -, hnamed, -, -, -, hat⟩ := (Spec.applies_iff hf).mp happ
  obtain ⟨hg, hn⟩ := and_e (Cond.before_iff.mp (show (Jvm.Cond.and given_1 narrow_1).before args s = true from hpre))
  obtain ⟨hcount, hg0⟩ := and_e hg
  obtain ⟨ha0, hg1⟩ := and_e hg0
  obtain ⟨ha1, hg2⟩ := and_e hg1
  obtain ⟨ha2, hg3⟩ := and_e hg2
  obtain ⟨ha3, hg4⟩ := and_e hg3
  obtain ⟨w0, w1, w2, w3, w4, rfl⟩ : ∃ w0 w1 w2 w3 w4 : Value, args = #[w0, w1, w2, w3, w4] := by
    have hs : args.size = 5 := by simpa [Cond.value, given_1] using hcount
    obtain ⟨L⟩ := args
    match L, hs with
    | [w0, w1, w2, w3, w4], _ => exact ⟨w0, w1, w2, w3, w4, rfl⟩
  have hw := fun d (hd : d ∈ tables_1) => atoms_spec (ws := Jvm.Cond.code x code maxLocals ret :: tables_1) hat d (List.mem_cons_of_mem _ hd)
  obtain ⟨i0, ei0⟩ := isL_v ha0
  obtain rfl : w0 = (.long i0) := Option.some.inj ei0
  obtain ⟨i1, ei1⟩ := is_v ha1
  obtain rfl : w1 = (.int i1) := Option.some.inj ei1
  obtain ⟨i2, ei2⟩ := is_v ha2
  obtain rfl : w2 = (.int i2) := Option.some.inj ei2
  obtain ⟨i3, ei3⟩ := is_v ha3
  obtain rfl : w3 = (.int i3) := Option.some.inj ei3
  obtain ⟨i4, ei4⟩ := is_v hg4
  obtain rfl : w4 = (.int i4) := Option.some.inj ei4
  obtain ⟨n, o, h1, h2, h3, _, L, rfl, ⟨rfl, N⟩, hq⟩ := law_ctr (Z := s) hw i0 i1 i2 i3 i4 (Nat.le_refl _) l tables_1 p e ha hc hk s m _ below hf ((Spec.applies_iff_loose hf).mp happ).1 ⟨rfl, State.Warmed39.refl s, rfl⟩ trivial
  refine ⟨n, _, h1, h2, h3, hpost _ _ _ _ _ _ ⟨Cond.after_iff.mpr rfl, Cond.after_iff.mpr (eq_i res_at (Term.int_eval (1)) rfl), trivial⟩ ⟨hq.1, hq.2.1, (hq.2.2.sift fun y hy => Or.inr (N y hy)).mono (by decide) (by decide)⟩⟩
theorem main_1_1 : Claimed_1_1 := comes_1 fun _ _ _ _ _ _ h hF => ⟨h.1, hF⟩
theorem main_1_2 : Claimed_1_2 := comes_1 fun _ _ _ _ _ _ h hF => ⟨h.2.1, hF⟩
end Jvm.Pilot.@@N@@
namespace Jvm.Pilot.@@N@@
open Jvm Jvm.ClassFile Sem Op Lib Jvm.Free Jvm.Stand Jvm.Pilot.@@N@@.Jvm.D
/-! MADE BY PROGRAM (witnessworld.py) out of the Statement's table words and the real class files: 10 classes; the members and pool entries that the words name. The judged class is class 1, her method 1. -/
namespace start1
open Jvm.ClassFile
def u (s : String) : CpInfo := .utf8 (stringToUtf16 s)
/-- a pool by its gaps: so many unusable entries, then the entry; so many at the end -/
def gap : Nat → List CpInfo → List CpInfo
  | 0, r => r
  | n + 1, r => .unusable :: gap n r
def poolList (es : List (Nat × CpInfo)) (last : Nat) : List CpInfo := es.foldr (fun e r => gap e.1 (e.2 :: r)) (gap last [])
def pool (es : List (Nat × CpInfo)) (last : Nat) : Array CpInfo := ⟨poolList es last⟩
def fileOf (pool : Array CpInfo) (this : Nat) (attrs : Array Attribute := #[]) (ms : Array MethodInfo := #[]) (fl : Nat := 33) (sup : Nat := 0) (ifs : Array Nat := #[]) (fds : Array FieldInfo := #[]) : ClassFile where
  minorVersion := 0
  majorVersion := 65
  constantPool := pool
  accessFlags := fl
  thisClass := this
  superClass := sup
  interfaces := ifs
  fields := fds
  methods := ms
  attributes := attrs
def plain (name : String) (sup : Option ClassId) : Class where
  name := name
  kind := .ordinary
  loader := none
  accessFlags := 33
  super := sup
  interfaces := #[]
  cf := none
  fields := #[]
  methods := #[]
  instanceTypes := #[]
  staticTypes := #[]
  resolved := #[]
  callSites := []
  init := .initialized
  statics := none
  mirror := none

def pool0 : Array CpInfo := pool [(5, u "<init>"), (0, u "()V"), (1, .class_ 10), (1, u "java/lang/Object")] 113

def k0c0 : Code := { maxStack := 0, maxLocals := 1, code := object_method_1_code, exceptionTable := #[], attributes := #[] }
def k0m0 : Method := { name := "<init>", desc := "()V", sig := { parameters := [], returnType := none }, accessFlags := 1, code := some k0c0 }
/-- java/lang/Object -/
def k0 : Class := { plain "java/lang/Object" none with
  accessFlags := 33
  interfaces := #[]
  cf := some (fileOf pool0 8 #[] #[{ accessFlags := 1, nameIndex := 5, descriptorIndex := 6, attributes := #[] }] 33 0 #[] #[])
  fields := #[]
  methods := #[k0m0]
  instanceTypes := #[]
  staticTypes := #[]
  resolved := Array.replicate 124 none
  statics := none }

def pool1 : Array CpInfo := pool [(2, .class_ 4), (1, u "java/lang/Object"), (0, u "<init>"), (0, u "()V"), (0, .long 2147483647), (1, .long 3), (3, .long 9223372036854775807), (1, .long 8589934591), (1, .methodref 18 19), (0, .class_ 20), (0, .nameAndType 21 22), (0, u "java/lang/Math"), (0, u "max"), (0, u "(JJ)J"), (0, .class_ 24), (0, u "com/example/striate/striate/segment/ReadBudget"), (0, .methodref 23 26), (0, .nameAndType 5 27), (0, u "(J)V"), (0, .methodref 23 29), (0, .nameAndType 30 31), (0, u "take"), (0, u "(I)Z"), (0, .methodref 23 33), (0, .nameAndType 34 35), (0, u "spent"), (0, u "()Z"), (0, .class_ 37), (0, u "com/example/striate/striate/segment/ReadBudgetTakePinLaw"), (2, u "law"), (0, u "(JIIII)Z")] 3

def k1m0 : Method := { name := "<init>", desc := "()V", sig := { parameters := [], returnType := none }, accessFlags := 1, code := none }
def k1c1 : Code := { maxStack := 6, maxLocals := 33, code := code, exceptionTable := #[], attributes := #[] }
def k1m1 : Method := { name := "law", desc := "(JIIII)Z", sig := { parameters := [.long, .int, .int, .int, .int], returnType := some .boolean }, accessFlags := 9, code := some k1c1 }
/-- com/example/striate/striate/segment/ReadBudgetTakePinLaw -/
def k1 : Class := { plain "com/example/striate/striate/segment/ReadBudgetTakePinLaw" (some 0) with
  accessFlags := 49
  interfaces := #[]
  cf := some (fileOf pool1 36 #[] #[{ accessFlags := 1, nameIndex := 5, descriptorIndex := 6, attributes := #[] }, { accessFlags := 9, nameIndex := 40, descriptorIndex := 41, attributes := #[] }] 49 2 #[] #[])
  fields := #[]
  methods := #[k1m0, k1m1]
  instanceTypes := #[]
  staticTypes := #[]
  resolved := Array.replicate 45 none
  statics := none }

def pool2 : Array CpInfo := pool [(1, .class_ 2), (0, u "java/lang/Math"), (1, .class_ 6), (1, u "java/lang/Object"), (0, u "<init>"), (0, u "()V"), (89, .class_ 100), (1, u "java/lang/Math$RandomNumberGeneratorHolder"), (20, u "(JJ)J"), (50, u "negativeZeroFloatBits"), (0, u "J"), (2, u "negativeZeroDoubleBits"), (21, u "max"), (46, u "$assertionsDisabled"), (0, u "Z"), (91, u "twoToTheDoubleScaleDown"), (0, u "D"), (4, u "twoToTheDoubleScaleUp"), (9, u "E"), (3, u "PI"), (2, u "TAU"), (2, u "DEGREES_TO_RADIANS"), (0, u "RADIANS_TO_DEGREES")] 94

def k2m0 : Method := { name := "<init>", desc := "()V", sig := { parameters := [], returnType := none }, accessFlags := 2, code := none }
def k2c1 : Code := { maxStack := 4, maxLocals := 4, code := jdk_29_method_66_code, exceptionTable := #[], attributes := #[] }
def k2m1 : Method := { name := "max", desc := "(JJ)J", sig := { parameters := [.long, .long], returnType := some .long }, accessFlags := 9, code := some k2c1 }
/-- java/lang/Math -/
def k2 : Class := { plain "java/lang/Math" (some 0) with
  accessFlags := 49
  interfaces := #[]
  cf := some (fileOf pool2 1 #[.nestMembers #[98]] #[{ accessFlags := 2, nameIndex := 7, descriptorIndex := 8, attributes := #[] }, { accessFlags := 9, nameIndex := 198, descriptorIndex := 121, attributes := #[] }] 49 4 #[] #[{ accessFlags := 25, nameIndex := 354, descriptorIndex := 339, attributes := #[] }, { accessFlags := 25, nameIndex := 358, descriptorIndex := 339, attributes := #[] }, { accessFlags := 25, nameIndex := 361, descriptorIndex := 339, attributes := #[] }, { accessFlags := 26, nameIndex := 364, descriptorIndex := 339, attributes := #[] }, { accessFlags := 26, nameIndex := 365, descriptorIndex := 339, attributes := #[] }, { accessFlags := 26, nameIndex := 172, descriptorIndex := 173, attributes := #[] }, { accessFlags := 26, nameIndex := 176, descriptorIndex := 173, attributes := #[] }, { accessFlags := 8, nameIndex := 344, descriptorIndex := 339, attributes := #[] }, { accessFlags := 8, nameIndex := 338, descriptorIndex := 339, attributes := #[] }, { accessFlags := 4120, nameIndex := 245, descriptorIndex := 246, attributes := #[] }])
  fields := #[{ name := "E", type := .double, accessFlags := 25, slot := 0, constantValue := 0 }, { name := "PI", type := .double, accessFlags := 25, slot := 1, constantValue := 0 }, { name := "TAU", type := .double, accessFlags := 25, slot := 2, constantValue := 0 }, { name := "DEGREES_TO_RADIANS", type := .double, accessFlags := 26, slot := 3, constantValue := 0 }, { name := "RADIANS_TO_DEGREES", type := .double, accessFlags := 26, slot := 4, constantValue := 0 }, { name := "negativeZeroFloatBits", type := .long, accessFlags := 26, slot := 5, constantValue := 0 }, { name := "negativeZeroDoubleBits", type := .long, accessFlags := 26, slot := 6, constantValue := 0 }, { name := "twoToTheDoubleScaleUp", type := .double, accessFlags := 8, slot := 7, constantValue := 0 }, { name := "twoToTheDoubleScaleDown", type := .double, accessFlags := 8, slot := 8, constantValue := 0 }, { name := "$assertionsDisabled", type := .boolean, accessFlags := 4120, slot := 9, constantValue := 0 }]
  methods := #[k2m0, k2m1]
  instanceTypes := #[]
  staticTypes := #[.double, .double, .double, .double, .double, .long, .long, .double, .double, .boolean]
  resolved := Array.replicate 460 none
  statics := none }

def pool3 : Array CpInfo := pool [(1, .methodref 2 3), (0, .class_ 4), (0, .nameAndType 5 6), (0, u "java/lang/Object"), (0, u "<init>"), (0, u "()V"), (0, .fieldref 8 9), (0, .class_ 10), (0, .nameAndType 11 12), (0, u "com/example/striate/striate/segment/ReadBudget"), (0, u "maxBytes"), (0, u "J"), (0, .fieldref 8 14), (0, .nameAndType 15 16), (0, u "spent"), (0, u "Z"), (0, .fieldref 8 18), (0, .nameAndType 19 12), (0, u "taken"), (0, u "(J)V"), (2, u "()Z"), (0, u "take"), (0, u "(I)Z")] 3

def k3c0 : Code := { maxStack := 3, maxLocals := 3, code := prog_56_method_1_code, exceptionTable := #[], attributes := #[] }
def k3m0 : Method := { name := "<init>", desc := "(J)V", sig := { parameters := [.long], returnType := none }, accessFlags := 1, code := some k3c0 }
def k3c1 : Code := { maxStack := 1, maxLocals := 1, code := prog_56_method_2_code, exceptionTable := #[], attributes := #[] }
def k3m1 : Method := { name := "spent", desc := "()Z", sig := { parameters := [], returnType := some .boolean }, accessFlags := 1, code := some k3c1 }
def k3c2 : Code := { maxStack := 6, maxLocals := 2, code := prog_56_method_3_code, exceptionTable := #[], attributes := #[] }
def k3m2 : Method := { name := "take", desc := "(I)Z", sig := { parameters := [.int], returnType := some .boolean }, accessFlags := 0, code := some k3c2 }
/-- com/example/striate/striate/segment/ReadBudget -/
def k3 : Class := { plain "com/example/striate/striate/segment/ReadBudget" (some 0) with
  accessFlags := 49
  interfaces := #[]
  cf := some (fileOf pool3 8 #[] #[{ accessFlags := 1, nameIndex := 5, descriptorIndex := 20, attributes := #[] }, { accessFlags := 1, nameIndex := 15, descriptorIndex := 23, attributes := #[] }, { accessFlags := 0, nameIndex := 24, descriptorIndex := 25, attributes := #[] }] 49 2 #[] #[{ accessFlags := 18, nameIndex := 11, descriptorIndex := 12, attributes := #[] }, { accessFlags := 2, nameIndex := 19, descriptorIndex := 12, attributes := #[] }, { accessFlags := 2, nameIndex := 15, descriptorIndex := 16, attributes := #[] }])
  fields := #[{ name := "maxBytes", type := .long, accessFlags := 18, slot := 0, constantValue := 0 }, { name := "taken", type := .long, accessFlags := 2, slot := 1, constantValue := 0 }, { name := "spent", type := .boolean, accessFlags := 2, slot := 2, constantValue := 0 }]
  methods := #[k3m0, k3m1, k3m2]
  instanceTypes := #[.long, .long, .boolean]
  staticTypes := #[]
  resolved := Array.replicate 29 none
  statics := none }

def pool4 : Array CpInfo := pool [(1, u "java/lang/Cloneable"), (0, .class_ 1), (0, u "java/lang/Object"), (0, .class_ 3)] 3

/-- java/lang/Cloneable -/
def k4 : Class := { plain "java/lang/Cloneable" (some 0) with
  accessFlags := 1537
  interfaces := #[]
  cf := some (fileOf pool4 2 #[] #[] 1537 4 #[] #[])
  fields := #[]
  methods := #[]
  instanceTypes := #[]
  staticTypes := #[]
  resolved := Array.replicate 8 none
  statics := none }

def pool5 : Array CpInfo := pool [(1, u "java/io/Serializable"), (0, .class_ 1), (0, u "java/lang/Object"), (0, .class_ 3)] 3

/-- java/io/Serializable -/
def k5 : Class := { plain "java/io/Serializable" (some 0) with
  accessFlags := 1537
  interfaces := #[]
  cf := some (fileOf pool5 2 #[] #[] 1537 4 #[] #[])
  fields := #[]
  methods := #[]
  instanceTypes := #[]
  staticTypes := #[]
  resolved := Array.replicate 8 none
  statics := none }

/-- the primitive byte -/
def k6 : Class := { plain "byte" none with kind := .primitive 'B', accessFlags := 0x411 }
/-- [B -/
def k7 : Class := { plain "[B" (some 0) with kind := .array 6 .byte, interfaces := #[4, 5], accessFlags := 1041 }

/-- the primitive int -/
def k8 : Class := { plain "int" none with kind := .primitive 'I', accessFlags := 0x411 }
/-- [I -/
def k9 : Class := { plain "[I" (some 0) with kind := .array 8 .int, interfaces := #[4, 5], accessFlags := 1041 }

def heap : Heap := #[]
def classes : Array Class := #[k0, k1, k2, k3, k4, k5, k6, k7, k8, k9]
def interned : List (Array UInt16 × Addr) := []
def slotsUsed : Nat := 0
def theMethod : MethodId := ⟨1, 1⟩
def args0 : Array Value := #[.long 5, .int 1, .int 1, .int 9, .int 4]
def aboutOver (below : List Frame) : State where
  vm := { classes := classes, interned := interned.toArray }
  heap := heap
  slotsUsed := slotsUsed
  threads := #[{ frames := .invoking theMethod args0 :: below }]
def below0 : List Frame := [.native { method := ⟨0, 0⟩, args := #[] }]
def about1 : State := aboutOver below0
def p0 : Program := .bare "" "" ""
def e0 : Env := launch0.env 0 0 0
theorem w_frames : about1.frames = Frame.invoking theMethod args0 :: below0 := rfl
set_option maxRecDepth 65536 in
theorem w_args : argsFit about1.vm theMethod args0 = true := by decide +kernel
set_option maxRecDepth 65536 in
theorem w_heap : heapFits about1 = true := by decide +kernel
set_option maxRecDepth 65536 in
theorem w_runnable : about1.curStatus? = some .runnable := by decide +kernel
set_option maxRecDepth 65536 in
theorem w_alone : about1.alone = true := by decide +kernel
set_option maxRecDepth 65536 in
theorem w_named : about1.methodNamed? x = some theMethod := by decide +kernel
set_option maxRecDepth 65536 in
theorem w_hears : about1.hears theMethod below0 = true := by decide +kernel
set_option maxRecDepth 65536 in
theorem w_ripe : about1.ripe theMethod args0 below0 = true := by decide +kernel
theorem w_running : about1.status = .running := rfl
set_option maxRecDepth 65536 in
theorem w_room : about1.hasRoom e0.platform room_1 = true :=
  launch0.hasRoom_least _ room_1 (by decide +kernel) (by decide +kernel) (by decide +kernel) (by decide +kernel) (by decide +kernel) (by decide +kernel)
theorem allAtoms_all (ts : List Jvm.Cond) (a : Array Jvm.Value) (st : Jvm.State) : (allAtoms ts).before a st = ts.all (fun c => c.before a st) := by
  induction ts with
  | nil => rfl
  | cons c t ih =>
    show (Jvm.Cond.and c (allAtoms t)).before a st = _
    rw [Jvm.Cond.before_and, ih, List.all_cons]
def words1 : List Jvm.Cond := Jvm.Cond.code x code maxLocals ret :: tables_1
/-- a 'code' word, met by the world's own term for the bytes: nothing is compared byte by byte -/
theorem code_word {y : MethodName} {bytes : ByteArray} {mx : Nat} {rt : Option FieldType} {a : Array Value} {s : State} {m : MethodId} {meth : Method} {c : Code} (h1 : s.methodNamed? y = some m) (h2 : s.vm.method? m = some meth) (h3 : meth.code = some c) (h4 : c.code = bytes)
    (h5 : (c.maxLocals == mx && c.exceptionTable.isEmpty && decide (c.maxStack ≤ mostOperands) && decide (meth.sig.returnType = rt) && !meth.locks && decide (parseMethodDescriptor y.desc = some meth.sig)) = true) : (Jvm.Cond.code y bytes mx rt).before a s = true := by
  simp only [Bool.and_eq_true, beq_iff_eq, Bool.not_eq_true', decide_eq_true_eq] at h5
  obtain ⟨⟨⟨⟨⟨g1, g2⟩, g3⟩, g4⟩, g5⟩, g6⟩ := h5
  simp [Cond.before, Cond.holds, Cond.value, h1, h2, h3, h4, g1, g2, g3, g4, g5, g6]
def isCode : Jvm.Cond → Bool
  | .code _ _ _ _ => true
  | _ => false
theorem all_split {L : List Jvm.Cond} {P : Jvm.Cond → Bool} (h1 : L.all (fun c => isCode c || P c) = true) (h2 : ∀ c ∈ L.filter isCode, P c = true) : L.all P = true := by
  refine List.all_eq_true.mpr fun c hc => ?_
  have h := List.all_eq_true.mp h1 c hc
  rcases Bool.eq_false_or_eq_true (isCode c) with hi | hi
  · exact h2 c (List.mem_filter.mpr ⟨hc, hi⟩)
  · simpa [hi] using h
set_option maxRecDepth 65536 in
theorem w_c0 : (Jvm.Cond.code x code maxLocals ret).before args0 about1 = true := code_word (m := ⟨1, 1⟩) (meth := k1m1) (c := k1c1) (by decide +kernel) rfl rfl rfl (by decide +kernel)
set_option maxRecDepth 65536 in
theorem w_c1 : (Jvm.Cond.code ({ cls := "java/lang/Math", name := "max", desc := "(JJ)J" } : Jvm.MethodName) jdk_29_method_66_code (4 : Nat) (Option.some Jvm.ClassFile.FieldType.long)).before args0 about1 = true := code_word (m := ⟨2, 1⟩) (meth := k2m1) (c := k2c1) (by decide +kernel) rfl rfl rfl (by decide +kernel)
set_option maxRecDepth 65536 in
theorem w_c2 : (Jvm.Cond.code ({ cls := "com/example/striate/striate/segment/ReadBudget", name := "<init>", desc := "(J)V" } : Jvm.MethodName) prog_56_method_1_code (3 : Nat) (Option.none : Option Jvm.ClassFile.FieldType)).before args0 about1 = true := code_word (m := ⟨3, 0⟩) (meth := k3m0) (c := k3c0) (by decide +kernel) rfl rfl rfl (by decide +kernel)
set_option maxRecDepth 65536 in
theorem w_c3 : (Jvm.Cond.code ({ cls := "java/lang/Object", name := "<init>", desc := "()V" } : Jvm.MethodName) object_method_1_code (1 : Nat) (Option.none : Option Jvm.ClassFile.FieldType)).before args0 about1 = true := code_word (m := ⟨0, 0⟩) (meth := k0m0) (c := k0c0) (by decide +kernel) rfl rfl rfl (by decide +kernel)
set_option maxRecDepth 65536 in
theorem w_c4 : (Jvm.Cond.code ({ cls := "com/example/striate/striate/segment/ReadBudget", name := "take", desc := "(I)Z" } : Jvm.MethodName) prog_56_method_3_code (2 : Nat) (Option.some Jvm.ClassFile.FieldType.boolean)).before args0 about1 = true := code_word (m := ⟨3, 2⟩) (meth := k3m2) (c := k3c2) (by decide +kernel) rfl rfl rfl (by decide +kernel)
set_option maxRecDepth 65536 in
theorem w_c5 : (Jvm.Cond.code ({ cls := "com/example/striate/striate/segment/ReadBudget", name := "spent", desc := "()Z" } : Jvm.MethodName) prog_56_method_2_code (1 : Nat) (Option.some Jvm.ClassFile.FieldType.boolean)).before args0 about1 = true := code_word (m := ⟨3, 1⟩) (meth := k3m1) (c := k3c1) (by decide +kernel) rfl rfl rfl (by decide +kernel)
def codes1 : List Jvm.Cond := [Jvm.Cond.code x code maxLocals ret, Jvm.Cond.code ({ cls := "java/lang/Math", name := "max", desc := "(JJ)J" } : Jvm.MethodName) jdk_29_method_66_code (4 : Nat) (Option.some Jvm.ClassFile.FieldType.long), Jvm.Cond.code ({ cls := "com/example/striate/striate/segment/ReadBudget", name := "<init>", desc := "(J)V" } : Jvm.MethodName) prog_56_method_1_code (3 : Nat) (Option.none : Option Jvm.ClassFile.FieldType), Jvm.Cond.code ({ cls := "java/lang/Object", name := "<init>", desc := "()V" } : Jvm.MethodName) object_method_1_code (1 : Nat) (Option.none : Option Jvm.ClassFile.FieldType), Jvm.Cond.code ({ cls := "com/example/striate/striate/segment/ReadBudget", name := "take", desc := "(I)Z" } : Jvm.MethodName) prog_56_method_3_code (2 : Nat) (Option.some Jvm.ClassFile.FieldType.boolean), Jvm.Cond.code ({ cls := "com/example/striate/striate/segment/ReadBudget", name := "spent", desc := "()Z" } : Jvm.MethodName) prog_56_method_2_code (1 : Nat) (Option.some Jvm.ClassFile.FieldType.boolean)]
set_option maxRecDepth 65536 in
theorem codes_eq : words1.filter isCode = codes1 := rfl
theorem w_codes : ∀ c ∈ words1.filter isCode, c.before args0 about1 = true := by
  rw [codes_eq]
  intro c hc
  simp only [codes1, List.mem_cons, List.not_mem_nil, or_false] at hc
  rcases hc with rfl | rfl | rfl | rfl | rfl | rfl
  · exact w_c0
  · exact w_c1
  · exact w_c2
  · exact w_c3
  · exact w_c4
  · exact w_c5
set_option maxRecDepth 65536 in
theorem w_t1 : (words1.take 24).all (fun c => isCode c || c.before args0 about1) = true := by decide +kernel
set_option maxRecDepth 65536 in
theorem w_t2 : (words1.drop 24).all (fun c => isCode c || c.before args0 about1) = true := by decide +kernel
theorem w_tables : (allAtoms (Jvm.Cond.code x code maxLocals ret :: tables_1)).before args0 about1 = true := by
  rw [allAtoms_all]
  show words1.all (fun c => c.before args0 about1) = true
  refine all_split ?_ w_codes
  rw [← List.take_append_drop 24 words1, List.all_append, w_t1, w_t2]
  rfl
set_option maxRecDepth 65536 in
theorem w_case : (Jvm.Cond.and given_1 narrow_1).before args0 about1 = true := by decide +kernel
theorem w_applies : (headSpec (Jvm.Cond.code x code maxLocals ret :: tables_1) room_1).applies x e0.platform about1 = true :=
  (Spec.applies_iff w_frames).mpr ⟨w_running, w_runnable, w_alone, w_named, w_hears, w_ripe, w_room, w_tables⟩
theorem atStart : AtStart classFile x code maxLocals ret World_1 tables_1 room_1 Calls_1 rest_1 Pre_1 launch0 p0 e0 about1 theMethod args0 below0 :=
  ⟨lists_1, trivial, launch0.admits_env _ _ _, launch0.least_env, fairChoices_fair.cas, fairChoices_fair.clock, w_frames, w_args, w_heap, w_applies, trivial, trivial, w_case⟩
end start1
theorem witness_1 : WitnessClaimed_1 := ⟨start1.p0, start1.e0, start1.about1, start1.theMethod, start1.args0, start1.below0, start1.atStart⟩
end Jvm.Pilot.@@N@@
