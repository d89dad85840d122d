import JvmDerived
import JvmDerived.Pilot.@@N@@Statement
import JvmDerived.Pilot.@@N@@Code
set_option linter.unusedVariables false
set_option linter.unusedSimpArgs false
namespace Jvm.OwnK
open Sem ClassFile Op Lib Jvm.Stand Jvm.Free Jvm.LawKit Jvm.RoadKit
def Ctx : Type := Program × Launch × Env × State × MethodId × Array Value × List Frame × Method × Code
def Ctx.p (K : Ctx) : Program := K.1
def Ctx.l (K : Ctx) : Launch := K.2.1
def Ctx.e (K : Ctx) : Env := K.2.2.1
def Ctx.s (K : Ctx) : State := K.2.2.2.1
def Ctx.m (K : Ctx) : MethodId := K.2.2.2.2.1
def Ctx.args (K : Ctx) : Array Value := K.2.2.2.2.2.1
def Ctx.below (K : Ctx) : List Frame := K.2.2.2.2.2.2.1
def Ctx.meth (K : Ctx) : Method := K.2.2.2.2.2.2.2.1
def Ctx.c (K : Ctx) : Code := K.2.2.2.2.2.2.2.2
/-- from here the run ends by a return that answers Q -/
def Go (K : Ctx) (R : Room) (n0 : Nat) (Q : Option Value → Heap → Prop) (T : State) (pc : Nat) (L : Array Slot) (st : List Value) : Prop :=
  ∃ (s₂ : State) (o : Outcome), Steps K.p.tables K.e K.below (T.setTop (mkF K.m pc L st)) s₂ ∧ s₂.status = .running ∧ Ended s₂ K.below o ∧
    ∃ (v : Option Value) (Lc : List Loc), o = .returned v ∧ (Q v s₂.heap ∧ Fr n0 Lc) ∧ FrameEnd K.s o s₂ Lc R.cells R.slots
/-- where the run stands -/
def St (K : Ctx) (Z : State) (R : Room) (y : MethodName) (bytes : ByteArray) (maxL : Nat) (ret : Option FieldType) (n0 : Nat) (T : State) (h : Heap) (cells slots : Nat) : Prop :=
  (∃ locs, Stand K.p K.l K.e R K.s K.m K.args K.below K.meth K.c T locs cells slots ∧ Fr n0 locs) ∧ T.heap = h ∧ n0 ≤ K.s.heap.size ∧ K.p.tables.exec = Jvm.exec ∧ Z.Warmed39 K.s.vm ∧ K.c.code = bytes ∧ K.c.maxLocals = maxL ∧
    K.meth.sig.returnType = ret ∧ K.meth.locks = false ∧ K.s.vm.findClass y.cls = some K.m.cls ∧ K.meth.name = y.name
/-- what a body does, called with the arguments as' at the heap h -/
def Ctr (Z : State) (n0 : Nat) (y : MethodName) (bytes : ByteArray) (maxL : Nat) (ret : Option FieldType) (R : Room) (as' : List Value) (h : Heap) (Q : Option Value → Heap → Prop) : Prop :=
  ∀ (l : Launch) (ws : List Jvm.Cond), MetFree l y (head1 (Jvm.Cond.code y bytes maxL ret :: ws) R) (fun a U => a = as'.toArray ∧ Z.Warmed39 U.vm ∧ U.heap = h) (fun _ _ _ _ _ => True)
    (fun _ U o U' => ∃ v L, o = .returned v ∧ (Q v U'.heap ∧ Fr n0 L) ∧ FrameEnd U o U' L R.cells R.slots)
section Kit
variable {K : Ctx} {Z : State} {R : Room} {y : MethodName} {bytes : ByteArray} {maxL : Nat} {ret : Option FieldType} {n0 : Nat} {T : State} {h : Heap} {cl sl : Nat} {Q : Option Value → Heap → Prop} {pc pc' : Nat} {L L' : Array Slot} {st : List Value} {a0 : Array Value}
theorem Go.step {T' : State} {st' : List Value} (hs : ∀ target, Steps K.p.tables K.e K.below (T'.setTop (mkF K.m pc' L' st')) target → Steps K.p.tables K.e K.below (T.setTop (mkF K.m pc L st)) target) (k : Go K R n0 Q T' pc' L' st') : Go K R n0 Q T pc L st := by
  obtain ⟨s₂, o, h1, r⟩ := k
  exact ⟨s₂, o, hs _ h1, r⟩
theorem St.size (S : St K Z R y bytes maxL ret n0 T h cl sl) : n0 ≤ h.size := by
  obtain ⟨⟨locs, X, hF⟩, e0, hn, -⟩ := S
  have q : K.s.heap.size ≤ T.heap.size := X.same.2.1
  rw [← e0]; exact Nat.le_trans hn q
theorem St.more (S : St K Z R y bytes maxL ret n0 T h cl sl) {cl' sl' : Nat} (h1 : cl ≤ cl') (h2 : sl ≤ sl') : St K Z R y bytes maxL ret n0 T h cl' sl' := by
  obtain ⟨⟨locs, X, hF⟩, r⟩ := S
  exact ⟨⟨locs, X.more h1 h2, hF⟩, r⟩
theorem Ctr.of {as' : List Value} (hpl : plainFor y = true) (hn : n0 ≤ h.size) (hef : ∀ m, entryFrame m as'.toArray maxL = mkF m 0 L []) (body : ∀ (K : Ctx) (T : State), St K Z R y bytes maxL ret n0 T h 0 0 → Go K R n0 Q T 0 L []) : Ctr Z n0 y bytes maxL ret R as' h Q := by
  intro l ws
  refine MetFree.of_bodySF hpl hisR ?_
  intro p e s m args below meth c s₁ Bd hml0 hP hK
  obtain ⟨rfl, hZ, hh⟩ := hP
  have e0 : s₁.heap = h := by rw [← hh, Bd.state]; rfl
  have X0 : Stand p l e R s m as'.toArray below meth c s₁ [] 0 0 := Stand.of_body Bd
  obtain ⟨s₂, o, h1, h2, h3, h4⟩ := body (p, l, e, s, m, as'.toArray, below, meth, c) s₁ ⟨⟨[], X0, Fr.nil _⟩, e0, by rw [← hh] at hn; exact hn, Bd.exec, hZ, Bd.bytes, hml0, Bd.returns, BodyLoose.notSynchronized Bd, findClass_of_methodNamed Bd.named, (name_of_methodNamed Bd.named Bd.method).1⟩
  exact ⟨s₂, o, castTop (hef m) h1, h2, h3, h4⟩
theorem Ctr.imp {as' : List Value} {Q' : Option Value → Heap → Prop} (C : Ctr Z n0 y bytes maxL ret R as' h Q) (hq : ∀ v h', Q v h' → Q' v h') : Ctr Z n0 y bytes maxL ret R as' h Q' := by
  intro l ws p e ha hc hk s m args below hf happ hP hK
  obtain ⟨n, o, h1, h2, h3, v, L, e1, ⟨e2, e3⟩, e4⟩ := C l ws p e ha hc hk s m args below hf happ hP hK
  exact ⟨n, o, h1, h2, h3, v, L, e1, ⟨hq _ _ e2, e3⟩, e4⟩

theorem px_iload (S : St K Z R y bytes maxL ret n0 T h cl sl) {k : Nat} {v : Int32} (hd : decode bytes pc = .ok (.iload k, 2)) (hp : pc + 2 = pc') (hl : L[k]? = some (.val (.int v))) (k : Go K R n0 Q T pc' L (.int v :: st)) : Go K R n0 Q T pc L st := by
  subst hp
  obtain ⟨⟨locs, X, hF⟩, e0, hn0, hx, hZ, hby, hml, hret, hlk, hown, hnm⟩ := S
  exact Go.step (fun _ t => XS.iload X.here hx rfl (hb hby hd) hl t) k
theorem px_iloadN (S : St K Z R y bytes maxL ret n0 T h cl sl) {k : Fin 4} {v : Int32} (hd : decode bytes pc = .ok (.iload_n k, 1)) (hp : pc + 1 = pc') (hl : L[k.val]? = some (.val (.int v))) (k : Go K R n0 Q T pc' L (.int v :: st)) : Go K R n0 Q T pc L st := by
  subst hp
  obtain ⟨⟨locs, X, hF⟩, e0, hn0, hx, hZ, hby, hml, hret, hlk, hown, hnm⟩ := S
  exact Go.step (fun _ t => XS.iloadN X.here hx rfl (hb hby hd) hl t) k
theorem px_lload (S : St K Z R y bytes maxL ret n0 T h cl sl) {k : Nat} {v : Int64} (hd : decode bytes pc = .ok (.lload k, 2)) (hp : pc + 2 = pc') (hl : L[k]? = some (.val (.long v))) (k : Go K R n0 Q T pc' L (.long v :: st)) : Go K R n0 Q T pc L st := by
  subst hp
  obtain ⟨⟨locs, X, hF⟩, e0, hn0, hx, hZ, hby, hml, hret, hlk, hown, hnm⟩ := S
  exact Go.step (fun _ t => XS.lload X.here hx rfl (hb hby hd) hl t) k
theorem px_lloadN (S : St K Z R y bytes maxL ret n0 T h cl sl) {k : Fin 4} {v : Int64} (hd : decode bytes pc = .ok (.lload_n k, 1)) (hp : pc + 1 = pc') (hl : L[k.val]? = some (.val (.long v))) (k : Go K R n0 Q T pc' L (.long v :: st)) : Go K R n0 Q T pc L st := by
  subst hp
  obtain ⟨⟨locs, X, hF⟩, e0, hn0, hx, hZ, hby, hml, hret, hlk, hown, hnm⟩ := S
  exact Go.step (fun _ t => XS.lloadN X.here hx rfl (hb hby hd) hl t) k
theorem px_aload (S : St K Z R y bytes maxL ret n0 T h cl sl) {k : Nat} {v : Value} (hd : decode bytes pc = .ok (.aload k, 2)) (hp : pc + 2 = pc') (hl : L[k]? = some (.val v)) (hv : v.isRef = true) (k : Go K R n0 Q T pc' L (v :: st)) : Go K R n0 Q T pc L st := by
  subst hp
  obtain ⟨⟨locs, X, hF⟩, e0, hn0, hx, hZ, hby, hml, hret, hlk, hown, hnm⟩ := S
  exact Go.step (fun _ t => XS.aload X.here hx rfl (hb hby hd) hl hv t) k
theorem px_aloadN (S : St K Z R y bytes maxL ret n0 T h cl sl) {k : Fin 4} {v : Value} (hd : decode bytes pc = .ok (.aload_n k, 1)) (hp : pc + 1 = pc') (hl : L[k.val]? = some (.val v)) (hv : v.isRef = true) (k : Go K R n0 Q T pc' L (v :: st)) : Go K R n0 Q T pc L st := by
  subst hp
  obtain ⟨⟨locs, X, hF⟩, e0, hn0, hx, hZ, hby, hml, hret, hlk, hown, hnm⟩ := S
  exact Go.step (fun _ t => XS.aloadN X.here hx rfl (hb hby hd) hl hv t) k
theorem px_istore (S : St K Z R y bytes maxL ret n0 T h cl sl) {k : Nat} {v : Int32} (hd : decode bytes pc = .ok (.istore k, 2)) (hp : pc + 2 = pc') (hl : storeLocals L k (.int v) = some L') (k : Go K R n0 Q T pc' L' st) : Go K R n0 Q T pc L (.int v :: st) := by
  subst hp
  obtain ⟨⟨locs, X, hF⟩, e0, hn0, hx, hZ, hby, hml, hret, hlk, hown, hnm⟩ := S
  exact Go.step (fun _ t => XS.istore X.here hx rfl (hb hby hd) rfl hl t) k
theorem px_istoreN (S : St K Z R y bytes maxL ret n0 T h cl sl) {k : Fin 4} {v : Int32} (hd : decode bytes pc = .ok (.istore_n k, 1)) (hp : pc + 1 = pc') (hl : storeLocals L k.val (.int v) = some L') (k : Go K R n0 Q T pc' L' st) : Go K R n0 Q T pc L (.int v :: st) := by
  subst hp
  obtain ⟨⟨locs, X, hF⟩, e0, hn0, hx, hZ, hby, hml, hret, hlk, hown, hnm⟩ := S
  exact Go.step (fun _ t => XS.istoreN X.here hx rfl (hb hby hd) rfl hl t) k
theorem px_lstore (S : St K Z R y bytes maxL ret n0 T h cl sl) {k : Nat} {v : Int64} (hd : decode bytes pc = .ok (.lstore k, 2)) (hp : pc + 2 = pc') (hl : storeLocals L k (.long v) = some L') (k : Go K R n0 Q T pc' L' st) : Go K R n0 Q T pc L (.long v :: st) := by
  subst hp
  obtain ⟨⟨locs, X, hF⟩, e0, hn0, hx, hZ, hby, hml, hret, hlk, hown, hnm⟩ := S
  exact Go.step (fun _ t => XS.lstore X.here hx rfl (hb hby hd) rfl hl t) k
theorem px_lstoreN (S : St K Z R y bytes maxL ret n0 T h cl sl) {k : Fin 4} {v : Int64} (hd : decode bytes pc = .ok (.lstore_n k, 1)) (hp : pc + 1 = pc') (hl : storeLocals L k.val (.long v) = some L') (k : Go K R n0 Q T pc' L' st) : Go K R n0 Q T pc L (.long v :: st) := by
  subst hp
  obtain ⟨⟨locs, X, hF⟩, e0, hn0, hx, hZ, hby, hml, hret, hlk, hown, hnm⟩ := S
  exact Go.step (fun _ t => XS.lstoreN X.here hx rfl (hb hby hd) rfl hl t) k
theorem px_astore (S : St K Z R y bytes maxL ret n0 T h cl sl) {k : Nat} {v : Value} (hd : decode bytes pc = .ok (.astore k, 2)) (hp : pc + 2 = pc') (hv : v.isRef = true) (hl : storeLocals L k v = some L') (k : Go K R n0 Q T pc' L' st) : Go K R n0 Q T pc L (v :: st) := by
  subst hp
  obtain ⟨⟨locs, X, hF⟩, e0, hn0, hx, hZ, hby, hml, hret, hlk, hown, hnm⟩ := S
  exact Go.step (fun _ t => XS.astore X.here hx rfl (hb hby hd) rfl hv hl t) k
theorem px_astoreN (S : St K Z R y bytes maxL ret n0 T h cl sl) {k : Fin 4} {v : Value} (hd : decode bytes pc = .ok (.astore_n k, 1)) (hp : pc + 1 = pc') (hv : v.isRef = true) (hl : storeLocals L k.val v = some L') (k : Go K R n0 Q T pc' L' st) : Go K R n0 Q T pc L (v :: st) := by
  subst hp
  obtain ⟨⟨locs, X, hF⟩, e0, hn0, hx, hZ, hby, hml, hret, hlk, hown, hnm⟩ := S
  exact Go.step (fun _ t => XS.astoreN X.here hx rfl (hb hby hd) rfl hv hl t) k
theorem px_iconst (S : St K Z R y bytes maxL ret n0 T h cl sl) {i : Int} {v : Int32} (hd : decode bytes pc = .ok (.iconst i, 1)) (hp : pc + 1 = pc') (hv : Int32.ofInt i = v) (k : Go K R n0 Q T pc' L (.int v :: st)) : Go K R n0 Q T pc L st := by
  subst hp
  obtain ⟨⟨locs, X, hF⟩, e0, hn0, hx, hZ, hby, hml, hret, hlk, hown, hnm⟩ := S
  exact Go.step (fun _ t => XS.iconst X.here hx rfl (hb hby hd) (by rw [hv]; exact t)) k
theorem px_bipush (S : St K Z R y bytes maxL ret n0 T h cl sl) {i : Int} {v : Int32} (hd : decode bytes pc = .ok (.bipush i, 2)) (hp : pc + 2 = pc') (hv : (Int8.ofInt i).toInt32 = v) (k : Go K R n0 Q T pc' L (.int v :: st)) : Go K R n0 Q T pc L st := by
  subst hp
  obtain ⟨⟨locs, X, hF⟩, e0, hn0, hx, hZ, hby, hml, hret, hlk, hown, hnm⟩ := S
  exact Go.step (fun _ t => XS.bipush X.here hx rfl (hb hby hd) (by rw [hv]; exact t)) k
theorem px_sipush (S : St K Z R y bytes maxL ret n0 T h cl sl) {i : Int} {v : Int32} (hd : decode bytes pc = .ok (.sipush i, 3)) (hp : pc + 3 = pc') (hv : (Int16.ofInt i).toInt32 = v) (k : Go K R n0 Q T pc' L (.int v :: st)) : Go K R n0 Q T pc L st := by
  subst hp
  obtain ⟨⟨locs, X, hF⟩, e0, hn0, hx, hZ, hby, hml, hret, hlk, hown, hnm⟩ := S
  exact Go.step (fun _ t => XS.sipush X.here hx rfl (hb hby hd) (by rw [hv]; exact t)) k
theorem px_lconst (S : St K Z R y bytes maxL ret n0 T h cl sl) {i : Fin 2} {v : Int64} (hd : decode bytes pc = .ok (.lconst i, 1)) (hp : pc + 1 = pc') (hv : Int64.ofNat i = v) (k : Go K R n0 Q T pc' L (.long v :: st)) : Go K R n0 Q T pc L st := by
  subst hp
  obtain ⟨⟨locs, X, hF⟩, e0, hn0, hx, hZ, hby, hml, hret, hlk, hown, hnm⟩ := S
  exact Go.step (fun _ t => XS.lconst X.here hx rfl (hb hby hd) (by rw [hv]; exact t)) k
theorem px_aconstNull (S : St K Z R y bytes maxL ret n0 T h cl sl) (hd : decode bytes pc = .ok (.aconst_null, 1)) (hp : pc + 1 = pc') (k : Go K R n0 Q T pc' L (.null :: st)) : Go K R n0 Q T pc L st := by
  subst hp
  obtain ⟨⟨locs, X, hF⟩, e0, hn0, hx, hZ, hby, hml, hret, hlk, hown, hnm⟩ := S
  exact Go.step (fun _ t => XS.aconstNull X.here hx rfl (hb hby hd) t) k
theorem px_iadd (S : St K Z R y bytes maxL ret n0 T h cl sl) {u v : Int32} (hd : decode bytes pc = .ok (.iadd, 1)) (hp : pc + 1 = pc') (k : Go K R n0 Q T pc' L (.int (u + v) :: st)) : Go K R n0 Q T pc L (.int v :: .int u :: st) := by
  subst hp
  obtain ⟨⟨locs, X, hF⟩, e0, hn0, hx, hZ, hby, hml, hret, hlk, hown, hnm⟩ := S
  exact Go.step (fun _ t => XS.iadd X.here hx rfl (hb hby hd) rfl t) k
theorem px_ladd (S : St K Z R y bytes maxL ret n0 T h cl sl) {u v : Int64} (hd : decode bytes pc = .ok (.ladd, 1)) (hp : pc + 1 = pc') (k : Go K R n0 Q T pc' L (.long (u + v) :: st)) : Go K R n0 Q T pc L (.long v :: .long u :: st) := by
  subst hp
  obtain ⟨⟨locs, X, hF⟩, e0, hn0, hx, hZ, hby, hml, hret, hlk, hown, hnm⟩ := S
  exact Go.step (fun _ t => XS.ladd X.here hx rfl (hb hby hd) rfl t) k
theorem px_isub (S : St K Z R y bytes maxL ret n0 T h cl sl) {u v : Int32} (hd : decode bytes pc = .ok (.isub, 1)) (hp : pc + 1 = pc') (k : Go K R n0 Q T pc' L (.int (u - v) :: st)) : Go K R n0 Q T pc L (.int v :: .int u :: st) := by
  subst hp
  obtain ⟨⟨locs, X, hF⟩, e0, hn0, hx, hZ, hby, hml, hret, hlk, hown, hnm⟩ := S
  exact Go.step (fun _ t => XS.isub X.here hx rfl (hb hby hd) rfl t) k
theorem px_lsub (S : St K Z R y bytes maxL ret n0 T h cl sl) {u v : Int64} (hd : decode bytes pc = .ok (.lsub, 1)) (hp : pc + 1 = pc') (k : Go K R n0 Q T pc' L (.long (u - v) :: st)) : Go K R n0 Q T pc L (.long v :: .long u :: st) := by
  subst hp
  obtain ⟨⟨locs, X, hF⟩, e0, hn0, hx, hZ, hby, hml, hret, hlk, hown, hnm⟩ := S
  exact Go.step (fun _ t => XS.lsub X.here hx rfl (hb hby hd) rfl t) k
theorem px_imul (S : St K Z R y bytes maxL ret n0 T h cl sl) {u v : Int32} (hd : decode bytes pc = .ok (.imul, 1)) (hp : pc + 1 = pc') (k : Go K R n0 Q T pc' L (.int (u * v) :: st)) : Go K R n0 Q T pc L (.int v :: .int u :: st) := by
  subst hp
  obtain ⟨⟨locs, X, hF⟩, e0, hn0, hx, hZ, hby, hml, hret, hlk, hown, hnm⟩ := S
  exact Go.step (fun _ t => XS.imul X.here hx rfl (hb hby hd) rfl t) k
theorem px_lmul (S : St K Z R y bytes maxL ret n0 T h cl sl) {u v : Int64} (hd : decode bytes pc = .ok (.lmul, 1)) (hp : pc + 1 = pc') (k : Go K R n0 Q T pc' L (.long (u * v) :: st)) : Go K R n0 Q T pc L (.long v :: .long u :: st) := by
  subst hp
  obtain ⟨⟨locs, X, hF⟩, e0, hn0, hx, hZ, hby, hml, hret, hlk, hown, hnm⟩ := S
  exact Go.step (fun _ t => XS.lmul X.here hx rfl (hb hby hd) rfl t) k
theorem px_iand (S : St K Z R y bytes maxL ret n0 T h cl sl) {u v : Int32} (hd : decode bytes pc = .ok (.iand, 1)) (hp : pc + 1 = pc') (k : Go K R n0 Q T pc' L (.int (u &&& v) :: st)) : Go K R n0 Q T pc L (.int v :: .int u :: st) := by
  subst hp
  obtain ⟨⟨locs, X, hF⟩, e0, hn0, hx, hZ, hby, hml, hret, hlk, hown, hnm⟩ := S
  exact Go.step (fun _ t => XS.iand X.here hx rfl (hb hby hd) rfl t) k
theorem px_land (S : St K Z R y bytes maxL ret n0 T h cl sl) {u v : Int64} (hd : decode bytes pc = .ok (.land, 1)) (hp : pc + 1 = pc') (k : Go K R n0 Q T pc' L (.long (u &&& v) :: st)) : Go K R n0 Q T pc L (.long v :: .long u :: st) := by
  subst hp
  obtain ⟨⟨locs, X, hF⟩, e0, hn0, hx, hZ, hby, hml, hret, hlk, hown, hnm⟩ := S
  exact Go.step (fun _ t => XS.land X.here hx rfl (hb hby hd) rfl t) k
theorem px_ior (S : St K Z R y bytes maxL ret n0 T h cl sl) {u v : Int32} (hd : decode bytes pc = .ok (.ior, 1)) (hp : pc + 1 = pc') (k : Go K R n0 Q T pc' L (.int (u ||| v) :: st)) : Go K R n0 Q T pc L (.int v :: .int u :: st) := by
  subst hp
  obtain ⟨⟨locs, X, hF⟩, e0, hn0, hx, hZ, hby, hml, hret, hlk, hown, hnm⟩ := S
  exact Go.step (fun _ t => XS.ior X.here hx rfl (hb hby hd) rfl t) k
theorem px_lor (S : St K Z R y bytes maxL ret n0 T h cl sl) {u v : Int64} (hd : decode bytes pc = .ok (.lor, 1)) (hp : pc + 1 = pc') (k : Go K R n0 Q T pc' L (.long (u ||| v) :: st)) : Go K R n0 Q T pc L (.long v :: .long u :: st) := by
  subst hp
  obtain ⟨⟨locs, X, hF⟩, e0, hn0, hx, hZ, hby, hml, hret, hlk, hown, hnm⟩ := S
  exact Go.step (fun _ t => XS.lor X.here hx rfl (hb hby hd) rfl t) k
theorem px_ixor (S : St K Z R y bytes maxL ret n0 T h cl sl) {u v : Int32} (hd : decode bytes pc = .ok (.ixor, 1)) (hp : pc + 1 = pc') (k : Go K R n0 Q T pc' L (.int (u ^^^ v) :: st)) : Go K R n0 Q T pc L (.int v :: .int u :: st) := by
  subst hp
  obtain ⟨⟨locs, X, hF⟩, e0, hn0, hx, hZ, hby, hml, hret, hlk, hown, hnm⟩ := S
  exact Go.step (fun _ t => XS.ixor X.here hx rfl (hb hby hd) rfl t) k
theorem px_lxor (S : St K Z R y bytes maxL ret n0 T h cl sl) {u v : Int64} (hd : decode bytes pc = .ok (.lxor, 1)) (hp : pc + 1 = pc') (k : Go K R n0 Q T pc' L (.long (u ^^^ v) :: st)) : Go K R n0 Q T pc L (.long v :: .long u :: st) := by
  subst hp
  obtain ⟨⟨locs, X, hF⟩, e0, hn0, hx, hZ, hby, hml, hret, hlk, hown, hnm⟩ := S
  exact Go.step (fun _ t => XS.lxor X.here hx rfl (hb hby hd) rfl t) k
def ushr (u v : Int32) : Int32 := (u.toUInt32 >>> (v &&& 31).toUInt32).toInt32
def ushrL (u : Int64) (v : Int32) : Int64 := (u.toUInt64 >>> (v &&& 0x3f).toInt64.toUInt64).toInt64
def i2c (v : Int32) : Int32 := v.toUInt32.toUInt16.toUInt32.toInt32
def i2b (v : Int32) : Int32 := v.toInt8.toInt32
def i2s (v : Int32) : Int32 := v.toInt16.toInt32
theorem px_ishl (S : St K Z R y bytes maxL ret n0 T h cl sl) {u v : Int32} (hd : decode bytes pc = .ok (.ishl, 1)) (hp : pc + 1 = pc') (k : Go K R n0 Q T pc' L (.int (u <<< (v &&& 31)) :: st)) : Go K R n0 Q T pc L (.int v :: .int u :: st) := by
  subst hp
  obtain ⟨⟨locs, X, hF⟩, e0, hn0, hx, hZ, hby, hml, hret, hlk, hown, hnm⟩ := S
  exact Go.step (fun _ t => XS.ishl X.here hx rfl (hb hby hd) rfl t) k
theorem px_ishr (S : St K Z R y bytes maxL ret n0 T h cl sl) {u v : Int32} (hd : decode bytes pc = .ok (.ishr, 1)) (hp : pc + 1 = pc') (k : Go K R n0 Q T pc' L (.int (u >>> (v &&& 31)) :: st)) : Go K R n0 Q T pc L (.int v :: .int u :: st) := by
  subst hp
  obtain ⟨⟨locs, X, hF⟩, e0, hn0, hx, hZ, hby, hml, hret, hlk, hown, hnm⟩ := S
  exact Go.step (fun _ t => XS.ishr X.here hx rfl (hb hby hd) rfl t) k
theorem px_iushr (S : St K Z R y bytes maxL ret n0 T h cl sl) {u v : Int32} (hd : decode bytes pc = .ok (.iushr, 1)) (hp : pc + 1 = pc') (k : Go K R n0 Q T pc' L (.int (ushr u v) :: st)) : Go K R n0 Q T pc L (.int v :: .int u :: st) := by
  subst hp
  obtain ⟨⟨locs, X, hF⟩, e0, hn0, hx, hZ, hby, hml, hret, hlk, hown, hnm⟩ := S
  exact Go.step (fun _ t => XS.iushr X.here hx rfl (hb hby hd) rfl t) k
theorem px_lshl (S : St K Z R y bytes maxL ret n0 T h cl sl) {u : Int64} {v : Int32} (hd : decode bytes pc = .ok (.lshl, 1)) (hp : pc + 1 = pc') (k : Go K R n0 Q T pc' L (.long (u <<< (v &&& 0x3f).toInt64) :: st)) : Go K R n0 Q T pc L (.int v :: .long u :: st) := by
  subst hp
  obtain ⟨⟨locs, X, hF⟩, e0, hn0, hx, hZ, hby, hml, hret, hlk, hown, hnm⟩ := S
  exact Go.step (fun _ t => XS.lshl X.here hx rfl (hb hby hd) rfl t) k
theorem px_lshr (S : St K Z R y bytes maxL ret n0 T h cl sl) {u : Int64} {v : Int32} (hd : decode bytes pc = .ok (.lshr, 1)) (hp : pc + 1 = pc') (k : Go K R n0 Q T pc' L (.long (u >>> (v &&& 0x3f).toInt64) :: st)) : Go K R n0 Q T pc L (.int v :: .long u :: st) := by
  subst hp
  obtain ⟨⟨locs, X, hF⟩, e0, hn0, hx, hZ, hby, hml, hret, hlk, hown, hnm⟩ := S
  exact Go.step (fun _ t => XS.lshr X.here hx rfl (hb hby hd) rfl t) k
theorem px_lushr (S : St K Z R y bytes maxL ret n0 T h cl sl) {u : Int64} {v : Int32} (hd : decode bytes pc = .ok (.lushr, 1)) (hp : pc + 1 = pc') (k : Go K R n0 Q T pc' L (.long (ushrL u v) :: st)) : Go K R n0 Q T pc L (.int v :: .long u :: st) := by
  subst hp
  obtain ⟨⟨locs, X, hF⟩, e0, hn0, hx, hZ, hby, hml, hret, hlk, hown, hnm⟩ := S
  exact Go.step (fun _ t => XS.lushr X.here hx rfl (hb hby hd) rfl t) k
theorem px_idiv (S : St K Z R y bytes maxL ret n0 T h cl sl) {u v : Int32} (hd : decode bytes pc = .ok (.idiv, 1)) (hp : pc + 1 = pc') (hz : v ≠ 0) (k : Go K R n0 Q T pc' L (.int (u / v) :: st)) : Go K R n0 Q T pc L (.int v :: .int u :: st) := by
  subst hp
  obtain ⟨⟨locs, X, hF⟩, e0, hn0, hx, hZ, hby, hml, hret, hlk, hown, hnm⟩ := S
  exact Go.step (fun _ t => XS.idiv X.here hx rfl (hb hby hd) rfl hz t) k
theorem px_irem (S : St K Z R y bytes maxL ret n0 T h cl sl) {u v : Int32} (hd : decode bytes pc = .ok (.irem, 1)) (hp : pc + 1 = pc') (hz : v ≠ 0) (k : Go K R n0 Q T pc' L (.int (u % v) :: st)) : Go K R n0 Q T pc L (.int v :: .int u :: st) := by
  subst hp
  obtain ⟨⟨locs, X, hF⟩, e0, hn0, hx, hZ, hby, hml, hret, hlk, hown, hnm⟩ := S
  exact Go.step (fun _ t => iremM X hx rfl (hb hby hd) rfl hz t) k
theorem px_ldiv (S : St K Z R y bytes maxL ret n0 T h cl sl) {u v : Int64} (hd : decode bytes pc = .ok (.ldiv, 1)) (hp : pc + 1 = pc') (hz : v ≠ 0) (k : Go K R n0 Q T pc' L (.long (u / v) :: st)) : Go K R n0 Q T pc L (.long v :: .long u :: st) := by
  subst hp
  obtain ⟨⟨locs, X, hF⟩, e0, hn0, hx, hZ, hby, hml, hret, hlk, hown, hnm⟩ := S
  exact Go.step (fun _ t => XS.ldiv X.here hx rfl (hb hby hd) rfl hz t) k
theorem px_ineg (S : St K Z R y bytes maxL ret n0 T h cl sl) {u : Int32} (hd : decode bytes pc = .ok (.ineg, 1)) (hp : pc + 1 = pc') (k : Go K R n0 Q T pc' L (.int (-u) :: st)) : Go K R n0 Q T pc L (.int u :: st) := by
  subst hp
  obtain ⟨⟨locs, X, hF⟩, e0, hn0, hx, hZ, hby, hml, hret, hlk, hown, hnm⟩ := S
  exact Go.step (fun _ t => XS.ineg X.here hx rfl (hb hby hd) rfl t) k
theorem px_lneg (S : St K Z R y bytes maxL ret n0 T h cl sl) {u : Int64} (hd : decode bytes pc = .ok (.lneg, 1)) (hp : pc + 1 = pc') (k : Go K R n0 Q T pc' L (.long (-u) :: st)) : Go K R n0 Q T pc L (.long u :: st) := by
  subst hp
  obtain ⟨⟨locs, X, hF⟩, e0, hn0, hx, hZ, hby, hml, hret, hlk, hown, hnm⟩ := S
  exact Go.step (fun _ t => XS.lneg X.here hx rfl (hb hby hd) rfl t) k
theorem px_i2l (S : St K Z R y bytes maxL ret n0 T h cl sl) {u : Int32} (hd : decode bytes pc = .ok (.i2l, 1)) (hp : pc + 1 = pc') (k : Go K R n0 Q T pc' L (.long u.toInt64 :: st)) : Go K R n0 Q T pc L (.int u :: st) := by
  subst hp
  obtain ⟨⟨locs, X, hF⟩, e0, hn0, hx, hZ, hby, hml, hret, hlk, hown, hnm⟩ := S
  exact Go.step (fun _ t => XS.i2l X.here hx rfl (hb hby hd) rfl t) k
theorem px_l2i (S : St K Z R y bytes maxL ret n0 T h cl sl) {u : Int64} (hd : decode bytes pc = .ok (.l2i, 1)) (hp : pc + 1 = pc') (k : Go K R n0 Q T pc' L (.int u.toInt32 :: st)) : Go K R n0 Q T pc L (.long u :: st) := by
  subst hp
  obtain ⟨⟨locs, X, hF⟩, e0, hn0, hx, hZ, hby, hml, hret, hlk, hown, hnm⟩ := S
  exact Go.step (fun _ t => XS.l2i X.here hx rfl (hb hby hd) rfl t) k
theorem px_i2b (S : St K Z R y bytes maxL ret n0 T h cl sl) {u : Int32} (hd : decode bytes pc = .ok (.i2b, 1)) (hp : pc + 1 = pc') (k : Go K R n0 Q T pc' L (.int (i2b u) :: st)) : Go K R n0 Q T pc L (.int u :: st) := by
  subst hp
  obtain ⟨⟨locs, X, hF⟩, e0, hn0, hx, hZ, hby, hml, hret, hlk, hown, hnm⟩ := S
  exact Go.step (fun _ t => XS.i2b X.here hx rfl (hb hby hd) rfl t) k
theorem px_i2c (S : St K Z R y bytes maxL ret n0 T h cl sl) {u : Int32} (hd : decode bytes pc = .ok (.i2c, 1)) (hp : pc + 1 = pc') (k : Go K R n0 Q T pc' L (.int (i2c u) :: st)) : Go K R n0 Q T pc L (.int u :: st) := by
  subst hp
  obtain ⟨⟨locs, X, hF⟩, e0, hn0, hx, hZ, hby, hml, hret, hlk, hown, hnm⟩ := S
  exact Go.step (fun _ t => XS.i2c X.here hx rfl (hb hby hd) rfl t) k
theorem px_i2s (S : St K Z R y bytes maxL ret n0 T h cl sl) {u : Int32} (hd : decode bytes pc = .ok (.i2s, 1)) (hp : pc + 1 = pc') (k : Go K R n0 Q T pc' L (.int (i2s u) :: st)) : Go K R n0 Q T pc L (.int u :: st) := by
  subst hp
  obtain ⟨⟨locs, X, hF⟩, e0, hn0, hx, hZ, hby, hml, hret, hlk, hown, hnm⟩ := S
  exact Go.step (fun _ t => XS.i2s X.here hx rfl (hb hby hd) rfl t) k
theorem px_lcmp (S : St K Z R y bytes maxL ret n0 T h cl sl) {u v : Int64} (hd : decode bytes pc = .ok (.lcmp, 1)) (hp : pc + 1 = pc') (k : Go K R n0 Q T pc' L (.int (lcmpW u v) :: st)) : Go K R n0 Q T pc L (.long v :: .long u :: st) := by
  subst hp
  obtain ⟨⟨locs, X, hF⟩, e0, hn0, hx, hZ, hby, hml, hret, hlk, hown, hnm⟩ := S
  exact Go.step (fun _ t => XS.lcmp X.here hx rfl (hb hby hd) rfl t) k
theorem px_pop (S : St K Z R y bytes maxL ret n0 T h cl sl) {u : Value} (hd : decode bytes pc = .ok (.pop, 1)) (hp : pc + 1 = pc') (hc : u.category = 1) (k : Go K R n0 Q T pc' L st) : Go K R n0 Q T pc L (u :: st) := by
  subst hp
  obtain ⟨⟨locs, X, hF⟩, e0, hn0, hx, hZ, hby, hml, hret, hlk, hown, hnm⟩ := S
  exact Go.step (fun _ t => XS.pop X.here hx rfl (hb hby hd) rfl hc t) k
theorem px_dup (S : St K Z R y bytes maxL ret n0 T h cl sl) {u : Value} (hd : decode bytes pc = .ok (.dup, 1)) (hp : pc + 1 = pc') (hc : u.category = 1) (k : Go K R n0 Q T pc' L (u :: u :: st)) : Go K R n0 Q T pc L (u :: st) := by
  subst hp
  obtain ⟨⟨locs, X, hF⟩, e0, hn0, hx, hZ, hby, hml, hret, hlk, hown, hnm⟩ := S
  exact Go.step (fun _ t => XS.dup X.here hx rfl (hb hby hd) rfl hc t) k
theorem px_dupX1 (S : St K Z R y bytes maxL ret n0 T h cl sl) {u v : Value} (hd : decode bytes pc = .ok (.dup_x1, 1)) (hp : pc + 1 = pc') (hc : u.category = 1) (hc2 : v.category = 1) (k : Go K R n0 Q T pc' L (u :: v :: u :: st)) : Go K R n0 Q T pc L (u :: v :: st) := by
  subst hp
  obtain ⟨⟨locs, X, hF⟩, e0, hn0, hx, hZ, hby, hml, hret, hlk, hown, hnm⟩ := S
  exact Go.step (fun _ t => XS.dupX1 X.here hx rfl (hb hby hd) rfl hc hc2 t) k
theorem px_dup2 (S : St K Z R y bytes maxL ret n0 T h cl sl) {u v : Value} (hd : decode bytes pc = .ok (.dup2, 1)) (hp : pc + 1 = pc') (hc : u.category = 1) (hc2 : v.category = 1) (k : Go K R n0 Q T pc' L (u :: v :: u :: v :: st)) : Go K R n0 Q T pc L (u :: v :: st) := by
  subst hp
  obtain ⟨⟨locs, X, hF⟩, e0, hn0, hx, hZ, hby, hml, hret, hlk, hown, hnm⟩ := S
  exact Go.step (fun _ t => Jvm.Free.XT.dup2 X.here hx rfl (hb hby hd) rfl hc hc2 t) k
theorem px_iinc (S : St K Z R y bytes maxL ret n0 T h cl sl) {k : Nat} {cst : Int} {u v r : Int32} (hd : decode bytes pc = .ok (.iinc k cst, 3)) (hp : pc + 3 = pc') (hl : L[k]? = some (.val (.int u))) (hv : Int32.ofInt cst = v) (hr : u + v = r) (hl' : storeLocals L k (.int r) = some L') (k' : Go K R n0 Q T pc' L' st) : Go K R n0 Q T pc L st := by
  subst hp
  subst hv
  subst hr
  obtain ⟨⟨locs, X, hF⟩, e0, hn0, hx, hZ, hby, hml, hret, hlk, hown, hnm⟩ := S
  exact Go.step (fun _ t => XS.iinc X.here hx rfl (hb hby hd) hl hl' t) k'
theorem px_goto (S : St K Z R y bytes maxL ret n0 T h cl sl) {o : Int} (hd : decode bytes pc = .ok (.goto o, 3)) (ho : 0 ≤ (pc : Int) + o) (hp : ((pc : Int) + o).toNat = pc') (k : Go K R n0 Q T pc' L st) : Go K R n0 Q T pc L st := by
  obtain ⟨⟨locs, X, hF⟩, e0, hn0, hx, hZ, hby, hml, hret, hlk, hown, hnm⟩ := S
  exact Go.step (fun _ t => XS.goto X.here hx rfl rfl (hb hby hd) ho hp t) k
def yesC : ClassFile.Cond → Int → Int → Prop
  | .eq, x, y => x = y
  | .ne, x, y => ¬ x = y
  | .lt, x, y => x < y
  | .ge, x, y => y ≤ x
  | .gt, x, y => y < x
  | .le, x, y => x ≤ y
def noC : ClassFile.Cond → Int → Int → Prop
  | .eq, x, y => ¬ x = y
  | .ne, x, y => x = y
  | .lt, x, y => y ≤ x
  | .ge, x, y => x < y
  | .gt, x, y => x ≤ y
  | .le, x, y => y < x
theorem yesC_of {cd : ClassFile.Cond} {x y : Int32} (h : if_icmp.holds cd x y = true) : yesC cd x.toInt y.toInt := by
  cases cd <;> simp [if_icmp.holds, yesC, Int32.lt_iff_toInt_lt, Int32.le_iff_toInt_le, ← Int32.toInt_inj] at h ⊢ <;> omega
theorem noC_of {cd : ClassFile.Cond} {x y : Int32} (h : if_icmp.holds cd x y = false) : noC cd x.toInt y.toInt := by
  cases cd <;> simp [if_icmp.holds, noC, Int32.lt_iff_toInt_lt, Int32.le_iff_toInt_le, ← Int32.toInt_inj] at h ⊢ <;> omega
theorem px_icmp (S : St K Z R y bytes maxL ret n0 T h cl sl) {cd : ClassFile.Cond} {o : Int} {u v : Int32} {pcn : Nat} (hd : decode bytes pc = .ok (.if_icmp cd o, 3)) (ho : 0 ≤ (pc : Int) + o) (hp : ((pc : Int) + o).toNat = pc') (hn : pc + 3 = pcn)
    (ky : yesC cd u.toInt v.toInt → Go K R n0 Q T pc' L st) (kn : noC cd u.toInt v.toInt → Go K R n0 Q T pcn L st) : Go K R n0 Q T pc L (.int v :: .int u :: st) := by
  subst hn
  obtain ⟨⟨locs, X, hF⟩, e0, hn0, hx, hZ, hby, hml, hret, hlk, hown, hnm⟩ := S
  cases hc : if_icmp.holds cd u v
  · exact Go.step (fun _ t => XS.icmpNo X.here hx rfl (hb hby hd) rfl hc t) (kn (noC_of hc))
  · exact Go.step (fun _ t => XS.icmpYes X.here hx rfl rfl (hb hby hd) rfl hc ho hp t) (ky (yesC_of hc))
theorem px_if0 (S : St K Z R y bytes maxL ret n0 T h cl sl) {cd : ClassFile.Cond} {o : Int} {u : Int32} {pcn : Nat} (hd : decode bytes pc = .ok (.ifCond cd o, 3)) (ho : 0 ≤ (pc : Int) + o) (hp : ((pc : Int) + o).toNat = pc') (hn : pc + 3 = pcn)
    (ky : yesC cd u.toInt 0 → Go K R n0 Q T pc' L st) (kn : noC cd u.toInt 0 → Go K R n0 Q T pcn L st) : Go K R n0 Q T pc L (.int u :: st) := by
  subst hn
  obtain ⟨⟨locs, X, hF⟩, e0, hn0, hx, hZ, hby, hml, hret, hlk, hown, hnm⟩ := S
  cases hc : ifCond.holds cd u
  · exact Go.step (fun _ t => XS.ifNo X.here hx rfl (hb hby hd) rfl hc t) (kn (noC_of (y := 0) ((if0 cd u).symm.trans hc)))
  · exact Go.step (fun _ t => XS.ifYes X.here hx rfl rfl (hb hby hd) rfl hc ho hp t) (ky (yesC_of (y := 0) ((if0 cd u).symm.trans hc)))
theorem yesL {cd : ClassFile.Cond} {x y : Int64} (h : yesC cd (lcmpW x y).toInt 0) : yesC cd x.toInt y.toInt := by
  have q := c_lcmp x y
  cases cd <;> simp only [yesC] at h ⊢ <;> omega
theorem noL {cd : ClassFile.Cond} {x y : Int64} (h : noC cd (lcmpW x y).toInt 0) : noC cd x.toInt y.toInt := by
  have q := c_lcmp x y
  cases cd <;> simp only [noC] at h ⊢ <;> omega
theorem px_lif (S : St K Z R y bytes maxL ret n0 T h cl sl) {cd : ClassFile.Cond} {o : Int} {u v : Int64} {pc1 pcn : Nat} (hd1 : decode bytes pc = .ok (.lcmp, 1)) (hp1 : pc + 1 = pc1) (hd : decode bytes pc1 = .ok (.ifCond cd o, 3)) (ho : 0 ≤ (pc1 : Int) + o) (hp : ((pc1 : Int) + o).toNat = pc') (hn : pc1 + 3 = pcn)
    (ky : yesC cd u.toInt v.toInt → Go K R n0 Q T pc' L st) (kn : noC cd u.toInt v.toInt → Go K R n0 Q T pcn L st) : Go K R n0 Q T pc L (.long v :: .long u :: st) :=
  px_lcmp S hd1 hp1 (px_if0 S hd ho hp hn (fun q => ky (yesL q)) (fun q => kn (noL q)))
theorem px_ifnull (S : St K Z R y bytes maxL ret n0 T h cl sl) {o : Int} {a : Addr} (hd : decode bytes pc = .ok (.ifnull o, 3)) (hp : pc + 3 = pc') (k : Go K R n0 Q T pc' L st) : Go K R n0 Q T pc L (.ref a :: st) := by
  subst hp
  obtain ⟨⟨locs, X, hF⟩, e0, hn0, hx, hZ, hby, hml, hret, hlk, hown, hnm⟩ := S
  exact Go.step (fun _ t => XS.ifnullNo X.here hx rfl (hb hby hd) rfl t) k
theorem px_ifnullY (S : St K Z R y bytes maxL ret n0 T h cl sl) {o : Int} (hd : decode bytes pc = .ok (.ifnull o, 3)) (ho : 0 ≤ (pc : Int) + o) (hp : ((pc : Int) + o).toNat = pc') (k : Go K R n0 Q T pc' L st) : Go K R n0 Q T pc L (.null :: st) := by
  obtain ⟨⟨locs, X, hF⟩, e0, hn0, hx, hZ, hby, hml, hret, hlk, hown, hnm⟩ := S
  exact Go.step (fun _ t => XS.ifnullYes X.here hx rfl rfl (hb hby hd) rfl ho hp t) k
theorem px_ifnonnull (S : St K Z R y bytes maxL ret n0 T h cl sl) {o : Int} {a : Addr} (hd : decode bytes pc = .ok (.ifnonnull o, 3)) (ho : 0 ≤ (pc : Int) + o) (hp : ((pc : Int) + o).toNat = pc') (k : Go K R n0 Q T pc' L st) : Go K R n0 Q T pc L (.ref a :: st) := by
  obtain ⟨⟨locs, X, hF⟩, e0, hn0, hx, hZ, hby, hml, hret, hlk, hown, hnm⟩ := S
  exact Go.step (fun _ t => XS.ifnonnullYes X.here hx rfl rfl (hb hby hd) rfl ho hp t) k
theorem px_ifnonnullN (S : St K Z R y bytes maxL ret n0 T h cl sl) {o : Int} (hd : decode bytes pc = .ok (.ifnonnull o, 3)) (hp : pc + 3 = pc') (k : Go K R n0 Q T pc' L st) : Go K R n0 Q T pc L (.null :: st) := by
  subst hp
  obtain ⟨⟨locs, X, hF⟩, e0, hn0, hx, hZ, hby, hml, hret, hlk, hown, hnm⟩ := S
  exact Go.step (fun _ t => XS.ifnonnullNo X.here hx rfl (hb hby hd) rfl t) k
theorem px_ldcI (S : St K Z R y bytes maxL ret n0 T h cl sl) {idx : Nat} {v : Int32} (w : (Jvm.Cond.constant y.cls idx v).before a0 Z = true) (hd : decode bytes pc = .ok (.ldc idx, 2)) (hp : pc + 2 = pc') (k : Go K R n0 Q T pc' L (.int v :: st)) : Go K R n0 Q T pc L st := by
  subst hp
  obtain ⟨⟨locs, X, hF⟩, e0, hn0, hx, hZ, hby, hml, hret, hlk, hown, hnm⟩ := S
  exact Go.step (fun _ t => X.ldcInt hx hown (mvT hZ w) (g := mkF K.m pc L st) rfl (hb hby hd) _ t) k
theorem px_ldcwI (S : St K Z R y bytes maxL ret n0 T h cl sl) {idx : Nat} {v : Int32} (w : (Jvm.Cond.constant y.cls idx v).before a0 Z = true) (hd : decode bytes pc = .ok (.ldc_w idx, 3)) (hp : pc + 3 = pc') (k : Go K R n0 Q T pc' L (.int v :: st)) : Go K R n0 Q T pc L st := by
  subst hp
  obtain ⟨⟨locs, X, hF⟩, e0, hn0, hx, hZ, hby, hml, hret, hlk, hown, hnm⟩ := S
  exact Go.step (fun _ t => X.ldcwInt hx hown (mvT hZ w) (g := mkF K.m pc L st) rfl (hb hby hd) _ t) k
theorem px_ldc2 (S : St K Z R y bytes maxL ret n0 T h cl sl) {idx : Nat} {v : Int64} (w : (Jvm.Cond.constantLong y.cls idx v).before a0 Z = true) (hd : decode bytes pc = .ok (.ldc2_w idx, 3)) (hp : pc + 3 = pc') (k : Go K R n0 Q T pc' L (.long v :: st)) : Go K R n0 Q T pc L st := by
  subst hp
  obtain ⟨⟨locs, X, hF⟩, e0, hn0, hx, hZ, hby, hml, hret, hlk, hown, hnm⟩ := S
  exact Go.step (fun _ t => X.ldc2Long hx hown (mvT hZ w) (g := mkF K.m pc L st) rfl (hb hby hd) _ t) k
theorem px_ret {v : Option Value} (S : St K Z R y bytes maxL ret n0 T h cl sl) (hv : ret = none → v = none) (hc : cl ≤ R.cells) (hs : sl ≤ R.slots)
    (hd : ∀ (locs : List Loc) (fs : List Frame), Stand K.p K.l K.e R K.s K.m K.args K.below K.meth K.c T locs cl sl → K.p.tables.exec = Jvm.exec → K.c.code = bytes → K.meth.sig.returnType = ret → (∀ (f : JFrame) (acts : List Action), f.method = K.m → f.locked = none → f.entered = [] → (doReturn K.e (T.setTop f) acts v).1 = T.setFrames fs) → Steps K.p.tables K.e K.below (T.setTop (mkF K.m pc L st)) (T.setFrames fs))
    (hq : Q v h) : Go K R n0 Q T pc L st := by
  obtain ⟨⟨locs, X, hF⟩, e0, hn0, hx, hZ, hby, hml, hret, hlk, hown, hnm⟩ := S
  obtain ⟨fs, hr, hrun, hended, hW, hsame⟩ := X.leave (v := v) (fun q => hv (hret ▸ q)) hlk
  refine ⟨_, _, hd locs fs X hx hby hret hr, hrun, hended, _, _, rfl, ⟨?_, hF⟩, ⟨_, rfl⟩, hW, hsame.mono hc hs⟩
  show Q v T.heap
  rw [e0]; exact hq
theorem px_return (S : St K Z R y bytes maxL ret n0 T h cl sl) (hd : decode bytes pc = .ok (.return_, 1)) (hrt : ret = none) (hc : cl ≤ R.cells) (hs : sl ≤ R.slots) (hq : Q none h) : Go K R n0 Q T pc L [] :=
  px_ret S (fun _ => rfl) hc hs (fun _ _ X hx hby hret hr => X.returnOut hx (hret.trans hrt) (hb hby hd) hr) hq
theorem px_retN {t : FieldType} {z z' : Int32} (S : St K Z R y bytes maxL ret n0 T h cl sl) (hd : decode bytes pc = .ok (.ireturn, 1)) (hrt : ret = some t) (ht : t = .boolean ∨ t = .byte ∨ t = .char ∨ t = .short) (hz : nar t z = z') (hc : cl ≤ R.cells) (hs : sl ≤ R.slots) (hq : Q (some (.int z')) h) : Go K R n0 Q T pc L (.int z :: st) := by
  subst hz
  exact px_ret S (fun q => by rw [hrt] at q; cases q) hc hs (fun _ _ X hx hby hret hr => retN X hx (hret.trans hrt) ht (hb hby hd) hr) hq
theorem px_retI {z : Int32} (S : St K Z R y bytes maxL ret n0 T h cl sl) (hd : decode bytes pc = .ok (.ireturn, 1)) (hrt : ret = some .int) (hc : cl ≤ R.cells) (hs : sl ≤ R.slots) (hq : Q (some (.int z)) h) : Go K R n0 Q T pc L (.int z :: st) :=
  px_ret S (fun q => by rw [hrt] at q; cases q) hc hs (fun _ _ X hx hby hret hr => retOut X hx (hret.trans hrt) rfl (Or.inl ⟨rfl, Or.inl rfl, z, rfl⟩) (hb hby hd) hr) hq
theorem px_retJ {z : Int64} (S : St K Z R y bytes maxL ret n0 T h cl sl) (hd : decode bytes pc = .ok (.lreturn, 1)) (hrt : ret = some .long) (hc : cl ≤ R.cells) (hs : sl ≤ R.slots) (hq : Q (some (.long z)) h) : Go K R n0 Q T pc L (.long z :: st) :=
  px_ret S (fun q => by rw [hrt] at q; cases q) hc hs (fun _ _ X hx hby hret hr => retOut X hx (hret.trans hrt) rfl (Or.inr (Or.inl ⟨rfl, rfl, z, rfl⟩)) (hb hby hd) hr) hq
theorem narrow_ref {t : FieldType} {v : Value} (ht : t.isReference = true) : narrow t v = v := by cases t <;> simp [FieldType.isReference] at ht <;> cases v <;> rfl
theorem px_retA {t : FieldType} {v : Value} (S : St K Z R y bytes maxL ret n0 T h cl sl) (hd : decode bytes pc = .ok (.areturn, 1)) (hrt : ret = some t) (ht : t.isReference = true) (hv : v.isRef = true) (hc : cl ≤ R.cells) (hs : sl ≤ R.slots) (hq : Q (some v) h) : Go K R n0 Q T pc L (v :: st) :=
  px_ret S (fun q => by rw [hrt] at q; cases q) hc hs (fun _ _ X hx hby hret hr => retOut X hx (hret.trans hrt) (narrow_ref ht) (Or.inr (Or.inr (Or.inr (Or.inr ⟨rfl, ht, hv⟩)))) (hb hby hd) hr) hq
/-- an array of ints (or of bytes, chars, shorts, booleans) of n places that hold f 0 .. -/
def AI (Z : State) (h : Heap) (a : Addr) (ty : FieldType) (n : Nat) (f : Nat → Int32) : Prop := ∃ c : Cell, Arr Z h a c ty ∧ c.slots.size = n ∧ n < 2147483648 ∧ ∀ i, i < n → c.slots[i]? = some (.int (f i)) ∧ fits ty (.int (f i)) = true
def AJ (Z : State) (h : Heap) (a : Addr) (n : Nat) (f : Nat → Int64) : Prop := ∃ c : Cell, Arr Z h a c .long ∧ c.slots.size = n ∧ n < 2147483648 ∧ ∀ i, i < n → c.slots[i]? = some (.long (f i))
def updF {α : Type} (f : Nat → α) (i : Nat) (v : α) : Nat → α := fun j => if j = i then v else f j
theorem updF_same {α : Type} (f : Nat → α) (i : Nat) (v : α) : updF f i v i = v := by simp [updF]
theorem updF_ne {α : Type} (f : Nat → α) {i j : Nat} (v : α) (q : ¬ j = i) : updF f i v j = f j := by simp [updF, q]
variable {h' : Heap} {a b : Addr} {ty : FieldType} {n : Nat} {f : Nat → Int32} {fj : Nat → Int64}
theorem AI.lt (A : AI Z h a ty n f) : a < h.size := by obtain ⟨c, A, -⟩ := A; exact A.lt
theorem AJ.lt (A : AJ Z h a n fj) : a < h.size := by obtain ⟨c, A, -⟩ := A; exact A.lt
theorem AI.len (A : AI Z h a ty n f) : n < 2147483648 := by obtain ⟨c, -, -, q, -⟩ := A; exact q
theorem AJ.len (A : AJ Z h a n fj) : n < 2147483648 := by obtain ⟨c, -, -, q, -⟩ := A; exact q
theorem AI.ext (A : AI Z h a ty n f) (E : Ext h h') : AI Z h' a ty n f := by obtain ⟨c, A, r⟩ := A; exact ⟨c, A.ext E, r⟩
theorem AJ.ext (A : AJ Z h a n fj) (E : Ext h h') : AJ Z h' a n fj := by obtain ⟨c, A, r⟩ := A; exact ⟨c, A.ext E, r⟩
theorem AI.other {s0 : Nat} {v : Value} (A : AI Z h a ty n f) (W : Wr h h' b s0 v) (q : a ≠ b) : AI Z h' a ty n f := by obtain ⟨c, A, r⟩ := A; exact ⟨c, A.other W q, r⟩
theorem AJ.other {s0 : Nat} {v : Value} (A : AJ Z h a n fj) (W : Wr h h' b s0 v) (q : a ≠ b) : AJ Z h' a n fj := by obtain ⟨c, A, r⟩ := A; exact ⟨c, A.other W q, r⟩
theorem AI.keep {ws : List Addr} (A : AI Z h a ty n f) (W : Keep h h' ws) (q : a ∉ ws) : AI Z h' a ty n f := by obtain ⟨c, A, r⟩ := A; exact ⟨c, ⟨W.2.1 a c A.1 q, A.2⟩, r⟩
theorem AJ.keep {ws : List Addr} (A : AJ Z h a n fj) (W : Keep h h' ws) (q : a ∉ ws) : AJ Z h' a n fj := by obtain ⟨c, A, r⟩ := A; exact ⟨c, ⟨W.2.1 a c A.1 q, A.2⟩, r⟩
theorem AI.congr {g : Nat → Int32} (A : AI Z h a ty n f) (q : ∀ i, i < n → f i = g i) : AI Z h a ty n g := by obtain ⟨c, A, r1, r2, r3⟩ := A; exact ⟨c, A, r1, r2, fun i hi => by rw [← q i hi]; exact r3 i hi⟩
theorem AJ.congr {g : Nat → Int64} (A : AJ Z h a n fj) (q : ∀ i, i < n → fj i = g i) : AJ Z h a n g := by obtain ⟨c, A, r1, r2, r3⟩ := A; exact ⟨c, A, r1, r2, fun i hi => by rw [r3 i hi, q i hi]⟩
theorem clampI {j : Int32} {i : Nat} (hj : j.toInt = (i : Int)) : j.toNatClampNeg = i := by
  have q : j.toNatClampNeg = j.toInt.toNat := rfl
  rw [q, hj]; rfl
theorem inbI {c : Cell} {j : Int32} {i : Nat} (hj : j.toInt = (i : Int)) (hi : i < c.slots.size) : ¬ (j < 0 ∨ c.slots.size ≤ j.toNatClampNeg) := by
  rw [clampI hj]
  intro q
  rcases q with q | q
  · have q2 := Int32.lt_iff_toInt_lt.mp q
    have z : (0 : Int32).toInt = 0 := rfl
    omega
  · omega
theorem AI.same {c : Cell} {i : Nat} {v : Int32} (A : Arr Z h a c ty) (h1 : c.slots.size = n) (h2 : n < 2147483648) (h3 : ∀ i, i < n → c.slots[i]? = some (.int (f i)) ∧ fits ty (.int (f i)) = true) (W : Wr h h' a i (.int v)) (hi : i < n) (hft : fits ty (.int v) = true) : AI Z h' a ty n (updF f i v) := by
  refine ⟨_, A.same W, by simp [Cell.setSlot, h1], h2, fun j hj => ?_⟩
  by_cases q : j = i
  · subst q
    rw [updF_same]
    exact ⟨by simp [Cell.setSlot, h1, hj], hft⟩
  · rw [updF_ne _ _ q]
    have q' : ¬ i = j := fun e => q e.symm
    exact ⟨by simp [Cell.setSlot, Array.getElem?_setIfInBounds, q', (h3 j hj).1], (h3 j hj).2⟩
theorem AJ.same {c : Cell} {i : Nat} {v : Int64} (A : Arr Z h a c .long) (h1 : c.slots.size = n) (h2 : n < 2147483648) (h3 : ∀ i, i < n → c.slots[i]? = some (.long (fj i))) (W : Wr h h' a i (.long v)) (hi : i < n) : AJ Z h' a n (updF fj i v) := by
  refine ⟨_, A.same W, by simp [Cell.setSlot, h1], h2, fun j hj => ?_⟩
  by_cases q : j = i
  · subst q
    rw [updF_same]
    simp [Cell.setSlot, h1, hj]
  · rw [updF_ne _ _ q]
    have q' : ¬ i = j := fun e => q e.symm
    simp [Cell.setSlot, Array.getElem?_setIfInBounds, q', h3 j hj]
theorem px_iaload (S : St K Z R y bytes maxL ret n0 T h cl sl) (A : AI Z h a .int n f) {j v : Int32} {i : Nat} (hj : j.toInt = (i : Int)) (hi : i < n) (hv : f i = v) (hd : decode bytes pc = .ok (.iaload, 1)) (hp : pc + 1 = pc') (k : Go K R n0 Q T pc' L (.int v :: st)) : Go K R n0 Q T pc L (.int j :: .ref a :: st) := by
  subst hp
  subst hv
  obtain ⟨⟨locs, X, hF⟩, e0, hn0, hx, hZ, hby, hml, hret, hlk, hown, hnm⟩ := S
  obtain ⟨c, A, h1, h2, h3⟩ := A
  exact Go.step (fun _ t => X.iaload hx (j := j) (v := .int (f i)) (by rw [e0]; exact A.1) (State.isArrayOf_alike hZ.alike A.2.1) A.2.2 (inbI hj (h1 ▸ hi)) (by rw [clampI hj]; exact (h3 i hi).1) (g := mkF K.m pc L (.int j :: .ref a :: st)) rfl rfl (hb hby hd) _ t) k
theorem px_caload (S : St K Z R y bytes maxL ret n0 T h cl sl) (A : AI Z h a .char n f) {j v : Int32} {i : Nat} (hj : j.toInt = (i : Int)) (hi : i < n) (hv : f i = v) (hd : decode bytes pc = .ok (.caload, 1)) (hp : pc + 1 = pc') (k : Go K R n0 Q T pc' L (.int v :: st)) : Go K R n0 Q T pc L (.int j :: .ref a :: st) := by
  subst hp
  subst hv
  obtain ⟨⟨locs, X, hF⟩, e0, hn0, hx, hZ, hby, hml, hret, hlk, hown, hnm⟩ := S
  obtain ⟨c, A, h1, h2, h3⟩ := A
  exact Go.step (fun _ t => X.caload hx (j := j) (v := .int (f i)) (by rw [e0]; exact A.1) (State.isArrayOf_alike hZ.alike A.2.1) A.2.2 (inbI hj (h1 ▸ hi)) (by rw [clampI hj]; exact (h3 i hi).1) (g := mkF K.m pc L (.int j :: .ref a :: st)) rfl rfl (hb hby hd) _ t) k
theorem px_saload (S : St K Z R y bytes maxL ret n0 T h cl sl) (A : AI Z h a .short n f) {j v : Int32} {i : Nat} (hj : j.toInt = (i : Int)) (hi : i < n) (hv : f i = v) (hd : decode bytes pc = .ok (.saload, 1)) (hp : pc + 1 = pc') (k : Go K R n0 Q T pc' L (.int v :: st)) : Go K R n0 Q T pc L (.int j :: .ref a :: st) := by
  subst hp
  subst hv
  obtain ⟨⟨locs, X, hF⟩, e0, hn0, hx, hZ, hby, hml, hret, hlk, hown, hnm⟩ := S
  obtain ⟨c, A, h1, h2, h3⟩ := A
  exact Go.step (fun _ t => X.saload hx (j := j) (v := .int (f i)) (by rw [e0]; exact A.1) (State.isArrayOf_alike hZ.alike A.2.1) A.2.2 (inbI hj (h1 ▸ hi)) (by rw [clampI hj]; exact (h3 i hi).1) (g := mkF K.m pc L (.int j :: .ref a :: st)) rfl rfl (hb hby hd) _ t) k
theorem px_baload (S : St K Z R y bytes maxL ret n0 T h cl sl) (A : AI Z h a .byte n f) {j v : Int32} {i : Nat} (hj : j.toInt = (i : Int)) (hi : i < n) (hv : f i = v) (hd : decode bytes pc = .ok (.baload, 1)) (hp : pc + 1 = pc') (k : Go K R n0 Q T pc' L (.int v :: st)) : Go K R n0 Q T pc L (.int j :: .ref a :: st) := by
  subst hp
  subst hv
  obtain ⟨⟨locs, X, hF⟩, e0, hn0, hx, hZ, hby, hml, hret, hlk, hown, hnm⟩ := S
  obtain ⟨c, A, h1, h2, h3⟩ := A
  exact Go.step (fun _ t => X.baloadBytes hx (j := j) (v := .int (f i)) (by rw [e0]; exact A.1) (State.isArrayOf_alike hZ.alike A.2.1) A.2.2 (inbI hj (h1 ▸ hi)) (by rw [clampI hj]; exact (h3 i hi).1) (g := mkF K.m pc L (.int j :: .ref a :: st)) rfl rfl (hb hby hd) _ t) k
theorem px_laload (S : St K Z R y bytes maxL ret n0 T h cl sl) (A : AJ Z h a n fj) {j : Int32} {v : Int64} {i : Nat} (hj : j.toInt = (i : Int)) (hi : i < n) (hv : fj i = v) (hd : decode bytes pc = .ok (.laload, 1)) (hp : pc + 1 = pc') (k : Go K R n0 Q T pc' L (.long v :: st)) : Go K R n0 Q T pc L (.int j :: .ref a :: st) := by
  subst hp
  subst hv
  obtain ⟨⟨locs, X, hF⟩, e0, hn0, hx, hZ, hby, hml, hret, hlk, hown, hnm⟩ := S
  obtain ⟨c, A, h1, h2, h3⟩ := A
  exact Go.step (fun _ t => X.laload hx (j := j) (v := .long (fj i)) (by rw [e0]; exact A.1) (State.isArrayOf_alike hZ.alike A.2.1) A.2.2 (inbI hj (h1 ▸ hi)) (by rw [clampI hj]; exact h3 i hi) (g := mkF K.m pc L (.int j :: .ref a :: st)) rfl rfl (hb hby hd) _ t) k
theorem len32 {c : Cell} (h1 : c.slots.size = n) (h2 : n < 2147483648) {v : Int32} (hv : v.toInt = (n : Int)) : c.slots.size.toInt32 = v := by
  rw [h1]
  apply Int32.toInt_inj.mp
  rw [hv]
  have := Int32.toInt_ofNat_of_lt (n := n) h2
  exact this
theorem px_alenI (S : St K Z R y bytes maxL ret n0 T h cl sl) (A : AI Z h a ty n f) {v : Int32} (hv : v.toInt = (n : Int)) (hd : decode bytes pc = .ok (.arraylength, 1)) (hp : pc + 1 = pc') (k : Go K R n0 Q T pc' L (.int v :: st)) : Go K R n0 Q T pc L (.ref a :: st) := by
  subst hp
  obtain ⟨⟨locs, X, hF⟩, e0, hn0, hx, hZ, hby, hml, hret, hlk, hown, hnm⟩ := S
  obtain ⟨c, A, h1, h2, h3⟩ := A
  refine Go.step (fun _ t => X.arraylength hx (by rw [e0]; exact A.1) (State.isArrayOf_alike hZ.alike A.2.1) (g := mkF K.m pc L (.ref a :: st)) rfl rfl (hb hby hd) _ t) ?_
  rw [len32 h1 h2 hv]
  exact k
theorem px_alenJ (S : St K Z R y bytes maxL ret n0 T h cl sl) (A : AJ Z h a n fj) {v : Int32} (hv : v.toInt = (n : Int)) (hd : decode bytes pc = .ok (.arraylength, 1)) (hp : pc + 1 = pc') (k : Go K R n0 Q T pc' L (.int v :: st)) : Go K R n0 Q T pc L (.ref a :: st) := by
  subst hp
  obtain ⟨⟨locs, X, hF⟩, e0, hn0, hx, hZ, hby, hml, hret, hlk, hown, hnm⟩ := S
  obtain ⟨c, A, h1, h2, h3⟩ := A
  refine Go.step (fun _ t => X.arraylength hx (by rw [e0]; exact A.1) (State.isArrayOf_alike hZ.alike A.2.1) (g := mkF K.m pc L (.ref a :: st)) rfl rfl (hb hby hd) _ t) ?_
  rw [len32 h1 h2 hv]
  exact k
theorem px_iastore (S : St K Z R y bytes maxL ret n0 T h cl sl) (A : AI Z h a .int n f) (ha : n0 ≤ a) {j u v : Int32} {i : Nat} (hj : j.toInt = (i : Int)) (hi : i < n) (hv : u = v) (hd : decode bytes pc = .ok (.iastore, 1)) (hp : pc + 1 = pc')
    (k : ∀ (T' : State) (h' : Heap), St K Z R y bytes maxL ret n0 T' h' cl sl → Wr h h' a i (.int v) → AI Z h' a .int n (updF f i v) → Go K R n0 Q T' pc' L st) : Go K R n0 Q T pc L (.int u :: .int j :: .ref a :: st) := by
  subst hp
  subst hv
  obtain ⟨⟨locs, X, hF⟩, e0, hn0, hx, hZ, hby, hml, hret, hlk, hown, hnm⟩ := S
  obtain ⟨c, A, h1, h2, h3⟩ := A
  obtain ⟨T', h', X', e', W, stp⟩ := stI X hx hZ e0 A (j := j) (inbI hj (h1 ▸ hi)) (g := mkF K.m pc L (.int u :: .int j :: .ref a :: st)) rfl rfl (hb hby hd)
  have hF' := Fr.snoc X' hF ha
  rw [clampI hj] at W
  exact Go.step stp (k T' h' ⟨⟨_, X', hF'⟩, e', hn0, hx, hZ, hby, hml, hret, hlk, hown, hnm⟩ W (AI.same A h1 h2 h3 W hi rfl))
theorem px_castore (S : St K Z R y bytes maxL ret n0 T h cl sl) (A : AI Z h a .char n f) (ha : n0 ≤ a) {j u v : Int32} {i : Nat} (hj : j.toInt = (i : Int)) (hi : i < n) (hv : (nar .char u) = v) (hd : decode bytes pc = .ok (.castore, 1)) (hp : pc + 1 = pc')
    (k : ∀ (T' : State) (h' : Heap), St K Z R y bytes maxL ret n0 T' h' cl sl → Wr h h' a i (.int v) → AI Z h' a .char n (updF f i v) → Go K R n0 Q T' pc' L st) : Go K R n0 Q T pc L (.int u :: .int j :: .ref a :: st) := by
  subst hp
  subst hv
  obtain ⟨⟨locs, X, hF⟩, e0, hn0, hx, hZ, hby, hml, hret, hlk, hown, hnm⟩ := S
  obtain ⟨c, A, h1, h2, h3⟩ := A
  obtain ⟨T', h', X', e', W, stp⟩ := stC X hx hZ e0 A (j := j) (inbI hj (h1 ▸ hi)) (g := mkF K.m pc L (.int u :: .int j :: .ref a :: st)) rfl rfl (hb hby hd)
  have hF' := Fr.snoc X' hF ha
  rw [clampI hj] at W
  exact Go.step stp (k T' h' ⟨⟨_, X', hF'⟩, e', hn0, hx, hZ, hby, hml, hret, hlk, hown, hnm⟩ W (AI.same A h1 h2 h3 W hi (fits_nar_char _)))
theorem px_sastore (S : St K Z R y bytes maxL ret n0 T h cl sl) (A : AI Z h a .short n f) (ha : n0 ≤ a) {j u v : Int32} {i : Nat} (hj : j.toInt = (i : Int)) (hi : i < n) (hv : (nar .short u) = v) (hd : decode bytes pc = .ok (.sastore, 1)) (hp : pc + 1 = pc')
    (k : ∀ (T' : State) (h' : Heap), St K Z R y bytes maxL ret n0 T' h' cl sl → Wr h h' a i (.int v) → AI Z h' a .short n (updF f i v) → Go K R n0 Q T' pc' L st) : Go K R n0 Q T pc L (.int u :: .int j :: .ref a :: st) := by
  subst hp
  subst hv
  obtain ⟨⟨locs, X, hF⟩, e0, hn0, hx, hZ, hby, hml, hret, hlk, hown, hnm⟩ := S
  obtain ⟨c, A, h1, h2, h3⟩ := A
  obtain ⟨T', h', X', e', W, stp⟩ := stS X hx hZ e0 A (j := j) (inbI hj (h1 ▸ hi)) (g := mkF K.m pc L (.int u :: .int j :: .ref a :: st)) rfl rfl (hb hby hd)
  have hF' := Fr.snoc X' hF ha
  rw [clampI hj] at W
  exact Go.step stp (k T' h' ⟨⟨_, X', hF'⟩, e', hn0, hx, hZ, hby, hml, hret, hlk, hown, hnm⟩ W (AI.same A h1 h2 h3 W hi (fits_nar_short _)))
theorem px_bastore (S : St K Z R y bytes maxL ret n0 T h cl sl) (A : AI Z h a .byte n f) (ha : n0 ≤ a) {j u v : Int32} {i : Nat} (hj : j.toInt = (i : Int)) (hi : i < n) (hv : (nar .byte u) = v) (hd : decode bytes pc = .ok (.bastore, 1)) (hp : pc + 1 = pc')
    (k : ∀ (T' : State) (h' : Heap), St K Z R y bytes maxL ret n0 T' h' cl sl → Wr h h' a i (.int v) → AI Z h' a .byte n (updF f i v) → Go K R n0 Q T' pc' L st) : Go K R n0 Q T pc L (.int u :: .int j :: .ref a :: st) := by
  subst hp
  subst hv
  obtain ⟨⟨locs, X, hF⟩, e0, hn0, hx, hZ, hby, hml, hret, hlk, hown, hnm⟩ := S
  obtain ⟨c, A, h1, h2, h3⟩ := A
  obtain ⟨T', h', X', e', W, stp⟩ := stB X hx hZ e0 A (j := j) (inbI hj (h1 ▸ hi)) (g := mkF K.m pc L (.int u :: .int j :: .ref a :: st)) rfl rfl (hb hby hd)
  have hF' := Fr.snoc X' hF ha
  rw [clampI hj] at W
  exact Go.step stp (k T' h' ⟨⟨_, X', hF'⟩, e', hn0, hx, hZ, hby, hml, hret, hlk, hown, hnm⟩ W (AI.same A h1 h2 h3 W hi (fits_nar_byte _)))
theorem px_lastore (S : St K Z R y bytes maxL ret n0 T h cl sl) (A : AJ Z h a n fj) (ha : n0 ≤ a) {j : Int32} {u : Int64} {i : Nat} (hj : j.toInt = (i : Int)) (hi : i < n) (hd : decode bytes pc = .ok (.lastore, 1)) (hp : pc + 1 = pc')
    (k : ∀ (T' : State) (h' : Heap), St K Z R y bytes maxL ret n0 T' h' cl sl → Wr h h' a i (.long u) → AJ Z h' a n (updF fj i u) → Go K R n0 Q T' pc' L st) : Go K R n0 Q T pc L (.long u :: .int j :: .ref a :: st) := by
  subst hp
  obtain ⟨⟨locs, X, hF⟩, e0, hn0, hx, hZ, hby, hml, hret, hlk, hown, hnm⟩ := S
  obtain ⟨c, A, h1, h2, h3⟩ := A
  obtain ⟨T', h', X', e', W, stp⟩ := stJ X hx hZ e0 A (j := j) (inbI hj (h1 ▸ hi)) (g := mkF K.m pc L (.long u :: .int j :: .ref a :: st)) rfl rfl (hb hby hd)
  have hF' := Fr.snoc X' hF ha
  rw [clampI hj] at W
  exact Go.step stp (k T' h' ⟨⟨_, X', hF'⟩, e', hn0, hx, hZ, hby, hml, hret, hlk, hown, hnm⟩ W (AJ.same A h1 h2 h3 W hi))
theorem nneg {u : Int32} (hu : u.toInt = (n : Int)) : ¬ u < 0 := fun q => by
  have q2 := Int32.lt_iff_toInt_lt.mp q
  have z : (0 : Int32).toInt = 0 := rfl
  omega
theorem small {u : Int32} (hu : u.toInt = (n : Int)) : n < 2147483648 := by
  have := (rng32 u).2
  omega
theorem px_newarr {aty : ArrayType} (S : St K Z R y bytes maxL ret n0 T h cl sl) (w : (Jvm.Cond.arrayClass (newarray.typeOf aty)).before a0 Z = true) (hdv : defaultValue (newarray.typeOf aty) = .int 0) {u : Int32} {cap : Nat} (hu : u.toInt = (n : Int)) (hcap : n ≤ cap) (hb8 : cap * 8 ≤ 536870912) (hc : cl + 1 ≤ R.cells) (hs : sl + cap ≤ R.slots)
    (hd : decode bytes pc = .ok (.newarray aty, 2)) (hp : pc + 2 = pc')
    (k : ∀ (T' : State) (h' : Heap) (a : Addr), a = h.size → n0 ≤ a → St K Z R y bytes maxL ret n0 T' h' (cl + 1) (sl + cap) → Ext h h' → AI Z h' a (newarray.typeOf aty) n (fun _ => 0) → Go K R n0 Q T' pc' L (.ref a :: st)) : Go K R n0 Q T pc L (.int u :: st) := by
  subst hp
  have hsz := S.size
  obtain ⟨⟨locs, X, hF⟩, e0, hn0, hx, hZ, hby, hml, hret, hlk, hown, hnm⟩ := S
  obtain ⟨T', h', cA, X', e', E, A, stp⟩ := newP X hx hZ w e0 (g := mkF K.m pc L (.int u :: st)) rfl (hb hby hd) rfl (nneg hu) (cap := cap) (by rw [clampI hu]; exact hcap) hb8 hc hs
  refine Go.step stp (k T' h' h.size rfl hsz ⟨⟨_, X', hF⟩, e', hn0, hx, hZ, hby, hml, hret, hlk, hown, hnm⟩ E ⟨_, A, by rw [sz_new, clampI hu], small hu, fun i hi => ⟨?_, ?_⟩⟩)
  · simp [newA, clampI hu, hi, hdv]
  · rw [← hdv]; cases aty <;> first | rfl | (simp [newarray.typeOf, defaultValue] at hdv)
theorem px_newarrJ (S : St K Z R y bytes maxL ret n0 T h cl sl) (w : (Jvm.Cond.arrayClass FieldType.long).before a0 Z = true) {u : Int32} {cap : Nat} (hu : u.toInt = (n : Int)) (hcap : n ≤ cap) (hb8 : cap * 8 ≤ 536870912) (hc : cl + 1 ≤ R.cells) (hs : sl + cap ≤ R.slots)
    (hd : decode bytes pc = .ok (.newarray .long, 2)) (hp : pc + 2 = pc')
    (k : ∀ (T' : State) (h' : Heap) (a : Addr), a = h.size → n0 ≤ a → St K Z R y bytes maxL ret n0 T' h' (cl + 1) (sl + cap) → Ext h h' → AJ Z h' a n (fun _ => 0) → Go K R n0 Q T' pc' L (.ref a :: st)) : Go K R n0 Q T pc L (.int u :: st) := by
  subst hp
  have hsz := S.size
  obtain ⟨⟨locs, X, hF⟩, e0, hn0, hx, hZ, hby, hml, hret, hlk, hown, hnm⟩ := S
  obtain ⟨T', h', cA, X', e', E, A, stp⟩ := newP X hx hZ (aty := .long) w e0 (g := mkF K.m pc L (.int u :: st)) rfl (hb hby hd) rfl (nneg hu) (cap := cap) (by rw [clampI hu]; exact hcap) hb8 hc hs
  refine Go.step stp (k T' h' h.size rfl hsz ⟨⟨_, X', hF⟩, e', hn0, hx, hZ, hby, hml, hret, hlk, hown, hnm⟩ E ⟨_, A, by rw [sz_new, clampI hu], small hu, fun i hi => ?_⟩)
  simp [newA, clampI hu, hi, defaultValue, newarray.typeOf]
theorem px_new {C : String} {idx k0 : Nat} (S : St K Z R y bytes maxL ret n0 T h cl sl) (w : (Jvm.Cond.classLink y.cls idx C).before a0 Z = true) (wi : (Jvm.Cond.instantiable C k0).before a0 Z = true) (wz : (Jvm.Cond.initialized C).before a0 Z = true) (hc : cl + 1 ≤ R.cells) (hs : sl + k0 ≤ R.slots) (hd : decode bytes pc = .ok (.new idx, 3)) (hp : pc + 3 = pc')
    (k : ∀ (T' : State) (h' : Heap) (a : Addr), a = h.size → n0 ≤ a → St K Z R y bytes maxL ret n0 T' h' (cl + 1) (sl + k0) → Ext h h' → Exa Z h' a C → (∀ {O nm d : String} {ty : FieldType}, Laid Z a0 C O nm d → parseFieldDescriptor d = some ty → Fld Z h' a O nm d (defaultValue ty)) → Go K R n0 Q T' pc' L (.ref a :: st)) : Go K R n0 Q T pc L st := by
  subst hp
  have hsz := S.size
  obtain ⟨⟨locs, X, hF⟩, e0, hn0, hx, hZ, hby, hml, hret, hlk, hown, hnm⟩ := S
  obtain ⟨T', h', X', e', E, A, D, -, stp⟩ := newO X hx hZ hown w wi wz e0 (g := mkF K.m pc L st) rfl (hb hby hd) hc hs
  exact Go.step stp (k T' h' h.size rfl hsz ⟨⟨_, X', hF⟩, e', hn0, hx, hZ, hby, hml, hret, hlk, hown, hnm⟩ E A (fun {O nm d ty} => D))
theorem px_getfield {C nm d : String} {idx : Nat} {v : Value} (S : St K Z R y bytes maxL ret n0 T h cl sl) (w : (Jvm.Cond.fieldLink y.cls idx C nm d).before a0 Z = true) (F : Fld Z h a C nm d v) (hd : decode bytes pc = .ok (.getfield idx, 3)) (hp : pc + 3 = pc')
    (k : ∀ (T' : State), St K Z R y bytes maxL ret n0 T' h cl sl → Go K R n0 Q T' pc' L (v :: st)) : Go K R n0 Q T pc L (.ref a :: st) := by
  subst hp
  obtain ⟨⟨locs, X, hF⟩, e0, hn0, hx, hZ, hby, hml, hret, hlk, hown, hnm⟩ := S
  obtain ⟨T', X', e', stp⟩ := getF X hx hZ hown (host := "") (Or.inl w) Via.refl e0 F (g := mkF K.m pc L (.ref a :: st)) rfl rfl (hb hby hd)
  exact Go.step stp (k T' ⟨⟨_, X', hF⟩, e', hn0, hx, hZ, hby, hml, hret, hlk, hown, hnm⟩)
theorem px_putfield {C nm d : String} {idx kk : Nat} {v v' old : Value} {ty : FieldType} (S : St K Z R y bytes maxL ret n0 T h cl sl) (w : (Jvm.Cond.fieldLink y.cls idx C nm d).before a0 Z = true) (F : Fld Z h a C nm d old) (E : Exa Z h a C) (ha : n0 ≤ a)
    (hl : (Jvm.Cond.lays C C nm d).before a0 Z = true ∨ ((Jvm.Cond.laysFinal C C nm d).before a0 Z = true ∧ y.cls = C ∧ y.name = "<init>")) (wi : (Jvm.Cond.instantiable C kk).before a0 Z = true) (hty : parseFieldDescriptor d = some ty) (hv : narrow ty v = v') (hf : fits ty v' = true) (hd : decode bytes pc = .ok (.putfield idx, 3)) (hp : pc + 3 = pc')
    (k : ∀ (T' : State) (h' : Heap), St K Z R y bytes maxL ret n0 T' h' cl sl → Wr h h' a (Jvm.RoadKit.slotOf Z C nm d) v' → Fld Z h' a C nm d v' → Exa Z h' a C → Go K R n0 Q T' pc' L st) : Go K R n0 Q T pc L (v :: .ref a :: st) := by
  subst hp
  obtain ⟨⟨locs, X, hF⟩, e0, hn0, hx, hZ, hby, hml, hret, hlk, hown, hnm⟩ := S
  obtain ⟨T', h', X', e', W, stp⟩ := putFN X hx hZ hown w Via.refl e0 F E (hl.imp id fun q => ⟨q.1, q.2.1, hnm.trans q.2.2⟩) wi hty hv hf (g := mkF K.m pc L (v :: .ref a :: st)) rfl rfl (hb hby hd)
  have hF' := Fr.snoc X' hF ha
  exact Go.step stp (k T' h' ⟨⟨_, X', hF'⟩, e', hn0, hx, hZ, hby, hml, hret, hlk, hown, hnm⟩ W (F.same W) (E.wr W))
theorem px_initO {idx W : Nat} (S : St K Z R y bytes maxL ret n0 T h cl sl) (w1 : (Jvm.Cond.methodLink y.cls idx Lib.objectInit).before a0 Z = true) (w2 : (Jvm.Cond.instanceMethod Lib.objectInit).before a0 Z = true) (w3 : (Jvm.Cond.code Lib.objectInit ⟨#[0xb1]⟩ 1 none).before a0 Z = true) (hL : L.size = maxL) (hfr : 1 ≤ R.frames) (hW : (st.map fun v => v.category).sum = W) (hlo : W + 12 ≤ R.locals) (hd : decode bytes pc = .ok (.invokespecial idx, 3)) (hp : pc + 3 = pc')
    (k : ∀ (T' : State), St K Z R y bytes maxL ret n0 T' h cl sl → Go K R n0 Q T' pc' L st) : Go K R n0 Q T pc L (.ref a :: st) := by
  subst hp
  obtain ⟨⟨locs, X, hF⟩, e0, hn0, hx, hZ, hby, hml, hret, hlk, hown, hnm⟩ := S
  obtain ⟨T', X', e', stp⟩ := initO X hx hZ hown w1 w2 w3 e0 (g := mkF K.m pc L (.ref a :: st)) rfl (hL.trans hml.symm) rfl (hb hby hd) hfr (W := W) (by show 2 * 0 + _ ≤ _; rw [hW]; omega) hlo
  exact Go.step stp (k T' ⟨⟨_, X', hF⟩, e', hn0, hx, hZ, hby, hml, hret, hlk, hown, hnm⟩)
theorem px_callS {y' : MethodName} {b' : ByteArray} {mx' : Nat} {rt' : Option FieldType} {rm : Room} {as' : List Value} {Q' : Option Value → Heap → Prop} {W idx : Nat} {ps : List FieldType} {rr : Option FieldType} (S : St K Z R y bytes maxL ret n0 T h cl sl) (C : Ctr Z n0 y' b' mx' rt' rm as' h Q') (w1 : (Jvm.Cond.methodLink y.cls idx y').before a0 Z = true) (w2 : (Jvm.Cond.static y').before a0 Z = true) (w3 : (Jvm.Cond.initialized y'.cls).before a0 Z = true) (w4 : (Jvm.Cond.code y' b' mx' rt').before a0 Z = true) (hy : y'.cls ≠ "java/lang/invoke/MethodHandle" ∧ y'.cls ≠ "java/lang/invoke/VarHandle")
    (hps : parseMethodDescriptor y'.desc = some ⟨ps, rr⟩) (hlen : as'.length = ps.length) (hL : L.size = maxL) (hfr : rm.frames + 1 ≤ R.frames) (hW : (st.map fun v => v.category).sum = W) (hlo : W + (mx' + 11) + rm.locals ≤ R.locals) (hc : cl + rm.cells ≤ R.cells) (hs : sl + rm.slots ≤ R.slots) (hd : decode bytes pc = .ok (.invokestatic idx, 3)) (hp : pc + 3 = pc') {stk : List Value} (hst : stk = as'.reverse ++ st)
    (k : ∀ (T' : State) (h' : Heap) (v : Option Value), St K Z R y bytes maxL ret n0 T' h' (cl + rm.cells) (sl + rm.slots) → Q' v h' → Go K R n0 Q T' pc' L (v.toList ++ st)) : Go K R n0 Q T pc L stk := by
  subst hp
  subst hst
  obtain ⟨⟨locs, X, hF⟩, e0, hn0, hx, hZ, hby, hml, hret, hlk, hown, hnm⟩ := S
  obtain ⟨v, _, ⟨T1, L1, c1, n1⟩, -, X1, ⟨Lc, hq, hl1, hc1, hs1⟩, stp⟩ := Jvm.LawKit.callS X hx (y := y') hown (mvT hZ w1) (mvT hZ w2) (mvT hZ w3) (mvT hZ w4) hy (backOf (Q := fun v h' L => Q' v h' ∧ Fr n0 L) (W := W) (C K.l []) hZ w4 w3 hfr hlo) (g := mkF K.m pc L (as'.reverse ++ st)) rfl (hL.trans hml.symm) (argsL := as') (rest := st) (lenOf hps hlen) rfl (by show 2 * 0 + _ ≤ _; rw [hW]; omega) (hb hby hd) (fun _ _ => ⟨rfl, e0, hc, hs⟩)
  dsimp only [Pt.U, Pt.locs, Pt.cells, Pt.slots] at X1 hl1 hc1 hs1 stp hq
  subst hl1 hc1 hs1
  obtain ⟨hq, hFc⟩ := hq
  exact Go.step stp (k T1 T1.heap v ⟨⟨_, X1, Fr.app hF hFc⟩, rfl, hn0, hx, hZ, hby, hml, hret, hlk, hown, hnm⟩ hq)
theorem Go.trans {T' : State} {st' : List Value} (hs : Steps K.p.tables K.e K.below (T.setTop (mkF K.m pc L st)) (T'.setTop (mkF K.m pc' L' st'))) (k : Go K R n0 Q T' pc' L' st') : Go K R n0 Q T pc L st := by
  obtain ⟨s₂, o, h1, r⟩ := k
  exact ⟨s₂, o, hs.trans h1, r⟩
theorem px_callC {y' : MethodName} {b' : ByteArray} {mx' : Nat} {rm : Room} {as' : List Value} {Q' : Option Value → Heap → Prop} {W idx : Nat} {ps : List FieldType} {rr : Option FieldType} (S : St K Z R y bytes maxL ret n0 T h cl sl) (C : Ctr Z n0 y' b' mx' none rm (.ref a :: as') h Q') (hin : y'.name = "<init>") (w1 : (Jvm.Cond.methodLink y.cls idx y').before a0 Z = true) (w2 : (Jvm.Cond.instanceMethod y').before a0 Z = true) (w3 : (Jvm.Cond.initialized y'.cls).before a0 Z = true) (w4 : (Jvm.Cond.code y' b' mx' none).before a0 Z = true) (hy : y'.cls ≠ "java/lang/invoke/MethodHandle" ∧ y'.cls ≠ "java/lang/invoke/VarHandle")
    (hps : parseMethodDescriptor y'.desc = some ⟨ps, rr⟩) (hlen : as'.length = ps.length) (hL : L.size = maxL) (hfr : rm.frames + 1 ≤ R.frames) (hW : (st.map fun v => v.category).sum = W) (hlo : W + (mx' + 11) + rm.locals ≤ R.locals) (hc : cl + rm.cells ≤ R.cells) (hs : sl + rm.slots ≤ R.slots) (hd : decode bytes pc = .ok (.invokespecial idx, 3)) (hp : pc + 3 = pc') {stk : List Value} (hst : stk = as'.reverse ++ .ref a :: st)
    (k : ∀ (T' : State) (h' : Heap) (v : Option Value), St K Z R y bytes maxL ret n0 T' h' (cl + rm.cells) (sl + rm.slots) → Q' v h' → Go K R n0 Q T' pc' L (v.toList ++ st)) : Go K R n0 Q T pc L stk := by
  subst hp
  subst hst
  obtain ⟨⟨locs, X, hF⟩, e0, hn0, hx, hZ, hby, hml, hret, hlk, hown, hnm⟩ := S
  obtain ⟨v, _, ⟨T1, L1, c1, n1⟩, -, X1, ⟨Lc, hq, hl1, hc1, hs1⟩, stp⟩ := X.specialBack hx (y := y') hin hown (mvT hZ w1) (mvT hZ w2) (mvT hZ w4) hy (backOf (Q := fun v h' L => Q' v h' ∧ Fr n0 L) (W := W) (C K.l []) hZ w4 w3 hfr hlo) (g := mkF K.m pc L (as'.reverse ++ .ref a :: st)) rfl (hL.trans hml.symm) (Steps.refl _) (a := a) (argsL := as') (rest := st) (lenOf hps hlen) rfl (by show 2 * 0 + _ ≤ _; rw [hW]; omega) (hb hby hd) (fun _ _ => ⟨rfl, e0, hc, hs⟩)
  dsimp only [Pt.U, Pt.locs, Pt.cells, Pt.slots] at X1 hl1 hc1 hs1 stp hq
  subst hl1 hc1 hs1
  obtain ⟨hq, hFc⟩ := hq
  exact Go.trans stp (k T1 T1.heap v ⟨⟨_, X1, Fr.app hF hFc⟩, rfl, hn0, hx, hZ, hby, hml, hret, hlk, hown, hnm⟩ hq)
theorem px_callV {y' : MethodName} {b' : ByteArray} {mx' : Nat} {rt' : Option FieldType} {rm : Room} {as' : List Value} {Q' : Option Value → Heap → Prop} {W idx : Nat} {ps : List FieldType} {rr : Option FieldType} {Cn : String} (S : St K Z R y bytes maxL ret n0 T h cl sl) (C : Ctr Z n0 y' b' mx' rt' rm (.ref a :: as') h Q') (E : Exa Z h a Cn) (w1 : (Jvm.Cond.methodLink y.cls idx y').before a0 Z = true) (w2 : (Jvm.Cond.declares y').before a0 Z = true) (w5 : (Jvm.Cond.selects Cn y' y').before a0 Z = true) (w6 : (Jvm.Cond.instanceMethod y').before a0 Z = true) (w3 : (Jvm.Cond.initialized y'.cls).before a0 Z = true) (w4 : (Jvm.Cond.code y' b' mx' rt').before a0 Z = true) (hnf : NotFace K.s y') (hy : y'.cls ≠ "java/lang/invoke/MethodHandle" ∧ y'.cls ≠ "java/lang/invoke/VarHandle")
    (hps : parseMethodDescriptor y'.desc = some ⟨ps, rr⟩) (hlen : as'.length = ps.length) (hL : L.size = maxL) (hfr : rm.frames + 1 ≤ R.frames) (hW : (st.map fun v => v.category).sum = W) (hlo : W + (mx' + 11) + rm.locals ≤ R.locals) (hc : cl + rm.cells ≤ R.cells) (hs : sl + rm.slots ≤ R.slots) (hd : decode bytes pc = .ok (.invokevirtual idx, 3)) (hp : pc + 3 = pc') {stk : List Value} (hst : stk = as'.reverse ++ .ref a :: st)
    (k : ∀ (T' : State) (h' : Heap) (v : Option Value), St K Z R y bytes maxL ret n0 T' h' (cl + rm.cells) (sl + rm.slots) → Q' v h' → Go K R n0 Q T' pc' L (v.toList ++ st)) : Go K R n0 Q T pc L stk := by
  subst hp
  subst hst
  obtain ⟨⟨locs, X, hF⟩, e0, hn0, hx, hZ, hby, hml, hret, hlk, hown, hnm⟩ := S
  obtain ⟨cq, kq, qa, qb, qc⟩ := isOf hZ e0 E
  obtain ⟨v, _, ⟨T1, L1, c1, n1⟩, -, X1, ⟨Lc, hq, hl1, hc1, hs1⟩, stp⟩ := X.virtualBack hx (y := y') (z := y') hown (mvT hZ w1) (mvT hZ w2) hnf (mvT hZ w5) (mvT hZ w6) hy (backOf (Q := fun v h' L => Q' v h' ∧ Fr n0 L) (W := W) (C K.l []) hZ w4 w3 hfr hlo) qa qc (g := mkF K.m pc L (as'.reverse ++ .ref a :: st)) rfl (hL.trans hml.symm) (Steps.refl _) (argsL := as') (rest := st) (lenOf hps hlen) rfl (by show 2 * 0 + _ ≤ _; rw [hW]; omega) (hb hby hd) (fun _ _ => ⟨rfl, e0, hc, hs⟩)
  dsimp only [Pt.U, Pt.locs, Pt.cells, Pt.slots] at X1 hl1 hc1 hs1 stp hq
  subst hl1 hc1 hs1
  obtain ⟨hq, hFc⟩ := hq
  exact Go.trans stp (k T1 T1.heap v ⟨⟨_, X1, Fr.app hF hFc⟩, rfl, hn0, hx, hZ, hby, hml, hret, hlk, hown, hnm⟩ hq)
theorem px_callI {y' : MethodName} {b' : ByteArray} {mx' : Nat} {rt' : Option FieldType} {rm : Room} {as' : List Value} {Q' : Option Value → Heap → Prop} {W idx : Nat} {ps : List FieldType} {rr : Option FieldType} {Cn : String} {xi : MethodName} {count : Nat} (S : St K Z R y bytes maxL ret n0 T h cl sl) (C : Ctr Z n0 y' b' mx' rt' rm (.ref a :: as') h Q') (E : Exa Z h a Cn) (w1 : (Jvm.Cond.methodLink y.cls idx xi).before a0 Z = true) (w2 : (Jvm.Cond.declares xi).before a0 Z = true) (w7 : (Jvm.Cond.interfaceMethod xi.cls xi.cls xi.name xi.desc).before a0 Z = true) (hface : ((Jvm.Cond.interfaceMethod xi.cls xi.cls xi.name xi.desc).onTables && (Jvm.Cond.interfaceMethod xi.cls xi.cls xi.name xi.desc).keepsFace) = true) (w5 : (Jvm.Cond.selects Cn xi y').before a0 Z = true) (w6 : (Jvm.Cond.instanceMethod y').before a0 Z = true) (w8 : (Jvm.Cond.publicMethod y').before a0 Z = true) (w9 : (Jvm.Cond.unhidden Cn xi.name xi.desc).before a0 Z = true) (w10 : (Jvm.Cond.castable Cn xi.cls).before a0 Z = true) (w3 : (Jvm.Cond.initialized y'.cls).before a0 Z = true) (w4 : (Jvm.Cond.code y' b' mx' rt').before a0 Z = true) (hy : xi.cls ≠ "java/lang/invoke/MethodHandle" ∧ xi.cls ≠ "java/lang/invoke/VarHandle")
    (hps : parseMethodDescriptor xi.desc = some ⟨ps, rr⟩) (hlen : as'.length = ps.length) (hL : L.size = maxL) (hfr : rm.frames + 1 ≤ R.frames) (hW : (st.map fun v => v.category).sum = W) (hlo : W + (mx' + 11) + rm.locals ≤ R.locals) (hc : cl + rm.cells ≤ R.cells) (hs : sl + rm.slots ≤ R.slots) (hd : decode bytes pc = .ok (.invokeinterface idx count, 5)) (hp : pc + 5 = pc') {stk : List Value} (hst : stk = as'.reverse ++ .ref a :: st)
    (k : ∀ (T' : State) (h' : Heap) (v : Option Value), St K Z R y bytes maxL ret n0 T' h' (cl + rm.cells) (sl + rm.slots) → Q' v h' → Go K R n0 Q T' pc' L (v.toList ++ st)) : Go K R n0 Q T pc L stk := by
  subst hp
  subst hst
  obtain ⟨⟨locs, X, hF⟩, e0, hn0, hx, hZ, hby, hml, hret, hlk, hown, hnm⟩ := S
  obtain ⟨cq, kq, qa, qb, qc⟩ := isOf hZ e0 E
  obtain ⟨v, _, ⟨T1, L1, c1, n1⟩, -, X1, ⟨Lc, hq, hl1, hc1, hs1⟩, stp⟩ := X.interfaceBack hx (xi := xi) (y := y') hown (mvT hZ w1) (mvT hZ w2) (mvT hZ w7 hface) (mvT hZ w5) (mvT hZ w6) (mvT hZ w8) (mvT hZ w9) (mvT hZ w10) hy (backOf (Q := fun v h' L => Q' v h' ∧ Fr n0 L) (W := W) (C K.l []) hZ w4 w3 hfr hlo) qa qb qc (g := mkF K.m pc L (as'.reverse ++ .ref a :: st)) rfl (hL.trans hml.symm) (Steps.refl _) (argsL := as') (rest := st) (lenOf hps hlen) rfl (by show 2 * 0 + _ ≤ _; rw [hW]; omega) (hb hby hd) (fun _ _ => ⟨rfl, e0, hc, hs⟩)
  dsimp only [Pt.U, Pt.locs, Pt.cells, Pt.slots] at X1 hl1 hc1 hs1 stp hq
  subst hl1 hc1 hs1
  obtain ⟨hq, hFc⟩ := hq
  exact Go.trans stp (k T1 T1.heap v ⟨⟨_, X1, Fr.app hF hFc⟩, rfl, hn0, hx, hZ, hby, hml, hret, hlk, hown, hnm⟩ hq)
theorem St.nf {y' : MethodName} (S : St K Z R y bytes maxL ret n0 T h cl sl) (w : (Jvm.Cond.selects y'.cls y' y').before a0 Z = true) : NotFace K.s y' := by
  obtain ⟨⟨locs, X, hF⟩, e0, hn0, hx, hZ, hby, hml, hret, hlk, hown, hnm⟩ := S
  exact notFace_of_selects (args := #[]) (mvT hZ w)
theorem px_lsw (S : St K Z R y bytes maxL ret n0 T h cl sl) {df o : Int} {ps : Array (Int × Int)} {pl : List (Int × Int)} {ln : Nat} {u : Int32} (hd : decode bytes pc = .ok (.lookupswitch df ps, ln)) (hpl : ps.toList = pl) (hm : (pl.zip (pl.drop 1)).all (fun (a, next) => a.1 < next.1) = true) (hu : lookupswitch.offset pl df u.toInt = o) (ho : 0 ≤ (pc : Int) + o) (hp : ((pc : Int) + o).toNat = pc') (k : Go K R n0 Q T pc' L st) : Go K R n0 Q T pc L (.int u :: st) := by
  subst hp
  subst hpl
  obtain ⟨⟨locs, X, hF⟩, e0, hn0, hx, hZ, hby, hml, hret, hlk, hown, hnm⟩ := S
  refine Go.step (fun _ t => ?_) k
  have hd' := hb hby hd
  show Steps K.p.tables K.e K.below (T.setTop { method := K.m, pc := pc, locals := L, stack := .int u :: st, locked := none }) _
  jvm_step X.here [X.here.top, hx, hd', lookupswitch.wp_chain, hu, ho]
  exact ⟨by simpa using hm, t⟩
theorem Go.join {α : Type} {P : α → Prop} {pcj : Nat} {Lj : α → Array Slot} {stj : α → List Value} (h1 : ∀ x, P x → Go K R n0 Q T pcj (Lj x) (stj x)) (h2 : (∀ x, P x → Go K R n0 Q T pcj (Lj x) (stj x)) → Go K R n0 Q T pc L st) : Go K R n0 Q T pc L st := h2 h1
theorem Go.joinT {α : Type} {P : α → Prop} {pcj cl' sl' : Nat} {Lj : α → Array Slot} {stj : α → List Value} (S : St K Z R y bytes maxL ret n0 T h cl sl) (h1 : ∀ (x : α) (T' : State), St K Z R y bytes maxL ret n0 T' h cl' sl' → P x → Go K R n0 Q T' pcj (Lj x) (stj x)) (h2 : (∀ (x : α) (T' : State), St K Z R y bytes maxL ret n0 T' h cl' sl' → P x → Go K R n0 Q T' pcj (Lj x) (stj x)) → Go K R n0 Q T pc L st) : Go K R n0 Q T pc L st := h2 h1
theorem Go.joinH {α : Type} {P : α → Heap → Prop} {pcj cl' sl' : Nat} {Lj : α → Array Slot} {stj : α → List Value} (S : St K Z R y bytes maxL ret n0 T h cl sl) (h1 : ∀ (x : α) (T' : State) (h' : Heap), St K Z R y bytes maxL ret n0 T' h' cl' sl' → P x h' → Go K R n0 Q T' pcj (Lj x) (stj x)) (h2 : (∀ (x : α) (T' : State) (h' : Heap), St K Z R y bytes maxL ret n0 T' h' cl' sl' → P x h' → Go K R n0 Q T' pcj (Lj x) (stj x)) → Go K R n0 Q T pc L st) : Go K R n0 Q T pc L st := h2 h1
theorem Go.loopH {α : Type} {Inv : Nat → α → Heap → Prop} {pcj cl' sl' : Nat} {Lj : α → Array Slot} {stj : α → List Value} (S : St K Z R y bytes maxL ret n0 T h cl sl)
    (h1 : ∀ k, (∀ j, j < k → ∀ (x : α) (T' : State) (h' : Heap), St K Z R y bytes maxL ret n0 T' h' cl' sl' → Inv j x h' → Go K R n0 Q T' pcj (Lj x) (stj x)) → ∀ (x : α) (T' : State) (h' : Heap), St K Z R y bytes maxL ret n0 T' h' cl' sl' → Inv k x h' → Go K R n0 Q T' pcj (Lj x) (stj x))
    (h2 : (∀ (k : Nat) (x : α) (T' : State) (h' : Heap), St K Z R y bytes maxL ret n0 T' h' cl' sl' → Inv k x h' → Go K R n0 Q T' pcj (Lj x) (stj x)) → Go K R n0 Q T pc L st) : Go K R n0 Q T pc L st := h2 (fun k => Nat.strongRecOn k h1)
theorem i32_of {x y : Int32} {n : Int} (h : x.toInt = n) (hy : y.toInt = n) : x = y := Int32.toInt_inj.mp (h.trans hy.symm)
theorem i64_of {x y : Int64} {n : Int} (h : x.toInt = n) (hy : y.toInt = n) : x = y := Int64.toInt_inj.mp (h.trans hy.symm)
theorem ne_new {a b n : Nat} (e : a = n) (h : b < n) : b ≠ a := by omega
theorem f_imul (x y : Int32) (n : Int) (hy : y.toInt = n) : ((x * y).toInt - x.toInt * n) % 4294967296 = 0 := by rw [← hy]; exact c_imul x y
theorem f_imul' (x y : Int32) (n : Int) (hx : x.toInt = n) : ((x * y).toInt - n * y.toInt) % 4294967296 = 0 := by rw [← hx]; exact c_imul x y
theorem f_lmul (x y : Int64) (n : Int) (hy : y.toInt = n) : ((x * y).toInt - x.toInt * n) % 18446744073709551616 = 0 := by rw [← hy]; exact c_lmul x y
theorem f_lmul' (x y : Int64) (n : Int) (hx : x.toInt = n) : ((x * y).toInt - n * y.toInt) % 18446744073709551616 = 0 := by rw [← hx]; exact c_lmul x y
theorem f_imask (x m : Int32) (k : Nat) (P : Int) (hk : k ≤ 31) (hm : m.toBitVec.toNat = 2 ^ k - 1) (hP : ((2 ^ k : Nat) : Int) = P) : (x &&& m).toInt = x.toInt % P := by rw [← hP]; exact c_mask x m k hk hm
theorem f_imask' (m x : Int32) (k : Nat) (P : Int) (hk : k ≤ 31) (hm : m.toBitVec.toNat = 2 ^ k - 1) (hP : ((2 ^ k : Nat) : Int) = P) : (m &&& x).toInt = x.toInt % P := by rw [Int32.and_comm]; exact f_imask x m k P hk hm hP
theorem f_lmask (x m : Int64) (k : Nat) (P : Int) (hk : k ≤ 63) (hm : m.toBitVec.toNat = 2 ^ k - 1) (hP : ((2 ^ k : Nat) : Int) = P) : (x &&& m).toInt = x.toInt % P := by rw [← hP]; exact c_maskL x m k hk hm
theorem f_lmask' (m x : Int64) (k : Nat) (P : Int) (hk : k ≤ 63) (hm : m.toBitVec.toNat = 2 ^ k - 1) (hP : ((2 ^ k : Nat) : Int) = P) : (m &&& x).toInt = x.toInt % P := by rw [Int64.and_comm]; exact f_lmask x m k P hk hm hP
theorem f_ishl (x q : Int32) (k : Nat) (P : Int) (hk : q.toBitVec.toNat % 32 = k) (hP : ((2 ^ k : Nat) : Int) = P) : ((x <<< (q &&& 31)).toInt - x.toInt * P) % 4294967296 = 0 := by rw [← hP]; exact c_ishl x q k hk
theorem f_ishr (x q : Int32) (k : Nat) (P : Int) (hk : q.toBitVec.toNat % 32 = k) (hP : ((2 ^ k : Nat) : Int) = P) : (x >>> (q &&& 31)).toInt = x.toInt / P := by rw [← hP]; exact c_ishr x q k hk
theorem f_iushr (x q : Int32) (k : Nat) (P : Int) (hk : q.toBitVec.toNat % 32 = k) (h0 : 0 < k) (hP : ((2 ^ k : Nat) : Int) = P) : (ushr x q).toInt = (x.toInt % 4294967296) / P := by rw [← hP]; exact c_iushr x q k hk h0
theorem f_lshl (x : Int64) (q : Int32) (k : Nat) (P : Int) (hk : q.toBitVec.toNat % 64 = k) (hP : ((2 ^ k : Nat) : Int) = P) : ((x <<< (q &&& 0x3f).toInt64).toInt - x.toInt * P) % 18446744073709551616 = 0 := by rw [← hP]; exact c_lshl x q k hk
theorem f_lshr (x : Int64) (q : Int32) (k : Nat) (P : Int) (hk : q.toBitVec.toNat % 64 = k) (hP : ((2 ^ k : Nat) : Int) = P) : (x >>> (q &&& 0x3f).toInt64).toInt = x.toInt / P := by rw [← hP]; exact c_lshr x q k hk
theorem f_lushr (x : Int64) (q : Int32) (k : Nat) (P : Int) (hk : q.toBitVec.toNat % 64 = k) (h0 : 0 < k) (hP : ((2 ^ k : Nat) : Int) = P) : (ushrL x q).toInt = (x.toInt % 18446744073709551616) / P := by rw [← hP]; exact c_lushr x q k hk h0
theorem f_idiv (x y : Int32) (d : Int) (hy : y.toInt = d) (hd : y ≠ -1) : (0 ≤ x.toInt → (x / y).toInt = x.toInt / d) ∧ (x.toInt < 0 → (x / y).toInt = -((-x.toInt) / d)) := c_idiv x y d hy hd
theorem f_irem (x y : Int32) (d : Int) (hy : y.toInt = d) : (0 ≤ x.toInt → (x % y).toInt = x.toInt % d) ∧ (x.toInt < 0 → (x % y).toInt = -((-x.toInt) % d)) := c_irem x y d hy
theorem f_ldiv (x y : Int64) (d : Int) (hy : y.toInt = d) (hd : y ≠ -1) : (0 ≤ x.toInt → (x / y).toInt = x.toInt / d) ∧ (x.toInt < 0 → (x / y).toInt = -((-x.toInt) / d)) := c_ldiv x y d hy hd
theorem f_i2b (x : Int32) : ((i2b x).toInt - x.toInt) % 256 = 0 ∧ -128 ≤ (i2b x).toInt ∧ (i2b x).toInt < 128 := c_i2b x
theorem f_i2s (x : Int32) : ((i2s x).toInt - x.toInt) % 65536 = 0 ∧ -32768 ≤ (i2s x).toInt ∧ (i2s x).toInt < 32768 := c_i2s x
theorem f_i2c (x : Int32) : ((i2c x).toInt - x.toInt) % 65536 = 0 ∧ 0 ≤ (i2c x).toInt ∧ (i2c x).toInt < 65536 := c_i2c x
theorem x_iadd {a b : Int32} {la ha lb hb : Int} (p : la ≤ a.toInt ∧ a.toInt ≤ ha) (q : lb ≤ b.toInt ∧ b.toInt ≤ hb) (h1 : -2147483648 ≤ la + lb) (h2 : ha + hb < 2147483648) : (a + b).toInt = a.toInt + b.toInt := by have r := c_iadd a b; have s := rng32 (a + b); omega
theorem x_isub {a b : Int32} {la ha lb hb : Int} (p : la ≤ a.toInt ∧ a.toInt ≤ ha) (q : lb ≤ b.toInt ∧ b.toInt ≤ hb) (h1 : -2147483648 ≤ la - hb) (h2 : ha - lb < 2147483648) : (a - b).toInt = a.toInt - b.toInt := by have r := c_isub a b; have s := rng32 (a - b); omega
theorem x_imask {a m : Int32} {P : Int} (k : Nat) (hk : k ≤ 32 - 1) (hm : m.toBitVec.toNat = 2 ^ k - 1) (hP : ((2 ^ k : Nat) : Int) = P) : (a &&& m).toInt = a.toInt % P := f_imask a m k P hk hm hP
theorem x_ineg {a : Int32} {la ha : Int} (p : la ≤ a.toInt ∧ a.toInt ≤ ha) (h1 : -2147483648 < la) : (-a).toInt = -a.toInt := by have r := c_ineg a; have s := rng32 (-a); have t := rng32 a; omega
theorem x_ishr {x : Int32} {q : Int32} {P : Int} (k : Nat) (hk : q.toBitVec.toNat % 32 = k) (hP : ((2 ^ k : Nat) : Int) = P) : (x >>> (q &&& 31)).toInt = x.toInt / P := f_ishr x q k P hk hP
theorem x_iushr {x : Int32} {q : Int32} {P la ha : Int} (p : la ≤ x.toInt ∧ x.toInt ≤ ha) (h1 : 0 ≤ la) (k : Nat) (hk : q.toBitVec.toNat % 32 = k) (h0 : 0 < k) (hP : ((2 ^ k : Nat) : Int) = P) : (ushr x q).toInt = x.toInt / P := by
  have r := f_iushr x q k P hk h0 hP
  have s := rng32 x
  rw [r]; congr 1; omega
theorem x_imul {a b : Int32} {la ha n : Int} (p : la ≤ a.toInt ∧ a.toInt ≤ ha) (hn : b.toInt = n) (h0 : 0 ≤ n) (h1 : -2147483648 ≤ la * n) (h2 : ha * n < 2147483648) : (a * b).toInt = a.toInt * n := by
  have r := f_imul a b n hn
  have s := rng32 (a * b)
  have m1 := Int.mul_le_mul_of_nonneg_right p.1 h0
  have m2 := Int.mul_le_mul_of_nonneg_right p.2 h0
  generalize a.toInt * n = z at *
  generalize la * n = z1 at *
  generalize ha * n = z2 at *
  omega
theorem x_imulN {a b : Int32} {la ha n : Int} (p : la ≤ a.toInt ∧ a.toInt ≤ ha) (hn : b.toInt = n) (h0 : n ≤ 0) (h1 : -2147483648 ≤ ha * n) (h2 : la * n < 2147483648) : (a * b).toInt = a.toInt * n := by
  have r := f_imul a b n hn
  have s := rng32 (a * b)
  have m1 := Int.mul_le_mul_of_nonpos_right p.1 h0
  have m2 := Int.mul_le_mul_of_nonpos_right p.2 h0
  generalize a.toInt * n = z at *
  generalize la * n = z1 at *
  generalize ha * n = z2 at *
  omega
theorem x_imulN' {a b : Int32} {la ha n : Int} (p : la ≤ b.toInt ∧ b.toInt ≤ ha) (hn : a.toInt = n) (h0 : n ≤ 0) (h1 : -2147483648 ≤ ha * n) (h2 : la * n < 2147483648) : (a * b).toInt = b.toInt * n := by
  rw [Int32.mul_comm]; exact x_imulN p hn h0 h1 h2
theorem x_imul' {a b : Int32} {la ha n : Int} (p : la ≤ b.toInt ∧ b.toInt ≤ ha) (hn : a.toInt = n) (h0 : 0 ≤ n) (h1 : -2147483648 ≤ la * n) (h2 : ha * n < 2147483648) : (a * b).toInt = b.toInt * n := by
  rw [Int32.mul_comm]; exact x_imul p hn h0 h1 h2
theorem x_ladd {a b : Int64} {la ha lb hb : Int} (p : la ≤ a.toInt ∧ a.toInt ≤ ha) (q : lb ≤ b.toInt ∧ b.toInt ≤ hb) (h1 : -9223372036854775808 ≤ la + lb) (h2 : ha + hb < 9223372036854775808) : (a + b).toInt = a.toInt + b.toInt := by have r := c_ladd a b; have s := rng64 (a + b); omega
theorem x_lsub {a b : Int64} {la ha lb hb : Int} (p : la ≤ a.toInt ∧ a.toInt ≤ ha) (q : lb ≤ b.toInt ∧ b.toInt ≤ hb) (h1 : -9223372036854775808 ≤ la - hb) (h2 : ha - lb < 9223372036854775808) : (a - b).toInt = a.toInt - b.toInt := by have r := c_lsub a b; have s := rng64 (a - b); omega
theorem x_lmask {a m : Int64} {P : Int} (k : Nat) (hk : k ≤ 64 - 1) (hm : m.toBitVec.toNat = 2 ^ k - 1) (hP : ((2 ^ k : Nat) : Int) = P) : (a &&& m).toInt = a.toInt % P := f_lmask a m k P hk hm hP
theorem x_lneg {a : Int64} {la ha : Int} (p : la ≤ a.toInt ∧ a.toInt ≤ ha) (h1 : -9223372036854775808 < la) : (-a).toInt = -a.toInt := by have r := c_lneg a; have s := rng64 (-a); have t := rng64 a; omega
theorem x_lshr {x : Int64} {q : Int32} {P : Int} (k : Nat) (hk : q.toBitVec.toNat % 64 = k) (hP : ((2 ^ k : Nat) : Int) = P) : (x >>> (q &&& 0x3f).toInt64).toInt = x.toInt / P := f_lshr x q k P hk hP
theorem x_lushr {x : Int64} {q : Int32} {P la ha : Int} (p : la ≤ x.toInt ∧ x.toInt ≤ ha) (h1 : 0 ≤ la) (k : Nat) (hk : q.toBitVec.toNat % 64 = k) (h0 : 0 < k) (hP : ((2 ^ k : Nat) : Int) = P) : (ushrL x q).toInt = x.toInt / P := by
  have r := f_lushr x q k P hk h0 hP
  have s := rng64 x
  rw [r]; congr 1; omega
theorem x_lmul {a b : Int64} {la ha n : Int} (p : la ≤ a.toInt ∧ a.toInt ≤ ha) (hn : b.toInt = n) (h0 : 0 ≤ n) (h1 : -9223372036854775808 ≤ la * n) (h2 : ha * n < 9223372036854775808) : (a * b).toInt = a.toInt * n := by
  have r := f_lmul a b n hn
  have s := rng64 (a * b)
  have m1 := Int.mul_le_mul_of_nonneg_right p.1 h0
  have m2 := Int.mul_le_mul_of_nonneg_right p.2 h0
  generalize a.toInt * n = z at *
  generalize la * n = z1 at *
  generalize ha * n = z2 at *
  omega
theorem x_lmulN {a b : Int64} {la ha n : Int} (p : la ≤ a.toInt ∧ a.toInt ≤ ha) (hn : b.toInt = n) (h0 : n ≤ 0) (h1 : -9223372036854775808 ≤ ha * n) (h2 : la * n < 9223372036854775808) : (a * b).toInt = a.toInt * n := by
  have r := f_lmul a b n hn
  have s := rng64 (a * b)
  have m1 := Int.mul_le_mul_of_nonpos_right p.1 h0
  have m2 := Int.mul_le_mul_of_nonpos_right p.2 h0
  generalize a.toInt * n = z at *
  generalize la * n = z1 at *
  generalize ha * n = z2 at *
  omega
theorem x_lmulN' {a b : Int64} {la ha n : Int} (p : la ≤ b.toInt ∧ b.toInt ≤ ha) (hn : a.toInt = n) (h0 : n ≤ 0) (h1 : -9223372036854775808 ≤ ha * n) (h2 : la * n < 9223372036854775808) : (a * b).toInt = b.toInt * n := by
  rw [Int64.mul_comm]; exact x_lmulN p hn h0 h1 h2
theorem x_lmul' {a b : Int64} {la ha n : Int} (p : la ≤ b.toInt ∧ b.toInt ≤ ha) (hn : a.toInt = n) (h0 : 0 ≤ n) (h1 : -9223372036854775808 ≤ la * n) (h2 : ha * n < 9223372036854775808) : (a * b).toInt = b.toInt * n := by
  rw [Int64.mul_comm]; exact x_lmul p hn h0 h1 h2
theorem ib_add {a b la ha lb hb lo hi : Int} (p : la ≤ a ∧ a ≤ ha) (q : lb ≤ b ∧ b ≤ hb) (h1 : lo ≤ la + lb) (h2 : ha + hb ≤ hi) : lo ≤ a + b ∧ a + b ≤ hi := by omega
theorem ib_sub {a b la ha lb hb lo hi : Int} (p : la ≤ a ∧ a ≤ ha) (q : lb ≤ b ∧ b ≤ hb) (h1 : lo ≤ la - hb) (h2 : ha - lb ≤ hi) : lo ≤ a - b ∧ a - b ≤ hi := by omega
theorem ib_neg {a la ha lo hi : Int} (p : la ≤ a ∧ a ≤ ha) (h1 : lo ≤ -ha) (h2 : -la ≤ hi) : lo ≤ -a ∧ -a ≤ hi := by omega
theorem ib_mod {a lo hi : Int} (P : Int) (hP : 0 < P) (h1 : lo ≤ 0) (h2 : P - 1 ≤ hi) : lo ≤ a % P ∧ a % P ≤ hi := by have := Int.emod_nonneg a (Int.ne_of_gt hP); have := Int.emod_lt_of_pos a hP; omega
theorem ib_div {a la ha lo hi : Int} (P : Int) (hP : 0 < P) (p : la ≤ a ∧ a ≤ ha) (h1 : lo ≤ la / P) (h2 : ha / P ≤ hi) : lo ≤ a / P ∧ a / P ≤ hi := ⟨Int.le_trans h1 (Int.ediv_le_ediv hP p.1), Int.le_trans (Int.ediv_le_ediv hP p.2) h2⟩
theorem ib_mul {a la ha lo hi : Int} (n : Int) (h0 : 0 ≤ n) (p : la ≤ a ∧ a ≤ ha) (h1 : lo ≤ la * n) (h2 : ha * n ≤ hi) : lo ≤ a * n ∧ a * n ≤ hi := ⟨Int.le_trans h1 (Int.mul_le_mul_of_nonneg_right p.1 h0), Int.le_trans (Int.mul_le_mul_of_nonneg_right p.2 h0) h2⟩
theorem ib_mulN {a la ha lo hi : Int} (n : Int) (h0 : n ≤ 0) (p : la ≤ a ∧ a ≤ ha) (h1 : lo ≤ ha * n) (h2 : la * n ≤ hi) : lo ≤ a * n ∧ a * n ≤ hi := ⟨Int.le_trans h1 (Int.mul_le_mul_of_nonpos_right p.2 h0), Int.le_trans (Int.mul_le_mul_of_nonpos_right p.1 h0) h2⟩
theorem x_idiv {a b : Int32} {la ha d : Int} (p : la ≤ a.toInt ∧ a.toInt ≤ ha) (hy : b.toInt = d) (h0 : 0 ≤ la) (hd : b ≠ -1) : (a / b).toInt = a.toInt / d := (c_idiv a b d hy hd).1 (Int.le_trans h0 p.1)
theorem x_irem {a b : Int32} {la ha d : Int} (p : la ≤ a.toInt ∧ a.toInt ≤ ha) (hy : b.toInt = d) (h0 : 0 ≤ la) : (a % b).toInt = a.toInt % d := (c_irem a b d hy).1 (Int.le_trans h0 p.1)
theorem x_iremV {a b : Int32} {la ha lb hb : Int} (p : la ≤ a.toInt ∧ a.toInt ≤ ha) (q : lb ≤ b.toInt ∧ b.toInt ≤ hb) (h0 : 0 ≤ la) (h1 : 0 < lb) : 0 ≤ (a % b).toInt ∧ (a % b).toInt < b.toInt := by
  have r := (c_iremV a b).1 (Int.le_trans h0 p.1) (Int.lt_of_lt_of_le h1 q.1)
  exact ⟨r.1, r.2.1⟩
theorem ib_rem {r y lb hb hi : Int} (x : 0 ≤ r ∧ r < y) (q : lb ≤ y ∧ y ≤ hb) (h : hb - 1 ≤ hi) : 0 ≤ r ∧ r ≤ hi := by omega
theorem rb32 (x : Int32) : -2147483648 ≤ x.toInt ∧ x.toInt ≤ 2147483647 := by have := rng32 x; omega
theorem rb64 (x : Int64) : -9223372036854775808 ≤ x.toInt ∧ x.toInt ≤ 9223372036854775807 := by have := rng64 x; omega
theorem x_l2i {x : Int64} {la ha : Int} (p : la ≤ x.toInt ∧ x.toInt ≤ ha) (h1 : -2147483648 ≤ la) (h2 : ha < 2147483648) : x.toInt32.toInt = x.toInt := by have r := c_l2i x; have s := rng32 x.toInt32; omega
end Kit
end Jvm.OwnK
namespace Jvm.Pilot.@@N@@
open Jvm Jvm.ClassFile Sem Op Lib Jvm.Free Jvm.Stand Jvm.LawKit Jvm.RoadKit Bundle Jvm.OwnK Jvm.Pilot.@@N@@.Jvm.D
abbrev PathO (Z : State) (h : Heap) (t p : Addr) : Prop := Exa Z h t "com/example/ghost_state/ghoststate/Shadows$Path" ∧ Fld Z h t "com/example/ghost_state/ghoststate/Shadows$Path" "pattern" "[C" (.ref p)
def Nx (n : Nat) (f sh : Nat → Int32) (c : Int32) : Nat → Int32 → Int32 → Prop
  | 0, s, r => (s.toInt < 0 ∧ r = 0) ∨ ∃ i : Nat, s.toInt = (i : Int) ∧ i < n ∧ (f i).toInt = c.toInt ∧ s + 1 = r
  | k + 1, s, r => ∃ i : Nat, s.toInt = (i : Int) ∧ i < n ∧ ¬ (f i).toInt = c.toInt ∧ Nx n f sh c k (sh i) r
theorem nar_c {x : Int32} (h0 : 0 ≤ x.toInt) (h1 : x.toInt < 65536) : nar .char x = x := by
  apply Int32.toInt_inj.mp
  have q := f_i2c x
  show (i2c x).toInt = _
  omega
theorem all1 {P : Nat → Prop} (h0 : P 0) : ∀ i, i < 1 → P i
  | 0, _ => h0
  | n + 1, h => absurd h (by omega)
theorem all2 {P : Nat → Prop} (h0 : P 0) (h1 : P 1) : ∀ i, i < 2 → P i
  | 0, _ => h0
  | 1, _ => h1
  | n + 2, h => absurd h (by omega)
theorem all3 {P : Nat → Prop} (h0 : P 0) (h1 : P 1) (h2 : P 2) : ∀ i, i < 3 → P i
  | 0, _ => h0
  | 1, _ => h1
  | 2, _ => h2
  | n + 3, h => absurd h (by omega)
theorem all4 {P : Nat → Prop} (h0 : P 0) (h1 : P 1) (h2 : P 2) (h3 : P 3) : ∀ i, i < 4 → P i
  | 0, _ => h0
  | 1, _ => h1
  | 2, _ => h2
  | 3, _ => h3
  | n + 4, h => absurd h (by omega)
theorem all5 {P : Nat → Prop} (h0 : P 0) (h1 : P 1) (h2 : P 2) (h3 : P 3) (h4 : P 4) : ∀ i, i < 5 → P i
  | 0, _ => h0
  | 1, _ => h1
  | 2, _ => h2
  | 3, _ => h3
  | 4, _ => h4
  | n + 5, h => absurd h (by omega)
theorem all6 {P : Nat → Prop} (h0 : P 0) (h1 : P 1) (h2 : P 2) (h3 : P 3) (h4 : P 4) (h5 : P 5) : ∀ i, i < 6 → P i
  | 0, _ => h0
  | 1, _ => h1
  | 2, _ => h2
  | 3, _ => h3
  | 4, _ => h4
  | 5, _ => h5
  | n + 6, h => absurd h (by omega)
theorem buniq1 {r s : Int} (A : ((r = 0))) (B : ((s = 0))) : r = s := A.trans B.symm
theorem buniq2 {c0 c1 : Int32} {r s : Int} (A : ((r = 0 ∧ ¬ (c0.toInt = c1.toInt)) ∨ (r = 1 ∧ (c0.toInt = c1.toInt)))) (B : ((s = 0 ∧ ¬ (c0.toInt = c1.toInt)) ∨ (s = 1 ∧ (c0.toInt = c1.toInt)))) : r = s := by
  rcases A with ⟨ae, an1⟩ | ⟨ae, as⟩
  · rcases B with ⟨be, bn1⟩ | ⟨be, bs⟩
    · exact ae.trans be.symm
    · exact absurd bs an1
  · rcases B with ⟨be, bn1⟩ | ⟨be, bs⟩
    · exact absurd as bn1
    · exact ae.trans be.symm
theorem buniq3 {c0 c1 c2 : Int32} {r s : Int} (A : ((r = 0 ∧ ¬ (c0.toInt = c2.toInt) ∧ ¬ (c0.toInt = c1.toInt ∧ c1.toInt = c2.toInt)) ∨ (r = 1 ∧ (c0.toInt = c2.toInt) ∧ ¬ (c0.toInt = c1.toInt ∧ c1.toInt = c2.toInt)) ∨ (r = 2 ∧ (c0.toInt = c1.toInt ∧ c1.toInt = c2.toInt)))) (B : ((s = 0 ∧ ¬ (c0.toInt = c2.toInt) ∧ ¬ (c0.toInt = c1.toInt ∧ c1.toInt = c2.toInt)) ∨ (s = 1 ∧ (c0.toInt = c2.toInt) ∧ ¬ (c0.toInt = c1.toInt ∧ c1.toInt = c2.toInt)) ∨ (s = 2 ∧ (c0.toInt = c1.toInt ∧ c1.toInt = c2.toInt)))) : r = s := by
  rcases A with ⟨ae, an1, an2⟩ | ⟨ae, as, an2⟩ | ⟨ae, as⟩
  · rcases B with ⟨be, bn1, bn2⟩ | ⟨be, bs, bn2⟩ | ⟨be, bs⟩
    · exact ae.trans be.symm
    · exact absurd bs an1
    · exact absurd bs an2
  · rcases B with ⟨be, bn1, bn2⟩ | ⟨be, bs, bn2⟩ | ⟨be, bs⟩
    · exact absurd as bn1
    · exact ae.trans be.symm
    · exact absurd bs an2
  · rcases B with ⟨be, bn1, bn2⟩ | ⟨be, bs, bn2⟩ | ⟨be, bs⟩
    · exact absurd as bn2
    · exact absurd as bn2
    · exact ae.trans be.symm
theorem buniq4 {c0 c1 c2 c3 : Int32} {r s : Int} (A : ((r = 0 ∧ ¬ (c0.toInt = c3.toInt) ∧ ¬ (c0.toInt = c2.toInt ∧ c1.toInt = c3.toInt) ∧ ¬ (c0.toInt = c1.toInt ∧ c1.toInt = c2.toInt ∧ c2.toInt = c3.toInt)) ∨ (r = 1 ∧ (c0.toInt = c3.toInt) ∧ ¬ (c0.toInt = c2.toInt ∧ c1.toInt = c3.toInt) ∧ ¬ (c0.toInt = c1.toInt ∧ c1.toInt = c2.toInt ∧ c2.toInt = c3.toInt)) ∨ (r = 2 ∧ (c0.toInt = c2.toInt ∧ c1.toInt = c3.toInt) ∧ ¬ (c0.toInt = c1.toInt ∧ c1.toInt = c2.toInt ∧ c2.toInt = c3.toInt)) ∨ (r = 3 ∧ (c0.toInt = c1.toInt ∧ c1.toInt = c2.toInt ∧ c2.toInt = c3.toInt)))) (B : ((s = 0 ∧ ¬ (c0.toInt = c3.toInt) ∧ ¬ (c0.toInt = c2.toInt ∧ c1.toInt = c3.toInt) ∧ ¬ (c0.toInt = c1.toInt ∧ c1.toInt = c2.toInt ∧ c2.toInt = c3.toInt)) ∨ (s = 1 ∧ (c0.toInt = c3.toInt) ∧ ¬ (c0.toInt = c2.toInt ∧ c1.toInt = c3.toInt) ∧ ¬ (c0.toInt = c1.toInt ∧ c1.toInt = c2.toInt ∧ c2.toInt = c3.toInt)) ∨ (s = 2 ∧ (c0.toInt = c2.toInt ∧ c1.toInt = c3.toInt) ∧ ¬ (c0.toInt = c1.toInt ∧ c1.toInt = c2.toInt ∧ c2.toInt = c3.toInt)) ∨ (s = 3 ∧ (c0.toInt = c1.toInt ∧ c1.toInt = c2.toInt ∧ c2.toInt = c3.toInt)))) : r = s := by
  rcases A with ⟨ae, an1, an2, an3⟩ | ⟨ae, as, an2, an3⟩ | ⟨ae, as, an3⟩ | ⟨ae, as⟩
  · rcases B with ⟨be, bn1, bn2, bn3⟩ | ⟨be, bs, bn2, bn3⟩ | ⟨be, bs, bn3⟩ | ⟨be, bs⟩
    · exact ae.trans be.symm
    · exact absurd bs an1
    · exact absurd bs an2
    · exact absurd bs an3
  · rcases B with ⟨be, bn1, bn2, bn3⟩ | ⟨be, bs, bn2, bn3⟩ | ⟨be, bs, bn3⟩ | ⟨be, bs⟩
    · exact absurd as bn1
    · exact ae.trans be.symm
    · exact absurd bs an2
    · exact absurd bs an3
  · rcases B with ⟨be, bn1, bn2, bn3⟩ | ⟨be, bs, bn2, bn3⟩ | ⟨be, bs, bn3⟩ | ⟨be, bs⟩
    · exact absurd as bn2
    · exact absurd as bn2
    · exact ae.trans be.symm
    · exact absurd bs an3
  · rcases B with ⟨be, bn1, bn2, bn3⟩ | ⟨be, bs, bn2, bn3⟩ | ⟨be, bs, bn3⟩ | ⟨be, bs⟩
    · exact absurd as bn3
    · exact absurd as bn3
    · exact absurd as bn3
    · exact ae.trans be.symm
theorem buniq5 {c0 c1 c2 c3 c4 : Int32} {r s : Int} (A : ((r = 0 ∧ ¬ (c0.toInt = c4.toInt) ∧ ¬ (c0.toInt = c3.toInt ∧ c1.toInt = c4.toInt) ∧ ¬ (c0.toInt = c2.toInt ∧ c1.toInt = c3.toInt ∧ c2.toInt = c4.toInt) ∧ ¬ (c0.toInt = c1.toInt ∧ c1.toInt = c2.toInt ∧ c2.toInt = c3.toInt ∧ c3.toInt = c4.toInt)) ∨ (r = 1 ∧ (c0.toInt = c4.toInt) ∧ ¬ (c0.toInt = c3.toInt ∧ c1.toInt = c4.toInt) ∧ ¬ (c0.toInt = c2.toInt ∧ c1.toInt = c3.toInt ∧ c2.toInt = c4.toInt) ∧ ¬ (c0.toInt = c1.toInt ∧ c1.toInt = c2.toInt ∧ c2.toInt = c3.toInt ∧ c3.toInt = c4.toInt)) ∨ (r = 2 ∧ (c0.toInt = c3.toInt ∧ c1.toInt = c4.toInt) ∧ ¬ (c0.toInt = c2.toInt ∧ c1.toInt = c3.toInt ∧ c2.toInt = c4.toInt) ∧ ¬ (c0.toInt = c1.toInt ∧ c1.toInt = c2.toInt ∧ c2.toInt = c3.toInt ∧ c3.toInt = c4.toInt)) ∨ (r = 3 ∧ (c0.toInt = c2.toInt ∧ c1.toInt = c3.toInt ∧ c2.toInt = c4.toInt) ∧ ¬ (c0.toInt = c1.toInt ∧ c1.toInt = c2.toInt ∧ c2.toInt = c3.toInt ∧ c3.toInt = c4.toInt)) ∨ (r = 4 ∧ (c0.toInt = c1.toInt ∧ c1.toInt = c2.toInt ∧ c2.toInt = c3.toInt ∧ c3.toInt = c4.toInt)))) (B : ((s = 0 ∧ ¬ (c0.toInt = c4.toInt) ∧ ¬ (c0.toInt = c3.toInt ∧ c1.toInt = c4.toInt) ∧ ¬ (c0.toInt = c2.toInt ∧ c1.toInt = c3.toInt ∧ c2.toInt = c4.toInt) ∧ ¬ (c0.toInt = c1.toInt ∧ c1.toInt = c2.toInt ∧ c2.toInt = c3.toInt ∧ c3.toInt = c4.toInt)) ∨ (s = 1 ∧ (c0.toInt = c4.toInt) ∧ ¬ (c0.toInt = c3.toInt ∧ c1.toInt = c4.toInt) ∧ ¬ (c0.toInt = c2.toInt ∧ c1.toInt = c3.toInt ∧ c2.toInt = c4.toInt) ∧ ¬ (c0.toInt = c1.toInt ∧ c1.toInt = c2.toInt ∧ c2.toInt = c3.toInt ∧ c3.toInt = c4.toInt)) ∨ (s = 2 ∧ (c0.toInt = c3.toInt ∧ c1.toInt = c4.toInt) ∧ ¬ (c0.toInt = c2.toInt ∧ c1.toInt = c3.toInt ∧ c2.toInt = c4.toInt) ∧ ¬ (c0.toInt = c1.toInt ∧ c1.toInt = c2.toInt ∧ c2.toInt = c3.toInt ∧ c3.toInt = c4.toInt)) ∨ (s = 3 ∧ (c0.toInt = c2.toInt ∧ c1.toInt = c3.toInt ∧ c2.toInt = c4.toInt) ∧ ¬ (c0.toInt = c1.toInt ∧ c1.toInt = c2.toInt ∧ c2.toInt = c3.toInt ∧ c3.toInt = c4.toInt)) ∨ (s = 4 ∧ (c0.toInt = c1.toInt ∧ c1.toInt = c2.toInt ∧ c2.toInt = c3.toInt ∧ c3.toInt = c4.toInt)))) : r = s := by
  rcases A with ⟨ae, an1, an2, an3, an4⟩ | ⟨ae, as, an2, an3, an4⟩ | ⟨ae, as, an3, an4⟩ | ⟨ae, as, an4⟩ | ⟨ae, as⟩
  · rcases B with ⟨be, bn1, bn2, bn3, bn4⟩ | ⟨be, bs, bn2, bn3, bn4⟩ | ⟨be, bs, bn3, bn4⟩ | ⟨be, bs, bn4⟩ | ⟨be, bs⟩
    · exact ae.trans be.symm
    · exact absurd bs an1
    · exact absurd bs an2
    · exact absurd bs an3
    · exact absurd bs an4
  · rcases B with ⟨be, bn1, bn2, bn3, bn4⟩ | ⟨be, bs, bn2, bn3, bn4⟩ | ⟨be, bs, bn3, bn4⟩ | ⟨be, bs, bn4⟩ | ⟨be, bs⟩
    · exact absurd as bn1
    · exact ae.trans be.symm
    · exact absurd bs an2
    · exact absurd bs an3
    · exact absurd bs an4
  · rcases B with ⟨be, bn1, bn2, bn3, bn4⟩ | ⟨be, bs, bn2, bn3, bn4⟩ | ⟨be, bs, bn3, bn4⟩ | ⟨be, bs, bn4⟩ | ⟨be, bs⟩
    · exact absurd as bn2
    · exact absurd as bn2
    · exact ae.trans be.symm
    · exact absurd bs an3
    · exact absurd bs an4
  · rcases B with ⟨be, bn1, bn2, bn3, bn4⟩ | ⟨be, bs, bn2, bn3, bn4⟩ | ⟨be, bs, bn3, bn4⟩ | ⟨be, bs, bn4⟩ | ⟨be, bs⟩
    · exact absurd as bn3
    · exact absurd as bn3
    · exact absurd as bn3
    · exact ae.trans be.symm
    · exact absurd bs an4
  · rcases B with ⟨be, bn1, bn2, bn3, bn4⟩ | ⟨be, bs, bn2, bn3, bn4⟩ | ⟨be, bs, bn3, bn4⟩ | ⟨be, bs, bn4⟩ | ⟨be, bs⟩
    · exact absurd as bn4
    · exact absurd as bn4
    · exact absurd as bn4
    · exact absurd as bn4
    · exact ae.trans be.symm
theorem i2c_nar {a v : Int32} (h : i2c a = v) : nar .char v = v := by subst h; exact nar_c (f_i2c a).2.1 (f_i2c a).2.2
theorem d2_0 : decode prog_24_method_1_code 0 = .ok (.aload_n 0, 1) := by decide +kernel
theorem d2_1 : decode prog_24_method_1_code 1 = .ok (.invokespecial 1, 3) := by decide +kernel
theorem d2_4 : decode prog_24_method_1_code 4 = .ok (.aload_n 0, 1) := by decide +kernel
theorem d2_5 : decode prog_24_method_1_code 5 = .ok (.aload_n 1, 1) := by decide +kernel
theorem d2_6 : decode prog_24_method_1_code 6 = .ok (.putfield 7, 3) := by decide +kernel
theorem d2_9 : decode prog_24_method_1_code 9 = .ok (.return_, 1) := by decide +kernel
theorem pn_2 : plainFor (⟨"com/example/ghost_state/ghoststate/Shadows$Path", "<init>", "([C)V"⟩ : MethodName) = true := plainFor_of_name (by first | (simp [plainName, overriddenIn]; done) | decide +kernel)
set_option maxRecDepth 65536 in
set_option maxHeartbeats 40000000 in
theorem c_init {Z : State} {a0 : Array Value} (hw : ∀ d ∈ tables_1, d.before a0 Z = true) {t p : Addr} {h0 : Heap} {n0 : Nat} (Z0 : n0 ≤ h0.size) (g_t : n0 ≤ t) (X_t : Exa Z h0 t "com/example/ghost_state/ghoststate/Shadows$Path") (F_pattern_t : Fld Z h0 t "com/example/ghost_state/ghoststate/Shadows$Path" "pattern" "[C" .null) :
    Ctr Z n0 (⟨"com/example/ghost_state/ghoststate/Shadows$Path", "<init>", "([C)V"⟩ : MethodName) prog_24_method_1_code 2 none ({ frames := 1, cells := 0, slots := 0, locals := 12 } : Room) [(.ref t), (.ref p)] h0 (fun v h => v = none ∧ Keep h0 h [t] ∧ PathO Z h t p) := by
  refine Ctr.of (L := #[.val (.ref t), .val (.ref p)]) pn_2 Z0 (fun m => by first | (simp [entryFrame, mkF, argsToLocals, Value.category]; done) | rfl) ?_
  intro K T S0
  refine px_aloadN S0 d2_0 rfl rfl rfl ?_
  refine px_initO (W := 0) S0 (hw _ (List.mem_of_getElem? (i := 12) rfl)) (hw _ (List.mem_of_getElem? (i := 13) rfl)) (hw _ (List.mem_of_getElem? (i := 14) rfl)) rfl (by decide) rfl (by decide) d2_1 rfl (fun T1 S1 => ?_)
  refine px_aloadN S1 d2_4 rfl rfl rfl ?_
  refine px_aloadN S1 d2_5 rfl rfl rfl ?_
  refine px_putfield (ty := (.array .char)) S1 (hw _ (List.mem_of_getElem? (i := 15) rfl)) F_pattern_t X_t g_t (Or.inr ⟨(hw _ (List.mem_of_getElem? (i := 16) rfl)), rfl, rfl⟩) (hw _ (List.mem_of_getElem? (i := 7) rfl)) (by decide) rfl rfl d2_6 rfl (fun T2 h2 S2 W2 F_pattern_t X_t => ?_)
  exact px_return S2 d2_9 rfl (by decide) (by decide) (⟨rfl, ((Keep.refl _ _).wr W2 (Or.inl (List.mem_singleton.mpr rfl))), X_t, F_pattern_t⟩)
theorem d5_0 : decode prog_24_method_2_code 0 = .ok (.aload_n 0, 1) := by decide +kernel
theorem d5_1 : decode prog_24_method_2_code 1 = .ok (.getfield 7, 3) := by decide +kernel
theorem d5_4 : decode prog_24_method_2_code 4 = .ok (.arraylength, 1) := by decide +kernel
theorem d5_5 : decode prog_24_method_2_code 5 = .ok (.iconst 1, 1) := by decide +kernel
theorem d5_6 : decode prog_24_method_2_code 6 = .ok (.iadd, 1) := by decide +kernel
theorem d5_7 : decode prog_24_method_2_code 7 = .ok (.ireturn, 1) := by decide +kernel
theorem pn_5 : plainFor (⟨"com/example/ghost_state/ghoststate/Shadows$Path", "states", "()I"⟩ : MethodName) = true := plainFor_of_name (by first | (simp [plainName, overriddenIn]; done) | decide +kernel)
set_option maxRecDepth 65536 in
set_option maxHeartbeats 40000000 in
theorem c_states {Z : State} {a0 : Array Value} (hw : ∀ d ∈ tables_1, d.before a0 Z = true) {t p : Addr} {n : Nat} {nl r : Int32} {f : Nat → Int32} {h0 : Heap} {n0 : Nat} (Z0 : n0 ≤ h0.size) (B0 : PathO Z h0 t p) (A0 : AI Z h0 p .char n f) (hnl : nl.toInt = (n : Int)) (hr : nl + 1 = r) :
    Ctr Z n0 (⟨"com/example/ghost_state/ghoststate/Shadows$Path", "states", "()I"⟩ : MethodName) prog_24_method_2_code 1 (some .int) ({ frames := 0, cells := 0, slots := 0, locals := 0 } : Room) [(.ref t)] h0 (fun v h => v = some (.int r) ∧ h = h0) := by
  refine Ctr.of (L := #[.val (.ref t)]) pn_5 Z0 (fun m => by first | (simp [entryFrame, mkF, argsToLocals, Value.category]; done) | rfl) ?_
  intro K T S0
  obtain ⟨X_t, F_t⟩ := B0
  refine px_aloadN S0 d5_0 rfl rfl rfl ?_
  refine px_getfield S0 (hw _ (List.mem_of_getElem? (i := 15) rfl)) F_t d5_1 rfl (fun T1 S1 => ?_)
  refine px_alenI (v := nl) S1 A0 hnl d5_4 rfl ?_
  refine px_iconst (v := (1 : Int32)) S1 d5_5 rfl rfl ?_
  refine px_iadd S1 d5_6 rfl ?_
  exact px_retI S1 d5_7 rfl (by decide) (by decide) (⟨congrArg (fun q => some (Value.int q)) hr, rfl⟩)
theorem d6_0 : decode prog_24_method_3_code 0 = .ok (.iload_n 1, 1) := by decide +kernel
theorem d6_1 : decode prog_24_method_3_code 1 = .ok (.iconst 1, 1) := by decide +kernel
theorem d6_2 : decode prog_24_method_3_code 2 = .ok (.isub, 1) := by decide +kernel
theorem d6_3 : decode prog_24_method_3_code 3 = .ok (.ireturn, 1) := by decide +kernel
theorem pn_6 : plainFor (⟨"com/example/ghost_state/ghoststate/Shadows$Path", "parent", "(I)I"⟩ : MethodName) = true := plainFor_of_name (by first | (simp [plainName, overriddenIn]; done) | decide +kernel)
set_option maxRecDepth 65536 in
set_option maxHeartbeats 40000000 in
theorem c_parent {Z : State} {a0 : Array Value} (hw : ∀ d ∈ tables_1, d.before a0 Z = true) {t : Addr} {i r : Int32} {h0 : Heap} {n0 : Nat} (Z0 : n0 ≤ h0.size) (hr : i - 1 = r) :
    Ctr Z n0 (⟨"com/example/ghost_state/ghoststate/Shadows$Path", "parent", "(I)I"⟩ : MethodName) prog_24_method_3_code 2 (some .int) ({ frames := 0, cells := 0, slots := 0, locals := 0 } : Room) [(.ref t), (.int i)] h0 (fun v h => v = some (.int r) ∧ h = h0) := by
  refine Ctr.of (L := #[.val (.ref t), .val (.int i)]) pn_6 Z0 (fun m => by first | (simp [entryFrame, mkF, argsToLocals, Value.category]; done) | rfl) ?_
  intro K T S0
  refine px_iloadN S0 d6_0 rfl rfl ?_
  refine px_iconst (v := (1 : Int32)) S0 d6_1 rfl rfl ?_
  refine px_isub S0 d6_2 rfl ?_
  exact px_retI S0 d6_3 rfl (by decide) (by decide) (⟨congrArg (fun q => some (Value.int q)) hr, rfl⟩)
theorem d7_0 : decode prog_24_method_4_code 0 = .ok (.aload_n 0, 1) := by decide +kernel
theorem d7_1 : decode prog_24_method_4_code 1 = .ok (.getfield 7, 3) := by decide +kernel
theorem d7_4 : decode prog_24_method_4_code 4 = .ok (.iload_n 1, 1) := by decide +kernel
theorem d7_5 : decode prog_24_method_4_code 5 = .ok (.iconst 1, 1) := by decide +kernel
theorem d7_6 : decode prog_24_method_4_code 6 = .ok (.isub, 1) := by decide +kernel
theorem d7_7 : decode prog_24_method_4_code 7 = .ok (.caload, 1) := by decide +kernel
theorem d7_8 : decode prog_24_method_4_code 8 = .ok (.ireturn, 1) := by decide +kernel
theorem pn_7 : plainFor (⟨"com/example/ghost_state/ghoststate/Shadows$Path", "element", "(I)C"⟩ : MethodName) = true := plainFor_of_name (by first | (simp [plainName, overriddenIn]; done) | decide +kernel)
set_option maxRecDepth 65536 in
set_option maxHeartbeats 40000000 in
theorem c_elem {Z : State} {a0 : Array Value} (hw : ∀ d ∈ tables_1, d.before a0 Z = true) {t p : Addr} {n k : Nat} {i x : Int32} {f : Nat → Int32} {h0 : Heap} {n0 : Nat} (Z0 : n0 ≤ h0.size) (B0 : PathO Z h0 t p) (A0 : AI Z h0 p .char n f) (hk : (i - 1).toInt = (k : Int)) (hkn : k < n) (hv : f k = x) (hx : nar .char x = x) :
    Ctr Z n0 (⟨"com/example/ghost_state/ghoststate/Shadows$Path", "element", "(I)C"⟩ : MethodName) prog_24_method_4_code 2 (some .char) ({ frames := 0, cells := 0, slots := 0, locals := 0 } : Room) [(.ref t), (.int i)] h0 (fun v h => v = some (.int x) ∧ h = h0) := by
  refine Ctr.of (L := #[.val (.ref t), .val (.int i)]) pn_7 Z0 (fun m => by first | (simp [entryFrame, mkF, argsToLocals, Value.category]; done) | rfl) ?_
  intro K T S0
  obtain ⟨X_t, F_t⟩ := B0
  refine px_aloadN S0 d7_0 rfl rfl rfl ?_
  refine px_getfield S0 (hw _ (List.mem_of_getElem? (i := 15) rfl)) F_t d7_1 rfl (fun T1 S1 => ?_)
  refine px_iloadN S1 d7_4 rfl rfl ?_
  refine px_iconst (v := (1 : Int32)) S1 d7_5 rfl rfl ?_
  refine px_isub S1 d7_6 rfl ?_
  refine px_caload (v := x) S1 A0 (i := k) hk (by omega) hv d7_7 rfl ?_
  exact px_retN (t := .char) (z' := x) S1 d7_8 rfl (by simp) hx (by decide) (by decide) (⟨rfl, rfl⟩)
theorem d9_0 : decode prog_24_method_5_code 0 = .ok (.iload_n 1, 1) := by decide +kernel
theorem d9_1 : decode prog_24_method_5_code 1 = .ok (.aload_n 0, 1) := by decide +kernel
theorem d9_2 : decode prog_24_method_5_code 2 = .ok (.getfield 7, 3) := by decide +kernel
theorem d9_5 : decode prog_24_method_5_code 5 = .ok (.arraylength, 1) := by decide +kernel
theorem d9_6 : decode prog_24_method_5_code 6 = .ok (.if_icmp .ge 19, 3) := by decide +kernel
theorem d9_9 : decode prog_24_method_5_code 9 = .ok (.aload_n 0, 1) := by decide +kernel
theorem d9_10 : decode prog_24_method_5_code 10 = .ok (.getfield 7, 3) := by decide +kernel
theorem d9_13 : decode prog_24_method_5_code 13 = .ok (.iload_n 1, 1) := by decide +kernel
theorem d9_14 : decode prog_24_method_5_code 14 = .ok (.caload, 1) := by decide +kernel
theorem d9_15 : decode prog_24_method_5_code 15 = .ok (.iload_n 2, 1) := by decide +kernel
theorem d9_16 : decode prog_24_method_5_code 16 = .ok (.if_icmp .ne 9, 3) := by decide +kernel
theorem d9_19 : decode prog_24_method_5_code 19 = .ok (.iload_n 1, 1) := by decide +kernel
theorem d9_20 : decode prog_24_method_5_code 20 = .ok (.iconst 1, 1) := by decide +kernel
theorem d9_21 : decode prog_24_method_5_code 21 = .ok (.iadd, 1) := by decide +kernel
theorem d9_22 : decode prog_24_method_5_code 22 = .ok (.goto 4, 3) := by decide +kernel
theorem d9_25 : decode prog_24_method_5_code 25 = .ok (.iconst (-1), 1) := by decide +kernel
theorem d9_26 : decode prog_24_method_5_code 26 = .ok (.ireturn, 1) := by decide +kernel
theorem pn_9 : plainFor (⟨"com/example/ghost_state/ghoststate/Shadows$Path", "child", "(IC)I"⟩ : MethodName) = true := plainFor_of_name (by first | (simp [plainName, overriddenIn]; done) | decide +kernel)
set_option maxRecDepth 65536 in
set_option maxHeartbeats 40000000 in
theorem c_child {Z : State} {a0 : Array Value} (hw : ∀ d ∈ tables_1, d.before a0 Z = true) {t p : Addr} {n i : Nat} {nl s c : Int32} {f : Nat → Int32} {h0 : Heap} {n0 : Nat} (Z0 : n0 ≤ h0.size) (B0 : PathO Z h0 t p) (A0 : AI Z h0 p .char n f) (hnl : nl.toInt = (n : Int)) (hi : s.toInt = (i : Int)) (hin : i < n) :
    Ctr Z n0 (⟨"com/example/ghost_state/ghoststate/Shadows$Path", "child", "(IC)I"⟩ : MethodName) prog_24_method_5_code 3 (some .int) ({ frames := 0, cells := 0, slots := 0, locals := 0 } : Room) [(.ref t), (.int s), (.int c)] h0 (fun v h => h = h0 ∧ (((f i).toInt = c.toInt ∧ v = some (.int (s + (1 : Int32)))) ∨ (¬ (f i).toInt = c.toInt ∧ v = some (.int (-1))))) := by
  refine Ctr.of (L := #[.val (.ref t), .val (.int s), .val (.int c)]) pn_9 Z0 (fun m => by first | (simp [entryFrame, mkF, argsToLocals, Value.category]; done) | rfl) ?_
  intro K T S0
  obtain ⟨X_t, F_t⟩ := B0
  refine px_iloadN S0 d9_0 rfl rfl ?_
  refine px_aloadN S0 d9_1 rfl rfl rfl ?_
  refine px_getfield S0 (hw _ (List.mem_of_getElem? (i := 15) rfl)) F_t d9_2 rfl (fun T1 S1 => ?_)
  refine px_alenI (v := nl) S1 A0 hnl d9_5 rfl ?_
  refine px_icmp S1 d9_6 (by decide) (pc' := 25) rfl rfl (fun (hc2 : s.toInt ≥ nl.toInt) => by exfalso; have q0 := rng32 s; have q1 := rng32 nl; omega) (fun (hc2 : s.toInt < nl.toInt) => ?_)
  refine px_aloadN S1 d9_9 rfl rfl rfl ?_
  refine px_getfield S1 (hw _ (List.mem_of_getElem? (i := 15) rfl)) F_t d9_10 rfl (fun T3 S3 => ?_)
  refine px_iloadN S3 d9_13 rfl rfl ?_
  refine px_caload (v := (f i)) S3 A0 (i := i) hi (by omega) rfl d9_14 rfl ?_
  refine px_iloadN S3 d9_15 rfl rfl ?_
  refine px_icmp S3 d9_16 (by decide) (pc' := 25) rfl rfl (fun (hc4 : ¬ (f i).toInt = c.toInt) => ?_) (fun (hc4 : (f i).toInt = c.toInt) => ?_)
  · refine px_iconst (v := (-1 : Int32)) S3 d9_25 rfl rfl ?_
    exact px_retI S3 d9_26 rfl (by decide) (by decide) (⟨rfl, Or.inr ⟨hc4, rfl⟩⟩)
  · refine px_iloadN S3 d9_19 rfl rfl ?_
    refine px_iconst (v := (1 : Int32)) S3 d9_20 rfl rfl ?_
    refine px_iadd S3 d9_21 rfl ?_
    refine px_goto S3 d9_22 (by decide) (pc' := 26) rfl ?_
    exact px_retI S3 d9_26 rfl (by decide) (by decide) (⟨rfl, Or.inl ⟨hc4, rfl⟩⟩)
theorem d8_0 : decode prog_23_method_4_code 0 = .ok (.iload_n 2, 1) := by decide +kernel
theorem d8_1 : decode prog_23_method_4_code 1 = .ok (.istore 4, 2) := by decide +kernel
theorem d8_3 : decode prog_23_method_4_code 3 = .ok (.iconst (-1), 1) := by decide +kernel
theorem d8_4 : decode prog_23_method_4_code 4 = .ok (.istore 5, 2) := by decide +kernel
theorem d8_6 : decode prog_23_method_4_code 6 = .ok (.iload 4, 2) := by decide +kernel
theorem d8_8 : decode prog_23_method_4_code 8 = .ok (.ifCond .lt 27, 3) := by decide +kernel
theorem d8_11 : decode prog_23_method_4_code 11 = .ok (.aload_n 0, 1) := by decide +kernel
theorem d8_12 : decode prog_23_method_4_code 12 = .ok (.iload 4, 2) := by decide +kernel
theorem d8_14 : decode prog_23_method_4_code 14 = .ok (.iload_n 3, 1) := by decide +kernel
theorem d8_15 : decode prog_23_method_4_code 15 = .ok (.invokeinterface 36 3, 5) := by decide +kernel
theorem d8_20 : decode prog_23_method_4_code 20 = .ok (.dup, 1) := by decide +kernel
theorem d8_21 : decode prog_23_method_4_code 21 = .ok (.istore 5, 2) := by decide +kernel
theorem d8_23 : decode prog_23_method_4_code 23 = .ok (.ifCond .ge 12, 3) := by decide +kernel
theorem d8_26 : decode prog_23_method_4_code 26 = .ok (.aload_n 1, 1) := by decide +kernel
theorem d8_27 : decode prog_23_method_4_code 27 = .ok (.iload 4, 2) := by decide +kernel
theorem d8_29 : decode prog_23_method_4_code 29 = .ok (.iaload, 1) := by decide +kernel
theorem d8_30 : decode prog_23_method_4_code 30 = .ok (.istore 4, 2) := by decide +kernel
theorem d8_32 : decode prog_23_method_4_code 32 = .ok (.goto (-26), 3) := by decide +kernel
theorem d8_35 : decode prog_23_method_4_code 35 = .ok (.iload 4, 2) := by decide +kernel
theorem d8_37 : decode prog_23_method_4_code 37 = .ok (.ifCond .ge 7, 3) := by decide +kernel
theorem d8_40 : decode prog_23_method_4_code 40 = .ok (.iconst 0, 1) := by decide +kernel
theorem d8_41 : decode prog_23_method_4_code 41 = .ok (.goto 5, 3) := by decide +kernel
theorem d8_44 : decode prog_23_method_4_code 44 = .ok (.iload 5, 2) := by decide +kernel
theorem d8_46 : decode prog_23_method_4_code 46 = .ok (.ireturn, 1) := by decide +kernel
theorem pd_8_0 : parseMethodDescriptor "(IC)I" = some ⟨[.int, .char], some .int⟩ := by decide +kernel
theorem pn_8 : plainFor (⟨"com/example/ghost_state/ghoststate/Shadows", "next", "(Lcom/example/ghost_state/ghoststate/Shadows$PrefixTree;[IIC)I"⟩ : MethodName) = true := plainFor_of_name (by first | (simp [plainName, overriddenIn]; done) | decide +kernel)
set_option maxRecDepth 65536 in
set_option maxHeartbeats 40000000 in
theorem c_next {Z : State} {a0 : Array Value} (hw : ∀ d ∈ tables_1, d.before a0 Z = true) {t p b : Addr} {n m k0 : Nat} {nl s c r : Int32} {f sh : Nat → Int32} {h0 : Heap} {n0 : Nat} (Z0 : n0 ≤ h0.size) (B0 : PathO Z h0 t p) (A0 : AI Z h0 p .char n f) (A1 : AI Z h0 b .int m sh) (hnl : nl.toInt = (n : Int)) (hnm : n ≤ m) (hn : n < 1000) (hN0 : Nx n f sh c k0 s r) :
    Ctr Z n0 (⟨"com/example/ghost_state/ghoststate/Shadows", "next", "(Lcom/example/ghost_state/ghoststate/Shadows$PrefixTree;[IIC)I"⟩ : MethodName) prog_23_method_4_code 6 (some .int) ({ frames := 1, cells := 0, slots := 0, locals := 14 } : Room) [(.ref t), (.ref b), (.int s), (.int c)] h0 (fun v h => v = some (.int r) ∧ h = h0) := by
  refine Ctr.of (L := #[.val (.ref t), .val (.ref b), .val (.int s), .val (.int c), .unset, .unset]) pn_8 Z0 (fun m => by first | (simp [entryFrame, mkF, argsToLocals, Value.category]; done) | rfl) ?_
  intro K T S0
  refine px_iloadN S0 d8_0 rfl rfl ?_
  refine px_istore S0 d8_1 rfl (L' := #[.val (.ref t), .val (.ref b), .val (.int s), .val (.int c), .val (.int s), .unset]) rfl ?_
  refine px_iconst (v := (-1 : Int32)) S0 d8_3 rfl rfl ?_
  refine px_istore S0 d8_4 rfl (L' := #[.val (.ref t), .val (.ref b), .val (.int s), .val (.int c), .val (.int s), .val (.int (-1 : Int32))]) rfl ?_
  refine Go.loopH (α := (Int32) × (Int32)) (Inv := fun k x h => h = h0 ∧ Nx n f sh c k x.1 r) (pcj := 6) (cl' := 0) (sl' := 0) (Lj := fun x => #[.val (.ref t), .val (.ref b), .val (.int s), .val (.int c), .val (.int x.1), .val (.int x.2)]) (stj := fun x => []) S0 (fun k IHJ1 x T2 h2 S2 p2 => ?_) (fun J1 => ?_)
  · obtain ⟨u, d⟩ := x
    try dsimp only at p2
    obtain ⟨rfl, hN⟩ := p2
    show Go _ _ _ _ _ 6 #[.val (.ref t), .val (.ref b), .val (.int s), .val (.int c), .val (.int u), .val (.int d)] []
    obtain ⟨X_t, F_t⟩ := id B0
    rcases k with _ | k
    · rcases hN with ⟨hneg, hr⟩ | ⟨i, hi, hin, heq, hr⟩
      · refine px_iload S2 d8_6 rfl rfl ?_
        refine px_if0 S2 d8_8 (by decide) (pc' := 35) rfl rfl (fun (hc3 : u.toInt < 0) => ?_) (fun (hc3 : u.toInt ≥ 0) => by exfalso; have q0 := rng32 u; omega)
        refine px_iload S2 d8_35 rfl rfl ?_
        refine px_if0 S2 d8_37 (by decide) (pc' := 44) rfl rfl (fun (hc4 : u.toInt ≥ 0) => by exfalso; have q0 := rng32 u; omega) (fun (hc4 : u.toInt < 0) => ?_)
        refine px_iconst (v := (0 : Int32)) S2 d8_40 rfl rfl ?_
        refine px_goto S2 d8_41 (by decide) (pc' := 46) rfl ?_
        exact px_retI S2 d8_46 rfl (by decide) (by decide) (⟨congrArg (fun q => some (Value.int q)) hr.symm, rfl⟩)
      · refine px_iload S2 d8_6 rfl rfl ?_
        refine px_if0 S2 d8_8 (by decide) (pc' := 35) rfl rfl (fun (hc5 : u.toInt < 0) => by exfalso; have q0 := rng32 u; omega) (fun (hc5 : u.toInt ≥ 0) => ?_)
        refine px_aloadN S2 d8_11 rfl rfl rfl ?_
        refine px_iload S2 d8_12 rfl rfl ?_
        refine px_iloadN S2 d8_14 rfl rfl ?_
        refine px_callI (Cn := "com/example/ghost_state/ghoststate/Shadows$Path") (as' := [(.int u), (.int c)]) (st := []) (W := 0) S2 (c_child (i := i) hw S2.size B0 A0 hnl hi hin) X_t (hw _ (List.mem_of_getElem? (i := 49) rfl)) (hw _ (List.mem_of_getElem? (i := 50) rfl)) (hw _ (List.mem_of_getElem? (i := 51) rfl)) rfl (hw _ (List.mem_of_getElem? (i := 52) rfl)) (hw _ (List.mem_of_getElem? (i := 53) rfl)) (hw _ (List.mem_of_getElem? (i := 54) rfl)) (hw _ (List.mem_of_getElem? (i := 55) rfl)) (hw _ (List.mem_of_getElem? (i := 27) rfl)) (hw _ (List.mem_of_getElem? (i := 8) rfl)) (hw _ (List.mem_of_getElem? (i := 56) rfl)) (by decide) pd_8_0 rfl rfl (by decide) rfl (by decide) (by decide) (by decide) d8_15 rfl rfl (fun T6 h6 v6 S6 q6 => ?_)
        obtain ⟨rfl, q6⟩ := q6
        obtain rfl : v6 = some (.int (u + (1 : Int32))) := q6.elim (fun q => q.2) (fun q => absurd heq q.1)
        show Go _ _ _ _ _ _ _ [(.int (u + (1 : Int32)))]
        refine px_dup S6 d8_20 rfl rfl ?_
        generalize h_v7 : (u + (1 : Int32)) = v7
        refine px_istore S6 d8_21 rfl (L' := #[.val (.ref t), .val (.ref b), .val (.int s), .val (.int c), .val (.int u), .val (.int v7)]) rfl ?_
        refine px_if0 S6 d8_23 (by decide) (pc' := 35) rfl rfl (fun (hc8 : v7.toInt ≥ 0) => ?_) (fun (hc8 : v7.toInt < 0) => by exfalso; have q0 := rng32 v7; have q1 := congrArg Int32.toInt h_v7; have q2 := c_iadd u (1 : Int32); have q3 := rng32 (u + (1 : Int32)); have q4 := rng32 u; have q5 := (show (1 : Int32).toInt = 1 from rfl); omega)
        refine px_iload S6 d8_35 rfl rfl ?_
        refine px_if0 S6 d8_37 (by decide) (pc' := 44) rfl rfl (fun (hc9 : u.toInt ≥ 0) => ?_) (fun (hc9 : u.toInt < 0) => by exfalso; have q0 := rng32 u; have q1 := rng32 v7; have q2 := congrArg Int32.toInt h_v7; have q3 := c_iadd u (1 : Int32); have q4 := rng32 (u + (1 : Int32)); have q5 := (show (1 : Int32).toInt = 1 from rfl); omega)
        refine px_iload S6 d8_44 rfl rfl ?_
        exact px_retI S6 d8_46 rfl (by decide) (by decide) (⟨congrArg (fun q => some (Value.int q)) (h_v7.symm.trans hr), rfl⟩)
    · obtain ⟨i, hi, hin, hne, hN⟩ := hN
      refine px_iload S2 d8_6 rfl rfl ?_
      refine px_if0 S2 d8_8 (by decide) (pc' := 35) rfl rfl (fun (hc10 : u.toInt < 0) => by exfalso; have q0 := rng32 u; omega) (fun (hc10 : u.toInt ≥ 0) => ?_)
      refine px_aloadN S2 d8_11 rfl rfl rfl ?_
      refine px_iload S2 d8_12 rfl rfl ?_
      refine px_iloadN S2 d8_14 rfl rfl ?_
      refine px_callI (Cn := "com/example/ghost_state/ghoststate/Shadows$Path") (as' := [(.int u), (.int c)]) (st := []) (W := 0) S2 (c_child (i := i) hw S2.size B0 A0 hnl hi hin) X_t (hw _ (List.mem_of_getElem? (i := 49) rfl)) (hw _ (List.mem_of_getElem? (i := 50) rfl)) (hw _ (List.mem_of_getElem? (i := 51) rfl)) rfl (hw _ (List.mem_of_getElem? (i := 52) rfl)) (hw _ (List.mem_of_getElem? (i := 53) rfl)) (hw _ (List.mem_of_getElem? (i := 54) rfl)) (hw _ (List.mem_of_getElem? (i := 55) rfl)) (hw _ (List.mem_of_getElem? (i := 27) rfl)) (hw _ (List.mem_of_getElem? (i := 8) rfl)) (hw _ (List.mem_of_getElem? (i := 56) rfl)) (by decide) pd_8_0 rfl rfl (by decide) rfl (by decide) (by decide) (by decide) d8_15 rfl rfl (fun T11 h11 v11 S11 q11 => ?_)
      obtain ⟨rfl, q11⟩ := q11
      obtain rfl : v11 = some (.int (-1)) := q11.elim (fun q => absurd q.1 hne) (fun q => q.2)
      show Go _ _ _ _ _ _ _ [(.int (-1 : Int32))]
      refine px_dup S11 d8_20 rfl rfl ?_
      refine px_istore S11 d8_21 rfl (L' := #[.val (.ref t), .val (.ref b), .val (.int s), .val (.int c), .val (.int u), .val (.int (-1 : Int32))]) rfl ?_
      refine px_if0 S11 d8_23 (by decide) (pc' := 35) rfl rfl (fun (hc12 : (-1 : Int32).toInt ≥ 0) => by exfalso; revert hc12; decide) (fun (hc12 : (-1 : Int32).toInt < 0) => ?_)
      refine px_aloadN S11 d8_26 rfl rfl rfl ?_
      refine px_iload S11 d8_27 rfl rfl ?_
      refine px_iaload (v := (sh i)) S11 A1 (i := i) hi (by omega) rfl d8_29 rfl ?_
      refine px_istore S11 d8_30 rfl (L' := #[.val (.ref t), .val (.ref b), .val (.int s), .val (.int c), .val (.int (sh i)), .val (.int (-1 : Int32))]) rfl ?_
      refine px_goto S11 d8_32 (by decide) (pc' := 6) rfl ?_
      exact IHJ1 k (by omega) ((sh i), (-1 : Int32)) _ _ S11 ⟨rfl, hN⟩
  · exact J1 k0 (s, (-1 : Int32)) _ _ S0 ⟨rfl, hN0⟩
theorem d4_0 : decode prog_23_method_3_code 0 = .ok (.aload_n 0, 1) := by decide +kernel
theorem d4_1 : decode prog_23_method_3_code 1 = .ok (.invokeinterface 18 1, 5) := by decide +kernel
theorem d4_6 : decode prog_23_method_3_code 6 = .ok (.newarray .int, 2) := by decide +kernel
theorem d4_8 : decode prog_23_method_3_code 8 = .ok (.astore_n 1, 1) := by decide +kernel
theorem d4_9 : decode prog_23_method_3_code 9 = .ok (.aload_n 1, 1) := by decide +kernel
theorem d4_10 : decode prog_23_method_3_code 10 = .ok (.iconst 0, 1) := by decide +kernel
theorem d4_11 : decode prog_23_method_3_code 11 = .ok (.iconst (-1), 1) := by decide +kernel
theorem d4_12 : decode prog_23_method_3_code 12 = .ok (.iastore, 1) := by decide +kernel
theorem d4_13 : decode prog_23_method_3_code 13 = .ok (.iconst 1, 1) := by decide +kernel
theorem d4_14 : decode prog_23_method_3_code 14 = .ok (.istore_n 2, 1) := by decide +kernel
theorem d4_15 : decode prog_23_method_3_code 15 = .ok (.iload_n 2, 1) := by decide +kernel
theorem d4_16 : decode prog_23_method_3_code 16 = .ok (.aload_n 1, 1) := by decide +kernel
theorem d4_17 : decode prog_23_method_3_code 17 = .ok (.arraylength, 1) := by decide +kernel
theorem d4_18 : decode prog_23_method_3_code 18 = .ok (.if_icmp .ge 33, 3) := by decide +kernel
theorem d4_51 : decode prog_23_method_3_code 51 = .ok (.aload_n 1, 1) := by decide +kernel
theorem d4_52 : decode prog_23_method_3_code 52 = .ok (.areturn, 1) := by decide +kernel
theorem pd_4_0 : parseMethodDescriptor "()I" = some ⟨[], some .int⟩ := by decide +kernel
theorem pn_4 : plainFor (⟨"com/example/ghost_state/ghoststate/Shadows", "of", "(Lcom/example/ghost_state/ghoststate/Shadows$PrefixTree;)[I"⟩ : MethodName) = true := plainFor_of_name (by first | (simp [plainName, overriddenIn]; done) | decide +kernel)
set_option maxRecDepth 65536 in
set_option maxHeartbeats 40000000 in
theorem c_ofT0 {Z : State} {a0 : Array Value} (hw : ∀ d ∈ tables_1, d.before a0 Z = true) {t p : Addr} {dummy : Int32} {f : Nat → Int32} {h0 : Heap} {n0 : Nat} (Z0 : n0 ≤ h0.size) (B0 : PathO Z h0 t p) (A0 : AI Z h0 p .char 0 f) :
    Ctr Z n0 (⟨"com/example/ghost_state/ghoststate/Shadows", "of", "(Lcom/example/ghost_state/ghoststate/Shadows$PrefixTree;)[I"⟩ : MethodName) prog_23_method_3_code 3 (some (.array .int)) ({ frames := 1, cells := 1, slots := 1, locals := 12 } : Room) [(.ref t)] h0 (fun v h => ∃ (b : Addr) (s0 : Int32), v = some (.ref b) ∧ n0 ≤ b ∧ Keep h0 h [] ∧ AI Z h b .int 1 (updF (fun _ => 0) 0 s0) ∧ s0.toInt = -1 ∧ True) := by
  refine Ctr.of (L := #[.val (.ref t), .unset, .unset]) pn_4 Z0 (fun m => by first | (simp [entryFrame, mkF, argsToLocals, Value.category]; done) | rfl) ?_
  intro K T S0
  have X_t := B0.1
  have F_t := B0.2
  refine px_aloadN S0 d4_0 rfl rfl rfl ?_
  refine px_callI (Cn := "com/example/ghost_state/ghoststate/Shadows$Path") (as' := []) (st := []) (W := 0) S0 (c_states (nl := (0 : Int32)) (r := (1 : Int32)) hw S0.size ⟨X_t, F_t⟩ A0 rfl (by decide)) X_t (hw _ (List.mem_of_getElem? (i := 20) rfl)) (hw _ (List.mem_of_getElem? (i := 21) rfl)) (hw _ (List.mem_of_getElem? (i := 22) rfl)) rfl (hw _ (List.mem_of_getElem? (i := 23) rfl)) (hw _ (List.mem_of_getElem? (i := 24) rfl)) (hw _ (List.mem_of_getElem? (i := 25) rfl)) (hw _ (List.mem_of_getElem? (i := 26) rfl)) (hw _ (List.mem_of_getElem? (i := 27) rfl)) (hw _ (List.mem_of_getElem? (i := 8) rfl)) (hw _ (List.mem_of_getElem? (i := 28) rfl)) (by decide) pd_4_0 rfl rfl (by decide) rfl (by decide) (by decide) (by decide) d4_1 rfl rfl (fun T1 h1 v1 S1 q1 => ?_)
  obtain ⟨rfl, rfl⟩ := q1
  show Go _ _ _ _ _ _ _ [(.int (1 : Int32))]
  refine px_newarr (aty := .int) (cap := 1) S1 (hw _ (List.mem_of_getElem? (i := 29) rfl)) rfl (n := 1) rfl (by decide) (by decide) (by decide) (by decide) d4_6 rfl (fun T2 h2 b2 z2 g_b2 S2 E2 A_b2 => ?_)
  have ne_t_b2 : t ≠ b2 := ne_new z2 X_t.lt
  replace X_t := X_t.ext E2
  replace F_t := F_t.ext E2
  have ne_p_b2 : p ≠ b2 := ne_new z2 A0.lt
  replace A0 := A0.ext E2
  refine px_astoreN S2 d4_8 rfl rfl (L' := #[.val (.ref t), .val (.ref b2), .unset]) rfl ?_
  refine px_aloadN S2 d4_9 rfl rfl rfl ?_
  refine px_iconst (v := (0 : Int32)) S2 d4_10 rfl rfl ?_
  refine px_iconst (v := (-1 : Int32)) S2 d4_11 rfl rfl ?_
  refine px_iastore (v := (-1 : Int32)) S2 A_b2 g_b2 (i := 0) rfl (by decide) rfl d4_12 rfl (fun T3 h3 S3 W3 A_b2 => ?_)
  replace X_t := X_t.wr W3
  replace F_t := F_t.other W3 (Or.inl ne_t_b2)
  replace A0 := A0.other W3 ne_p_b2
  refine px_iconst (v := (1 : Int32)) S3 d4_13 rfl rfl ?_
  refine px_istoreN S3 d4_14 rfl (L' := #[.val (.ref t), .val (.ref b2), .val (.int (1 : Int32))]) rfl ?_
  refine px_iloadN S3 d4_15 rfl rfl ?_
  refine px_aloadN S3 d4_16 rfl rfl rfl ?_
  refine px_alenI (v := (1 : Int32)) S3 A_b2 rfl d4_17 rfl ?_
  refine px_icmp S3 d4_18 (by decide) (pc' := 51) rfl rfl (fun (hc4 : (1 : Int32).toInt ≥ (1 : Int32).toInt) => ?_) (fun (hc4 : (1 : Int32).toInt < (1 : Int32).toInt) => by exfalso; revert hc4; decide)
  refine px_aloadN S3 d4_51 rfl rfl rfl ?_
  exact px_retA S3 d4_52 rfl rfl rfl (by decide) (by decide) (⟨b2, (-1 : Int32), rfl, g_b2, (((Keep.refl _ _).ext E2).wr W3 (Or.inr (Nat.le_of_eq z2.symm))), A_b2.congr (all1 rfl), rfl, trivial⟩)
theorem d4_21 : decode prog_23_method_3_code 21 = .ok (.aload_n 1, 1) := by decide +kernel
theorem d4_22 : decode prog_23_method_3_code 22 = .ok (.iload_n 2, 1) := by decide +kernel
theorem d4_23 : decode prog_23_method_3_code 23 = .ok (.aload_n 0, 1) := by decide +kernel
theorem d4_24 : decode prog_23_method_3_code 24 = .ok (.aload_n 1, 1) := by decide +kernel
theorem d4_25 : decode prog_23_method_3_code 25 = .ok (.aload_n 1, 1) := by decide +kernel
theorem d4_26 : decode prog_23_method_3_code 26 = .ok (.aload_n 0, 1) := by decide +kernel
theorem d4_27 : decode prog_23_method_3_code 27 = .ok (.iload_n 2, 1) := by decide +kernel
theorem d4_28 : decode prog_23_method_3_code 28 = .ok (.invokeinterface 24 2, 5) := by decide +kernel
theorem d4_33 : decode prog_23_method_3_code 33 = .ok (.iaload, 1) := by decide +kernel
theorem d4_34 : decode prog_23_method_3_code 34 = .ok (.aload_n 0, 1) := by decide +kernel
theorem d4_35 : decode prog_23_method_3_code 35 = .ok (.iload_n 2, 1) := by decide +kernel
theorem d4_36 : decode prog_23_method_3_code 36 = .ok (.invokeinterface 28 2, 5) := by decide +kernel
theorem d4_41 : decode prog_23_method_3_code 41 = .ok (.invokestatic 32, 3) := by decide +kernel
theorem d4_44 : decode prog_23_method_3_code 44 = .ok (.iastore, 1) := by decide +kernel
theorem d4_45 : decode prog_23_method_3_code 45 = .ok (.iinc 2 1, 3) := by decide +kernel
theorem d4_48 : decode prog_23_method_3_code 48 = .ok (.goto (-33), 3) := by decide +kernel
theorem pd_4_1 : parseMethodDescriptor "(I)I" = some ⟨[.int], some .int⟩ := by decide +kernel
theorem pd_4_2 : parseMethodDescriptor "(I)C" = some ⟨[.int], some .char⟩ := by decide +kernel
theorem pd_4_3 : parseMethodDescriptor "(Lcom/example/ghost_state/ghoststate/Shadows$PrefixTree;[IIC)I" = some ⟨[(.object "com/example/ghost_state/ghoststate/Shadows$PrefixTree"), (.array .int), .int, .char], some .int⟩ := by decide +kernel
set_option maxRecDepth 65536 in
set_option maxHeartbeats 40000000 in
theorem c_ofT1 {Z : State} {a0 : Array Value} (hw : ∀ d ∈ tables_1, d.before a0 Z = true) {t p : Addr} {c0 : Int32} {f : Nat → Int32} {h0 : Heap} {n0 : Nat} (Z0 : n0 ≤ h0.size) (B0 : PathO Z h0 t p) (A0 : AI Z h0 p .char 1 f) (e_c0 : f 0 = c0) (n_c0 : nar .char c0 = c0) :
    Ctr Z n0 (⟨"com/example/ghost_state/ghoststate/Shadows", "of", "(Lcom/example/ghost_state/ghoststate/Shadows$PrefixTree;)[I"⟩ : MethodName) prog_23_method_3_code 3 (some (.array .int)) ({ frames := 2, cells := 1, slots := 2, locals := 33 } : Room) [(.ref t)] h0 (fun v h => ∃ (b : Addr) (s0 s1 : Int32), v = some (.ref b) ∧ n0 ≤ b ∧ Keep h0 h [] ∧ AI Z h b .int 2 (updF (updF (fun _ => 0) 0 s0) 1 s1) ∧ s0.toInt = -1 ∧ ((s1.toInt = 0))) := by
  refine Ctr.of (L := #[.val (.ref t), .unset, .unset]) pn_4 Z0 (fun m => by first | (simp [entryFrame, mkF, argsToLocals, Value.category]; done) | rfl) ?_
  intro K T S0
  have X_t := B0.1
  have F_t := B0.2
  refine px_aloadN S0 d4_0 rfl rfl rfl ?_
  refine px_callI (Cn := "com/example/ghost_state/ghoststate/Shadows$Path") (as' := []) (st := []) (W := 0) S0 (c_states (nl := (1 : Int32)) (r := (2 : Int32)) hw S0.size ⟨X_t, F_t⟩ A0 rfl (by decide)) X_t (hw _ (List.mem_of_getElem? (i := 20) rfl)) (hw _ (List.mem_of_getElem? (i := 21) rfl)) (hw _ (List.mem_of_getElem? (i := 22) rfl)) rfl (hw _ (List.mem_of_getElem? (i := 23) rfl)) (hw _ (List.mem_of_getElem? (i := 24) rfl)) (hw _ (List.mem_of_getElem? (i := 25) rfl)) (hw _ (List.mem_of_getElem? (i := 26) rfl)) (hw _ (List.mem_of_getElem? (i := 27) rfl)) (hw _ (List.mem_of_getElem? (i := 8) rfl)) (hw _ (List.mem_of_getElem? (i := 28) rfl)) (by decide) pd_4_0 rfl rfl (by decide) rfl (by decide) (by decide) (by decide) d4_1 rfl rfl (fun T1 h1 v1 S1 q1 => ?_)
  obtain ⟨rfl, rfl⟩ := q1
  show Go _ _ _ _ _ _ _ [(.int (2 : Int32))]
  refine px_newarr (aty := .int) (cap := 2) S1 (hw _ (List.mem_of_getElem? (i := 29) rfl)) rfl (n := 2) rfl (by decide) (by decide) (by decide) (by decide) d4_6 rfl (fun T2 h2 b2 z2 g_b2 S2 E2 A_b2 => ?_)
  have ne_t_b2 : t ≠ b2 := ne_new z2 X_t.lt
  replace X_t := X_t.ext E2
  replace F_t := F_t.ext E2
  have ne_p_b2 : p ≠ b2 := ne_new z2 A0.lt
  replace A0 := A0.ext E2
  refine px_astoreN S2 d4_8 rfl rfl (L' := #[.val (.ref t), .val (.ref b2), .unset]) rfl ?_
  refine px_aloadN S2 d4_9 rfl rfl rfl ?_
  refine px_iconst (v := (0 : Int32)) S2 d4_10 rfl rfl ?_
  refine px_iconst (v := (-1 : Int32)) S2 d4_11 rfl rfl ?_
  refine px_iastore (v := (-1 : Int32)) S2 A_b2 g_b2 (i := 0) rfl (by decide) rfl d4_12 rfl (fun T3 h3 S3 W3 A_b2 => ?_)
  replace X_t := X_t.wr W3
  replace F_t := F_t.other W3 (Or.inl ne_t_b2)
  replace A0 := A0.other W3 ne_p_b2
  refine px_iconst (v := (1 : Int32)) S3 d4_13 rfl rfl ?_
  refine px_istoreN S3 d4_14 rfl (L' := #[.val (.ref t), .val (.ref b2), .val (.int (1 : Int32))]) rfl ?_
  refine px_iloadN S3 d4_15 rfl rfl ?_
  refine px_aloadN S3 d4_16 rfl rfl rfl ?_
  refine px_alenI (v := (2 : Int32)) S3 A_b2 rfl d4_17 rfl ?_
  refine px_icmp S3 d4_18 (by decide) (pc' := 51) rfl rfl (fun (hc4 : (1 : Int32).toInt ≥ (2 : Int32).toInt) => by exfalso; revert hc4; decide) (fun (hc4 : (1 : Int32).toInt < (2 : Int32).toInt) => ?_)
  refine px_aloadN S3 d4_21 rfl rfl rfl ?_
  refine px_iloadN S3 d4_22 rfl rfl ?_
  refine px_aloadN S3 d4_23 rfl rfl rfl ?_
  refine px_aloadN S3 d4_24 rfl rfl rfl ?_
  refine px_aloadN S3 d4_25 rfl rfl rfl ?_
  refine px_aloadN S3 d4_26 rfl rfl rfl ?_
  refine px_iloadN S3 d4_27 rfl rfl ?_
  refine px_callI (Cn := "com/example/ghost_state/ghoststate/Shadows$Path") (as' := [(.int (1 : Int32))]) (st := [(.ref b2), (.ref b2), (.ref t), (.int (1 : Int32)), (.ref b2)]) (W := 5) S3 (c_parent (r := (0 : Int32)) hw S3.size (by decide)) X_t (hw _ (List.mem_of_getElem? (i := 30) rfl)) (hw _ (List.mem_of_getElem? (i := 31) rfl)) (hw _ (List.mem_of_getElem? (i := 32) rfl)) rfl (hw _ (List.mem_of_getElem? (i := 33) rfl)) (hw _ (List.mem_of_getElem? (i := 34) rfl)) (hw _ (List.mem_of_getElem? (i := 35) rfl)) (hw _ (List.mem_of_getElem? (i := 36) rfl)) (hw _ (List.mem_of_getElem? (i := 27) rfl)) (hw _ (List.mem_of_getElem? (i := 8) rfl)) (hw _ (List.mem_of_getElem? (i := 37) rfl)) (by decide) pd_4_1 rfl rfl (by decide) rfl (by decide) (by decide) (by decide) d4_28 rfl rfl (fun T5 h5 v5 S5 q5 => ?_)
  obtain ⟨rfl, rfl⟩ := q5
  show Go _ _ _ _ _ _ _ [(.int (0 : Int32)), (.ref b2), (.ref b2), (.ref t), (.int (1 : Int32)), (.ref b2)]
  refine px_iaload (v := (-1 : Int32)) S5 A_b2 (i := 0) rfl (by decide) rfl d4_33 rfl ?_
  refine px_aloadN S5 d4_34 rfl rfl rfl ?_
  refine px_iloadN S5 d4_35 rfl rfl ?_
  refine px_callI (Cn := "com/example/ghost_state/ghoststate/Shadows$Path") (as' := [(.int (1 : Int32))]) (st := [(.int (-1 : Int32)), (.ref b2), (.ref t), (.int (1 : Int32)), (.ref b2)]) (W := 5) S5 (c_elem (k := 0) (x := c0) hw S5.size ⟨X_t, F_t⟩ A0 (by decide) (by decide) e_c0 n_c0) X_t (hw _ (List.mem_of_getElem? (i := 38) rfl)) (hw _ (List.mem_of_getElem? (i := 39) rfl)) (hw _ (List.mem_of_getElem? (i := 40) rfl)) rfl (hw _ (List.mem_of_getElem? (i := 41) rfl)) (hw _ (List.mem_of_getElem? (i := 42) rfl)) (hw _ (List.mem_of_getElem? (i := 43) rfl)) (hw _ (List.mem_of_getElem? (i := 44) rfl)) (hw _ (List.mem_of_getElem? (i := 27) rfl)) (hw _ (List.mem_of_getElem? (i := 8) rfl)) (hw _ (List.mem_of_getElem? (i := 45) rfl)) (by decide) pd_4_2 rfl rfl (by decide) rfl (by decide) (by decide) (by decide) d4_36 rfl rfl (fun T6 h6 v6 S6 q6 => ?_)
  obtain ⟨rfl, rfl⟩ := q6
  show Go _ _ _ _ _ _ _ [(.int c0), (.int (-1 : Int32)), (.ref b2), (.ref t), (.int (1 : Int32)), (.ref b2)]
  refine px_callS (as' := [(.ref t), (.ref b2), (.int (-1 : Int32)), (.int c0)]) (st := [(.int (1 : Int32)), (.ref b2)]) (W := 2) S6 (c_next (n := 1) (m := 2) (k0 := 0) (nl := (1 : Int32)) (r := (0 : Int32)) hw S6.size ⟨X_t, F_t⟩ A0 A_b2 rfl (by decide) (by decide) (Or.inl ⟨by decide, rfl⟩)) (hw _ (List.mem_of_getElem? (i := 46) rfl)) (hw _ (List.mem_of_getElem? (i := 47) rfl)) (hw _ (List.mem_of_getElem? (i := 4) rfl)) (hw _ (List.mem_of_getElem? (i := 48) rfl)) (by decide) pd_4_3 rfl rfl (by decide) rfl (by decide) (by decide) (by decide) d4_41 rfl rfl (fun T7 h7 v7 S7 q7 => ?_)
  obtain ⟨rfl, rfl⟩ := q7
  show Go _ _ _ _ _ _ _ [(.int (0 : Int32)), (.int (1 : Int32)), (.ref b2)]
  refine px_iastore (v := (0 : Int32)) S7 A_b2 g_b2 (i := 1) rfl (by decide) rfl d4_44 rfl (fun T8 h8 S8 W8 A_b2 => ?_)
  replace X_t := X_t.wr W8
  replace F_t := F_t.other W8 (Or.inl ne_t_b2)
  replace A0 := A0.other W8 ne_p_b2
  refine px_iinc (v := (1 : Int32)) (r := (2 : Int32)) S8 d4_45 rfl rfl rfl (by decide) (L' := #[.val (.ref t), .val (.ref b2), .val (.int (2 : Int32))]) rfl ?_
  refine px_goto S8 d4_48 (by decide) (pc' := 15) rfl ?_
  refine px_iloadN S8 d4_15 rfl rfl ?_
  refine px_aloadN S8 d4_16 rfl rfl rfl ?_
  refine px_alenI (v := (2 : Int32)) S8 A_b2 rfl d4_17 rfl ?_
  refine px_icmp S8 d4_18 (by decide) (pc' := 51) rfl rfl (fun (hc9 : (2 : Int32).toInt ≥ (2 : Int32).toInt) => ?_) (fun (hc9 : (2 : Int32).toInt < (2 : Int32).toInt) => by exfalso; revert hc9; decide)
  refine px_aloadN S8 d4_51 rfl rfl rfl ?_
  exact px_retA S8 d4_52 rfl rfl rfl (by decide) (by decide) (⟨b2, (-1 : Int32), (0 : Int32), rfl, g_b2, ((((Keep.refl _ _).ext E2).wr W3 (Or.inr (Nat.le_of_eq z2.symm))).wr W8 (Or.inr (Nat.le_of_eq z2.symm))), A_b2.congr (all2 rfl rfl), rfl, rfl⟩)
set_option maxRecDepth 65536 in
set_option maxHeartbeats 40000000 in
theorem c_ofT2 {Z : State} {a0 : Array Value} (hw : ∀ d ∈ tables_1, d.before a0 Z = true) {t p : Addr} {c0 c1 : Int32} {f : Nat → Int32} {h0 : Heap} {n0 : Nat} (Z0 : n0 ≤ h0.size) (B0 : PathO Z h0 t p) (A0 : AI Z h0 p .char 2 f) (e_c0 : f 0 = c0) (e_c1 : f 1 = c1) (n_c0 : nar .char c0 = c0) (n_c1 : nar .char c1 = c1) :
    Ctr Z n0 (⟨"com/example/ghost_state/ghoststate/Shadows", "of", "(Lcom/example/ghost_state/ghoststate/Shadows$PrefixTree;)[I"⟩ : MethodName) prog_23_method_3_code 3 (some (.array .int)) ({ frames := 2, cells := 1, slots := 3, locals := 33 } : Room) [(.ref t)] h0 (fun v h => ∃ (b : Addr) (s0 s1 s2 : Int32), v = some (.ref b) ∧ n0 ≤ b ∧ Keep h0 h [] ∧ AI Z h b .int 3 (updF (updF (updF (fun _ => 0) 0 s0) 1 s1) 2 s2) ∧ s0.toInt = -1 ∧ ((s1.toInt = 0)) ∧ ((s2.toInt = 0 ∧ ¬ (c0.toInt = c1.toInt)) ∨ (s2.toInt = 1 ∧ (c0.toInt = c1.toInt)))) := by
  refine Ctr.of (L := #[.val (.ref t), .unset, .unset]) pn_4 Z0 (fun m => by first | (simp [entryFrame, mkF, argsToLocals, Value.category]; done) | rfl) ?_
  intro K T S0
  have X_t := B0.1
  have F_t := B0.2
  refine px_aloadN S0 d4_0 rfl rfl rfl ?_
  refine px_callI (Cn := "com/example/ghost_state/ghoststate/Shadows$Path") (as' := []) (st := []) (W := 0) S0 (c_states (nl := (2 : Int32)) (r := (3 : Int32)) hw S0.size ⟨X_t, F_t⟩ A0 rfl (by decide)) X_t (hw _ (List.mem_of_getElem? (i := 20) rfl)) (hw _ (List.mem_of_getElem? (i := 21) rfl)) (hw _ (List.mem_of_getElem? (i := 22) rfl)) rfl (hw _ (List.mem_of_getElem? (i := 23) rfl)) (hw _ (List.mem_of_getElem? (i := 24) rfl)) (hw _ (List.mem_of_getElem? (i := 25) rfl)) (hw _ (List.mem_of_getElem? (i := 26) rfl)) (hw _ (List.mem_of_getElem? (i := 27) rfl)) (hw _ (List.mem_of_getElem? (i := 8) rfl)) (hw _ (List.mem_of_getElem? (i := 28) rfl)) (by decide) pd_4_0 rfl rfl (by decide) rfl (by decide) (by decide) (by decide) d4_1 rfl rfl (fun T1 h1 v1 S1 q1 => ?_)
  obtain ⟨rfl, rfl⟩ := q1
  show Go _ _ _ _ _ _ _ [(.int (3 : Int32))]
  refine px_newarr (aty := .int) (cap := 3) S1 (hw _ (List.mem_of_getElem? (i := 29) rfl)) rfl (n := 3) rfl (by decide) (by decide) (by decide) (by decide) d4_6 rfl (fun T2 h2 b2 z2 g_b2 S2 E2 A_b2 => ?_)
  have ne_t_b2 : t ≠ b2 := ne_new z2 X_t.lt
  replace X_t := X_t.ext E2
  replace F_t := F_t.ext E2
  have ne_p_b2 : p ≠ b2 := ne_new z2 A0.lt
  replace A0 := A0.ext E2
  refine px_astoreN S2 d4_8 rfl rfl (L' := #[.val (.ref t), .val (.ref b2), .unset]) rfl ?_
  refine px_aloadN S2 d4_9 rfl rfl rfl ?_
  refine px_iconst (v := (0 : Int32)) S2 d4_10 rfl rfl ?_
  refine px_iconst (v := (-1 : Int32)) S2 d4_11 rfl rfl ?_
  refine px_iastore (v := (-1 : Int32)) S2 A_b2 g_b2 (i := 0) rfl (by decide) rfl d4_12 rfl (fun T3 h3 S3 W3 A_b2 => ?_)
  replace X_t := X_t.wr W3
  replace F_t := F_t.other W3 (Or.inl ne_t_b2)
  replace A0 := A0.other W3 ne_p_b2
  refine px_iconst (v := (1 : Int32)) S3 d4_13 rfl rfl ?_
  refine px_istoreN S3 d4_14 rfl (L' := #[.val (.ref t), .val (.ref b2), .val (.int (1 : Int32))]) rfl ?_
  refine px_iloadN S3 d4_15 rfl rfl ?_
  refine px_aloadN S3 d4_16 rfl rfl rfl ?_
  refine px_alenI (v := (3 : Int32)) S3 A_b2 rfl d4_17 rfl ?_
  refine px_icmp S3 d4_18 (by decide) (pc' := 51) rfl rfl (fun (hc4 : (1 : Int32).toInt ≥ (3 : Int32).toInt) => by exfalso; revert hc4; decide) (fun (hc4 : (1 : Int32).toInt < (3 : Int32).toInt) => ?_)
  refine px_aloadN S3 d4_21 rfl rfl rfl ?_
  refine px_iloadN S3 d4_22 rfl rfl ?_
  refine px_aloadN S3 d4_23 rfl rfl rfl ?_
  refine px_aloadN S3 d4_24 rfl rfl rfl ?_
  refine px_aloadN S3 d4_25 rfl rfl rfl ?_
  refine px_aloadN S3 d4_26 rfl rfl rfl ?_
  refine px_iloadN S3 d4_27 rfl rfl ?_
  refine px_callI (Cn := "com/example/ghost_state/ghoststate/Shadows$Path") (as' := [(.int (1 : Int32))]) (st := [(.ref b2), (.ref b2), (.ref t), (.int (1 : Int32)), (.ref b2)]) (W := 5) S3 (c_parent (r := (0 : Int32)) hw S3.size (by decide)) X_t (hw _ (List.mem_of_getElem? (i := 30) rfl)) (hw _ (List.mem_of_getElem? (i := 31) rfl)) (hw _ (List.mem_of_getElem? (i := 32) rfl)) rfl (hw _ (List.mem_of_getElem? (i := 33) rfl)) (hw _ (List.mem_of_getElem? (i := 34) rfl)) (hw _ (List.mem_of_getElem? (i := 35) rfl)) (hw _ (List.mem_of_getElem? (i := 36) rfl)) (hw _ (List.mem_of_getElem? (i := 27) rfl)) (hw _ (List.mem_of_getElem? (i := 8) rfl)) (hw _ (List.mem_of_getElem? (i := 37) rfl)) (by decide) pd_4_1 rfl rfl (by decide) rfl (by decide) (by decide) (by decide) d4_28 rfl rfl (fun T5 h5 v5 S5 q5 => ?_)
  obtain ⟨rfl, rfl⟩ := q5
  show Go _ _ _ _ _ _ _ [(.int (0 : Int32)), (.ref b2), (.ref b2), (.ref t), (.int (1 : Int32)), (.ref b2)]
  refine px_iaload (v := (-1 : Int32)) S5 A_b2 (i := 0) rfl (by decide) rfl d4_33 rfl ?_
  refine px_aloadN S5 d4_34 rfl rfl rfl ?_
  refine px_iloadN S5 d4_35 rfl rfl ?_
  refine px_callI (Cn := "com/example/ghost_state/ghoststate/Shadows$Path") (as' := [(.int (1 : Int32))]) (st := [(.int (-1 : Int32)), (.ref b2), (.ref t), (.int (1 : Int32)), (.ref b2)]) (W := 5) S5 (c_elem (k := 0) (x := c0) hw S5.size ⟨X_t, F_t⟩ A0 (by decide) (by decide) e_c0 n_c0) X_t (hw _ (List.mem_of_getElem? (i := 38) rfl)) (hw _ (List.mem_of_getElem? (i := 39) rfl)) (hw _ (List.mem_of_getElem? (i := 40) rfl)) rfl (hw _ (List.mem_of_getElem? (i := 41) rfl)) (hw _ (List.mem_of_getElem? (i := 42) rfl)) (hw _ (List.mem_of_getElem? (i := 43) rfl)) (hw _ (List.mem_of_getElem? (i := 44) rfl)) (hw _ (List.mem_of_getElem? (i := 27) rfl)) (hw _ (List.mem_of_getElem? (i := 8) rfl)) (hw _ (List.mem_of_getElem? (i := 45) rfl)) (by decide) pd_4_2 rfl rfl (by decide) rfl (by decide) (by decide) (by decide) d4_36 rfl rfl (fun T6 h6 v6 S6 q6 => ?_)
  obtain ⟨rfl, rfl⟩ := q6
  show Go _ _ _ _ _ _ _ [(.int c0), (.int (-1 : Int32)), (.ref b2), (.ref t), (.int (1 : Int32)), (.ref b2)]
  refine px_callS (as' := [(.ref t), (.ref b2), (.int (-1 : Int32)), (.int c0)]) (st := [(.int (1 : Int32)), (.ref b2)]) (W := 2) S6 (c_next (n := 2) (m := 3) (k0 := 0) (nl := (2 : Int32)) (r := (0 : Int32)) hw S6.size ⟨X_t, F_t⟩ A0 A_b2 rfl (by decide) (by decide) (Or.inl ⟨by decide, rfl⟩)) (hw _ (List.mem_of_getElem? (i := 46) rfl)) (hw _ (List.mem_of_getElem? (i := 47) rfl)) (hw _ (List.mem_of_getElem? (i := 4) rfl)) (hw _ (List.mem_of_getElem? (i := 48) rfl)) (by decide) pd_4_3 rfl rfl (by decide) rfl (by decide) (by decide) (by decide) d4_41 rfl rfl (fun T7 h7 v7 S7 q7 => ?_)
  obtain ⟨rfl, rfl⟩ := q7
  show Go _ _ _ _ _ _ _ [(.int (0 : Int32)), (.int (1 : Int32)), (.ref b2)]
  refine px_iastore (v := (0 : Int32)) S7 A_b2 g_b2 (i := 1) rfl (by decide) rfl d4_44 rfl (fun T8 h8 S8 W8 A_b2 => ?_)
  replace X_t := X_t.wr W8
  replace F_t := F_t.other W8 (Or.inl ne_t_b2)
  replace A0 := A0.other W8 ne_p_b2
  refine px_iinc (v := (1 : Int32)) (r := (2 : Int32)) S8 d4_45 rfl rfl rfl (by decide) (L' := #[.val (.ref t), .val (.ref b2), .val (.int (2 : Int32))]) rfl ?_
  refine px_goto S8 d4_48 (by decide) (pc' := 15) rfl ?_
  refine px_iloadN S8 d4_15 rfl rfl ?_
  refine px_aloadN S8 d4_16 rfl rfl rfl ?_
  refine px_alenI (v := (3 : Int32)) S8 A_b2 rfl d4_17 rfl ?_
  refine px_icmp S8 d4_18 (by decide) (pc' := 51) rfl rfl (fun (hc9 : (2 : Int32).toInt ≥ (3 : Int32).toInt) => by exfalso; revert hc9; decide) (fun (hc9 : (2 : Int32).toInt < (3 : Int32).toInt) => ?_)
  refine px_aloadN S8 d4_21 rfl rfl rfl ?_
  refine px_iloadN S8 d4_22 rfl rfl ?_
  refine px_aloadN S8 d4_23 rfl rfl rfl ?_
  refine px_aloadN S8 d4_24 rfl rfl rfl ?_
  refine px_aloadN S8 d4_25 rfl rfl rfl ?_
  refine px_aloadN S8 d4_26 rfl rfl rfl ?_
  refine px_iloadN S8 d4_27 rfl rfl ?_
  refine px_callI (Cn := "com/example/ghost_state/ghoststate/Shadows$Path") (as' := [(.int (2 : Int32))]) (st := [(.ref b2), (.ref b2), (.ref t), (.int (2 : Int32)), (.ref b2)]) (W := 5) S8 (c_parent (r := (1 : Int32)) hw S8.size (by decide)) X_t (hw _ (List.mem_of_getElem? (i := 30) rfl)) (hw _ (List.mem_of_getElem? (i := 31) rfl)) (hw _ (List.mem_of_getElem? (i := 32) rfl)) rfl (hw _ (List.mem_of_getElem? (i := 33) rfl)) (hw _ (List.mem_of_getElem? (i := 34) rfl)) (hw _ (List.mem_of_getElem? (i := 35) rfl)) (hw _ (List.mem_of_getElem? (i := 36) rfl)) (hw _ (List.mem_of_getElem? (i := 27) rfl)) (hw _ (List.mem_of_getElem? (i := 8) rfl)) (hw _ (List.mem_of_getElem? (i := 37) rfl)) (by decide) pd_4_1 rfl rfl (by decide) rfl (by decide) (by decide) (by decide) d4_28 rfl rfl (fun T10 h10 v10 S10 q10 => ?_)
  obtain ⟨rfl, rfl⟩ := q10
  show Go _ _ _ _ _ _ _ [(.int (1 : Int32)), (.ref b2), (.ref b2), (.ref t), (.int (2 : Int32)), (.ref b2)]
  refine px_iaload (v := (0 : Int32)) S10 A_b2 (i := 1) rfl (by decide) rfl d4_33 rfl ?_
  refine px_aloadN S10 d4_34 rfl rfl rfl ?_
  refine px_iloadN S10 d4_35 rfl rfl ?_
  refine px_callI (Cn := "com/example/ghost_state/ghoststate/Shadows$Path") (as' := [(.int (2 : Int32))]) (st := [(.int (0 : Int32)), (.ref b2), (.ref t), (.int (2 : Int32)), (.ref b2)]) (W := 5) S10 (c_elem (k := 1) (x := c1) hw S10.size ⟨X_t, F_t⟩ A0 (by decide) (by decide) e_c1 n_c1) X_t (hw _ (List.mem_of_getElem? (i := 38) rfl)) (hw _ (List.mem_of_getElem? (i := 39) rfl)) (hw _ (List.mem_of_getElem? (i := 40) rfl)) rfl (hw _ (List.mem_of_getElem? (i := 41) rfl)) (hw _ (List.mem_of_getElem? (i := 42) rfl)) (hw _ (List.mem_of_getElem? (i := 43) rfl)) (hw _ (List.mem_of_getElem? (i := 44) rfl)) (hw _ (List.mem_of_getElem? (i := 27) rfl)) (hw _ (List.mem_of_getElem? (i := 8) rfl)) (hw _ (List.mem_of_getElem? (i := 45) rfl)) (by decide) pd_4_2 rfl rfl (by decide) rfl (by decide) (by decide) (by decide) d4_36 rfl rfl (fun T11 h11 v11 S11 q11 => ?_)
  obtain ⟨rfl, rfl⟩ := q11
  show Go _ _ _ _ _ _ _ [(.int c1), (.int (0 : Int32)), (.ref b2), (.ref t), (.int (2 : Int32)), (.ref b2)]
  by_cases hE12 : c0.toInt = c1.toInt
  · refine px_callS (as' := [(.ref t), (.ref b2), (.int (0 : Int32)), (.int c1)]) (st := [(.int (2 : Int32)), (.ref b2)]) (W := 2) S11 (c_next (n := 2) (m := 3) (k0 := 0) (nl := (2 : Int32)) (r := (1 : Int32)) hw S11.size ⟨X_t, F_t⟩ A0 A_b2 rfl (by decide) (by decide) (Or.inr ⟨0, by decide, by decide, (by rw [e_c0]; exact hE12), by decide⟩)) (hw _ (List.mem_of_getElem? (i := 46) rfl)) (hw _ (List.mem_of_getElem? (i := 47) rfl)) (hw _ (List.mem_of_getElem? (i := 4) rfl)) (hw _ (List.mem_of_getElem? (i := 48) rfl)) (by decide) pd_4_3 rfl rfl (by decide) rfl (by decide) (by decide) (by decide) d4_41 rfl rfl (fun T13 h13 v13 S13 q13 => ?_)
    obtain ⟨rfl, rfl⟩ := q13
    show Go _ _ _ _ _ _ _ [(.int (1 : Int32)), (.int (2 : Int32)), (.ref b2)]
    refine px_iastore (v := (1 : Int32)) S13 A_b2 g_b2 (i := 2) rfl (by decide) rfl d4_44 rfl (fun T14 h14 S14 W14 A_b2 => ?_)
    replace X_t := X_t.wr W14
    replace F_t := F_t.other W14 (Or.inl ne_t_b2)
    replace A0 := A0.other W14 ne_p_b2
    refine px_iinc (v := (1 : Int32)) (r := (3 : Int32)) S14 d4_45 rfl rfl rfl (by decide) (L' := #[.val (.ref t), .val (.ref b2), .val (.int (3 : Int32))]) rfl ?_
    refine px_goto S14 d4_48 (by decide) (pc' := 15) rfl ?_
    refine px_iloadN S14 d4_15 rfl rfl ?_
    refine px_aloadN S14 d4_16 rfl rfl rfl ?_
    refine px_alenI (v := (3 : Int32)) S14 A_b2 rfl d4_17 rfl ?_
    refine px_icmp S14 d4_18 (by decide) (pc' := 51) rfl rfl (fun (hc15 : (3 : Int32).toInt ≥ (3 : Int32).toInt) => ?_) (fun (hc15 : (3 : Int32).toInt < (3 : Int32).toInt) => by exfalso; revert hc15; decide)
    refine px_aloadN S14 d4_51 rfl rfl rfl ?_
    exact px_retA S14 d4_52 rfl rfl rfl (by decide) (by decide) (⟨b2, (-1 : Int32), (0 : Int32), (1 : Int32), rfl, g_b2, (((((Keep.refl _ _).ext E2).wr W3 (Or.inr (Nat.le_of_eq z2.symm))).wr W8 (Or.inr (Nat.le_of_eq z2.symm))).wr W14 (Or.inr (Nat.le_of_eq z2.symm))), A_b2.congr (all3 rfl rfl rfl), rfl, rfl, Or.inr (⟨rfl, by omega⟩)⟩)
  · refine px_callS (as' := [(.ref t), (.ref b2), (.int (0 : Int32)), (.int c1)]) (st := [(.int (2 : Int32)), (.ref b2)]) (W := 2) S11 (c_next (n := 2) (m := 3) (k0 := 1) (nl := (2 : Int32)) (r := (0 : Int32)) hw S11.size ⟨X_t, F_t⟩ A0 A_b2 rfl (by decide) (by decide) (⟨0, by decide, by decide, (by rw [e_c0]; exact hE12), Or.inl ⟨by decide, rfl⟩⟩)) (hw _ (List.mem_of_getElem? (i := 46) rfl)) (hw _ (List.mem_of_getElem? (i := 47) rfl)) (hw _ (List.mem_of_getElem? (i := 4) rfl)) (hw _ (List.mem_of_getElem? (i := 48) rfl)) (by decide) pd_4_3 rfl rfl (by decide) rfl (by decide) (by decide) (by decide) d4_41 rfl rfl (fun T16 h16 v16 S16 q16 => ?_)
    obtain ⟨rfl, rfl⟩ := q16
    show Go _ _ _ _ _ _ _ [(.int (0 : Int32)), (.int (2 : Int32)), (.ref b2)]
    refine px_iastore (v := (0 : Int32)) S16 A_b2 g_b2 (i := 2) rfl (by decide) rfl d4_44 rfl (fun T17 h17 S17 W17 A_b2 => ?_)
    replace X_t := X_t.wr W17
    replace F_t := F_t.other W17 (Or.inl ne_t_b2)
    replace A0 := A0.other W17 ne_p_b2
    refine px_iinc (v := (1 : Int32)) (r := (3 : Int32)) S17 d4_45 rfl rfl rfl (by decide) (L' := #[.val (.ref t), .val (.ref b2), .val (.int (3 : Int32))]) rfl ?_
    refine px_goto S17 d4_48 (by decide) (pc' := 15) rfl ?_
    refine px_iloadN S17 d4_15 rfl rfl ?_
    refine px_aloadN S17 d4_16 rfl rfl rfl ?_
    refine px_alenI (v := (3 : Int32)) S17 A_b2 rfl d4_17 rfl ?_
    refine px_icmp S17 d4_18 (by decide) (pc' := 51) rfl rfl (fun (hc18 : (3 : Int32).toInt ≥ (3 : Int32).toInt) => ?_) (fun (hc18 : (3 : Int32).toInt < (3 : Int32).toInt) => by exfalso; revert hc18; decide)
    refine px_aloadN S17 d4_51 rfl rfl rfl ?_
    exact px_retA S17 d4_52 rfl rfl rfl (by decide) (by decide) (⟨b2, (-1 : Int32), (0 : Int32), (0 : Int32), rfl, g_b2, (((((Keep.refl _ _).ext E2).wr W3 (Or.inr (Nat.le_of_eq z2.symm))).wr W8 (Or.inr (Nat.le_of_eq z2.symm))).wr W17 (Or.inr (Nat.le_of_eq z2.symm))), A_b2.congr (all3 rfl rfl rfl), rfl, rfl, Or.inl (⟨rfl, by omega⟩)⟩)
set_option maxRecDepth 65536 in
set_option maxHeartbeats 40000000 in
theorem c_ofT3 {Z : State} {a0 : Array Value} (hw : ∀ d ∈ tables_1, d.before a0 Z = true) {t p : Addr} {c0 c1 c2 : Int32} {f : Nat → Int32} {h0 : Heap} {n0 : Nat} (Z0 : n0 ≤ h0.size) (B0 : PathO Z h0 t p) (A0 : AI Z h0 p .char 3 f) (e_c0 : f 0 = c0) (e_c1 : f 1 = c1) (e_c2 : f 2 = c2) (n_c0 : nar .char c0 = c0) (n_c1 : nar .char c1 = c1) (n_c2 : nar .char c2 = c2) :
    Ctr Z n0 (⟨"com/example/ghost_state/ghoststate/Shadows", "of", "(Lcom/example/ghost_state/ghoststate/Shadows$PrefixTree;)[I"⟩ : MethodName) prog_23_method_3_code 3 (some (.array .int)) ({ frames := 2, cells := 1, slots := 4, locals := 33 } : Room) [(.ref t)] h0 (fun v h => ∃ (b : Addr) (s0 s1 s2 s3 : Int32), v = some (.ref b) ∧ n0 ≤ b ∧ Keep h0 h [] ∧ AI Z h b .int 4 (updF (updF (updF (updF (fun _ => 0) 0 s0) 1 s1) 2 s2) 3 s3) ∧ s0.toInt = -1 ∧ ((s1.toInt = 0)) ∧ ((s2.toInt = 0 ∧ ¬ (c0.toInt = c1.toInt)) ∨ (s2.toInt = 1 ∧ (c0.toInt = c1.toInt))) ∧ ((s3.toInt = 0 ∧ ¬ (c0.toInt = c2.toInt) ∧ ¬ (c0.toInt = c1.toInt ∧ c1.toInt = c2.toInt)) ∨ (s3.toInt = 1 ∧ (c0.toInt = c2.toInt) ∧ ¬ (c0.toInt = c1.toInt ∧ c1.toInt = c2.toInt)) ∨ (s3.toInt = 2 ∧ (c0.toInt = c1.toInt ∧ c1.toInt = c2.toInt)))) := by
  refine Ctr.of (L := #[.val (.ref t), .unset, .unset]) pn_4 Z0 (fun m => by first | (simp [entryFrame, mkF, argsToLocals, Value.category]; done) | rfl) ?_
  intro K T S0
  have X_t := B0.1
  have F_t := B0.2
  refine px_aloadN S0 d4_0 rfl rfl rfl ?_
  refine px_callI (Cn := "com/example/ghost_state/ghoststate/Shadows$Path") (as' := []) (st := []) (W := 0) S0 (c_states (nl := (3 : Int32)) (r := (4 : Int32)) hw S0.size ⟨X_t, F_t⟩ A0 rfl (by decide)) X_t (hw _ (List.mem_of_getElem? (i := 20) rfl)) (hw _ (List.mem_of_getElem? (i := 21) rfl)) (hw _ (List.mem_of_getElem? (i := 22) rfl)) rfl (hw _ (List.mem_of_getElem? (i := 23) rfl)) (hw _ (List.mem_of_getElem? (i := 24) rfl)) (hw _ (List.mem_of_getElem? (i := 25) rfl)) (hw _ (List.mem_of_getElem? (i := 26) rfl)) (hw _ (List.mem_of_getElem? (i := 27) rfl)) (hw _ (List.mem_of_getElem? (i := 8) rfl)) (hw _ (List.mem_of_getElem? (i := 28) rfl)) (by decide) pd_4_0 rfl rfl (by decide) rfl (by decide) (by decide) (by decide) d4_1 rfl rfl (fun T1 h1 v1 S1 q1 => ?_)
  obtain ⟨rfl, rfl⟩ := q1
  show Go _ _ _ _ _ _ _ [(.int (4 : Int32))]
  refine px_newarr (aty := .int) (cap := 4) S1 (hw _ (List.mem_of_getElem? (i := 29) rfl)) rfl (n := 4) rfl (by decide) (by decide) (by decide) (by decide) d4_6 rfl (fun T2 h2 b2 z2 g_b2 S2 E2 A_b2 => ?_)
  have ne_t_b2 : t ≠ b2 := ne_new z2 X_t.lt
  replace X_t := X_t.ext E2
  replace F_t := F_t.ext E2
  have ne_p_b2 : p ≠ b2 := ne_new z2 A0.lt
  replace A0 := A0.ext E2
  refine px_astoreN S2 d4_8 rfl rfl (L' := #[.val (.ref t), .val (.ref b2), .unset]) rfl ?_
  refine px_aloadN S2 d4_9 rfl rfl rfl ?_
  refine px_iconst (v := (0 : Int32)) S2 d4_10 rfl rfl ?_
  refine px_iconst (v := (-1 : Int32)) S2 d4_11 rfl rfl ?_
  refine px_iastore (v := (-1 : Int32)) S2 A_b2 g_b2 (i := 0) rfl (by decide) rfl d4_12 rfl (fun T3 h3 S3 W3 A_b2 => ?_)
  replace X_t := X_t.wr W3
  replace F_t := F_t.other W3 (Or.inl ne_t_b2)
  replace A0 := A0.other W3 ne_p_b2
  refine px_iconst (v := (1 : Int32)) S3 d4_13 rfl rfl ?_
  refine px_istoreN S3 d4_14 rfl (L' := #[.val (.ref t), .val (.ref b2), .val (.int (1 : Int32))]) rfl ?_
  refine px_iloadN S3 d4_15 rfl rfl ?_
  refine px_aloadN S3 d4_16 rfl rfl rfl ?_
  refine px_alenI (v := (4 : Int32)) S3 A_b2 rfl d4_17 rfl ?_
  refine px_icmp S3 d4_18 (by decide) (pc' := 51) rfl rfl (fun (hc4 : (1 : Int32).toInt ≥ (4 : Int32).toInt) => by exfalso; revert hc4; decide) (fun (hc4 : (1 : Int32).toInt < (4 : Int32).toInt) => ?_)
  refine px_aloadN S3 d4_21 rfl rfl rfl ?_
  refine px_iloadN S3 d4_22 rfl rfl ?_
  refine px_aloadN S3 d4_23 rfl rfl rfl ?_
  refine px_aloadN S3 d4_24 rfl rfl rfl ?_
  refine px_aloadN S3 d4_25 rfl rfl rfl ?_
  refine px_aloadN S3 d4_26 rfl rfl rfl ?_
  refine px_iloadN S3 d4_27 rfl rfl ?_
  refine px_callI (Cn := "com/example/ghost_state/ghoststate/Shadows$Path") (as' := [(.int (1 : Int32))]) (st := [(.ref b2), (.ref b2), (.ref t), (.int (1 : Int32)), (.ref b2)]) (W := 5) S3 (c_parent (r := (0 : Int32)) hw S3.size (by decide)) X_t (hw _ (List.mem_of_getElem? (i := 30) rfl)) (hw _ (List.mem_of_getElem? (i := 31) rfl)) (hw _ (List.mem_of_getElem? (i := 32) rfl)) rfl (hw _ (List.mem_of_getElem? (i := 33) rfl)) (hw _ (List.mem_of_getElem? (i := 34) rfl)) (hw _ (List.mem_of_getElem? (i := 35) rfl)) (hw _ (List.mem_of_getElem? (i := 36) rfl)) (hw _ (List.mem_of_getElem? (i := 27) rfl)) (hw _ (List.mem_of_getElem? (i := 8) rfl)) (hw _ (List.mem_of_getElem? (i := 37) rfl)) (by decide) pd_4_1 rfl rfl (by decide) rfl (by decide) (by decide) (by decide) d4_28 rfl rfl (fun T5 h5 v5 S5 q5 => ?_)
  obtain ⟨rfl, rfl⟩ := q5
  show Go _ _ _ _ _ _ _ [(.int (0 : Int32)), (.ref b2), (.ref b2), (.ref t), (.int (1 : Int32)), (.ref b2)]
  refine px_iaload (v := (-1 : Int32)) S5 A_b2 (i := 0) rfl (by decide) rfl d4_33 rfl ?_
  refine px_aloadN S5 d4_34 rfl rfl rfl ?_
  refine px_iloadN S5 d4_35 rfl rfl ?_
  refine px_callI (Cn := "com/example/ghost_state/ghoststate/Shadows$Path") (as' := [(.int (1 : Int32))]) (st := [(.int (-1 : Int32)), (.ref b2), (.ref t), (.int (1 : Int32)), (.ref b2)]) (W := 5) S5 (c_elem (k := 0) (x := c0) hw S5.size ⟨X_t, F_t⟩ A0 (by decide) (by decide) e_c0 n_c0) X_t (hw _ (List.mem_of_getElem? (i := 38) rfl)) (hw _ (List.mem_of_getElem? (i := 39) rfl)) (hw _ (List.mem_of_getElem? (i := 40) rfl)) rfl (hw _ (List.mem_of_getElem? (i := 41) rfl)) (hw _ (List.mem_of_getElem? (i := 42) rfl)) (hw _ (List.mem_of_getElem? (i := 43) rfl)) (hw _ (List.mem_of_getElem? (i := 44) rfl)) (hw _ (List.mem_of_getElem? (i := 27) rfl)) (hw _ (List.mem_of_getElem? (i := 8) rfl)) (hw _ (List.mem_of_getElem? (i := 45) rfl)) (by decide) pd_4_2 rfl rfl (by decide) rfl (by decide) (by decide) (by decide) d4_36 rfl rfl (fun T6 h6 v6 S6 q6 => ?_)
  obtain ⟨rfl, rfl⟩ := q6
  show Go _ _ _ _ _ _ _ [(.int c0), (.int (-1 : Int32)), (.ref b2), (.ref t), (.int (1 : Int32)), (.ref b2)]
  refine px_callS (as' := [(.ref t), (.ref b2), (.int (-1 : Int32)), (.int c0)]) (st := [(.int (1 : Int32)), (.ref b2)]) (W := 2) S6 (c_next (n := 3) (m := 4) (k0 := 0) (nl := (3 : Int32)) (r := (0 : Int32)) hw S6.size ⟨X_t, F_t⟩ A0 A_b2 rfl (by decide) (by decide) (Or.inl ⟨by decide, rfl⟩)) (hw _ (List.mem_of_getElem? (i := 46) rfl)) (hw _ (List.mem_of_getElem? (i := 47) rfl)) (hw _ (List.mem_of_getElem? (i := 4) rfl)) (hw _ (List.mem_of_getElem? (i := 48) rfl)) (by decide) pd_4_3 rfl rfl (by decide) rfl (by decide) (by decide) (by decide) d4_41 rfl rfl (fun T7 h7 v7 S7 q7 => ?_)
  obtain ⟨rfl, rfl⟩ := q7
  show Go _ _ _ _ _ _ _ [(.int (0 : Int32)), (.int (1 : Int32)), (.ref b2)]
  refine px_iastore (v := (0 : Int32)) S7 A_b2 g_b2 (i := 1) rfl (by decide) rfl d4_44 rfl (fun T8 h8 S8 W8 A_b2 => ?_)
  replace X_t := X_t.wr W8
  replace F_t := F_t.other W8 (Or.inl ne_t_b2)
  replace A0 := A0.other W8 ne_p_b2
  refine px_iinc (v := (1 : Int32)) (r := (2 : Int32)) S8 d4_45 rfl rfl rfl (by decide) (L' := #[.val (.ref t), .val (.ref b2), .val (.int (2 : Int32))]) rfl ?_
  refine px_goto S8 d4_48 (by decide) (pc' := 15) rfl ?_
  refine px_iloadN S8 d4_15 rfl rfl ?_
  refine px_aloadN S8 d4_16 rfl rfl rfl ?_
  refine px_alenI (v := (4 : Int32)) S8 A_b2 rfl d4_17 rfl ?_
  refine px_icmp S8 d4_18 (by decide) (pc' := 51) rfl rfl (fun (hc9 : (2 : Int32).toInt ≥ (4 : Int32).toInt) => by exfalso; revert hc9; decide) (fun (hc9 : (2 : Int32).toInt < (4 : Int32).toInt) => ?_)
  refine px_aloadN S8 d4_21 rfl rfl rfl ?_
  refine px_iloadN S8 d4_22 rfl rfl ?_
  refine px_aloadN S8 d4_23 rfl rfl rfl ?_
  refine px_aloadN S8 d4_24 rfl rfl rfl ?_
  refine px_aloadN S8 d4_25 rfl rfl rfl ?_
  refine px_aloadN S8 d4_26 rfl rfl rfl ?_
  refine px_iloadN S8 d4_27 rfl rfl ?_
  refine px_callI (Cn := "com/example/ghost_state/ghoststate/Shadows$Path") (as' := [(.int (2 : Int32))]) (st := [(.ref b2), (.ref b2), (.ref t), (.int (2 : Int32)), (.ref b2)]) (W := 5) S8 (c_parent (r := (1 : Int32)) hw S8.size (by decide)) X_t (hw _ (List.mem_of_getElem? (i := 30) rfl)) (hw _ (List.mem_of_getElem? (i := 31) rfl)) (hw _ (List.mem_of_getElem? (i := 32) rfl)) rfl (hw _ (List.mem_of_getElem? (i := 33) rfl)) (hw _ (List.mem_of_getElem? (i := 34) rfl)) (hw _ (List.mem_of_getElem? (i := 35) rfl)) (hw _ (List.mem_of_getElem? (i := 36) rfl)) (hw _ (List.mem_of_getElem? (i := 27) rfl)) (hw _ (List.mem_of_getElem? (i := 8) rfl)) (hw _ (List.mem_of_getElem? (i := 37) rfl)) (by decide) pd_4_1 rfl rfl (by decide) rfl (by decide) (by decide) (by decide) d4_28 rfl rfl (fun T10 h10 v10 S10 q10 => ?_)
  obtain ⟨rfl, rfl⟩ := q10
  show Go _ _ _ _ _ _ _ [(.int (1 : Int32)), (.ref b2), (.ref b2), (.ref t), (.int (2 : Int32)), (.ref b2)]
  refine px_iaload (v := (0 : Int32)) S10 A_b2 (i := 1) rfl (by decide) rfl d4_33 rfl ?_
  refine px_aloadN S10 d4_34 rfl rfl rfl ?_
  refine px_iloadN S10 d4_35 rfl rfl ?_
  refine px_callI (Cn := "com/example/ghost_state/ghoststate/Shadows$Path") (as' := [(.int (2 : Int32))]) (st := [(.int (0 : Int32)), (.ref b2), (.ref t), (.int (2 : Int32)), (.ref b2)]) (W := 5) S10 (c_elem (k := 1) (x := c1) hw S10.size ⟨X_t, F_t⟩ A0 (by decide) (by decide) e_c1 n_c1) X_t (hw _ (List.mem_of_getElem? (i := 38) rfl)) (hw _ (List.mem_of_getElem? (i := 39) rfl)) (hw _ (List.mem_of_getElem? (i := 40) rfl)) rfl (hw _ (List.mem_of_getElem? (i := 41) rfl)) (hw _ (List.mem_of_getElem? (i := 42) rfl)) (hw _ (List.mem_of_getElem? (i := 43) rfl)) (hw _ (List.mem_of_getElem? (i := 44) rfl)) (hw _ (List.mem_of_getElem? (i := 27) rfl)) (hw _ (List.mem_of_getElem? (i := 8) rfl)) (hw _ (List.mem_of_getElem? (i := 45) rfl)) (by decide) pd_4_2 rfl rfl (by decide) rfl (by decide) (by decide) (by decide) d4_36 rfl rfl (fun T11 h11 v11 S11 q11 => ?_)
  obtain ⟨rfl, rfl⟩ := q11
  show Go _ _ _ _ _ _ _ [(.int c1), (.int (0 : Int32)), (.ref b2), (.ref t), (.int (2 : Int32)), (.ref b2)]
  by_cases hE12 : c0.toInt = c1.toInt
  · refine px_callS (as' := [(.ref t), (.ref b2), (.int (0 : Int32)), (.int c1)]) (st := [(.int (2 : Int32)), (.ref b2)]) (W := 2) S11 (c_next (n := 3) (m := 4) (k0 := 0) (nl := (3 : Int32)) (r := (1 : Int32)) hw S11.size ⟨X_t, F_t⟩ A0 A_b2 rfl (by decide) (by decide) (Or.inr ⟨0, by decide, by decide, (by rw [e_c0]; exact hE12), by decide⟩)) (hw _ (List.mem_of_getElem? (i := 46) rfl)) (hw _ (List.mem_of_getElem? (i := 47) rfl)) (hw _ (List.mem_of_getElem? (i := 4) rfl)) (hw _ (List.mem_of_getElem? (i := 48) rfl)) (by decide) pd_4_3 rfl rfl (by decide) rfl (by decide) (by decide) (by decide) d4_41 rfl rfl (fun T13 h13 v13 S13 q13 => ?_)
    obtain ⟨rfl, rfl⟩ := q13
    show Go _ _ _ _ _ _ _ [(.int (1 : Int32)), (.int (2 : Int32)), (.ref b2)]
    refine px_iastore (v := (1 : Int32)) S13 A_b2 g_b2 (i := 2) rfl (by decide) rfl d4_44 rfl (fun T14 h14 S14 W14 A_b2 => ?_)
    replace X_t := X_t.wr W14
    replace F_t := F_t.other W14 (Or.inl ne_t_b2)
    replace A0 := A0.other W14 ne_p_b2
    refine px_iinc (v := (1 : Int32)) (r := (3 : Int32)) S14 d4_45 rfl rfl rfl (by decide) (L' := #[.val (.ref t), .val (.ref b2), .val (.int (3 : Int32))]) rfl ?_
    refine px_goto S14 d4_48 (by decide) (pc' := 15) rfl ?_
    refine px_iloadN S14 d4_15 rfl rfl ?_
    refine px_aloadN S14 d4_16 rfl rfl rfl ?_
    refine px_alenI (v := (4 : Int32)) S14 A_b2 rfl d4_17 rfl ?_
    refine px_icmp S14 d4_18 (by decide) (pc' := 51) rfl rfl (fun (hc15 : (3 : Int32).toInt ≥ (4 : Int32).toInt) => by exfalso; revert hc15; decide) (fun (hc15 : (3 : Int32).toInt < (4 : Int32).toInt) => ?_)
    refine px_aloadN S14 d4_21 rfl rfl rfl ?_
    refine px_iloadN S14 d4_22 rfl rfl ?_
    refine px_aloadN S14 d4_23 rfl rfl rfl ?_
    refine px_aloadN S14 d4_24 rfl rfl rfl ?_
    refine px_aloadN S14 d4_25 rfl rfl rfl ?_
    refine px_aloadN S14 d4_26 rfl rfl rfl ?_
    refine px_iloadN S14 d4_27 rfl rfl ?_
    refine px_callI (Cn := "com/example/ghost_state/ghoststate/Shadows$Path") (as' := [(.int (3 : Int32))]) (st := [(.ref b2), (.ref b2), (.ref t), (.int (3 : Int32)), (.ref b2)]) (W := 5) S14 (c_parent (r := (2 : Int32)) hw S14.size (by decide)) X_t (hw _ (List.mem_of_getElem? (i := 30) rfl)) (hw _ (List.mem_of_getElem? (i := 31) rfl)) (hw _ (List.mem_of_getElem? (i := 32) rfl)) rfl (hw _ (List.mem_of_getElem? (i := 33) rfl)) (hw _ (List.mem_of_getElem? (i := 34) rfl)) (hw _ (List.mem_of_getElem? (i := 35) rfl)) (hw _ (List.mem_of_getElem? (i := 36) rfl)) (hw _ (List.mem_of_getElem? (i := 27) rfl)) (hw _ (List.mem_of_getElem? (i := 8) rfl)) (hw _ (List.mem_of_getElem? (i := 37) rfl)) (by decide) pd_4_1 rfl rfl (by decide) rfl (by decide) (by decide) (by decide) d4_28 rfl rfl (fun T16 h16 v16 S16 q16 => ?_)
    obtain ⟨rfl, rfl⟩ := q16
    show Go _ _ _ _ _ _ _ [(.int (2 : Int32)), (.ref b2), (.ref b2), (.ref t), (.int (3 : Int32)), (.ref b2)]
    refine px_iaload (v := (1 : Int32)) S16 A_b2 (i := 2) rfl (by decide) rfl d4_33 rfl ?_
    refine px_aloadN S16 d4_34 rfl rfl rfl ?_
    refine px_iloadN S16 d4_35 rfl rfl ?_
    refine px_callI (Cn := "com/example/ghost_state/ghoststate/Shadows$Path") (as' := [(.int (3 : Int32))]) (st := [(.int (1 : Int32)), (.ref b2), (.ref t), (.int (3 : Int32)), (.ref b2)]) (W := 5) S16 (c_elem (k := 2) (x := c2) hw S16.size ⟨X_t, F_t⟩ A0 (by decide) (by decide) e_c2 n_c2) X_t (hw _ (List.mem_of_getElem? (i := 38) rfl)) (hw _ (List.mem_of_getElem? (i := 39) rfl)) (hw _ (List.mem_of_getElem? (i := 40) rfl)) rfl (hw _ (List.mem_of_getElem? (i := 41) rfl)) (hw _ (List.mem_of_getElem? (i := 42) rfl)) (hw _ (List.mem_of_getElem? (i := 43) rfl)) (hw _ (List.mem_of_getElem? (i := 44) rfl)) (hw _ (List.mem_of_getElem? (i := 27) rfl)) (hw _ (List.mem_of_getElem? (i := 8) rfl)) (hw _ (List.mem_of_getElem? (i := 45) rfl)) (by decide) pd_4_2 rfl rfl (by decide) rfl (by decide) (by decide) (by decide) d4_36 rfl rfl (fun T17 h17 v17 S17 q17 => ?_)
    obtain ⟨rfl, rfl⟩ := q17
    show Go _ _ _ _ _ _ _ [(.int c2), (.int (1 : Int32)), (.ref b2), (.ref t), (.int (3 : Int32)), (.ref b2)]
    by_cases hE18 : c1.toInt = c2.toInt
    · refine px_callS (as' := [(.ref t), (.ref b2), (.int (1 : Int32)), (.int c2)]) (st := [(.int (3 : Int32)), (.ref b2)]) (W := 2) S17 (c_next (n := 3) (m := 4) (k0 := 0) (nl := (3 : Int32)) (r := (2 : Int32)) hw S17.size ⟨X_t, F_t⟩ A0 A_b2 rfl (by decide) (by decide) (Or.inr ⟨1, by decide, by decide, (by rw [e_c1]; exact hE18), by decide⟩)) (hw _ (List.mem_of_getElem? (i := 46) rfl)) (hw _ (List.mem_of_getElem? (i := 47) rfl)) (hw _ (List.mem_of_getElem? (i := 4) rfl)) (hw _ (List.mem_of_getElem? (i := 48) rfl)) (by decide) pd_4_3 rfl rfl (by decide) rfl (by decide) (by decide) (by decide) d4_41 rfl rfl (fun T19 h19 v19 S19 q19 => ?_)
      obtain ⟨rfl, rfl⟩ := q19
      show Go _ _ _ _ _ _ _ [(.int (2 : Int32)), (.int (3 : Int32)), (.ref b2)]
      refine px_iastore (v := (2 : Int32)) S19 A_b2 g_b2 (i := 3) rfl (by decide) rfl d4_44 rfl (fun T20 h20 S20 W20 A_b2 => ?_)
      replace X_t := X_t.wr W20
      replace F_t := F_t.other W20 (Or.inl ne_t_b2)
      replace A0 := A0.other W20 ne_p_b2
      refine px_iinc (v := (1 : Int32)) (r := (4 : Int32)) S20 d4_45 rfl rfl rfl (by decide) (L' := #[.val (.ref t), .val (.ref b2), .val (.int (4 : Int32))]) rfl ?_
      refine px_goto S20 d4_48 (by decide) (pc' := 15) rfl ?_
      refine px_iloadN S20 d4_15 rfl rfl ?_
      refine px_aloadN S20 d4_16 rfl rfl rfl ?_
      refine px_alenI (v := (4 : Int32)) S20 A_b2 rfl d4_17 rfl ?_
      refine px_icmp S20 d4_18 (by decide) (pc' := 51) rfl rfl (fun (hc21 : (4 : Int32).toInt ≥ (4 : Int32).toInt) => ?_) (fun (hc21 : (4 : Int32).toInt < (4 : Int32).toInt) => by exfalso; revert hc21; decide)
      refine px_aloadN S20 d4_51 rfl rfl rfl ?_
      exact px_retA S20 d4_52 rfl rfl rfl (by decide) (by decide) (⟨b2, (-1 : Int32), (0 : Int32), (1 : Int32), (2 : Int32), rfl, g_b2, ((((((Keep.refl _ _).ext E2).wr W3 (Or.inr (Nat.le_of_eq z2.symm))).wr W8 (Or.inr (Nat.le_of_eq z2.symm))).wr W14 (Or.inr (Nat.le_of_eq z2.symm))).wr W20 (Or.inr (Nat.le_of_eq z2.symm))), A_b2.congr (all4 rfl rfl rfl rfl), rfl, rfl, Or.inr (⟨rfl, by omega⟩), Or.inr (Or.inr (⟨rfl, by omega⟩))⟩)
    · have hE22 : ¬ c0.toInt = c2.toInt := by omega
      refine px_callS (as' := [(.ref t), (.ref b2), (.int (1 : Int32)), (.int c2)]) (st := [(.int (3 : Int32)), (.ref b2)]) (W := 2) S17 (c_next (n := 3) (m := 4) (k0 := 2) (nl := (3 : Int32)) (r := (0 : Int32)) hw S17.size ⟨X_t, F_t⟩ A0 A_b2 rfl (by decide) (by decide) (⟨1, by decide, by decide, (by rw [e_c1]; exact hE18), ⟨0, by decide, by decide, (by rw [e_c0]; exact hE22), Or.inl ⟨by decide, rfl⟩⟩⟩)) (hw _ (List.mem_of_getElem? (i := 46) rfl)) (hw _ (List.mem_of_getElem? (i := 47) rfl)) (hw _ (List.mem_of_getElem? (i := 4) rfl)) (hw _ (List.mem_of_getElem? (i := 48) rfl)) (by decide) pd_4_3 rfl rfl (by decide) rfl (by decide) (by decide) (by decide) d4_41 rfl rfl (fun T23 h23 v23 S23 q23 => ?_)
      obtain ⟨rfl, rfl⟩ := q23
      show Go _ _ _ _ _ _ _ [(.int (0 : Int32)), (.int (3 : Int32)), (.ref b2)]
      refine px_iastore (v := (0 : Int32)) S23 A_b2 g_b2 (i := 3) rfl (by decide) rfl d4_44 rfl (fun T24 h24 S24 W24 A_b2 => ?_)
      replace X_t := X_t.wr W24
      replace F_t := F_t.other W24 (Or.inl ne_t_b2)
      replace A0 := A0.other W24 ne_p_b2
      refine px_iinc (v := (1 : Int32)) (r := (4 : Int32)) S24 d4_45 rfl rfl rfl (by decide) (L' := #[.val (.ref t), .val (.ref b2), .val (.int (4 : Int32))]) rfl ?_
      refine px_goto S24 d4_48 (by decide) (pc' := 15) rfl ?_
      refine px_iloadN S24 d4_15 rfl rfl ?_
      refine px_aloadN S24 d4_16 rfl rfl rfl ?_
      refine px_alenI (v := (4 : Int32)) S24 A_b2 rfl d4_17 rfl ?_
      refine px_icmp S24 d4_18 (by decide) (pc' := 51) rfl rfl (fun (hc25 : (4 : Int32).toInt ≥ (4 : Int32).toInt) => ?_) (fun (hc25 : (4 : Int32).toInt < (4 : Int32).toInt) => by exfalso; revert hc25; decide)
      refine px_aloadN S24 d4_51 rfl rfl rfl ?_
      exact px_retA S24 d4_52 rfl rfl rfl (by decide) (by decide) (⟨b2, (-1 : Int32), (0 : Int32), (1 : Int32), (0 : Int32), rfl, g_b2, ((((((Keep.refl _ _).ext E2).wr W3 (Or.inr (Nat.le_of_eq z2.symm))).wr W8 (Or.inr (Nat.le_of_eq z2.symm))).wr W14 (Or.inr (Nat.le_of_eq z2.symm))).wr W24 (Or.inr (Nat.le_of_eq z2.symm))), A_b2.congr (all4 rfl rfl rfl rfl), rfl, rfl, Or.inr (⟨rfl, by omega⟩), Or.inl (⟨rfl, by omega, by omega⟩)⟩)
  · refine px_callS (as' := [(.ref t), (.ref b2), (.int (0 : Int32)), (.int c1)]) (st := [(.int (2 : Int32)), (.ref b2)]) (W := 2) S11 (c_next (n := 3) (m := 4) (k0 := 1) (nl := (3 : Int32)) (r := (0 : Int32)) hw S11.size ⟨X_t, F_t⟩ A0 A_b2 rfl (by decide) (by decide) (⟨0, by decide, by decide, (by rw [e_c0]; exact hE12), Or.inl ⟨by decide, rfl⟩⟩)) (hw _ (List.mem_of_getElem? (i := 46) rfl)) (hw _ (List.mem_of_getElem? (i := 47) rfl)) (hw _ (List.mem_of_getElem? (i := 4) rfl)) (hw _ (List.mem_of_getElem? (i := 48) rfl)) (by decide) pd_4_3 rfl rfl (by decide) rfl (by decide) (by decide) (by decide) d4_41 rfl rfl (fun T26 h26 v26 S26 q26 => ?_)
    obtain ⟨rfl, rfl⟩ := q26
    show Go _ _ _ _ _ _ _ [(.int (0 : Int32)), (.int (2 : Int32)), (.ref b2)]
    refine px_iastore (v := (0 : Int32)) S26 A_b2 g_b2 (i := 2) rfl (by decide) rfl d4_44 rfl (fun T27 h27 S27 W27 A_b2 => ?_)
    replace X_t := X_t.wr W27
    replace F_t := F_t.other W27 (Or.inl ne_t_b2)
    replace A0 := A0.other W27 ne_p_b2
    refine px_iinc (v := (1 : Int32)) (r := (3 : Int32)) S27 d4_45 rfl rfl rfl (by decide) (L' := #[.val (.ref t), .val (.ref b2), .val (.int (3 : Int32))]) rfl ?_
    refine px_goto S27 d4_48 (by decide) (pc' := 15) rfl ?_
    refine px_iloadN S27 d4_15 rfl rfl ?_
    refine px_aloadN S27 d4_16 rfl rfl rfl ?_
    refine px_alenI (v := (4 : Int32)) S27 A_b2 rfl d4_17 rfl ?_
    refine px_icmp S27 d4_18 (by decide) (pc' := 51) rfl rfl (fun (hc28 : (3 : Int32).toInt ≥ (4 : Int32).toInt) => by exfalso; revert hc28; decide) (fun (hc28 : (3 : Int32).toInt < (4 : Int32).toInt) => ?_)
    refine px_aloadN S27 d4_21 rfl rfl rfl ?_
    refine px_iloadN S27 d4_22 rfl rfl ?_
    refine px_aloadN S27 d4_23 rfl rfl rfl ?_
    refine px_aloadN S27 d4_24 rfl rfl rfl ?_
    refine px_aloadN S27 d4_25 rfl rfl rfl ?_
    refine px_aloadN S27 d4_26 rfl rfl rfl ?_
    refine px_iloadN S27 d4_27 rfl rfl ?_
    refine px_callI (Cn := "com/example/ghost_state/ghoststate/Shadows$Path") (as' := [(.int (3 : Int32))]) (st := [(.ref b2), (.ref b2), (.ref t), (.int (3 : Int32)), (.ref b2)]) (W := 5) S27 (c_parent (r := (2 : Int32)) hw S27.size (by decide)) X_t (hw _ (List.mem_of_getElem? (i := 30) rfl)) (hw _ (List.mem_of_getElem? (i := 31) rfl)) (hw _ (List.mem_of_getElem? (i := 32) rfl)) rfl (hw _ (List.mem_of_getElem? (i := 33) rfl)) (hw _ (List.mem_of_getElem? (i := 34) rfl)) (hw _ (List.mem_of_getElem? (i := 35) rfl)) (hw _ (List.mem_of_getElem? (i := 36) rfl)) (hw _ (List.mem_of_getElem? (i := 27) rfl)) (hw _ (List.mem_of_getElem? (i := 8) rfl)) (hw _ (List.mem_of_getElem? (i := 37) rfl)) (by decide) pd_4_1 rfl rfl (by decide) rfl (by decide) (by decide) (by decide) d4_28 rfl rfl (fun T29 h29 v29 S29 q29 => ?_)
    obtain ⟨rfl, rfl⟩ := q29
    show Go _ _ _ _ _ _ _ [(.int (2 : Int32)), (.ref b2), (.ref b2), (.ref t), (.int (3 : Int32)), (.ref b2)]
    refine px_iaload (v := (0 : Int32)) S29 A_b2 (i := 2) rfl (by decide) rfl d4_33 rfl ?_
    refine px_aloadN S29 d4_34 rfl rfl rfl ?_
    refine px_iloadN S29 d4_35 rfl rfl ?_
    refine px_callI (Cn := "com/example/ghost_state/ghoststate/Shadows$Path") (as' := [(.int (3 : Int32))]) (st := [(.int (0 : Int32)), (.ref b2), (.ref t), (.int (3 : Int32)), (.ref b2)]) (W := 5) S29 (c_elem (k := 2) (x := c2) hw S29.size ⟨X_t, F_t⟩ A0 (by decide) (by decide) e_c2 n_c2) X_t (hw _ (List.mem_of_getElem? (i := 38) rfl)) (hw _ (List.mem_of_getElem? (i := 39) rfl)) (hw _ (List.mem_of_getElem? (i := 40) rfl)) rfl (hw _ (List.mem_of_getElem? (i := 41) rfl)) (hw _ (List.mem_of_getElem? (i := 42) rfl)) (hw _ (List.mem_of_getElem? (i := 43) rfl)) (hw _ (List.mem_of_getElem? (i := 44) rfl)) (hw _ (List.mem_of_getElem? (i := 27) rfl)) (hw _ (List.mem_of_getElem? (i := 8) rfl)) (hw _ (List.mem_of_getElem? (i := 45) rfl)) (by decide) pd_4_2 rfl rfl (by decide) rfl (by decide) (by decide) (by decide) d4_36 rfl rfl (fun T30 h30 v30 S30 q30 => ?_)
    obtain ⟨rfl, rfl⟩ := q30
    show Go _ _ _ _ _ _ _ [(.int c2), (.int (0 : Int32)), (.ref b2), (.ref t), (.int (3 : Int32)), (.ref b2)]
    by_cases hE31 : c0.toInt = c2.toInt
    · refine px_callS (as' := [(.ref t), (.ref b2), (.int (0 : Int32)), (.int c2)]) (st := [(.int (3 : Int32)), (.ref b2)]) (W := 2) S30 (c_next (n := 3) (m := 4) (k0 := 0) (nl := (3 : Int32)) (r := (1 : Int32)) hw S30.size ⟨X_t, F_t⟩ A0 A_b2 rfl (by decide) (by decide) (Or.inr ⟨0, by decide, by decide, (by rw [e_c0]; exact hE31), by decide⟩)) (hw _ (List.mem_of_getElem? (i := 46) rfl)) (hw _ (List.mem_of_getElem? (i := 47) rfl)) (hw _ (List.mem_of_getElem? (i := 4) rfl)) (hw _ (List.mem_of_getElem? (i := 48) rfl)) (by decide) pd_4_3 rfl rfl (by decide) rfl (by decide) (by decide) (by decide) d4_41 rfl rfl (fun T32 h32 v32 S32 q32 => ?_)
      obtain ⟨rfl, rfl⟩ := q32
      show Go _ _ _ _ _ _ _ [(.int (1 : Int32)), (.int (3 : Int32)), (.ref b2)]
      refine px_iastore (v := (1 : Int32)) S32 A_b2 g_b2 (i := 3) rfl (by decide) rfl d4_44 rfl (fun T33 h33 S33 W33 A_b2 => ?_)
      replace X_t := X_t.wr W33
      replace F_t := F_t.other W33 (Or.inl ne_t_b2)
      replace A0 := A0.other W33 ne_p_b2
      refine px_iinc (v := (1 : Int32)) (r := (4 : Int32)) S33 d4_45 rfl rfl rfl (by decide) (L' := #[.val (.ref t), .val (.ref b2), .val (.int (4 : Int32))]) rfl ?_
      refine px_goto S33 d4_48 (by decide) (pc' := 15) rfl ?_
      refine px_iloadN S33 d4_15 rfl rfl ?_
      refine px_aloadN S33 d4_16 rfl rfl rfl ?_
      refine px_alenI (v := (4 : Int32)) S33 A_b2 rfl d4_17 rfl ?_
      refine px_icmp S33 d4_18 (by decide) (pc' := 51) rfl rfl (fun (hc34 : (4 : Int32).toInt ≥ (4 : Int32).toInt) => ?_) (fun (hc34 : (4 : Int32).toInt < (4 : Int32).toInt) => by exfalso; revert hc34; decide)
      refine px_aloadN S33 d4_51 rfl rfl rfl ?_
      exact px_retA S33 d4_52 rfl rfl rfl (by decide) (by decide) (⟨b2, (-1 : Int32), (0 : Int32), (0 : Int32), (1 : Int32), rfl, g_b2, ((((((Keep.refl _ _).ext E2).wr W3 (Or.inr (Nat.le_of_eq z2.symm))).wr W8 (Or.inr (Nat.le_of_eq z2.symm))).wr W27 (Or.inr (Nat.le_of_eq z2.symm))).wr W33 (Or.inr (Nat.le_of_eq z2.symm))), A_b2.congr (all4 rfl rfl rfl rfl), rfl, rfl, Or.inl (⟨rfl, by omega⟩), Or.inr (Or.inl (⟨rfl, by omega, by omega⟩))⟩)
    · refine px_callS (as' := [(.ref t), (.ref b2), (.int (0 : Int32)), (.int c2)]) (st := [(.int (3 : Int32)), (.ref b2)]) (W := 2) S30 (c_next (n := 3) (m := 4) (k0 := 1) (nl := (3 : Int32)) (r := (0 : Int32)) hw S30.size ⟨X_t, F_t⟩ A0 A_b2 rfl (by decide) (by decide) (⟨0, by decide, by decide, (by rw [e_c0]; exact hE31), Or.inl ⟨by decide, rfl⟩⟩)) (hw _ (List.mem_of_getElem? (i := 46) rfl)) (hw _ (List.mem_of_getElem? (i := 47) rfl)) (hw _ (List.mem_of_getElem? (i := 4) rfl)) (hw _ (List.mem_of_getElem? (i := 48) rfl)) (by decide) pd_4_3 rfl rfl (by decide) rfl (by decide) (by decide) (by decide) d4_41 rfl rfl (fun T35 h35 v35 S35 q35 => ?_)
      obtain ⟨rfl, rfl⟩ := q35
      show Go _ _ _ _ _ _ _ [(.int (0 : Int32)), (.int (3 : Int32)), (.ref b2)]
      refine px_iastore (v := (0 : Int32)) S35 A_b2 g_b2 (i := 3) rfl (by decide) rfl d4_44 rfl (fun T36 h36 S36 W36 A_b2 => ?_)
      replace X_t := X_t.wr W36
      replace F_t := F_t.other W36 (Or.inl ne_t_b2)
      replace A0 := A0.other W36 ne_p_b2
      refine px_iinc (v := (1 : Int32)) (r := (4 : Int32)) S36 d4_45 rfl rfl rfl (by decide) (L' := #[.val (.ref t), .val (.ref b2), .val (.int (4 : Int32))]) rfl ?_
      refine px_goto S36 d4_48 (by decide) (pc' := 15) rfl ?_
      refine px_iloadN S36 d4_15 rfl rfl ?_
      refine px_aloadN S36 d4_16 rfl rfl rfl ?_
      refine px_alenI (v := (4 : Int32)) S36 A_b2 rfl d4_17 rfl ?_
      refine px_icmp S36 d4_18 (by decide) (pc' := 51) rfl rfl (fun (hc37 : (4 : Int32).toInt ≥ (4 : Int32).toInt) => ?_) (fun (hc37 : (4 : Int32).toInt < (4 : Int32).toInt) => by exfalso; revert hc37; decide)
      refine px_aloadN S36 d4_51 rfl rfl rfl ?_
      exact px_retA S36 d4_52 rfl rfl rfl (by decide) (by decide) (⟨b2, (-1 : Int32), (0 : Int32), (0 : Int32), (0 : Int32), rfl, g_b2, ((((((Keep.refl _ _).ext E2).wr W3 (Or.inr (Nat.le_of_eq z2.symm))).wr W8 (Or.inr (Nat.le_of_eq z2.symm))).wr W27 (Or.inr (Nat.le_of_eq z2.symm))).wr W36 (Or.inr (Nat.le_of_eq z2.symm))), A_b2.congr (all4 rfl rfl rfl rfl), rfl, rfl, Or.inl (⟨rfl, by omega⟩), Or.inl (⟨rfl, by omega, by omega⟩)⟩)
set_option maxRecDepth 65536 in
set_option maxHeartbeats 40000000 in
theorem c_ofT4 {Z : State} {a0 : Array Value} (hw : ∀ d ∈ tables_1, d.before a0 Z = true) {t p : Addr} {c0 c1 c2 c3 : Int32} {f : Nat → Int32} {h0 : Heap} {n0 : Nat} (Z0 : n0 ≤ h0.size) (B0 : PathO Z h0 t p) (A0 : AI Z h0 p .char 4 f) (e_c0 : f 0 = c0) (e_c1 : f 1 = c1) (e_c2 : f 2 = c2) (e_c3 : f 3 = c3) (n_c0 : nar .char c0 = c0) (n_c1 : nar .char c1 = c1) (n_c2 : nar .char c2 = c2) (n_c3 : nar .char c3 = c3) :
    Ctr Z n0 (⟨"com/example/ghost_state/ghoststate/Shadows", "of", "(Lcom/example/ghost_state/ghoststate/Shadows$PrefixTree;)[I"⟩ : MethodName) prog_23_method_3_code 3 (some (.array .int)) ({ frames := 2, cells := 1, slots := 5, locals := 33 } : Room) [(.ref t)] h0 (fun v h => ∃ (b : Addr) (s0 s1 s2 s3 s4 : Int32), v = some (.ref b) ∧ n0 ≤ b ∧ Keep h0 h [] ∧ AI Z h b .int 5 (updF (updF (updF (updF (updF (fun _ => 0) 0 s0) 1 s1) 2 s2) 3 s3) 4 s4) ∧ s0.toInt = -1 ∧ ((s1.toInt = 0)) ∧ ((s2.toInt = 0 ∧ ¬ (c0.toInt = c1.toInt)) ∨ (s2.toInt = 1 ∧ (c0.toInt = c1.toInt))) ∧ ((s3.toInt = 0 ∧ ¬ (c0.toInt = c2.toInt) ∧ ¬ (c0.toInt = c1.toInt ∧ c1.toInt = c2.toInt)) ∨ (s3.toInt = 1 ∧ (c0.toInt = c2.toInt) ∧ ¬ (c0.toInt = c1.toInt ∧ c1.toInt = c2.toInt)) ∨ (s3.toInt = 2 ∧ (c0.toInt = c1.toInt ∧ c1.toInt = c2.toInt))) ∧ ((s4.toInt = 0 ∧ ¬ (c0.toInt = c3.toInt) ∧ ¬ (c0.toInt = c2.toInt ∧ c1.toInt = c3.toInt) ∧ ¬ (c0.toInt = c1.toInt ∧ c1.toInt = c2.toInt ∧ c2.toInt = c3.toInt)) ∨ (s4.toInt = 1 ∧ (c0.toInt = c3.toInt) ∧ ¬ (c0.toInt = c2.toInt ∧ c1.toInt = c3.toInt) ∧ ¬ (c0.toInt = c1.toInt ∧ c1.toInt = c2.toInt ∧ c2.toInt = c3.toInt)) ∨ (s4.toInt = 2 ∧ (c0.toInt = c2.toInt ∧ c1.toInt = c3.toInt) ∧ ¬ (c0.toInt = c1.toInt ∧ c1.toInt = c2.toInt ∧ c2.toInt = c3.toInt)) ∨ (s4.toInt = 3 ∧ (c0.toInt = c1.toInt ∧ c1.toInt = c2.toInt ∧ c2.toInt = c3.toInt)))) := by
  refine Ctr.of (L := #[.val (.ref t), .unset, .unset]) pn_4 Z0 (fun m => by first | (simp [entryFrame, mkF, argsToLocals, Value.category]; done) | rfl) ?_
  intro K T S0
  have X_t := B0.1
  have F_t := B0.2
  refine px_aloadN S0 d4_0 rfl rfl rfl ?_
  refine px_callI (Cn := "com/example/ghost_state/ghoststate/Shadows$Path") (as' := []) (st := []) (W := 0) S0 (c_states (nl := (4 : Int32)) (r := (5 : Int32)) hw S0.size ⟨X_t, F_t⟩ A0 rfl (by decide)) X_t (hw _ (List.mem_of_getElem? (i := 20) rfl)) (hw _ (List.mem_of_getElem? (i := 21) rfl)) (hw _ (List.mem_of_getElem? (i := 22) rfl)) rfl (hw _ (List.mem_of_getElem? (i := 23) rfl)) (hw _ (List.mem_of_getElem? (i := 24) rfl)) (hw _ (List.mem_of_getElem? (i := 25) rfl)) (hw _ (List.mem_of_getElem? (i := 26) rfl)) (hw _ (List.mem_of_getElem? (i := 27) rfl)) (hw _ (List.mem_of_getElem? (i := 8) rfl)) (hw _ (List.mem_of_getElem? (i := 28) rfl)) (by decide) pd_4_0 rfl rfl (by decide) rfl (by decide) (by decide) (by decide) d4_1 rfl rfl (fun T1 h1 v1 S1 q1 => ?_)
  obtain ⟨rfl, rfl⟩ := q1
  show Go _ _ _ _ _ _ _ [(.int (5 : Int32))]
  refine px_newarr (aty := .int) (cap := 5) S1 (hw _ (List.mem_of_getElem? (i := 29) rfl)) rfl (n := 5) rfl (by decide) (by decide) (by decide) (by decide) d4_6 rfl (fun T2 h2 b2 z2 g_b2 S2 E2 A_b2 => ?_)
  have ne_t_b2 : t ≠ b2 := ne_new z2 X_t.lt
  replace X_t := X_t.ext E2
  replace F_t := F_t.ext E2
  have ne_p_b2 : p ≠ b2 := ne_new z2 A0.lt
  replace A0 := A0.ext E2
  refine px_astoreN S2 d4_8 rfl rfl (L' := #[.val (.ref t), .val (.ref b2), .unset]) rfl ?_
  refine px_aloadN S2 d4_9 rfl rfl rfl ?_
  refine px_iconst (v := (0 : Int32)) S2 d4_10 rfl rfl ?_
  refine px_iconst (v := (-1 : Int32)) S2 d4_11 rfl rfl ?_
  refine px_iastore (v := (-1 : Int32)) S2 A_b2 g_b2 (i := 0) rfl (by decide) rfl d4_12 rfl (fun T3 h3 S3 W3 A_b2 => ?_)
  replace X_t := X_t.wr W3
  replace F_t := F_t.other W3 (Or.inl ne_t_b2)
  replace A0 := A0.other W3 ne_p_b2
  refine px_iconst (v := (1 : Int32)) S3 d4_13 rfl rfl ?_
  refine px_istoreN S3 d4_14 rfl (L' := #[.val (.ref t), .val (.ref b2), .val (.int (1 : Int32))]) rfl ?_
  refine px_iloadN S3 d4_15 rfl rfl ?_
  refine px_aloadN S3 d4_16 rfl rfl rfl ?_
  refine px_alenI (v := (5 : Int32)) S3 A_b2 rfl d4_17 rfl ?_
  refine px_icmp S3 d4_18 (by decide) (pc' := 51) rfl rfl (fun (hc4 : (1 : Int32).toInt ≥ (5 : Int32).toInt) => by exfalso; revert hc4; decide) (fun (hc4 : (1 : Int32).toInt < (5 : Int32).toInt) => ?_)
  refine px_aloadN S3 d4_21 rfl rfl rfl ?_
  refine px_iloadN S3 d4_22 rfl rfl ?_
  refine px_aloadN S3 d4_23 rfl rfl rfl ?_
  refine px_aloadN S3 d4_24 rfl rfl rfl ?_
  refine px_aloadN S3 d4_25 rfl rfl rfl ?_
  refine px_aloadN S3 d4_26 rfl rfl rfl ?_
  refine px_iloadN S3 d4_27 rfl rfl ?_
  refine px_callI (Cn := "com/example/ghost_state/ghoststate/Shadows$Path") (as' := [(.int (1 : Int32))]) (st := [(.ref b2), (.ref b2), (.ref t), (.int (1 : Int32)), (.ref b2)]) (W := 5) S3 (c_parent (r := (0 : Int32)) hw S3.size (by decide)) X_t (hw _ (List.mem_of_getElem? (i := 30) rfl)) (hw _ (List.mem_of_getElem? (i := 31) rfl)) (hw _ (List.mem_of_getElem? (i := 32) rfl)) rfl (hw _ (List.mem_of_getElem? (i := 33) rfl)) (hw _ (List.mem_of_getElem? (i := 34) rfl)) (hw _ (List.mem_of_getElem? (i := 35) rfl)) (hw _ (List.mem_of_getElem? (i := 36) rfl)) (hw _ (List.mem_of_getElem? (i := 27) rfl)) (hw _ (List.mem_of_getElem? (i := 8) rfl)) (hw _ (List.mem_of_getElem? (i := 37) rfl)) (by decide) pd_4_1 rfl rfl (by decide) rfl (by decide) (by decide) (by decide) d4_28 rfl rfl (fun T5 h5 v5 S5 q5 => ?_)
  obtain ⟨rfl, rfl⟩ := q5
  show Go _ _ _ _ _ _ _ [(.int (0 : Int32)), (.ref b2), (.ref b2), (.ref t), (.int (1 : Int32)), (.ref b2)]
  refine px_iaload (v := (-1 : Int32)) S5 A_b2 (i := 0) rfl (by decide) rfl d4_33 rfl ?_
  refine px_aloadN S5 d4_34 rfl rfl rfl ?_
  refine px_iloadN S5 d4_35 rfl rfl ?_
  refine px_callI (Cn := "com/example/ghost_state/ghoststate/Shadows$Path") (as' := [(.int (1 : Int32))]) (st := [(.int (-1 : Int32)), (.ref b2), (.ref t), (.int (1 : Int32)), (.ref b2)]) (W := 5) S5 (c_elem (k := 0) (x := c0) hw S5.size ⟨X_t, F_t⟩ A0 (by decide) (by decide) e_c0 n_c0) X_t (hw _ (List.mem_of_getElem? (i := 38) rfl)) (hw _ (List.mem_of_getElem? (i := 39) rfl)) (hw _ (List.mem_of_getElem? (i := 40) rfl)) rfl (hw _ (List.mem_of_getElem? (i := 41) rfl)) (hw _ (List.mem_of_getElem? (i := 42) rfl)) (hw _ (List.mem_of_getElem? (i := 43) rfl)) (hw _ (List.mem_of_getElem? (i := 44) rfl)) (hw _ (List.mem_of_getElem? (i := 27) rfl)) (hw _ (List.mem_of_getElem? (i := 8) rfl)) (hw _ (List.mem_of_getElem? (i := 45) rfl)) (by decide) pd_4_2 rfl rfl (by decide) rfl (by decide) (by decide) (by decide) d4_36 rfl rfl (fun T6 h6 v6 S6 q6 => ?_)
  obtain ⟨rfl, rfl⟩ := q6
  show Go _ _ _ _ _ _ _ [(.int c0), (.int (-1 : Int32)), (.ref b2), (.ref t), (.int (1 : Int32)), (.ref b2)]
  refine px_callS (as' := [(.ref t), (.ref b2), (.int (-1 : Int32)), (.int c0)]) (st := [(.int (1 : Int32)), (.ref b2)]) (W := 2) S6 (c_next (n := 4) (m := 5) (k0 := 0) (nl := (4 : Int32)) (r := (0 : Int32)) hw S6.size ⟨X_t, F_t⟩ A0 A_b2 rfl (by decide) (by decide) (Or.inl ⟨by decide, rfl⟩)) (hw _ (List.mem_of_getElem? (i := 46) rfl)) (hw _ (List.mem_of_getElem? (i := 47) rfl)) (hw _ (List.mem_of_getElem? (i := 4) rfl)) (hw _ (List.mem_of_getElem? (i := 48) rfl)) (by decide) pd_4_3 rfl rfl (by decide) rfl (by decide) (by decide) (by decide) d4_41 rfl rfl (fun T7 h7 v7 S7 q7 => ?_)
  obtain ⟨rfl, rfl⟩ := q7
  show Go _ _ _ _ _ _ _ [(.int (0 : Int32)), (.int (1 : Int32)), (.ref b2)]
  refine px_iastore (v := (0 : Int32)) S7 A_b2 g_b2 (i := 1) rfl (by decide) rfl d4_44 rfl (fun T8 h8 S8 W8 A_b2 => ?_)
  replace X_t := X_t.wr W8
  replace F_t := F_t.other W8 (Or.inl ne_t_b2)
  replace A0 := A0.other W8 ne_p_b2
  refine px_iinc (v := (1 : Int32)) (r := (2 : Int32)) S8 d4_45 rfl rfl rfl (by decide) (L' := #[.val (.ref t), .val (.ref b2), .val (.int (2 : Int32))]) rfl ?_
  refine px_goto S8 d4_48 (by decide) (pc' := 15) rfl ?_
  refine px_iloadN S8 d4_15 rfl rfl ?_
  refine px_aloadN S8 d4_16 rfl rfl rfl ?_
  refine px_alenI (v := (5 : Int32)) S8 A_b2 rfl d4_17 rfl ?_
  refine px_icmp S8 d4_18 (by decide) (pc' := 51) rfl rfl (fun (hc9 : (2 : Int32).toInt ≥ (5 : Int32).toInt) => by exfalso; revert hc9; decide) (fun (hc9 : (2 : Int32).toInt < (5 : Int32).toInt) => ?_)
  refine px_aloadN S8 d4_21 rfl rfl rfl ?_
  refine px_iloadN S8 d4_22 rfl rfl ?_
  refine px_aloadN S8 d4_23 rfl rfl rfl ?_
  refine px_aloadN S8 d4_24 rfl rfl rfl ?_
  refine px_aloadN S8 d4_25 rfl rfl rfl ?_
  refine px_aloadN S8 d4_26 rfl rfl rfl ?_
  refine px_iloadN S8 d4_27 rfl rfl ?_
  refine px_callI (Cn := "com/example/ghost_state/ghoststate/Shadows$Path") (as' := [(.int (2 : Int32))]) (st := [(.ref b2), (.ref b2), (.ref t), (.int (2 : Int32)), (.ref b2)]) (W := 5) S8 (c_parent (r := (1 : Int32)) hw S8.size (by decide)) X_t (hw _ (List.mem_of_getElem? (i := 30) rfl)) (hw _ (List.mem_of_getElem? (i := 31) rfl)) (hw _ (List.mem_of_getElem? (i := 32) rfl)) rfl (hw _ (List.mem_of_getElem? (i := 33) rfl)) (hw _ (List.mem_of_getElem? (i := 34) rfl)) (hw _ (List.mem_of_getElem? (i := 35) rfl)) (hw _ (List.mem_of_getElem? (i := 36) rfl)) (hw _ (List.mem_of_getElem? (i := 27) rfl)) (hw _ (List.mem_of_getElem? (i := 8) rfl)) (hw _ (List.mem_of_getElem? (i := 37) rfl)) (by decide) pd_4_1 rfl rfl (by decide) rfl (by decide) (by decide) (by decide) d4_28 rfl rfl (fun T10 h10 v10 S10 q10 => ?_)
  obtain ⟨rfl, rfl⟩ := q10
  show Go _ _ _ _ _ _ _ [(.int (1 : Int32)), (.ref b2), (.ref b2), (.ref t), (.int (2 : Int32)), (.ref b2)]
  refine px_iaload (v := (0 : Int32)) S10 A_b2 (i := 1) rfl (by decide) rfl d4_33 rfl ?_
  refine px_aloadN S10 d4_34 rfl rfl rfl ?_
  refine px_iloadN S10 d4_35 rfl rfl ?_
  refine px_callI (Cn := "com/example/ghost_state/ghoststate/Shadows$Path") (as' := [(.int (2 : Int32))]) (st := [(.int (0 : Int32)), (.ref b2), (.ref t), (.int (2 : Int32)), (.ref b2)]) (W := 5) S10 (c_elem (k := 1) (x := c1) hw S10.size ⟨X_t, F_t⟩ A0 (by decide) (by decide) e_c1 n_c1) X_t (hw _ (List.mem_of_getElem? (i := 38) rfl)) (hw _ (List.mem_of_getElem? (i := 39) rfl)) (hw _ (List.mem_of_getElem? (i := 40) rfl)) rfl (hw _ (List.mem_of_getElem? (i := 41) rfl)) (hw _ (List.mem_of_getElem? (i := 42) rfl)) (hw _ (List.mem_of_getElem? (i := 43) rfl)) (hw _ (List.mem_of_getElem? (i := 44) rfl)) (hw _ (List.mem_of_getElem? (i := 27) rfl)) (hw _ (List.mem_of_getElem? (i := 8) rfl)) (hw _ (List.mem_of_getElem? (i := 45) rfl)) (by decide) pd_4_2 rfl rfl (by decide) rfl (by decide) (by decide) (by decide) d4_36 rfl rfl (fun T11 h11 v11 S11 q11 => ?_)
  obtain ⟨rfl, rfl⟩ := q11
  show Go _ _ _ _ _ _ _ [(.int c1), (.int (0 : Int32)), (.ref b2), (.ref t), (.int (2 : Int32)), (.ref b2)]
  by_cases hE12 : c0.toInt = c1.toInt
  · refine px_callS (as' := [(.ref t), (.ref b2), (.int (0 : Int32)), (.int c1)]) (st := [(.int (2 : Int32)), (.ref b2)]) (W := 2) S11 (c_next (n := 4) (m := 5) (k0 := 0) (nl := (4 : Int32)) (r := (1 : Int32)) hw S11.size ⟨X_t, F_t⟩ A0 A_b2 rfl (by decide) (by decide) (Or.inr ⟨0, by decide, by decide, (by rw [e_c0]; exact hE12), by decide⟩)) (hw _ (List.mem_of_getElem? (i := 46) rfl)) (hw _ (List.mem_of_getElem? (i := 47) rfl)) (hw _ (List.mem_of_getElem? (i := 4) rfl)) (hw _ (List.mem_of_getElem? (i := 48) rfl)) (by decide) pd_4_3 rfl rfl (by decide) rfl (by decide) (by decide) (by decide) d4_41 rfl rfl (fun T13 h13 v13 S13 q13 => ?_)
    obtain ⟨rfl, rfl⟩ := q13
    show Go _ _ _ _ _ _ _ [(.int (1 : Int32)), (.int (2 : Int32)), (.ref b2)]
    refine px_iastore (v := (1 : Int32)) S13 A_b2 g_b2 (i := 2) rfl (by decide) rfl d4_44 rfl (fun T14 h14 S14 W14 A_b2 => ?_)
    replace X_t := X_t.wr W14
    replace F_t := F_t.other W14 (Or.inl ne_t_b2)
    replace A0 := A0.other W14 ne_p_b2
    refine px_iinc (v := (1 : Int32)) (r := (3 : Int32)) S14 d4_45 rfl rfl rfl (by decide) (L' := #[.val (.ref t), .val (.ref b2), .val (.int (3 : Int32))]) rfl ?_
    refine px_goto S14 d4_48 (by decide) (pc' := 15) rfl ?_
    refine px_iloadN S14 d4_15 rfl rfl ?_
    refine px_aloadN S14 d4_16 rfl rfl rfl ?_
    refine px_alenI (v := (5 : Int32)) S14 A_b2 rfl d4_17 rfl ?_
    refine px_icmp S14 d4_18 (by decide) (pc' := 51) rfl rfl (fun (hc15 : (3 : Int32).toInt ≥ (5 : Int32).toInt) => by exfalso; revert hc15; decide) (fun (hc15 : (3 : Int32).toInt < (5 : Int32).toInt) => ?_)
    refine px_aloadN S14 d4_21 rfl rfl rfl ?_
    refine px_iloadN S14 d4_22 rfl rfl ?_
    refine px_aloadN S14 d4_23 rfl rfl rfl ?_
    refine px_aloadN S14 d4_24 rfl rfl rfl ?_
    refine px_aloadN S14 d4_25 rfl rfl rfl ?_
    refine px_aloadN S14 d4_26 rfl rfl rfl ?_
    refine px_iloadN S14 d4_27 rfl rfl ?_
    refine px_callI (Cn := "com/example/ghost_state/ghoststate/Shadows$Path") (as' := [(.int (3 : Int32))]) (st := [(.ref b2), (.ref b2), (.ref t), (.int (3 : Int32)), (.ref b2)]) (W := 5) S14 (c_parent (r := (2 : Int32)) hw S14.size (by decide)) X_t (hw _ (List.mem_of_getElem? (i := 30) rfl)) (hw _ (List.mem_of_getElem? (i := 31) rfl)) (hw _ (List.mem_of_getElem? (i := 32) rfl)) rfl (hw _ (List.mem_of_getElem? (i := 33) rfl)) (hw _ (List.mem_of_getElem? (i := 34) rfl)) (hw _ (List.mem_of_getElem? (i := 35) rfl)) (hw _ (List.mem_of_getElem? (i := 36) rfl)) (hw _ (List.mem_of_getElem? (i := 27) rfl)) (hw _ (List.mem_of_getElem? (i := 8) rfl)) (hw _ (List.mem_of_getElem? (i := 37) rfl)) (by decide) pd_4_1 rfl rfl (by decide) rfl (by decide) (by decide) (by decide) d4_28 rfl rfl (fun T16 h16 v16 S16 q16 => ?_)
    obtain ⟨rfl, rfl⟩ := q16
    show Go _ _ _ _ _ _ _ [(.int (2 : Int32)), (.ref b2), (.ref b2), (.ref t), (.int (3 : Int32)), (.ref b2)]
    refine px_iaload (v := (1 : Int32)) S16 A_b2 (i := 2) rfl (by decide) rfl d4_33 rfl ?_
    refine px_aloadN S16 d4_34 rfl rfl rfl ?_
    refine px_iloadN S16 d4_35 rfl rfl ?_
    refine px_callI (Cn := "com/example/ghost_state/ghoststate/Shadows$Path") (as' := [(.int (3 : Int32))]) (st := [(.int (1 : Int32)), (.ref b2), (.ref t), (.int (3 : Int32)), (.ref b2)]) (W := 5) S16 (c_elem (k := 2) (x := c2) hw S16.size ⟨X_t, F_t⟩ A0 (by decide) (by decide) e_c2 n_c2) X_t (hw _ (List.mem_of_getElem? (i := 38) rfl)) (hw _ (List.mem_of_getElem? (i := 39) rfl)) (hw _ (List.mem_of_getElem? (i := 40) rfl)) rfl (hw _ (List.mem_of_getElem? (i := 41) rfl)) (hw _ (List.mem_of_getElem? (i := 42) rfl)) (hw _ (List.mem_of_getElem? (i := 43) rfl)) (hw _ (List.mem_of_getElem? (i := 44) rfl)) (hw _ (List.mem_of_getElem? (i := 27) rfl)) (hw _ (List.mem_of_getElem? (i := 8) rfl)) (hw _ (List.mem_of_getElem? (i := 45) rfl)) (by decide) pd_4_2 rfl rfl (by decide) rfl (by decide) (by decide) (by decide) d4_36 rfl rfl (fun T17 h17 v17 S17 q17 => ?_)
    obtain ⟨rfl, rfl⟩ := q17
    show Go _ _ _ _ _ _ _ [(.int c2), (.int (1 : Int32)), (.ref b2), (.ref t), (.int (3 : Int32)), (.ref b2)]
    by_cases hE18 : c1.toInt = c2.toInt
    · refine px_callS (as' := [(.ref t), (.ref b2), (.int (1 : Int32)), (.int c2)]) (st := [(.int (3 : Int32)), (.ref b2)]) (W := 2) S17 (c_next (n := 4) (m := 5) (k0 := 0) (nl := (4 : Int32)) (r := (2 : Int32)) hw S17.size ⟨X_t, F_t⟩ A0 A_b2 rfl (by decide) (by decide) (Or.inr ⟨1, by decide, by decide, (by rw [e_c1]; exact hE18), by decide⟩)) (hw _ (List.mem_of_getElem? (i := 46) rfl)) (hw _ (List.mem_of_getElem? (i := 47) rfl)) (hw _ (List.mem_of_getElem? (i := 4) rfl)) (hw _ (List.mem_of_getElem? (i := 48) rfl)) (by decide) pd_4_3 rfl rfl (by decide) rfl (by decide) (by decide) (by decide) d4_41 rfl rfl (fun T19 h19 v19 S19 q19 => ?_)
      obtain ⟨rfl, rfl⟩ := q19
      show Go _ _ _ _ _ _ _ [(.int (2 : Int32)), (.int (3 : Int32)), (.ref b2)]
      refine px_iastore (v := (2 : Int32)) S19 A_b2 g_b2 (i := 3) rfl (by decide) rfl d4_44 rfl (fun T20 h20 S20 W20 A_b2 => ?_)
      replace X_t := X_t.wr W20
      replace F_t := F_t.other W20 (Or.inl ne_t_b2)
      replace A0 := A0.other W20 ne_p_b2
      refine px_iinc (v := (1 : Int32)) (r := (4 : Int32)) S20 d4_45 rfl rfl rfl (by decide) (L' := #[.val (.ref t), .val (.ref b2), .val (.int (4 : Int32))]) rfl ?_
      refine px_goto S20 d4_48 (by decide) (pc' := 15) rfl ?_
      refine px_iloadN S20 d4_15 rfl rfl ?_
      refine px_aloadN S20 d4_16 rfl rfl rfl ?_
      refine px_alenI (v := (5 : Int32)) S20 A_b2 rfl d4_17 rfl ?_
      refine px_icmp S20 d4_18 (by decide) (pc' := 51) rfl rfl (fun (hc21 : (4 : Int32).toInt ≥ (5 : Int32).toInt) => by exfalso; revert hc21; decide) (fun (hc21 : (4 : Int32).toInt < (5 : Int32).toInt) => ?_)
      refine px_aloadN S20 d4_21 rfl rfl rfl ?_
      refine px_iloadN S20 d4_22 rfl rfl ?_
      refine px_aloadN S20 d4_23 rfl rfl rfl ?_
      refine px_aloadN S20 d4_24 rfl rfl rfl ?_
      refine px_aloadN S20 d4_25 rfl rfl rfl ?_
      refine px_aloadN S20 d4_26 rfl rfl rfl ?_
      refine px_iloadN S20 d4_27 rfl rfl ?_
      refine px_callI (Cn := "com/example/ghost_state/ghoststate/Shadows$Path") (as' := [(.int (4 : Int32))]) (st := [(.ref b2), (.ref b2), (.ref t), (.int (4 : Int32)), (.ref b2)]) (W := 5) S20 (c_parent (r := (3 : Int32)) hw S20.size (by decide)) X_t (hw _ (List.mem_of_getElem? (i := 30) rfl)) (hw _ (List.mem_of_getElem? (i := 31) rfl)) (hw _ (List.mem_of_getElem? (i := 32) rfl)) rfl (hw _ (List.mem_of_getElem? (i := 33) rfl)) (hw _ (List.mem_of_getElem? (i := 34) rfl)) (hw _ (List.mem_of_getElem? (i := 35) rfl)) (hw _ (List.mem_of_getElem? (i := 36) rfl)) (hw _ (List.mem_of_getElem? (i := 27) rfl)) (hw _ (List.mem_of_getElem? (i := 8) rfl)) (hw _ (List.mem_of_getElem? (i := 37) rfl)) (by decide) pd_4_1 rfl rfl (by decide) rfl (by decide) (by decide) (by decide) d4_28 rfl rfl (fun T22 h22 v22 S22 q22 => ?_)
      obtain ⟨rfl, rfl⟩ := q22
      show Go _ _ _ _ _ _ _ [(.int (3 : Int32)), (.ref b2), (.ref b2), (.ref t), (.int (4 : Int32)), (.ref b2)]
      refine px_iaload (v := (2 : Int32)) S22 A_b2 (i := 3) rfl (by decide) rfl d4_33 rfl ?_
      refine px_aloadN S22 d4_34 rfl rfl rfl ?_
      refine px_iloadN S22 d4_35 rfl rfl ?_
      refine px_callI (Cn := "com/example/ghost_state/ghoststate/Shadows$Path") (as' := [(.int (4 : Int32))]) (st := [(.int (2 : Int32)), (.ref b2), (.ref t), (.int (4 : Int32)), (.ref b2)]) (W := 5) S22 (c_elem (k := 3) (x := c3) hw S22.size ⟨X_t, F_t⟩ A0 (by decide) (by decide) e_c3 n_c3) X_t (hw _ (List.mem_of_getElem? (i := 38) rfl)) (hw _ (List.mem_of_getElem? (i := 39) rfl)) (hw _ (List.mem_of_getElem? (i := 40) rfl)) rfl (hw _ (List.mem_of_getElem? (i := 41) rfl)) (hw _ (List.mem_of_getElem? (i := 42) rfl)) (hw _ (List.mem_of_getElem? (i := 43) rfl)) (hw _ (List.mem_of_getElem? (i := 44) rfl)) (hw _ (List.mem_of_getElem? (i := 27) rfl)) (hw _ (List.mem_of_getElem? (i := 8) rfl)) (hw _ (List.mem_of_getElem? (i := 45) rfl)) (by decide) pd_4_2 rfl rfl (by decide) rfl (by decide) (by decide) (by decide) d4_36 rfl rfl (fun T23 h23 v23 S23 q23 => ?_)
      obtain ⟨rfl, rfl⟩ := q23
      show Go _ _ _ _ _ _ _ [(.int c3), (.int (2 : Int32)), (.ref b2), (.ref t), (.int (4 : Int32)), (.ref b2)]
      by_cases hE24 : c2.toInt = c3.toInt
      · refine px_callS (as' := [(.ref t), (.ref b2), (.int (2 : Int32)), (.int c3)]) (st := [(.int (4 : Int32)), (.ref b2)]) (W := 2) S23 (c_next (n := 4) (m := 5) (k0 := 0) (nl := (4 : Int32)) (r := (3 : Int32)) hw S23.size ⟨X_t, F_t⟩ A0 A_b2 rfl (by decide) (by decide) (Or.inr ⟨2, by decide, by decide, (by rw [e_c2]; exact hE24), by decide⟩)) (hw _ (List.mem_of_getElem? (i := 46) rfl)) (hw _ (List.mem_of_getElem? (i := 47) rfl)) (hw _ (List.mem_of_getElem? (i := 4) rfl)) (hw _ (List.mem_of_getElem? (i := 48) rfl)) (by decide) pd_4_3 rfl rfl (by decide) rfl (by decide) (by decide) (by decide) d4_41 rfl rfl (fun T25 h25 v25 S25 q25 => ?_)
        obtain ⟨rfl, rfl⟩ := q25
        show Go _ _ _ _ _ _ _ [(.int (3 : Int32)), (.int (4 : Int32)), (.ref b2)]
        refine px_iastore (v := (3 : Int32)) S25 A_b2 g_b2 (i := 4) rfl (by decide) rfl d4_44 rfl (fun T26 h26 S26 W26 A_b2 => ?_)
        replace X_t := X_t.wr W26
        replace F_t := F_t.other W26 (Or.inl ne_t_b2)
        replace A0 := A0.other W26 ne_p_b2
        refine px_iinc (v := (1 : Int32)) (r := (5 : Int32)) S26 d4_45 rfl rfl rfl (by decide) (L' := #[.val (.ref t), .val (.ref b2), .val (.int (5 : Int32))]) rfl ?_
        refine px_goto S26 d4_48 (by decide) (pc' := 15) rfl ?_
        refine px_iloadN S26 d4_15 rfl rfl ?_
        refine px_aloadN S26 d4_16 rfl rfl rfl ?_
        refine px_alenI (v := (5 : Int32)) S26 A_b2 rfl d4_17 rfl ?_
        refine px_icmp S26 d4_18 (by decide) (pc' := 51) rfl rfl (fun (hc27 : (5 : Int32).toInt ≥ (5 : Int32).toInt) => ?_) (fun (hc27 : (5 : Int32).toInt < (5 : Int32).toInt) => by exfalso; revert hc27; decide)
        refine px_aloadN S26 d4_51 rfl rfl rfl ?_
        exact px_retA S26 d4_52 rfl rfl rfl (by decide) (by decide) (⟨b2, (-1 : Int32), (0 : Int32), (1 : Int32), (2 : Int32), (3 : Int32), rfl, g_b2, (((((((Keep.refl _ _).ext E2).wr W3 (Or.inr (Nat.le_of_eq z2.symm))).wr W8 (Or.inr (Nat.le_of_eq z2.symm))).wr W14 (Or.inr (Nat.le_of_eq z2.symm))).wr W20 (Or.inr (Nat.le_of_eq z2.symm))).wr W26 (Or.inr (Nat.le_of_eq z2.symm))), A_b2.congr (all5 rfl rfl rfl rfl rfl), rfl, rfl, Or.inr (⟨rfl, by omega⟩), Or.inr (Or.inr (⟨rfl, by omega⟩)), Or.inr (Or.inr (Or.inr (⟨rfl, by omega⟩)))⟩)
      · have hE28 : ¬ c1.toInt = c3.toInt := by omega
        have hE29 : ¬ c0.toInt = c3.toInt := by omega
        refine px_callS (as' := [(.ref t), (.ref b2), (.int (2 : Int32)), (.int c3)]) (st := [(.int (4 : Int32)), (.ref b2)]) (W := 2) S23 (c_next (n := 4) (m := 5) (k0 := 3) (nl := (4 : Int32)) (r := (0 : Int32)) hw S23.size ⟨X_t, F_t⟩ A0 A_b2 rfl (by decide) (by decide) (⟨2, by decide, by decide, (by rw [e_c2]; exact hE24), ⟨1, by decide, by decide, (by rw [e_c1]; exact hE28), ⟨0, by decide, by decide, (by rw [e_c0]; exact hE29), Or.inl ⟨by decide, rfl⟩⟩⟩⟩)) (hw _ (List.mem_of_getElem? (i := 46) rfl)) (hw _ (List.mem_of_getElem? (i := 47) rfl)) (hw _ (List.mem_of_getElem? (i := 4) rfl)) (hw _ (List.mem_of_getElem? (i := 48) rfl)) (by decide) pd_4_3 rfl rfl (by decide) rfl (by decide) (by decide) (by decide) d4_41 rfl rfl (fun T30 h30 v30 S30 q30 => ?_)
        obtain ⟨rfl, rfl⟩ := q30
        show Go _ _ _ _ _ _ _ [(.int (0 : Int32)), (.int (4 : Int32)), (.ref b2)]
        refine px_iastore (v := (0 : Int32)) S30 A_b2 g_b2 (i := 4) rfl (by decide) rfl d4_44 rfl (fun T31 h31 S31 W31 A_b2 => ?_)
        replace X_t := X_t.wr W31
        replace F_t := F_t.other W31 (Or.inl ne_t_b2)
        replace A0 := A0.other W31 ne_p_b2
        refine px_iinc (v := (1 : Int32)) (r := (5 : Int32)) S31 d4_45 rfl rfl rfl (by decide) (L' := #[.val (.ref t), .val (.ref b2), .val (.int (5 : Int32))]) rfl ?_
        refine px_goto S31 d4_48 (by decide) (pc' := 15) rfl ?_
        refine px_iloadN S31 d4_15 rfl rfl ?_
        refine px_aloadN S31 d4_16 rfl rfl rfl ?_
        refine px_alenI (v := (5 : Int32)) S31 A_b2 rfl d4_17 rfl ?_
        refine px_icmp S31 d4_18 (by decide) (pc' := 51) rfl rfl (fun (hc32 : (5 : Int32).toInt ≥ (5 : Int32).toInt) => ?_) (fun (hc32 : (5 : Int32).toInt < (5 : Int32).toInt) => by exfalso; revert hc32; decide)
        refine px_aloadN S31 d4_51 rfl rfl rfl ?_
        exact px_retA S31 d4_52 rfl rfl rfl (by decide) (by decide) (⟨b2, (-1 : Int32), (0 : Int32), (1 : Int32), (2 : Int32), (0 : Int32), rfl, g_b2, (((((((Keep.refl _ _).ext E2).wr W3 (Or.inr (Nat.le_of_eq z2.symm))).wr W8 (Or.inr (Nat.le_of_eq z2.symm))).wr W14 (Or.inr (Nat.le_of_eq z2.symm))).wr W20 (Or.inr (Nat.le_of_eq z2.symm))).wr W31 (Or.inr (Nat.le_of_eq z2.symm))), A_b2.congr (all5 rfl rfl rfl rfl rfl), rfl, rfl, Or.inr (⟨rfl, by omega⟩), Or.inr (Or.inr (⟨rfl, by omega⟩)), Or.inl (⟨rfl, by omega, by omega, by omega⟩)⟩)
    · have hE33 : ¬ c0.toInt = c2.toInt := by omega
      refine px_callS (as' := [(.ref t), (.ref b2), (.int (1 : Int32)), (.int c2)]) (st := [(.int (3 : Int32)), (.ref b2)]) (W := 2) S17 (c_next (n := 4) (m := 5) (k0 := 2) (nl := (4 : Int32)) (r := (0 : Int32)) hw S17.size ⟨X_t, F_t⟩ A0 A_b2 rfl (by decide) (by decide) (⟨1, by decide, by decide, (by rw [e_c1]; exact hE18), ⟨0, by decide, by decide, (by rw [e_c0]; exact hE33), Or.inl ⟨by decide, rfl⟩⟩⟩)) (hw _ (List.mem_of_getElem? (i := 46) rfl)) (hw _ (List.mem_of_getElem? (i := 47) rfl)) (hw _ (List.mem_of_getElem? (i := 4) rfl)) (hw _ (List.mem_of_getElem? (i := 48) rfl)) (by decide) pd_4_3 rfl rfl (by decide) rfl (by decide) (by decide) (by decide) d4_41 rfl rfl (fun T34 h34 v34 S34 q34 => ?_)
      obtain ⟨rfl, rfl⟩ := q34
      show Go _ _ _ _ _ _ _ [(.int (0 : Int32)), (.int (3 : Int32)), (.ref b2)]
      refine px_iastore (v := (0 : Int32)) S34 A_b2 g_b2 (i := 3) rfl (by decide) rfl d4_44 rfl (fun T35 h35 S35 W35 A_b2 => ?_)
      replace X_t := X_t.wr W35
      replace F_t := F_t.other W35 (Or.inl ne_t_b2)
      replace A0 := A0.other W35 ne_p_b2
      refine px_iinc (v := (1 : Int32)) (r := (4 : Int32)) S35 d4_45 rfl rfl rfl (by decide) (L' := #[.val (.ref t), .val (.ref b2), .val (.int (4 : Int32))]) rfl ?_
      refine px_goto S35 d4_48 (by decide) (pc' := 15) rfl ?_
      refine px_iloadN S35 d4_15 rfl rfl ?_
      refine px_aloadN S35 d4_16 rfl rfl rfl ?_
      refine px_alenI (v := (5 : Int32)) S35 A_b2 rfl d4_17 rfl ?_
      refine px_icmp S35 d4_18 (by decide) (pc' := 51) rfl rfl (fun (hc36 : (4 : Int32).toInt ≥ (5 : Int32).toInt) => by exfalso; revert hc36; decide) (fun (hc36 : (4 : Int32).toInt < (5 : Int32).toInt) => ?_)
      refine px_aloadN S35 d4_21 rfl rfl rfl ?_
      refine px_iloadN S35 d4_22 rfl rfl ?_
      refine px_aloadN S35 d4_23 rfl rfl rfl ?_
      refine px_aloadN S35 d4_24 rfl rfl rfl ?_
      refine px_aloadN S35 d4_25 rfl rfl rfl ?_
      refine px_aloadN S35 d4_26 rfl rfl rfl ?_
      refine px_iloadN S35 d4_27 rfl rfl ?_
      refine px_callI (Cn := "com/example/ghost_state/ghoststate/Shadows$Path") (as' := [(.int (4 : Int32))]) (st := [(.ref b2), (.ref b2), (.ref t), (.int (4 : Int32)), (.ref b2)]) (W := 5) S35 (c_parent (r := (3 : Int32)) hw S35.size (by decide)) X_t (hw _ (List.mem_of_getElem? (i := 30) rfl)) (hw _ (List.mem_of_getElem? (i := 31) rfl)) (hw _ (List.mem_of_getElem? (i := 32) rfl)) rfl (hw _ (List.mem_of_getElem? (i := 33) rfl)) (hw _ (List.mem_of_getElem? (i := 34) rfl)) (hw _ (List.mem_of_getElem? (i := 35) rfl)) (hw _ (List.mem_of_getElem? (i := 36) rfl)) (hw _ (List.mem_of_getElem? (i := 27) rfl)) (hw _ (List.mem_of_getElem? (i := 8) rfl)) (hw _ (List.mem_of_getElem? (i := 37) rfl)) (by decide) pd_4_1 rfl rfl (by decide) rfl (by decide) (by decide) (by decide) d4_28 rfl rfl (fun T37 h37 v37 S37 q37 => ?_)
      obtain ⟨rfl, rfl⟩ := q37
      show Go _ _ _ _ _ _ _ [(.int (3 : Int32)), (.ref b2), (.ref b2), (.ref t), (.int (4 : Int32)), (.ref b2)]
      refine px_iaload (v := (0 : Int32)) S37 A_b2 (i := 3) rfl (by decide) rfl d4_33 rfl ?_
      refine px_aloadN S37 d4_34 rfl rfl rfl ?_
      refine px_iloadN S37 d4_35 rfl rfl ?_
      refine px_callI (Cn := "com/example/ghost_state/ghoststate/Shadows$Path") (as' := [(.int (4 : Int32))]) (st := [(.int (0 : Int32)), (.ref b2), (.ref t), (.int (4 : Int32)), (.ref b2)]) (W := 5) S37 (c_elem (k := 3) (x := c3) hw S37.size ⟨X_t, F_t⟩ A0 (by decide) (by decide) e_c3 n_c3) X_t (hw _ (List.mem_of_getElem? (i := 38) rfl)) (hw _ (List.mem_of_getElem? (i := 39) rfl)) (hw _ (List.mem_of_getElem? (i := 40) rfl)) rfl (hw _ (List.mem_of_getElem? (i := 41) rfl)) (hw _ (List.mem_of_getElem? (i := 42) rfl)) (hw _ (List.mem_of_getElem? (i := 43) rfl)) (hw _ (List.mem_of_getElem? (i := 44) rfl)) (hw _ (List.mem_of_getElem? (i := 27) rfl)) (hw _ (List.mem_of_getElem? (i := 8) rfl)) (hw _ (List.mem_of_getElem? (i := 45) rfl)) (by decide) pd_4_2 rfl rfl (by decide) rfl (by decide) (by decide) (by decide) d4_36 rfl rfl (fun T38 h38 v38 S38 q38 => ?_)
      obtain ⟨rfl, rfl⟩ := q38
      show Go _ _ _ _ _ _ _ [(.int c3), (.int (0 : Int32)), (.ref b2), (.ref t), (.int (4 : Int32)), (.ref b2)]
      by_cases hE39 : c0.toInt = c3.toInt
      · refine px_callS (as' := [(.ref t), (.ref b2), (.int (0 : Int32)), (.int c3)]) (st := [(.int (4 : Int32)), (.ref b2)]) (W := 2) S38 (c_next (n := 4) (m := 5) (k0 := 0) (nl := (4 : Int32)) (r := (1 : Int32)) hw S38.size ⟨X_t, F_t⟩ A0 A_b2 rfl (by decide) (by decide) (Or.inr ⟨0, by decide, by decide, (by rw [e_c0]; exact hE39), by decide⟩)) (hw _ (List.mem_of_getElem? (i := 46) rfl)) (hw _ (List.mem_of_getElem? (i := 47) rfl)) (hw _ (List.mem_of_getElem? (i := 4) rfl)) (hw _ (List.mem_of_getElem? (i := 48) rfl)) (by decide) pd_4_3 rfl rfl (by decide) rfl (by decide) (by decide) (by decide) d4_41 rfl rfl (fun T40 h40 v40 S40 q40 => ?_)
        obtain ⟨rfl, rfl⟩ := q40
        show Go _ _ _ _ _ _ _ [(.int (1 : Int32)), (.int (4 : Int32)), (.ref b2)]
        refine px_iastore (v := (1 : Int32)) S40 A_b2 g_b2 (i := 4) rfl (by decide) rfl d4_44 rfl (fun T41 h41 S41 W41 A_b2 => ?_)
        replace X_t := X_t.wr W41
        replace F_t := F_t.other W41 (Or.inl ne_t_b2)
        replace A0 := A0.other W41 ne_p_b2
        refine px_iinc (v := (1 : Int32)) (r := (5 : Int32)) S41 d4_45 rfl rfl rfl (by decide) (L' := #[.val (.ref t), .val (.ref b2), .val (.int (5 : Int32))]) rfl ?_
        refine px_goto S41 d4_48 (by decide) (pc' := 15) rfl ?_
        refine px_iloadN S41 d4_15 rfl rfl ?_
        refine px_aloadN S41 d4_16 rfl rfl rfl ?_
        refine px_alenI (v := (5 : Int32)) S41 A_b2 rfl d4_17 rfl ?_
        refine px_icmp S41 d4_18 (by decide) (pc' := 51) rfl rfl (fun (hc42 : (5 : Int32).toInt ≥ (5 : Int32).toInt) => ?_) (fun (hc42 : (5 : Int32).toInt < (5 : Int32).toInt) => by exfalso; revert hc42; decide)
        refine px_aloadN S41 d4_51 rfl rfl rfl ?_
        exact px_retA S41 d4_52 rfl rfl rfl (by decide) (by decide) (⟨b2, (-1 : Int32), (0 : Int32), (1 : Int32), (0 : Int32), (1 : Int32), rfl, g_b2, (((((((Keep.refl _ _).ext E2).wr W3 (Or.inr (Nat.le_of_eq z2.symm))).wr W8 (Or.inr (Nat.le_of_eq z2.symm))).wr W14 (Or.inr (Nat.le_of_eq z2.symm))).wr W35 (Or.inr (Nat.le_of_eq z2.symm))).wr W41 (Or.inr (Nat.le_of_eq z2.symm))), A_b2.congr (all5 rfl rfl rfl rfl rfl), rfl, rfl, Or.inr (⟨rfl, by omega⟩), Or.inl (⟨rfl, by omega, by omega⟩), Or.inr (Or.inl (⟨rfl, by omega, by omega, by omega⟩))⟩)
      · refine px_callS (as' := [(.ref t), (.ref b2), (.int (0 : Int32)), (.int c3)]) (st := [(.int (4 : Int32)), (.ref b2)]) (W := 2) S38 (c_next (n := 4) (m := 5) (k0 := 1) (nl := (4 : Int32)) (r := (0 : Int32)) hw S38.size ⟨X_t, F_t⟩ A0 A_b2 rfl (by decide) (by decide) (⟨0, by decide, by decide, (by rw [e_c0]; exact hE39), Or.inl ⟨by decide, rfl⟩⟩)) (hw _ (List.mem_of_getElem? (i := 46) rfl)) (hw _ (List.mem_of_getElem? (i := 47) rfl)) (hw _ (List.mem_of_getElem? (i := 4) rfl)) (hw _ (List.mem_of_getElem? (i := 48) rfl)) (by decide) pd_4_3 rfl rfl (by decide) rfl (by decide) (by decide) (by decide) d4_41 rfl rfl (fun T43 h43 v43 S43 q43 => ?_)
        obtain ⟨rfl, rfl⟩ := q43
        show Go _ _ _ _ _ _ _ [(.int (0 : Int32)), (.int (4 : Int32)), (.ref b2)]
        refine px_iastore (v := (0 : Int32)) S43 A_b2 g_b2 (i := 4) rfl (by decide) rfl d4_44 rfl (fun T44 h44 S44 W44 A_b2 => ?_)
        replace X_t := X_t.wr W44
        replace F_t := F_t.other W44 (Or.inl ne_t_b2)
        replace A0 := A0.other W44 ne_p_b2
        refine px_iinc (v := (1 : Int32)) (r := (5 : Int32)) S44 d4_45 rfl rfl rfl (by decide) (L' := #[.val (.ref t), .val (.ref b2), .val (.int (5 : Int32))]) rfl ?_
        refine px_goto S44 d4_48 (by decide) (pc' := 15) rfl ?_
        refine px_iloadN S44 d4_15 rfl rfl ?_
        refine px_aloadN S44 d4_16 rfl rfl rfl ?_
        refine px_alenI (v := (5 : Int32)) S44 A_b2 rfl d4_17 rfl ?_
        refine px_icmp S44 d4_18 (by decide) (pc' := 51) rfl rfl (fun (hc45 : (5 : Int32).toInt ≥ (5 : Int32).toInt) => ?_) (fun (hc45 : (5 : Int32).toInt < (5 : Int32).toInt) => by exfalso; revert hc45; decide)
        refine px_aloadN S44 d4_51 rfl rfl rfl ?_
        exact px_retA S44 d4_52 rfl rfl rfl (by decide) (by decide) (⟨b2, (-1 : Int32), (0 : Int32), (1 : Int32), (0 : Int32), (0 : Int32), rfl, g_b2, (((((((Keep.refl _ _).ext E2).wr W3 (Or.inr (Nat.le_of_eq z2.symm))).wr W8 (Or.inr (Nat.le_of_eq z2.symm))).wr W14 (Or.inr (Nat.le_of_eq z2.symm))).wr W35 (Or.inr (Nat.le_of_eq z2.symm))).wr W44 (Or.inr (Nat.le_of_eq z2.symm))), A_b2.congr (all5 rfl rfl rfl rfl rfl), rfl, rfl, Or.inr (⟨rfl, by omega⟩), Or.inl (⟨rfl, by omega, by omega⟩), Or.inl (⟨rfl, by omega, by omega, by omega⟩)⟩)
  · refine px_callS (as' := [(.ref t), (.ref b2), (.int (0 : Int32)), (.int c1)]) (st := [(.int (2 : Int32)), (.ref b2)]) (W := 2) S11 (c_next (n := 4) (m := 5) (k0 := 1) (nl := (4 : Int32)) (r := (0 : Int32)) hw S11.size ⟨X_t, F_t⟩ A0 A_b2 rfl (by decide) (by decide) (⟨0, by decide, by decide, (by rw [e_c0]; exact hE12), Or.inl ⟨by decide, rfl⟩⟩)) (hw _ (List.mem_of_getElem? (i := 46) rfl)) (hw _ (List.mem_of_getElem? (i := 47) rfl)) (hw _ (List.mem_of_getElem? (i := 4) rfl)) (hw _ (List.mem_of_getElem? (i := 48) rfl)) (by decide) pd_4_3 rfl rfl (by decide) rfl (by decide) (by decide) (by decide) d4_41 rfl rfl (fun T46 h46 v46 S46 q46 => ?_)
    obtain ⟨rfl, rfl⟩ := q46
    show Go _ _ _ _ _ _ _ [(.int (0 : Int32)), (.int (2 : Int32)), (.ref b2)]
    refine px_iastore (v := (0 : Int32)) S46 A_b2 g_b2 (i := 2) rfl (by decide) rfl d4_44 rfl (fun T47 h47 S47 W47 A_b2 => ?_)
    replace X_t := X_t.wr W47
    replace F_t := F_t.other W47 (Or.inl ne_t_b2)
    replace A0 := A0.other W47 ne_p_b2
    refine px_iinc (v := (1 : Int32)) (r := (3 : Int32)) S47 d4_45 rfl rfl rfl (by decide) (L' := #[.val (.ref t), .val (.ref b2), .val (.int (3 : Int32))]) rfl ?_
    refine px_goto S47 d4_48 (by decide) (pc' := 15) rfl ?_
    refine px_iloadN S47 d4_15 rfl rfl ?_
    refine px_aloadN S47 d4_16 rfl rfl rfl ?_
    refine px_alenI (v := (5 : Int32)) S47 A_b2 rfl d4_17 rfl ?_
    refine px_icmp S47 d4_18 (by decide) (pc' := 51) rfl rfl (fun (hc48 : (3 : Int32).toInt ≥ (5 : Int32).toInt) => by exfalso; revert hc48; decide) (fun (hc48 : (3 : Int32).toInt < (5 : Int32).toInt) => ?_)
    refine px_aloadN S47 d4_21 rfl rfl rfl ?_
    refine px_iloadN S47 d4_22 rfl rfl ?_
    refine px_aloadN S47 d4_23 rfl rfl rfl ?_
    refine px_aloadN S47 d4_24 rfl rfl rfl ?_
    refine px_aloadN S47 d4_25 rfl rfl rfl ?_
    refine px_aloadN S47 d4_26 rfl rfl rfl ?_
    refine px_iloadN S47 d4_27 rfl rfl ?_
    refine px_callI (Cn := "com/example/ghost_state/ghoststate/Shadows$Path") (as' := [(.int (3 : Int32))]) (st := [(.ref b2), (.ref b2), (.ref t), (.int (3 : Int32)), (.ref b2)]) (W := 5) S47 (c_parent (r := (2 : Int32)) hw S47.size (by decide)) X_t (hw _ (List.mem_of_getElem? (i := 30) rfl)) (hw _ (List.mem_of_getElem? (i := 31) rfl)) (hw _ (List.mem_of_getElem? (i := 32) rfl)) rfl (hw _ (List.mem_of_getElem? (i := 33) rfl)) (hw _ (List.mem_of_getElem? (i := 34) rfl)) (hw _ (List.mem_of_getElem? (i := 35) rfl)) (hw _ (List.mem_of_getElem? (i := 36) rfl)) (hw _ (List.mem_of_getElem? (i := 27) rfl)) (hw _ (List.mem_of_getElem? (i := 8) rfl)) (hw _ (List.mem_of_getElem? (i := 37) rfl)) (by decide) pd_4_1 rfl rfl (by decide) rfl (by decide) (by decide) (by decide) d4_28 rfl rfl (fun T49 h49 v49 S49 q49 => ?_)
    obtain ⟨rfl, rfl⟩ := q49
    show Go _ _ _ _ _ _ _ [(.int (2 : Int32)), (.ref b2), (.ref b2), (.ref t), (.int (3 : Int32)), (.ref b2)]
    refine px_iaload (v := (0 : Int32)) S49 A_b2 (i := 2) rfl (by decide) rfl d4_33 rfl ?_
    refine px_aloadN S49 d4_34 rfl rfl rfl ?_
    refine px_iloadN S49 d4_35 rfl rfl ?_
    refine px_callI (Cn := "com/example/ghost_state/ghoststate/Shadows$Path") (as' := [(.int (3 : Int32))]) (st := [(.int (0 : Int32)), (.ref b2), (.ref t), (.int (3 : Int32)), (.ref b2)]) (W := 5) S49 (c_elem (k := 2) (x := c2) hw S49.size ⟨X_t, F_t⟩ A0 (by decide) (by decide) e_c2 n_c2) X_t (hw _ (List.mem_of_getElem? (i := 38) rfl)) (hw _ (List.mem_of_getElem? (i := 39) rfl)) (hw _ (List.mem_of_getElem? (i := 40) rfl)) rfl (hw _ (List.mem_of_getElem? (i := 41) rfl)) (hw _ (List.mem_of_getElem? (i := 42) rfl)) (hw _ (List.mem_of_getElem? (i := 43) rfl)) (hw _ (List.mem_of_getElem? (i := 44) rfl)) (hw _ (List.mem_of_getElem? (i := 27) rfl)) (hw _ (List.mem_of_getElem? (i := 8) rfl)) (hw _ (List.mem_of_getElem? (i := 45) rfl)) (by decide) pd_4_2 rfl rfl (by decide) rfl (by decide) (by decide) (by decide) d4_36 rfl rfl (fun T50 h50 v50 S50 q50 => ?_)
    obtain ⟨rfl, rfl⟩ := q50
    show Go _ _ _ _ _ _ _ [(.int c2), (.int (0 : Int32)), (.ref b2), (.ref t), (.int (3 : Int32)), (.ref b2)]
    by_cases hE51 : c0.toInt = c2.toInt
    · refine px_callS (as' := [(.ref t), (.ref b2), (.int (0 : Int32)), (.int c2)]) (st := [(.int (3 : Int32)), (.ref b2)]) (W := 2) S50 (c_next (n := 4) (m := 5) (k0 := 0) (nl := (4 : Int32)) (r := (1 : Int32)) hw S50.size ⟨X_t, F_t⟩ A0 A_b2 rfl (by decide) (by decide) (Or.inr ⟨0, by decide, by decide, (by rw [e_c0]; exact hE51), by decide⟩)) (hw _ (List.mem_of_getElem? (i := 46) rfl)) (hw _ (List.mem_of_getElem? (i := 47) rfl)) (hw _ (List.mem_of_getElem? (i := 4) rfl)) (hw _ (List.mem_of_getElem? (i := 48) rfl)) (by decide) pd_4_3 rfl rfl (by decide) rfl (by decide) (by decide) (by decide) d4_41 rfl rfl (fun T52 h52 v52 S52 q52 => ?_)
      obtain ⟨rfl, rfl⟩ := q52
      show Go _ _ _ _ _ _ _ [(.int (1 : Int32)), (.int (3 : Int32)), (.ref b2)]
      refine px_iastore (v := (1 : Int32)) S52 A_b2 g_b2 (i := 3) rfl (by decide) rfl d4_44 rfl (fun T53 h53 S53 W53 A_b2 => ?_)
      replace X_t := X_t.wr W53
      replace F_t := F_t.other W53 (Or.inl ne_t_b2)
      replace A0 := A0.other W53 ne_p_b2
      refine px_iinc (v := (1 : Int32)) (r := (4 : Int32)) S53 d4_45 rfl rfl rfl (by decide) (L' := #[.val (.ref t), .val (.ref b2), .val (.int (4 : Int32))]) rfl ?_
      refine px_goto S53 d4_48 (by decide) (pc' := 15) rfl ?_
      refine px_iloadN S53 d4_15 rfl rfl ?_
      refine px_aloadN S53 d4_16 rfl rfl rfl ?_
      refine px_alenI (v := (5 : Int32)) S53 A_b2 rfl d4_17 rfl ?_
      refine px_icmp S53 d4_18 (by decide) (pc' := 51) rfl rfl (fun (hc54 : (4 : Int32).toInt ≥ (5 : Int32).toInt) => by exfalso; revert hc54; decide) (fun (hc54 : (4 : Int32).toInt < (5 : Int32).toInt) => ?_)
      refine px_aloadN S53 d4_21 rfl rfl rfl ?_
      refine px_iloadN S53 d4_22 rfl rfl ?_
      refine px_aloadN S53 d4_23 rfl rfl rfl ?_
      refine px_aloadN S53 d4_24 rfl rfl rfl ?_
      refine px_aloadN S53 d4_25 rfl rfl rfl ?_
      refine px_aloadN S53 d4_26 rfl rfl rfl ?_
      refine px_iloadN S53 d4_27 rfl rfl ?_
      refine px_callI (Cn := "com/example/ghost_state/ghoststate/Shadows$Path") (as' := [(.int (4 : Int32))]) (st := [(.ref b2), (.ref b2), (.ref t), (.int (4 : Int32)), (.ref b2)]) (W := 5) S53 (c_parent (r := (3 : Int32)) hw S53.size (by decide)) X_t (hw _ (List.mem_of_getElem? (i := 30) rfl)) (hw _ (List.mem_of_getElem? (i := 31) rfl)) (hw _ (List.mem_of_getElem? (i := 32) rfl)) rfl (hw _ (List.mem_of_getElem? (i := 33) rfl)) (hw _ (List.mem_of_getElem? (i := 34) rfl)) (hw _ (List.mem_of_getElem? (i := 35) rfl)) (hw _ (List.mem_of_getElem? (i := 36) rfl)) (hw _ (List.mem_of_getElem? (i := 27) rfl)) (hw _ (List.mem_of_getElem? (i := 8) rfl)) (hw _ (List.mem_of_getElem? (i := 37) rfl)) (by decide) pd_4_1 rfl rfl (by decide) rfl (by decide) (by decide) (by decide) d4_28 rfl rfl (fun T55 h55 v55 S55 q55 => ?_)
      obtain ⟨rfl, rfl⟩ := q55
      show Go _ _ _ _ _ _ _ [(.int (3 : Int32)), (.ref b2), (.ref b2), (.ref t), (.int (4 : Int32)), (.ref b2)]
      refine px_iaload (v := (1 : Int32)) S55 A_b2 (i := 3) rfl (by decide) rfl d4_33 rfl ?_
      refine px_aloadN S55 d4_34 rfl rfl rfl ?_
      refine px_iloadN S55 d4_35 rfl rfl ?_
      refine px_callI (Cn := "com/example/ghost_state/ghoststate/Shadows$Path") (as' := [(.int (4 : Int32))]) (st := [(.int (1 : Int32)), (.ref b2), (.ref t), (.int (4 : Int32)), (.ref b2)]) (W := 5) S55 (c_elem (k := 3) (x := c3) hw S55.size ⟨X_t, F_t⟩ A0 (by decide) (by decide) e_c3 n_c3) X_t (hw _ (List.mem_of_getElem? (i := 38) rfl)) (hw _ (List.mem_of_getElem? (i := 39) rfl)) (hw _ (List.mem_of_getElem? (i := 40) rfl)) rfl (hw _ (List.mem_of_getElem? (i := 41) rfl)) (hw _ (List.mem_of_getElem? (i := 42) rfl)) (hw _ (List.mem_of_getElem? (i := 43) rfl)) (hw _ (List.mem_of_getElem? (i := 44) rfl)) (hw _ (List.mem_of_getElem? (i := 27) rfl)) (hw _ (List.mem_of_getElem? (i := 8) rfl)) (hw _ (List.mem_of_getElem? (i := 45) rfl)) (by decide) pd_4_2 rfl rfl (by decide) rfl (by decide) (by decide) (by decide) d4_36 rfl rfl (fun T56 h56 v56 S56 q56 => ?_)
      obtain ⟨rfl, rfl⟩ := q56
      show Go _ _ _ _ _ _ _ [(.int c3), (.int (1 : Int32)), (.ref b2), (.ref t), (.int (4 : Int32)), (.ref b2)]
      by_cases hE57 : c1.toInt = c3.toInt
      · refine px_callS (as' := [(.ref t), (.ref b2), (.int (1 : Int32)), (.int c3)]) (st := [(.int (4 : Int32)), (.ref b2)]) (W := 2) S56 (c_next (n := 4) (m := 5) (k0 := 0) (nl := (4 : Int32)) (r := (2 : Int32)) hw S56.size ⟨X_t, F_t⟩ A0 A_b2 rfl (by decide) (by decide) (Or.inr ⟨1, by decide, by decide, (by rw [e_c1]; exact hE57), by decide⟩)) (hw _ (List.mem_of_getElem? (i := 46) rfl)) (hw _ (List.mem_of_getElem? (i := 47) rfl)) (hw _ (List.mem_of_getElem? (i := 4) rfl)) (hw _ (List.mem_of_getElem? (i := 48) rfl)) (by decide) pd_4_3 rfl rfl (by decide) rfl (by decide) (by decide) (by decide) d4_41 rfl rfl (fun T58 h58 v58 S58 q58 => ?_)
        obtain ⟨rfl, rfl⟩ := q58
        show Go _ _ _ _ _ _ _ [(.int (2 : Int32)), (.int (4 : Int32)), (.ref b2)]
        refine px_iastore (v := (2 : Int32)) S58 A_b2 g_b2 (i := 4) rfl (by decide) rfl d4_44 rfl (fun T59 h59 S59 W59 A_b2 => ?_)
        replace X_t := X_t.wr W59
        replace F_t := F_t.other W59 (Or.inl ne_t_b2)
        replace A0 := A0.other W59 ne_p_b2
        refine px_iinc (v := (1 : Int32)) (r := (5 : Int32)) S59 d4_45 rfl rfl rfl (by decide) (L' := #[.val (.ref t), .val (.ref b2), .val (.int (5 : Int32))]) rfl ?_
        refine px_goto S59 d4_48 (by decide) (pc' := 15) rfl ?_
        refine px_iloadN S59 d4_15 rfl rfl ?_
        refine px_aloadN S59 d4_16 rfl rfl rfl ?_
        refine px_alenI (v := (5 : Int32)) S59 A_b2 rfl d4_17 rfl ?_
        refine px_icmp S59 d4_18 (by decide) (pc' := 51) rfl rfl (fun (hc60 : (5 : Int32).toInt ≥ (5 : Int32).toInt) => ?_) (fun (hc60 : (5 : Int32).toInt < (5 : Int32).toInt) => by exfalso; revert hc60; decide)
        refine px_aloadN S59 d4_51 rfl rfl rfl ?_
        exact px_retA S59 d4_52 rfl rfl rfl (by decide) (by decide) (⟨b2, (-1 : Int32), (0 : Int32), (0 : Int32), (1 : Int32), (2 : Int32), rfl, g_b2, (((((((Keep.refl _ _).ext E2).wr W3 (Or.inr (Nat.le_of_eq z2.symm))).wr W8 (Or.inr (Nat.le_of_eq z2.symm))).wr W47 (Or.inr (Nat.le_of_eq z2.symm))).wr W53 (Or.inr (Nat.le_of_eq z2.symm))).wr W59 (Or.inr (Nat.le_of_eq z2.symm))), A_b2.congr (all5 rfl rfl rfl rfl rfl), rfl, rfl, Or.inl (⟨rfl, by omega⟩), Or.inr (Or.inl (⟨rfl, by omega, by omega⟩)), Or.inr (Or.inr (Or.inl (⟨rfl, by omega, by omega⟩)))⟩)
      · by_cases hE61 : c0.toInt = c3.toInt
        · refine px_callS (as' := [(.ref t), (.ref b2), (.int (1 : Int32)), (.int c3)]) (st := [(.int (4 : Int32)), (.ref b2)]) (W := 2) S56 (c_next (n := 4) (m := 5) (k0 := 1) (nl := (4 : Int32)) (r := (1 : Int32)) hw S56.size ⟨X_t, F_t⟩ A0 A_b2 rfl (by decide) (by decide) (⟨1, by decide, by decide, (by rw [e_c1]; exact hE57), Or.inr ⟨0, by decide, by decide, (by rw [e_c0]; exact hE61), by decide⟩⟩)) (hw _ (List.mem_of_getElem? (i := 46) rfl)) (hw _ (List.mem_of_getElem? (i := 47) rfl)) (hw _ (List.mem_of_getElem? (i := 4) rfl)) (hw _ (List.mem_of_getElem? (i := 48) rfl)) (by decide) pd_4_3 rfl rfl (by decide) rfl (by decide) (by decide) (by decide) d4_41 rfl rfl (fun T62 h62 v62 S62 q62 => ?_)
          obtain ⟨rfl, rfl⟩ := q62
          show Go _ _ _ _ _ _ _ [(.int (1 : Int32)), (.int (4 : Int32)), (.ref b2)]
          refine px_iastore (v := (1 : Int32)) S62 A_b2 g_b2 (i := 4) rfl (by decide) rfl d4_44 rfl (fun T63 h63 S63 W63 A_b2 => ?_)
          replace X_t := X_t.wr W63
          replace F_t := F_t.other W63 (Or.inl ne_t_b2)
          replace A0 := A0.other W63 ne_p_b2
          refine px_iinc (v := (1 : Int32)) (r := (5 : Int32)) S63 d4_45 rfl rfl rfl (by decide) (L' := #[.val (.ref t), .val (.ref b2), .val (.int (5 : Int32))]) rfl ?_
          refine px_goto S63 d4_48 (by decide) (pc' := 15) rfl ?_
          refine px_iloadN S63 d4_15 rfl rfl ?_
          refine px_aloadN S63 d4_16 rfl rfl rfl ?_
          refine px_alenI (v := (5 : Int32)) S63 A_b2 rfl d4_17 rfl ?_
          refine px_icmp S63 d4_18 (by decide) (pc' := 51) rfl rfl (fun (hc64 : (5 : Int32).toInt ≥ (5 : Int32).toInt) => ?_) (fun (hc64 : (5 : Int32).toInt < (5 : Int32).toInt) => by exfalso; revert hc64; decide)
          refine px_aloadN S63 d4_51 rfl rfl rfl ?_
          exact px_retA S63 d4_52 rfl rfl rfl (by decide) (by decide) (⟨b2, (-1 : Int32), (0 : Int32), (0 : Int32), (1 : Int32), (1 : Int32), rfl, g_b2, (((((((Keep.refl _ _).ext E2).wr W3 (Or.inr (Nat.le_of_eq z2.symm))).wr W8 (Or.inr (Nat.le_of_eq z2.symm))).wr W47 (Or.inr (Nat.le_of_eq z2.symm))).wr W53 (Or.inr (Nat.le_of_eq z2.symm))).wr W63 (Or.inr (Nat.le_of_eq z2.symm))), A_b2.congr (all5 rfl rfl rfl rfl rfl), rfl, rfl, Or.inl (⟨rfl, by omega⟩), Or.inr (Or.inl (⟨rfl, by omega, by omega⟩)), Or.inr (Or.inl (⟨rfl, by omega, by omega, by omega⟩))⟩)
        · refine px_callS (as' := [(.ref t), (.ref b2), (.int (1 : Int32)), (.int c3)]) (st := [(.int (4 : Int32)), (.ref b2)]) (W := 2) S56 (c_next (n := 4) (m := 5) (k0 := 2) (nl := (4 : Int32)) (r := (0 : Int32)) hw S56.size ⟨X_t, F_t⟩ A0 A_b2 rfl (by decide) (by decide) (⟨1, by decide, by decide, (by rw [e_c1]; exact hE57), ⟨0, by decide, by decide, (by rw [e_c0]; exact hE61), Or.inl ⟨by decide, rfl⟩⟩⟩)) (hw _ (List.mem_of_getElem? (i := 46) rfl)) (hw _ (List.mem_of_getElem? (i := 47) rfl)) (hw _ (List.mem_of_getElem? (i := 4) rfl)) (hw _ (List.mem_of_getElem? (i := 48) rfl)) (by decide) pd_4_3 rfl rfl (by decide) rfl (by decide) (by decide) (by decide) d4_41 rfl rfl (fun T65 h65 v65 S65 q65 => ?_)
          obtain ⟨rfl, rfl⟩ := q65
          show Go _ _ _ _ _ _ _ [(.int (0 : Int32)), (.int (4 : Int32)), (.ref b2)]
          refine px_iastore (v := (0 : Int32)) S65 A_b2 g_b2 (i := 4) rfl (by decide) rfl d4_44 rfl (fun T66 h66 S66 W66 A_b2 => ?_)
          replace X_t := X_t.wr W66
          replace F_t := F_t.other W66 (Or.inl ne_t_b2)
          replace A0 := A0.other W66 ne_p_b2
          refine px_iinc (v := (1 : Int32)) (r := (5 : Int32)) S66 d4_45 rfl rfl rfl (by decide) (L' := #[.val (.ref t), .val (.ref b2), .val (.int (5 : Int32))]) rfl ?_
          refine px_goto S66 d4_48 (by decide) (pc' := 15) rfl ?_
          refine px_iloadN S66 d4_15 rfl rfl ?_
          refine px_aloadN S66 d4_16 rfl rfl rfl ?_
          refine px_alenI (v := (5 : Int32)) S66 A_b2 rfl d4_17 rfl ?_
          refine px_icmp S66 d4_18 (by decide) (pc' := 51) rfl rfl (fun (hc67 : (5 : Int32).toInt ≥ (5 : Int32).toInt) => ?_) (fun (hc67 : (5 : Int32).toInt < (5 : Int32).toInt) => by exfalso; revert hc67; decide)
          refine px_aloadN S66 d4_51 rfl rfl rfl ?_
          exact px_retA S66 d4_52 rfl rfl rfl (by decide) (by decide) (⟨b2, (-1 : Int32), (0 : Int32), (0 : Int32), (1 : Int32), (0 : Int32), rfl, g_b2, (((((((Keep.refl _ _).ext E2).wr W3 (Or.inr (Nat.le_of_eq z2.symm))).wr W8 (Or.inr (Nat.le_of_eq z2.symm))).wr W47 (Or.inr (Nat.le_of_eq z2.symm))).wr W53 (Or.inr (Nat.le_of_eq z2.symm))).wr W66 (Or.inr (Nat.le_of_eq z2.symm))), A_b2.congr (all5 rfl rfl rfl rfl rfl), rfl, rfl, Or.inl (⟨rfl, by omega⟩), Or.inr (Or.inl (⟨rfl, by omega, by omega⟩)), Or.inl (⟨rfl, by omega, by omega, by omega⟩)⟩)
    · refine px_callS (as' := [(.ref t), (.ref b2), (.int (0 : Int32)), (.int c2)]) (st := [(.int (3 : Int32)), (.ref b2)]) (W := 2) S50 (c_next (n := 4) (m := 5) (k0 := 1) (nl := (4 : Int32)) (r := (0 : Int32)) hw S50.size ⟨X_t, F_t⟩ A0 A_b2 rfl (by decide) (by decide) (⟨0, by decide, by decide, (by rw [e_c0]; exact hE51), Or.inl ⟨by decide, rfl⟩⟩)) (hw _ (List.mem_of_getElem? (i := 46) rfl)) (hw _ (List.mem_of_getElem? (i := 47) rfl)) (hw _ (List.mem_of_getElem? (i := 4) rfl)) (hw _ (List.mem_of_getElem? (i := 48) rfl)) (by decide) pd_4_3 rfl rfl (by decide) rfl (by decide) (by decide) (by decide) d4_41 rfl rfl (fun T68 h68 v68 S68 q68 => ?_)
      obtain ⟨rfl, rfl⟩ := q68
      show Go _ _ _ _ _ _ _ [(.int (0 : Int32)), (.int (3 : Int32)), (.ref b2)]
      refine px_iastore (v := (0 : Int32)) S68 A_b2 g_b2 (i := 3) rfl (by decide) rfl d4_44 rfl (fun T69 h69 S69 W69 A_b2 => ?_)
      replace X_t := X_t.wr W69
      replace F_t := F_t.other W69 (Or.inl ne_t_b2)
      replace A0 := A0.other W69 ne_p_b2
      refine px_iinc (v := (1 : Int32)) (r := (4 : Int32)) S69 d4_45 rfl rfl rfl (by decide) (L' := #[.val (.ref t), .val (.ref b2), .val (.int (4 : Int32))]) rfl ?_
      refine px_goto S69 d4_48 (by decide) (pc' := 15) rfl ?_
      refine px_iloadN S69 d4_15 rfl rfl ?_
      refine px_aloadN S69 d4_16 rfl rfl rfl ?_
      refine px_alenI (v := (5 : Int32)) S69 A_b2 rfl d4_17 rfl ?_
      refine px_icmp S69 d4_18 (by decide) (pc' := 51) rfl rfl (fun (hc70 : (4 : Int32).toInt ≥ (5 : Int32).toInt) => by exfalso; revert hc70; decide) (fun (hc70 : (4 : Int32).toInt < (5 : Int32).toInt) => ?_)
      refine px_aloadN S69 d4_21 rfl rfl rfl ?_
      refine px_iloadN S69 d4_22 rfl rfl ?_
      refine px_aloadN S69 d4_23 rfl rfl rfl ?_
      refine px_aloadN S69 d4_24 rfl rfl rfl ?_
      refine px_aloadN S69 d4_25 rfl rfl rfl ?_
      refine px_aloadN S69 d4_26 rfl rfl rfl ?_
      refine px_iloadN S69 d4_27 rfl rfl ?_
      refine px_callI (Cn := "com/example/ghost_state/ghoststate/Shadows$Path") (as' := [(.int (4 : Int32))]) (st := [(.ref b2), (.ref b2), (.ref t), (.int (4 : Int32)), (.ref b2)]) (W := 5) S69 (c_parent (r := (3 : Int32)) hw S69.size (by decide)) X_t (hw _ (List.mem_of_getElem? (i := 30) rfl)) (hw _ (List.mem_of_getElem? (i := 31) rfl)) (hw _ (List.mem_of_getElem? (i := 32) rfl)) rfl (hw _ (List.mem_of_getElem? (i := 33) rfl)) (hw _ (List.mem_of_getElem? (i := 34) rfl)) (hw _ (List.mem_of_getElem? (i := 35) rfl)) (hw _ (List.mem_of_getElem? (i := 36) rfl)) (hw _ (List.mem_of_getElem? (i := 27) rfl)) (hw _ (List.mem_of_getElem? (i := 8) rfl)) (hw _ (List.mem_of_getElem? (i := 37) rfl)) (by decide) pd_4_1 rfl rfl (by decide) rfl (by decide) (by decide) (by decide) d4_28 rfl rfl (fun T71 h71 v71 S71 q71 => ?_)
      obtain ⟨rfl, rfl⟩ := q71
      show Go _ _ _ _ _ _ _ [(.int (3 : Int32)), (.ref b2), (.ref b2), (.ref t), (.int (4 : Int32)), (.ref b2)]
      refine px_iaload (v := (0 : Int32)) S71 A_b2 (i := 3) rfl (by decide) rfl d4_33 rfl ?_
      refine px_aloadN S71 d4_34 rfl rfl rfl ?_
      refine px_iloadN S71 d4_35 rfl rfl ?_
      refine px_callI (Cn := "com/example/ghost_state/ghoststate/Shadows$Path") (as' := [(.int (4 : Int32))]) (st := [(.int (0 : Int32)), (.ref b2), (.ref t), (.int (4 : Int32)), (.ref b2)]) (W := 5) S71 (c_elem (k := 3) (x := c3) hw S71.size ⟨X_t, F_t⟩ A0 (by decide) (by decide) e_c3 n_c3) X_t (hw _ (List.mem_of_getElem? (i := 38) rfl)) (hw _ (List.mem_of_getElem? (i := 39) rfl)) (hw _ (List.mem_of_getElem? (i := 40) rfl)) rfl (hw _ (List.mem_of_getElem? (i := 41) rfl)) (hw _ (List.mem_of_getElem? (i := 42) rfl)) (hw _ (List.mem_of_getElem? (i := 43) rfl)) (hw _ (List.mem_of_getElem? (i := 44) rfl)) (hw _ (List.mem_of_getElem? (i := 27) rfl)) (hw _ (List.mem_of_getElem? (i := 8) rfl)) (hw _ (List.mem_of_getElem? (i := 45) rfl)) (by decide) pd_4_2 rfl rfl (by decide) rfl (by decide) (by decide) (by decide) d4_36 rfl rfl (fun T72 h72 v72 S72 q72 => ?_)
      obtain ⟨rfl, rfl⟩ := q72
      show Go _ _ _ _ _ _ _ [(.int c3), (.int (0 : Int32)), (.ref b2), (.ref t), (.int (4 : Int32)), (.ref b2)]
      by_cases hE73 : c0.toInt = c3.toInt
      · refine px_callS (as' := [(.ref t), (.ref b2), (.int (0 : Int32)), (.int c3)]) (st := [(.int (4 : Int32)), (.ref b2)]) (W := 2) S72 (c_next (n := 4) (m := 5) (k0 := 0) (nl := (4 : Int32)) (r := (1 : Int32)) hw S72.size ⟨X_t, F_t⟩ A0 A_b2 rfl (by decide) (by decide) (Or.inr ⟨0, by decide, by decide, (by rw [e_c0]; exact hE73), by decide⟩)) (hw _ (List.mem_of_getElem? (i := 46) rfl)) (hw _ (List.mem_of_getElem? (i := 47) rfl)) (hw _ (List.mem_of_getElem? (i := 4) rfl)) (hw _ (List.mem_of_getElem? (i := 48) rfl)) (by decide) pd_4_3 rfl rfl (by decide) rfl (by decide) (by decide) (by decide) d4_41 rfl rfl (fun T74 h74 v74 S74 q74 => ?_)
        obtain ⟨rfl, rfl⟩ := q74
        show Go _ _ _ _ _ _ _ [(.int (1 : Int32)), (.int (4 : Int32)), (.ref b2)]
        refine px_iastore (v := (1 : Int32)) S74 A_b2 g_b2 (i := 4) rfl (by decide) rfl d4_44 rfl (fun T75 h75 S75 W75 A_b2 => ?_)
        replace X_t := X_t.wr W75
        replace F_t := F_t.other W75 (Or.inl ne_t_b2)
        replace A0 := A0.other W75 ne_p_b2
        refine px_iinc (v := (1 : Int32)) (r := (5 : Int32)) S75 d4_45 rfl rfl rfl (by decide) (L' := #[.val (.ref t), .val (.ref b2), .val (.int (5 : Int32))]) rfl ?_
        refine px_goto S75 d4_48 (by decide) (pc' := 15) rfl ?_
        refine px_iloadN S75 d4_15 rfl rfl ?_
        refine px_aloadN S75 d4_16 rfl rfl rfl ?_
        refine px_alenI (v := (5 : Int32)) S75 A_b2 rfl d4_17 rfl ?_
        refine px_icmp S75 d4_18 (by decide) (pc' := 51) rfl rfl (fun (hc76 : (5 : Int32).toInt ≥ (5 : Int32).toInt) => ?_) (fun (hc76 : (5 : Int32).toInt < (5 : Int32).toInt) => by exfalso; revert hc76; decide)
        refine px_aloadN S75 d4_51 rfl rfl rfl ?_
        exact px_retA S75 d4_52 rfl rfl rfl (by decide) (by decide) (⟨b2, (-1 : Int32), (0 : Int32), (0 : Int32), (0 : Int32), (1 : Int32), rfl, g_b2, (((((((Keep.refl _ _).ext E2).wr W3 (Or.inr (Nat.le_of_eq z2.symm))).wr W8 (Or.inr (Nat.le_of_eq z2.symm))).wr W47 (Or.inr (Nat.le_of_eq z2.symm))).wr W69 (Or.inr (Nat.le_of_eq z2.symm))).wr W75 (Or.inr (Nat.le_of_eq z2.symm))), A_b2.congr (all5 rfl rfl rfl rfl rfl), rfl, rfl, Or.inl (⟨rfl, by omega⟩), Or.inl (⟨rfl, by omega, by omega⟩), Or.inr (Or.inl (⟨rfl, by omega, by omega, by omega⟩))⟩)
      · refine px_callS (as' := [(.ref t), (.ref b2), (.int (0 : Int32)), (.int c3)]) (st := [(.int (4 : Int32)), (.ref b2)]) (W := 2) S72 (c_next (n := 4) (m := 5) (k0 := 1) (nl := (4 : Int32)) (r := (0 : Int32)) hw S72.size ⟨X_t, F_t⟩ A0 A_b2 rfl (by decide) (by decide) (⟨0, by decide, by decide, (by rw [e_c0]; exact hE73), Or.inl ⟨by decide, rfl⟩⟩)) (hw _ (List.mem_of_getElem? (i := 46) rfl)) (hw _ (List.mem_of_getElem? (i := 47) rfl)) (hw _ (List.mem_of_getElem? (i := 4) rfl)) (hw _ (List.mem_of_getElem? (i := 48) rfl)) (by decide) pd_4_3 rfl rfl (by decide) rfl (by decide) (by decide) (by decide) d4_41 rfl rfl (fun T77 h77 v77 S77 q77 => ?_)
        obtain ⟨rfl, rfl⟩ := q77
        show Go _ _ _ _ _ _ _ [(.int (0 : Int32)), (.int (4 : Int32)), (.ref b2)]
        refine px_iastore (v := (0 : Int32)) S77 A_b2 g_b2 (i := 4) rfl (by decide) rfl d4_44 rfl (fun T78 h78 S78 W78 A_b2 => ?_)
        replace X_t := X_t.wr W78
        replace F_t := F_t.other W78 (Or.inl ne_t_b2)
        replace A0 := A0.other W78 ne_p_b2
        refine px_iinc (v := (1 : Int32)) (r := (5 : Int32)) S78 d4_45 rfl rfl rfl (by decide) (L' := #[.val (.ref t), .val (.ref b2), .val (.int (5 : Int32))]) rfl ?_
        refine px_goto S78 d4_48 (by decide) (pc' := 15) rfl ?_
        refine px_iloadN S78 d4_15 rfl rfl ?_
        refine px_aloadN S78 d4_16 rfl rfl rfl ?_
        refine px_alenI (v := (5 : Int32)) S78 A_b2 rfl d4_17 rfl ?_
        refine px_icmp S78 d4_18 (by decide) (pc' := 51) rfl rfl (fun (hc79 : (5 : Int32).toInt ≥ (5 : Int32).toInt) => ?_) (fun (hc79 : (5 : Int32).toInt < (5 : Int32).toInt) => by exfalso; revert hc79; decide)
        refine px_aloadN S78 d4_51 rfl rfl rfl ?_
        exact px_retA S78 d4_52 rfl rfl rfl (by decide) (by decide) (⟨b2, (-1 : Int32), (0 : Int32), (0 : Int32), (0 : Int32), (0 : Int32), rfl, g_b2, (((((((Keep.refl _ _).ext E2).wr W3 (Or.inr (Nat.le_of_eq z2.symm))).wr W8 (Or.inr (Nat.le_of_eq z2.symm))).wr W47 (Or.inr (Nat.le_of_eq z2.symm))).wr W69 (Or.inr (Nat.le_of_eq z2.symm))).wr W78 (Or.inr (Nat.le_of_eq z2.symm))), A_b2.congr (all5 rfl rfl rfl rfl rfl), rfl, rfl, Or.inl (⟨rfl, by omega⟩), Or.inl (⟨rfl, by omega, by omega⟩), Or.inl (⟨rfl, by omega, by omega, by omega⟩)⟩)
set_option maxRecDepth 65536 in
set_option maxHeartbeats 40000000 in
theorem c_ofT5 {Z : State} {a0 : Array Value} (hw : ∀ d ∈ tables_1, d.before a0 Z = true) {t p : Addr} {c0 c1 c2 c3 c4 : Int32} {f : Nat → Int32} {h0 : Heap} {n0 : Nat} (Z0 : n0 ≤ h0.size) (B0 : PathO Z h0 t p) (A0 : AI Z h0 p .char 5 f) (e_c0 : f 0 = c0) (e_c1 : f 1 = c1) (e_c2 : f 2 = c2) (e_c3 : f 3 = c3) (e_c4 : f 4 = c4) (n_c0 : nar .char c0 = c0) (n_c1 : nar .char c1 = c1) (n_c2 : nar .char c2 = c2) (n_c3 : nar .char c3 = c3) (n_c4 : nar .char c4 = c4) :
    Ctr Z n0 (⟨"com/example/ghost_state/ghoststate/Shadows", "of", "(Lcom/example/ghost_state/ghoststate/Shadows$PrefixTree;)[I"⟩ : MethodName) prog_23_method_3_code 3 (some (.array .int)) ({ frames := 2, cells := 1, slots := 6, locals := 33 } : Room) [(.ref t)] h0 (fun v h => ∃ (b : Addr) (s0 s1 s2 s3 s4 s5 : Int32), v = some (.ref b) ∧ n0 ≤ b ∧ Keep h0 h [] ∧ AI Z h b .int 6 (updF (updF (updF (updF (updF (updF (fun _ => 0) 0 s0) 1 s1) 2 s2) 3 s3) 4 s4) 5 s5) ∧ s0.toInt = -1 ∧ ((s1.toInt = 0)) ∧ ((s2.toInt = 0 ∧ ¬ (c0.toInt = c1.toInt)) ∨ (s2.toInt = 1 ∧ (c0.toInt = c1.toInt))) ∧ ((s3.toInt = 0 ∧ ¬ (c0.toInt = c2.toInt) ∧ ¬ (c0.toInt = c1.toInt ∧ c1.toInt = c2.toInt)) ∨ (s3.toInt = 1 ∧ (c0.toInt = c2.toInt) ∧ ¬ (c0.toInt = c1.toInt ∧ c1.toInt = c2.toInt)) ∨ (s3.toInt = 2 ∧ (c0.toInt = c1.toInt ∧ c1.toInt = c2.toInt))) ∧ ((s4.toInt = 0 ∧ ¬ (c0.toInt = c3.toInt) ∧ ¬ (c0.toInt = c2.toInt ∧ c1.toInt = c3.toInt) ∧ ¬ (c0.toInt = c1.toInt ∧ c1.toInt = c2.toInt ∧ c2.toInt = c3.toInt)) ∨ (s4.toInt = 1 ∧ (c0.toInt = c3.toInt) ∧ ¬ (c0.toInt = c2.toInt ∧ c1.toInt = c3.toInt) ∧ ¬ (c0.toInt = c1.toInt ∧ c1.toInt = c2.toInt ∧ c2.toInt = c3.toInt)) ∨ (s4.toInt = 2 ∧ (c0.toInt = c2.toInt ∧ c1.toInt = c3.toInt) ∧ ¬ (c0.toInt = c1.toInt ∧ c1.toInt = c2.toInt ∧ c2.toInt = c3.toInt)) ∨ (s4.toInt = 3 ∧ (c0.toInt = c1.toInt ∧ c1.toInt = c2.toInt ∧ c2.toInt = c3.toInt))) ∧ ((s5.toInt = 0 ∧ ¬ (c0.toInt = c4.toInt) ∧ ¬ (c0.toInt = c3.toInt ∧ c1.toInt = c4.toInt) ∧ ¬ (c0.toInt = c2.toInt ∧ c1.toInt = c3.toInt ∧ c2.toInt = c4.toInt) ∧ ¬ (c0.toInt = c1.toInt ∧ c1.toInt = c2.toInt ∧ c2.toInt = c3.toInt ∧ c3.toInt = c4.toInt)) ∨ (s5.toInt = 1 ∧ (c0.toInt = c4.toInt) ∧ ¬ (c0.toInt = c3.toInt ∧ c1.toInt = c4.toInt) ∧ ¬ (c0.toInt = c2.toInt ∧ c1.toInt = c3.toInt ∧ c2.toInt = c4.toInt) ∧ ¬ (c0.toInt = c1.toInt ∧ c1.toInt = c2.toInt ∧ c2.toInt = c3.toInt ∧ c3.toInt = c4.toInt)) ∨ (s5.toInt = 2 ∧ (c0.toInt = c3.toInt ∧ c1.toInt = c4.toInt) ∧ ¬ (c0.toInt = c2.toInt ∧ c1.toInt = c3.toInt ∧ c2.toInt = c4.toInt) ∧ ¬ (c0.toInt = c1.toInt ∧ c1.toInt = c2.toInt ∧ c2.toInt = c3.toInt ∧ c3.toInt = c4.toInt)) ∨ (s5.toInt = 3 ∧ (c0.toInt = c2.toInt ∧ c1.toInt = c3.toInt ∧ c2.toInt = c4.toInt) ∧ ¬ (c0.toInt = c1.toInt ∧ c1.toInt = c2.toInt ∧ c2.toInt = c3.toInt ∧ c3.toInt = c4.toInt)) ∨ (s5.toInt = 4 ∧ (c0.toInt = c1.toInt ∧ c1.toInt = c2.toInt ∧ c2.toInt = c3.toInt ∧ c3.toInt = c4.toInt)))) := by
  refine Ctr.of (L := #[.val (.ref t), .unset, .unset]) pn_4 Z0 (fun m => by first | (simp [entryFrame, mkF, argsToLocals, Value.category]; done) | rfl) ?_
  intro K T S0
  have X_t := B0.1
  have F_t := B0.2
  refine px_aloadN S0 d4_0 rfl rfl rfl ?_
  refine px_callI (Cn := "com/example/ghost_state/ghoststate/Shadows$Path") (as' := []) (st := []) (W := 0) S0 (c_states (nl := (5 : Int32)) (r := (6 : Int32)) hw S0.size ⟨X_t, F_t⟩ A0 rfl (by decide)) X_t (hw _ (List.mem_of_getElem? (i := 20) rfl)) (hw _ (List.mem_of_getElem? (i := 21) rfl)) (hw _ (List.mem_of_getElem? (i := 22) rfl)) rfl (hw _ (List.mem_of_getElem? (i := 23) rfl)) (hw _ (List.mem_of_getElem? (i := 24) rfl)) (hw _ (List.mem_of_getElem? (i := 25) rfl)) (hw _ (List.mem_of_getElem? (i := 26) rfl)) (hw _ (List.mem_of_getElem? (i := 27) rfl)) (hw _ (List.mem_of_getElem? (i := 8) rfl)) (hw _ (List.mem_of_getElem? (i := 28) rfl)) (by decide) pd_4_0 rfl rfl (by decide) rfl (by decide) (by decide) (by decide) d4_1 rfl rfl (fun T1 h1 v1 S1 q1 => ?_)
  obtain ⟨rfl, rfl⟩ := q1
  show Go _ _ _ _ _ _ _ [(.int (6 : Int32))]
  refine px_newarr (aty := .int) (cap := 6) S1 (hw _ (List.mem_of_getElem? (i := 29) rfl)) rfl (n := 6) rfl (by decide) (by decide) (by decide) (by decide) d4_6 rfl (fun T2 h2 b2 z2 g_b2 S2 E2 A_b2 => ?_)
  have ne_t_b2 : t ≠ b2 := ne_new z2 X_t.lt
  replace X_t := X_t.ext E2
  replace F_t := F_t.ext E2
  have ne_p_b2 : p ≠ b2 := ne_new z2 A0.lt
  replace A0 := A0.ext E2
  refine px_astoreN S2 d4_8 rfl rfl (L' := #[.val (.ref t), .val (.ref b2), .unset]) rfl ?_
  refine px_aloadN S2 d4_9 rfl rfl rfl ?_
  refine px_iconst (v := (0 : Int32)) S2 d4_10 rfl rfl ?_
  refine px_iconst (v := (-1 : Int32)) S2 d4_11 rfl rfl ?_
  refine px_iastore (v := (-1 : Int32)) S2 A_b2 g_b2 (i := 0) rfl (by decide) rfl d4_12 rfl (fun T3 h3 S3 W3 A_b2 => ?_)
  replace X_t := X_t.wr W3
  replace F_t := F_t.other W3 (Or.inl ne_t_b2)
  replace A0 := A0.other W3 ne_p_b2
  refine px_iconst (v := (1 : Int32)) S3 d4_13 rfl rfl ?_
  refine px_istoreN S3 d4_14 rfl (L' := #[.val (.ref t), .val (.ref b2), .val (.int (1 : Int32))]) rfl ?_
  refine px_iloadN S3 d4_15 rfl rfl ?_
  refine px_aloadN S3 d4_16 rfl rfl rfl ?_
  refine px_alenI (v := (6 : Int32)) S3 A_b2 rfl d4_17 rfl ?_
  refine px_icmp S3 d4_18 (by decide) (pc' := 51) rfl rfl (fun (hc4 : (1 : Int32).toInt ≥ (6 : Int32).toInt) => by exfalso; revert hc4; decide) (fun (hc4 : (1 : Int32).toInt < (6 : Int32).toInt) => ?_)
  refine px_aloadN S3 d4_21 rfl rfl rfl ?_
  refine px_iloadN S3 d4_22 rfl rfl ?_
  refine px_aloadN S3 d4_23 rfl rfl rfl ?_
  refine px_aloadN S3 d4_24 rfl rfl rfl ?_
  refine px_aloadN S3 d4_25 rfl rfl rfl ?_
  refine px_aloadN S3 d4_26 rfl rfl rfl ?_
  refine px_iloadN S3 d4_27 rfl rfl ?_
  refine px_callI (Cn := "com/example/ghost_state/ghoststate/Shadows$Path") (as' := [(.int (1 : Int32))]) (st := [(.ref b2), (.ref b2), (.ref t), (.int (1 : Int32)), (.ref b2)]) (W := 5) S3 (c_parent (r := (0 : Int32)) hw S3.size (by decide)) X_t (hw _ (List.mem_of_getElem? (i := 30) rfl)) (hw _ (List.mem_of_getElem? (i := 31) rfl)) (hw _ (List.mem_of_getElem? (i := 32) rfl)) rfl (hw _ (List.mem_of_getElem? (i := 33) rfl)) (hw _ (List.mem_of_getElem? (i := 34) rfl)) (hw _ (List.mem_of_getElem? (i := 35) rfl)) (hw _ (List.mem_of_getElem? (i := 36) rfl)) (hw _ (List.mem_of_getElem? (i := 27) rfl)) (hw _ (List.mem_of_getElem? (i := 8) rfl)) (hw _ (List.mem_of_getElem? (i := 37) rfl)) (by decide) pd_4_1 rfl rfl (by decide) rfl (by decide) (by decide) (by decide) d4_28 rfl rfl (fun T5 h5 v5 S5 q5 => ?_)
  obtain ⟨rfl, rfl⟩ := q5
  show Go _ _ _ _ _ _ _ [(.int (0 : Int32)), (.ref b2), (.ref b2), (.ref t), (.int (1 : Int32)), (.ref b2)]
  refine px_iaload (v := (-1 : Int32)) S5 A_b2 (i := 0) rfl (by decide) rfl d4_33 rfl ?_
  refine px_aloadN S5 d4_34 rfl rfl rfl ?_
  refine px_iloadN S5 d4_35 rfl rfl ?_
  refine px_callI (Cn := "com/example/ghost_state/ghoststate/Shadows$Path") (as' := [(.int (1 : Int32))]) (st := [(.int (-1 : Int32)), (.ref b2), (.ref t), (.int (1 : Int32)), (.ref b2)]) (W := 5) S5 (c_elem (k := 0) (x := c0) hw S5.size ⟨X_t, F_t⟩ A0 (by decide) (by decide) e_c0 n_c0) X_t (hw _ (List.mem_of_getElem? (i := 38) rfl)) (hw _ (List.mem_of_getElem? (i := 39) rfl)) (hw _ (List.mem_of_getElem? (i := 40) rfl)) rfl (hw _ (List.mem_of_getElem? (i := 41) rfl)) (hw _ (List.mem_of_getElem? (i := 42) rfl)) (hw _ (List.mem_of_getElem? (i := 43) rfl)) (hw _ (List.mem_of_getElem? (i := 44) rfl)) (hw _ (List.mem_of_getElem? (i := 27) rfl)) (hw _ (List.mem_of_getElem? (i := 8) rfl)) (hw _ (List.mem_of_getElem? (i := 45) rfl)) (by decide) pd_4_2 rfl rfl (by decide) rfl (by decide) (by decide) (by decide) d4_36 rfl rfl (fun T6 h6 v6 S6 q6 => ?_)
  obtain ⟨rfl, rfl⟩ := q6
  show Go _ _ _ _ _ _ _ [(.int c0), (.int (-1 : Int32)), (.ref b2), (.ref t), (.int (1 : Int32)), (.ref b2)]
  refine px_callS (as' := [(.ref t), (.ref b2), (.int (-1 : Int32)), (.int c0)]) (st := [(.int (1 : Int32)), (.ref b2)]) (W := 2) S6 (c_next (n := 5) (m := 6) (k0 := 0) (nl := (5 : Int32)) (r := (0 : Int32)) hw S6.size ⟨X_t, F_t⟩ A0 A_b2 rfl (by decide) (by decide) (Or.inl ⟨by decide, rfl⟩)) (hw _ (List.mem_of_getElem? (i := 46) rfl)) (hw _ (List.mem_of_getElem? (i := 47) rfl)) (hw _ (List.mem_of_getElem? (i := 4) rfl)) (hw _ (List.mem_of_getElem? (i := 48) rfl)) (by decide) pd_4_3 rfl rfl (by decide) rfl (by decide) (by decide) (by decide) d4_41 rfl rfl (fun T7 h7 v7 S7 q7 => ?_)
  obtain ⟨rfl, rfl⟩ := q7
  show Go _ _ _ _ _ _ _ [(.int (0 : Int32)), (.int (1 : Int32)), (.ref b2)]
  refine px_iastore (v := (0 : Int32)) S7 A_b2 g_b2 (i := 1) rfl (by decide) rfl d4_44 rfl (fun T8 h8 S8 W8 A_b2 => ?_)
  replace X_t := X_t.wr W8
  replace F_t := F_t.other W8 (Or.inl ne_t_b2)
  replace A0 := A0.other W8 ne_p_b2
  refine px_iinc (v := (1 : Int32)) (r := (2 : Int32)) S8 d4_45 rfl rfl rfl (by decide) (L' := #[.val (.ref t), .val (.ref b2), .val (.int (2 : Int32))]) rfl ?_
  refine px_goto S8 d4_48 (by decide) (pc' := 15) rfl ?_
  refine px_iloadN S8 d4_15 rfl rfl ?_
  refine px_aloadN S8 d4_16 rfl rfl rfl ?_
  refine px_alenI (v := (6 : Int32)) S8 A_b2 rfl d4_17 rfl ?_
  refine px_icmp S8 d4_18 (by decide) (pc' := 51) rfl rfl (fun (hc9 : (2 : Int32).toInt ≥ (6 : Int32).toInt) => by exfalso; revert hc9; decide) (fun (hc9 : (2 : Int32).toInt < (6 : Int32).toInt) => ?_)
  refine px_aloadN S8 d4_21 rfl rfl rfl ?_
  refine px_iloadN S8 d4_22 rfl rfl ?_
  refine px_aloadN S8 d4_23 rfl rfl rfl ?_
  refine px_aloadN S8 d4_24 rfl rfl rfl ?_
  refine px_aloadN S8 d4_25 rfl rfl rfl ?_
  refine px_aloadN S8 d4_26 rfl rfl rfl ?_
  refine px_iloadN S8 d4_27 rfl rfl ?_
  refine px_callI (Cn := "com/example/ghost_state/ghoststate/Shadows$Path") (as' := [(.int (2 : Int32))]) (st := [(.ref b2), (.ref b2), (.ref t), (.int (2 : Int32)), (.ref b2)]) (W := 5) S8 (c_parent (r := (1 : Int32)) hw S8.size (by decide)) X_t (hw _ (List.mem_of_getElem? (i := 30) rfl)) (hw _ (List.mem_of_getElem? (i := 31) rfl)) (hw _ (List.mem_of_getElem? (i := 32) rfl)) rfl (hw _ (List.mem_of_getElem? (i := 33) rfl)) (hw _ (List.mem_of_getElem? (i := 34) rfl)) (hw _ (List.mem_of_getElem? (i := 35) rfl)) (hw _ (List.mem_of_getElem? (i := 36) rfl)) (hw _ (List.mem_of_getElem? (i := 27) rfl)) (hw _ (List.mem_of_getElem? (i := 8) rfl)) (hw _ (List.mem_of_getElem? (i := 37) rfl)) (by decide) pd_4_1 rfl rfl (by decide) rfl (by decide) (by decide) (by decide) d4_28 rfl rfl (fun T10 h10 v10 S10 q10 => ?_)
  obtain ⟨rfl, rfl⟩ := q10
  show Go _ _ _ _ _ _ _ [(.int (1 : Int32)), (.ref b2), (.ref b2), (.ref t), (.int (2 : Int32)), (.ref b2)]
  refine px_iaload (v := (0 : Int32)) S10 A_b2 (i := 1) rfl (by decide) rfl d4_33 rfl ?_
  refine px_aloadN S10 d4_34 rfl rfl rfl ?_
  refine px_iloadN S10 d4_35 rfl rfl ?_
  refine px_callI (Cn := "com/example/ghost_state/ghoststate/Shadows$Path") (as' := [(.int (2 : Int32))]) (st := [(.int (0 : Int32)), (.ref b2), (.ref t), (.int (2 : Int32)), (.ref b2)]) (W := 5) S10 (c_elem (k := 1) (x := c1) hw S10.size ⟨X_t, F_t⟩ A0 (by decide) (by decide) e_c1 n_c1) X_t (hw _ (List.mem_of_getElem? (i := 38) rfl)) (hw _ (List.mem_of_getElem? (i := 39) rfl)) (hw _ (List.mem_of_getElem? (i := 40) rfl)) rfl (hw _ (List.mem_of_getElem? (i := 41) rfl)) (hw _ (List.mem_of_getElem? (i := 42) rfl)) (hw _ (List.mem_of_getElem? (i := 43) rfl)) (hw _ (List.mem_of_getElem? (i := 44) rfl)) (hw _ (List.mem_of_getElem? (i := 27) rfl)) (hw _ (List.mem_of_getElem? (i := 8) rfl)) (hw _ (List.mem_of_getElem? (i := 45) rfl)) (by decide) pd_4_2 rfl rfl (by decide) rfl (by decide) (by decide) (by decide) d4_36 rfl rfl (fun T11 h11 v11 S11 q11 => ?_)
  obtain ⟨rfl, rfl⟩ := q11
  show Go _ _ _ _ _ _ _ [(.int c1), (.int (0 : Int32)), (.ref b2), (.ref t), (.int (2 : Int32)), (.ref b2)]
  by_cases hE12 : c0.toInt = c1.toInt
  · refine px_callS (as' := [(.ref t), (.ref b2), (.int (0 : Int32)), (.int c1)]) (st := [(.int (2 : Int32)), (.ref b2)]) (W := 2) S11 (c_next (n := 5) (m := 6) (k0 := 0) (nl := (5 : Int32)) (r := (1 : Int32)) hw S11.size ⟨X_t, F_t⟩ A0 A_b2 rfl (by decide) (by decide) (Or.inr ⟨0, by decide, by decide, (by rw [e_c0]; exact hE12), by decide⟩)) (hw _ (List.mem_of_getElem? (i := 46) rfl)) (hw _ (List.mem_of_getElem? (i := 47) rfl)) (hw _ (List.mem_of_getElem? (i := 4) rfl)) (hw _ (List.mem_of_getElem? (i := 48) rfl)) (by decide) pd_4_3 rfl rfl (by decide) rfl (by decide) (by decide) (by decide) d4_41 rfl rfl (fun T13 h13 v13 S13 q13 => ?_)
    obtain ⟨rfl, rfl⟩ := q13
    show Go _ _ _ _ _ _ _ [(.int (1 : Int32)), (.int (2 : Int32)), (.ref b2)]
    refine px_iastore (v := (1 : Int32)) S13 A_b2 g_b2 (i := 2) rfl (by decide) rfl d4_44 rfl (fun T14 h14 S14 W14 A_b2 => ?_)
    replace X_t := X_t.wr W14
    replace F_t := F_t.other W14 (Or.inl ne_t_b2)
    replace A0 := A0.other W14 ne_p_b2
    refine px_iinc (v := (1 : Int32)) (r := (3 : Int32)) S14 d4_45 rfl rfl rfl (by decide) (L' := #[.val (.ref t), .val (.ref b2), .val (.int (3 : Int32))]) rfl ?_
    refine px_goto S14 d4_48 (by decide) (pc' := 15) rfl ?_
    refine px_iloadN S14 d4_15 rfl rfl ?_
    refine px_aloadN S14 d4_16 rfl rfl rfl ?_
    refine px_alenI (v := (6 : Int32)) S14 A_b2 rfl d4_17 rfl ?_
    refine px_icmp S14 d4_18 (by decide) (pc' := 51) rfl rfl (fun (hc15 : (3 : Int32).toInt ≥ (6 : Int32).toInt) => by exfalso; revert hc15; decide) (fun (hc15 : (3 : Int32).toInt < (6 : Int32).toInt) => ?_)
    refine px_aloadN S14 d4_21 rfl rfl rfl ?_
    refine px_iloadN S14 d4_22 rfl rfl ?_
    refine px_aloadN S14 d4_23 rfl rfl rfl ?_
    refine px_aloadN S14 d4_24 rfl rfl rfl ?_
    refine px_aloadN S14 d4_25 rfl rfl rfl ?_
    refine px_aloadN S14 d4_26 rfl rfl rfl ?_
    refine px_iloadN S14 d4_27 rfl rfl ?_
    refine px_callI (Cn := "com/example/ghost_state/ghoststate/Shadows$Path") (as' := [(.int (3 : Int32))]) (st := [(.ref b2), (.ref b2), (.ref t), (.int (3 : Int32)), (.ref b2)]) (W := 5) S14 (c_parent (r := (2 : Int32)) hw S14.size (by decide)) X_t (hw _ (List.mem_of_getElem? (i := 30) rfl)) (hw _ (List.mem_of_getElem? (i := 31) rfl)) (hw _ (List.mem_of_getElem? (i := 32) rfl)) rfl (hw _ (List.mem_of_getElem? (i := 33) rfl)) (hw _ (List.mem_of_getElem? (i := 34) rfl)) (hw _ (List.mem_of_getElem? (i := 35) rfl)) (hw _ (List.mem_of_getElem? (i := 36) rfl)) (hw _ (List.mem_of_getElem? (i := 27) rfl)) (hw _ (List.mem_of_getElem? (i := 8) rfl)) (hw _ (List.mem_of_getElem? (i := 37) rfl)) (by decide) pd_4_1 rfl rfl (by decide) rfl (by decide) (by decide) (by decide) d4_28 rfl rfl (fun T16 h16 v16 S16 q16 => ?_)
    obtain ⟨rfl, rfl⟩ := q16
    show Go _ _ _ _ _ _ _ [(.int (2 : Int32)), (.ref b2), (.ref b2), (.ref t), (.int (3 : Int32)), (.ref b2)]
    refine px_iaload (v := (1 : Int32)) S16 A_b2 (i := 2) rfl (by decide) rfl d4_33 rfl ?_
    refine px_aloadN S16 d4_34 rfl rfl rfl ?_
    refine px_iloadN S16 d4_35 rfl rfl ?_
    refine px_callI (Cn := "com/example/ghost_state/ghoststate/Shadows$Path") (as' := [(.int (3 : Int32))]) (st := [(.int (1 : Int32)), (.ref b2), (.ref t), (.int (3 : Int32)), (.ref b2)]) (W := 5) S16 (c_elem (k := 2) (x := c2) hw S16.size ⟨X_t, F_t⟩ A0 (by decide) (by decide) e_c2 n_c2) X_t (hw _ (List.mem_of_getElem? (i := 38) rfl)) (hw _ (List.mem_of_getElem? (i := 39) rfl)) (hw _ (List.mem_of_getElem? (i := 40) rfl)) rfl (hw _ (List.mem_of_getElem? (i := 41) rfl)) (hw _ (List.mem_of_getElem? (i := 42) rfl)) (hw _ (List.mem_of_getElem? (i := 43) rfl)) (hw _ (List.mem_of_getElem? (i := 44) rfl)) (hw _ (List.mem_of_getElem? (i := 27) rfl)) (hw _ (List.mem_of_getElem? (i := 8) rfl)) (hw _ (List.mem_of_getElem? (i := 45) rfl)) (by decide) pd_4_2 rfl rfl (by decide) rfl (by decide) (by decide) (by decide) d4_36 rfl rfl (fun T17 h17 v17 S17 q17 => ?_)
    obtain ⟨rfl, rfl⟩ := q17
    show Go _ _ _ _ _ _ _ [(.int c2), (.int (1 : Int32)), (.ref b2), (.ref t), (.int (3 : Int32)), (.ref b2)]
    by_cases hE18 : c1.toInt = c2.toInt
    · refine px_callS (as' := [(.ref t), (.ref b2), (.int (1 : Int32)), (.int c2)]) (st := [(.int (3 : Int32)), (.ref b2)]) (W := 2) S17 (c_next (n := 5) (m := 6) (k0 := 0) (nl := (5 : Int32)) (r := (2 : Int32)) hw S17.size ⟨X_t, F_t⟩ A0 A_b2 rfl (by decide) (by decide) (Or.inr ⟨1, by decide, by decide, (by rw [e_c1]; exact hE18), by decide⟩)) (hw _ (List.mem_of_getElem? (i := 46) rfl)) (hw _ (List.mem_of_getElem? (i := 47) rfl)) (hw _ (List.mem_of_getElem? (i := 4) rfl)) (hw _ (List.mem_of_getElem? (i := 48) rfl)) (by decide) pd_4_3 rfl rfl (by decide) rfl (by decide) (by decide) (by decide) d4_41 rfl rfl (fun T19 h19 v19 S19 q19 => ?_)
      obtain ⟨rfl, rfl⟩ := q19
      show Go _ _ _ _ _ _ _ [(.int (2 : Int32)), (.int (3 : Int32)), (.ref b2)]
      refine px_iastore (v := (2 : Int32)) S19 A_b2 g_b2 (i := 3) rfl (by decide) rfl d4_44 rfl (fun T20 h20 S20 W20 A_b2 => ?_)
      replace X_t := X_t.wr W20
      replace F_t := F_t.other W20 (Or.inl ne_t_b2)
      replace A0 := A0.other W20 ne_p_b2
      refine px_iinc (v := (1 : Int32)) (r := (4 : Int32)) S20 d4_45 rfl rfl rfl (by decide) (L' := #[.val (.ref t), .val (.ref b2), .val (.int (4 : Int32))]) rfl ?_
      refine px_goto S20 d4_48 (by decide) (pc' := 15) rfl ?_
      refine px_iloadN S20 d4_15 rfl rfl ?_
      refine px_aloadN S20 d4_16 rfl rfl rfl ?_
      refine px_alenI (v := (6 : Int32)) S20 A_b2 rfl d4_17 rfl ?_
      refine px_icmp S20 d4_18 (by decide) (pc' := 51) rfl rfl (fun (hc21 : (4 : Int32).toInt ≥ (6 : Int32).toInt) => by exfalso; revert hc21; decide) (fun (hc21 : (4 : Int32).toInt < (6 : Int32).toInt) => ?_)
      refine px_aloadN S20 d4_21 rfl rfl rfl ?_
      refine px_iloadN S20 d4_22 rfl rfl ?_
      refine px_aloadN S20 d4_23 rfl rfl rfl ?_
      refine px_aloadN S20 d4_24 rfl rfl rfl ?_
      refine px_aloadN S20 d4_25 rfl rfl rfl ?_
      refine px_aloadN S20 d4_26 rfl rfl rfl ?_
      refine px_iloadN S20 d4_27 rfl rfl ?_
      refine px_callI (Cn := "com/example/ghost_state/ghoststate/Shadows$Path") (as' := [(.int (4 : Int32))]) (st := [(.ref b2), (.ref b2), (.ref t), (.int (4 : Int32)), (.ref b2)]) (W := 5) S20 (c_parent (r := (3 : Int32)) hw S20.size (by decide)) X_t (hw _ (List.mem_of_getElem? (i := 30) rfl)) (hw _ (List.mem_of_getElem? (i := 31) rfl)) (hw _ (List.mem_of_getElem? (i := 32) rfl)) rfl (hw _ (List.mem_of_getElem? (i := 33) rfl)) (hw _ (List.mem_of_getElem? (i := 34) rfl)) (hw _ (List.mem_of_getElem? (i := 35) rfl)) (hw _ (List.mem_of_getElem? (i := 36) rfl)) (hw _ (List.mem_of_getElem? (i := 27) rfl)) (hw _ (List.mem_of_getElem? (i := 8) rfl)) (hw _ (List.mem_of_getElem? (i := 37) rfl)) (by decide) pd_4_1 rfl rfl (by decide) rfl (by decide) (by decide) (by decide) d4_28 rfl rfl (fun T22 h22 v22 S22 q22 => ?_)
      obtain ⟨rfl, rfl⟩ := q22
      show Go _ _ _ _ _ _ _ [(.int (3 : Int32)), (.ref b2), (.ref b2), (.ref t), (.int (4 : Int32)), (.ref b2)]
      refine px_iaload (v := (2 : Int32)) S22 A_b2 (i := 3) rfl (by decide) rfl d4_33 rfl ?_
      refine px_aloadN S22 d4_34 rfl rfl rfl ?_
      refine px_iloadN S22 d4_35 rfl rfl ?_
      refine px_callI (Cn := "com/example/ghost_state/ghoststate/Shadows$Path") (as' := [(.int (4 : Int32))]) (st := [(.int (2 : Int32)), (.ref b2), (.ref t), (.int (4 : Int32)), (.ref b2)]) (W := 5) S22 (c_elem (k := 3) (x := c3) hw S22.size ⟨X_t, F_t⟩ A0 (by decide) (by decide) e_c3 n_c3) X_t (hw _ (List.mem_of_getElem? (i := 38) rfl)) (hw _ (List.mem_of_getElem? (i := 39) rfl)) (hw _ (List.mem_of_getElem? (i := 40) rfl)) rfl (hw _ (List.mem_of_getElem? (i := 41) rfl)) (hw _ (List.mem_of_getElem? (i := 42) rfl)) (hw _ (List.mem_of_getElem? (i := 43) rfl)) (hw _ (List.mem_of_getElem? (i := 44) rfl)) (hw _ (List.mem_of_getElem? (i := 27) rfl)) (hw _ (List.mem_of_getElem? (i := 8) rfl)) (hw _ (List.mem_of_getElem? (i := 45) rfl)) (by decide) pd_4_2 rfl rfl (by decide) rfl (by decide) (by decide) (by decide) d4_36 rfl rfl (fun T23 h23 v23 S23 q23 => ?_)
      obtain ⟨rfl, rfl⟩ := q23
      show Go _ _ _ _ _ _ _ [(.int c3), (.int (2 : Int32)), (.ref b2), (.ref t), (.int (4 : Int32)), (.ref b2)]
      by_cases hE24 : c2.toInt = c3.toInt
      · refine px_callS (as' := [(.ref t), (.ref b2), (.int (2 : Int32)), (.int c3)]) (st := [(.int (4 : Int32)), (.ref b2)]) (W := 2) S23 (c_next (n := 5) (m := 6) (k0 := 0) (nl := (5 : Int32)) (r := (3 : Int32)) hw S23.size ⟨X_t, F_t⟩ A0 A_b2 rfl (by decide) (by decide) (Or.inr ⟨2, by decide, by decide, (by rw [e_c2]; exact hE24), by decide⟩)) (hw _ (List.mem_of_getElem? (i := 46) rfl)) (hw _ (List.mem_of_getElem? (i := 47) rfl)) (hw _ (List.mem_of_getElem? (i := 4) rfl)) (hw _ (List.mem_of_getElem? (i := 48) rfl)) (by decide) pd_4_3 rfl rfl (by decide) rfl (by decide) (by decide) (by decide) d4_41 rfl rfl (fun T25 h25 v25 S25 q25 => ?_)
        obtain ⟨rfl, rfl⟩ := q25
        show Go _ _ _ _ _ _ _ [(.int (3 : Int32)), (.int (4 : Int32)), (.ref b2)]
        refine px_iastore (v := (3 : Int32)) S25 A_b2 g_b2 (i := 4) rfl (by decide) rfl d4_44 rfl (fun T26 h26 S26 W26 A_b2 => ?_)
        replace X_t := X_t.wr W26
        replace F_t := F_t.other W26 (Or.inl ne_t_b2)
        replace A0 := A0.other W26 ne_p_b2
        refine px_iinc (v := (1 : Int32)) (r := (5 : Int32)) S26 d4_45 rfl rfl rfl (by decide) (L' := #[.val (.ref t), .val (.ref b2), .val (.int (5 : Int32))]) rfl ?_
        refine px_goto S26 d4_48 (by decide) (pc' := 15) rfl ?_
        refine px_iloadN S26 d4_15 rfl rfl ?_
        refine px_aloadN S26 d4_16 rfl rfl rfl ?_
        refine px_alenI (v := (6 : Int32)) S26 A_b2 rfl d4_17 rfl ?_
        refine px_icmp S26 d4_18 (by decide) (pc' := 51) rfl rfl (fun (hc27 : (5 : Int32).toInt ≥ (6 : Int32).toInt) => by exfalso; revert hc27; decide) (fun (hc27 : (5 : Int32).toInt < (6 : Int32).toInt) => ?_)
        refine px_aloadN S26 d4_21 rfl rfl rfl ?_
        refine px_iloadN S26 d4_22 rfl rfl ?_
        refine px_aloadN S26 d4_23 rfl rfl rfl ?_
        refine px_aloadN S26 d4_24 rfl rfl rfl ?_
        refine px_aloadN S26 d4_25 rfl rfl rfl ?_
        refine px_aloadN S26 d4_26 rfl rfl rfl ?_
        refine px_iloadN S26 d4_27 rfl rfl ?_
        refine px_callI (Cn := "com/example/ghost_state/ghoststate/Shadows$Path") (as' := [(.int (5 : Int32))]) (st := [(.ref b2), (.ref b2), (.ref t), (.int (5 : Int32)), (.ref b2)]) (W := 5) S26 (c_parent (r := (4 : Int32)) hw S26.size (by decide)) X_t (hw _ (List.mem_of_getElem? (i := 30) rfl)) (hw _ (List.mem_of_getElem? (i := 31) rfl)) (hw _ (List.mem_of_getElem? (i := 32) rfl)) rfl (hw _ (List.mem_of_getElem? (i := 33) rfl)) (hw _ (List.mem_of_getElem? (i := 34) rfl)) (hw _ (List.mem_of_getElem? (i := 35) rfl)) (hw _ (List.mem_of_getElem? (i := 36) rfl)) (hw _ (List.mem_of_getElem? (i := 27) rfl)) (hw _ (List.mem_of_getElem? (i := 8) rfl)) (hw _ (List.mem_of_getElem? (i := 37) rfl)) (by decide) pd_4_1 rfl rfl (by decide) rfl (by decide) (by decide) (by decide) d4_28 rfl rfl (fun T28 h28 v28 S28 q28 => ?_)
        obtain ⟨rfl, rfl⟩ := q28
        show Go _ _ _ _ _ _ _ [(.int (4 : Int32)), (.ref b2), (.ref b2), (.ref t), (.int (5 : Int32)), (.ref b2)]
        refine px_iaload (v := (3 : Int32)) S28 A_b2 (i := 4) rfl (by decide) rfl d4_33 rfl ?_
        refine px_aloadN S28 d4_34 rfl rfl rfl ?_
        refine px_iloadN S28 d4_35 rfl rfl ?_
        refine px_callI (Cn := "com/example/ghost_state/ghoststate/Shadows$Path") (as' := [(.int (5 : Int32))]) (st := [(.int (3 : Int32)), (.ref b2), (.ref t), (.int (5 : Int32)), (.ref b2)]) (W := 5) S28 (c_elem (k := 4) (x := c4) hw S28.size ⟨X_t, F_t⟩ A0 (by decide) (by decide) e_c4 n_c4) X_t (hw _ (List.mem_of_getElem? (i := 38) rfl)) (hw _ (List.mem_of_getElem? (i := 39) rfl)) (hw _ (List.mem_of_getElem? (i := 40) rfl)) rfl (hw _ (List.mem_of_getElem? (i := 41) rfl)) (hw _ (List.mem_of_getElem? (i := 42) rfl)) (hw _ (List.mem_of_getElem? (i := 43) rfl)) (hw _ (List.mem_of_getElem? (i := 44) rfl)) (hw _ (List.mem_of_getElem? (i := 27) rfl)) (hw _ (List.mem_of_getElem? (i := 8) rfl)) (hw _ (List.mem_of_getElem? (i := 45) rfl)) (by decide) pd_4_2 rfl rfl (by decide) rfl (by decide) (by decide) (by decide) d4_36 rfl rfl (fun T29 h29 v29 S29 q29 => ?_)
        obtain ⟨rfl, rfl⟩ := q29
        show Go _ _ _ _ _ _ _ [(.int c4), (.int (3 : Int32)), (.ref b2), (.ref t), (.int (5 : Int32)), (.ref b2)]
        by_cases hE30 : c3.toInt = c4.toInt
        · refine px_callS (as' := [(.ref t), (.ref b2), (.int (3 : Int32)), (.int c4)]) (st := [(.int (5 : Int32)), (.ref b2)]) (W := 2) S29 (c_next (n := 5) (m := 6) (k0 := 0) (nl := (5 : Int32)) (r := (4 : Int32)) hw S29.size ⟨X_t, F_t⟩ A0 A_b2 rfl (by decide) (by decide) (Or.inr ⟨3, by decide, by decide, (by rw [e_c3]; exact hE30), by decide⟩)) (hw _ (List.mem_of_getElem? (i := 46) rfl)) (hw _ (List.mem_of_getElem? (i := 47) rfl)) (hw _ (List.mem_of_getElem? (i := 4) rfl)) (hw _ (List.mem_of_getElem? (i := 48) rfl)) (by decide) pd_4_3 rfl rfl (by decide) rfl (by decide) (by decide) (by decide) d4_41 rfl rfl (fun T31 h31 v31 S31 q31 => ?_)
          obtain ⟨rfl, rfl⟩ := q31
          show Go _ _ _ _ _ _ _ [(.int (4 : Int32)), (.int (5 : Int32)), (.ref b2)]
          refine px_iastore (v := (4 : Int32)) S31 A_b2 g_b2 (i := 5) rfl (by decide) rfl d4_44 rfl (fun T32 h32 S32 W32 A_b2 => ?_)
          replace X_t := X_t.wr W32
          replace F_t := F_t.other W32 (Or.inl ne_t_b2)
          replace A0 := A0.other W32 ne_p_b2
          refine px_iinc (v := (1 : Int32)) (r := (6 : Int32)) S32 d4_45 rfl rfl rfl (by decide) (L' := #[.val (.ref t), .val (.ref b2), .val (.int (6 : Int32))]) rfl ?_
          refine px_goto S32 d4_48 (by decide) (pc' := 15) rfl ?_
          refine px_iloadN S32 d4_15 rfl rfl ?_
          refine px_aloadN S32 d4_16 rfl rfl rfl ?_
          refine px_alenI (v := (6 : Int32)) S32 A_b2 rfl d4_17 rfl ?_
          refine px_icmp S32 d4_18 (by decide) (pc' := 51) rfl rfl (fun (hc33 : (6 : Int32).toInt ≥ (6 : Int32).toInt) => ?_) (fun (hc33 : (6 : Int32).toInt < (6 : Int32).toInt) => by exfalso; revert hc33; decide)
          refine px_aloadN S32 d4_51 rfl rfl rfl ?_
          exact px_retA S32 d4_52 rfl rfl rfl (by decide) (by decide) (⟨b2, (-1 : Int32), (0 : Int32), (1 : Int32), (2 : Int32), (3 : Int32), (4 : Int32), rfl, g_b2, ((((((((Keep.refl _ _).ext E2).wr W3 (Or.inr (Nat.le_of_eq z2.symm))).wr W8 (Or.inr (Nat.le_of_eq z2.symm))).wr W14 (Or.inr (Nat.le_of_eq z2.symm))).wr W20 (Or.inr (Nat.le_of_eq z2.symm))).wr W26 (Or.inr (Nat.le_of_eq z2.symm))).wr W32 (Or.inr (Nat.le_of_eq z2.symm))), A_b2.congr (all6 rfl rfl rfl rfl rfl rfl), rfl, rfl, Or.inr (⟨rfl, by omega⟩), Or.inr (Or.inr (⟨rfl, by omega⟩)), Or.inr (Or.inr (Or.inr (⟨rfl, by omega⟩))), Or.inr (Or.inr (Or.inr (Or.inr (⟨rfl, by omega⟩))))⟩)
        · have hE34 : ¬ c2.toInt = c4.toInt := by omega
          have hE35 : ¬ c1.toInt = c4.toInt := by omega
          have hE36 : ¬ c0.toInt = c4.toInt := by omega
          refine px_callS (as' := [(.ref t), (.ref b2), (.int (3 : Int32)), (.int c4)]) (st := [(.int (5 : Int32)), (.ref b2)]) (W := 2) S29 (c_next (n := 5) (m := 6) (k0 := 4) (nl := (5 : Int32)) (r := (0 : Int32)) hw S29.size ⟨X_t, F_t⟩ A0 A_b2 rfl (by decide) (by decide) (⟨3, by decide, by decide, (by rw [e_c3]; exact hE30), ⟨2, by decide, by decide, (by rw [e_c2]; exact hE34), ⟨1, by decide, by decide, (by rw [e_c1]; exact hE35), ⟨0, by decide, by decide, (by rw [e_c0]; exact hE36), Or.inl ⟨by decide, rfl⟩⟩⟩⟩⟩)) (hw _ (List.mem_of_getElem? (i := 46) rfl)) (hw _ (List.mem_of_getElem? (i := 47) rfl)) (hw _ (List.mem_of_getElem? (i := 4) rfl)) (hw _ (List.mem_of_getElem? (i := 48) rfl)) (by decide) pd_4_3 rfl rfl (by decide) rfl (by decide) (by decide) (by decide) d4_41 rfl rfl (fun T37 h37 v37 S37 q37 => ?_)
          obtain ⟨rfl, rfl⟩ := q37
          show Go _ _ _ _ _ _ _ [(.int (0 : Int32)), (.int (5 : Int32)), (.ref b2)]
          refine px_iastore (v := (0 : Int32)) S37 A_b2 g_b2 (i := 5) rfl (by decide) rfl d4_44 rfl (fun T38 h38 S38 W38 A_b2 => ?_)
          replace X_t := X_t.wr W38
          replace F_t := F_t.other W38 (Or.inl ne_t_b2)
          replace A0 := A0.other W38 ne_p_b2
          refine px_iinc (v := (1 : Int32)) (r := (6 : Int32)) S38 d4_45 rfl rfl rfl (by decide) (L' := #[.val (.ref t), .val (.ref b2), .val (.int (6 : Int32))]) rfl ?_
          refine px_goto S38 d4_48 (by decide) (pc' := 15) rfl ?_
          refine px_iloadN S38 d4_15 rfl rfl ?_
          refine px_aloadN S38 d4_16 rfl rfl rfl ?_
          refine px_alenI (v := (6 : Int32)) S38 A_b2 rfl d4_17 rfl ?_
          refine px_icmp S38 d4_18 (by decide) (pc' := 51) rfl rfl (fun (hc39 : (6 : Int32).toInt ≥ (6 : Int32).toInt) => ?_) (fun (hc39 : (6 : Int32).toInt < (6 : Int32).toInt) => by exfalso; revert hc39; decide)
          refine px_aloadN S38 d4_51 rfl rfl rfl ?_
          exact px_retA S38 d4_52 rfl rfl rfl (by decide) (by decide) (⟨b2, (-1 : Int32), (0 : Int32), (1 : Int32), (2 : Int32), (3 : Int32), (0 : Int32), rfl, g_b2, ((((((((Keep.refl _ _).ext E2).wr W3 (Or.inr (Nat.le_of_eq z2.symm))).wr W8 (Or.inr (Nat.le_of_eq z2.symm))).wr W14 (Or.inr (Nat.le_of_eq z2.symm))).wr W20 (Or.inr (Nat.le_of_eq z2.symm))).wr W26 (Or.inr (Nat.le_of_eq z2.symm))).wr W38 (Or.inr (Nat.le_of_eq z2.symm))), A_b2.congr (all6 rfl rfl rfl rfl rfl rfl), rfl, rfl, Or.inr (⟨rfl, by omega⟩), Or.inr (Or.inr (⟨rfl, by omega⟩)), Or.inr (Or.inr (Or.inr (⟨rfl, by omega⟩))), Or.inl (⟨rfl, by omega, by omega, by omega, by omega⟩)⟩)
      · have hE40 : ¬ c1.toInt = c3.toInt := by omega
        have hE41 : ¬ c0.toInt = c3.toInt := by omega
        refine px_callS (as' := [(.ref t), (.ref b2), (.int (2 : Int32)), (.int c3)]) (st := [(.int (4 : Int32)), (.ref b2)]) (W := 2) S23 (c_next (n := 5) (m := 6) (k0 := 3) (nl := (5 : Int32)) (r := (0 : Int32)) hw S23.size ⟨X_t, F_t⟩ A0 A_b2 rfl (by decide) (by decide) (⟨2, by decide, by decide, (by rw [e_c2]; exact hE24), ⟨1, by decide, by decide, (by rw [e_c1]; exact hE40), ⟨0, by decide, by decide, (by rw [e_c0]; exact hE41), Or.inl ⟨by decide, rfl⟩⟩⟩⟩)) (hw _ (List.mem_of_getElem? (i := 46) rfl)) (hw _ (List.mem_of_getElem? (i := 47) rfl)) (hw _ (List.mem_of_getElem? (i := 4) rfl)) (hw _ (List.mem_of_getElem? (i := 48) rfl)) (by decide) pd_4_3 rfl rfl (by decide) rfl (by decide) (by decide) (by decide) d4_41 rfl rfl (fun T42 h42 v42 S42 q42 => ?_)
        obtain ⟨rfl, rfl⟩ := q42
        show Go _ _ _ _ _ _ _ [(.int (0 : Int32)), (.int (4 : Int32)), (.ref b2)]
        refine px_iastore (v := (0 : Int32)) S42 A_b2 g_b2 (i := 4) rfl (by decide) rfl d4_44 rfl (fun T43 h43 S43 W43 A_b2 => ?_)
        replace X_t := X_t.wr W43
        replace F_t := F_t.other W43 (Or.inl ne_t_b2)
        replace A0 := A0.other W43 ne_p_b2
        refine px_iinc (v := (1 : Int32)) (r := (5 : Int32)) S43 d4_45 rfl rfl rfl (by decide) (L' := #[.val (.ref t), .val (.ref b2), .val (.int (5 : Int32))]) rfl ?_
        refine px_goto S43 d4_48 (by decide) (pc' := 15) rfl ?_
        refine px_iloadN S43 d4_15 rfl rfl ?_
        refine px_aloadN S43 d4_16 rfl rfl rfl ?_
        refine px_alenI (v := (6 : Int32)) S43 A_b2 rfl d4_17 rfl ?_
        refine px_icmp S43 d4_18 (by decide) (pc' := 51) rfl rfl (fun (hc44 : (5 : Int32).toInt ≥ (6 : Int32).toInt) => by exfalso; revert hc44; decide) (fun (hc44 : (5 : Int32).toInt < (6 : Int32).toInt) => ?_)
        refine px_aloadN S43 d4_21 rfl rfl rfl ?_
        refine px_iloadN S43 d4_22 rfl rfl ?_
        refine px_aloadN S43 d4_23 rfl rfl rfl ?_
        refine px_aloadN S43 d4_24 rfl rfl rfl ?_
        refine px_aloadN S43 d4_25 rfl rfl rfl ?_
        refine px_aloadN S43 d4_26 rfl rfl rfl ?_
        refine px_iloadN S43 d4_27 rfl rfl ?_
        refine px_callI (Cn := "com/example/ghost_state/ghoststate/Shadows$Path") (as' := [(.int (5 : Int32))]) (st := [(.ref b2), (.ref b2), (.ref t), (.int (5 : Int32)), (.ref b2)]) (W := 5) S43 (c_parent (r := (4 : Int32)) hw S43.size (by decide)) X_t (hw _ (List.mem_of_getElem? (i := 30) rfl)) (hw _ (List.mem_of_getElem? (i := 31) rfl)) (hw _ (List.mem_of_getElem? (i := 32) rfl)) rfl (hw _ (List.mem_of_getElem? (i := 33) rfl)) (hw _ (List.mem_of_getElem? (i := 34) rfl)) (hw _ (List.mem_of_getElem? (i := 35) rfl)) (hw _ (List.mem_of_getElem? (i := 36) rfl)) (hw _ (List.mem_of_getElem? (i := 27) rfl)) (hw _ (List.mem_of_getElem? (i := 8) rfl)) (hw _ (List.mem_of_getElem? (i := 37) rfl)) (by decide) pd_4_1 rfl rfl (by decide) rfl (by decide) (by decide) (by decide) d4_28 rfl rfl (fun T45 h45 v45 S45 q45 => ?_)
        obtain ⟨rfl, rfl⟩ := q45
        show Go _ _ _ _ _ _ _ [(.int (4 : Int32)), (.ref b2), (.ref b2), (.ref t), (.int (5 : Int32)), (.ref b2)]
        refine px_iaload (v := (0 : Int32)) S45 A_b2 (i := 4) rfl (by decide) rfl d4_33 rfl ?_
        refine px_aloadN S45 d4_34 rfl rfl rfl ?_
        refine px_iloadN S45 d4_35 rfl rfl ?_
        refine px_callI (Cn := "com/example/ghost_state/ghoststate/Shadows$Path") (as' := [(.int (5 : Int32))]) (st := [(.int (0 : Int32)), (.ref b2), (.ref t), (.int (5 : Int32)), (.ref b2)]) (W := 5) S45 (c_elem (k := 4) (x := c4) hw S45.size ⟨X_t, F_t⟩ A0 (by decide) (by decide) e_c4 n_c4) X_t (hw _ (List.mem_of_getElem? (i := 38) rfl)) (hw _ (List.mem_of_getElem? (i := 39) rfl)) (hw _ (List.mem_of_getElem? (i := 40) rfl)) rfl (hw _ (List.mem_of_getElem? (i := 41) rfl)) (hw _ (List.mem_of_getElem? (i := 42) rfl)) (hw _ (List.mem_of_getElem? (i := 43) rfl)) (hw _ (List.mem_of_getElem? (i := 44) rfl)) (hw _ (List.mem_of_getElem? (i := 27) rfl)) (hw _ (List.mem_of_getElem? (i := 8) rfl)) (hw _ (List.mem_of_getElem? (i := 45) rfl)) (by decide) pd_4_2 rfl rfl (by decide) rfl (by decide) (by decide) (by decide) d4_36 rfl rfl (fun T46 h46 v46 S46 q46 => ?_)
        obtain ⟨rfl, rfl⟩ := q46
        show Go _ _ _ _ _ _ _ [(.int c4), (.int (0 : Int32)), (.ref b2), (.ref t), (.int (5 : Int32)), (.ref b2)]
        by_cases hE47 : c0.toInt = c4.toInt
        · refine px_callS (as' := [(.ref t), (.ref b2), (.int (0 : Int32)), (.int c4)]) (st := [(.int (5 : Int32)), (.ref b2)]) (W := 2) S46 (c_next (n := 5) (m := 6) (k0 := 0) (nl := (5 : Int32)) (r := (1 : Int32)) hw S46.size ⟨X_t, F_t⟩ A0 A_b2 rfl (by decide) (by decide) (Or.inr ⟨0, by decide, by decide, (by rw [e_c0]; exact hE47), by decide⟩)) (hw _ (List.mem_of_getElem? (i := 46) rfl)) (hw _ (List.mem_of_getElem? (i := 47) rfl)) (hw _ (List.mem_of_getElem? (i := 4) rfl)) (hw _ (List.mem_of_getElem? (i := 48) rfl)) (by decide) pd_4_3 rfl rfl (by decide) rfl (by decide) (by decide) (by decide) d4_41 rfl rfl (fun T48 h48 v48 S48 q48 => ?_)
          obtain ⟨rfl, rfl⟩ := q48
          show Go _ _ _ _ _ _ _ [(.int (1 : Int32)), (.int (5 : Int32)), (.ref b2)]
          refine px_iastore (v := (1 : Int32)) S48 A_b2 g_b2 (i := 5) rfl (by decide) rfl d4_44 rfl (fun T49 h49 S49 W49 A_b2 => ?_)
          replace X_t := X_t.wr W49
          replace F_t := F_t.other W49 (Or.inl ne_t_b2)
          replace A0 := A0.other W49 ne_p_b2
          refine px_iinc (v := (1 : Int32)) (r := (6 : Int32)) S49 d4_45 rfl rfl rfl (by decide) (L' := #[.val (.ref t), .val (.ref b2), .val (.int (6 : Int32))]) rfl ?_
          refine px_goto S49 d4_48 (by decide) (pc' := 15) rfl ?_
          refine px_iloadN S49 d4_15 rfl rfl ?_
          refine px_aloadN S49 d4_16 rfl rfl rfl ?_
          refine px_alenI (v := (6 : Int32)) S49 A_b2 rfl d4_17 rfl ?_
          refine px_icmp S49 d4_18 (by decide) (pc' := 51) rfl rfl (fun (hc50 : (6 : Int32).toInt ≥ (6 : Int32).toInt) => ?_) (fun (hc50 : (6 : Int32).toInt < (6 : Int32).toInt) => by exfalso; revert hc50; decide)
          refine px_aloadN S49 d4_51 rfl rfl rfl ?_
          exact px_retA S49 d4_52 rfl rfl rfl (by decide) (by decide) (⟨b2, (-1 : Int32), (0 : Int32), (1 : Int32), (2 : Int32), (0 : Int32), (1 : Int32), rfl, g_b2, ((((((((Keep.refl _ _).ext E2).wr W3 (Or.inr (Nat.le_of_eq z2.symm))).wr W8 (Or.inr (Nat.le_of_eq z2.symm))).wr W14 (Or.inr (Nat.le_of_eq z2.symm))).wr W20 (Or.inr (Nat.le_of_eq z2.symm))).wr W43 (Or.inr (Nat.le_of_eq z2.symm))).wr W49 (Or.inr (Nat.le_of_eq z2.symm))), A_b2.congr (all6 rfl rfl rfl rfl rfl rfl), rfl, rfl, Or.inr (⟨rfl, by omega⟩), Or.inr (Or.inr (⟨rfl, by omega⟩)), Or.inl (⟨rfl, by omega, by omega, by omega⟩), Or.inr (Or.inl (⟨rfl, by omega, by omega, by omega, by omega⟩))⟩)
        · refine px_callS (as' := [(.ref t), (.ref b2), (.int (0 : Int32)), (.int c4)]) (st := [(.int (5 : Int32)), (.ref b2)]) (W := 2) S46 (c_next (n := 5) (m := 6) (k0 := 1) (nl := (5 : Int32)) (r := (0 : Int32)) hw S46.size ⟨X_t, F_t⟩ A0 A_b2 rfl (by decide) (by decide) (⟨0, by decide, by decide, (by rw [e_c0]; exact hE47), Or.inl ⟨by decide, rfl⟩⟩)) (hw _ (List.mem_of_getElem? (i := 46) rfl)) (hw _ (List.mem_of_getElem? (i := 47) rfl)) (hw _ (List.mem_of_getElem? (i := 4) rfl)) (hw _ (List.mem_of_getElem? (i := 48) rfl)) (by decide) pd_4_3 rfl rfl (by decide) rfl (by decide) (by decide) (by decide) d4_41 rfl rfl (fun T51 h51 v51 S51 q51 => ?_)
          obtain ⟨rfl, rfl⟩ := q51
          show Go _ _ _ _ _ _ _ [(.int (0 : Int32)), (.int (5 : Int32)), (.ref b2)]
          refine px_iastore (v := (0 : Int32)) S51 A_b2 g_b2 (i := 5) rfl (by decide) rfl d4_44 rfl (fun T52 h52 S52 W52 A_b2 => ?_)
          replace X_t := X_t.wr W52
          replace F_t := F_t.other W52 (Or.inl ne_t_b2)
          replace A0 := A0.other W52 ne_p_b2
          refine px_iinc (v := (1 : Int32)) (r := (6 : Int32)) S52 d4_45 rfl rfl rfl (by decide) (L' := #[.val (.ref t), .val (.ref b2), .val (.int (6 : Int32))]) rfl ?_
          refine px_goto S52 d4_48 (by decide) (pc' := 15) rfl ?_
          refine px_iloadN S52 d4_15 rfl rfl ?_
          refine px_aloadN S52 d4_16 rfl rfl rfl ?_
          refine px_alenI (v := (6 : Int32)) S52 A_b2 rfl d4_17 rfl ?_
          refine px_icmp S52 d4_18 (by decide) (pc' := 51) rfl rfl (fun (hc53 : (6 : Int32).toInt ≥ (6 : Int32).toInt) => ?_) (fun (hc53 : (6 : Int32).toInt < (6 : Int32).toInt) => by exfalso; revert hc53; decide)
          refine px_aloadN S52 d4_51 rfl rfl rfl ?_
          exact px_retA S52 d4_52 rfl rfl rfl (by decide) (by decide) (⟨b2, (-1 : Int32), (0 : Int32), (1 : Int32), (2 : Int32), (0 : Int32), (0 : Int32), rfl, g_b2, ((((((((Keep.refl _ _).ext E2).wr W3 (Or.inr (Nat.le_of_eq z2.symm))).wr W8 (Or.inr (Nat.le_of_eq z2.symm))).wr W14 (Or.inr (Nat.le_of_eq z2.symm))).wr W20 (Or.inr (Nat.le_of_eq z2.symm))).wr W43 (Or.inr (Nat.le_of_eq z2.symm))).wr W52 (Or.inr (Nat.le_of_eq z2.symm))), A_b2.congr (all6 rfl rfl rfl rfl rfl rfl), rfl, rfl, Or.inr (⟨rfl, by omega⟩), Or.inr (Or.inr (⟨rfl, by omega⟩)), Or.inl (⟨rfl, by omega, by omega, by omega⟩), Or.inl (⟨rfl, by omega, by omega, by omega, by omega⟩)⟩)
    · have hE54 : ¬ c0.toInt = c2.toInt := by omega
      refine px_callS (as' := [(.ref t), (.ref b2), (.int (1 : Int32)), (.int c2)]) (st := [(.int (3 : Int32)), (.ref b2)]) (W := 2) S17 (c_next (n := 5) (m := 6) (k0 := 2) (nl := (5 : Int32)) (r := (0 : Int32)) hw S17.size ⟨X_t, F_t⟩ A0 A_b2 rfl (by decide) (by decide) (⟨1, by decide, by decide, (by rw [e_c1]; exact hE18), ⟨0, by decide, by decide, (by rw [e_c0]; exact hE54), Or.inl ⟨by decide, rfl⟩⟩⟩)) (hw _ (List.mem_of_getElem? (i := 46) rfl)) (hw _ (List.mem_of_getElem? (i := 47) rfl)) (hw _ (List.mem_of_getElem? (i := 4) rfl)) (hw _ (List.mem_of_getElem? (i := 48) rfl)) (by decide) pd_4_3 rfl rfl (by decide) rfl (by decide) (by decide) (by decide) d4_41 rfl rfl (fun T55 h55 v55 S55 q55 => ?_)
      obtain ⟨rfl, rfl⟩ := q55
      show Go _ _ _ _ _ _ _ [(.int (0 : Int32)), (.int (3 : Int32)), (.ref b2)]
      refine px_iastore (v := (0 : Int32)) S55 A_b2 g_b2 (i := 3) rfl (by decide) rfl d4_44 rfl (fun T56 h56 S56 W56 A_b2 => ?_)
      replace X_t := X_t.wr W56
      replace F_t := F_t.other W56 (Or.inl ne_t_b2)
      replace A0 := A0.other W56 ne_p_b2
      refine px_iinc (v := (1 : Int32)) (r := (4 : Int32)) S56 d4_45 rfl rfl rfl (by decide) (L' := #[.val (.ref t), .val (.ref b2), .val (.int (4 : Int32))]) rfl ?_
      refine px_goto S56 d4_48 (by decide) (pc' := 15) rfl ?_
      refine px_iloadN S56 d4_15 rfl rfl ?_
      refine px_aloadN S56 d4_16 rfl rfl rfl ?_
      refine px_alenI (v := (6 : Int32)) S56 A_b2 rfl d4_17 rfl ?_
      refine px_icmp S56 d4_18 (by decide) (pc' := 51) rfl rfl (fun (hc57 : (4 : Int32).toInt ≥ (6 : Int32).toInt) => by exfalso; revert hc57; decide) (fun (hc57 : (4 : Int32).toInt < (6 : Int32).toInt) => ?_)
      refine px_aloadN S56 d4_21 rfl rfl rfl ?_
      refine px_iloadN S56 d4_22 rfl rfl ?_
      refine px_aloadN S56 d4_23 rfl rfl rfl ?_
      refine px_aloadN S56 d4_24 rfl rfl rfl ?_
      refine px_aloadN S56 d4_25 rfl rfl rfl ?_
      refine px_aloadN S56 d4_26 rfl rfl rfl ?_
      refine px_iloadN S56 d4_27 rfl rfl ?_
      refine px_callI (Cn := "com/example/ghost_state/ghoststate/Shadows$Path") (as' := [(.int (4 : Int32))]) (st := [(.ref b2), (.ref b2), (.ref t), (.int (4 : Int32)), (.ref b2)]) (W := 5) S56 (c_parent (r := (3 : Int32)) hw S56.size (by decide)) X_t (hw _ (List.mem_of_getElem? (i := 30) rfl)) (hw _ (List.mem_of_getElem? (i := 31) rfl)) (hw _ (List.mem_of_getElem? (i := 32) rfl)) rfl (hw _ (List.mem_of_getElem? (i := 33) rfl)) (hw _ (List.mem_of_getElem? (i := 34) rfl)) (hw _ (List.mem_of_getElem? (i := 35) rfl)) (hw _ (List.mem_of_getElem? (i := 36) rfl)) (hw _ (List.mem_of_getElem? (i := 27) rfl)) (hw _ (List.mem_of_getElem? (i := 8) rfl)) (hw _ (List.mem_of_getElem? (i := 37) rfl)) (by decide) pd_4_1 rfl rfl (by decide) rfl (by decide) (by decide) (by decide) d4_28 rfl rfl (fun T58 h58 v58 S58 q58 => ?_)
      obtain ⟨rfl, rfl⟩ := q58
      show Go _ _ _ _ _ _ _ [(.int (3 : Int32)), (.ref b2), (.ref b2), (.ref t), (.int (4 : Int32)), (.ref b2)]
      refine px_iaload (v := (0 : Int32)) S58 A_b2 (i := 3) rfl (by decide) rfl d4_33 rfl ?_
      refine px_aloadN S58 d4_34 rfl rfl rfl ?_
      refine px_iloadN S58 d4_35 rfl rfl ?_
      refine px_callI (Cn := "com/example/ghost_state/ghoststate/Shadows$Path") (as' := [(.int (4 : Int32))]) (st := [(.int (0 : Int32)), (.ref b2), (.ref t), (.int (4 : Int32)), (.ref b2)]) (W := 5) S58 (c_elem (k := 3) (x := c3) hw S58.size ⟨X_t, F_t⟩ A0 (by decide) (by decide) e_c3 n_c3) X_t (hw _ (List.mem_of_getElem? (i := 38) rfl)) (hw _ (List.mem_of_getElem? (i := 39) rfl)) (hw _ (List.mem_of_getElem? (i := 40) rfl)) rfl (hw _ (List.mem_of_getElem? (i := 41) rfl)) (hw _ (List.mem_of_getElem? (i := 42) rfl)) (hw _ (List.mem_of_getElem? (i := 43) rfl)) (hw _ (List.mem_of_getElem? (i := 44) rfl)) (hw _ (List.mem_of_getElem? (i := 27) rfl)) (hw _ (List.mem_of_getElem? (i := 8) rfl)) (hw _ (List.mem_of_getElem? (i := 45) rfl)) (by decide) pd_4_2 rfl rfl (by decide) rfl (by decide) (by decide) (by decide) d4_36 rfl rfl (fun T59 h59 v59 S59 q59 => ?_)
      obtain ⟨rfl, rfl⟩ := q59
      show Go _ _ _ _ _ _ _ [(.int c3), (.int (0 : Int32)), (.ref b2), (.ref t), (.int (4 : Int32)), (.ref b2)]
      by_cases hE60 : c0.toInt = c3.toInt
      · refine px_callS (as' := [(.ref t), (.ref b2), (.int (0 : Int32)), (.int c3)]) (st := [(.int (4 : Int32)), (.ref b2)]) (W := 2) S59 (c_next (n := 5) (m := 6) (k0 := 0) (nl := (5 : Int32)) (r := (1 : Int32)) hw S59.size ⟨X_t, F_t⟩ A0 A_b2 rfl (by decide) (by decide) (Or.inr ⟨0, by decide, by decide, (by rw [e_c0]; exact hE60), by decide⟩)) (hw _ (List.mem_of_getElem? (i := 46) rfl)) (hw _ (List.mem_of_getElem? (i := 47) rfl)) (hw _ (List.mem_of_getElem? (i := 4) rfl)) (hw _ (List.mem_of_getElem? (i := 48) rfl)) (by decide) pd_4_3 rfl rfl (by decide) rfl (by decide) (by decide) (by decide) d4_41 rfl rfl (fun T61 h61 v61 S61 q61 => ?_)
        obtain ⟨rfl, rfl⟩ := q61
        show Go _ _ _ _ _ _ _ [(.int (1 : Int32)), (.int (4 : Int32)), (.ref b2)]
        refine px_iastore (v := (1 : Int32)) S61 A_b2 g_b2 (i := 4) rfl (by decide) rfl d4_44 rfl (fun T62 h62 S62 W62 A_b2 => ?_)
        replace X_t := X_t.wr W62
        replace F_t := F_t.other W62 (Or.inl ne_t_b2)
        replace A0 := A0.other W62 ne_p_b2
        refine px_iinc (v := (1 : Int32)) (r := (5 : Int32)) S62 d4_45 rfl rfl rfl (by decide) (L' := #[.val (.ref t), .val (.ref b2), .val (.int (5 : Int32))]) rfl ?_
        refine px_goto S62 d4_48 (by decide) (pc' := 15) rfl ?_
        refine px_iloadN S62 d4_15 rfl rfl ?_
        refine px_aloadN S62 d4_16 rfl rfl rfl ?_
        refine px_alenI (v := (6 : Int32)) S62 A_b2 rfl d4_17 rfl ?_
        refine px_icmp S62 d4_18 (by decide) (pc' := 51) rfl rfl (fun (hc63 : (5 : Int32).toInt ≥ (6 : Int32).toInt) => by exfalso; revert hc63; decide) (fun (hc63 : (5 : Int32).toInt < (6 : Int32).toInt) => ?_)
        refine px_aloadN S62 d4_21 rfl rfl rfl ?_
        refine px_iloadN S62 d4_22 rfl rfl ?_
        refine px_aloadN S62 d4_23 rfl rfl rfl ?_
        refine px_aloadN S62 d4_24 rfl rfl rfl ?_
        refine px_aloadN S62 d4_25 rfl rfl rfl ?_
        refine px_aloadN S62 d4_26 rfl rfl rfl ?_
        refine px_iloadN S62 d4_27 rfl rfl ?_
        refine px_callI (Cn := "com/example/ghost_state/ghoststate/Shadows$Path") (as' := [(.int (5 : Int32))]) (st := [(.ref b2), (.ref b2), (.ref t), (.int (5 : Int32)), (.ref b2)]) (W := 5) S62 (c_parent (r := (4 : Int32)) hw S62.size (by decide)) X_t (hw _ (List.mem_of_getElem? (i := 30) rfl)) (hw _ (List.mem_of_getElem? (i := 31) rfl)) (hw _ (List.mem_of_getElem? (i := 32) rfl)) rfl (hw _ (List.mem_of_getElem? (i := 33) rfl)) (hw _ (List.mem_of_getElem? (i := 34) rfl)) (hw _ (List.mem_of_getElem? (i := 35) rfl)) (hw _ (List.mem_of_getElem? (i := 36) rfl)) (hw _ (List.mem_of_getElem? (i := 27) rfl)) (hw _ (List.mem_of_getElem? (i := 8) rfl)) (hw _ (List.mem_of_getElem? (i := 37) rfl)) (by decide) pd_4_1 rfl rfl (by decide) rfl (by decide) (by decide) (by decide) d4_28 rfl rfl (fun T64 h64 v64 S64 q64 => ?_)
        obtain ⟨rfl, rfl⟩ := q64
        show Go _ _ _ _ _ _ _ [(.int (4 : Int32)), (.ref b2), (.ref b2), (.ref t), (.int (5 : Int32)), (.ref b2)]
        refine px_iaload (v := (1 : Int32)) S64 A_b2 (i := 4) rfl (by decide) rfl d4_33 rfl ?_
        refine px_aloadN S64 d4_34 rfl rfl rfl ?_
        refine px_iloadN S64 d4_35 rfl rfl ?_
        refine px_callI (Cn := "com/example/ghost_state/ghoststate/Shadows$Path") (as' := [(.int (5 : Int32))]) (st := [(.int (1 : Int32)), (.ref b2), (.ref t), (.int (5 : Int32)), (.ref b2)]) (W := 5) S64 (c_elem (k := 4) (x := c4) hw S64.size ⟨X_t, F_t⟩ A0 (by decide) (by decide) e_c4 n_c4) X_t (hw _ (List.mem_of_getElem? (i := 38) rfl)) (hw _ (List.mem_of_getElem? (i := 39) rfl)) (hw _ (List.mem_of_getElem? (i := 40) rfl)) rfl (hw _ (List.mem_of_getElem? (i := 41) rfl)) (hw _ (List.mem_of_getElem? (i := 42) rfl)) (hw _ (List.mem_of_getElem? (i := 43) rfl)) (hw _ (List.mem_of_getElem? (i := 44) rfl)) (hw _ (List.mem_of_getElem? (i := 27) rfl)) (hw _ (List.mem_of_getElem? (i := 8) rfl)) (hw _ (List.mem_of_getElem? (i := 45) rfl)) (by decide) pd_4_2 rfl rfl (by decide) rfl (by decide) (by decide) (by decide) d4_36 rfl rfl (fun T65 h65 v65 S65 q65 => ?_)
        obtain ⟨rfl, rfl⟩ := q65
        show Go _ _ _ _ _ _ _ [(.int c4), (.int (1 : Int32)), (.ref b2), (.ref t), (.int (5 : Int32)), (.ref b2)]
        by_cases hE66 : c1.toInt = c4.toInt
        · refine px_callS (as' := [(.ref t), (.ref b2), (.int (1 : Int32)), (.int c4)]) (st := [(.int (5 : Int32)), (.ref b2)]) (W := 2) S65 (c_next (n := 5) (m := 6) (k0 := 0) (nl := (5 : Int32)) (r := (2 : Int32)) hw S65.size ⟨X_t, F_t⟩ A0 A_b2 rfl (by decide) (by decide) (Or.inr ⟨1, by decide, by decide, (by rw [e_c1]; exact hE66), by decide⟩)) (hw _ (List.mem_of_getElem? (i := 46) rfl)) (hw _ (List.mem_of_getElem? (i := 47) rfl)) (hw _ (List.mem_of_getElem? (i := 4) rfl)) (hw _ (List.mem_of_getElem? (i := 48) rfl)) (by decide) pd_4_3 rfl rfl (by decide) rfl (by decide) (by decide) (by decide) d4_41 rfl rfl (fun T67 h67 v67 S67 q67 => ?_)
          obtain ⟨rfl, rfl⟩ := q67
          show Go _ _ _ _ _ _ _ [(.int (2 : Int32)), (.int (5 : Int32)), (.ref b2)]
          refine px_iastore (v := (2 : Int32)) S67 A_b2 g_b2 (i := 5) rfl (by decide) rfl d4_44 rfl (fun T68 h68 S68 W68 A_b2 => ?_)
          replace X_t := X_t.wr W68
          replace F_t := F_t.other W68 (Or.inl ne_t_b2)
          replace A0 := A0.other W68 ne_p_b2
          refine px_iinc (v := (1 : Int32)) (r := (6 : Int32)) S68 d4_45 rfl rfl rfl (by decide) (L' := #[.val (.ref t), .val (.ref b2), .val (.int (6 : Int32))]) rfl ?_
          refine px_goto S68 d4_48 (by decide) (pc' := 15) rfl ?_
          refine px_iloadN S68 d4_15 rfl rfl ?_
          refine px_aloadN S68 d4_16 rfl rfl rfl ?_
          refine px_alenI (v := (6 : Int32)) S68 A_b2 rfl d4_17 rfl ?_
          refine px_icmp S68 d4_18 (by decide) (pc' := 51) rfl rfl (fun (hc69 : (6 : Int32).toInt ≥ (6 : Int32).toInt) => ?_) (fun (hc69 : (6 : Int32).toInt < (6 : Int32).toInt) => by exfalso; revert hc69; decide)
          refine px_aloadN S68 d4_51 rfl rfl rfl ?_
          exact px_retA S68 d4_52 rfl rfl rfl (by decide) (by decide) (⟨b2, (-1 : Int32), (0 : Int32), (1 : Int32), (0 : Int32), (1 : Int32), (2 : Int32), rfl, g_b2, ((((((((Keep.refl _ _).ext E2).wr W3 (Or.inr (Nat.le_of_eq z2.symm))).wr W8 (Or.inr (Nat.le_of_eq z2.symm))).wr W14 (Or.inr (Nat.le_of_eq z2.symm))).wr W56 (Or.inr (Nat.le_of_eq z2.symm))).wr W62 (Or.inr (Nat.le_of_eq z2.symm))).wr W68 (Or.inr (Nat.le_of_eq z2.symm))), A_b2.congr (all6 rfl rfl rfl rfl rfl rfl), rfl, rfl, Or.inr (⟨rfl, by omega⟩), Or.inl (⟨rfl, by omega, by omega⟩), Or.inr (Or.inl (⟨rfl, by omega, by omega, by omega⟩)), Or.inr (Or.inr (Or.inl (⟨rfl, by omega, by omega, by omega⟩)))⟩)
        · have hE70 : ¬ c0.toInt = c4.toInt := by omega
          refine px_callS (as' := [(.ref t), (.ref b2), (.int (1 : Int32)), (.int c4)]) (st := [(.int (5 : Int32)), (.ref b2)]) (W := 2) S65 (c_next (n := 5) (m := 6) (k0 := 2) (nl := (5 : Int32)) (r := (0 : Int32)) hw S65.size ⟨X_t, F_t⟩ A0 A_b2 rfl (by decide) (by decide) (⟨1, by decide, by decide, (by rw [e_c1]; exact hE66), ⟨0, by decide, by decide, (by rw [e_c0]; exact hE70), Or.inl ⟨by decide, rfl⟩⟩⟩)) (hw _ (List.mem_of_getElem? (i := 46) rfl)) (hw _ (List.mem_of_getElem? (i := 47) rfl)) (hw _ (List.mem_of_getElem? (i := 4) rfl)) (hw _ (List.mem_of_getElem? (i := 48) rfl)) (by decide) pd_4_3 rfl rfl (by decide) rfl (by decide) (by decide) (by decide) d4_41 rfl rfl (fun T71 h71 v71 S71 q71 => ?_)
          obtain ⟨rfl, rfl⟩ := q71
          show Go _ _ _ _ _ _ _ [(.int (0 : Int32)), (.int (5 : Int32)), (.ref b2)]
          refine px_iastore (v := (0 : Int32)) S71 A_b2 g_b2 (i := 5) rfl (by decide) rfl d4_44 rfl (fun T72 h72 S72 W72 A_b2 => ?_)
          replace X_t := X_t.wr W72
          replace F_t := F_t.other W72 (Or.inl ne_t_b2)
          replace A0 := A0.other W72 ne_p_b2
          refine px_iinc (v := (1 : Int32)) (r := (6 : Int32)) S72 d4_45 rfl rfl rfl (by decide) (L' := #[.val (.ref t), .val (.ref b2), .val (.int (6 : Int32))]) rfl ?_
          refine px_goto S72 d4_48 (by decide) (pc' := 15) rfl ?_
          refine px_iloadN S72 d4_15 rfl rfl ?_
          refine px_aloadN S72 d4_16 rfl rfl rfl ?_
          refine px_alenI (v := (6 : Int32)) S72 A_b2 rfl d4_17 rfl ?_
          refine px_icmp S72 d4_18 (by decide) (pc' := 51) rfl rfl (fun (hc73 : (6 : Int32).toInt ≥ (6 : Int32).toInt) => ?_) (fun (hc73 : (6 : Int32).toInt < (6 : Int32).toInt) => by exfalso; revert hc73; decide)
          refine px_aloadN S72 d4_51 rfl rfl rfl ?_
          exact px_retA S72 d4_52 rfl rfl rfl (by decide) (by decide) (⟨b2, (-1 : Int32), (0 : Int32), (1 : Int32), (0 : Int32), (1 : Int32), (0 : Int32), rfl, g_b2, ((((((((Keep.refl _ _).ext E2).wr W3 (Or.inr (Nat.le_of_eq z2.symm))).wr W8 (Or.inr (Nat.le_of_eq z2.symm))).wr W14 (Or.inr (Nat.le_of_eq z2.symm))).wr W56 (Or.inr (Nat.le_of_eq z2.symm))).wr W62 (Or.inr (Nat.le_of_eq z2.symm))).wr W72 (Or.inr (Nat.le_of_eq z2.symm))), A_b2.congr (all6 rfl rfl rfl rfl rfl rfl), rfl, rfl, Or.inr (⟨rfl, by omega⟩), Or.inl (⟨rfl, by omega, by omega⟩), Or.inr (Or.inl (⟨rfl, by omega, by omega, by omega⟩)), Or.inl (⟨rfl, by omega, by omega, by omega, by omega⟩)⟩)
      · refine px_callS (as' := [(.ref t), (.ref b2), (.int (0 : Int32)), (.int c3)]) (st := [(.int (4 : Int32)), (.ref b2)]) (W := 2) S59 (c_next (n := 5) (m := 6) (k0 := 1) (nl := (5 : Int32)) (r := (0 : Int32)) hw S59.size ⟨X_t, F_t⟩ A0 A_b2 rfl (by decide) (by decide) (⟨0, by decide, by decide, (by rw [e_c0]; exact hE60), Or.inl ⟨by decide, rfl⟩⟩)) (hw _ (List.mem_of_getElem? (i := 46) rfl)) (hw _ (List.mem_of_getElem? (i := 47) rfl)) (hw _ (List.mem_of_getElem? (i := 4) rfl)) (hw _ (List.mem_of_getElem? (i := 48) rfl)) (by decide) pd_4_3 rfl rfl (by decide) rfl (by decide) (by decide) (by decide) d4_41 rfl rfl (fun T74 h74 v74 S74 q74 => ?_)
        obtain ⟨rfl, rfl⟩ := q74
        show Go _ _ _ _ _ _ _ [(.int (0 : Int32)), (.int (4 : Int32)), (.ref b2)]
        refine px_iastore (v := (0 : Int32)) S74 A_b2 g_b2 (i := 4) rfl (by decide) rfl d4_44 rfl (fun T75 h75 S75 W75 A_b2 => ?_)
        replace X_t := X_t.wr W75
        replace F_t := F_t.other W75 (Or.inl ne_t_b2)
        replace A0 := A0.other W75 ne_p_b2
        refine px_iinc (v := (1 : Int32)) (r := (5 : Int32)) S75 d4_45 rfl rfl rfl (by decide) (L' := #[.val (.ref t), .val (.ref b2), .val (.int (5 : Int32))]) rfl ?_
        refine px_goto S75 d4_48 (by decide) (pc' := 15) rfl ?_
        refine px_iloadN S75 d4_15 rfl rfl ?_
        refine px_aloadN S75 d4_16 rfl rfl rfl ?_
        refine px_alenI (v := (6 : Int32)) S75 A_b2 rfl d4_17 rfl ?_
        refine px_icmp S75 d4_18 (by decide) (pc' := 51) rfl rfl (fun (hc76 : (5 : Int32).toInt ≥ (6 : Int32).toInt) => by exfalso; revert hc76; decide) (fun (hc76 : (5 : Int32).toInt < (6 : Int32).toInt) => ?_)
        refine px_aloadN S75 d4_21 rfl rfl rfl ?_
        refine px_iloadN S75 d4_22 rfl rfl ?_
        refine px_aloadN S75 d4_23 rfl rfl rfl ?_
        refine px_aloadN S75 d4_24 rfl rfl rfl ?_
        refine px_aloadN S75 d4_25 rfl rfl rfl ?_
        refine px_aloadN S75 d4_26 rfl rfl rfl ?_
        refine px_iloadN S75 d4_27 rfl rfl ?_
        refine px_callI (Cn := "com/example/ghost_state/ghoststate/Shadows$Path") (as' := [(.int (5 : Int32))]) (st := [(.ref b2), (.ref b2), (.ref t), (.int (5 : Int32)), (.ref b2)]) (W := 5) S75 (c_parent (r := (4 : Int32)) hw S75.size (by decide)) X_t (hw _ (List.mem_of_getElem? (i := 30) rfl)) (hw _ (List.mem_of_getElem? (i := 31) rfl)) (hw _ (List.mem_of_getElem? (i := 32) rfl)) rfl (hw _ (List.mem_of_getElem? (i := 33) rfl)) (hw _ (List.mem_of_getElem? (i := 34) rfl)) (hw _ (List.mem_of_getElem? (i := 35) rfl)) (hw _ (List.mem_of_getElem? (i := 36) rfl)) (hw _ (List.mem_of_getElem? (i := 27) rfl)) (hw _ (List.mem_of_getElem? (i := 8) rfl)) (hw _ (List.mem_of_getElem? (i := 37) rfl)) (by decide) pd_4_1 rfl rfl (by decide) rfl (by decide) (by decide) (by decide) d4_28 rfl rfl (fun T77 h77 v77 S77 q77 => ?_)
        obtain ⟨rfl, rfl⟩ := q77
        show Go _ _ _ _ _ _ _ [(.int (4 : Int32)), (.ref b2), (.ref b2), (.ref t), (.int (5 : Int32)), (.ref b2)]
        refine px_iaload (v := (0 : Int32)) S77 A_b2 (i := 4) rfl (by decide) rfl d4_33 rfl ?_
        refine px_aloadN S77 d4_34 rfl rfl rfl ?_
        refine px_iloadN S77 d4_35 rfl rfl ?_
        refine px_callI (Cn := "com/example/ghost_state/ghoststate/Shadows$Path") (as' := [(.int (5 : Int32))]) (st := [(.int (0 : Int32)), (.ref b2), (.ref t), (.int (5 : Int32)), (.ref b2)]) (W := 5) S77 (c_elem (k := 4) (x := c4) hw S77.size ⟨X_t, F_t⟩ A0 (by decide) (by decide) e_c4 n_c4) X_t (hw _ (List.mem_of_getElem? (i := 38) rfl)) (hw _ (List.mem_of_getElem? (i := 39) rfl)) (hw _ (List.mem_of_getElem? (i := 40) rfl)) rfl (hw _ (List.mem_of_getElem? (i := 41) rfl)) (hw _ (List.mem_of_getElem? (i := 42) rfl)) (hw _ (List.mem_of_getElem? (i := 43) rfl)) (hw _ (List.mem_of_getElem? (i := 44) rfl)) (hw _ (List.mem_of_getElem? (i := 27) rfl)) (hw _ (List.mem_of_getElem? (i := 8) rfl)) (hw _ (List.mem_of_getElem? (i := 45) rfl)) (by decide) pd_4_2 rfl rfl (by decide) rfl (by decide) (by decide) (by decide) d4_36 rfl rfl (fun T78 h78 v78 S78 q78 => ?_)
        obtain ⟨rfl, rfl⟩ := q78
        show Go _ _ _ _ _ _ _ [(.int c4), (.int (0 : Int32)), (.ref b2), (.ref t), (.int (5 : Int32)), (.ref b2)]
        by_cases hE79 : c0.toInt = c4.toInt
        · refine px_callS (as' := [(.ref t), (.ref b2), (.int (0 : Int32)), (.int c4)]) (st := [(.int (5 : Int32)), (.ref b2)]) (W := 2) S78 (c_next (n := 5) (m := 6) (k0 := 0) (nl := (5 : Int32)) (r := (1 : Int32)) hw S78.size ⟨X_t, F_t⟩ A0 A_b2 rfl (by decide) (by decide) (Or.inr ⟨0, by decide, by decide, (by rw [e_c0]; exact hE79), by decide⟩)) (hw _ (List.mem_of_getElem? (i := 46) rfl)) (hw _ (List.mem_of_getElem? (i := 47) rfl)) (hw _ (List.mem_of_getElem? (i := 4) rfl)) (hw _ (List.mem_of_getElem? (i := 48) rfl)) (by decide) pd_4_3 rfl rfl (by decide) rfl (by decide) (by decide) (by decide) d4_41 rfl rfl (fun T80 h80 v80 S80 q80 => ?_)
          obtain ⟨rfl, rfl⟩ := q80
          show Go _ _ _ _ _ _ _ [(.int (1 : Int32)), (.int (5 : Int32)), (.ref b2)]
          refine px_iastore (v := (1 : Int32)) S80 A_b2 g_b2 (i := 5) rfl (by decide) rfl d4_44 rfl (fun T81 h81 S81 W81 A_b2 => ?_)
          replace X_t := X_t.wr W81
          replace F_t := F_t.other W81 (Or.inl ne_t_b2)
          replace A0 := A0.other W81 ne_p_b2
          refine px_iinc (v := (1 : Int32)) (r := (6 : Int32)) S81 d4_45 rfl rfl rfl (by decide) (L' := #[.val (.ref t), .val (.ref b2), .val (.int (6 : Int32))]) rfl ?_
          refine px_goto S81 d4_48 (by decide) (pc' := 15) rfl ?_
          refine px_iloadN S81 d4_15 rfl rfl ?_
          refine px_aloadN S81 d4_16 rfl rfl rfl ?_
          refine px_alenI (v := (6 : Int32)) S81 A_b2 rfl d4_17 rfl ?_
          refine px_icmp S81 d4_18 (by decide) (pc' := 51) rfl rfl (fun (hc82 : (6 : Int32).toInt ≥ (6 : Int32).toInt) => ?_) (fun (hc82 : (6 : Int32).toInt < (6 : Int32).toInt) => by exfalso; revert hc82; decide)
          refine px_aloadN S81 d4_51 rfl rfl rfl ?_
          exact px_retA S81 d4_52 rfl rfl rfl (by decide) (by decide) (⟨b2, (-1 : Int32), (0 : Int32), (1 : Int32), (0 : Int32), (0 : Int32), (1 : Int32), rfl, g_b2, ((((((((Keep.refl _ _).ext E2).wr W3 (Or.inr (Nat.le_of_eq z2.symm))).wr W8 (Or.inr (Nat.le_of_eq z2.symm))).wr W14 (Or.inr (Nat.le_of_eq z2.symm))).wr W56 (Or.inr (Nat.le_of_eq z2.symm))).wr W75 (Or.inr (Nat.le_of_eq z2.symm))).wr W81 (Or.inr (Nat.le_of_eq z2.symm))), A_b2.congr (all6 rfl rfl rfl rfl rfl rfl), rfl, rfl, Or.inr (⟨rfl, by omega⟩), Or.inl (⟨rfl, by omega, by omega⟩), Or.inl (⟨rfl, by omega, by omega, by omega⟩), Or.inr (Or.inl (⟨rfl, by omega, by omega, by omega, by omega⟩))⟩)
        · refine px_callS (as' := [(.ref t), (.ref b2), (.int (0 : Int32)), (.int c4)]) (st := [(.int (5 : Int32)), (.ref b2)]) (W := 2) S78 (c_next (n := 5) (m := 6) (k0 := 1) (nl := (5 : Int32)) (r := (0 : Int32)) hw S78.size ⟨X_t, F_t⟩ A0 A_b2 rfl (by decide) (by decide) (⟨0, by decide, by decide, (by rw [e_c0]; exact hE79), Or.inl ⟨by decide, rfl⟩⟩)) (hw _ (List.mem_of_getElem? (i := 46) rfl)) (hw _ (List.mem_of_getElem? (i := 47) rfl)) (hw _ (List.mem_of_getElem? (i := 4) rfl)) (hw _ (List.mem_of_getElem? (i := 48) rfl)) (by decide) pd_4_3 rfl rfl (by decide) rfl (by decide) (by decide) (by decide) d4_41 rfl rfl (fun T83 h83 v83 S83 q83 => ?_)
          obtain ⟨rfl, rfl⟩ := q83
          show Go _ _ _ _ _ _ _ [(.int (0 : Int32)), (.int (5 : Int32)), (.ref b2)]
          refine px_iastore (v := (0 : Int32)) S83 A_b2 g_b2 (i := 5) rfl (by decide) rfl d4_44 rfl (fun T84 h84 S84 W84 A_b2 => ?_)
          replace X_t := X_t.wr W84
          replace F_t := F_t.other W84 (Or.inl ne_t_b2)
          replace A0 := A0.other W84 ne_p_b2
          refine px_iinc (v := (1 : Int32)) (r := (6 : Int32)) S84 d4_45 rfl rfl rfl (by decide) (L' := #[.val (.ref t), .val (.ref b2), .val (.int (6 : Int32))]) rfl ?_
          refine px_goto S84 d4_48 (by decide) (pc' := 15) rfl ?_
          refine px_iloadN S84 d4_15 rfl rfl ?_
          refine px_aloadN S84 d4_16 rfl rfl rfl ?_
          refine px_alenI (v := (6 : Int32)) S84 A_b2 rfl d4_17 rfl ?_
          refine px_icmp S84 d4_18 (by decide) (pc' := 51) rfl rfl (fun (hc85 : (6 : Int32).toInt ≥ (6 : Int32).toInt) => ?_) (fun (hc85 : (6 : Int32).toInt < (6 : Int32).toInt) => by exfalso; revert hc85; decide)
          refine px_aloadN S84 d4_51 rfl rfl rfl ?_
          exact px_retA S84 d4_52 rfl rfl rfl (by decide) (by decide) (⟨b2, (-1 : Int32), (0 : Int32), (1 : Int32), (0 : Int32), (0 : Int32), (0 : Int32), rfl, g_b2, ((((((((Keep.refl _ _).ext E2).wr W3 (Or.inr (Nat.le_of_eq z2.symm))).wr W8 (Or.inr (Nat.le_of_eq z2.symm))).wr W14 (Or.inr (Nat.le_of_eq z2.symm))).wr W56 (Or.inr (Nat.le_of_eq z2.symm))).wr W75 (Or.inr (Nat.le_of_eq z2.symm))).wr W84 (Or.inr (Nat.le_of_eq z2.symm))), A_b2.congr (all6 rfl rfl rfl rfl rfl rfl), rfl, rfl, Or.inr (⟨rfl, by omega⟩), Or.inl (⟨rfl, by omega, by omega⟩), Or.inl (⟨rfl, by omega, by omega, by omega⟩), Or.inl (⟨rfl, by omega, by omega, by omega, by omega⟩)⟩)
  · refine px_callS (as' := [(.ref t), (.ref b2), (.int (0 : Int32)), (.int c1)]) (st := [(.int (2 : Int32)), (.ref b2)]) (W := 2) S11 (c_next (n := 5) (m := 6) (k0 := 1) (nl := (5 : Int32)) (r := (0 : Int32)) hw S11.size ⟨X_t, F_t⟩ A0 A_b2 rfl (by decide) (by decide) (⟨0, by decide, by decide, (by rw [e_c0]; exact hE12), Or.inl ⟨by decide, rfl⟩⟩)) (hw _ (List.mem_of_getElem? (i := 46) rfl)) (hw _ (List.mem_of_getElem? (i := 47) rfl)) (hw _ (List.mem_of_getElem? (i := 4) rfl)) (hw _ (List.mem_of_getElem? (i := 48) rfl)) (by decide) pd_4_3 rfl rfl (by decide) rfl (by decide) (by decide) (by decide) d4_41 rfl rfl (fun T86 h86 v86 S86 q86 => ?_)
    obtain ⟨rfl, rfl⟩ := q86
    show Go _ _ _ _ _ _ _ [(.int (0 : Int32)), (.int (2 : Int32)), (.ref b2)]
    refine px_iastore (v := (0 : Int32)) S86 A_b2 g_b2 (i := 2) rfl (by decide) rfl d4_44 rfl (fun T87 h87 S87 W87 A_b2 => ?_)
    replace X_t := X_t.wr W87
    replace F_t := F_t.other W87 (Or.inl ne_t_b2)
    replace A0 := A0.other W87 ne_p_b2
    refine px_iinc (v := (1 : Int32)) (r := (3 : Int32)) S87 d4_45 rfl rfl rfl (by decide) (L' := #[.val (.ref t), .val (.ref b2), .val (.int (3 : Int32))]) rfl ?_
    refine px_goto S87 d4_48 (by decide) (pc' := 15) rfl ?_
    refine px_iloadN S87 d4_15 rfl rfl ?_
    refine px_aloadN S87 d4_16 rfl rfl rfl ?_
    refine px_alenI (v := (6 : Int32)) S87 A_b2 rfl d4_17 rfl ?_
    refine px_icmp S87 d4_18 (by decide) (pc' := 51) rfl rfl (fun (hc88 : (3 : Int32).toInt ≥ (6 : Int32).toInt) => by exfalso; revert hc88; decide) (fun (hc88 : (3 : Int32).toInt < (6 : Int32).toInt) => ?_)
    refine px_aloadN S87 d4_21 rfl rfl rfl ?_
    refine px_iloadN S87 d4_22 rfl rfl ?_
    refine px_aloadN S87 d4_23 rfl rfl rfl ?_
    refine px_aloadN S87 d4_24 rfl rfl rfl ?_
    refine px_aloadN S87 d4_25 rfl rfl rfl ?_
    refine px_aloadN S87 d4_26 rfl rfl rfl ?_
    refine px_iloadN S87 d4_27 rfl rfl ?_
    refine px_callI (Cn := "com/example/ghost_state/ghoststate/Shadows$Path") (as' := [(.int (3 : Int32))]) (st := [(.ref b2), (.ref b2), (.ref t), (.int (3 : Int32)), (.ref b2)]) (W := 5) S87 (c_parent (r := (2 : Int32)) hw S87.size (by decide)) X_t (hw _ (List.mem_of_getElem? (i := 30) rfl)) (hw _ (List.mem_of_getElem? (i := 31) rfl)) (hw _ (List.mem_of_getElem? (i := 32) rfl)) rfl (hw _ (List.mem_of_getElem? (i := 33) rfl)) (hw _ (List.mem_of_getElem? (i := 34) rfl)) (hw _ (List.mem_of_getElem? (i := 35) rfl)) (hw _ (List.mem_of_getElem? (i := 36) rfl)) (hw _ (List.mem_of_getElem? (i := 27) rfl)) (hw _ (List.mem_of_getElem? (i := 8) rfl)) (hw _ (List.mem_of_getElem? (i := 37) rfl)) (by decide) pd_4_1 rfl rfl (by decide) rfl (by decide) (by decide) (by decide) d4_28 rfl rfl (fun T89 h89 v89 S89 q89 => ?_)
    obtain ⟨rfl, rfl⟩ := q89
    show Go _ _ _ _ _ _ _ [(.int (2 : Int32)), (.ref b2), (.ref b2), (.ref t), (.int (3 : Int32)), (.ref b2)]
    refine px_iaload (v := (0 : Int32)) S89 A_b2 (i := 2) rfl (by decide) rfl d4_33 rfl ?_
    refine px_aloadN S89 d4_34 rfl rfl rfl ?_
    refine px_iloadN S89 d4_35 rfl rfl ?_
    refine px_callI (Cn := "com/example/ghost_state/ghoststate/Shadows$Path") (as' := [(.int (3 : Int32))]) (st := [(.int (0 : Int32)), (.ref b2), (.ref t), (.int (3 : Int32)), (.ref b2)]) (W := 5) S89 (c_elem (k := 2) (x := c2) hw S89.size ⟨X_t, F_t⟩ A0 (by decide) (by decide) e_c2 n_c2) X_t (hw _ (List.mem_of_getElem? (i := 38) rfl)) (hw _ (List.mem_of_getElem? (i := 39) rfl)) (hw _ (List.mem_of_getElem? (i := 40) rfl)) rfl (hw _ (List.mem_of_getElem? (i := 41) rfl)) (hw _ (List.mem_of_getElem? (i := 42) rfl)) (hw _ (List.mem_of_getElem? (i := 43) rfl)) (hw _ (List.mem_of_getElem? (i := 44) rfl)) (hw _ (List.mem_of_getElem? (i := 27) rfl)) (hw _ (List.mem_of_getElem? (i := 8) rfl)) (hw _ (List.mem_of_getElem? (i := 45) rfl)) (by decide) pd_4_2 rfl rfl (by decide) rfl (by decide) (by decide) (by decide) d4_36 rfl rfl (fun T90 h90 v90 S90 q90 => ?_)
    obtain ⟨rfl, rfl⟩ := q90
    show Go _ _ _ _ _ _ _ [(.int c2), (.int (0 : Int32)), (.ref b2), (.ref t), (.int (3 : Int32)), (.ref b2)]
    by_cases hE91 : c0.toInt = c2.toInt
    · refine px_callS (as' := [(.ref t), (.ref b2), (.int (0 : Int32)), (.int c2)]) (st := [(.int (3 : Int32)), (.ref b2)]) (W := 2) S90 (c_next (n := 5) (m := 6) (k0 := 0) (nl := (5 : Int32)) (r := (1 : Int32)) hw S90.size ⟨X_t, F_t⟩ A0 A_b2 rfl (by decide) (by decide) (Or.inr ⟨0, by decide, by decide, (by rw [e_c0]; exact hE91), by decide⟩)) (hw _ (List.mem_of_getElem? (i := 46) rfl)) (hw _ (List.mem_of_getElem? (i := 47) rfl)) (hw _ (List.mem_of_getElem? (i := 4) rfl)) (hw _ (List.mem_of_getElem? (i := 48) rfl)) (by decide) pd_4_3 rfl rfl (by decide) rfl (by decide) (by decide) (by decide) d4_41 rfl rfl (fun T92 h92 v92 S92 q92 => ?_)
      obtain ⟨rfl, rfl⟩ := q92
      show Go _ _ _ _ _ _ _ [(.int (1 : Int32)), (.int (3 : Int32)), (.ref b2)]
      refine px_iastore (v := (1 : Int32)) S92 A_b2 g_b2 (i := 3) rfl (by decide) rfl d4_44 rfl (fun T93 h93 S93 W93 A_b2 => ?_)
      replace X_t := X_t.wr W93
      replace F_t := F_t.other W93 (Or.inl ne_t_b2)
      replace A0 := A0.other W93 ne_p_b2
      refine px_iinc (v := (1 : Int32)) (r := (4 : Int32)) S93 d4_45 rfl rfl rfl (by decide) (L' := #[.val (.ref t), .val (.ref b2), .val (.int (4 : Int32))]) rfl ?_
      refine px_goto S93 d4_48 (by decide) (pc' := 15) rfl ?_
      refine px_iloadN S93 d4_15 rfl rfl ?_
      refine px_aloadN S93 d4_16 rfl rfl rfl ?_
      refine px_alenI (v := (6 : Int32)) S93 A_b2 rfl d4_17 rfl ?_
      refine px_icmp S93 d4_18 (by decide) (pc' := 51) rfl rfl (fun (hc94 : (4 : Int32).toInt ≥ (6 : Int32).toInt) => by exfalso; revert hc94; decide) (fun (hc94 : (4 : Int32).toInt < (6 : Int32).toInt) => ?_)
      refine px_aloadN S93 d4_21 rfl rfl rfl ?_
      refine px_iloadN S93 d4_22 rfl rfl ?_
      refine px_aloadN S93 d4_23 rfl rfl rfl ?_
      refine px_aloadN S93 d4_24 rfl rfl rfl ?_
      refine px_aloadN S93 d4_25 rfl rfl rfl ?_
      refine px_aloadN S93 d4_26 rfl rfl rfl ?_
      refine px_iloadN S93 d4_27 rfl rfl ?_
      refine px_callI (Cn := "com/example/ghost_state/ghoststate/Shadows$Path") (as' := [(.int (4 : Int32))]) (st := [(.ref b2), (.ref b2), (.ref t), (.int (4 : Int32)), (.ref b2)]) (W := 5) S93 (c_parent (r := (3 : Int32)) hw S93.size (by decide)) X_t (hw _ (List.mem_of_getElem? (i := 30) rfl)) (hw _ (List.mem_of_getElem? (i := 31) rfl)) (hw _ (List.mem_of_getElem? (i := 32) rfl)) rfl (hw _ (List.mem_of_getElem? (i := 33) rfl)) (hw _ (List.mem_of_getElem? (i := 34) rfl)) (hw _ (List.mem_of_getElem? (i := 35) rfl)) (hw _ (List.mem_of_getElem? (i := 36) rfl)) (hw _ (List.mem_of_getElem? (i := 27) rfl)) (hw _ (List.mem_of_getElem? (i := 8) rfl)) (hw _ (List.mem_of_getElem? (i := 37) rfl)) (by decide) pd_4_1 rfl rfl (by decide) rfl (by decide) (by decide) (by decide) d4_28 rfl rfl (fun T95 h95 v95 S95 q95 => ?_)
      obtain ⟨rfl, rfl⟩ := q95
      show Go _ _ _ _ _ _ _ [(.int (3 : Int32)), (.ref b2), (.ref b2), (.ref t), (.int (4 : Int32)), (.ref b2)]
      refine px_iaload (v := (1 : Int32)) S95 A_b2 (i := 3) rfl (by decide) rfl d4_33 rfl ?_
      refine px_aloadN S95 d4_34 rfl rfl rfl ?_
      refine px_iloadN S95 d4_35 rfl rfl ?_
      refine px_callI (Cn := "com/example/ghost_state/ghoststate/Shadows$Path") (as' := [(.int (4 : Int32))]) (st := [(.int (1 : Int32)), (.ref b2), (.ref t), (.int (4 : Int32)), (.ref b2)]) (W := 5) S95 (c_elem (k := 3) (x := c3) hw S95.size ⟨X_t, F_t⟩ A0 (by decide) (by decide) e_c3 n_c3) X_t (hw _ (List.mem_of_getElem? (i := 38) rfl)) (hw _ (List.mem_of_getElem? (i := 39) rfl)) (hw _ (List.mem_of_getElem? (i := 40) rfl)) rfl (hw _ (List.mem_of_getElem? (i := 41) rfl)) (hw _ (List.mem_of_getElem? (i := 42) rfl)) (hw _ (List.mem_of_getElem? (i := 43) rfl)) (hw _ (List.mem_of_getElem? (i := 44) rfl)) (hw _ (List.mem_of_getElem? (i := 27) rfl)) (hw _ (List.mem_of_getElem? (i := 8) rfl)) (hw _ (List.mem_of_getElem? (i := 45) rfl)) (by decide) pd_4_2 rfl rfl (by decide) rfl (by decide) (by decide) (by decide) d4_36 rfl rfl (fun T96 h96 v96 S96 q96 => ?_)
      obtain ⟨rfl, rfl⟩ := q96
      show Go _ _ _ _ _ _ _ [(.int c3), (.int (1 : Int32)), (.ref b2), (.ref t), (.int (4 : Int32)), (.ref b2)]
      by_cases hE97 : c1.toInt = c3.toInt
      · refine px_callS (as' := [(.ref t), (.ref b2), (.int (1 : Int32)), (.int c3)]) (st := [(.int (4 : Int32)), (.ref b2)]) (W := 2) S96 (c_next (n := 5) (m := 6) (k0 := 0) (nl := (5 : Int32)) (r := (2 : Int32)) hw S96.size ⟨X_t, F_t⟩ A0 A_b2 rfl (by decide) (by decide) (Or.inr ⟨1, by decide, by decide, (by rw [e_c1]; exact hE97), by decide⟩)) (hw _ (List.mem_of_getElem? (i := 46) rfl)) (hw _ (List.mem_of_getElem? (i := 47) rfl)) (hw _ (List.mem_of_getElem? (i := 4) rfl)) (hw _ (List.mem_of_getElem? (i := 48) rfl)) (by decide) pd_4_3 rfl rfl (by decide) rfl (by decide) (by decide) (by decide) d4_41 rfl rfl (fun T98 h98 v98 S98 q98 => ?_)
        obtain ⟨rfl, rfl⟩ := q98
        show Go _ _ _ _ _ _ _ [(.int (2 : Int32)), (.int (4 : Int32)), (.ref b2)]
        refine px_iastore (v := (2 : Int32)) S98 A_b2 g_b2 (i := 4) rfl (by decide) rfl d4_44 rfl (fun T99 h99 S99 W99 A_b2 => ?_)
        replace X_t := X_t.wr W99
        replace F_t := F_t.other W99 (Or.inl ne_t_b2)
        replace A0 := A0.other W99 ne_p_b2
        refine px_iinc (v := (1 : Int32)) (r := (5 : Int32)) S99 d4_45 rfl rfl rfl (by decide) (L' := #[.val (.ref t), .val (.ref b2), .val (.int (5 : Int32))]) rfl ?_
        refine px_goto S99 d4_48 (by decide) (pc' := 15) rfl ?_
        refine px_iloadN S99 d4_15 rfl rfl ?_
        refine px_aloadN S99 d4_16 rfl rfl rfl ?_
        refine px_alenI (v := (6 : Int32)) S99 A_b2 rfl d4_17 rfl ?_
        refine px_icmp S99 d4_18 (by decide) (pc' := 51) rfl rfl (fun (hc100 : (5 : Int32).toInt ≥ (6 : Int32).toInt) => by exfalso; revert hc100; decide) (fun (hc100 : (5 : Int32).toInt < (6 : Int32).toInt) => ?_)
        refine px_aloadN S99 d4_21 rfl rfl rfl ?_
        refine px_iloadN S99 d4_22 rfl rfl ?_
        refine px_aloadN S99 d4_23 rfl rfl rfl ?_
        refine px_aloadN S99 d4_24 rfl rfl rfl ?_
        refine px_aloadN S99 d4_25 rfl rfl rfl ?_
        refine px_aloadN S99 d4_26 rfl rfl rfl ?_
        refine px_iloadN S99 d4_27 rfl rfl ?_
        refine px_callI (Cn := "com/example/ghost_state/ghoststate/Shadows$Path") (as' := [(.int (5 : Int32))]) (st := [(.ref b2), (.ref b2), (.ref t), (.int (5 : Int32)), (.ref b2)]) (W := 5) S99 (c_parent (r := (4 : Int32)) hw S99.size (by decide)) X_t (hw _ (List.mem_of_getElem? (i := 30) rfl)) (hw _ (List.mem_of_getElem? (i := 31) rfl)) (hw _ (List.mem_of_getElem? (i := 32) rfl)) rfl (hw _ (List.mem_of_getElem? (i := 33) rfl)) (hw _ (List.mem_of_getElem? (i := 34) rfl)) (hw _ (List.mem_of_getElem? (i := 35) rfl)) (hw _ (List.mem_of_getElem? (i := 36) rfl)) (hw _ (List.mem_of_getElem? (i := 27) rfl)) (hw _ (List.mem_of_getElem? (i := 8) rfl)) (hw _ (List.mem_of_getElem? (i := 37) rfl)) (by decide) pd_4_1 rfl rfl (by decide) rfl (by decide) (by decide) (by decide) d4_28 rfl rfl (fun T101 h101 v101 S101 q101 => ?_)
        obtain ⟨rfl, rfl⟩ := q101
        show Go _ _ _ _ _ _ _ [(.int (4 : Int32)), (.ref b2), (.ref b2), (.ref t), (.int (5 : Int32)), (.ref b2)]
        refine px_iaload (v := (2 : Int32)) S101 A_b2 (i := 4) rfl (by decide) rfl d4_33 rfl ?_
        refine px_aloadN S101 d4_34 rfl rfl rfl ?_
        refine px_iloadN S101 d4_35 rfl rfl ?_
        refine px_callI (Cn := "com/example/ghost_state/ghoststate/Shadows$Path") (as' := [(.int (5 : Int32))]) (st := [(.int (2 : Int32)), (.ref b2), (.ref t), (.int (5 : Int32)), (.ref b2)]) (W := 5) S101 (c_elem (k := 4) (x := c4) hw S101.size ⟨X_t, F_t⟩ A0 (by decide) (by decide) e_c4 n_c4) X_t (hw _ (List.mem_of_getElem? (i := 38) rfl)) (hw _ (List.mem_of_getElem? (i := 39) rfl)) (hw _ (List.mem_of_getElem? (i := 40) rfl)) rfl (hw _ (List.mem_of_getElem? (i := 41) rfl)) (hw _ (List.mem_of_getElem? (i := 42) rfl)) (hw _ (List.mem_of_getElem? (i := 43) rfl)) (hw _ (List.mem_of_getElem? (i := 44) rfl)) (hw _ (List.mem_of_getElem? (i := 27) rfl)) (hw _ (List.mem_of_getElem? (i := 8) rfl)) (hw _ (List.mem_of_getElem? (i := 45) rfl)) (by decide) pd_4_2 rfl rfl (by decide) rfl (by decide) (by decide) (by decide) d4_36 rfl rfl (fun T102 h102 v102 S102 q102 => ?_)
        obtain ⟨rfl, rfl⟩ := q102
        show Go _ _ _ _ _ _ _ [(.int c4), (.int (2 : Int32)), (.ref b2), (.ref t), (.int (5 : Int32)), (.ref b2)]
        by_cases hE103 : c2.toInt = c4.toInt
        · refine px_callS (as' := [(.ref t), (.ref b2), (.int (2 : Int32)), (.int c4)]) (st := [(.int (5 : Int32)), (.ref b2)]) (W := 2) S102 (c_next (n := 5) (m := 6) (k0 := 0) (nl := (5 : Int32)) (r := (3 : Int32)) hw S102.size ⟨X_t, F_t⟩ A0 A_b2 rfl (by decide) (by decide) (Or.inr ⟨2, by decide, by decide, (by rw [e_c2]; exact hE103), by decide⟩)) (hw _ (List.mem_of_getElem? (i := 46) rfl)) (hw _ (List.mem_of_getElem? (i := 47) rfl)) (hw _ (List.mem_of_getElem? (i := 4) rfl)) (hw _ (List.mem_of_getElem? (i := 48) rfl)) (by decide) pd_4_3 rfl rfl (by decide) rfl (by decide) (by decide) (by decide) d4_41 rfl rfl (fun T104 h104 v104 S104 q104 => ?_)
          obtain ⟨rfl, rfl⟩ := q104
          show Go _ _ _ _ _ _ _ [(.int (3 : Int32)), (.int (5 : Int32)), (.ref b2)]
          refine px_iastore (v := (3 : Int32)) S104 A_b2 g_b2 (i := 5) rfl (by decide) rfl d4_44 rfl (fun T105 h105 S105 W105 A_b2 => ?_)
          replace X_t := X_t.wr W105
          replace F_t := F_t.other W105 (Or.inl ne_t_b2)
          replace A0 := A0.other W105 ne_p_b2
          refine px_iinc (v := (1 : Int32)) (r := (6 : Int32)) S105 d4_45 rfl rfl rfl (by decide) (L' := #[.val (.ref t), .val (.ref b2), .val (.int (6 : Int32))]) rfl ?_
          refine px_goto S105 d4_48 (by decide) (pc' := 15) rfl ?_
          refine px_iloadN S105 d4_15 rfl rfl ?_
          refine px_aloadN S105 d4_16 rfl rfl rfl ?_
          refine px_alenI (v := (6 : Int32)) S105 A_b2 rfl d4_17 rfl ?_
          refine px_icmp S105 d4_18 (by decide) (pc' := 51) rfl rfl (fun (hc106 : (6 : Int32).toInt ≥ (6 : Int32).toInt) => ?_) (fun (hc106 : (6 : Int32).toInt < (6 : Int32).toInt) => by exfalso; revert hc106; decide)
          refine px_aloadN S105 d4_51 rfl rfl rfl ?_
          exact px_retA S105 d4_52 rfl rfl rfl (by decide) (by decide) (⟨b2, (-1 : Int32), (0 : Int32), (0 : Int32), (1 : Int32), (2 : Int32), (3 : Int32), rfl, g_b2, ((((((((Keep.refl _ _).ext E2).wr W3 (Or.inr (Nat.le_of_eq z2.symm))).wr W8 (Or.inr (Nat.le_of_eq z2.symm))).wr W87 (Or.inr (Nat.le_of_eq z2.symm))).wr W93 (Or.inr (Nat.le_of_eq z2.symm))).wr W99 (Or.inr (Nat.le_of_eq z2.symm))).wr W105 (Or.inr (Nat.le_of_eq z2.symm))), A_b2.congr (all6 rfl rfl rfl rfl rfl rfl), rfl, rfl, Or.inl (⟨rfl, by omega⟩), Or.inr (Or.inl (⟨rfl, by omega, by omega⟩)), Or.inr (Or.inr (Or.inl (⟨rfl, by omega, by omega⟩))), Or.inr (Or.inr (Or.inr (Or.inl (⟨rfl, by omega, by omega⟩))))⟩)
        · have hE107 : ¬ c0.toInt = c4.toInt := by omega
          refine px_callS (as' := [(.ref t), (.ref b2), (.int (2 : Int32)), (.int c4)]) (st := [(.int (5 : Int32)), (.ref b2)]) (W := 2) S102 (c_next (n := 5) (m := 6) (k0 := 2) (nl := (5 : Int32)) (r := (0 : Int32)) hw S102.size ⟨X_t, F_t⟩ A0 A_b2 rfl (by decide) (by decide) (⟨2, by decide, by decide, (by rw [e_c2]; exact hE103), ⟨0, by decide, by decide, (by rw [e_c0]; exact hE107), Or.inl ⟨by decide, rfl⟩⟩⟩)) (hw _ (List.mem_of_getElem? (i := 46) rfl)) (hw _ (List.mem_of_getElem? (i := 47) rfl)) (hw _ (List.mem_of_getElem? (i := 4) rfl)) (hw _ (List.mem_of_getElem? (i := 48) rfl)) (by decide) pd_4_3 rfl rfl (by decide) rfl (by decide) (by decide) (by decide) d4_41 rfl rfl (fun T108 h108 v108 S108 q108 => ?_)
          obtain ⟨rfl, rfl⟩ := q108
          show Go _ _ _ _ _ _ _ [(.int (0 : Int32)), (.int (5 : Int32)), (.ref b2)]
          refine px_iastore (v := (0 : Int32)) S108 A_b2 g_b2 (i := 5) rfl (by decide) rfl d4_44 rfl (fun T109 h109 S109 W109 A_b2 => ?_)
          replace X_t := X_t.wr W109
          replace F_t := F_t.other W109 (Or.inl ne_t_b2)
          replace A0 := A0.other W109 ne_p_b2
          refine px_iinc (v := (1 : Int32)) (r := (6 : Int32)) S109 d4_45 rfl rfl rfl (by decide) (L' := #[.val (.ref t), .val (.ref b2), .val (.int (6 : Int32))]) rfl ?_
          refine px_goto S109 d4_48 (by decide) (pc' := 15) rfl ?_
          refine px_iloadN S109 d4_15 rfl rfl ?_
          refine px_aloadN S109 d4_16 rfl rfl rfl ?_
          refine px_alenI (v := (6 : Int32)) S109 A_b2 rfl d4_17 rfl ?_
          refine px_icmp S109 d4_18 (by decide) (pc' := 51) rfl rfl (fun (hc110 : (6 : Int32).toInt ≥ (6 : Int32).toInt) => ?_) (fun (hc110 : (6 : Int32).toInt < (6 : Int32).toInt) => by exfalso; revert hc110; decide)
          refine px_aloadN S109 d4_51 rfl rfl rfl ?_
          exact px_retA S109 d4_52 rfl rfl rfl (by decide) (by decide) (⟨b2, (-1 : Int32), (0 : Int32), (0 : Int32), (1 : Int32), (2 : Int32), (0 : Int32), rfl, g_b2, ((((((((Keep.refl _ _).ext E2).wr W3 (Or.inr (Nat.le_of_eq z2.symm))).wr W8 (Or.inr (Nat.le_of_eq z2.symm))).wr W87 (Or.inr (Nat.le_of_eq z2.symm))).wr W93 (Or.inr (Nat.le_of_eq z2.symm))).wr W99 (Or.inr (Nat.le_of_eq z2.symm))).wr W109 (Or.inr (Nat.le_of_eq z2.symm))), A_b2.congr (all6 rfl rfl rfl rfl rfl rfl), rfl, rfl, Or.inl (⟨rfl, by omega⟩), Or.inr (Or.inl (⟨rfl, by omega, by omega⟩)), Or.inr (Or.inr (Or.inl (⟨rfl, by omega, by omega⟩))), Or.inl (⟨rfl, by omega, by omega, by omega, by omega⟩)⟩)
      · by_cases hE111 : c0.toInt = c3.toInt
        · refine px_callS (as' := [(.ref t), (.ref b2), (.int (1 : Int32)), (.int c3)]) (st := [(.int (4 : Int32)), (.ref b2)]) (W := 2) S96 (c_next (n := 5) (m := 6) (k0 := 1) (nl := (5 : Int32)) (r := (1 : Int32)) hw S96.size ⟨X_t, F_t⟩ A0 A_b2 rfl (by decide) (by decide) (⟨1, by decide, by decide, (by rw [e_c1]; exact hE97), Or.inr ⟨0, by decide, by decide, (by rw [e_c0]; exact hE111), by decide⟩⟩)) (hw _ (List.mem_of_getElem? (i := 46) rfl)) (hw _ (List.mem_of_getElem? (i := 47) rfl)) (hw _ (List.mem_of_getElem? (i := 4) rfl)) (hw _ (List.mem_of_getElem? (i := 48) rfl)) (by decide) pd_4_3 rfl rfl (by decide) rfl (by decide) (by decide) (by decide) d4_41 rfl rfl (fun T112 h112 v112 S112 q112 => ?_)
          obtain ⟨rfl, rfl⟩ := q112
          show Go _ _ _ _ _ _ _ [(.int (1 : Int32)), (.int (4 : Int32)), (.ref b2)]
          refine px_iastore (v := (1 : Int32)) S112 A_b2 g_b2 (i := 4) rfl (by decide) rfl d4_44 rfl (fun T113 h113 S113 W113 A_b2 => ?_)
          replace X_t := X_t.wr W113
          replace F_t := F_t.other W113 (Or.inl ne_t_b2)
          replace A0 := A0.other W113 ne_p_b2
          refine px_iinc (v := (1 : Int32)) (r := (5 : Int32)) S113 d4_45 rfl rfl rfl (by decide) (L' := #[.val (.ref t), .val (.ref b2), .val (.int (5 : Int32))]) rfl ?_
          refine px_goto S113 d4_48 (by decide) (pc' := 15) rfl ?_
          refine px_iloadN S113 d4_15 rfl rfl ?_
          refine px_aloadN S113 d4_16 rfl rfl rfl ?_
          refine px_alenI (v := (6 : Int32)) S113 A_b2 rfl d4_17 rfl ?_
          refine px_icmp S113 d4_18 (by decide) (pc' := 51) rfl rfl (fun (hc114 : (5 : Int32).toInt ≥ (6 : Int32).toInt) => by exfalso; revert hc114; decide) (fun (hc114 : (5 : Int32).toInt < (6 : Int32).toInt) => ?_)
          refine px_aloadN S113 d4_21 rfl rfl rfl ?_
          refine px_iloadN S113 d4_22 rfl rfl ?_
          refine px_aloadN S113 d4_23 rfl rfl rfl ?_
          refine px_aloadN S113 d4_24 rfl rfl rfl ?_
          refine px_aloadN S113 d4_25 rfl rfl rfl ?_
          refine px_aloadN S113 d4_26 rfl rfl rfl ?_
          refine px_iloadN S113 d4_27 rfl rfl ?_
          refine px_callI (Cn := "com/example/ghost_state/ghoststate/Shadows$Path") (as' := [(.int (5 : Int32))]) (st := [(.ref b2), (.ref b2), (.ref t), (.int (5 : Int32)), (.ref b2)]) (W := 5) S113 (c_parent (r := (4 : Int32)) hw S113.size (by decide)) X_t (hw _ (List.mem_of_getElem? (i := 30) rfl)) (hw _ (List.mem_of_getElem? (i := 31) rfl)) (hw _ (List.mem_of_getElem? (i := 32) rfl)) rfl (hw _ (List.mem_of_getElem? (i := 33) rfl)) (hw _ (List.mem_of_getElem? (i := 34) rfl)) (hw _ (List.mem_of_getElem? (i := 35) rfl)) (hw _ (List.mem_of_getElem? (i := 36) rfl)) (hw _ (List.mem_of_getElem? (i := 27) rfl)) (hw _ (List.mem_of_getElem? (i := 8) rfl)) (hw _ (List.mem_of_getElem? (i := 37) rfl)) (by decide) pd_4_1 rfl rfl (by decide) rfl (by decide) (by decide) (by decide) d4_28 rfl rfl (fun T115 h115 v115 S115 q115 => ?_)
          obtain ⟨rfl, rfl⟩ := q115
          show Go _ _ _ _ _ _ _ [(.int (4 : Int32)), (.ref b2), (.ref b2), (.ref t), (.int (5 : Int32)), (.ref b2)]
          refine px_iaload (v := (1 : Int32)) S115 A_b2 (i := 4) rfl (by decide) rfl d4_33 rfl ?_
          refine px_aloadN S115 d4_34 rfl rfl rfl ?_
          refine px_iloadN S115 d4_35 rfl rfl ?_
          refine px_callI (Cn := "com/example/ghost_state/ghoststate/Shadows$Path") (as' := [(.int (5 : Int32))]) (st := [(.int (1 : Int32)), (.ref b2), (.ref t), (.int (5 : Int32)), (.ref b2)]) (W := 5) S115 (c_elem (k := 4) (x := c4) hw S115.size ⟨X_t, F_t⟩ A0 (by decide) (by decide) e_c4 n_c4) X_t (hw _ (List.mem_of_getElem? (i := 38) rfl)) (hw _ (List.mem_of_getElem? (i := 39) rfl)) (hw _ (List.mem_of_getElem? (i := 40) rfl)) rfl (hw _ (List.mem_of_getElem? (i := 41) rfl)) (hw _ (List.mem_of_getElem? (i := 42) rfl)) (hw _ (List.mem_of_getElem? (i := 43) rfl)) (hw _ (List.mem_of_getElem? (i := 44) rfl)) (hw _ (List.mem_of_getElem? (i := 27) rfl)) (hw _ (List.mem_of_getElem? (i := 8) rfl)) (hw _ (List.mem_of_getElem? (i := 45) rfl)) (by decide) pd_4_2 rfl rfl (by decide) rfl (by decide) (by decide) (by decide) d4_36 rfl rfl (fun T116 h116 v116 S116 q116 => ?_)
          obtain ⟨rfl, rfl⟩ := q116
          show Go _ _ _ _ _ _ _ [(.int c4), (.int (1 : Int32)), (.ref b2), (.ref t), (.int (5 : Int32)), (.ref b2)]
          by_cases hE117 : c1.toInt = c4.toInt
          · refine px_callS (as' := [(.ref t), (.ref b2), (.int (1 : Int32)), (.int c4)]) (st := [(.int (5 : Int32)), (.ref b2)]) (W := 2) S116 (c_next (n := 5) (m := 6) (k0 := 0) (nl := (5 : Int32)) (r := (2 : Int32)) hw S116.size ⟨X_t, F_t⟩ A0 A_b2 rfl (by decide) (by decide) (Or.inr ⟨1, by decide, by decide, (by rw [e_c1]; exact hE117), by decide⟩)) (hw _ (List.mem_of_getElem? (i := 46) rfl)) (hw _ (List.mem_of_getElem? (i := 47) rfl)) (hw _ (List.mem_of_getElem? (i := 4) rfl)) (hw _ (List.mem_of_getElem? (i := 48) rfl)) (by decide) pd_4_3 rfl rfl (by decide) rfl (by decide) (by decide) (by decide) d4_41 rfl rfl (fun T118 h118 v118 S118 q118 => ?_)
            obtain ⟨rfl, rfl⟩ := q118
            show Go _ _ _ _ _ _ _ [(.int (2 : Int32)), (.int (5 : Int32)), (.ref b2)]
            refine px_iastore (v := (2 : Int32)) S118 A_b2 g_b2 (i := 5) rfl (by decide) rfl d4_44 rfl (fun T119 h119 S119 W119 A_b2 => ?_)
            replace X_t := X_t.wr W119
            replace F_t := F_t.other W119 (Or.inl ne_t_b2)
            replace A0 := A0.other W119 ne_p_b2
            refine px_iinc (v := (1 : Int32)) (r := (6 : Int32)) S119 d4_45 rfl rfl rfl (by decide) (L' := #[.val (.ref t), .val (.ref b2), .val (.int (6 : Int32))]) rfl ?_
            refine px_goto S119 d4_48 (by decide) (pc' := 15) rfl ?_
            refine px_iloadN S119 d4_15 rfl rfl ?_
            refine px_aloadN S119 d4_16 rfl rfl rfl ?_
            refine px_alenI (v := (6 : Int32)) S119 A_b2 rfl d4_17 rfl ?_
            refine px_icmp S119 d4_18 (by decide) (pc' := 51) rfl rfl (fun (hc120 : (6 : Int32).toInt ≥ (6 : Int32).toInt) => ?_) (fun (hc120 : (6 : Int32).toInt < (6 : Int32).toInt) => by exfalso; revert hc120; decide)
            refine px_aloadN S119 d4_51 rfl rfl rfl ?_
            exact px_retA S119 d4_52 rfl rfl rfl (by decide) (by decide) (⟨b2, (-1 : Int32), (0 : Int32), (0 : Int32), (1 : Int32), (1 : Int32), (2 : Int32), rfl, g_b2, ((((((((Keep.refl _ _).ext E2).wr W3 (Or.inr (Nat.le_of_eq z2.symm))).wr W8 (Or.inr (Nat.le_of_eq z2.symm))).wr W87 (Or.inr (Nat.le_of_eq z2.symm))).wr W93 (Or.inr (Nat.le_of_eq z2.symm))).wr W113 (Or.inr (Nat.le_of_eq z2.symm))).wr W119 (Or.inr (Nat.le_of_eq z2.symm))), A_b2.congr (all6 rfl rfl rfl rfl rfl rfl), rfl, rfl, Or.inl (⟨rfl, by omega⟩), Or.inr (Or.inl (⟨rfl, by omega, by omega⟩)), Or.inr (Or.inl (⟨rfl, by omega, by omega, by omega⟩)), Or.inr (Or.inr (Or.inl (⟨rfl, by omega, by omega, by omega⟩)))⟩)
          · by_cases hE121 : c0.toInt = c4.toInt
            · refine px_callS (as' := [(.ref t), (.ref b2), (.int (1 : Int32)), (.int c4)]) (st := [(.int (5 : Int32)), (.ref b2)]) (W := 2) S116 (c_next (n := 5) (m := 6) (k0 := 1) (nl := (5 : Int32)) (r := (1 : Int32)) hw S116.size ⟨X_t, F_t⟩ A0 A_b2 rfl (by decide) (by decide) (⟨1, by decide, by decide, (by rw [e_c1]; exact hE117), Or.inr ⟨0, by decide, by decide, (by rw [e_c0]; exact hE121), by decide⟩⟩)) (hw _ (List.mem_of_getElem? (i := 46) rfl)) (hw _ (List.mem_of_getElem? (i := 47) rfl)) (hw _ (List.mem_of_getElem? (i := 4) rfl)) (hw _ (List.mem_of_getElem? (i := 48) rfl)) (by decide) pd_4_3 rfl rfl (by decide) rfl (by decide) (by decide) (by decide) d4_41 rfl rfl (fun T122 h122 v122 S122 q122 => ?_)
              obtain ⟨rfl, rfl⟩ := q122
              show Go _ _ _ _ _ _ _ [(.int (1 : Int32)), (.int (5 : Int32)), (.ref b2)]
              refine px_iastore (v := (1 : Int32)) S122 A_b2 g_b2 (i := 5) rfl (by decide) rfl d4_44 rfl (fun T123 h123 S123 W123 A_b2 => ?_)
              replace X_t := X_t.wr W123
              replace F_t := F_t.other W123 (Or.inl ne_t_b2)
              replace A0 := A0.other W123 ne_p_b2
              refine px_iinc (v := (1 : Int32)) (r := (6 : Int32)) S123 d4_45 rfl rfl rfl (by decide) (L' := #[.val (.ref t), .val (.ref b2), .val (.int (6 : Int32))]) rfl ?_
              refine px_goto S123 d4_48 (by decide) (pc' := 15) rfl ?_
              refine px_iloadN S123 d4_15 rfl rfl ?_
              refine px_aloadN S123 d4_16 rfl rfl rfl ?_
              refine px_alenI (v := (6 : Int32)) S123 A_b2 rfl d4_17 rfl ?_
              refine px_icmp S123 d4_18 (by decide) (pc' := 51) rfl rfl (fun (hc124 : (6 : Int32).toInt ≥ (6 : Int32).toInt) => ?_) (fun (hc124 : (6 : Int32).toInt < (6 : Int32).toInt) => by exfalso; revert hc124; decide)
              refine px_aloadN S123 d4_51 rfl rfl rfl ?_
              exact px_retA S123 d4_52 rfl rfl rfl (by decide) (by decide) (⟨b2, (-1 : Int32), (0 : Int32), (0 : Int32), (1 : Int32), (1 : Int32), (1 : Int32), rfl, g_b2, ((((((((Keep.refl _ _).ext E2).wr W3 (Or.inr (Nat.le_of_eq z2.symm))).wr W8 (Or.inr (Nat.le_of_eq z2.symm))).wr W87 (Or.inr (Nat.le_of_eq z2.symm))).wr W93 (Or.inr (Nat.le_of_eq z2.symm))).wr W113 (Or.inr (Nat.le_of_eq z2.symm))).wr W123 (Or.inr (Nat.le_of_eq z2.symm))), A_b2.congr (all6 rfl rfl rfl rfl rfl rfl), rfl, rfl, Or.inl (⟨rfl, by omega⟩), Or.inr (Or.inl (⟨rfl, by omega, by omega⟩)), Or.inr (Or.inl (⟨rfl, by omega, by omega, by omega⟩)), Or.inr (Or.inl (⟨rfl, by omega, by omega, by omega, by omega⟩))⟩)
            · refine px_callS (as' := [(.ref t), (.ref b2), (.int (1 : Int32)), (.int c4)]) (st := [(.int (5 : Int32)), (.ref b2)]) (W := 2) S116 (c_next (n := 5) (m := 6) (k0 := 2) (nl := (5 : Int32)) (r := (0 : Int32)) hw S116.size ⟨X_t, F_t⟩ A0 A_b2 rfl (by decide) (by decide) (⟨1, by decide, by decide, (by rw [e_c1]; exact hE117), ⟨0, by decide, by decide, (by rw [e_c0]; exact hE121), Or.inl ⟨by decide, rfl⟩⟩⟩)) (hw _ (List.mem_of_getElem? (i := 46) rfl)) (hw _ (List.mem_of_getElem? (i := 47) rfl)) (hw _ (List.mem_of_getElem? (i := 4) rfl)) (hw _ (List.mem_of_getElem? (i := 48) rfl)) (by decide) pd_4_3 rfl rfl (by decide) rfl (by decide) (by decide) (by decide) d4_41 rfl rfl (fun T125 h125 v125 S125 q125 => ?_)
              obtain ⟨rfl, rfl⟩ := q125
              show Go _ _ _ _ _ _ _ [(.int (0 : Int32)), (.int (5 : Int32)), (.ref b2)]
              refine px_iastore (v := (0 : Int32)) S125 A_b2 g_b2 (i := 5) rfl (by decide) rfl d4_44 rfl (fun T126 h126 S126 W126 A_b2 => ?_)
              replace X_t := X_t.wr W126
              replace F_t := F_t.other W126 (Or.inl ne_t_b2)
              replace A0 := A0.other W126 ne_p_b2
              refine px_iinc (v := (1 : Int32)) (r := (6 : Int32)) S126 d4_45 rfl rfl rfl (by decide) (L' := #[.val (.ref t), .val (.ref b2), .val (.int (6 : Int32))]) rfl ?_
              refine px_goto S126 d4_48 (by decide) (pc' := 15) rfl ?_
              refine px_iloadN S126 d4_15 rfl rfl ?_
              refine px_aloadN S126 d4_16 rfl rfl rfl ?_
              refine px_alenI (v := (6 : Int32)) S126 A_b2 rfl d4_17 rfl ?_
              refine px_icmp S126 d4_18 (by decide) (pc' := 51) rfl rfl (fun (hc127 : (6 : Int32).toInt ≥ (6 : Int32).toInt) => ?_) (fun (hc127 : (6 : Int32).toInt < (6 : Int32).toInt) => by exfalso; revert hc127; decide)
              refine px_aloadN S126 d4_51 rfl rfl rfl ?_
              exact px_retA S126 d4_52 rfl rfl rfl (by decide) (by decide) (⟨b2, (-1 : Int32), (0 : Int32), (0 : Int32), (1 : Int32), (1 : Int32), (0 : Int32), rfl, g_b2, ((((((((Keep.refl _ _).ext E2).wr W3 (Or.inr (Nat.le_of_eq z2.symm))).wr W8 (Or.inr (Nat.le_of_eq z2.symm))).wr W87 (Or.inr (Nat.le_of_eq z2.symm))).wr W93 (Or.inr (Nat.le_of_eq z2.symm))).wr W113 (Or.inr (Nat.le_of_eq z2.symm))).wr W126 (Or.inr (Nat.le_of_eq z2.symm))), A_b2.congr (all6 rfl rfl rfl rfl rfl rfl), rfl, rfl, Or.inl (⟨rfl, by omega⟩), Or.inr (Or.inl (⟨rfl, by omega, by omega⟩)), Or.inr (Or.inl (⟨rfl, by omega, by omega, by omega⟩)), Or.inl (⟨rfl, by omega, by omega, by omega, by omega⟩)⟩)
        · refine px_callS (as' := [(.ref t), (.ref b2), (.int (1 : Int32)), (.int c3)]) (st := [(.int (4 : Int32)), (.ref b2)]) (W := 2) S96 (c_next (n := 5) (m := 6) (k0 := 2) (nl := (5 : Int32)) (r := (0 : Int32)) hw S96.size ⟨X_t, F_t⟩ A0 A_b2 rfl (by decide) (by decide) (⟨1, by decide, by decide, (by rw [e_c1]; exact hE97), ⟨0, by decide, by decide, (by rw [e_c0]; exact hE111), Or.inl ⟨by decide, rfl⟩⟩⟩)) (hw _ (List.mem_of_getElem? (i := 46) rfl)) (hw _ (List.mem_of_getElem? (i := 47) rfl)) (hw _ (List.mem_of_getElem? (i := 4) rfl)) (hw _ (List.mem_of_getElem? (i := 48) rfl)) (by decide) pd_4_3 rfl rfl (by decide) rfl (by decide) (by decide) (by decide) d4_41 rfl rfl (fun T128 h128 v128 S128 q128 => ?_)
          obtain ⟨rfl, rfl⟩ := q128
          show Go _ _ _ _ _ _ _ [(.int (0 : Int32)), (.int (4 : Int32)), (.ref b2)]
          refine px_iastore (v := (0 : Int32)) S128 A_b2 g_b2 (i := 4) rfl (by decide) rfl d4_44 rfl (fun T129 h129 S129 W129 A_b2 => ?_)
          replace X_t := X_t.wr W129
          replace F_t := F_t.other W129 (Or.inl ne_t_b2)
          replace A0 := A0.other W129 ne_p_b2
          refine px_iinc (v := (1 : Int32)) (r := (5 : Int32)) S129 d4_45 rfl rfl rfl (by decide) (L' := #[.val (.ref t), .val (.ref b2), .val (.int (5 : Int32))]) rfl ?_
          refine px_goto S129 d4_48 (by decide) (pc' := 15) rfl ?_
          refine px_iloadN S129 d4_15 rfl rfl ?_
          refine px_aloadN S129 d4_16 rfl rfl rfl ?_
          refine px_alenI (v := (6 : Int32)) S129 A_b2 rfl d4_17 rfl ?_
          refine px_icmp S129 d4_18 (by decide) (pc' := 51) rfl rfl (fun (hc130 : (5 : Int32).toInt ≥ (6 : Int32).toInt) => by exfalso; revert hc130; decide) (fun (hc130 : (5 : Int32).toInt < (6 : Int32).toInt) => ?_)
          refine px_aloadN S129 d4_21 rfl rfl rfl ?_
          refine px_iloadN S129 d4_22 rfl rfl ?_
          refine px_aloadN S129 d4_23 rfl rfl rfl ?_
          refine px_aloadN S129 d4_24 rfl rfl rfl ?_
          refine px_aloadN S129 d4_25 rfl rfl rfl ?_
          refine px_aloadN S129 d4_26 rfl rfl rfl ?_
          refine px_iloadN S129 d4_27 rfl rfl ?_
          refine px_callI (Cn := "com/example/ghost_state/ghoststate/Shadows$Path") (as' := [(.int (5 : Int32))]) (st := [(.ref b2), (.ref b2), (.ref t), (.int (5 : Int32)), (.ref b2)]) (W := 5) S129 (c_parent (r := (4 : Int32)) hw S129.size (by decide)) X_t (hw _ (List.mem_of_getElem? (i := 30) rfl)) (hw _ (List.mem_of_getElem? (i := 31) rfl)) (hw _ (List.mem_of_getElem? (i := 32) rfl)) rfl (hw _ (List.mem_of_getElem? (i := 33) rfl)) (hw _ (List.mem_of_getElem? (i := 34) rfl)) (hw _ (List.mem_of_getElem? (i := 35) rfl)) (hw _ (List.mem_of_getElem? (i := 36) rfl)) (hw _ (List.mem_of_getElem? (i := 27) rfl)) (hw _ (List.mem_of_getElem? (i := 8) rfl)) (hw _ (List.mem_of_getElem? (i := 37) rfl)) (by decide) pd_4_1 rfl rfl (by decide) rfl (by decide) (by decide) (by decide) d4_28 rfl rfl (fun T131 h131 v131 S131 q131 => ?_)
          obtain ⟨rfl, rfl⟩ := q131
          show Go _ _ _ _ _ _ _ [(.int (4 : Int32)), (.ref b2), (.ref b2), (.ref t), (.int (5 : Int32)), (.ref b2)]
          refine px_iaload (v := (0 : Int32)) S131 A_b2 (i := 4) rfl (by decide) rfl d4_33 rfl ?_
          refine px_aloadN S131 d4_34 rfl rfl rfl ?_
          refine px_iloadN S131 d4_35 rfl rfl ?_
          refine px_callI (Cn := "com/example/ghost_state/ghoststate/Shadows$Path") (as' := [(.int (5 : Int32))]) (st := [(.int (0 : Int32)), (.ref b2), (.ref t), (.int (5 : Int32)), (.ref b2)]) (W := 5) S131 (c_elem (k := 4) (x := c4) hw S131.size ⟨X_t, F_t⟩ A0 (by decide) (by decide) e_c4 n_c4) X_t (hw _ (List.mem_of_getElem? (i := 38) rfl)) (hw _ (List.mem_of_getElem? (i := 39) rfl)) (hw _ (List.mem_of_getElem? (i := 40) rfl)) rfl (hw _ (List.mem_of_getElem? (i := 41) rfl)) (hw _ (List.mem_of_getElem? (i := 42) rfl)) (hw _ (List.mem_of_getElem? (i := 43) rfl)) (hw _ (List.mem_of_getElem? (i := 44) rfl)) (hw _ (List.mem_of_getElem? (i := 27) rfl)) (hw _ (List.mem_of_getElem? (i := 8) rfl)) (hw _ (List.mem_of_getElem? (i := 45) rfl)) (by decide) pd_4_2 rfl rfl (by decide) rfl (by decide) (by decide) (by decide) d4_36 rfl rfl (fun T132 h132 v132 S132 q132 => ?_)
          obtain ⟨rfl, rfl⟩ := q132
          show Go _ _ _ _ _ _ _ [(.int c4), (.int (0 : Int32)), (.ref b2), (.ref t), (.int (5 : Int32)), (.ref b2)]
          by_cases hE133 : c0.toInt = c4.toInt
          · refine px_callS (as' := [(.ref t), (.ref b2), (.int (0 : Int32)), (.int c4)]) (st := [(.int (5 : Int32)), (.ref b2)]) (W := 2) S132 (c_next (n := 5) (m := 6) (k0 := 0) (nl := (5 : Int32)) (r := (1 : Int32)) hw S132.size ⟨X_t, F_t⟩ A0 A_b2 rfl (by decide) (by decide) (Or.inr ⟨0, by decide, by decide, (by rw [e_c0]; exact hE133), by decide⟩)) (hw _ (List.mem_of_getElem? (i := 46) rfl)) (hw _ (List.mem_of_getElem? (i := 47) rfl)) (hw _ (List.mem_of_getElem? (i := 4) rfl)) (hw _ (List.mem_of_getElem? (i := 48) rfl)) (by decide) pd_4_3 rfl rfl (by decide) rfl (by decide) (by decide) (by decide) d4_41 rfl rfl (fun T134 h134 v134 S134 q134 => ?_)
            obtain ⟨rfl, rfl⟩ := q134
            show Go _ _ _ _ _ _ _ [(.int (1 : Int32)), (.int (5 : Int32)), (.ref b2)]
            refine px_iastore (v := (1 : Int32)) S134 A_b2 g_b2 (i := 5) rfl (by decide) rfl d4_44 rfl (fun T135 h135 S135 W135 A_b2 => ?_)
            replace X_t := X_t.wr W135
            replace F_t := F_t.other W135 (Or.inl ne_t_b2)
            replace A0 := A0.other W135 ne_p_b2
            refine px_iinc (v := (1 : Int32)) (r := (6 : Int32)) S135 d4_45 rfl rfl rfl (by decide) (L' := #[.val (.ref t), .val (.ref b2), .val (.int (6 : Int32))]) rfl ?_
            refine px_goto S135 d4_48 (by decide) (pc' := 15) rfl ?_
            refine px_iloadN S135 d4_15 rfl rfl ?_
            refine px_aloadN S135 d4_16 rfl rfl rfl ?_
            refine px_alenI (v := (6 : Int32)) S135 A_b2 rfl d4_17 rfl ?_
            refine px_icmp S135 d4_18 (by decide) (pc' := 51) rfl rfl (fun (hc136 : (6 : Int32).toInt ≥ (6 : Int32).toInt) => ?_) (fun (hc136 : (6 : Int32).toInt < (6 : Int32).toInt) => by exfalso; revert hc136; decide)
            refine px_aloadN S135 d4_51 rfl rfl rfl ?_
            exact px_retA S135 d4_52 rfl rfl rfl (by decide) (by decide) (⟨b2, (-1 : Int32), (0 : Int32), (0 : Int32), (1 : Int32), (0 : Int32), (1 : Int32), rfl, g_b2, ((((((((Keep.refl _ _).ext E2).wr W3 (Or.inr (Nat.le_of_eq z2.symm))).wr W8 (Or.inr (Nat.le_of_eq z2.symm))).wr W87 (Or.inr (Nat.le_of_eq z2.symm))).wr W93 (Or.inr (Nat.le_of_eq z2.symm))).wr W129 (Or.inr (Nat.le_of_eq z2.symm))).wr W135 (Or.inr (Nat.le_of_eq z2.symm))), A_b2.congr (all6 rfl rfl rfl rfl rfl rfl), rfl, rfl, Or.inl (⟨rfl, by omega⟩), Or.inr (Or.inl (⟨rfl, by omega, by omega⟩)), Or.inl (⟨rfl, by omega, by omega, by omega⟩), Or.inr (Or.inl (⟨rfl, by omega, by omega, by omega, by omega⟩))⟩)
          · refine px_callS (as' := [(.ref t), (.ref b2), (.int (0 : Int32)), (.int c4)]) (st := [(.int (5 : Int32)), (.ref b2)]) (W := 2) S132 (c_next (n := 5) (m := 6) (k0 := 1) (nl := (5 : Int32)) (r := (0 : Int32)) hw S132.size ⟨X_t, F_t⟩ A0 A_b2 rfl (by decide) (by decide) (⟨0, by decide, by decide, (by rw [e_c0]; exact hE133), Or.inl ⟨by decide, rfl⟩⟩)) (hw _ (List.mem_of_getElem? (i := 46) rfl)) (hw _ (List.mem_of_getElem? (i := 47) rfl)) (hw _ (List.mem_of_getElem? (i := 4) rfl)) (hw _ (List.mem_of_getElem? (i := 48) rfl)) (by decide) pd_4_3 rfl rfl (by decide) rfl (by decide) (by decide) (by decide) d4_41 rfl rfl (fun T137 h137 v137 S137 q137 => ?_)
            obtain ⟨rfl, rfl⟩ := q137
            show Go _ _ _ _ _ _ _ [(.int (0 : Int32)), (.int (5 : Int32)), (.ref b2)]
            refine px_iastore (v := (0 : Int32)) S137 A_b2 g_b2 (i := 5) rfl (by decide) rfl d4_44 rfl (fun T138 h138 S138 W138 A_b2 => ?_)
            replace X_t := X_t.wr W138
            replace F_t := F_t.other W138 (Or.inl ne_t_b2)
            replace A0 := A0.other W138 ne_p_b2
            refine px_iinc (v := (1 : Int32)) (r := (6 : Int32)) S138 d4_45 rfl rfl rfl (by decide) (L' := #[.val (.ref t), .val (.ref b2), .val (.int (6 : Int32))]) rfl ?_
            refine px_goto S138 d4_48 (by decide) (pc' := 15) rfl ?_
            refine px_iloadN S138 d4_15 rfl rfl ?_
            refine px_aloadN S138 d4_16 rfl rfl rfl ?_
            refine px_alenI (v := (6 : Int32)) S138 A_b2 rfl d4_17 rfl ?_
            refine px_icmp S138 d4_18 (by decide) (pc' := 51) rfl rfl (fun (hc139 : (6 : Int32).toInt ≥ (6 : Int32).toInt) => ?_) (fun (hc139 : (6 : Int32).toInt < (6 : Int32).toInt) => by exfalso; revert hc139; decide)
            refine px_aloadN S138 d4_51 rfl rfl rfl ?_
            exact px_retA S138 d4_52 rfl rfl rfl (by decide) (by decide) (⟨b2, (-1 : Int32), (0 : Int32), (0 : Int32), (1 : Int32), (0 : Int32), (0 : Int32), rfl, g_b2, ((((((((Keep.refl _ _).ext E2).wr W3 (Or.inr (Nat.le_of_eq z2.symm))).wr W8 (Or.inr (Nat.le_of_eq z2.symm))).wr W87 (Or.inr (Nat.le_of_eq z2.symm))).wr W93 (Or.inr (Nat.le_of_eq z2.symm))).wr W129 (Or.inr (Nat.le_of_eq z2.symm))).wr W138 (Or.inr (Nat.le_of_eq z2.symm))), A_b2.congr (all6 rfl rfl rfl rfl rfl rfl), rfl, rfl, Or.inl (⟨rfl, by omega⟩), Or.inr (Or.inl (⟨rfl, by omega, by omega⟩)), Or.inl (⟨rfl, by omega, by omega, by omega⟩), Or.inl (⟨rfl, by omega, by omega, by omega, by omega⟩)⟩)
    · refine px_callS (as' := [(.ref t), (.ref b2), (.int (0 : Int32)), (.int c2)]) (st := [(.int (3 : Int32)), (.ref b2)]) (W := 2) S90 (c_next (n := 5) (m := 6) (k0 := 1) (nl := (5 : Int32)) (r := (0 : Int32)) hw S90.size ⟨X_t, F_t⟩ A0 A_b2 rfl (by decide) (by decide) (⟨0, by decide, by decide, (by rw [e_c0]; exact hE91), Or.inl ⟨by decide, rfl⟩⟩)) (hw _ (List.mem_of_getElem? (i := 46) rfl)) (hw _ (List.mem_of_getElem? (i := 47) rfl)) (hw _ (List.mem_of_getElem? (i := 4) rfl)) (hw _ (List.mem_of_getElem? (i := 48) rfl)) (by decide) pd_4_3 rfl rfl (by decide) rfl (by decide) (by decide) (by decide) d4_41 rfl rfl (fun T140 h140 v140 S140 q140 => ?_)
      obtain ⟨rfl, rfl⟩ := q140
      show Go _ _ _ _ _ _ _ [(.int (0 : Int32)), (.int (3 : Int32)), (.ref b2)]
      refine px_iastore (v := (0 : Int32)) S140 A_b2 g_b2 (i := 3) rfl (by decide) rfl d4_44 rfl (fun T141 h141 S141 W141 A_b2 => ?_)
      replace X_t := X_t.wr W141
      replace F_t := F_t.other W141 (Or.inl ne_t_b2)
      replace A0 := A0.other W141 ne_p_b2
      refine px_iinc (v := (1 : Int32)) (r := (4 : Int32)) S141 d4_45 rfl rfl rfl (by decide) (L' := #[.val (.ref t), .val (.ref b2), .val (.int (4 : Int32))]) rfl ?_
      refine px_goto S141 d4_48 (by decide) (pc' := 15) rfl ?_
      refine px_iloadN S141 d4_15 rfl rfl ?_
      refine px_aloadN S141 d4_16 rfl rfl rfl ?_
      refine px_alenI (v := (6 : Int32)) S141 A_b2 rfl d4_17 rfl ?_
      refine px_icmp S141 d4_18 (by decide) (pc' := 51) rfl rfl (fun (hc142 : (4 : Int32).toInt ≥ (6 : Int32).toInt) => by exfalso; revert hc142; decide) (fun (hc142 : (4 : Int32).toInt < (6 : Int32).toInt) => ?_)
      refine px_aloadN S141 d4_21 rfl rfl rfl ?_
      refine px_iloadN S141 d4_22 rfl rfl ?_
      refine px_aloadN S141 d4_23 rfl rfl rfl ?_
      refine px_aloadN S141 d4_24 rfl rfl rfl ?_
      refine px_aloadN S141 d4_25 rfl rfl rfl ?_
      refine px_aloadN S141 d4_26 rfl rfl rfl ?_
      refine px_iloadN S141 d4_27 rfl rfl ?_
      refine px_callI (Cn := "com/example/ghost_state/ghoststate/Shadows$Path") (as' := [(.int (4 : Int32))]) (st := [(.ref b2), (.ref b2), (.ref t), (.int (4 : Int32)), (.ref b2)]) (W := 5) S141 (c_parent (r := (3 : Int32)) hw S141.size (by decide)) X_t (hw _ (List.mem_of_getElem? (i := 30) rfl)) (hw _ (List.mem_of_getElem? (i := 31) rfl)) (hw _ (List.mem_of_getElem? (i := 32) rfl)) rfl (hw _ (List.mem_of_getElem? (i := 33) rfl)) (hw _ (List.mem_of_getElem? (i := 34) rfl)) (hw _ (List.mem_of_getElem? (i := 35) rfl)) (hw _ (List.mem_of_getElem? (i := 36) rfl)) (hw _ (List.mem_of_getElem? (i := 27) rfl)) (hw _ (List.mem_of_getElem? (i := 8) rfl)) (hw _ (List.mem_of_getElem? (i := 37) rfl)) (by decide) pd_4_1 rfl rfl (by decide) rfl (by decide) (by decide) (by decide) d4_28 rfl rfl (fun T143 h143 v143 S143 q143 => ?_)
      obtain ⟨rfl, rfl⟩ := q143
      show Go _ _ _ _ _ _ _ [(.int (3 : Int32)), (.ref b2), (.ref b2), (.ref t), (.int (4 : Int32)), (.ref b2)]
      refine px_iaload (v := (0 : Int32)) S143 A_b2 (i := 3) rfl (by decide) rfl d4_33 rfl ?_
      refine px_aloadN S143 d4_34 rfl rfl rfl ?_
      refine px_iloadN S143 d4_35 rfl rfl ?_
      refine px_callI (Cn := "com/example/ghost_state/ghoststate/Shadows$Path") (as' := [(.int (4 : Int32))]) (st := [(.int (0 : Int32)), (.ref b2), (.ref t), (.int (4 : Int32)), (.ref b2)]) (W := 5) S143 (c_elem (k := 3) (x := c3) hw S143.size ⟨X_t, F_t⟩ A0 (by decide) (by decide) e_c3 n_c3) X_t (hw _ (List.mem_of_getElem? (i := 38) rfl)) (hw _ (List.mem_of_getElem? (i := 39) rfl)) (hw _ (List.mem_of_getElem? (i := 40) rfl)) rfl (hw _ (List.mem_of_getElem? (i := 41) rfl)) (hw _ (List.mem_of_getElem? (i := 42) rfl)) (hw _ (List.mem_of_getElem? (i := 43) rfl)) (hw _ (List.mem_of_getElem? (i := 44) rfl)) (hw _ (List.mem_of_getElem? (i := 27) rfl)) (hw _ (List.mem_of_getElem? (i := 8) rfl)) (hw _ (List.mem_of_getElem? (i := 45) rfl)) (by decide) pd_4_2 rfl rfl (by decide) rfl (by decide) (by decide) (by decide) d4_36 rfl rfl (fun T144 h144 v144 S144 q144 => ?_)
      obtain ⟨rfl, rfl⟩ := q144
      show Go _ _ _ _ _ _ _ [(.int c3), (.int (0 : Int32)), (.ref b2), (.ref t), (.int (4 : Int32)), (.ref b2)]
      by_cases hE145 : c0.toInt = c3.toInt
      · refine px_callS (as' := [(.ref t), (.ref b2), (.int (0 : Int32)), (.int c3)]) (st := [(.int (4 : Int32)), (.ref b2)]) (W := 2) S144 (c_next (n := 5) (m := 6) (k0 := 0) (nl := (5 : Int32)) (r := (1 : Int32)) hw S144.size ⟨X_t, F_t⟩ A0 A_b2 rfl (by decide) (by decide) (Or.inr ⟨0, by decide, by decide, (by rw [e_c0]; exact hE145), by decide⟩)) (hw _ (List.mem_of_getElem? (i := 46) rfl)) (hw _ (List.mem_of_getElem? (i := 47) rfl)) (hw _ (List.mem_of_getElem? (i := 4) rfl)) (hw _ (List.mem_of_getElem? (i := 48) rfl)) (by decide) pd_4_3 rfl rfl (by decide) rfl (by decide) (by decide) (by decide) d4_41 rfl rfl (fun T146 h146 v146 S146 q146 => ?_)
        obtain ⟨rfl, rfl⟩ := q146
        show Go _ _ _ _ _ _ _ [(.int (1 : Int32)), (.int (4 : Int32)), (.ref b2)]
        refine px_iastore (v := (1 : Int32)) S146 A_b2 g_b2 (i := 4) rfl (by decide) rfl d4_44 rfl (fun T147 h147 S147 W147 A_b2 => ?_)
        replace X_t := X_t.wr W147
        replace F_t := F_t.other W147 (Or.inl ne_t_b2)
        replace A0 := A0.other W147 ne_p_b2
        refine px_iinc (v := (1 : Int32)) (r := (5 : Int32)) S147 d4_45 rfl rfl rfl (by decide) (L' := #[.val (.ref t), .val (.ref b2), .val (.int (5 : Int32))]) rfl ?_
        refine px_goto S147 d4_48 (by decide) (pc' := 15) rfl ?_
        refine px_iloadN S147 d4_15 rfl rfl ?_
        refine px_aloadN S147 d4_16 rfl rfl rfl ?_
        refine px_alenI (v := (6 : Int32)) S147 A_b2 rfl d4_17 rfl ?_
        refine px_icmp S147 d4_18 (by decide) (pc' := 51) rfl rfl (fun (hc148 : (5 : Int32).toInt ≥ (6 : Int32).toInt) => by exfalso; revert hc148; decide) (fun (hc148 : (5 : Int32).toInt < (6 : Int32).toInt) => ?_)
        refine px_aloadN S147 d4_21 rfl rfl rfl ?_
        refine px_iloadN S147 d4_22 rfl rfl ?_
        refine px_aloadN S147 d4_23 rfl rfl rfl ?_
        refine px_aloadN S147 d4_24 rfl rfl rfl ?_
        refine px_aloadN S147 d4_25 rfl rfl rfl ?_
        refine px_aloadN S147 d4_26 rfl rfl rfl ?_
        refine px_iloadN S147 d4_27 rfl rfl ?_
        refine px_callI (Cn := "com/example/ghost_state/ghoststate/Shadows$Path") (as' := [(.int (5 : Int32))]) (st := [(.ref b2), (.ref b2), (.ref t), (.int (5 : Int32)), (.ref b2)]) (W := 5) S147 (c_parent (r := (4 : Int32)) hw S147.size (by decide)) X_t (hw _ (List.mem_of_getElem? (i := 30) rfl)) (hw _ (List.mem_of_getElem? (i := 31) rfl)) (hw _ (List.mem_of_getElem? (i := 32) rfl)) rfl (hw _ (List.mem_of_getElem? (i := 33) rfl)) (hw _ (List.mem_of_getElem? (i := 34) rfl)) (hw _ (List.mem_of_getElem? (i := 35) rfl)) (hw _ (List.mem_of_getElem? (i := 36) rfl)) (hw _ (List.mem_of_getElem? (i := 27) rfl)) (hw _ (List.mem_of_getElem? (i := 8) rfl)) (hw _ (List.mem_of_getElem? (i := 37) rfl)) (by decide) pd_4_1 rfl rfl (by decide) rfl (by decide) (by decide) (by decide) d4_28 rfl rfl (fun T149 h149 v149 S149 q149 => ?_)
        obtain ⟨rfl, rfl⟩ := q149
        show Go _ _ _ _ _ _ _ [(.int (4 : Int32)), (.ref b2), (.ref b2), (.ref t), (.int (5 : Int32)), (.ref b2)]
        refine px_iaload (v := (1 : Int32)) S149 A_b2 (i := 4) rfl (by decide) rfl d4_33 rfl ?_
        refine px_aloadN S149 d4_34 rfl rfl rfl ?_
        refine px_iloadN S149 d4_35 rfl rfl ?_
        refine px_callI (Cn := "com/example/ghost_state/ghoststate/Shadows$Path") (as' := [(.int (5 : Int32))]) (st := [(.int (1 : Int32)), (.ref b2), (.ref t), (.int (5 : Int32)), (.ref b2)]) (W := 5) S149 (c_elem (k := 4) (x := c4) hw S149.size ⟨X_t, F_t⟩ A0 (by decide) (by decide) e_c4 n_c4) X_t (hw _ (List.mem_of_getElem? (i := 38) rfl)) (hw _ (List.mem_of_getElem? (i := 39) rfl)) (hw _ (List.mem_of_getElem? (i := 40) rfl)) rfl (hw _ (List.mem_of_getElem? (i := 41) rfl)) (hw _ (List.mem_of_getElem? (i := 42) rfl)) (hw _ (List.mem_of_getElem? (i := 43) rfl)) (hw _ (List.mem_of_getElem? (i := 44) rfl)) (hw _ (List.mem_of_getElem? (i := 27) rfl)) (hw _ (List.mem_of_getElem? (i := 8) rfl)) (hw _ (List.mem_of_getElem? (i := 45) rfl)) (by decide) pd_4_2 rfl rfl (by decide) rfl (by decide) (by decide) (by decide) d4_36 rfl rfl (fun T150 h150 v150 S150 q150 => ?_)
        obtain ⟨rfl, rfl⟩ := q150
        show Go _ _ _ _ _ _ _ [(.int c4), (.int (1 : Int32)), (.ref b2), (.ref t), (.int (5 : Int32)), (.ref b2)]
        by_cases hE151 : c1.toInt = c4.toInt
        · refine px_callS (as' := [(.ref t), (.ref b2), (.int (1 : Int32)), (.int c4)]) (st := [(.int (5 : Int32)), (.ref b2)]) (W := 2) S150 (c_next (n := 5) (m := 6) (k0 := 0) (nl := (5 : Int32)) (r := (2 : Int32)) hw S150.size ⟨X_t, F_t⟩ A0 A_b2 rfl (by decide) (by decide) (Or.inr ⟨1, by decide, by decide, (by rw [e_c1]; exact hE151), by decide⟩)) (hw _ (List.mem_of_getElem? (i := 46) rfl)) (hw _ (List.mem_of_getElem? (i := 47) rfl)) (hw _ (List.mem_of_getElem? (i := 4) rfl)) (hw _ (List.mem_of_getElem? (i := 48) rfl)) (by decide) pd_4_3 rfl rfl (by decide) rfl (by decide) (by decide) (by decide) d4_41 rfl rfl (fun T152 h152 v152 S152 q152 => ?_)
          obtain ⟨rfl, rfl⟩ := q152
          show Go _ _ _ _ _ _ _ [(.int (2 : Int32)), (.int (5 : Int32)), (.ref b2)]
          refine px_iastore (v := (2 : Int32)) S152 A_b2 g_b2 (i := 5) rfl (by decide) rfl d4_44 rfl (fun T153 h153 S153 W153 A_b2 => ?_)
          replace X_t := X_t.wr W153
          replace F_t := F_t.other W153 (Or.inl ne_t_b2)
          replace A0 := A0.other W153 ne_p_b2
          refine px_iinc (v := (1 : Int32)) (r := (6 : Int32)) S153 d4_45 rfl rfl rfl (by decide) (L' := #[.val (.ref t), .val (.ref b2), .val (.int (6 : Int32))]) rfl ?_
          refine px_goto S153 d4_48 (by decide) (pc' := 15) rfl ?_
          refine px_iloadN S153 d4_15 rfl rfl ?_
          refine px_aloadN S153 d4_16 rfl rfl rfl ?_
          refine px_alenI (v := (6 : Int32)) S153 A_b2 rfl d4_17 rfl ?_
          refine px_icmp S153 d4_18 (by decide) (pc' := 51) rfl rfl (fun (hc154 : (6 : Int32).toInt ≥ (6 : Int32).toInt) => ?_) (fun (hc154 : (6 : Int32).toInt < (6 : Int32).toInt) => by exfalso; revert hc154; decide)
          refine px_aloadN S153 d4_51 rfl rfl rfl ?_
          exact px_retA S153 d4_52 rfl rfl rfl (by decide) (by decide) (⟨b2, (-1 : Int32), (0 : Int32), (0 : Int32), (0 : Int32), (1 : Int32), (2 : Int32), rfl, g_b2, ((((((((Keep.refl _ _).ext E2).wr W3 (Or.inr (Nat.le_of_eq z2.symm))).wr W8 (Or.inr (Nat.le_of_eq z2.symm))).wr W87 (Or.inr (Nat.le_of_eq z2.symm))).wr W141 (Or.inr (Nat.le_of_eq z2.symm))).wr W147 (Or.inr (Nat.le_of_eq z2.symm))).wr W153 (Or.inr (Nat.le_of_eq z2.symm))), A_b2.congr (all6 rfl rfl rfl rfl rfl rfl), rfl, rfl, Or.inl (⟨rfl, by omega⟩), Or.inl (⟨rfl, by omega, by omega⟩), Or.inr (Or.inl (⟨rfl, by omega, by omega, by omega⟩)), Or.inr (Or.inr (Or.inl (⟨rfl, by omega, by omega, by omega⟩)))⟩)
        · by_cases hE155 : c0.toInt = c4.toInt
          · refine px_callS (as' := [(.ref t), (.ref b2), (.int (1 : Int32)), (.int c4)]) (st := [(.int (5 : Int32)), (.ref b2)]) (W := 2) S150 (c_next (n := 5) (m := 6) (k0 := 1) (nl := (5 : Int32)) (r := (1 : Int32)) hw S150.size ⟨X_t, F_t⟩ A0 A_b2 rfl (by decide) (by decide) (⟨1, by decide, by decide, (by rw [e_c1]; exact hE151), Or.inr ⟨0, by decide, by decide, (by rw [e_c0]; exact hE155), by decide⟩⟩)) (hw _ (List.mem_of_getElem? (i := 46) rfl)) (hw _ (List.mem_of_getElem? (i := 47) rfl)) (hw _ (List.mem_of_getElem? (i := 4) rfl)) (hw _ (List.mem_of_getElem? (i := 48) rfl)) (by decide) pd_4_3 rfl rfl (by decide) rfl (by decide) (by decide) (by decide) d4_41 rfl rfl (fun T156 h156 v156 S156 q156 => ?_)
            obtain ⟨rfl, rfl⟩ := q156
            show Go _ _ _ _ _ _ _ [(.int (1 : Int32)), (.int (5 : Int32)), (.ref b2)]
            refine px_iastore (v := (1 : Int32)) S156 A_b2 g_b2 (i := 5) rfl (by decide) rfl d4_44 rfl (fun T157 h157 S157 W157 A_b2 => ?_)
            replace X_t := X_t.wr W157
            replace F_t := F_t.other W157 (Or.inl ne_t_b2)
            replace A0 := A0.other W157 ne_p_b2
            refine px_iinc (v := (1 : Int32)) (r := (6 : Int32)) S157 d4_45 rfl rfl rfl (by decide) (L' := #[.val (.ref t), .val (.ref b2), .val (.int (6 : Int32))]) rfl ?_
            refine px_goto S157 d4_48 (by decide) (pc' := 15) rfl ?_
            refine px_iloadN S157 d4_15 rfl rfl ?_
            refine px_aloadN S157 d4_16 rfl rfl rfl ?_
            refine px_alenI (v := (6 : Int32)) S157 A_b2 rfl d4_17 rfl ?_
            refine px_icmp S157 d4_18 (by decide) (pc' := 51) rfl rfl (fun (hc158 : (6 : Int32).toInt ≥ (6 : Int32).toInt) => ?_) (fun (hc158 : (6 : Int32).toInt < (6 : Int32).toInt) => by exfalso; revert hc158; decide)
            refine px_aloadN S157 d4_51 rfl rfl rfl ?_
            exact px_retA S157 d4_52 rfl rfl rfl (by decide) (by decide) (⟨b2, (-1 : Int32), (0 : Int32), (0 : Int32), (0 : Int32), (1 : Int32), (1 : Int32), rfl, g_b2, ((((((((Keep.refl _ _).ext E2).wr W3 (Or.inr (Nat.le_of_eq z2.symm))).wr W8 (Or.inr (Nat.le_of_eq z2.symm))).wr W87 (Or.inr (Nat.le_of_eq z2.symm))).wr W141 (Or.inr (Nat.le_of_eq z2.symm))).wr W147 (Or.inr (Nat.le_of_eq z2.symm))).wr W157 (Or.inr (Nat.le_of_eq z2.symm))), A_b2.congr (all6 rfl rfl rfl rfl rfl rfl), rfl, rfl, Or.inl (⟨rfl, by omega⟩), Or.inl (⟨rfl, by omega, by omega⟩), Or.inr (Or.inl (⟨rfl, by omega, by omega, by omega⟩)), Or.inr (Or.inl (⟨rfl, by omega, by omega, by omega, by omega⟩))⟩)
          · refine px_callS (as' := [(.ref t), (.ref b2), (.int (1 : Int32)), (.int c4)]) (st := [(.int (5 : Int32)), (.ref b2)]) (W := 2) S150 (c_next (n := 5) (m := 6) (k0 := 2) (nl := (5 : Int32)) (r := (0 : Int32)) hw S150.size ⟨X_t, F_t⟩ A0 A_b2 rfl (by decide) (by decide) (⟨1, by decide, by decide, (by rw [e_c1]; exact hE151), ⟨0, by decide, by decide, (by rw [e_c0]; exact hE155), Or.inl ⟨by decide, rfl⟩⟩⟩)) (hw _ (List.mem_of_getElem? (i := 46) rfl)) (hw _ (List.mem_of_getElem? (i := 47) rfl)) (hw _ (List.mem_of_getElem? (i := 4) rfl)) (hw _ (List.mem_of_getElem? (i := 48) rfl)) (by decide) pd_4_3 rfl rfl (by decide) rfl (by decide) (by decide) (by decide) d4_41 rfl rfl (fun T159 h159 v159 S159 q159 => ?_)
            obtain ⟨rfl, rfl⟩ := q159
            show Go _ _ _ _ _ _ _ [(.int (0 : Int32)), (.int (5 : Int32)), (.ref b2)]
            refine px_iastore (v := (0 : Int32)) S159 A_b2 g_b2 (i := 5) rfl (by decide) rfl d4_44 rfl (fun T160 h160 S160 W160 A_b2 => ?_)
            replace X_t := X_t.wr W160
            replace F_t := F_t.other W160 (Or.inl ne_t_b2)
            replace A0 := A0.other W160 ne_p_b2
            refine px_iinc (v := (1 : Int32)) (r := (6 : Int32)) S160 d4_45 rfl rfl rfl (by decide) (L' := #[.val (.ref t), .val (.ref b2), .val (.int (6 : Int32))]) rfl ?_
            refine px_goto S160 d4_48 (by decide) (pc' := 15) rfl ?_
            refine px_iloadN S160 d4_15 rfl rfl ?_
            refine px_aloadN S160 d4_16 rfl rfl rfl ?_
            refine px_alenI (v := (6 : Int32)) S160 A_b2 rfl d4_17 rfl ?_
            refine px_icmp S160 d4_18 (by decide) (pc' := 51) rfl rfl (fun (hc161 : (6 : Int32).toInt ≥ (6 : Int32).toInt) => ?_) (fun (hc161 : (6 : Int32).toInt < (6 : Int32).toInt) => by exfalso; revert hc161; decide)
            refine px_aloadN S160 d4_51 rfl rfl rfl ?_
            exact px_retA S160 d4_52 rfl rfl rfl (by decide) (by decide) (⟨b2, (-1 : Int32), (0 : Int32), (0 : Int32), (0 : Int32), (1 : Int32), (0 : Int32), rfl, g_b2, ((((((((Keep.refl _ _).ext E2).wr W3 (Or.inr (Nat.le_of_eq z2.symm))).wr W8 (Or.inr (Nat.le_of_eq z2.symm))).wr W87 (Or.inr (Nat.le_of_eq z2.symm))).wr W141 (Or.inr (Nat.le_of_eq z2.symm))).wr W147 (Or.inr (Nat.le_of_eq z2.symm))).wr W160 (Or.inr (Nat.le_of_eq z2.symm))), A_b2.congr (all6 rfl rfl rfl rfl rfl rfl), rfl, rfl, Or.inl (⟨rfl, by omega⟩), Or.inl (⟨rfl, by omega, by omega⟩), Or.inr (Or.inl (⟨rfl, by omega, by omega, by omega⟩)), Or.inl (⟨rfl, by omega, by omega, by omega, by omega⟩)⟩)
      · refine px_callS (as' := [(.ref t), (.ref b2), (.int (0 : Int32)), (.int c3)]) (st := [(.int (4 : Int32)), (.ref b2)]) (W := 2) S144 (c_next (n := 5) (m := 6) (k0 := 1) (nl := (5 : Int32)) (r := (0 : Int32)) hw S144.size ⟨X_t, F_t⟩ A0 A_b2 rfl (by decide) (by decide) (⟨0, by decide, by decide, (by rw [e_c0]; exact hE145), Or.inl ⟨by decide, rfl⟩⟩)) (hw _ (List.mem_of_getElem? (i := 46) rfl)) (hw _ (List.mem_of_getElem? (i := 47) rfl)) (hw _ (List.mem_of_getElem? (i := 4) rfl)) (hw _ (List.mem_of_getElem? (i := 48) rfl)) (by decide) pd_4_3 rfl rfl (by decide) rfl (by decide) (by decide) (by decide) d4_41 rfl rfl (fun T162 h162 v162 S162 q162 => ?_)
        obtain ⟨rfl, rfl⟩ := q162
        show Go _ _ _ _ _ _ _ [(.int (0 : Int32)), (.int (4 : Int32)), (.ref b2)]
        refine px_iastore (v := (0 : Int32)) S162 A_b2 g_b2 (i := 4) rfl (by decide) rfl d4_44 rfl (fun T163 h163 S163 W163 A_b2 => ?_)
        replace X_t := X_t.wr W163
        replace F_t := F_t.other W163 (Or.inl ne_t_b2)
        replace A0 := A0.other W163 ne_p_b2
        refine px_iinc (v := (1 : Int32)) (r := (5 : Int32)) S163 d4_45 rfl rfl rfl (by decide) (L' := #[.val (.ref t), .val (.ref b2), .val (.int (5 : Int32))]) rfl ?_
        refine px_goto S163 d4_48 (by decide) (pc' := 15) rfl ?_
        refine px_iloadN S163 d4_15 rfl rfl ?_
        refine px_aloadN S163 d4_16 rfl rfl rfl ?_
        refine px_alenI (v := (6 : Int32)) S163 A_b2 rfl d4_17 rfl ?_
        refine px_icmp S163 d4_18 (by decide) (pc' := 51) rfl rfl (fun (hc164 : (5 : Int32).toInt ≥ (6 : Int32).toInt) => by exfalso; revert hc164; decide) (fun (hc164 : (5 : Int32).toInt < (6 : Int32).toInt) => ?_)
        refine px_aloadN S163 d4_21 rfl rfl rfl ?_
        refine px_iloadN S163 d4_22 rfl rfl ?_
        refine px_aloadN S163 d4_23 rfl rfl rfl ?_
        refine px_aloadN S163 d4_24 rfl rfl rfl ?_
        refine px_aloadN S163 d4_25 rfl rfl rfl ?_
        refine px_aloadN S163 d4_26 rfl rfl rfl ?_
        refine px_iloadN S163 d4_27 rfl rfl ?_
        refine px_callI (Cn := "com/example/ghost_state/ghoststate/Shadows$Path") (as' := [(.int (5 : Int32))]) (st := [(.ref b2), (.ref b2), (.ref t), (.int (5 : Int32)), (.ref b2)]) (W := 5) S163 (c_parent (r := (4 : Int32)) hw S163.size (by decide)) X_t (hw _ (List.mem_of_getElem? (i := 30) rfl)) (hw _ (List.mem_of_getElem? (i := 31) rfl)) (hw _ (List.mem_of_getElem? (i := 32) rfl)) rfl (hw _ (List.mem_of_getElem? (i := 33) rfl)) (hw _ (List.mem_of_getElem? (i := 34) rfl)) (hw _ (List.mem_of_getElem? (i := 35) rfl)) (hw _ (List.mem_of_getElem? (i := 36) rfl)) (hw _ (List.mem_of_getElem? (i := 27) rfl)) (hw _ (List.mem_of_getElem? (i := 8) rfl)) (hw _ (List.mem_of_getElem? (i := 37) rfl)) (by decide) pd_4_1 rfl rfl (by decide) rfl (by decide) (by decide) (by decide) d4_28 rfl rfl (fun T165 h165 v165 S165 q165 => ?_)
        obtain ⟨rfl, rfl⟩ := q165
        show Go _ _ _ _ _ _ _ [(.int (4 : Int32)), (.ref b2), (.ref b2), (.ref t), (.int (5 : Int32)), (.ref b2)]
        refine px_iaload (v := (0 : Int32)) S165 A_b2 (i := 4) rfl (by decide) rfl d4_33 rfl ?_
        refine px_aloadN S165 d4_34 rfl rfl rfl ?_
        refine px_iloadN S165 d4_35 rfl rfl ?_
        refine px_callI (Cn := "com/example/ghost_state/ghoststate/Shadows$Path") (as' := [(.int (5 : Int32))]) (st := [(.int (0 : Int32)), (.ref b2), (.ref t), (.int (5 : Int32)), (.ref b2)]) (W := 5) S165 (c_elem (k := 4) (x := c4) hw S165.size ⟨X_t, F_t⟩ A0 (by decide) (by decide) e_c4 n_c4) X_t (hw _ (List.mem_of_getElem? (i := 38) rfl)) (hw _ (List.mem_of_getElem? (i := 39) rfl)) (hw _ (List.mem_of_getElem? (i := 40) rfl)) rfl (hw _ (List.mem_of_getElem? (i := 41) rfl)) (hw _ (List.mem_of_getElem? (i := 42) rfl)) (hw _ (List.mem_of_getElem? (i := 43) rfl)) (hw _ (List.mem_of_getElem? (i := 44) rfl)) (hw _ (List.mem_of_getElem? (i := 27) rfl)) (hw _ (List.mem_of_getElem? (i := 8) rfl)) (hw _ (List.mem_of_getElem? (i := 45) rfl)) (by decide) pd_4_2 rfl rfl (by decide) rfl (by decide) (by decide) (by decide) d4_36 rfl rfl (fun T166 h166 v166 S166 q166 => ?_)
        obtain ⟨rfl, rfl⟩ := q166
        show Go _ _ _ _ _ _ _ [(.int c4), (.int (0 : Int32)), (.ref b2), (.ref t), (.int (5 : Int32)), (.ref b2)]
        by_cases hE167 : c0.toInt = c4.toInt
        · refine px_callS (as' := [(.ref t), (.ref b2), (.int (0 : Int32)), (.int c4)]) (st := [(.int (5 : Int32)), (.ref b2)]) (W := 2) S166 (c_next (n := 5) (m := 6) (k0 := 0) (nl := (5 : Int32)) (r := (1 : Int32)) hw S166.size ⟨X_t, F_t⟩ A0 A_b2 rfl (by decide) (by decide) (Or.inr ⟨0, by decide, by decide, (by rw [e_c0]; exact hE167), by decide⟩)) (hw _ (List.mem_of_getElem? (i := 46) rfl)) (hw _ (List.mem_of_getElem? (i := 47) rfl)) (hw _ (List.mem_of_getElem? (i := 4) rfl)) (hw _ (List.mem_of_getElem? (i := 48) rfl)) (by decide) pd_4_3 rfl rfl (by decide) rfl (by decide) (by decide) (by decide) d4_41 rfl rfl (fun T168 h168 v168 S168 q168 => ?_)
          obtain ⟨rfl, rfl⟩ := q168
          show Go _ _ _ _ _ _ _ [(.int (1 : Int32)), (.int (5 : Int32)), (.ref b2)]
          refine px_iastore (v := (1 : Int32)) S168 A_b2 g_b2 (i := 5) rfl (by decide) rfl d4_44 rfl (fun T169 h169 S169 W169 A_b2 => ?_)
          replace X_t := X_t.wr W169
          replace F_t := F_t.other W169 (Or.inl ne_t_b2)
          replace A0 := A0.other W169 ne_p_b2
          refine px_iinc (v := (1 : Int32)) (r := (6 : Int32)) S169 d4_45 rfl rfl rfl (by decide) (L' := #[.val (.ref t), .val (.ref b2), .val (.int (6 : Int32))]) rfl ?_
          refine px_goto S169 d4_48 (by decide) (pc' := 15) rfl ?_
          refine px_iloadN S169 d4_15 rfl rfl ?_
          refine px_aloadN S169 d4_16 rfl rfl rfl ?_
          refine px_alenI (v := (6 : Int32)) S169 A_b2 rfl d4_17 rfl ?_
          refine px_icmp S169 d4_18 (by decide) (pc' := 51) rfl rfl (fun (hc170 : (6 : Int32).toInt ≥ (6 : Int32).toInt) => ?_) (fun (hc170 : (6 : Int32).toInt < (6 : Int32).toInt) => by exfalso; revert hc170; decide)
          refine px_aloadN S169 d4_51 rfl rfl rfl ?_
          exact px_retA S169 d4_52 rfl rfl rfl (by decide) (by decide) (⟨b2, (-1 : Int32), (0 : Int32), (0 : Int32), (0 : Int32), (0 : Int32), (1 : Int32), rfl, g_b2, ((((((((Keep.refl _ _).ext E2).wr W3 (Or.inr (Nat.le_of_eq z2.symm))).wr W8 (Or.inr (Nat.le_of_eq z2.symm))).wr W87 (Or.inr (Nat.le_of_eq z2.symm))).wr W141 (Or.inr (Nat.le_of_eq z2.symm))).wr W163 (Or.inr (Nat.le_of_eq z2.symm))).wr W169 (Or.inr (Nat.le_of_eq z2.symm))), A_b2.congr (all6 rfl rfl rfl rfl rfl rfl), rfl, rfl, Or.inl (⟨rfl, by omega⟩), Or.inl (⟨rfl, by omega, by omega⟩), Or.inl (⟨rfl, by omega, by omega, by omega⟩), Or.inr (Or.inl (⟨rfl, by omega, by omega, by omega, by omega⟩))⟩)
        · refine px_callS (as' := [(.ref t), (.ref b2), (.int (0 : Int32)), (.int c4)]) (st := [(.int (5 : Int32)), (.ref b2)]) (W := 2) S166 (c_next (n := 5) (m := 6) (k0 := 1) (nl := (5 : Int32)) (r := (0 : Int32)) hw S166.size ⟨X_t, F_t⟩ A0 A_b2 rfl (by decide) (by decide) (⟨0, by decide, by decide, (by rw [e_c0]; exact hE167), Or.inl ⟨by decide, rfl⟩⟩)) (hw _ (List.mem_of_getElem? (i := 46) rfl)) (hw _ (List.mem_of_getElem? (i := 47) rfl)) (hw _ (List.mem_of_getElem? (i := 4) rfl)) (hw _ (List.mem_of_getElem? (i := 48) rfl)) (by decide) pd_4_3 rfl rfl (by decide) rfl (by decide) (by decide) (by decide) d4_41 rfl rfl (fun T171 h171 v171 S171 q171 => ?_)
          obtain ⟨rfl, rfl⟩ := q171
          show Go _ _ _ _ _ _ _ [(.int (0 : Int32)), (.int (5 : Int32)), (.ref b2)]
          refine px_iastore (v := (0 : Int32)) S171 A_b2 g_b2 (i := 5) rfl (by decide) rfl d4_44 rfl (fun T172 h172 S172 W172 A_b2 => ?_)
          replace X_t := X_t.wr W172
          replace F_t := F_t.other W172 (Or.inl ne_t_b2)
          replace A0 := A0.other W172 ne_p_b2
          refine px_iinc (v := (1 : Int32)) (r := (6 : Int32)) S172 d4_45 rfl rfl rfl (by decide) (L' := #[.val (.ref t), .val (.ref b2), .val (.int (6 : Int32))]) rfl ?_
          refine px_goto S172 d4_48 (by decide) (pc' := 15) rfl ?_
          refine px_iloadN S172 d4_15 rfl rfl ?_
          refine px_aloadN S172 d4_16 rfl rfl rfl ?_
          refine px_alenI (v := (6 : Int32)) S172 A_b2 rfl d4_17 rfl ?_
          refine px_icmp S172 d4_18 (by decide) (pc' := 51) rfl rfl (fun (hc173 : (6 : Int32).toInt ≥ (6 : Int32).toInt) => ?_) (fun (hc173 : (6 : Int32).toInt < (6 : Int32).toInt) => by exfalso; revert hc173; decide)
          refine px_aloadN S172 d4_51 rfl rfl rfl ?_
          exact px_retA S172 d4_52 rfl rfl rfl (by decide) (by decide) (⟨b2, (-1 : Int32), (0 : Int32), (0 : Int32), (0 : Int32), (0 : Int32), (0 : Int32), rfl, g_b2, ((((((((Keep.refl _ _).ext E2).wr W3 (Or.inr (Nat.le_of_eq z2.symm))).wr W8 (Or.inr (Nat.le_of_eq z2.symm))).wr W87 (Or.inr (Nat.le_of_eq z2.symm))).wr W141 (Or.inr (Nat.le_of_eq z2.symm))).wr W163 (Or.inr (Nat.le_of_eq z2.symm))).wr W172 (Or.inr (Nat.le_of_eq z2.symm))), A_b2.congr (all6 rfl rfl rfl rfl rfl rfl), rfl, rfl, Or.inl (⟨rfl, by omega⟩), Or.inl (⟨rfl, by omega, by omega⟩), Or.inl (⟨rfl, by omega, by omega, by omega⟩), Or.inl (⟨rfl, by omega, by omega, by omega, by omega⟩)⟩)
theorem d1_0 : decode prog_23_method_2_code 0 = .ok (.new 7, 3) := by decide +kernel
theorem d1_3 : decode prog_23_method_2_code 3 = .ok (.dup, 1) := by decide +kernel
theorem d1_4 : decode prog_23_method_2_code 4 = .ok (.aload_n 0, 1) := by decide +kernel
theorem d1_5 : decode prog_23_method_2_code 5 = .ok (.invokespecial 9, 3) := by decide +kernel
theorem d1_8 : decode prog_23_method_2_code 8 = .ok (.invokestatic 12, 3) := by decide +kernel
theorem d1_11 : decode prog_23_method_2_code 11 = .ok (.areturn, 1) := by decide +kernel
theorem pd_1_0 : parseMethodDescriptor "([C)V" = some ⟨[(.array .char)], none⟩ := by decide +kernel
theorem pd_1_1 : parseMethodDescriptor "(Lcom/example/ghost_state/ghoststate/Shadows$PrefixTree;)[I" = some ⟨[(.object "com/example/ghost_state/ghoststate/Shadows$PrefixTree")], some (.array .int)⟩ := by decide +kernel
theorem pn_1 : plainFor (⟨"com/example/ghost_state/ghoststate/Shadows", "of", "([C)[I"⟩ : MethodName) = true := plainFor_of_name (by first | (simp [plainName, overriddenIn]; done) | decide +kernel)
set_option maxRecDepth 65536 in
set_option maxHeartbeats 40000000 in
theorem c_of0 {Z : State} {a0 : Array Value} (hw : ∀ d ∈ tables_1, d.before a0 Z = true) {p : Addr} {dummy : Int32} {f : Nat → Int32} {h0 : Heap} {n0 : Nat} (Z0 : n0 ≤ h0.size) (A0 : AI Z h0 p .char 0 f) :
    Ctr Z n0 (⟨"com/example/ghost_state/ghoststate/Shadows", "of", "([C)[I"⟩ : MethodName) prog_23_method_2_code 1 (some (.array .int)) ({ frames := 3, cells := 2, slots := 7, locals := 47 } : Room) [(.ref p)] h0 (fun v h => ∃ (b : Addr) (s0 : Int32), v = some (.ref b) ∧ n0 ≤ b ∧ Keep h0 h [] ∧ AI Z h b .int 1 (updF (fun _ => 0) 0 s0) ∧ s0.toInt = -1 ∧ True) := by
  refine Ctr.of (L := #[.val (.ref p)]) pn_1 Z0 (fun m => by first | (simp [entryFrame, mkF, argsToLocals, Value.category]; done) | rfl) ?_
  intro K T S0
  refine px_new S0 (hw _ (List.mem_of_getElem? (i := 6) rfl)) (hw _ (List.mem_of_getElem? (i := 7) rfl)) (hw _ (List.mem_of_getElem? (i := 8) rfl)) (by decide) (by decide) d1_0 rfl (fun T1 h1 b1 z1 g_b1 S1 E1 X_b1 D1 => ?_)
  have ne_p_b1 : p ≠ b1 := ne_new z1 A0.lt
  replace A0 := A0.ext E1
  have F_pattern_b1 : Fld Z h1 b1 "com/example/ghost_state/ghoststate/Shadows$Path" "pattern" "[C" .null := D1 (Or.inr (hw _ (List.mem_of_getElem? (i := 16) rfl))) (ty := (.array .char)) (by decide)
  refine px_dup S1 d1_3 rfl rfl ?_
  refine px_aloadN S1 d1_4 rfl rfl rfl ?_
  refine px_callC (as' := [(.ref p)]) (st := [(.ref b1)]) (W := 1) S1 (c_init hw S1.size g_b1 X_b1 F_pattern_b1) rfl (hw _ (List.mem_of_getElem? (i := 9) rfl)) (hw _ (List.mem_of_getElem? (i := 10) rfl)) (hw _ (List.mem_of_getElem? (i := 8) rfl)) (hw _ (List.mem_of_getElem? (i := 11) rfl)) (by decide) pd_1_0 rfl rfl (by decide) rfl (by decide) (by decide) (by decide) d1_5 rfl rfl (fun T2 h2 v2 S2 q2 => ?_)
  obtain ⟨rfl, K2, X_b1, F_b1⟩ := q2
  show Go _ _ _ _ _ _ _ [(.ref b1)]
  replace A0 := A0.keep K2 (ninS ne_p_b1 nin0)
  refine px_callS (as' := [(.ref b1)]) (st := []) (W := 0) S2 (c_ofT0 (dummy := 0) hw S2.size ⟨X_b1, F_b1⟩ A0) (hw _ (List.mem_of_getElem? (i := 17) rfl)) (hw _ (List.mem_of_getElem? (i := 18) rfl)) (hw _ (List.mem_of_getElem? (i := 4) rfl)) (hw _ (List.mem_of_getElem? (i := 19) rfl)) (by decide) pd_1_1 rfl rfl (by decide) rfl (by decide) (by decide) (by decide) d1_8 rfl rfl (fun T3 h3 v3 S3 q3 => ?_)
  obtain ⟨b, s0, rfl, g_b, Kb, A_b, sp⟩ := q3
  show Go _ _ _ _ _ _ _ [(.ref b)]
  exact px_retA S3 d1_11 rfl rfl rfl (by decide) (by decide) (⟨b, s0, rfl, g_b, ((((Keep.refl _ _).ext E1).trans K2 (allS (Or.inr (Nat.le_of_eq z1.symm)) all0)).trans Kb all0), A_b, sp⟩)
set_option maxRecDepth 65536 in
set_option maxHeartbeats 40000000 in
theorem c_of1 {Z : State} {a0 : Array Value} (hw : ∀ d ∈ tables_1, d.before a0 Z = true) {p : Addr} {c0 : Int32} {f : Nat → Int32} {h0 : Heap} {n0 : Nat} (Z0 : n0 ≤ h0.size) (A0 : AI Z h0 p .char 1 f) (e_c0 : f 0 = c0) (n_c0 : nar .char c0 = c0) :
    Ctr Z n0 (⟨"com/example/ghost_state/ghoststate/Shadows", "of", "([C)[I"⟩ : MethodName) prog_23_method_2_code 1 (some (.array .int)) ({ frames := 3, cells := 2, slots := 7, locals := 47 } : Room) [(.ref p)] h0 (fun v h => ∃ (b : Addr) (s0 s1 : Int32), v = some (.ref b) ∧ n0 ≤ b ∧ Keep h0 h [] ∧ AI Z h b .int 2 (updF (updF (fun _ => 0) 0 s0) 1 s1) ∧ s0.toInt = -1 ∧ ((s1.toInt = 0))) := by
  refine Ctr.of (L := #[.val (.ref p)]) pn_1 Z0 (fun m => by first | (simp [entryFrame, mkF, argsToLocals, Value.category]; done) | rfl) ?_
  intro K T S0
  refine px_new S0 (hw _ (List.mem_of_getElem? (i := 6) rfl)) (hw _ (List.mem_of_getElem? (i := 7) rfl)) (hw _ (List.mem_of_getElem? (i := 8) rfl)) (by decide) (by decide) d1_0 rfl (fun T1 h1 b1 z1 g_b1 S1 E1 X_b1 D1 => ?_)
  have ne_p_b1 : p ≠ b1 := ne_new z1 A0.lt
  replace A0 := A0.ext E1
  have F_pattern_b1 : Fld Z h1 b1 "com/example/ghost_state/ghoststate/Shadows$Path" "pattern" "[C" .null := D1 (Or.inr (hw _ (List.mem_of_getElem? (i := 16) rfl))) (ty := (.array .char)) (by decide)
  refine px_dup S1 d1_3 rfl rfl ?_
  refine px_aloadN S1 d1_4 rfl rfl rfl ?_
  refine px_callC (as' := [(.ref p)]) (st := [(.ref b1)]) (W := 1) S1 (c_init hw S1.size g_b1 X_b1 F_pattern_b1) rfl (hw _ (List.mem_of_getElem? (i := 9) rfl)) (hw _ (List.mem_of_getElem? (i := 10) rfl)) (hw _ (List.mem_of_getElem? (i := 8) rfl)) (hw _ (List.mem_of_getElem? (i := 11) rfl)) (by decide) pd_1_0 rfl rfl (by decide) rfl (by decide) (by decide) (by decide) d1_5 rfl rfl (fun T2 h2 v2 S2 q2 => ?_)
  obtain ⟨rfl, K2, X_b1, F_b1⟩ := q2
  show Go _ _ _ _ _ _ _ [(.ref b1)]
  replace A0 := A0.keep K2 (ninS ne_p_b1 nin0)
  refine px_callS (as' := [(.ref b1)]) (st := []) (W := 0) S2 (c_ofT1 hw S2.size ⟨X_b1, F_b1⟩ A0 e_c0 n_c0) (hw _ (List.mem_of_getElem? (i := 17) rfl)) (hw _ (List.mem_of_getElem? (i := 18) rfl)) (hw _ (List.mem_of_getElem? (i := 4) rfl)) (hw _ (List.mem_of_getElem? (i := 19) rfl)) (by decide) pd_1_1 rfl rfl (by decide) rfl (by decide) (by decide) (by decide) d1_8 rfl rfl (fun T3 h3 v3 S3 q3 => ?_)
  obtain ⟨b, s0, s1, rfl, g_b, Kb, A_b, sp⟩ := q3
  show Go _ _ _ _ _ _ _ [(.ref b)]
  exact px_retA S3 d1_11 rfl rfl rfl (by decide) (by decide) (⟨b, s0, s1, rfl, g_b, ((((Keep.refl _ _).ext E1).trans K2 (allS (Or.inr (Nat.le_of_eq z1.symm)) all0)).trans Kb all0), A_b, sp⟩)
set_option maxRecDepth 65536 in
set_option maxHeartbeats 40000000 in
theorem c_of2 {Z : State} {a0 : Array Value} (hw : ∀ d ∈ tables_1, d.before a0 Z = true) {p : Addr} {c0 c1 : Int32} {f : Nat → Int32} {h0 : Heap} {n0 : Nat} (Z0 : n0 ≤ h0.size) (A0 : AI Z h0 p .char 2 f) (e_c0 : f 0 = c0) (e_c1 : f 1 = c1) (n_c0 : nar .char c0 = c0) (n_c1 : nar .char c1 = c1) :
    Ctr Z n0 (⟨"com/example/ghost_state/ghoststate/Shadows", "of", "([C)[I"⟩ : MethodName) prog_23_method_2_code 1 (some (.array .int)) ({ frames := 3, cells := 2, slots := 7, locals := 47 } : Room) [(.ref p)] h0 (fun v h => ∃ (b : Addr) (s0 s1 s2 : Int32), v = some (.ref b) ∧ n0 ≤ b ∧ Keep h0 h [] ∧ AI Z h b .int 3 (updF (updF (updF (fun _ => 0) 0 s0) 1 s1) 2 s2) ∧ s0.toInt = -1 ∧ ((s1.toInt = 0)) ∧ ((s2.toInt = 0 ∧ ¬ (c0.toInt = c1.toInt)) ∨ (s2.toInt = 1 ∧ (c0.toInt = c1.toInt)))) := by
  refine Ctr.of (L := #[.val (.ref p)]) pn_1 Z0 (fun m => by first | (simp [entryFrame, mkF, argsToLocals, Value.category]; done) | rfl) ?_
  intro K T S0
  refine px_new S0 (hw _ (List.mem_of_getElem? (i := 6) rfl)) (hw _ (List.mem_of_getElem? (i := 7) rfl)) (hw _ (List.mem_of_getElem? (i := 8) rfl)) (by decide) (by decide) d1_0 rfl (fun T1 h1 b1 z1 g_b1 S1 E1 X_b1 D1 => ?_)
  have ne_p_b1 : p ≠ b1 := ne_new z1 A0.lt
  replace A0 := A0.ext E1
  have F_pattern_b1 : Fld Z h1 b1 "com/example/ghost_state/ghoststate/Shadows$Path" "pattern" "[C" .null := D1 (Or.inr (hw _ (List.mem_of_getElem? (i := 16) rfl))) (ty := (.array .char)) (by decide)
  refine px_dup S1 d1_3 rfl rfl ?_
  refine px_aloadN S1 d1_4 rfl rfl rfl ?_
  refine px_callC (as' := [(.ref p)]) (st := [(.ref b1)]) (W := 1) S1 (c_init hw S1.size g_b1 X_b1 F_pattern_b1) rfl (hw _ (List.mem_of_getElem? (i := 9) rfl)) (hw _ (List.mem_of_getElem? (i := 10) rfl)) (hw _ (List.mem_of_getElem? (i := 8) rfl)) (hw _ (List.mem_of_getElem? (i := 11) rfl)) (by decide) pd_1_0 rfl rfl (by decide) rfl (by decide) (by decide) (by decide) d1_5 rfl rfl (fun T2 h2 v2 S2 q2 => ?_)
  obtain ⟨rfl, K2, X_b1, F_b1⟩ := q2
  show Go _ _ _ _ _ _ _ [(.ref b1)]
  replace A0 := A0.keep K2 (ninS ne_p_b1 nin0)
  refine px_callS (as' := [(.ref b1)]) (st := []) (W := 0) S2 (c_ofT2 hw S2.size ⟨X_b1, F_b1⟩ A0 e_c0 e_c1 n_c0 n_c1) (hw _ (List.mem_of_getElem? (i := 17) rfl)) (hw _ (List.mem_of_getElem? (i := 18) rfl)) (hw _ (List.mem_of_getElem? (i := 4) rfl)) (hw _ (List.mem_of_getElem? (i := 19) rfl)) (by decide) pd_1_1 rfl rfl (by decide) rfl (by decide) (by decide) (by decide) d1_8 rfl rfl (fun T3 h3 v3 S3 q3 => ?_)
  obtain ⟨b, s0, s1, s2, rfl, g_b, Kb, A_b, sp⟩ := q3
  show Go _ _ _ _ _ _ _ [(.ref b)]
  exact px_retA S3 d1_11 rfl rfl rfl (by decide) (by decide) (⟨b, s0, s1, s2, rfl, g_b, ((((Keep.refl _ _).ext E1).trans K2 (allS (Or.inr (Nat.le_of_eq z1.symm)) all0)).trans Kb all0), A_b, sp⟩)
set_option maxRecDepth 65536 in
set_option maxHeartbeats 40000000 in
theorem c_of3 {Z : State} {a0 : Array Value} (hw : ∀ d ∈ tables_1, d.before a0 Z = true) {p : Addr} {c0 c1 c2 : Int32} {f : Nat → Int32} {h0 : Heap} {n0 : Nat} (Z0 : n0 ≤ h0.size) (A0 : AI Z h0 p .char 3 f) (e_c0 : f 0 = c0) (e_c1 : f 1 = c1) (e_c2 : f 2 = c2) (n_c0 : nar .char c0 = c0) (n_c1 : nar .char c1 = c1) (n_c2 : nar .char c2 = c2) :
    Ctr Z n0 (⟨"com/example/ghost_state/ghoststate/Shadows", "of", "([C)[I"⟩ : MethodName) prog_23_method_2_code 1 (some (.array .int)) ({ frames := 3, cells := 2, slots := 7, locals := 47 } : Room) [(.ref p)] h0 (fun v h => ∃ (b : Addr) (s0 s1 s2 s3 : Int32), v = some (.ref b) ∧ n0 ≤ b ∧ Keep h0 h [] ∧ AI Z h b .int 4 (updF (updF (updF (updF (fun _ => 0) 0 s0) 1 s1) 2 s2) 3 s3) ∧ s0.toInt = -1 ∧ ((s1.toInt = 0)) ∧ ((s2.toInt = 0 ∧ ¬ (c0.toInt = c1.toInt)) ∨ (s2.toInt = 1 ∧ (c0.toInt = c1.toInt))) ∧ ((s3.toInt = 0 ∧ ¬ (c0.toInt = c2.toInt) ∧ ¬ (c0.toInt = c1.toInt ∧ c1.toInt = c2.toInt)) ∨ (s3.toInt = 1 ∧ (c0.toInt = c2.toInt) ∧ ¬ (c0.toInt = c1.toInt ∧ c1.toInt = c2.toInt)) ∨ (s3.toInt = 2 ∧ (c0.toInt = c1.toInt ∧ c1.toInt = c2.toInt)))) := by
  refine Ctr.of (L := #[.val (.ref p)]) pn_1 Z0 (fun m => by first | (simp [entryFrame, mkF, argsToLocals, Value.category]; done) | rfl) ?_
  intro K T S0
  refine px_new S0 (hw _ (List.mem_of_getElem? (i := 6) rfl)) (hw _ (List.mem_of_getElem? (i := 7) rfl)) (hw _ (List.mem_of_getElem? (i := 8) rfl)) (by decide) (by decide) d1_0 rfl (fun T1 h1 b1 z1 g_b1 S1 E1 X_b1 D1 => ?_)
  have ne_p_b1 : p ≠ b1 := ne_new z1 A0.lt
  replace A0 := A0.ext E1
  have F_pattern_b1 : Fld Z h1 b1 "com/example/ghost_state/ghoststate/Shadows$Path" "pattern" "[C" .null := D1 (Or.inr (hw _ (List.mem_of_getElem? (i := 16) rfl))) (ty := (.array .char)) (by decide)
  refine px_dup S1 d1_3 rfl rfl ?_
  refine px_aloadN S1 d1_4 rfl rfl rfl ?_
  refine px_callC (as' := [(.ref p)]) (st := [(.ref b1)]) (W := 1) S1 (c_init hw S1.size g_b1 X_b1 F_pattern_b1) rfl (hw _ (List.mem_of_getElem? (i := 9) rfl)) (hw _ (List.mem_of_getElem? (i := 10) rfl)) (hw _ (List.mem_of_getElem? (i := 8) rfl)) (hw _ (List.mem_of_getElem? (i := 11) rfl)) (by decide) pd_1_0 rfl rfl (by decide) rfl (by decide) (by decide) (by decide) d1_5 rfl rfl (fun T2 h2 v2 S2 q2 => ?_)
  obtain ⟨rfl, K2, X_b1, F_b1⟩ := q2
  show Go _ _ _ _ _ _ _ [(.ref b1)]
  replace A0 := A0.keep K2 (ninS ne_p_b1 nin0)
  refine px_callS (as' := [(.ref b1)]) (st := []) (W := 0) S2 (c_ofT3 hw S2.size ⟨X_b1, F_b1⟩ A0 e_c0 e_c1 e_c2 n_c0 n_c1 n_c2) (hw _ (List.mem_of_getElem? (i := 17) rfl)) (hw _ (List.mem_of_getElem? (i := 18) rfl)) (hw _ (List.mem_of_getElem? (i := 4) rfl)) (hw _ (List.mem_of_getElem? (i := 19) rfl)) (by decide) pd_1_1 rfl rfl (by decide) rfl (by decide) (by decide) (by decide) d1_8 rfl rfl (fun T3 h3 v3 S3 q3 => ?_)
  obtain ⟨b, s0, s1, s2, s3, rfl, g_b, Kb, A_b, sp⟩ := q3
  show Go _ _ _ _ _ _ _ [(.ref b)]
  exact px_retA S3 d1_11 rfl rfl rfl (by decide) (by decide) (⟨b, s0, s1, s2, s3, rfl, g_b, ((((Keep.refl _ _).ext E1).trans K2 (allS (Or.inr (Nat.le_of_eq z1.symm)) all0)).trans Kb all0), A_b, sp⟩)
set_option maxRecDepth 65536 in
set_option maxHeartbeats 40000000 in
theorem c_of4 {Z : State} {a0 : Array Value} (hw : ∀ d ∈ tables_1, d.before a0 Z = true) {p : Addr} {c0 c1 c2 c3 : Int32} {f : Nat → Int32} {h0 : Heap} {n0 : Nat} (Z0 : n0 ≤ h0.size) (A0 : AI Z h0 p .char 4 f) (e_c0 : f 0 = c0) (e_c1 : f 1 = c1) (e_c2 : f 2 = c2) (e_c3 : f 3 = c3) (n_c0 : nar .char c0 = c0) (n_c1 : nar .char c1 = c1) (n_c2 : nar .char c2 = c2) (n_c3 : nar .char c3 = c3) :
    Ctr Z n0 (⟨"com/example/ghost_state/ghoststate/Shadows", "of", "([C)[I"⟩ : MethodName) prog_23_method_2_code 1 (some (.array .int)) ({ frames := 3, cells := 2, slots := 7, locals := 47 } : Room) [(.ref p)] h0 (fun v h => ∃ (b : Addr) (s0 s1 s2 s3 s4 : Int32), v = some (.ref b) ∧ n0 ≤ b ∧ Keep h0 h [] ∧ AI Z h b .int 5 (updF (updF (updF (updF (updF (fun _ => 0) 0 s0) 1 s1) 2 s2) 3 s3) 4 s4) ∧ s0.toInt = -1 ∧ ((s1.toInt = 0)) ∧ ((s2.toInt = 0 ∧ ¬ (c0.toInt = c1.toInt)) ∨ (s2.toInt = 1 ∧ (c0.toInt = c1.toInt))) ∧ ((s3.toInt = 0 ∧ ¬ (c0.toInt = c2.toInt) ∧ ¬ (c0.toInt = c1.toInt ∧ c1.toInt = c2.toInt)) ∨ (s3.toInt = 1 ∧ (c0.toInt = c2.toInt) ∧ ¬ (c0.toInt = c1.toInt ∧ c1.toInt = c2.toInt)) ∨ (s3.toInt = 2 ∧ (c0.toInt = c1.toInt ∧ c1.toInt = c2.toInt))) ∧ ((s4.toInt = 0 ∧ ¬ (c0.toInt = c3.toInt) ∧ ¬ (c0.toInt = c2.toInt ∧ c1.toInt = c3.toInt) ∧ ¬ (c0.toInt = c1.toInt ∧ c1.toInt = c2.toInt ∧ c2.toInt = c3.toInt)) ∨ (s4.toInt = 1 ∧ (c0.toInt = c3.toInt) ∧ ¬ (c0.toInt = c2.toInt ∧ c1.toInt = c3.toInt) ∧ ¬ (c0.toInt = c1.toInt ∧ c1.toInt = c2.toInt ∧ c2.toInt = c3.toInt)) ∨ (s4.toInt = 2 ∧ (c0.toInt = c2.toInt ∧ c1.toInt = c3.toInt) ∧ ¬ (c0.toInt = c1.toInt ∧ c1.toInt = c2.toInt ∧ c2.toInt = c3.toInt)) ∨ (s4.toInt = 3 ∧ (c0.toInt = c1.toInt ∧ c1.toInt = c2.toInt ∧ c2.toInt = c3.toInt)))) := by
  refine Ctr.of (L := #[.val (.ref p)]) pn_1 Z0 (fun m => by first | (simp [entryFrame, mkF, argsToLocals, Value.category]; done) | rfl) ?_
  intro K T S0
  refine px_new S0 (hw _ (List.mem_of_getElem? (i := 6) rfl)) (hw _ (List.mem_of_getElem? (i := 7) rfl)) (hw _ (List.mem_of_getElem? (i := 8) rfl)) (by decide) (by decide) d1_0 rfl (fun T1 h1 b1 z1 g_b1 S1 E1 X_b1 D1 => ?_)
  have ne_p_b1 : p ≠ b1 := ne_new z1 A0.lt
  replace A0 := A0.ext E1
  have F_pattern_b1 : Fld Z h1 b1 "com/example/ghost_state/ghoststate/Shadows$Path" "pattern" "[C" .null := D1 (Or.inr (hw _ (List.mem_of_getElem? (i := 16) rfl))) (ty := (.array .char)) (by decide)
  refine px_dup S1 d1_3 rfl rfl ?_
  refine px_aloadN S1 d1_4 rfl rfl rfl ?_
  refine px_callC (as' := [(.ref p)]) (st := [(.ref b1)]) (W := 1) S1 (c_init hw S1.size g_b1 X_b1 F_pattern_b1) rfl (hw _ (List.mem_of_getElem? (i := 9) rfl)) (hw _ (List.mem_of_getElem? (i := 10) rfl)) (hw _ (List.mem_of_getElem? (i := 8) rfl)) (hw _ (List.mem_of_getElem? (i := 11) rfl)) (by decide) pd_1_0 rfl rfl (by decide) rfl (by decide) (by decide) (by decide) d1_5 rfl rfl (fun T2 h2 v2 S2 q2 => ?_)
  obtain ⟨rfl, K2, X_b1, F_b1⟩ := q2
  show Go _ _ _ _ _ _ _ [(.ref b1)]
  replace A0 := A0.keep K2 (ninS ne_p_b1 nin0)
  refine px_callS (as' := [(.ref b1)]) (st := []) (W := 0) S2 (c_ofT4 hw S2.size ⟨X_b1, F_b1⟩ A0 e_c0 e_c1 e_c2 e_c3 n_c0 n_c1 n_c2 n_c3) (hw _ (List.mem_of_getElem? (i := 17) rfl)) (hw _ (List.mem_of_getElem? (i := 18) rfl)) (hw _ (List.mem_of_getElem? (i := 4) rfl)) (hw _ (List.mem_of_getElem? (i := 19) rfl)) (by decide) pd_1_1 rfl rfl (by decide) rfl (by decide) (by decide) (by decide) d1_8 rfl rfl (fun T3 h3 v3 S3 q3 => ?_)
  obtain ⟨b, s0, s1, s2, s3, s4, rfl, g_b, Kb, A_b, sp⟩ := q3
  show Go _ _ _ _ _ _ _ [(.ref b)]
  exact px_retA S3 d1_11 rfl rfl rfl (by decide) (by decide) (⟨b, s0, s1, s2, s3, s4, rfl, g_b, ((((Keep.refl _ _).ext E1).trans K2 (allS (Or.inr (Nat.le_of_eq z1.symm)) all0)).trans Kb all0), A_b, sp⟩)
set_option maxRecDepth 65536 in
set_option maxHeartbeats 40000000 in
theorem c_of5 {Z : State} {a0 : Array Value} (hw : ∀ d ∈ tables_1, d.before a0 Z = true) {p : Addr} {c0 c1 c2 c3 c4 : Int32} {f : Nat → Int32} {h0 : Heap} {n0 : Nat} (Z0 : n0 ≤ h0.size) (A0 : AI Z h0 p .char 5 f) (e_c0 : f 0 = c0) (e_c1 : f 1 = c1) (e_c2 : f 2 = c2) (e_c3 : f 3 = c3) (e_c4 : f 4 = c4) (n_c0 : nar .char c0 = c0) (n_c1 : nar .char c1 = c1) (n_c2 : nar .char c2 = c2) (n_c3 : nar .char c3 = c3) (n_c4 : nar .char c4 = c4) :
    Ctr Z n0 (⟨"com/example/ghost_state/ghoststate/Shadows", "of", "([C)[I"⟩ : MethodName) prog_23_method_2_code 1 (some (.array .int)) ({ frames := 3, cells := 2, slots := 7, locals := 47 } : Room) [(.ref p)] h0 (fun v h => ∃ (b : Addr) (s0 s1 s2 s3 s4 s5 : Int32), v = some (.ref b) ∧ n0 ≤ b ∧ Keep h0 h [] ∧ AI Z h b .int 6 (updF (updF (updF (updF (updF (updF (fun _ => 0) 0 s0) 1 s1) 2 s2) 3 s3) 4 s4) 5 s5) ∧ s0.toInt = -1 ∧ ((s1.toInt = 0)) ∧ ((s2.toInt = 0 ∧ ¬ (c0.toInt = c1.toInt)) ∨ (s2.toInt = 1 ∧ (c0.toInt = c1.toInt))) ∧ ((s3.toInt = 0 ∧ ¬ (c0.toInt = c2.toInt) ∧ ¬ (c0.toInt = c1.toInt ∧ c1.toInt = c2.toInt)) ∨ (s3.toInt = 1 ∧ (c0.toInt = c2.toInt) ∧ ¬ (c0.toInt = c1.toInt ∧ c1.toInt = c2.toInt)) ∨ (s3.toInt = 2 ∧ (c0.toInt = c1.toInt ∧ c1.toInt = c2.toInt))) ∧ ((s4.toInt = 0 ∧ ¬ (c0.toInt = c3.toInt) ∧ ¬ (c0.toInt = c2.toInt ∧ c1.toInt = c3.toInt) ∧ ¬ (c0.toInt = c1.toInt ∧ c1.toInt = c2.toInt ∧ c2.toInt = c3.toInt)) ∨ (s4.toInt = 1 ∧ (c0.toInt = c3.toInt) ∧ ¬ (c0.toInt = c2.toInt ∧ c1.toInt = c3.toInt) ∧ ¬ (c0.toInt = c1.toInt ∧ c1.toInt = c2.toInt ∧ c2.toInt = c3.toInt)) ∨ (s4.toInt = 2 ∧ (c0.toInt = c2.toInt ∧ c1.toInt = c3.toInt) ∧ ¬ (c0.toInt = c1.toInt ∧ c1.toInt = c2.toInt ∧ c2.toInt = c3.toInt)) ∨ (s4.toInt = 3 ∧ (c0.toInt = c1.toInt ∧ c1.toInt = c2.toInt ∧ c2.toInt = c3.toInt))) ∧ ((s5.toInt = 0 ∧ ¬ (c0.toInt = c4.toInt) ∧ ¬ (c0.toInt = c3.toInt ∧ c1.toInt = c4.toInt) ∧ ¬ (c0.toInt = c2.toInt ∧ c1.toInt = c3.toInt ∧ c2.toInt = c4.toInt) ∧ ¬ (c0.toInt = c1.toInt ∧ c1.toInt = c2.toInt ∧ c2.toInt = c3.toInt ∧ c3.toInt = c4.toInt)) ∨ (s5.toInt = 1 ∧ (c0.toInt = c4.toInt) ∧ ¬ (c0.toInt = c3.toInt ∧ c1.toInt = c4.toInt) ∧ ¬ (c0.toInt = c2.toInt ∧ c1.toInt = c3.toInt ∧ c2.toInt = c4.toInt) ∧ ¬ (c0.toInt = c1.toInt ∧ c1.toInt = c2.toInt ∧ c2.toInt = c3.toInt ∧ c3.toInt = c4.toInt)) ∨ (s5.toInt = 2 ∧ (c0.toInt = c3.toInt ∧ c1.toInt = c4.toInt) ∧ ¬ (c0.toInt = c2.toInt ∧ c1.toInt = c3.toInt ∧ c2.toInt = c4.toInt) ∧ ¬ (c0.toInt = c1.toInt ∧ c1.toInt = c2.toInt ∧ c2.toInt = c3.toInt ∧ c3.toInt = c4.toInt)) ∨ (s5.toInt = 3 ∧ (c0.toInt = c2.toInt ∧ c1.toInt = c3.toInt ∧ c2.toInt = c4.toInt) ∧ ¬ (c0.toInt = c1.toInt ∧ c1.toInt = c2.toInt ∧ c2.toInt = c3.toInt ∧ c3.toInt = c4.toInt)) ∨ (s5.toInt = 4 ∧ (c0.toInt = c1.toInt ∧ c1.toInt = c2.toInt ∧ c2.toInt = c3.toInt ∧ c3.toInt = c4.toInt)))) := by
  refine Ctr.of (L := #[.val (.ref p)]) pn_1 Z0 (fun m => by first | (simp [entryFrame, mkF, argsToLocals, Value.category]; done) | rfl) ?_
  intro K T S0
  refine px_new S0 (hw _ (List.mem_of_getElem? (i := 6) rfl)) (hw _ (List.mem_of_getElem? (i := 7) rfl)) (hw _ (List.mem_of_getElem? (i := 8) rfl)) (by decide) (by decide) d1_0 rfl (fun T1 h1 b1 z1 g_b1 S1 E1 X_b1 D1 => ?_)
  have ne_p_b1 : p ≠ b1 := ne_new z1 A0.lt
  replace A0 := A0.ext E1
  have F_pattern_b1 : Fld Z h1 b1 "com/example/ghost_state/ghoststate/Shadows$Path" "pattern" "[C" .null := D1 (Or.inr (hw _ (List.mem_of_getElem? (i := 16) rfl))) (ty := (.array .char)) (by decide)
  refine px_dup S1 d1_3 rfl rfl ?_
  refine px_aloadN S1 d1_4 rfl rfl rfl ?_
  refine px_callC (as' := [(.ref p)]) (st := [(.ref b1)]) (W := 1) S1 (c_init hw S1.size g_b1 X_b1 F_pattern_b1) rfl (hw _ (List.mem_of_getElem? (i := 9) rfl)) (hw _ (List.mem_of_getElem? (i := 10) rfl)) (hw _ (List.mem_of_getElem? (i := 8) rfl)) (hw _ (List.mem_of_getElem? (i := 11) rfl)) (by decide) pd_1_0 rfl rfl (by decide) rfl (by decide) (by decide) (by decide) d1_5 rfl rfl (fun T2 h2 v2 S2 q2 => ?_)
  obtain ⟨rfl, K2, X_b1, F_b1⟩ := q2
  show Go _ _ _ _ _ _ _ [(.ref b1)]
  replace A0 := A0.keep K2 (ninS ne_p_b1 nin0)
  refine px_callS (as' := [(.ref b1)]) (st := []) (W := 0) S2 (c_ofT5 hw S2.size ⟨X_b1, F_b1⟩ A0 e_c0 e_c1 e_c2 e_c3 e_c4 n_c0 n_c1 n_c2 n_c3 n_c4) (hw _ (List.mem_of_getElem? (i := 17) rfl)) (hw _ (List.mem_of_getElem? (i := 18) rfl)) (hw _ (List.mem_of_getElem? (i := 4) rfl)) (hw _ (List.mem_of_getElem? (i := 19) rfl)) (by decide) pd_1_1 rfl rfl (by decide) rfl (by decide) (by decide) (by decide) d1_8 rfl rfl (fun T3 h3 v3 S3 q3 => ?_)
  obtain ⟨b, s0, s1, s2, s3, s4, s5, rfl, g_b, Kb, A_b, sp⟩ := q3
  show Go _ _ _ _ _ _ _ [(.ref b)]
  exact px_retA S3 d1_11 rfl rfl rfl (by decide) (by decide) (⟨b, s0, s1, s2, s3, s4, s5, rfl, g_b, ((((Keep.refl _ _).ext E1).trans K2 (allS (Or.inr (Nat.le_of_eq z1.symm)) all0)).trans Kb all0), A_b, sp⟩)
theorem d11_0 : decode method_2_code 0 = .ok (.iload_n 2, 1) := by decide +kernel
theorem d11_1 : decode method_2_code 1 = .ok (.iload_n 1, 1) := by decide +kernel
theorem d11_2 : decode method_2_code 2 = .ok (.isub, 1) := by decide +kernel
theorem d11_3 : decode method_2_code 3 = .ok (.istore_n 3, 1) := by decide +kernel
theorem d11_4 : decode method_2_code 4 = .ok (.iload_n 1, 1) := by decide +kernel
theorem d11_5 : decode method_2_code 5 = .ok (.ifCond .le 14, 3) := by decide +kernel
theorem d11_8 : decode method_2_code 8 = .ok (.aload_n 0, 1) := by decide +kernel
theorem d11_9 : decode method_2_code 9 = .ok (.iconst 0, 1) := by decide +kernel
theorem d11_10 : decode method_2_code 10 = .ok (.caload, 1) := by decide +kernel
theorem d11_11 : decode method_2_code 11 = .ok (.aload_n 0, 1) := by decide +kernel
theorem d11_12 : decode method_2_code 12 = .ok (.iload_n 3, 1) := by decide +kernel
theorem d11_13 : decode method_2_code 13 = .ok (.caload, 1) := by decide +kernel
theorem d11_14 : decode method_2_code 14 = .ok (.if_icmp .eq 5, 3) := by decide +kernel
theorem d11_17 : decode method_2_code 17 = .ok (.iconst 0, 1) := by decide +kernel
theorem d11_18 : decode method_2_code 18 = .ok (.ireturn, 1) := by decide +kernel
theorem d11_19 : decode method_2_code 19 = .ok (.iload_n 1, 1) := by decide +kernel
theorem d11_20 : decode method_2_code 20 = .ok (.iconst 1, 1) := by decide +kernel
theorem d11_21 : decode method_2_code 21 = .ok (.if_icmp .le 16, 3) := by decide +kernel
theorem d11_37 : decode method_2_code 37 = .ok (.iload_n 1, 1) := by decide +kernel
theorem d11_38 : decode method_2_code 38 = .ok (.iconst 2, 1) := by decide +kernel
theorem d11_39 : decode method_2_code 39 = .ok (.if_icmp .le 16, 3) := by decide +kernel
theorem d11_55 : decode method_2_code 55 = .ok (.iload_n 1, 1) := by decide +kernel
theorem d11_56 : decode method_2_code 56 = .ok (.iconst 3, 1) := by decide +kernel
theorem d11_57 : decode method_2_code 57 = .ok (.if_icmp .le 16, 3) := by decide +kernel
theorem d11_73 : decode method_2_code 73 = .ok (.iconst 1, 1) := by decide +kernel
theorem d11_74 : decode method_2_code 74 = .ok (.ireturn, 1) := by decide +kernel
theorem pn_11 : plainFor (⟨"com/example/ghost_state/ghoststate/ShadowsOfPinLaw", "same", "([CII)Z"⟩ : MethodName) = true := plainFor_of_name (by first | (simp [plainName, overriddenIn]; done) | decide +kernel)
set_option maxRecDepth 65536 in
set_option maxHeartbeats 40000000 in
theorem c_same_1_2 {Z : State} {a0 : Array Value} (hw : ∀ d ∈ tables_1, d.before a0 Z = true) {p : Addr} {c0 c1 c2 c3 c4 : Int32} {f : Nat → Int32} {h0 : Heap} {n0 : Nat} (Z0 : n0 ≤ h0.size) (A0 : AI Z h0 p .char 5 f) (e_c0 : f 0 = c0) (e_c1 : f 1 = c1) (e_c2 : f 2 = c2) (e_c3 : f 3 = c3) (e_c4 : f 4 = c4) :
    Ctr Z n0 (⟨"com/example/ghost_state/ghoststate/ShadowsOfPinLaw", "same", "([CII)Z"⟩ : MethodName) method_2_code 4 (some .boolean) ({ frames := 0, cells := 0, slots := 0, locals := 0 } : Room) [(.ref p), (.int (1 : Int32)), (.int (2 : Int32))] h0 (fun v h => h = h0 ∧ (((c0.toInt = c1.toInt) ∧ v = some (.int 1)) ∨ (¬ (c0.toInt = c1.toInt) ∧ v = some (.int 0)))) := by
  refine Ctr.of (L := #[.val (.ref p), .val (.int (1 : Int32)), .val (.int (2 : Int32)), .unset]) pn_11 Z0 (fun m => by first | (simp [entryFrame, mkF, argsToLocals, Value.category]; done) | rfl) ?_
  intro K T S0
  refine px_iloadN S0 d11_0 rfl rfl ?_
  refine px_iloadN S0 d11_1 rfl rfl ?_
  refine px_isub S0 d11_2 rfl ?_
  rw [show ((2 : Int32) - (1 : Int32)) = (1 : Int32) from by decide]
  refine px_istoreN S0 d11_3 rfl (L' := #[.val (.ref p), .val (.int (1 : Int32)), .val (.int (2 : Int32)), .val (.int (1 : Int32))]) rfl ?_
  refine px_iloadN S0 d11_4 rfl rfl ?_
  refine px_if0 S0 d11_5 (by decide) (pc' := 19) rfl rfl (fun (hc1 : (1 : Int32).toInt ≤ 0) => by exfalso; revert hc1; decide) (fun (hc1 : (1 : Int32).toInt > 0) => ?_)
  refine px_aloadN S0 d11_8 rfl rfl rfl ?_
  refine px_iconst (v := (0 : Int32)) S0 d11_9 rfl rfl ?_
  refine px_caload (v := c0) S0 A0 (i := 0) rfl (by decide) e_c0 d11_10 rfl ?_
  refine px_aloadN S0 d11_11 rfl rfl rfl ?_
  refine px_iloadN S0 d11_12 rfl rfl ?_
  refine px_caload (v := c1) S0 A0 (i := 1) rfl (by decide) e_c1 d11_13 rfl ?_
  refine px_icmp S0 d11_14 (by decide) (pc' := 19) rfl rfl (fun (hc2 : c0.toInt = c1.toInt) => ?_) (fun (hc2 : ¬ c0.toInt = c1.toInt) => ?_)
  · refine px_iloadN S0 d11_19 rfl rfl ?_
    refine px_iconst (v := (1 : Int32)) S0 d11_20 rfl rfl ?_
    refine px_icmp S0 d11_21 (by decide) (pc' := 37) rfl rfl (fun (hc3 : (1 : Int32).toInt ≤ (1 : Int32).toInt) => ?_) (fun (hc3 : (1 : Int32).toInt > (1 : Int32).toInt) => by exfalso; revert hc3; decide)
    refine px_iloadN S0 d11_37 rfl rfl ?_
    refine px_iconst (v := (2 : Int32)) S0 d11_38 rfl rfl ?_
    refine px_icmp S0 d11_39 (by decide) (pc' := 55) rfl rfl (fun (hc4 : (1 : Int32).toInt ≤ (2 : Int32).toInt) => ?_) (fun (hc4 : (1 : Int32).toInt > (2 : Int32).toInt) => by exfalso; revert hc4; decide)
    refine px_iloadN S0 d11_55 rfl rfl ?_
    refine px_iconst (v := (3 : Int32)) S0 d11_56 rfl rfl ?_
    refine px_icmp S0 d11_57 (by decide) (pc' := 73) rfl rfl (fun (hc5 : (1 : Int32).toInt ≤ (3 : Int32).toInt) => ?_) (fun (hc5 : (1 : Int32).toInt > (3 : Int32).toInt) => by exfalso; revert hc5; decide)
    refine px_iconst (v := (1 : Int32)) S0 d11_73 rfl rfl ?_
    exact px_retN (t := .boolean) (z' := (1 : Int32)) S0 d11_74 rfl (by simp) rfl (by decide) (by decide) (⟨rfl, Or.inl ⟨by omega, rfl⟩⟩)
  · refine px_iconst (v := (0 : Int32)) S0 d11_17 rfl rfl ?_
    exact px_retN (t := .boolean) (z' := (0 : Int32)) S0 d11_18 rfl (by simp) rfl (by decide) (by decide) (⟨rfl, Or.inr ⟨by omega, rfl⟩⟩)
set_option maxRecDepth 65536 in
set_option maxHeartbeats 40000000 in
theorem c_same_1_3 {Z : State} {a0 : Array Value} (hw : ∀ d ∈ tables_1, d.before a0 Z = true) {p : Addr} {c0 c1 c2 c3 c4 : Int32} {f : Nat → Int32} {h0 : Heap} {n0 : Nat} (Z0 : n0 ≤ h0.size) (A0 : AI Z h0 p .char 5 f) (e_c0 : f 0 = c0) (e_c1 : f 1 = c1) (e_c2 : f 2 = c2) (e_c3 : f 3 = c3) (e_c4 : f 4 = c4) :
    Ctr Z n0 (⟨"com/example/ghost_state/ghoststate/ShadowsOfPinLaw", "same", "([CII)Z"⟩ : MethodName) method_2_code 4 (some .boolean) ({ frames := 0, cells := 0, slots := 0, locals := 0 } : Room) [(.ref p), (.int (1 : Int32)), (.int (3 : Int32))] h0 (fun v h => h = h0 ∧ (((c0.toInt = c2.toInt) ∧ v = some (.int 1)) ∨ (¬ (c0.toInt = c2.toInt) ∧ v = some (.int 0)))) := by
  refine Ctr.of (L := #[.val (.ref p), .val (.int (1 : Int32)), .val (.int (3 : Int32)), .unset]) pn_11 Z0 (fun m => by first | (simp [entryFrame, mkF, argsToLocals, Value.category]; done) | rfl) ?_
  intro K T S0
  refine px_iloadN S0 d11_0 rfl rfl ?_
  refine px_iloadN S0 d11_1 rfl rfl ?_
  refine px_isub S0 d11_2 rfl ?_
  rw [show ((3 : Int32) - (1 : Int32)) = (2 : Int32) from by decide]
  refine px_istoreN S0 d11_3 rfl (L' := #[.val (.ref p), .val (.int (1 : Int32)), .val (.int (3 : Int32)), .val (.int (2 : Int32))]) rfl ?_
  refine px_iloadN S0 d11_4 rfl rfl ?_
  refine px_if0 S0 d11_5 (by decide) (pc' := 19) rfl rfl (fun (hc1 : (1 : Int32).toInt ≤ 0) => by exfalso; revert hc1; decide) (fun (hc1 : (1 : Int32).toInt > 0) => ?_)
  refine px_aloadN S0 d11_8 rfl rfl rfl ?_
  refine px_iconst (v := (0 : Int32)) S0 d11_9 rfl rfl ?_
  refine px_caload (v := c0) S0 A0 (i := 0) rfl (by decide) e_c0 d11_10 rfl ?_
  refine px_aloadN S0 d11_11 rfl rfl rfl ?_
  refine px_iloadN S0 d11_12 rfl rfl ?_
  refine px_caload (v := c2) S0 A0 (i := 2) rfl (by decide) e_c2 d11_13 rfl ?_
  refine px_icmp S0 d11_14 (by decide) (pc' := 19) rfl rfl (fun (hc2 : c0.toInt = c2.toInt) => ?_) (fun (hc2 : ¬ c0.toInt = c2.toInt) => ?_)
  · refine px_iloadN S0 d11_19 rfl rfl ?_
    refine px_iconst (v := (1 : Int32)) S0 d11_20 rfl rfl ?_
    refine px_icmp S0 d11_21 (by decide) (pc' := 37) rfl rfl (fun (hc3 : (1 : Int32).toInt ≤ (1 : Int32).toInt) => ?_) (fun (hc3 : (1 : Int32).toInt > (1 : Int32).toInt) => by exfalso; revert hc3; decide)
    refine px_iloadN S0 d11_37 rfl rfl ?_
    refine px_iconst (v := (2 : Int32)) S0 d11_38 rfl rfl ?_
    refine px_icmp S0 d11_39 (by decide) (pc' := 55) rfl rfl (fun (hc4 : (1 : Int32).toInt ≤ (2 : Int32).toInt) => ?_) (fun (hc4 : (1 : Int32).toInt > (2 : Int32).toInt) => by exfalso; revert hc4; decide)
    refine px_iloadN S0 d11_55 rfl rfl ?_
    refine px_iconst (v := (3 : Int32)) S0 d11_56 rfl rfl ?_
    refine px_icmp S0 d11_57 (by decide) (pc' := 73) rfl rfl (fun (hc5 : (1 : Int32).toInt ≤ (3 : Int32).toInt) => ?_) (fun (hc5 : (1 : Int32).toInt > (3 : Int32).toInt) => by exfalso; revert hc5; decide)
    refine px_iconst (v := (1 : Int32)) S0 d11_73 rfl rfl ?_
    exact px_retN (t := .boolean) (z' := (1 : Int32)) S0 d11_74 rfl (by simp) rfl (by decide) (by decide) (⟨rfl, Or.inl ⟨by omega, rfl⟩⟩)
  · refine px_iconst (v := (0 : Int32)) S0 d11_17 rfl rfl ?_
    exact px_retN (t := .boolean) (z' := (0 : Int32)) S0 d11_18 rfl (by simp) rfl (by decide) (by decide) (⟨rfl, Or.inr ⟨by omega, rfl⟩⟩)
theorem d11_24 : decode method_2_code 24 = .ok (.aload_n 0, 1) := by decide +kernel
theorem d11_25 : decode method_2_code 25 = .ok (.iconst 1, 1) := by decide +kernel
theorem d11_26 : decode method_2_code 26 = .ok (.caload, 1) := by decide +kernel
theorem d11_27 : decode method_2_code 27 = .ok (.aload_n 0, 1) := by decide +kernel
theorem d11_28 : decode method_2_code 28 = .ok (.iload_n 3, 1) := by decide +kernel
theorem d11_29 : decode method_2_code 29 = .ok (.iconst 1, 1) := by decide +kernel
theorem d11_30 : decode method_2_code 30 = .ok (.iadd, 1) := by decide +kernel
theorem d11_31 : decode method_2_code 31 = .ok (.caload, 1) := by decide +kernel
theorem d11_32 : decode method_2_code 32 = .ok (.if_icmp .eq 5, 3) := by decide +kernel
theorem d11_35 : decode method_2_code 35 = .ok (.iconst 0, 1) := by decide +kernel
theorem d11_36 : decode method_2_code 36 = .ok (.ireturn, 1) := by decide +kernel
set_option maxRecDepth 65536 in
set_option maxHeartbeats 40000000 in
theorem c_same_2_3 {Z : State} {a0 : Array Value} (hw : ∀ d ∈ tables_1, d.before a0 Z = true) {p : Addr} {c0 c1 c2 c3 c4 : Int32} {f : Nat → Int32} {h0 : Heap} {n0 : Nat} (Z0 : n0 ≤ h0.size) (A0 : AI Z h0 p .char 5 f) (e_c0 : f 0 = c0) (e_c1 : f 1 = c1) (e_c2 : f 2 = c2) (e_c3 : f 3 = c3) (e_c4 : f 4 = c4) :
    Ctr Z n0 (⟨"com/example/ghost_state/ghoststate/ShadowsOfPinLaw", "same", "([CII)Z"⟩ : MethodName) method_2_code 4 (some .boolean) ({ frames := 0, cells := 0, slots := 0, locals := 0 } : Room) [(.ref p), (.int (2 : Int32)), (.int (3 : Int32))] h0 (fun v h => h = h0 ∧ (((c0.toInt = c1.toInt ∧ c1.toInt = c2.toInt) ∧ v = some (.int 1)) ∨ (¬ (c0.toInt = c1.toInt ∧ c1.toInt = c2.toInt) ∧ v = some (.int 0)))) := by
  refine Ctr.of (L := #[.val (.ref p), .val (.int (2 : Int32)), .val (.int (3 : Int32)), .unset]) pn_11 Z0 (fun m => by first | (simp [entryFrame, mkF, argsToLocals, Value.category]; done) | rfl) ?_
  intro K T S0
  refine px_iloadN S0 d11_0 rfl rfl ?_
  refine px_iloadN S0 d11_1 rfl rfl ?_
  refine px_isub S0 d11_2 rfl ?_
  rw [show ((3 : Int32) - (2 : Int32)) = (1 : Int32) from by decide]
  refine px_istoreN S0 d11_3 rfl (L' := #[.val (.ref p), .val (.int (2 : Int32)), .val (.int (3 : Int32)), .val (.int (1 : Int32))]) rfl ?_
  refine px_iloadN S0 d11_4 rfl rfl ?_
  refine px_if0 S0 d11_5 (by decide) (pc' := 19) rfl rfl (fun (hc1 : (2 : Int32).toInt ≤ 0) => by exfalso; revert hc1; decide) (fun (hc1 : (2 : Int32).toInt > 0) => ?_)
  refine px_aloadN S0 d11_8 rfl rfl rfl ?_
  refine px_iconst (v := (0 : Int32)) S0 d11_9 rfl rfl ?_
  refine px_caload (v := c0) S0 A0 (i := 0) rfl (by decide) e_c0 d11_10 rfl ?_
  refine px_aloadN S0 d11_11 rfl rfl rfl ?_
  refine px_iloadN S0 d11_12 rfl rfl ?_
  refine px_caload (v := c1) S0 A0 (i := 1) rfl (by decide) e_c1 d11_13 rfl ?_
  refine px_icmp S0 d11_14 (by decide) (pc' := 19) rfl rfl (fun (hc2 : c0.toInt = c1.toInt) => ?_) (fun (hc2 : ¬ c0.toInt = c1.toInt) => ?_)
  · refine px_iloadN S0 d11_19 rfl rfl ?_
    refine px_iconst (v := (1 : Int32)) S0 d11_20 rfl rfl ?_
    refine px_icmp S0 d11_21 (by decide) (pc' := 37) rfl rfl (fun (hc3 : (2 : Int32).toInt ≤ (1 : Int32).toInt) => by exfalso; revert hc3; decide) (fun (hc3 : (2 : Int32).toInt > (1 : Int32).toInt) => ?_)
    refine px_aloadN S0 d11_24 rfl rfl rfl ?_
    refine px_iconst (v := (1 : Int32)) S0 d11_25 rfl rfl ?_
    refine px_caload (v := c1) S0 A0 (i := 1) rfl (by decide) e_c1 d11_26 rfl ?_
    refine px_aloadN S0 d11_27 rfl rfl rfl ?_
    refine px_iloadN S0 d11_28 rfl rfl ?_
    refine px_iconst (v := (1 : Int32)) S0 d11_29 rfl rfl ?_
    refine px_iadd S0 d11_30 rfl ?_
    rw [show ((1 : Int32) + (1 : Int32)) = (2 : Int32) from by decide]
    refine px_caload (v := c2) S0 A0 (i := 2) rfl (by decide) e_c2 d11_31 rfl ?_
    refine px_icmp S0 d11_32 (by decide) (pc' := 37) rfl rfl (fun (hc4 : c1.toInt = c2.toInt) => ?_) (fun (hc4 : ¬ c1.toInt = c2.toInt) => ?_)
    · refine px_iloadN S0 d11_37 rfl rfl ?_
      refine px_iconst (v := (2 : Int32)) S0 d11_38 rfl rfl ?_
      refine px_icmp S0 d11_39 (by decide) (pc' := 55) rfl rfl (fun (hc5 : (2 : Int32).toInt ≤ (2 : Int32).toInt) => ?_) (fun (hc5 : (2 : Int32).toInt > (2 : Int32).toInt) => by exfalso; revert hc5; decide)
      refine px_iloadN S0 d11_55 rfl rfl ?_
      refine px_iconst (v := (3 : Int32)) S0 d11_56 rfl rfl ?_
      refine px_icmp S0 d11_57 (by decide) (pc' := 73) rfl rfl (fun (hc6 : (2 : Int32).toInt ≤ (3 : Int32).toInt) => ?_) (fun (hc6 : (2 : Int32).toInt > (3 : Int32).toInt) => by exfalso; revert hc6; decide)
      refine px_iconst (v := (1 : Int32)) S0 d11_73 rfl rfl ?_
      exact px_retN (t := .boolean) (z' := (1 : Int32)) S0 d11_74 rfl (by simp) rfl (by decide) (by decide) (⟨rfl, Or.inl ⟨by omega, rfl⟩⟩)
    · refine px_iconst (v := (0 : Int32)) S0 d11_35 rfl rfl ?_
      exact px_retN (t := .boolean) (z' := (0 : Int32)) S0 d11_36 rfl (by simp) rfl (by decide) (by decide) (⟨rfl, Or.inr ⟨by omega, rfl⟩⟩)
  · refine px_iconst (v := (0 : Int32)) S0 d11_17 rfl rfl ?_
    exact px_retN (t := .boolean) (z' := (0 : Int32)) S0 d11_18 rfl (by simp) rfl (by decide) (by decide) (⟨rfl, Or.inr ⟨by omega, rfl⟩⟩)
set_option maxRecDepth 65536 in
set_option maxHeartbeats 40000000 in
theorem c_same_1_4 {Z : State} {a0 : Array Value} (hw : ∀ d ∈ tables_1, d.before a0 Z = true) {p : Addr} {c0 c1 c2 c3 c4 : Int32} {f : Nat → Int32} {h0 : Heap} {n0 : Nat} (Z0 : n0 ≤ h0.size) (A0 : AI Z h0 p .char 5 f) (e_c0 : f 0 = c0) (e_c1 : f 1 = c1) (e_c2 : f 2 = c2) (e_c3 : f 3 = c3) (e_c4 : f 4 = c4) :
    Ctr Z n0 (⟨"com/example/ghost_state/ghoststate/ShadowsOfPinLaw", "same", "([CII)Z"⟩ : MethodName) method_2_code 4 (some .boolean) ({ frames := 0, cells := 0, slots := 0, locals := 0 } : Room) [(.ref p), (.int (1 : Int32)), (.int (4 : Int32))] h0 (fun v h => h = h0 ∧ (((c0.toInt = c3.toInt) ∧ v = some (.int 1)) ∨ (¬ (c0.toInt = c3.toInt) ∧ v = some (.int 0)))) := by
  refine Ctr.of (L := #[.val (.ref p), .val (.int (1 : Int32)), .val (.int (4 : Int32)), .unset]) pn_11 Z0 (fun m => by first | (simp [entryFrame, mkF, argsToLocals, Value.category]; done) | rfl) ?_
  intro K T S0
  refine px_iloadN S0 d11_0 rfl rfl ?_
  refine px_iloadN S0 d11_1 rfl rfl ?_
  refine px_isub S0 d11_2 rfl ?_
  rw [show ((4 : Int32) - (1 : Int32)) = (3 : Int32) from by decide]
  refine px_istoreN S0 d11_3 rfl (L' := #[.val (.ref p), .val (.int (1 : Int32)), .val (.int (4 : Int32)), .val (.int (3 : Int32))]) rfl ?_
  refine px_iloadN S0 d11_4 rfl rfl ?_
  refine px_if0 S0 d11_5 (by decide) (pc' := 19) rfl rfl (fun (hc1 : (1 : Int32).toInt ≤ 0) => by exfalso; revert hc1; decide) (fun (hc1 : (1 : Int32).toInt > 0) => ?_)
  refine px_aloadN S0 d11_8 rfl rfl rfl ?_
  refine px_iconst (v := (0 : Int32)) S0 d11_9 rfl rfl ?_
  refine px_caload (v := c0) S0 A0 (i := 0) rfl (by decide) e_c0 d11_10 rfl ?_
  refine px_aloadN S0 d11_11 rfl rfl rfl ?_
  refine px_iloadN S0 d11_12 rfl rfl ?_
  refine px_caload (v := c3) S0 A0 (i := 3) rfl (by decide) e_c3 d11_13 rfl ?_
  refine px_icmp S0 d11_14 (by decide) (pc' := 19) rfl rfl (fun (hc2 : c0.toInt = c3.toInt) => ?_) (fun (hc2 : ¬ c0.toInt = c3.toInt) => ?_)
  · refine px_iloadN S0 d11_19 rfl rfl ?_
    refine px_iconst (v := (1 : Int32)) S0 d11_20 rfl rfl ?_
    refine px_icmp S0 d11_21 (by decide) (pc' := 37) rfl rfl (fun (hc3 : (1 : Int32).toInt ≤ (1 : Int32).toInt) => ?_) (fun (hc3 : (1 : Int32).toInt > (1 : Int32).toInt) => by exfalso; revert hc3; decide)
    refine px_iloadN S0 d11_37 rfl rfl ?_
    refine px_iconst (v := (2 : Int32)) S0 d11_38 rfl rfl ?_
    refine px_icmp S0 d11_39 (by decide) (pc' := 55) rfl rfl (fun (hc4 : (1 : Int32).toInt ≤ (2 : Int32).toInt) => ?_) (fun (hc4 : (1 : Int32).toInt > (2 : Int32).toInt) => by exfalso; revert hc4; decide)
    refine px_iloadN S0 d11_55 rfl rfl ?_
    refine px_iconst (v := (3 : Int32)) S0 d11_56 rfl rfl ?_
    refine px_icmp S0 d11_57 (by decide) (pc' := 73) rfl rfl (fun (hc5 : (1 : Int32).toInt ≤ (3 : Int32).toInt) => ?_) (fun (hc5 : (1 : Int32).toInt > (3 : Int32).toInt) => by exfalso; revert hc5; decide)
    refine px_iconst (v := (1 : Int32)) S0 d11_73 rfl rfl ?_
    exact px_retN (t := .boolean) (z' := (1 : Int32)) S0 d11_74 rfl (by simp) rfl (by decide) (by decide) (⟨rfl, Or.inl ⟨by omega, rfl⟩⟩)
  · refine px_iconst (v := (0 : Int32)) S0 d11_17 rfl rfl ?_
    exact px_retN (t := .boolean) (z' := (0 : Int32)) S0 d11_18 rfl (by simp) rfl (by decide) (by decide) (⟨rfl, Or.inr ⟨by omega, rfl⟩⟩)
set_option maxRecDepth 65536 in
set_option maxHeartbeats 40000000 in
theorem c_same_2_4 {Z : State} {a0 : Array Value} (hw : ∀ d ∈ tables_1, d.before a0 Z = true) {p : Addr} {c0 c1 c2 c3 c4 : Int32} {f : Nat → Int32} {h0 : Heap} {n0 : Nat} (Z0 : n0 ≤ h0.size) (A0 : AI Z h0 p .char 5 f) (e_c0 : f 0 = c0) (e_c1 : f 1 = c1) (e_c2 : f 2 = c2) (e_c3 : f 3 = c3) (e_c4 : f 4 = c4) :
    Ctr Z n0 (⟨"com/example/ghost_state/ghoststate/ShadowsOfPinLaw", "same", "([CII)Z"⟩ : MethodName) method_2_code 4 (some .boolean) ({ frames := 0, cells := 0, slots := 0, locals := 0 } : Room) [(.ref p), (.int (2 : Int32)), (.int (4 : Int32))] h0 (fun v h => h = h0 ∧ (((c0.toInt = c2.toInt ∧ c1.toInt = c3.toInt) ∧ v = some (.int 1)) ∨ (¬ (c0.toInt = c2.toInt ∧ c1.toInt = c3.toInt) ∧ v = some (.int 0)))) := by
  refine Ctr.of (L := #[.val (.ref p), .val (.int (2 : Int32)), .val (.int (4 : Int32)), .unset]) pn_11 Z0 (fun m => by first | (simp [entryFrame, mkF, argsToLocals, Value.category]; done) | rfl) ?_
  intro K T S0
  refine px_iloadN S0 d11_0 rfl rfl ?_
  refine px_iloadN S0 d11_1 rfl rfl ?_
  refine px_isub S0 d11_2 rfl ?_
  rw [show ((4 : Int32) - (2 : Int32)) = (2 : Int32) from by decide]
  refine px_istoreN S0 d11_3 rfl (L' := #[.val (.ref p), .val (.int (2 : Int32)), .val (.int (4 : Int32)), .val (.int (2 : Int32))]) rfl ?_
  refine px_iloadN S0 d11_4 rfl rfl ?_
  refine px_if0 S0 d11_5 (by decide) (pc' := 19) rfl rfl (fun (hc1 : (2 : Int32).toInt ≤ 0) => by exfalso; revert hc1; decide) (fun (hc1 : (2 : Int32).toInt > 0) => ?_)
  refine px_aloadN S0 d11_8 rfl rfl rfl ?_
  refine px_iconst (v := (0 : Int32)) S0 d11_9 rfl rfl ?_
  refine px_caload (v := c0) S0 A0 (i := 0) rfl (by decide) e_c0 d11_10 rfl ?_
  refine px_aloadN S0 d11_11 rfl rfl rfl ?_
  refine px_iloadN S0 d11_12 rfl rfl ?_
  refine px_caload (v := c2) S0 A0 (i := 2) rfl (by decide) e_c2 d11_13 rfl ?_
  refine px_icmp S0 d11_14 (by decide) (pc' := 19) rfl rfl (fun (hc2 : c0.toInt = c2.toInt) => ?_) (fun (hc2 : ¬ c0.toInt = c2.toInt) => ?_)
  · refine px_iloadN S0 d11_19 rfl rfl ?_
    refine px_iconst (v := (1 : Int32)) S0 d11_20 rfl rfl ?_
    refine px_icmp S0 d11_21 (by decide) (pc' := 37) rfl rfl (fun (hc3 : (2 : Int32).toInt ≤ (1 : Int32).toInt) => by exfalso; revert hc3; decide) (fun (hc3 : (2 : Int32).toInt > (1 : Int32).toInt) => ?_)
    refine px_aloadN S0 d11_24 rfl rfl rfl ?_
    refine px_iconst (v := (1 : Int32)) S0 d11_25 rfl rfl ?_
    refine px_caload (v := c1) S0 A0 (i := 1) rfl (by decide) e_c1 d11_26 rfl ?_
    refine px_aloadN S0 d11_27 rfl rfl rfl ?_
    refine px_iloadN S0 d11_28 rfl rfl ?_
    refine px_iconst (v := (1 : Int32)) S0 d11_29 rfl rfl ?_
    refine px_iadd S0 d11_30 rfl ?_
    rw [show ((2 : Int32) + (1 : Int32)) = (3 : Int32) from by decide]
    refine px_caload (v := c3) S0 A0 (i := 3) rfl (by decide) e_c3 d11_31 rfl ?_
    refine px_icmp S0 d11_32 (by decide) (pc' := 37) rfl rfl (fun (hc4 : c1.toInt = c3.toInt) => ?_) (fun (hc4 : ¬ c1.toInt = c3.toInt) => ?_)
    · refine px_iloadN S0 d11_37 rfl rfl ?_
      refine px_iconst (v := (2 : Int32)) S0 d11_38 rfl rfl ?_
      refine px_icmp S0 d11_39 (by decide) (pc' := 55) rfl rfl (fun (hc5 : (2 : Int32).toInt ≤ (2 : Int32).toInt) => ?_) (fun (hc5 : (2 : Int32).toInt > (2 : Int32).toInt) => by exfalso; revert hc5; decide)
      refine px_iloadN S0 d11_55 rfl rfl ?_
      refine px_iconst (v := (3 : Int32)) S0 d11_56 rfl rfl ?_
      refine px_icmp S0 d11_57 (by decide) (pc' := 73) rfl rfl (fun (hc6 : (2 : Int32).toInt ≤ (3 : Int32).toInt) => ?_) (fun (hc6 : (2 : Int32).toInt > (3 : Int32).toInt) => by exfalso; revert hc6; decide)
      refine px_iconst (v := (1 : Int32)) S0 d11_73 rfl rfl ?_
      exact px_retN (t := .boolean) (z' := (1 : Int32)) S0 d11_74 rfl (by simp) rfl (by decide) (by decide) (⟨rfl, Or.inl ⟨by omega, rfl⟩⟩)
    · refine px_iconst (v := (0 : Int32)) S0 d11_35 rfl rfl ?_
      exact px_retN (t := .boolean) (z' := (0 : Int32)) S0 d11_36 rfl (by simp) rfl (by decide) (by decide) (⟨rfl, Or.inr ⟨by omega, rfl⟩⟩)
  · refine px_iconst (v := (0 : Int32)) S0 d11_17 rfl rfl ?_
    exact px_retN (t := .boolean) (z' := (0 : Int32)) S0 d11_18 rfl (by simp) rfl (by decide) (by decide) (⟨rfl, Or.inr ⟨by omega, rfl⟩⟩)
theorem d11_42 : decode method_2_code 42 = .ok (.aload_n 0, 1) := by decide +kernel
theorem d11_43 : decode method_2_code 43 = .ok (.iconst 2, 1) := by decide +kernel
theorem d11_44 : decode method_2_code 44 = .ok (.caload, 1) := by decide +kernel
theorem d11_45 : decode method_2_code 45 = .ok (.aload_n 0, 1) := by decide +kernel
theorem d11_46 : decode method_2_code 46 = .ok (.iload_n 3, 1) := by decide +kernel
theorem d11_47 : decode method_2_code 47 = .ok (.iconst 2, 1) := by decide +kernel
theorem d11_48 : decode method_2_code 48 = .ok (.iadd, 1) := by decide +kernel
theorem d11_49 : decode method_2_code 49 = .ok (.caload, 1) := by decide +kernel
theorem d11_50 : decode method_2_code 50 = .ok (.if_icmp .eq 5, 3) := by decide +kernel
theorem d11_53 : decode method_2_code 53 = .ok (.iconst 0, 1) := by decide +kernel
theorem d11_54 : decode method_2_code 54 = .ok (.ireturn, 1) := by decide +kernel
set_option maxRecDepth 65536 in
set_option maxHeartbeats 40000000 in
theorem c_same_3_4 {Z : State} {a0 : Array Value} (hw : ∀ d ∈ tables_1, d.before a0 Z = true) {p : Addr} {c0 c1 c2 c3 c4 : Int32} {f : Nat → Int32} {h0 : Heap} {n0 : Nat} (Z0 : n0 ≤ h0.size) (A0 : AI Z h0 p .char 5 f) (e_c0 : f 0 = c0) (e_c1 : f 1 = c1) (e_c2 : f 2 = c2) (e_c3 : f 3 = c3) (e_c4 : f 4 = c4) :
    Ctr Z n0 (⟨"com/example/ghost_state/ghoststate/ShadowsOfPinLaw", "same", "([CII)Z"⟩ : MethodName) method_2_code 4 (some .boolean) ({ frames := 0, cells := 0, slots := 0, locals := 0 } : Room) [(.ref p), (.int (3 : Int32)), (.int (4 : Int32))] h0 (fun v h => h = h0 ∧ (((c0.toInt = c1.toInt ∧ c1.toInt = c2.toInt ∧ c2.toInt = c3.toInt) ∧ v = some (.int 1)) ∨ (¬ (c0.toInt = c1.toInt ∧ c1.toInt = c2.toInt ∧ c2.toInt = c3.toInt) ∧ v = some (.int 0)))) := by
  refine Ctr.of (L := #[.val (.ref p), .val (.int (3 : Int32)), .val (.int (4 : Int32)), .unset]) pn_11 Z0 (fun m => by first | (simp [entryFrame, mkF, argsToLocals, Value.category]; done) | rfl) ?_
  intro K T S0
  refine px_iloadN S0 d11_0 rfl rfl ?_
  refine px_iloadN S0 d11_1 rfl rfl ?_
  refine px_isub S0 d11_2 rfl ?_
  rw [show ((4 : Int32) - (3 : Int32)) = (1 : Int32) from by decide]
  refine px_istoreN S0 d11_3 rfl (L' := #[.val (.ref p), .val (.int (3 : Int32)), .val (.int (4 : Int32)), .val (.int (1 : Int32))]) rfl ?_
  refine px_iloadN S0 d11_4 rfl rfl ?_
  refine px_if0 S0 d11_5 (by decide) (pc' := 19) rfl rfl (fun (hc1 : (3 : Int32).toInt ≤ 0) => by exfalso; revert hc1; decide) (fun (hc1 : (3 : Int32).toInt > 0) => ?_)
  refine px_aloadN S0 d11_8 rfl rfl rfl ?_
  refine px_iconst (v := (0 : Int32)) S0 d11_9 rfl rfl ?_
  refine px_caload (v := c0) S0 A0 (i := 0) rfl (by decide) e_c0 d11_10 rfl ?_
  refine px_aloadN S0 d11_11 rfl rfl rfl ?_
  refine px_iloadN S0 d11_12 rfl rfl ?_
  refine px_caload (v := c1) S0 A0 (i := 1) rfl (by decide) e_c1 d11_13 rfl ?_
  refine px_icmp S0 d11_14 (by decide) (pc' := 19) rfl rfl (fun (hc2 : c0.toInt = c1.toInt) => ?_) (fun (hc2 : ¬ c0.toInt = c1.toInt) => ?_)
  · refine px_iloadN S0 d11_19 rfl rfl ?_
    refine px_iconst (v := (1 : Int32)) S0 d11_20 rfl rfl ?_
    refine px_icmp S0 d11_21 (by decide) (pc' := 37) rfl rfl (fun (hc3 : (3 : Int32).toInt ≤ (1 : Int32).toInt) => by exfalso; revert hc3; decide) (fun (hc3 : (3 : Int32).toInt > (1 : Int32).toInt) => ?_)
    refine px_aloadN S0 d11_24 rfl rfl rfl ?_
    refine px_iconst (v := (1 : Int32)) S0 d11_25 rfl rfl ?_
    refine px_caload (v := c1) S0 A0 (i := 1) rfl (by decide) e_c1 d11_26 rfl ?_
    refine px_aloadN S0 d11_27 rfl rfl rfl ?_
    refine px_iloadN S0 d11_28 rfl rfl ?_
    refine px_iconst (v := (1 : Int32)) S0 d11_29 rfl rfl ?_
    refine px_iadd S0 d11_30 rfl ?_
    rw [show ((1 : Int32) + (1 : Int32)) = (2 : Int32) from by decide]
    refine px_caload (v := c2) S0 A0 (i := 2) rfl (by decide) e_c2 d11_31 rfl ?_
    refine px_icmp S0 d11_32 (by decide) (pc' := 37) rfl rfl (fun (hc4 : c1.toInt = c2.toInt) => ?_) (fun (hc4 : ¬ c1.toInt = c2.toInt) => ?_)
    · refine px_iloadN S0 d11_37 rfl rfl ?_
      refine px_iconst (v := (2 : Int32)) S0 d11_38 rfl rfl ?_
      refine px_icmp S0 d11_39 (by decide) (pc' := 55) rfl rfl (fun (hc5 : (3 : Int32).toInt ≤ (2 : Int32).toInt) => by exfalso; revert hc5; decide) (fun (hc5 : (3 : Int32).toInt > (2 : Int32).toInt) => ?_)
      refine px_aloadN S0 d11_42 rfl rfl rfl ?_
      refine px_iconst (v := (2 : Int32)) S0 d11_43 rfl rfl ?_
      refine px_caload (v := c2) S0 A0 (i := 2) rfl (by decide) e_c2 d11_44 rfl ?_
      refine px_aloadN S0 d11_45 rfl rfl rfl ?_
      refine px_iloadN S0 d11_46 rfl rfl ?_
      refine px_iconst (v := (2 : Int32)) S0 d11_47 rfl rfl ?_
      refine px_iadd S0 d11_48 rfl ?_
      rw [show ((1 : Int32) + (2 : Int32)) = (3 : Int32) from by decide]
      refine px_caload (v := c3) S0 A0 (i := 3) rfl (by decide) e_c3 d11_49 rfl ?_
      refine px_icmp S0 d11_50 (by decide) (pc' := 55) rfl rfl (fun (hc6 : c2.toInt = c3.toInt) => ?_) (fun (hc6 : ¬ c2.toInt = c3.toInt) => ?_)
      · refine px_iloadN S0 d11_55 rfl rfl ?_
        refine px_iconst (v := (3 : Int32)) S0 d11_56 rfl rfl ?_
        refine px_icmp S0 d11_57 (by decide) (pc' := 73) rfl rfl (fun (hc7 : (3 : Int32).toInt ≤ (3 : Int32).toInt) => ?_) (fun (hc7 : (3 : Int32).toInt > (3 : Int32).toInt) => by exfalso; revert hc7; decide)
        refine px_iconst (v := (1 : Int32)) S0 d11_73 rfl rfl ?_
        exact px_retN (t := .boolean) (z' := (1 : Int32)) S0 d11_74 rfl (by simp) rfl (by decide) (by decide) (⟨rfl, Or.inl ⟨by omega, rfl⟩⟩)
      · refine px_iconst (v := (0 : Int32)) S0 d11_53 rfl rfl ?_
        exact px_retN (t := .boolean) (z' := (0 : Int32)) S0 d11_54 rfl (by simp) rfl (by decide) (by decide) (⟨rfl, Or.inr ⟨by omega, rfl⟩⟩)
    · refine px_iconst (v := (0 : Int32)) S0 d11_35 rfl rfl ?_
      exact px_retN (t := .boolean) (z' := (0 : Int32)) S0 d11_36 rfl (by simp) rfl (by decide) (by decide) (⟨rfl, Or.inr ⟨by omega, rfl⟩⟩)
  · refine px_iconst (v := (0 : Int32)) S0 d11_17 rfl rfl ?_
    exact px_retN (t := .boolean) (z' := (0 : Int32)) S0 d11_18 rfl (by simp) rfl (by decide) (by decide) (⟨rfl, Or.inr ⟨by omega, rfl⟩⟩)
set_option maxRecDepth 65536 in
set_option maxHeartbeats 40000000 in
theorem c_same_1_5 {Z : State} {a0 : Array Value} (hw : ∀ d ∈ tables_1, d.before a0 Z = true) {p : Addr} {c0 c1 c2 c3 c4 : Int32} {f : Nat → Int32} {h0 : Heap} {n0 : Nat} (Z0 : n0 ≤ h0.size) (A0 : AI Z h0 p .char 5 f) (e_c0 : f 0 = c0) (e_c1 : f 1 = c1) (e_c2 : f 2 = c2) (e_c3 : f 3 = c3) (e_c4 : f 4 = c4) :
    Ctr Z n0 (⟨"com/example/ghost_state/ghoststate/ShadowsOfPinLaw", "same", "([CII)Z"⟩ : MethodName) method_2_code 4 (some .boolean) ({ frames := 0, cells := 0, slots := 0, locals := 0 } : Room) [(.ref p), (.int (1 : Int32)), (.int (5 : Int32))] h0 (fun v h => h = h0 ∧ (((c0.toInt = c4.toInt) ∧ v = some (.int 1)) ∨ (¬ (c0.toInt = c4.toInt) ∧ v = some (.int 0)))) := by
  refine Ctr.of (L := #[.val (.ref p), .val (.int (1 : Int32)), .val (.int (5 : Int32)), .unset]) pn_11 Z0 (fun m => by first | (simp [entryFrame, mkF, argsToLocals, Value.category]; done) | rfl) ?_
  intro K T S0
  refine px_iloadN S0 d11_0 rfl rfl ?_
  refine px_iloadN S0 d11_1 rfl rfl ?_
  refine px_isub S0 d11_2 rfl ?_
  rw [show ((5 : Int32) - (1 : Int32)) = (4 : Int32) from by decide]
  refine px_istoreN S0 d11_3 rfl (L' := #[.val (.ref p), .val (.int (1 : Int32)), .val (.int (5 : Int32)), .val (.int (4 : Int32))]) rfl ?_
  refine px_iloadN S0 d11_4 rfl rfl ?_
  refine px_if0 S0 d11_5 (by decide) (pc' := 19) rfl rfl (fun (hc1 : (1 : Int32).toInt ≤ 0) => by exfalso; revert hc1; decide) (fun (hc1 : (1 : Int32).toInt > 0) => ?_)
  refine px_aloadN S0 d11_8 rfl rfl rfl ?_
  refine px_iconst (v := (0 : Int32)) S0 d11_9 rfl rfl ?_
  refine px_caload (v := c0) S0 A0 (i := 0) rfl (by decide) e_c0 d11_10 rfl ?_
  refine px_aloadN S0 d11_11 rfl rfl rfl ?_
  refine px_iloadN S0 d11_12 rfl rfl ?_
  refine px_caload (v := c4) S0 A0 (i := 4) rfl (by decide) e_c4 d11_13 rfl ?_
  refine px_icmp S0 d11_14 (by decide) (pc' := 19) rfl rfl (fun (hc2 : c0.toInt = c4.toInt) => ?_) (fun (hc2 : ¬ c0.toInt = c4.toInt) => ?_)
  · refine px_iloadN S0 d11_19 rfl rfl ?_
    refine px_iconst (v := (1 : Int32)) S0 d11_20 rfl rfl ?_
    refine px_icmp S0 d11_21 (by decide) (pc' := 37) rfl rfl (fun (hc3 : (1 : Int32).toInt ≤ (1 : Int32).toInt) => ?_) (fun (hc3 : (1 : Int32).toInt > (1 : Int32).toInt) => by exfalso; revert hc3; decide)
    refine px_iloadN S0 d11_37 rfl rfl ?_
    refine px_iconst (v := (2 : Int32)) S0 d11_38 rfl rfl ?_
    refine px_icmp S0 d11_39 (by decide) (pc' := 55) rfl rfl (fun (hc4 : (1 : Int32).toInt ≤ (2 : Int32).toInt) => ?_) (fun (hc4 : (1 : Int32).toInt > (2 : Int32).toInt) => by exfalso; revert hc4; decide)
    refine px_iloadN S0 d11_55 rfl rfl ?_
    refine px_iconst (v := (3 : Int32)) S0 d11_56 rfl rfl ?_
    refine px_icmp S0 d11_57 (by decide) (pc' := 73) rfl rfl (fun (hc5 : (1 : Int32).toInt ≤ (3 : Int32).toInt) => ?_) (fun (hc5 : (1 : Int32).toInt > (3 : Int32).toInt) => by exfalso; revert hc5; decide)
    refine px_iconst (v := (1 : Int32)) S0 d11_73 rfl rfl ?_
    exact px_retN (t := .boolean) (z' := (1 : Int32)) S0 d11_74 rfl (by simp) rfl (by decide) (by decide) (⟨rfl, Or.inl ⟨by omega, rfl⟩⟩)
  · refine px_iconst (v := (0 : Int32)) S0 d11_17 rfl rfl ?_
    exact px_retN (t := .boolean) (z' := (0 : Int32)) S0 d11_18 rfl (by simp) rfl (by decide) (by decide) (⟨rfl, Or.inr ⟨by omega, rfl⟩⟩)
set_option maxRecDepth 65536 in
set_option maxHeartbeats 40000000 in
theorem c_same_2_5 {Z : State} {a0 : Array Value} (hw : ∀ d ∈ tables_1, d.before a0 Z = true) {p : Addr} {c0 c1 c2 c3 c4 : Int32} {f : Nat → Int32} {h0 : Heap} {n0 : Nat} (Z0 : n0 ≤ h0.size) (A0 : AI Z h0 p .char 5 f) (e_c0 : f 0 = c0) (e_c1 : f 1 = c1) (e_c2 : f 2 = c2) (e_c3 : f 3 = c3) (e_c4 : f 4 = c4) :
    Ctr Z n0 (⟨"com/example/ghost_state/ghoststate/ShadowsOfPinLaw", "same", "([CII)Z"⟩ : MethodName) method_2_code 4 (some .boolean) ({ frames := 0, cells := 0, slots := 0, locals := 0 } : Room) [(.ref p), (.int (2 : Int32)), (.int (5 : Int32))] h0 (fun v h => h = h0 ∧ (((c0.toInt = c3.toInt ∧ c1.toInt = c4.toInt) ∧ v = some (.int 1)) ∨ (¬ (c0.toInt = c3.toInt ∧ c1.toInt = c4.toInt) ∧ v = some (.int 0)))) := by
  refine Ctr.of (L := #[.val (.ref p), .val (.int (2 : Int32)), .val (.int (5 : Int32)), .unset]) pn_11 Z0 (fun m => by first | (simp [entryFrame, mkF, argsToLocals, Value.category]; done) | rfl) ?_
  intro K T S0
  refine px_iloadN S0 d11_0 rfl rfl ?_
  refine px_iloadN S0 d11_1 rfl rfl ?_
  refine px_isub S0 d11_2 rfl ?_
  rw [show ((5 : Int32) - (2 : Int32)) = (3 : Int32) from by decide]
  refine px_istoreN S0 d11_3 rfl (L' := #[.val (.ref p), .val (.int (2 : Int32)), .val (.int (5 : Int32)), .val (.int (3 : Int32))]) rfl ?_
  refine px_iloadN S0 d11_4 rfl rfl ?_
  refine px_if0 S0 d11_5 (by decide) (pc' := 19) rfl rfl (fun (hc1 : (2 : Int32).toInt ≤ 0) => by exfalso; revert hc1; decide) (fun (hc1 : (2 : Int32).toInt > 0) => ?_)
  refine px_aloadN S0 d11_8 rfl rfl rfl ?_
  refine px_iconst (v := (0 : Int32)) S0 d11_9 rfl rfl ?_
  refine px_caload (v := c0) S0 A0 (i := 0) rfl (by decide) e_c0 d11_10 rfl ?_
  refine px_aloadN S0 d11_11 rfl rfl rfl ?_
  refine px_iloadN S0 d11_12 rfl rfl ?_
  refine px_caload (v := c3) S0 A0 (i := 3) rfl (by decide) e_c3 d11_13 rfl ?_
  refine px_icmp S0 d11_14 (by decide) (pc' := 19) rfl rfl (fun (hc2 : c0.toInt = c3.toInt) => ?_) (fun (hc2 : ¬ c0.toInt = c3.toInt) => ?_)
  · refine px_iloadN S0 d11_19 rfl rfl ?_
    refine px_iconst (v := (1 : Int32)) S0 d11_20 rfl rfl ?_
    refine px_icmp S0 d11_21 (by decide) (pc' := 37) rfl rfl (fun (hc3 : (2 : Int32).toInt ≤ (1 : Int32).toInt) => by exfalso; revert hc3; decide) (fun (hc3 : (2 : Int32).toInt > (1 : Int32).toInt) => ?_)
    refine px_aloadN S0 d11_24 rfl rfl rfl ?_
    refine px_iconst (v := (1 : Int32)) S0 d11_25 rfl rfl ?_
    refine px_caload (v := c1) S0 A0 (i := 1) rfl (by decide) e_c1 d11_26 rfl ?_
    refine px_aloadN S0 d11_27 rfl rfl rfl ?_
    refine px_iloadN S0 d11_28 rfl rfl ?_
    refine px_iconst (v := (1 : Int32)) S0 d11_29 rfl rfl ?_
    refine px_iadd S0 d11_30 rfl ?_
    rw [show ((3 : Int32) + (1 : Int32)) = (4 : Int32) from by decide]
    refine px_caload (v := c4) S0 A0 (i := 4) rfl (by decide) e_c4 d11_31 rfl ?_
    refine px_icmp S0 d11_32 (by decide) (pc' := 37) rfl rfl (fun (hc4 : c1.toInt = c4.toInt) => ?_) (fun (hc4 : ¬ c1.toInt = c4.toInt) => ?_)
    · refine px_iloadN S0 d11_37 rfl rfl ?_
      refine px_iconst (v := (2 : Int32)) S0 d11_38 rfl rfl ?_
      refine px_icmp S0 d11_39 (by decide) (pc' := 55) rfl rfl (fun (hc5 : (2 : Int32).toInt ≤ (2 : Int32).toInt) => ?_) (fun (hc5 : (2 : Int32).toInt > (2 : Int32).toInt) => by exfalso; revert hc5; decide)
      refine px_iloadN S0 d11_55 rfl rfl ?_
      refine px_iconst (v := (3 : Int32)) S0 d11_56 rfl rfl ?_
      refine px_icmp S0 d11_57 (by decide) (pc' := 73) rfl rfl (fun (hc6 : (2 : Int32).toInt ≤ (3 : Int32).toInt) => ?_) (fun (hc6 : (2 : Int32).toInt > (3 : Int32).toInt) => by exfalso; revert hc6; decide)
      refine px_iconst (v := (1 : Int32)) S0 d11_73 rfl rfl ?_
      exact px_retN (t := .boolean) (z' := (1 : Int32)) S0 d11_74 rfl (by simp) rfl (by decide) (by decide) (⟨rfl, Or.inl ⟨by omega, rfl⟩⟩)
    · refine px_iconst (v := (0 : Int32)) S0 d11_35 rfl rfl ?_
      exact px_retN (t := .boolean) (z' := (0 : Int32)) S0 d11_36 rfl (by simp) rfl (by decide) (by decide) (⟨rfl, Or.inr ⟨by omega, rfl⟩⟩)
  · refine px_iconst (v := (0 : Int32)) S0 d11_17 rfl rfl ?_
    exact px_retN (t := .boolean) (z' := (0 : Int32)) S0 d11_18 rfl (by simp) rfl (by decide) (by decide) (⟨rfl, Or.inr ⟨by omega, rfl⟩⟩)
set_option maxRecDepth 65536 in
set_option maxHeartbeats 40000000 in
theorem c_same_3_5 {Z : State} {a0 : Array Value} (hw : ∀ d ∈ tables_1, d.before a0 Z = true) {p : Addr} {c0 c1 c2 c3 c4 : Int32} {f : Nat → Int32} {h0 : Heap} {n0 : Nat} (Z0 : n0 ≤ h0.size) (A0 : AI Z h0 p .char 5 f) (e_c0 : f 0 = c0) (e_c1 : f 1 = c1) (e_c2 : f 2 = c2) (e_c3 : f 3 = c3) (e_c4 : f 4 = c4) :
    Ctr Z n0 (⟨"com/example/ghost_state/ghoststate/ShadowsOfPinLaw", "same", "([CII)Z"⟩ : MethodName) method_2_code 4 (some .boolean) ({ frames := 0, cells := 0, slots := 0, locals := 0 } : Room) [(.ref p), (.int (3 : Int32)), (.int (5 : Int32))] h0 (fun v h => h = h0 ∧ (((c0.toInt = c2.toInt ∧ c1.toInt = c3.toInt ∧ c2.toInt = c4.toInt) ∧ v = some (.int 1)) ∨ (¬ (c0.toInt = c2.toInt ∧ c1.toInt = c3.toInt ∧ c2.toInt = c4.toInt) ∧ v = some (.int 0)))) := by
  refine Ctr.of (L := #[.val (.ref p), .val (.int (3 : Int32)), .val (.int (5 : Int32)), .unset]) pn_11 Z0 (fun m => by first | (simp [entryFrame, mkF, argsToLocals, Value.category]; done) | rfl) ?_
  intro K T S0
  refine px_iloadN S0 d11_0 rfl rfl ?_
  refine px_iloadN S0 d11_1 rfl rfl ?_
  refine px_isub S0 d11_2 rfl ?_
  rw [show ((5 : Int32) - (3 : Int32)) = (2 : Int32) from by decide]
  refine px_istoreN S0 d11_3 rfl (L' := #[.val (.ref p), .val (.int (3 : Int32)), .val (.int (5 : Int32)), .val (.int (2 : Int32))]) rfl ?_
  refine px_iloadN S0 d11_4 rfl rfl ?_
  refine px_if0 S0 d11_5 (by decide) (pc' := 19) rfl rfl (fun (hc1 : (3 : Int32).toInt ≤ 0) => by exfalso; revert hc1; decide) (fun (hc1 : (3 : Int32).toInt > 0) => ?_)
  refine px_aloadN S0 d11_8 rfl rfl rfl ?_
  refine px_iconst (v := (0 : Int32)) S0 d11_9 rfl rfl ?_
  refine px_caload (v := c0) S0 A0 (i := 0) rfl (by decide) e_c0 d11_10 rfl ?_
  refine px_aloadN S0 d11_11 rfl rfl rfl ?_
  refine px_iloadN S0 d11_12 rfl rfl ?_
  refine px_caload (v := c2) S0 A0 (i := 2) rfl (by decide) e_c2 d11_13 rfl ?_
  refine px_icmp S0 d11_14 (by decide) (pc' := 19) rfl rfl (fun (hc2 : c0.toInt = c2.toInt) => ?_) (fun (hc2 : ¬ c0.toInt = c2.toInt) => ?_)
  · refine px_iloadN S0 d11_19 rfl rfl ?_
    refine px_iconst (v := (1 : Int32)) S0 d11_20 rfl rfl ?_
    refine px_icmp S0 d11_21 (by decide) (pc' := 37) rfl rfl (fun (hc3 : (3 : Int32).toInt ≤ (1 : Int32).toInt) => by exfalso; revert hc3; decide) (fun (hc3 : (3 : Int32).toInt > (1 : Int32).toInt) => ?_)
    refine px_aloadN S0 d11_24 rfl rfl rfl ?_
    refine px_iconst (v := (1 : Int32)) S0 d11_25 rfl rfl ?_
    refine px_caload (v := c1) S0 A0 (i := 1) rfl (by decide) e_c1 d11_26 rfl ?_
    refine px_aloadN S0 d11_27 rfl rfl rfl ?_
    refine px_iloadN S0 d11_28 rfl rfl ?_
    refine px_iconst (v := (1 : Int32)) S0 d11_29 rfl rfl ?_
    refine px_iadd S0 d11_30 rfl ?_
    rw [show ((2 : Int32) + (1 : Int32)) = (3 : Int32) from by decide]
    refine px_caload (v := c3) S0 A0 (i := 3) rfl (by decide) e_c3 d11_31 rfl ?_
    refine px_icmp S0 d11_32 (by decide) (pc' := 37) rfl rfl (fun (hc4 : c1.toInt = c3.toInt) => ?_) (fun (hc4 : ¬ c1.toInt = c3.toInt) => ?_)
    · refine px_iloadN S0 d11_37 rfl rfl ?_
      refine px_iconst (v := (2 : Int32)) S0 d11_38 rfl rfl ?_
      refine px_icmp S0 d11_39 (by decide) (pc' := 55) rfl rfl (fun (hc5 : (3 : Int32).toInt ≤ (2 : Int32).toInt) => by exfalso; revert hc5; decide) (fun (hc5 : (3 : Int32).toInt > (2 : Int32).toInt) => ?_)
      refine px_aloadN S0 d11_42 rfl rfl rfl ?_
      refine px_iconst (v := (2 : Int32)) S0 d11_43 rfl rfl ?_
      refine px_caload (v := c2) S0 A0 (i := 2) rfl (by decide) e_c2 d11_44 rfl ?_
      refine px_aloadN S0 d11_45 rfl rfl rfl ?_
      refine px_iloadN S0 d11_46 rfl rfl ?_
      refine px_iconst (v := (2 : Int32)) S0 d11_47 rfl rfl ?_
      refine px_iadd S0 d11_48 rfl ?_
      rw [show ((2 : Int32) + (2 : Int32)) = (4 : Int32) from by decide]
      refine px_caload (v := c4) S0 A0 (i := 4) rfl (by decide) e_c4 d11_49 rfl ?_
      refine px_icmp S0 d11_50 (by decide) (pc' := 55) rfl rfl (fun (hc6 : c2.toInt = c4.toInt) => ?_) (fun (hc6 : ¬ c2.toInt = c4.toInt) => ?_)
      · refine px_iloadN S0 d11_55 rfl rfl ?_
        refine px_iconst (v := (3 : Int32)) S0 d11_56 rfl rfl ?_
        refine px_icmp S0 d11_57 (by decide) (pc' := 73) rfl rfl (fun (hc7 : (3 : Int32).toInt ≤ (3 : Int32).toInt) => ?_) (fun (hc7 : (3 : Int32).toInt > (3 : Int32).toInt) => by exfalso; revert hc7; decide)
        refine px_iconst (v := (1 : Int32)) S0 d11_73 rfl rfl ?_
        exact px_retN (t := .boolean) (z' := (1 : Int32)) S0 d11_74 rfl (by simp) rfl (by decide) (by decide) (⟨rfl, Or.inl ⟨by omega, rfl⟩⟩)
      · refine px_iconst (v := (0 : Int32)) S0 d11_53 rfl rfl ?_
        exact px_retN (t := .boolean) (z' := (0 : Int32)) S0 d11_54 rfl (by simp) rfl (by decide) (by decide) (⟨rfl, Or.inr ⟨by omega, rfl⟩⟩)
    · refine px_iconst (v := (0 : Int32)) S0 d11_35 rfl rfl ?_
      exact px_retN (t := .boolean) (z' := (0 : Int32)) S0 d11_36 rfl (by simp) rfl (by decide) (by decide) (⟨rfl, Or.inr ⟨by omega, rfl⟩⟩)
  · refine px_iconst (v := (0 : Int32)) S0 d11_17 rfl rfl ?_
    exact px_retN (t := .boolean) (z' := (0 : Int32)) S0 d11_18 rfl (by simp) rfl (by decide) (by decide) (⟨rfl, Or.inr ⟨by omega, rfl⟩⟩)
theorem d11_60 : decode method_2_code 60 = .ok (.aload_n 0, 1) := by decide +kernel
theorem d11_61 : decode method_2_code 61 = .ok (.iconst 3, 1) := by decide +kernel
theorem d11_62 : decode method_2_code 62 = .ok (.caload, 1) := by decide +kernel
theorem d11_63 : decode method_2_code 63 = .ok (.aload_n 0, 1) := by decide +kernel
theorem d11_64 : decode method_2_code 64 = .ok (.iload_n 3, 1) := by decide +kernel
theorem d11_65 : decode method_2_code 65 = .ok (.iconst 3, 1) := by decide +kernel
theorem d11_66 : decode method_2_code 66 = .ok (.iadd, 1) := by decide +kernel
theorem d11_67 : decode method_2_code 67 = .ok (.caload, 1) := by decide +kernel
theorem d11_68 : decode method_2_code 68 = .ok (.if_icmp .eq 5, 3) := by decide +kernel
theorem d11_71 : decode method_2_code 71 = .ok (.iconst 0, 1) := by decide +kernel
theorem d11_72 : decode method_2_code 72 = .ok (.ireturn, 1) := by decide +kernel
set_option maxRecDepth 65536 in
set_option maxHeartbeats 40000000 in
theorem c_same_4_5 {Z : State} {a0 : Array Value} (hw : ∀ d ∈ tables_1, d.before a0 Z = true) {p : Addr} {c0 c1 c2 c3 c4 : Int32} {f : Nat → Int32} {h0 : Heap} {n0 : Nat} (Z0 : n0 ≤ h0.size) (A0 : AI Z h0 p .char 5 f) (e_c0 : f 0 = c0) (e_c1 : f 1 = c1) (e_c2 : f 2 = c2) (e_c3 : f 3 = c3) (e_c4 : f 4 = c4) :
    Ctr Z n0 (⟨"com/example/ghost_state/ghoststate/ShadowsOfPinLaw", "same", "([CII)Z"⟩ : MethodName) method_2_code 4 (some .boolean) ({ frames := 0, cells := 0, slots := 0, locals := 0 } : Room) [(.ref p), (.int (4 : Int32)), (.int (5 : Int32))] h0 (fun v h => h = h0 ∧ (((c0.toInt = c1.toInt ∧ c1.toInt = c2.toInt ∧ c2.toInt = c3.toInt ∧ c3.toInt = c4.toInt) ∧ v = some (.int 1)) ∨ (¬ (c0.toInt = c1.toInt ∧ c1.toInt = c2.toInt ∧ c2.toInt = c3.toInt ∧ c3.toInt = c4.toInt) ∧ v = some (.int 0)))) := by
  refine Ctr.of (L := #[.val (.ref p), .val (.int (4 : Int32)), .val (.int (5 : Int32)), .unset]) pn_11 Z0 (fun m => by first | (simp [entryFrame, mkF, argsToLocals, Value.category]; done) | rfl) ?_
  intro K T S0
  refine px_iloadN S0 d11_0 rfl rfl ?_
  refine px_iloadN S0 d11_1 rfl rfl ?_
  refine px_isub S0 d11_2 rfl ?_
  rw [show ((5 : Int32) - (4 : Int32)) = (1 : Int32) from by decide]
  refine px_istoreN S0 d11_3 rfl (L' := #[.val (.ref p), .val (.int (4 : Int32)), .val (.int (5 : Int32)), .val (.int (1 : Int32))]) rfl ?_
  refine px_iloadN S0 d11_4 rfl rfl ?_
  refine px_if0 S0 d11_5 (by decide) (pc' := 19) rfl rfl (fun (hc1 : (4 : Int32).toInt ≤ 0) => by exfalso; revert hc1; decide) (fun (hc1 : (4 : Int32).toInt > 0) => ?_)
  refine px_aloadN S0 d11_8 rfl rfl rfl ?_
  refine px_iconst (v := (0 : Int32)) S0 d11_9 rfl rfl ?_
  refine px_caload (v := c0) S0 A0 (i := 0) rfl (by decide) e_c0 d11_10 rfl ?_
  refine px_aloadN S0 d11_11 rfl rfl rfl ?_
  refine px_iloadN S0 d11_12 rfl rfl ?_
  refine px_caload (v := c1) S0 A0 (i := 1) rfl (by decide) e_c1 d11_13 rfl ?_
  refine px_icmp S0 d11_14 (by decide) (pc' := 19) rfl rfl (fun (hc2 : c0.toInt = c1.toInt) => ?_) (fun (hc2 : ¬ c0.toInt = c1.toInt) => ?_)
  · refine px_iloadN S0 d11_19 rfl rfl ?_
    refine px_iconst (v := (1 : Int32)) S0 d11_20 rfl rfl ?_
    refine px_icmp S0 d11_21 (by decide) (pc' := 37) rfl rfl (fun (hc3 : (4 : Int32).toInt ≤ (1 : Int32).toInt) => by exfalso; revert hc3; decide) (fun (hc3 : (4 : Int32).toInt > (1 : Int32).toInt) => ?_)
    refine px_aloadN S0 d11_24 rfl rfl rfl ?_
    refine px_iconst (v := (1 : Int32)) S0 d11_25 rfl rfl ?_
    refine px_caload (v := c1) S0 A0 (i := 1) rfl (by decide) e_c1 d11_26 rfl ?_
    refine px_aloadN S0 d11_27 rfl rfl rfl ?_
    refine px_iloadN S0 d11_28 rfl rfl ?_
    refine px_iconst (v := (1 : Int32)) S0 d11_29 rfl rfl ?_
    refine px_iadd S0 d11_30 rfl ?_
    rw [show ((1 : Int32) + (1 : Int32)) = (2 : Int32) from by decide]
    refine px_caload (v := c2) S0 A0 (i := 2) rfl (by decide) e_c2 d11_31 rfl ?_
    refine px_icmp S0 d11_32 (by decide) (pc' := 37) rfl rfl (fun (hc4 : c1.toInt = c2.toInt) => ?_) (fun (hc4 : ¬ c1.toInt = c2.toInt) => ?_)
    · refine px_iloadN S0 d11_37 rfl rfl ?_
      refine px_iconst (v := (2 : Int32)) S0 d11_38 rfl rfl ?_
      refine px_icmp S0 d11_39 (by decide) (pc' := 55) rfl rfl (fun (hc5 : (4 : Int32).toInt ≤ (2 : Int32).toInt) => by exfalso; revert hc5; decide) (fun (hc5 : (4 : Int32).toInt > (2 : Int32).toInt) => ?_)
      refine px_aloadN S0 d11_42 rfl rfl rfl ?_
      refine px_iconst (v := (2 : Int32)) S0 d11_43 rfl rfl ?_
      refine px_caload (v := c2) S0 A0 (i := 2) rfl (by decide) e_c2 d11_44 rfl ?_
      refine px_aloadN S0 d11_45 rfl rfl rfl ?_
      refine px_iloadN S0 d11_46 rfl rfl ?_
      refine px_iconst (v := (2 : Int32)) S0 d11_47 rfl rfl ?_
      refine px_iadd S0 d11_48 rfl ?_
      rw [show ((1 : Int32) + (2 : Int32)) = (3 : Int32) from by decide]
      refine px_caload (v := c3) S0 A0 (i := 3) rfl (by decide) e_c3 d11_49 rfl ?_
      refine px_icmp S0 d11_50 (by decide) (pc' := 55) rfl rfl (fun (hc6 : c2.toInt = c3.toInt) => ?_) (fun (hc6 : ¬ c2.toInt = c3.toInt) => ?_)
      · refine px_iloadN S0 d11_55 rfl rfl ?_
        refine px_iconst (v := (3 : Int32)) S0 d11_56 rfl rfl ?_
        refine px_icmp S0 d11_57 (by decide) (pc' := 73) rfl rfl (fun (hc7 : (4 : Int32).toInt ≤ (3 : Int32).toInt) => by exfalso; revert hc7; decide) (fun (hc7 : (4 : Int32).toInt > (3 : Int32).toInt) => ?_)
        refine px_aloadN S0 d11_60 rfl rfl rfl ?_
        refine px_iconst (v := (3 : Int32)) S0 d11_61 rfl rfl ?_
        refine px_caload (v := c3) S0 A0 (i := 3) rfl (by decide) e_c3 d11_62 rfl ?_
        refine px_aloadN S0 d11_63 rfl rfl rfl ?_
        refine px_iloadN S0 d11_64 rfl rfl ?_
        refine px_iconst (v := (3 : Int32)) S0 d11_65 rfl rfl ?_
        refine px_iadd S0 d11_66 rfl ?_
        rw [show ((1 : Int32) + (3 : Int32)) = (4 : Int32) from by decide]
        refine px_caload (v := c4) S0 A0 (i := 4) rfl (by decide) e_c4 d11_67 rfl ?_
        refine px_icmp S0 d11_68 (by decide) (pc' := 73) rfl rfl (fun (hc8 : c3.toInt = c4.toInt) => ?_) (fun (hc8 : ¬ c3.toInt = c4.toInt) => ?_)
        · refine px_iconst (v := (1 : Int32)) S0 d11_73 rfl rfl ?_
          exact px_retN (t := .boolean) (z' := (1 : Int32)) S0 d11_74 rfl (by simp) rfl (by decide) (by decide) (⟨rfl, Or.inl ⟨by omega, rfl⟩⟩)
        · refine px_iconst (v := (0 : Int32)) S0 d11_71 rfl rfl ?_
          exact px_retN (t := .boolean) (z' := (0 : Int32)) S0 d11_72 rfl (by simp) rfl (by decide) (by decide) (⟨rfl, Or.inr ⟨by omega, rfl⟩⟩)
      · refine px_iconst (v := (0 : Int32)) S0 d11_53 rfl rfl ?_
        exact px_retN (t := .boolean) (z' := (0 : Int32)) S0 d11_54 rfl (by simp) rfl (by decide) (by decide) (⟨rfl, Or.inr ⟨by omega, rfl⟩⟩)
    · refine px_iconst (v := (0 : Int32)) S0 d11_35 rfl rfl ?_
      exact px_retN (t := .boolean) (z' := (0 : Int32)) S0 d11_36 rfl (by simp) rfl (by decide) (by decide) (⟨rfl, Or.inr ⟨by omega, rfl⟩⟩)
  · refine px_iconst (v := (0 : Int32)) S0 d11_17 rfl rfl ?_
    exact px_retN (t := .boolean) (z' := (0 : Int32)) S0 d11_18 rfl (by simp) rfl (by decide) (by decide) (⟨rfl, Or.inr ⟨by omega, rfl⟩⟩)
theorem d10_0 : decode method_3_code 0 = .ok (.iload_n 1, 1) := by decide +kernel
theorem d10_1 : decode method_3_code 1 = .ok (.ifCond .gt 5, 3) := by decide +kernel
theorem d10_6 : decode method_3_code 6 = .ok (.iconst 4, 1) := by decide +kernel
theorem d10_7 : decode method_3_code 7 = .ok (.iload_n 1, 1) := by decide +kernel
theorem d10_8 : decode method_3_code 8 = .ok (.if_icmp .ge 14, 3) := by decide +kernel
theorem d10_22 : decode method_3_code 22 = .ok (.iconst 3, 1) := by decide +kernel
theorem d10_23 : decode method_3_code 23 = .ok (.iload_n 1, 1) := by decide +kernel
theorem d10_24 : decode method_3_code 24 = .ok (.if_icmp .ge 14, 3) := by decide +kernel
theorem d10_38 : decode method_3_code 38 = .ok (.iconst 2, 1) := by decide +kernel
theorem d10_39 : decode method_3_code 39 = .ok (.iload_n 1, 1) := by decide +kernel
theorem d10_40 : decode method_3_code 40 = .ok (.if_icmp .ge 14, 3) := by decide +kernel
theorem d10_54 : decode method_3_code 54 = .ok (.iconst 1, 1) := by decide +kernel
theorem d10_55 : decode method_3_code 55 = .ok (.iload_n 1, 1) := by decide +kernel
theorem d10_56 : decode method_3_code 56 = .ok (.if_icmp .ge 14, 3) := by decide +kernel
theorem d10_70 : decode method_3_code 70 = .ok (.iconst 0, 1) := by decide +kernel
theorem d10_71 : decode method_3_code 71 = .ok (.ireturn, 1) := by decide +kernel
theorem pn_10 : plainFor (⟨"com/example/ghost_state/ghoststate/ShadowsOfPinLaw", "border", "([CI)I"⟩ : MethodName) = true := plainFor_of_name (by first | (simp [plainName, overriddenIn]; done) | decide +kernel)
set_option maxRecDepth 65536 in
set_option maxHeartbeats 40000000 in
theorem c_border_1 {Z : State} {a0 : Array Value} (hw : ∀ d ∈ tables_1, d.before a0 Z = true) {p : Addr} {c0 c1 c2 c3 c4 : Int32} {f : Nat → Int32} {h0 : Heap} {n0 : Nat} (Z0 : n0 ≤ h0.size) (A0 : AI Z h0 p .char 5 f) (e_c0 : f 0 = c0) (e_c1 : f 1 = c1) (e_c2 : f 2 = c2) (e_c3 : f 3 = c3) (e_c4 : f 4 = c4) :
    Ctr Z n0 (⟨"com/example/ghost_state/ghoststate/ShadowsOfPinLaw", "border", "([CI)I"⟩ : MethodName) method_3_code 2 (some .int) ({ frames := 0, cells := 0, slots := 0, locals := 0 } : Room) [(.ref p), (.int (1 : Int32))] h0 (fun v h => h = h0 ∧ ∃ r : Int32, v = some (.int r) ∧ ((r.toInt = 0))) := by
  refine Ctr.of (L := #[.val (.ref p), .val (.int (1 : Int32))]) pn_10 Z0 (fun m => by first | (simp [entryFrame, mkF, argsToLocals, Value.category]; done) | rfl) ?_
  intro K T S0
  refine px_iloadN S0 d10_0 rfl rfl ?_
  refine px_if0 S0 d10_1 (by decide) (pc' := 6) rfl rfl (fun (hc1 : (1 : Int32).toInt > 0) => ?_) (fun (hc1 : (1 : Int32).toInt ≤ 0) => by exfalso; revert hc1; decide)
  refine px_iconst (v := (4 : Int32)) S0 d10_6 rfl rfl ?_
  refine px_iloadN S0 d10_7 rfl rfl ?_
  refine px_icmp S0 d10_8 (by decide) (pc' := 22) rfl rfl (fun (hc2 : (4 : Int32).toInt ≥ (1 : Int32).toInt) => ?_) (fun (hc2 : (4 : Int32).toInt < (1 : Int32).toInt) => by exfalso; revert hc2; decide)
  refine px_iconst (v := (3 : Int32)) S0 d10_22 rfl rfl ?_
  refine px_iloadN S0 d10_23 rfl rfl ?_
  refine px_icmp S0 d10_24 (by decide) (pc' := 38) rfl rfl (fun (hc3 : (3 : Int32).toInt ≥ (1 : Int32).toInt) => ?_) (fun (hc3 : (3 : Int32).toInt < (1 : Int32).toInt) => by exfalso; revert hc3; decide)
  refine px_iconst (v := (2 : Int32)) S0 d10_38 rfl rfl ?_
  refine px_iloadN S0 d10_39 rfl rfl ?_
  refine px_icmp S0 d10_40 (by decide) (pc' := 54) rfl rfl (fun (hc4 : (2 : Int32).toInt ≥ (1 : Int32).toInt) => ?_) (fun (hc4 : (2 : Int32).toInt < (1 : Int32).toInt) => by exfalso; revert hc4; decide)
  refine px_iconst (v := (1 : Int32)) S0 d10_54 rfl rfl ?_
  refine px_iloadN S0 d10_55 rfl rfl ?_
  refine px_icmp S0 d10_56 (by decide) (pc' := 70) rfl rfl (fun (hc5 : (1 : Int32).toInt ≥ (1 : Int32).toInt) => ?_) (fun (hc5 : (1 : Int32).toInt < (1 : Int32).toInt) => by exfalso; revert hc5; decide)
  refine px_iconst (v := (0 : Int32)) S0 d10_70 rfl rfl ?_
  exact px_retI S0 d10_71 rfl (by decide) (by decide) (⟨rfl, (0 : Int32), rfl, rfl⟩)
theorem d10_59 : decode method_3_code 59 = .ok (.aload_n 0, 1) := by decide +kernel
theorem d10_60 : decode method_3_code 60 = .ok (.iconst 1, 1) := by decide +kernel
theorem d10_61 : decode method_3_code 61 = .ok (.iload_n 1, 1) := by decide +kernel
theorem d10_62 : decode method_3_code 62 = .ok (.invokestatic 7, 3) := by decide +kernel
theorem d10_65 : decode method_3_code 65 = .ok (.ifCond .eq 5, 3) := by decide +kernel
theorem d10_68 : decode method_3_code 68 = .ok (.iconst 1, 1) := by decide +kernel
theorem d10_69 : decode method_3_code 69 = .ok (.ireturn, 1) := by decide +kernel
theorem pd_10_0 : parseMethodDescriptor "([CII)Z" = some ⟨[(.array .char), .int, .int], some .boolean⟩ := by decide +kernel
set_option maxRecDepth 65536 in
set_option maxHeartbeats 40000000 in
theorem c_border_2 {Z : State} {a0 : Array Value} (hw : ∀ d ∈ tables_1, d.before a0 Z = true) {p : Addr} {c0 c1 c2 c3 c4 : Int32} {f : Nat → Int32} {h0 : Heap} {n0 : Nat} (Z0 : n0 ≤ h0.size) (A0 : AI Z h0 p .char 5 f) (e_c0 : f 0 = c0) (e_c1 : f 1 = c1) (e_c2 : f 2 = c2) (e_c3 : f 3 = c3) (e_c4 : f 4 = c4) :
    Ctr Z n0 (⟨"com/example/ghost_state/ghoststate/ShadowsOfPinLaw", "border", "([CI)I"⟩ : MethodName) method_3_code 2 (some .int) ({ frames := 1, cells := 0, slots := 0, locals := 15 } : Room) [(.ref p), (.int (2 : Int32))] h0 (fun v h => h = h0 ∧ ∃ r : Int32, v = some (.int r) ∧ ((r.toInt = 0 ∧ ¬ (c0.toInt = c1.toInt)) ∨ (r.toInt = 1 ∧ (c0.toInt = c1.toInt)))) := by
  refine Ctr.of (L := #[.val (.ref p), .val (.int (2 : Int32))]) pn_10 Z0 (fun m => by first | (simp [entryFrame, mkF, argsToLocals, Value.category]; done) | rfl) ?_
  intro K T S0
  refine px_iloadN S0 d10_0 rfl rfl ?_
  refine px_if0 S0 d10_1 (by decide) (pc' := 6) rfl rfl (fun (hc1 : (2 : Int32).toInt > 0) => ?_) (fun (hc1 : (2 : Int32).toInt ≤ 0) => by exfalso; revert hc1; decide)
  refine px_iconst (v := (4 : Int32)) S0 d10_6 rfl rfl ?_
  refine px_iloadN S0 d10_7 rfl rfl ?_
  refine px_icmp S0 d10_8 (by decide) (pc' := 22) rfl rfl (fun (hc2 : (4 : Int32).toInt ≥ (2 : Int32).toInt) => ?_) (fun (hc2 : (4 : Int32).toInt < (2 : Int32).toInt) => by exfalso; revert hc2; decide)
  refine px_iconst (v := (3 : Int32)) S0 d10_22 rfl rfl ?_
  refine px_iloadN S0 d10_23 rfl rfl ?_
  refine px_icmp S0 d10_24 (by decide) (pc' := 38) rfl rfl (fun (hc3 : (3 : Int32).toInt ≥ (2 : Int32).toInt) => ?_) (fun (hc3 : (3 : Int32).toInt < (2 : Int32).toInt) => by exfalso; revert hc3; decide)
  refine px_iconst (v := (2 : Int32)) S0 d10_38 rfl rfl ?_
  refine px_iloadN S0 d10_39 rfl rfl ?_
  refine px_icmp S0 d10_40 (by decide) (pc' := 54) rfl rfl (fun (hc4 : (2 : Int32).toInt ≥ (2 : Int32).toInt) => ?_) (fun (hc4 : (2 : Int32).toInt < (2 : Int32).toInt) => by exfalso; revert hc4; decide)
  refine px_iconst (v := (1 : Int32)) S0 d10_54 rfl rfl ?_
  refine px_iloadN S0 d10_55 rfl rfl ?_
  refine px_icmp S0 d10_56 (by decide) (pc' := 70) rfl rfl (fun (hc5 : (1 : Int32).toInt ≥ (2 : Int32).toInt) => by exfalso; revert hc5; decide) (fun (hc5 : (1 : Int32).toInt < (2 : Int32).toInt) => ?_)
  refine px_aloadN S0 d10_59 rfl rfl rfl ?_
  refine px_iconst (v := (1 : Int32)) S0 d10_60 rfl rfl ?_
  refine px_iloadN S0 d10_61 rfl rfl ?_
  refine px_callS (as' := [(.ref p), (.int (1 : Int32)), (.int (2 : Int32))]) (st := []) (W := 0) S0 (c_same_1_2 hw S0.size A0 e_c0 e_c1 e_c2 e_c3 e_c4) (hw _ (List.mem_of_getElem? (i := 61) rfl)) (hw _ (List.mem_of_getElem? (i := 62) rfl)) (hw _ (List.mem_of_getElem? (i := 59) rfl)) (hw _ (List.mem_of_getElem? (i := 63) rfl)) (by decide) pd_10_0 rfl rfl (by decide) rfl (by decide) (by decide) (by decide) d10_62 rfl rfl (fun T6 h6 v6 S6 q6 => ?_)
  obtain ⟨rfl, q6⟩ := q6
  rcases q6 with ⟨k6, rfl⟩ | ⟨k6, rfl⟩
  · show Go _ _ _ _ _ _ _ [(.int (1 : Int32))]
    refine px_if0 S6 d10_65 (by decide) (pc' := 70) rfl rfl (fun (hc7 : (1 : Int32).toInt = 0) => by exfalso; revert hc7; decide) (fun (hc7 : ¬ (1 : Int32).toInt = 0) => ?_)
    refine px_iconst (v := (1 : Int32)) S6 d10_68 rfl rfl ?_
    exact px_retI S6 d10_69 rfl (by decide) (by decide) (⟨rfl, (1 : Int32), rfl, Or.inr (⟨rfl, by omega⟩)⟩)
  · show Go _ _ _ _ _ _ _ [(.int (0 : Int32))]
    refine px_if0 S6 d10_65 (by decide) (pc' := 70) rfl rfl (fun (hc8 : (0 : Int32).toInt = 0) => ?_) (fun (hc8 : ¬ (0 : Int32).toInt = 0) => by exfalso; revert hc8; decide)
    refine px_iconst (v := (0 : Int32)) S6 d10_70 rfl rfl ?_
    exact px_retI S6 d10_71 rfl (by decide) (by decide) (⟨rfl, (0 : Int32), rfl, Or.inl (⟨rfl, by omega⟩)⟩)
theorem d10_43 : decode method_3_code 43 = .ok (.aload_n 0, 1) := by decide +kernel
theorem d10_44 : decode method_3_code 44 = .ok (.iconst 2, 1) := by decide +kernel
theorem d10_45 : decode method_3_code 45 = .ok (.iload_n 1, 1) := by decide +kernel
theorem d10_46 : decode method_3_code 46 = .ok (.invokestatic 7, 3) := by decide +kernel
theorem d10_49 : decode method_3_code 49 = .ok (.ifCond .eq 5, 3) := by decide +kernel
theorem d10_52 : decode method_3_code 52 = .ok (.iconst 2, 1) := by decide +kernel
theorem d10_53 : decode method_3_code 53 = .ok (.ireturn, 1) := by decide +kernel
set_option maxRecDepth 65536 in
set_option maxHeartbeats 40000000 in
theorem c_border_3 {Z : State} {a0 : Array Value} (hw : ∀ d ∈ tables_1, d.before a0 Z = true) {p : Addr} {c0 c1 c2 c3 c4 : Int32} {f : Nat → Int32} {h0 : Heap} {n0 : Nat} (Z0 : n0 ≤ h0.size) (A0 : AI Z h0 p .char 5 f) (e_c0 : f 0 = c0) (e_c1 : f 1 = c1) (e_c2 : f 2 = c2) (e_c3 : f 3 = c3) (e_c4 : f 4 = c4) :
    Ctr Z n0 (⟨"com/example/ghost_state/ghoststate/ShadowsOfPinLaw", "border", "([CI)I"⟩ : MethodName) method_3_code 2 (some .int) ({ frames := 1, cells := 0, slots := 0, locals := 15 } : Room) [(.ref p), (.int (3 : Int32))] h0 (fun v h => h = h0 ∧ ∃ r : Int32, v = some (.int r) ∧ ((r.toInt = 0 ∧ ¬ (c0.toInt = c2.toInt) ∧ ¬ (c0.toInt = c1.toInt ∧ c1.toInt = c2.toInt)) ∨ (r.toInt = 1 ∧ (c0.toInt = c2.toInt) ∧ ¬ (c0.toInt = c1.toInt ∧ c1.toInt = c2.toInt)) ∨ (r.toInt = 2 ∧ (c0.toInt = c1.toInt ∧ c1.toInt = c2.toInt)))) := by
  refine Ctr.of (L := #[.val (.ref p), .val (.int (3 : Int32))]) pn_10 Z0 (fun m => by first | (simp [entryFrame, mkF, argsToLocals, Value.category]; done) | rfl) ?_
  intro K T S0
  refine px_iloadN S0 d10_0 rfl rfl ?_
  refine px_if0 S0 d10_1 (by decide) (pc' := 6) rfl rfl (fun (hc1 : (3 : Int32).toInt > 0) => ?_) (fun (hc1 : (3 : Int32).toInt ≤ 0) => by exfalso; revert hc1; decide)
  refine px_iconst (v := (4 : Int32)) S0 d10_6 rfl rfl ?_
  refine px_iloadN S0 d10_7 rfl rfl ?_
  refine px_icmp S0 d10_8 (by decide) (pc' := 22) rfl rfl (fun (hc2 : (4 : Int32).toInt ≥ (3 : Int32).toInt) => ?_) (fun (hc2 : (4 : Int32).toInt < (3 : Int32).toInt) => by exfalso; revert hc2; decide)
  refine px_iconst (v := (3 : Int32)) S0 d10_22 rfl rfl ?_
  refine px_iloadN S0 d10_23 rfl rfl ?_
  refine px_icmp S0 d10_24 (by decide) (pc' := 38) rfl rfl (fun (hc3 : (3 : Int32).toInt ≥ (3 : Int32).toInt) => ?_) (fun (hc3 : (3 : Int32).toInt < (3 : Int32).toInt) => by exfalso; revert hc3; decide)
  refine px_iconst (v := (2 : Int32)) S0 d10_38 rfl rfl ?_
  refine px_iloadN S0 d10_39 rfl rfl ?_
  refine px_icmp S0 d10_40 (by decide) (pc' := 54) rfl rfl (fun (hc4 : (2 : Int32).toInt ≥ (3 : Int32).toInt) => by exfalso; revert hc4; decide) (fun (hc4 : (2 : Int32).toInt < (3 : Int32).toInt) => ?_)
  refine px_aloadN S0 d10_43 rfl rfl rfl ?_
  refine px_iconst (v := (2 : Int32)) S0 d10_44 rfl rfl ?_
  refine px_iloadN S0 d10_45 rfl rfl ?_
  refine px_callS (as' := [(.ref p), (.int (2 : Int32)), (.int (3 : Int32))]) (st := []) (W := 0) S0 (c_same_2_3 hw S0.size A0 e_c0 e_c1 e_c2 e_c3 e_c4) (hw _ (List.mem_of_getElem? (i := 61) rfl)) (hw _ (List.mem_of_getElem? (i := 62) rfl)) (hw _ (List.mem_of_getElem? (i := 59) rfl)) (hw _ (List.mem_of_getElem? (i := 63) rfl)) (by decide) pd_10_0 rfl rfl (by decide) rfl (by decide) (by decide) (by decide) d10_46 rfl rfl (fun T5 h5 v5 S5 q5 => ?_)
  obtain ⟨rfl, q5⟩ := q5
  rcases q5 with ⟨k5, rfl⟩ | ⟨k5, rfl⟩
  · show Go _ _ _ _ _ _ _ [(.int (1 : Int32))]
    refine px_if0 S5 d10_49 (by decide) (pc' := 54) rfl rfl (fun (hc6 : (1 : Int32).toInt = 0) => by exfalso; revert hc6; decide) (fun (hc6 : ¬ (1 : Int32).toInt = 0) => ?_)
    refine px_iconst (v := (2 : Int32)) S5 d10_52 rfl rfl ?_
    exact px_retI S5 d10_53 rfl (by decide) (by decide) (⟨rfl, (2 : Int32), rfl, Or.inr (Or.inr (⟨rfl, by omega⟩))⟩)
  · show Go _ _ _ _ _ _ _ [(.int (0 : Int32))]
    refine px_if0 S5 d10_49 (by decide) (pc' := 54) rfl rfl (fun (hc7 : (0 : Int32).toInt = 0) => ?_) (fun (hc7 : ¬ (0 : Int32).toInt = 0) => by exfalso; revert hc7; decide)
    refine px_iconst (v := (1 : Int32)) S5 d10_54 rfl rfl ?_
    refine px_iloadN S5 d10_55 rfl rfl ?_
    refine px_icmp S5 d10_56 (by decide) (pc' := 70) rfl rfl (fun (hc8 : (1 : Int32).toInt ≥ (3 : Int32).toInt) => by exfalso; revert hc8; decide) (fun (hc8 : (1 : Int32).toInt < (3 : Int32).toInt) => ?_)
    refine px_aloadN S5 d10_59 rfl rfl rfl ?_
    refine px_iconst (v := (1 : Int32)) S5 d10_60 rfl rfl ?_
    refine px_iloadN S5 d10_61 rfl rfl ?_
    refine px_callS (as' := [(.ref p), (.int (1 : Int32)), (.int (3 : Int32))]) (st := []) (W := 0) S5 (c_same_1_3 hw S5.size A0 e_c0 e_c1 e_c2 e_c3 e_c4) (hw _ (List.mem_of_getElem? (i := 61) rfl)) (hw _ (List.mem_of_getElem? (i := 62) rfl)) (hw _ (List.mem_of_getElem? (i := 59) rfl)) (hw _ (List.mem_of_getElem? (i := 63) rfl)) (by decide) pd_10_0 rfl rfl (by decide) rfl (by decide) (by decide) (by decide) d10_62 rfl rfl (fun T9 h9 v9 S9 q9 => ?_)
    obtain ⟨rfl, q9⟩ := q9
    rcases q9 with ⟨k9, rfl⟩ | ⟨k9, rfl⟩
    · show Go _ _ _ _ _ _ _ [(.int (1 : Int32))]
      refine px_if0 S9 d10_65 (by decide) (pc' := 70) rfl rfl (fun (hc10 : (1 : Int32).toInt = 0) => by exfalso; revert hc10; decide) (fun (hc10 : ¬ (1 : Int32).toInt = 0) => ?_)
      refine px_iconst (v := (1 : Int32)) S9 d10_68 rfl rfl ?_
      exact px_retI S9 d10_69 rfl (by decide) (by decide) (⟨rfl, (1 : Int32), rfl, Or.inr (Or.inl (⟨rfl, by omega, by omega⟩))⟩)
    · show Go _ _ _ _ _ _ _ [(.int (0 : Int32))]
      refine px_if0 S9 d10_65 (by decide) (pc' := 70) rfl rfl (fun (hc11 : (0 : Int32).toInt = 0) => ?_) (fun (hc11 : ¬ (0 : Int32).toInt = 0) => by exfalso; revert hc11; decide)
      refine px_iconst (v := (0 : Int32)) S9 d10_70 rfl rfl ?_
      exact px_retI S9 d10_71 rfl (by decide) (by decide) (⟨rfl, (0 : Int32), rfl, Or.inl (⟨rfl, by omega, by omega⟩)⟩)
theorem d10_27 : decode method_3_code 27 = .ok (.aload_n 0, 1) := by decide +kernel
theorem d10_28 : decode method_3_code 28 = .ok (.iconst 3, 1) := by decide +kernel
theorem d10_29 : decode method_3_code 29 = .ok (.iload_n 1, 1) := by decide +kernel
theorem d10_30 : decode method_3_code 30 = .ok (.invokestatic 7, 3) := by decide +kernel
theorem d10_33 : decode method_3_code 33 = .ok (.ifCond .eq 5, 3) := by decide +kernel
theorem d10_36 : decode method_3_code 36 = .ok (.iconst 3, 1) := by decide +kernel
theorem d10_37 : decode method_3_code 37 = .ok (.ireturn, 1) := by decide +kernel
set_option maxRecDepth 65536 in
set_option maxHeartbeats 40000000 in
theorem c_border_4 {Z : State} {a0 : Array Value} (hw : ∀ d ∈ tables_1, d.before a0 Z = true) {p : Addr} {c0 c1 c2 c3 c4 : Int32} {f : Nat → Int32} {h0 : Heap} {n0 : Nat} (Z0 : n0 ≤ h0.size) (A0 : AI Z h0 p .char 5 f) (e_c0 : f 0 = c0) (e_c1 : f 1 = c1) (e_c2 : f 2 = c2) (e_c3 : f 3 = c3) (e_c4 : f 4 = c4) :
    Ctr Z n0 (⟨"com/example/ghost_state/ghoststate/ShadowsOfPinLaw", "border", "([CI)I"⟩ : MethodName) method_3_code 2 (some .int) ({ frames := 1, cells := 0, slots := 0, locals := 15 } : Room) [(.ref p), (.int (4 : Int32))] h0 (fun v h => h = h0 ∧ ∃ r : Int32, v = some (.int r) ∧ ((r.toInt = 0 ∧ ¬ (c0.toInt = c3.toInt) ∧ ¬ (c0.toInt = c2.toInt ∧ c1.toInt = c3.toInt) ∧ ¬ (c0.toInt = c1.toInt ∧ c1.toInt = c2.toInt ∧ c2.toInt = c3.toInt)) ∨ (r.toInt = 1 ∧ (c0.toInt = c3.toInt) ∧ ¬ (c0.toInt = c2.toInt ∧ c1.toInt = c3.toInt) ∧ ¬ (c0.toInt = c1.toInt ∧ c1.toInt = c2.toInt ∧ c2.toInt = c3.toInt)) ∨ (r.toInt = 2 ∧ (c0.toInt = c2.toInt ∧ c1.toInt = c3.toInt) ∧ ¬ (c0.toInt = c1.toInt ∧ c1.toInt = c2.toInt ∧ c2.toInt = c3.toInt)) ∨ (r.toInt = 3 ∧ (c0.toInt = c1.toInt ∧ c1.toInt = c2.toInt ∧ c2.toInt = c3.toInt)))) := by
  refine Ctr.of (L := #[.val (.ref p), .val (.int (4 : Int32))]) pn_10 Z0 (fun m => by first | (simp [entryFrame, mkF, argsToLocals, Value.category]; done) | rfl) ?_
  intro K T S0
  refine px_iloadN S0 d10_0 rfl rfl ?_
  refine px_if0 S0 d10_1 (by decide) (pc' := 6) rfl rfl (fun (hc1 : (4 : Int32).toInt > 0) => ?_) (fun (hc1 : (4 : Int32).toInt ≤ 0) => by exfalso; revert hc1; decide)
  refine px_iconst (v := (4 : Int32)) S0 d10_6 rfl rfl ?_
  refine px_iloadN S0 d10_7 rfl rfl ?_
  refine px_icmp S0 d10_8 (by decide) (pc' := 22) rfl rfl (fun (hc2 : (4 : Int32).toInt ≥ (4 : Int32).toInt) => ?_) (fun (hc2 : (4 : Int32).toInt < (4 : Int32).toInt) => by exfalso; revert hc2; decide)
  refine px_iconst (v := (3 : Int32)) S0 d10_22 rfl rfl ?_
  refine px_iloadN S0 d10_23 rfl rfl ?_
  refine px_icmp S0 d10_24 (by decide) (pc' := 38) rfl rfl (fun (hc3 : (3 : Int32).toInt ≥ (4 : Int32).toInt) => by exfalso; revert hc3; decide) (fun (hc3 : (3 : Int32).toInt < (4 : Int32).toInt) => ?_)
  refine px_aloadN S0 d10_27 rfl rfl rfl ?_
  refine px_iconst (v := (3 : Int32)) S0 d10_28 rfl rfl ?_
  refine px_iloadN S0 d10_29 rfl rfl ?_
  refine px_callS (as' := [(.ref p), (.int (3 : Int32)), (.int (4 : Int32))]) (st := []) (W := 0) S0 (c_same_3_4 hw S0.size A0 e_c0 e_c1 e_c2 e_c3 e_c4) (hw _ (List.mem_of_getElem? (i := 61) rfl)) (hw _ (List.mem_of_getElem? (i := 62) rfl)) (hw _ (List.mem_of_getElem? (i := 59) rfl)) (hw _ (List.mem_of_getElem? (i := 63) rfl)) (by decide) pd_10_0 rfl rfl (by decide) rfl (by decide) (by decide) (by decide) d10_30 rfl rfl (fun T4 h4 v4 S4 q4 => ?_)
  obtain ⟨rfl, q4⟩ := q4
  rcases q4 with ⟨k4, rfl⟩ | ⟨k4, rfl⟩
  · show Go _ _ _ _ _ _ _ [(.int (1 : Int32))]
    refine px_if0 S4 d10_33 (by decide) (pc' := 38) rfl rfl (fun (hc5 : (1 : Int32).toInt = 0) => by exfalso; revert hc5; decide) (fun (hc5 : ¬ (1 : Int32).toInt = 0) => ?_)
    refine px_iconst (v := (3 : Int32)) S4 d10_36 rfl rfl ?_
    exact px_retI S4 d10_37 rfl (by decide) (by decide) (⟨rfl, (3 : Int32), rfl, Or.inr (Or.inr (Or.inr (⟨rfl, by omega⟩)))⟩)
  · show Go _ _ _ _ _ _ _ [(.int (0 : Int32))]
    refine px_if0 S4 d10_33 (by decide) (pc' := 38) rfl rfl (fun (hc6 : (0 : Int32).toInt = 0) => ?_) (fun (hc6 : ¬ (0 : Int32).toInt = 0) => by exfalso; revert hc6; decide)
    refine px_iconst (v := (2 : Int32)) S4 d10_38 rfl rfl ?_
    refine px_iloadN S4 d10_39 rfl rfl ?_
    refine px_icmp S4 d10_40 (by decide) (pc' := 54) rfl rfl (fun (hc7 : (2 : Int32).toInt ≥ (4 : Int32).toInt) => by exfalso; revert hc7; decide) (fun (hc7 : (2 : Int32).toInt < (4 : Int32).toInt) => ?_)
    refine px_aloadN S4 d10_43 rfl rfl rfl ?_
    refine px_iconst (v := (2 : Int32)) S4 d10_44 rfl rfl ?_
    refine px_iloadN S4 d10_45 rfl rfl ?_
    refine px_callS (as' := [(.ref p), (.int (2 : Int32)), (.int (4 : Int32))]) (st := []) (W := 0) S4 (c_same_2_4 hw S4.size A0 e_c0 e_c1 e_c2 e_c3 e_c4) (hw _ (List.mem_of_getElem? (i := 61) rfl)) (hw _ (List.mem_of_getElem? (i := 62) rfl)) (hw _ (List.mem_of_getElem? (i := 59) rfl)) (hw _ (List.mem_of_getElem? (i := 63) rfl)) (by decide) pd_10_0 rfl rfl (by decide) rfl (by decide) (by decide) (by decide) d10_46 rfl rfl (fun T8 h8 v8 S8 q8 => ?_)
    obtain ⟨rfl, q8⟩ := q8
    rcases q8 with ⟨k8, rfl⟩ | ⟨k8, rfl⟩
    · show Go _ _ _ _ _ _ _ [(.int (1 : Int32))]
      refine px_if0 S8 d10_49 (by decide) (pc' := 54) rfl rfl (fun (hc9 : (1 : Int32).toInt = 0) => by exfalso; revert hc9; decide) (fun (hc9 : ¬ (1 : Int32).toInt = 0) => ?_)
      refine px_iconst (v := (2 : Int32)) S8 d10_52 rfl rfl ?_
      exact px_retI S8 d10_53 rfl (by decide) (by decide) (⟨rfl, (2 : Int32), rfl, Or.inr (Or.inr (Or.inl (⟨rfl, by omega, by omega⟩)))⟩)
    · show Go _ _ _ _ _ _ _ [(.int (0 : Int32))]
      refine px_if0 S8 d10_49 (by decide) (pc' := 54) rfl rfl (fun (hc10 : (0 : Int32).toInt = 0) => ?_) (fun (hc10 : ¬ (0 : Int32).toInt = 0) => by exfalso; revert hc10; decide)
      refine px_iconst (v := (1 : Int32)) S8 d10_54 rfl rfl ?_
      refine px_iloadN S8 d10_55 rfl rfl ?_
      refine px_icmp S8 d10_56 (by decide) (pc' := 70) rfl rfl (fun (hc11 : (1 : Int32).toInt ≥ (4 : Int32).toInt) => by exfalso; revert hc11; decide) (fun (hc11 : (1 : Int32).toInt < (4 : Int32).toInt) => ?_)
      refine px_aloadN S8 d10_59 rfl rfl rfl ?_
      refine px_iconst (v := (1 : Int32)) S8 d10_60 rfl rfl ?_
      refine px_iloadN S8 d10_61 rfl rfl ?_
      refine px_callS (as' := [(.ref p), (.int (1 : Int32)), (.int (4 : Int32))]) (st := []) (W := 0) S8 (c_same_1_4 hw S8.size A0 e_c0 e_c1 e_c2 e_c3 e_c4) (hw _ (List.mem_of_getElem? (i := 61) rfl)) (hw _ (List.mem_of_getElem? (i := 62) rfl)) (hw _ (List.mem_of_getElem? (i := 59) rfl)) (hw _ (List.mem_of_getElem? (i := 63) rfl)) (by decide) pd_10_0 rfl rfl (by decide) rfl (by decide) (by decide) (by decide) d10_62 rfl rfl (fun T12 h12 v12 S12 q12 => ?_)
      obtain ⟨rfl, q12⟩ := q12
      rcases q12 with ⟨k12, rfl⟩ | ⟨k12, rfl⟩
      · show Go _ _ _ _ _ _ _ [(.int (1 : Int32))]
        refine px_if0 S12 d10_65 (by decide) (pc' := 70) rfl rfl (fun (hc13 : (1 : Int32).toInt = 0) => by exfalso; revert hc13; decide) (fun (hc13 : ¬ (1 : Int32).toInt = 0) => ?_)
        refine px_iconst (v := (1 : Int32)) S12 d10_68 rfl rfl ?_
        exact px_retI S12 d10_69 rfl (by decide) (by decide) (⟨rfl, (1 : Int32), rfl, Or.inr (Or.inl (⟨rfl, by omega, by omega, by omega⟩))⟩)
      · show Go _ _ _ _ _ _ _ [(.int (0 : Int32))]
        refine px_if0 S12 d10_65 (by decide) (pc' := 70) rfl rfl (fun (hc14 : (0 : Int32).toInt = 0) => ?_) (fun (hc14 : ¬ (0 : Int32).toInt = 0) => by exfalso; revert hc14; decide)
        refine px_iconst (v := (0 : Int32)) S12 d10_70 rfl rfl ?_
        exact px_retI S12 d10_71 rfl (by decide) (by decide) (⟨rfl, (0 : Int32), rfl, Or.inl (⟨rfl, by omega, by omega, by omega⟩)⟩)
theorem d10_11 : decode method_3_code 11 = .ok (.aload_n 0, 1) := by decide +kernel
theorem d10_12 : decode method_3_code 12 = .ok (.iconst 4, 1) := by decide +kernel
theorem d10_13 : decode method_3_code 13 = .ok (.iload_n 1, 1) := by decide +kernel
theorem d10_14 : decode method_3_code 14 = .ok (.invokestatic 7, 3) := by decide +kernel
theorem d10_17 : decode method_3_code 17 = .ok (.ifCond .eq 5, 3) := by decide +kernel
theorem d10_20 : decode method_3_code 20 = .ok (.iconst 4, 1) := by decide +kernel
theorem d10_21 : decode method_3_code 21 = .ok (.ireturn, 1) := by decide +kernel
set_option maxRecDepth 65536 in
set_option maxHeartbeats 40000000 in
theorem c_border_5 {Z : State} {a0 : Array Value} (hw : ∀ d ∈ tables_1, d.before a0 Z = true) {p : Addr} {c0 c1 c2 c3 c4 : Int32} {f : Nat → Int32} {h0 : Heap} {n0 : Nat} (Z0 : n0 ≤ h0.size) (A0 : AI Z h0 p .char 5 f) (e_c0 : f 0 = c0) (e_c1 : f 1 = c1) (e_c2 : f 2 = c2) (e_c3 : f 3 = c3) (e_c4 : f 4 = c4) :
    Ctr Z n0 (⟨"com/example/ghost_state/ghoststate/ShadowsOfPinLaw", "border", "([CI)I"⟩ : MethodName) method_3_code 2 (some .int) ({ frames := 1, cells := 0, slots := 0, locals := 15 } : Room) [(.ref p), (.int (5 : Int32))] h0 (fun v h => h = h0 ∧ ∃ r : Int32, v = some (.int r) ∧ ((r.toInt = 0 ∧ ¬ (c0.toInt = c4.toInt) ∧ ¬ (c0.toInt = c3.toInt ∧ c1.toInt = c4.toInt) ∧ ¬ (c0.toInt = c2.toInt ∧ c1.toInt = c3.toInt ∧ c2.toInt = c4.toInt) ∧ ¬ (c0.toInt = c1.toInt ∧ c1.toInt = c2.toInt ∧ c2.toInt = c3.toInt ∧ c3.toInt = c4.toInt)) ∨ (r.toInt = 1 ∧ (c0.toInt = c4.toInt) ∧ ¬ (c0.toInt = c3.toInt ∧ c1.toInt = c4.toInt) ∧ ¬ (c0.toInt = c2.toInt ∧ c1.toInt = c3.toInt ∧ c2.toInt = c4.toInt) ∧ ¬ (c0.toInt = c1.toInt ∧ c1.toInt = c2.toInt ∧ c2.toInt = c3.toInt ∧ c3.toInt = c4.toInt)) ∨ (r.toInt = 2 ∧ (c0.toInt = c3.toInt ∧ c1.toInt = c4.toInt) ∧ ¬ (c0.toInt = c2.toInt ∧ c1.toInt = c3.toInt ∧ c2.toInt = c4.toInt) ∧ ¬ (c0.toInt = c1.toInt ∧ c1.toInt = c2.toInt ∧ c2.toInt = c3.toInt ∧ c3.toInt = c4.toInt)) ∨ (r.toInt = 3 ∧ (c0.toInt = c2.toInt ∧ c1.toInt = c3.toInt ∧ c2.toInt = c4.toInt) ∧ ¬ (c0.toInt = c1.toInt ∧ c1.toInt = c2.toInt ∧ c2.toInt = c3.toInt ∧ c3.toInt = c4.toInt)) ∨ (r.toInt = 4 ∧ (c0.toInt = c1.toInt ∧ c1.toInt = c2.toInt ∧ c2.toInt = c3.toInt ∧ c3.toInt = c4.toInt)))) := by
  refine Ctr.of (L := #[.val (.ref p), .val (.int (5 : Int32))]) pn_10 Z0 (fun m => by first | (simp [entryFrame, mkF, argsToLocals, Value.category]; done) | rfl) ?_
  intro K T S0
  refine px_iloadN S0 d10_0 rfl rfl ?_
  refine px_if0 S0 d10_1 (by decide) (pc' := 6) rfl rfl (fun (hc1 : (5 : Int32).toInt > 0) => ?_) (fun (hc1 : (5 : Int32).toInt ≤ 0) => by exfalso; revert hc1; decide)
  refine px_iconst (v := (4 : Int32)) S0 d10_6 rfl rfl ?_
  refine px_iloadN S0 d10_7 rfl rfl ?_
  refine px_icmp S0 d10_8 (by decide) (pc' := 22) rfl rfl (fun (hc2 : (4 : Int32).toInt ≥ (5 : Int32).toInt) => by exfalso; revert hc2; decide) (fun (hc2 : (4 : Int32).toInt < (5 : Int32).toInt) => ?_)
  refine px_aloadN S0 d10_11 rfl rfl rfl ?_
  refine px_iconst (v := (4 : Int32)) S0 d10_12 rfl rfl ?_
  refine px_iloadN S0 d10_13 rfl rfl ?_
  refine px_callS (as' := [(.ref p), (.int (4 : Int32)), (.int (5 : Int32))]) (st := []) (W := 0) S0 (c_same_4_5 hw S0.size A0 e_c0 e_c1 e_c2 e_c3 e_c4) (hw _ (List.mem_of_getElem? (i := 61) rfl)) (hw _ (List.mem_of_getElem? (i := 62) rfl)) (hw _ (List.mem_of_getElem? (i := 59) rfl)) (hw _ (List.mem_of_getElem? (i := 63) rfl)) (by decide) pd_10_0 rfl rfl (by decide) rfl (by decide) (by decide) (by decide) d10_14 rfl rfl (fun T3 h3 v3 S3 q3 => ?_)
  obtain ⟨rfl, q3⟩ := q3
  rcases q3 with ⟨k3, rfl⟩ | ⟨k3, rfl⟩
  · show Go _ _ _ _ _ _ _ [(.int (1 : Int32))]
    refine px_if0 S3 d10_17 (by decide) (pc' := 22) rfl rfl (fun (hc4 : (1 : Int32).toInt = 0) => by exfalso; revert hc4; decide) (fun (hc4 : ¬ (1 : Int32).toInt = 0) => ?_)
    refine px_iconst (v := (4 : Int32)) S3 d10_20 rfl rfl ?_
    exact px_retI S3 d10_21 rfl (by decide) (by decide) (⟨rfl, (4 : Int32), rfl, Or.inr (Or.inr (Or.inr (Or.inr (⟨rfl, by omega⟩))))⟩)
  · show Go _ _ _ _ _ _ _ [(.int (0 : Int32))]
    refine px_if0 S3 d10_17 (by decide) (pc' := 22) rfl rfl (fun (hc5 : (0 : Int32).toInt = 0) => ?_) (fun (hc5 : ¬ (0 : Int32).toInt = 0) => by exfalso; revert hc5; decide)
    refine px_iconst (v := (3 : Int32)) S3 d10_22 rfl rfl ?_
    refine px_iloadN S3 d10_23 rfl rfl ?_
    refine px_icmp S3 d10_24 (by decide) (pc' := 38) rfl rfl (fun (hc6 : (3 : Int32).toInt ≥ (5 : Int32).toInt) => by exfalso; revert hc6; decide) (fun (hc6 : (3 : Int32).toInt < (5 : Int32).toInt) => ?_)
    refine px_aloadN S3 d10_27 rfl rfl rfl ?_
    refine px_iconst (v := (3 : Int32)) S3 d10_28 rfl rfl ?_
    refine px_iloadN S3 d10_29 rfl rfl ?_
    refine px_callS (as' := [(.ref p), (.int (3 : Int32)), (.int (5 : Int32))]) (st := []) (W := 0) S3 (c_same_3_5 hw S3.size A0 e_c0 e_c1 e_c2 e_c3 e_c4) (hw _ (List.mem_of_getElem? (i := 61) rfl)) (hw _ (List.mem_of_getElem? (i := 62) rfl)) (hw _ (List.mem_of_getElem? (i := 59) rfl)) (hw _ (List.mem_of_getElem? (i := 63) rfl)) (by decide) pd_10_0 rfl rfl (by decide) rfl (by decide) (by decide) (by decide) d10_30 rfl rfl (fun T7 h7 v7 S7 q7 => ?_)
    obtain ⟨rfl, q7⟩ := q7
    rcases q7 with ⟨k7, rfl⟩ | ⟨k7, rfl⟩
    · show Go _ _ _ _ _ _ _ [(.int (1 : Int32))]
      refine px_if0 S7 d10_33 (by decide) (pc' := 38) rfl rfl (fun (hc8 : (1 : Int32).toInt = 0) => by exfalso; revert hc8; decide) (fun (hc8 : ¬ (1 : Int32).toInt = 0) => ?_)
      refine px_iconst (v := (3 : Int32)) S7 d10_36 rfl rfl ?_
      exact px_retI S7 d10_37 rfl (by decide) (by decide) (⟨rfl, (3 : Int32), rfl, Or.inr (Or.inr (Or.inr (Or.inl (⟨rfl, by omega, by omega⟩))))⟩)
    · show Go _ _ _ _ _ _ _ [(.int (0 : Int32))]
      refine px_if0 S7 d10_33 (by decide) (pc' := 38) rfl rfl (fun (hc9 : (0 : Int32).toInt = 0) => ?_) (fun (hc9 : ¬ (0 : Int32).toInt = 0) => by exfalso; revert hc9; decide)
      refine px_iconst (v := (2 : Int32)) S7 d10_38 rfl rfl ?_
      refine px_iloadN S7 d10_39 rfl rfl ?_
      refine px_icmp S7 d10_40 (by decide) (pc' := 54) rfl rfl (fun (hc10 : (2 : Int32).toInt ≥ (5 : Int32).toInt) => by exfalso; revert hc10; decide) (fun (hc10 : (2 : Int32).toInt < (5 : Int32).toInt) => ?_)
      refine px_aloadN S7 d10_43 rfl rfl rfl ?_
      refine px_iconst (v := (2 : Int32)) S7 d10_44 rfl rfl ?_
      refine px_iloadN S7 d10_45 rfl rfl ?_
      refine px_callS (as' := [(.ref p), (.int (2 : Int32)), (.int (5 : Int32))]) (st := []) (W := 0) S7 (c_same_2_5 hw S7.size A0 e_c0 e_c1 e_c2 e_c3 e_c4) (hw _ (List.mem_of_getElem? (i := 61) rfl)) (hw _ (List.mem_of_getElem? (i := 62) rfl)) (hw _ (List.mem_of_getElem? (i := 59) rfl)) (hw _ (List.mem_of_getElem? (i := 63) rfl)) (by decide) pd_10_0 rfl rfl (by decide) rfl (by decide) (by decide) (by decide) d10_46 rfl rfl (fun T11 h11 v11 S11 q11 => ?_)
      obtain ⟨rfl, q11⟩ := q11
      rcases q11 with ⟨k11, rfl⟩ | ⟨k11, rfl⟩
      · show Go _ _ _ _ _ _ _ [(.int (1 : Int32))]
        refine px_if0 S11 d10_49 (by decide) (pc' := 54) rfl rfl (fun (hc12 : (1 : Int32).toInt = 0) => by exfalso; revert hc12; decide) (fun (hc12 : ¬ (1 : Int32).toInt = 0) => ?_)
        refine px_iconst (v := (2 : Int32)) S11 d10_52 rfl rfl ?_
        exact px_retI S11 d10_53 rfl (by decide) (by decide) (⟨rfl, (2 : Int32), rfl, Or.inr (Or.inr (Or.inl (⟨rfl, by omega, by omega, by omega⟩)))⟩)
      · show Go _ _ _ _ _ _ _ [(.int (0 : Int32))]
        refine px_if0 S11 d10_49 (by decide) (pc' := 54) rfl rfl (fun (hc13 : (0 : Int32).toInt = 0) => ?_) (fun (hc13 : ¬ (0 : Int32).toInt = 0) => by exfalso; revert hc13; decide)
        refine px_iconst (v := (1 : Int32)) S11 d10_54 rfl rfl ?_
        refine px_iloadN S11 d10_55 rfl rfl ?_
        refine px_icmp S11 d10_56 (by decide) (pc' := 70) rfl rfl (fun (hc14 : (1 : Int32).toInt ≥ (5 : Int32).toInt) => by exfalso; revert hc14; decide) (fun (hc14 : (1 : Int32).toInt < (5 : Int32).toInt) => ?_)
        refine px_aloadN S11 d10_59 rfl rfl rfl ?_
        refine px_iconst (v := (1 : Int32)) S11 d10_60 rfl rfl ?_
        refine px_iloadN S11 d10_61 rfl rfl ?_
        refine px_callS (as' := [(.ref p), (.int (1 : Int32)), (.int (5 : Int32))]) (st := []) (W := 0) S11 (c_same_1_5 hw S11.size A0 e_c0 e_c1 e_c2 e_c3 e_c4) (hw _ (List.mem_of_getElem? (i := 61) rfl)) (hw _ (List.mem_of_getElem? (i := 62) rfl)) (hw _ (List.mem_of_getElem? (i := 59) rfl)) (hw _ (List.mem_of_getElem? (i := 63) rfl)) (by decide) pd_10_0 rfl rfl (by decide) rfl (by decide) (by decide) (by decide) d10_62 rfl rfl (fun T15 h15 v15 S15 q15 => ?_)
        obtain ⟨rfl, q15⟩ := q15
        rcases q15 with ⟨k15, rfl⟩ | ⟨k15, rfl⟩
        · show Go _ _ _ _ _ _ _ [(.int (1 : Int32))]
          refine px_if0 S15 d10_65 (by decide) (pc' := 70) rfl rfl (fun (hc16 : (1 : Int32).toInt = 0) => by exfalso; revert hc16; decide) (fun (hc16 : ¬ (1 : Int32).toInt = 0) => ?_)
          refine px_iconst (v := (1 : Int32)) S15 d10_68 rfl rfl ?_
          exact px_retI S15 d10_69 rfl (by decide) (by decide) (⟨rfl, (1 : Int32), rfl, Or.inr (Or.inl (⟨rfl, by omega, by omega, by omega, by omega⟩))⟩)
        · show Go _ _ _ _ _ _ _ [(.int (0 : Int32))]
          refine px_if0 S15 d10_65 (by decide) (pc' := 70) rfl rfl (fun (hc17 : (0 : Int32).toInt = 0) => ?_) (fun (hc17 : ¬ (0 : Int32).toInt = 0) => by exfalso; revert hc17; decide)
          refine px_iconst (v := (0 : Int32)) S15 d10_70 rfl rfl ?_
          exact px_retI S15 d10_71 rfl (by decide) (by decide) (⟨rfl, (0 : Int32), rfl, Or.inl (⟨rfl, by omega, by omega, by omega, by omega⟩)⟩)
theorem pd_0_0 : parseMethodDescriptor "([C)[I" = some ⟨[(.array .char)], some (.array .int)⟩ := by decide +kernel
theorem pd_0_1 : parseMethodDescriptor "([CI)I" = some ⟨[(.array .char), .int], some .int⟩ := by decide +kernel
theorem pn_0 : plainFor x = true := plainFor_of_name (by first | (simp [plainName, overriddenIn]; done) | decide +kernel)
set_option maxRecDepth 65536 in
set_option maxHeartbeats 40000000 in
theorem law_ctr {Z : State} {a0 : Array Value} (hw : ∀ d ∈ tables_1, d.before a0 Z = true) (i0 i1 i2 i3 i4 i5 : Int32) {h0 : Heap} {n0 : Nat} (Z0 : n0 ≤ h0.size) :
    Ctr Z n0 x code maxLocals ret room_1 [(.int i0), (.int i1), (.int i2), (.int i3), (.int i4), (.int i5)] h0 (fun v h => v = some (.int 1)) := by
  refine Ctr.of (L := #[.val (.int i0), .val (.int i1), .val (.int i2), .val (.int i3), .val (.int i4), .val (.int i5), .unset, .unset, .unset, .unset, .unset, .unset, .unset, .unset, .unset]) pn_0 Z0 (fun m => by first | (simp [entryFrame, mkF, argsToLocals, Value.category, maxLocals]; done) | rfl) ?_
  intro K T S0
  refine px_iloadN S0 at_0 rfl rfl ?_
  refine px_ldcI S0 (hw _ (List.mem_of_getElem? (i := 0) rfl)) at_1 rfl ?_
  refine px_iand S0 at_3 rfl ?_
  refine px_bipush (v := (6 : Int32)) S0 at_4 rfl rfl ?_
  refine px_irem S0 at_6 rfl (by decide) ?_
  generalize h_v1 : ((i0 &&& (2147483647 : Int32)) % (6 : Int32)) = v1
  refine px_istore S0 at_7 rfl (L' := #[.val (.int i0), .val (.int i1), .val (.int i2), .val (.int i3), .val (.int i4), .val (.int i5), .val (.int v1), .unset, .unset, .unset, .unset, .unset, .unset, .unset, .unset]) rfl ?_
  refine px_iloadN S0 at_9 rfl rfl ?_
  refine px_i2c S0 at_10 rfl ?_
  generalize h_v2 : (i2c i1) = v2
  refine px_istore S0 at_11 rfl (L' := #[.val (.int i0), .val (.int i1), .val (.int i2), .val (.int i3), .val (.int i4), .val (.int i5), .val (.int v1), .val (.int v2), .unset, .unset, .unset, .unset, .unset, .unset, .unset]) rfl ?_
  refine px_iloadN S0 at_13 rfl rfl ?_
  refine px_i2c S0 at_14 rfl ?_
  generalize h_v3 : (i2c i2) = v3
  refine px_istore S0 at_15 rfl (L' := #[.val (.int i0), .val (.int i1), .val (.int i2), .val (.int i3), .val (.int i4), .val (.int i5), .val (.int v1), .val (.int v2), .val (.int v3), .unset, .unset, .unset, .unset, .unset, .unset]) rfl ?_
  refine px_iloadN S0 at_17 rfl rfl ?_
  refine px_i2c S0 at_18 rfl ?_
  generalize h_v4 : (i2c i3) = v4
  refine px_istore S0 at_19 rfl (L' := #[.val (.int i0), .val (.int i1), .val (.int i2), .val (.int i3), .val (.int i4), .val (.int i5), .val (.int v1), .val (.int v2), .val (.int v3), .val (.int v4), .unset, .unset, .unset, .unset, .unset]) rfl ?_
  refine px_iload S0 at_21 rfl rfl ?_
  refine px_i2c S0 at_23 rfl ?_
  generalize h_v5 : (i2c i4) = v5
  refine px_istore S0 at_24 rfl (L' := #[.val (.int i0), .val (.int i1), .val (.int i2), .val (.int i3), .val (.int i4), .val (.int i5), .val (.int v1), .val (.int v2), .val (.int v3), .val (.int v4), .val (.int v5), .unset, .unset, .unset, .unset]) rfl ?_
  refine px_iload S0 at_26 rfl rfl ?_
  refine px_i2c S0 at_28 rfl ?_
  generalize h_v6 : (i2c i5) = v6
  refine px_istore S0 at_29 rfl (L' := #[.val (.int i0), .val (.int i1), .val (.int i2), .val (.int i3), .val (.int i4), .val (.int i5), .val (.int v1), .val (.int v2), .val (.int v3), .val (.int v4), .val (.int v5), .val (.int v6), .unset, .unset, .unset]) rfl ?_
  refine px_iconst (v := (5 : Int32)) S0 at_31 rfl rfl ?_
  refine px_newarr (aty := .char) (cap := 5) S0 (hw _ (List.mem_of_getElem? (i := 1) rfl)) rfl (n := 5) rfl (by decide) (by decide) (by decide) (by decide) at_32 rfl (fun T7 h7 b7 z7 g_b7 S7 E7 A_b7 => ?_)
  refine px_dup S7 at_34 rfl rfl ?_
  refine px_iconst (v := (0 : Int32)) S7 at_35 rfl rfl ?_
  refine px_iload S7 at_36 rfl rfl ?_
  refine px_castore (v := v2) S7 A_b7 g_b7 (i := 0) rfl (by decide) (i2c_nar h_v2) at_38 rfl (fun T8 h8 S8 W8 A_b7 => ?_)
  refine px_dup S8 at_39 rfl rfl ?_
  refine px_iconst (v := (1 : Int32)) S8 at_40 rfl rfl ?_
  refine px_iload S8 at_41 rfl rfl ?_
  refine px_castore (v := v3) S8 A_b7 g_b7 (i := 1) rfl (by decide) (i2c_nar h_v3) at_43 rfl (fun T9 h9 S9 W9 A_b7 => ?_)
  refine px_dup S9 at_44 rfl rfl ?_
  refine px_iconst (v := (2 : Int32)) S9 at_45 rfl rfl ?_
  refine px_iload S9 at_46 rfl rfl ?_
  refine px_castore (v := v4) S9 A_b7 g_b7 (i := 2) rfl (by decide) (i2c_nar h_v4) at_48 rfl (fun T10 h10 S10 W10 A_b7 => ?_)
  refine px_dup S10 at_49 rfl rfl ?_
  refine px_iconst (v := (3 : Int32)) S10 at_50 rfl rfl ?_
  refine px_iload S10 at_51 rfl rfl ?_
  refine px_castore (v := v5) S10 A_b7 g_b7 (i := 3) rfl (by decide) (i2c_nar h_v5) at_53 rfl (fun T11 h11 S11 W11 A_b7 => ?_)
  refine px_dup S11 at_54 rfl rfl ?_
  refine px_iconst (v := (4 : Int32)) S11 at_55 rfl rfl ?_
  refine px_iload S11 at_56 rfl rfl ?_
  refine px_castore (v := v6) S11 A_b7 g_b7 (i := 4) rfl (by decide) (i2c_nar h_v6) at_58 rfl (fun T12 h12 S12 W12 A_b7 => ?_)
  refine px_astore S12 at_59 rfl rfl (L' := #[.val (.int i0), .val (.int i1), .val (.int i2), .val (.int i3), .val (.int i4), .val (.int i5), .val (.int v1), .val (.int v2), .val (.int v3), .val (.int v4), .val (.int v5), .val (.int v6), .val (.ref b7), .unset, .unset]) rfl ?_
  rcases (show v1.toInt = 0 ∨ v1.toInt = 1 ∨ v1.toInt = 2 ∨ v1.toInt = 3 ∨ v1.toInt = 4 ∨ v1.toInt = 5 from by have q0 := rng32 v1; have q1 := congrArg Int32.toInt h_v1; have q2 := f_irem (i0 &&& (2147483647 : Int32)) (6 : Int32) 6 rfl; have q3 := rng32 ((i0 &&& (2147483647 : Int32)) % (6 : Int32)); have q4 := f_imask i0 (2147483647 : Int32) 31 2147483648 (by decide) (by decide) (by decide); have q5 := rng32 i0; have q6 := (show (2147483647 : Int32).toInt = 2147483647 from rfl); have q7 := (show (6 : Int32).toInt = 6 from rfl); omega) with e13 | e13 | e13 | e13 | e13 | e13
  · obtain rfl : v1 = (0 : Int32) := i32_of e13 rfl
    refine px_iload S12 at_61 rfl rfl ?_
    refine px_if0 S12 at_63 (by decide) (pc' := 74) rfl rfl (fun (hc14 : ¬ (0 : Int32).toInt = 0) => by exfalso; revert hc14; decide) (fun (hc14 : (0 : Int32).toInt = 0) => ?_)
    refine px_iconst (v := (0 : Int32)) S12 at_66 rfl rfl ?_
    refine px_newarr (aty := .char) (cap := 0) S12 (hw _ (List.mem_of_getElem? (i := 1) rfl)) rfl (n := 0) rfl (by decide) (by decide) (by decide) (by decide) at_67 rfl (fun T15 h15 b15 z15 g_b15 S15 E15 A_b15 => ?_)
    have ne_b7_b15 : b7 ≠ b15 := ne_new z15 A_b7.lt
    replace A_b7 := A_b7.ext E15
    refine px_astore S15 at_69 rfl rfl (L' := #[.val (.int i0), .val (.int i1), .val (.int i2), .val (.int i3), .val (.int i4), .val (.int i5), .val (.int (0 : Int32)), .val (.int v2), .val (.int v3), .val (.int v4), .val (.int v5), .val (.int v6), .val (.ref b7), .val (.ref b15), .unset]) rfl ?_
    refine px_goto S15 at_71 (by decide) (pc' := 210) rfl ?_
    refine px_aload S15 at_210 rfl rfl rfl ?_
    refine px_callS (as' := [(.ref b15)]) (st := []) (W := 0) S15 (c_of0 (dummy := 0) hw S15.size A_b15) (hw _ (List.mem_of_getElem? (i := 2) rfl)) (hw _ (List.mem_of_getElem? (i := 3) rfl)) (hw _ (List.mem_of_getElem? (i := 4) rfl)) (hw _ (List.mem_of_getElem? (i := 5) rfl)) (by decide) pd_0_0 rfl rfl (by decide) rfl (by decide) (by decide) (by decide) at_212 rfl rfl (fun T16 h16 v16 S16 q16 => ?_)
    obtain ⟨bs, s0, rfl, g_bs, K16, A_bs, s_m1, _⟩ := q16
    replace A_b7 := A_b7.keep K16 nin0
    replace A_b15 := A_b15.keep K16 nin0
    show Go _ _ _ _ _ _ _ [(.ref bs)]
    refine px_astore S16 at_215 rfl rfl (L' := #[.val (.int i0), .val (.int i1), .val (.int i2), .val (.int i3), .val (.int i4), .val (.int i5), .val (.int (0 : Int32)), .val (.int v2), .val (.int v3), .val (.int v4), .val (.int v5), .val (.int v6), .val (.ref b7), .val (.ref b15), .val (.ref bs)]) rfl ?_
    refine px_aload S16 at_217 rfl rfl rfl ?_
    refine px_ifnull S16 at_219 rfl ?_
    refine px_aload S16 at_222 rfl rfl rfl ?_
    refine px_alenI (v := (1 : Int32)) S16 A_bs rfl at_224 rfl ?_
    refine px_iload S16 at_225 rfl rfl ?_
    refine px_iconst (v := (1 : Int32)) S16 at_227 rfl rfl ?_
    refine px_iadd S16 at_228 rfl ?_
    rw [show ((0 : Int32) + (1 : Int32)) = (1 : Int32) from by decide]
    refine px_icmp S16 at_229 (by decide) (pc' := 234) rfl rfl (fun (hc17 : (1 : Int32).toInt = (1 : Int32).toInt) => ?_) (fun (hc17 : ¬ (1 : Int32).toInt = (1 : Int32).toInt) => absurd rfl hc17)
    refine px_aload S16 at_234 rfl rfl rfl ?_
    refine px_iconst (v := (0 : Int32)) S16 at_236 rfl rfl ?_
    refine px_iaload (v := s0) S16 A_bs (i := 0) rfl (by decide) rfl at_237 rfl ?_
    refine px_iconst (v := (-1 : Int32)) S16 at_238 rfl rfl ?_
    refine px_icmp S16 at_239 (by decide) (pc' := 244) rfl rfl (fun (hc18 : s0.toInt = (-1 : Int32).toInt) => ?_) (fun (hc18 : ¬ s0.toInt = (-1 : Int32).toInt) => by exfalso; have q0 := rng32 s0; have q1 := (show (-1 : Int32).toInt = -1 from rfl); omega)
    refine px_iload S16 at_244 rfl rfl ?_
    refine px_iconst (v := (1 : Int32)) S16 at_246 rfl rfl ?_
    refine px_icmp S16 at_247 (by decide) (pc' := 265) rfl rfl (fun (hc19 : (0 : Int32).toInt < (1 : Int32).toInt) => ?_) (fun (hc19 : (0 : Int32).toInt ≥ (1 : Int32).toInt) => by exfalso; revert hc19; decide)
    refine px_iload S16 at_265 rfl rfl ?_
    refine px_iconst (v := (2 : Int32)) S16 at_267 rfl rfl ?_
    refine px_icmp S16 at_268 (by decide) (pc' := 286) rfl rfl (fun (hc20 : (0 : Int32).toInt < (2 : Int32).toInt) => ?_) (fun (hc20 : (0 : Int32).toInt ≥ (2 : Int32).toInt) => by exfalso; revert hc20; decide)
    refine px_iload S16 at_286 rfl rfl ?_
    refine px_iconst (v := (3 : Int32)) S16 at_288 rfl rfl ?_
    refine px_icmp S16 at_289 (by decide) (pc' := 307) rfl rfl (fun (hc21 : (0 : Int32).toInt < (3 : Int32).toInt) => ?_) (fun (hc21 : (0 : Int32).toInt ≥ (3 : Int32).toInt) => by exfalso; revert hc21; decide)
    refine px_iload S16 at_307 rfl rfl ?_
    refine px_iconst (v := (4 : Int32)) S16 at_309 rfl rfl ?_
    refine px_icmp S16 at_310 (by decide) (pc' := 328) rfl rfl (fun (hc22 : (0 : Int32).toInt < (4 : Int32).toInt) => ?_) (fun (hc22 : (0 : Int32).toInt ≥ (4 : Int32).toInt) => by exfalso; revert hc22; decide)
    refine px_iload S16 at_328 rfl rfl ?_
    refine px_iconst (v := (5 : Int32)) S16 at_330 rfl rfl ?_
    refine px_icmp S16 at_331 (by decide) (pc' := 349) rfl rfl (fun (hc23 : (0 : Int32).toInt < (5 : Int32).toInt) => ?_) (fun (hc23 : (0 : Int32).toInt ≥ (5 : Int32).toInt) => by exfalso; revert hc23; decide)
    refine px_aload S16 at_349 rfl rfl rfl ?_
    refine px_alenI (v := (0 : Int32)) S16 A_b15 rfl at_351 rfl ?_
    refine px_iload S16 at_352 rfl rfl ?_
    refine px_icmp S16 at_354 (by decide) (pc' := 359) rfl rfl (fun (hc24 : (0 : Int32).toInt = (0 : Int32).toInt) => ?_) (fun (hc24 : ¬ (0 : Int32).toInt = (0 : Int32).toInt) => absurd rfl hc24)
    refine px_iload S16 at_359 rfl rfl ?_
    refine px_iconst (v := (1 : Int32)) S16 at_361 rfl rfl ?_
    refine px_icmp S16 at_362 (by decide) (pc' := 376) rfl rfl (fun (hc25 : (0 : Int32).toInt < (1 : Int32).toInt) => ?_) (fun (hc25 : (0 : Int32).toInt ≥ (1 : Int32).toInt) => by exfalso; revert hc25; decide)
    refine px_iload S16 at_376 rfl rfl ?_
    refine px_iconst (v := (5 : Int32)) S16 at_378 rfl rfl ?_
    refine px_icmp S16 at_379 (by decide) (pc' := 393) rfl rfl (fun (hc26 : (0 : Int32).toInt < (5 : Int32).toInt) => ?_) (fun (hc26 : (0 : Int32).toInt ≥ (5 : Int32).toInt) => by exfalso; revert hc26; decide)
    refine px_iconst (v := (1 : Int32)) S16 at_393 rfl rfl ?_
    exact px_retN (t := .boolean) (z' := (1 : Int32)) S16 at_394 rfl (by simp) rfl (by decide) (by decide) (rfl)
  · obtain rfl : v1 = (1 : Int32) := i32_of e13 rfl
    refine px_iload S12 at_61 rfl rfl ?_
    refine px_if0 S12 at_63 (by decide) (pc' := 74) rfl rfl (fun (hc27 : ¬ (1 : Int32).toInt = 0) => ?_) (fun (hc27 : (1 : Int32).toInt = 0) => by exfalso; revert hc27; decide)
    refine px_iload S12 at_74 rfl rfl ?_
    refine px_iconst (v := (1 : Int32)) S12 at_76 rfl rfl ?_
    refine px_icmp S12 at_77 (by decide) (pc' := 93) rfl rfl (fun (hc28 : ¬ (1 : Int32).toInt = (1 : Int32).toInt) => absurd rfl hc28) (fun (hc28 : (1 : Int32).toInt = (1 : Int32).toInt) => ?_)
    refine px_iconst (v := (1 : Int32)) S12 at_80 rfl rfl ?_
    refine px_newarr (aty := .char) (cap := 1) S12 (hw _ (List.mem_of_getElem? (i := 1) rfl)) rfl (n := 1) rfl (by decide) (by decide) (by decide) (by decide) at_81 rfl (fun T29 h29 b29 z29 g_b29 S29 E29 A_b29 => ?_)
    have ne_b7_b29 : b7 ≠ b29 := ne_new z29 A_b7.lt
    replace A_b7 := A_b7.ext E29
    refine px_dup S29 at_83 rfl rfl ?_
    refine px_iconst (v := (0 : Int32)) S29 at_84 rfl rfl ?_
    refine px_iload S29 at_85 rfl rfl ?_
    refine px_castore (v := v2) S29 A_b29 g_b29 (i := 0) rfl (by decide) (i2c_nar h_v2) at_87 rfl (fun T30 h30 S30 W30 A_b29 => ?_)
    replace A_b7 := A_b7.other W30 ne_b7_b29
    refine px_astore S30 at_88 rfl rfl (L' := #[.val (.int i0), .val (.int i1), .val (.int i2), .val (.int i3), .val (.int i4), .val (.int i5), .val (.int (1 : Int32)), .val (.int v2), .val (.int v3), .val (.int v4), .val (.int v5), .val (.int v6), .val (.ref b7), .val (.ref b29), .unset]) rfl ?_
    refine px_goto S30 at_90 (by decide) (pc' := 210) rfl ?_
    refine px_aload S30 at_210 rfl rfl rfl ?_
    refine px_callS (as' := [(.ref b29)]) (st := []) (W := 0) S30 (c_of1 (c0 := v2) hw S30.size A_b29 rfl (i2c_nar h_v2)) (hw _ (List.mem_of_getElem? (i := 2) rfl)) (hw _ (List.mem_of_getElem? (i := 3) rfl)) (hw _ (List.mem_of_getElem? (i := 4) rfl)) (hw _ (List.mem_of_getElem? (i := 5) rfl)) (by decide) pd_0_0 rfl rfl (by decide) rfl (by decide) (by decide) (by decide) at_212 rfl rfl (fun T31 h31 v31 S31 q31 => ?_)
    obtain ⟨bs, s0, s1, rfl, g_bs, K31, A_bs, s_m1, sp1⟩ := q31
    replace A_b7 := A_b7.keep K31 nin0
    replace A_b29 := A_b29.keep K31 nin0
    show Go _ _ _ _ _ _ _ [(.ref bs)]
    refine px_astore S31 at_215 rfl rfl (L' := #[.val (.int i0), .val (.int i1), .val (.int i2), .val (.int i3), .val (.int i4), .val (.int i5), .val (.int (1 : Int32)), .val (.int v2), .val (.int v3), .val (.int v4), .val (.int v5), .val (.int v6), .val (.ref b7), .val (.ref b29), .val (.ref bs)]) rfl ?_
    refine px_aload S31 at_217 rfl rfl rfl ?_
    refine px_ifnull S31 at_219 rfl ?_
    refine px_aload S31 at_222 rfl rfl rfl ?_
    refine px_alenI (v := (2 : Int32)) S31 A_bs rfl at_224 rfl ?_
    refine px_iload S31 at_225 rfl rfl ?_
    refine px_iconst (v := (1 : Int32)) S31 at_227 rfl rfl ?_
    refine px_iadd S31 at_228 rfl ?_
    rw [show ((1 : Int32) + (1 : Int32)) = (2 : Int32) from by decide]
    refine px_icmp S31 at_229 (by decide) (pc' := 234) rfl rfl (fun (hc32 : (2 : Int32).toInt = (2 : Int32).toInt) => ?_) (fun (hc32 : ¬ (2 : Int32).toInt = (2 : Int32).toInt) => absurd rfl hc32)
    refine px_aload S31 at_234 rfl rfl rfl ?_
    refine px_iconst (v := (0 : Int32)) S31 at_236 rfl rfl ?_
    refine px_iaload (v := s0) S31 A_bs (i := 0) rfl (by decide) rfl at_237 rfl ?_
    refine px_iconst (v := (-1 : Int32)) S31 at_238 rfl rfl ?_
    refine px_icmp S31 at_239 (by decide) (pc' := 244) rfl rfl (fun (hc33 : s0.toInt = (-1 : Int32).toInt) => ?_) (fun (hc33 : ¬ s0.toInt = (-1 : Int32).toInt) => by exfalso; have q0 := rng32 s0; have q1 := (show (-1 : Int32).toInt = -1 from rfl); omega)
    refine px_iload S31 at_244 rfl rfl ?_
    refine px_iconst (v := (1 : Int32)) S31 at_246 rfl rfl ?_
    refine px_icmp S31 at_247 (by decide) (pc' := 265) rfl rfl (fun (hc34 : (1 : Int32).toInt < (1 : Int32).toInt) => by exfalso; revert hc34; decide) (fun (hc34 : (1 : Int32).toInt ≥ (1 : Int32).toInt) => ?_)
    refine px_aload S31 at_250 rfl rfl rfl ?_
    refine px_iconst (v := (1 : Int32)) S31 at_252 rfl rfl ?_
    refine px_iaload (v := s1) S31 A_bs (i := 1) rfl (by decide) rfl at_253 rfl ?_
    refine px_aload S31 at_254 rfl rfl rfl ?_
    refine px_iconst (v := (1 : Int32)) S31 at_256 rfl rfl ?_
    refine px_callS (as' := [(.ref b7), (.int (1 : Int32))]) (st := [(.int s1)]) (W := 1) S31 (c_border_1 (c0 := v2) (c1 := v3) (c2 := v4) (c3 := v5) (c4 := v6) hw S31.size A_b7 rfl rfl rfl rfl rfl) (hw _ (List.mem_of_getElem? (i := 57) rfl)) (hw _ (List.mem_of_getElem? (i := 58) rfl)) (hw _ (List.mem_of_getElem? (i := 59) rfl)) (hw _ (List.mem_of_getElem? (i := 60) rfl)) (by decide) pd_0_1 rfl rfl (by decide) rfl (by decide) (by decide) (by decide) at_257 rfl rfl (fun T35 h35 v35 S35 q35 => ?_)
    obtain ⟨rfl, r1, rfl, rp1⟩ := q35
    show Go _ _ _ _ _ _ _ [(.int r1), (.int s1)]
    have eq1 := buniq1 sp1 rp1
    clear rp1
    refine px_icmp S35 at_260 (by decide) (pc' := 265) rfl rfl (fun (hc36 : s1.toInt = r1.toInt) => ?_) (fun (hc36 : ¬ s1.toInt = r1.toInt) => by exfalso; exact absurd eq1 hc36)
    refine px_iload S35 at_265 rfl rfl ?_
    refine px_iconst (v := (2 : Int32)) S35 at_267 rfl rfl ?_
    refine px_icmp S35 at_268 (by decide) (pc' := 286) rfl rfl (fun (hc37 : (1 : Int32).toInt < (2 : Int32).toInt) => ?_) (fun (hc37 : (1 : Int32).toInt ≥ (2 : Int32).toInt) => by exfalso; revert hc37; decide)
    refine px_iload S35 at_286 rfl rfl ?_
    refine px_iconst (v := (3 : Int32)) S35 at_288 rfl rfl ?_
    refine px_icmp S35 at_289 (by decide) (pc' := 307) rfl rfl (fun (hc38 : (1 : Int32).toInt < (3 : Int32).toInt) => ?_) (fun (hc38 : (1 : Int32).toInt ≥ (3 : Int32).toInt) => by exfalso; revert hc38; decide)
    refine px_iload S35 at_307 rfl rfl ?_
    refine px_iconst (v := (4 : Int32)) S35 at_309 rfl rfl ?_
    refine px_icmp S35 at_310 (by decide) (pc' := 328) rfl rfl (fun (hc39 : (1 : Int32).toInt < (4 : Int32).toInt) => ?_) (fun (hc39 : (1 : Int32).toInt ≥ (4 : Int32).toInt) => by exfalso; revert hc39; decide)
    refine px_iload S35 at_328 rfl rfl ?_
    refine px_iconst (v := (5 : Int32)) S35 at_330 rfl rfl ?_
    refine px_icmp S35 at_331 (by decide) (pc' := 349) rfl rfl (fun (hc40 : (1 : Int32).toInt < (5 : Int32).toInt) => ?_) (fun (hc40 : (1 : Int32).toInt ≥ (5 : Int32).toInt) => by exfalso; revert hc40; decide)
    refine px_aload S35 at_349 rfl rfl rfl ?_
    refine px_alenI (v := (1 : Int32)) S35 A_b29 rfl at_351 rfl ?_
    refine px_iload S35 at_352 rfl rfl ?_
    refine px_icmp S35 at_354 (by decide) (pc' := 359) rfl rfl (fun (hc41 : (1 : Int32).toInt = (1 : Int32).toInt) => ?_) (fun (hc41 : ¬ (1 : Int32).toInt = (1 : Int32).toInt) => absurd rfl hc41)
    refine px_iload S35 at_359 rfl rfl ?_
    refine px_iconst (v := (1 : Int32)) S35 at_361 rfl rfl ?_
    refine px_icmp S35 at_362 (by decide) (pc' := 376) rfl rfl (fun (hc42 : (1 : Int32).toInt < (1 : Int32).toInt) => by exfalso; revert hc42; decide) (fun (hc42 : (1 : Int32).toInt ≥ (1 : Int32).toInt) => ?_)
    refine px_aload S35 at_365 rfl rfl rfl ?_
    refine px_iconst (v := (0 : Int32)) S35 at_367 rfl rfl ?_
    refine px_caload (v := v2) S35 A_b29 (i := 0) rfl (by decide) rfl at_368 rfl ?_
    refine px_iload S35 at_369 rfl rfl ?_
    refine px_icmp S35 at_371 (by decide) (pc' := 376) rfl rfl (fun (hc43 : v2.toInt = v2.toInt) => ?_) (fun (hc43 : ¬ v2.toInt = v2.toInt) => absurd rfl hc43)
    refine px_iload S35 at_376 rfl rfl ?_
    refine px_iconst (v := (5 : Int32)) S35 at_378 rfl rfl ?_
    refine px_icmp S35 at_379 (by decide) (pc' := 393) rfl rfl (fun (hc44 : (1 : Int32).toInt < (5 : Int32).toInt) => ?_) (fun (hc44 : (1 : Int32).toInt ≥ (5 : Int32).toInt) => by exfalso; revert hc44; decide)
    refine px_iconst (v := (1 : Int32)) S35 at_393 rfl rfl ?_
    exact px_retN (t := .boolean) (z' := (1 : Int32)) S35 at_394 rfl (by simp) rfl (by decide) (by decide) (rfl)
  · obtain rfl : v1 = (2 : Int32) := i32_of e13 rfl
    refine px_iload S12 at_61 rfl rfl ?_
    refine px_if0 S12 at_63 (by decide) (pc' := 74) rfl rfl (fun (hc45 : ¬ (2 : Int32).toInt = 0) => ?_) (fun (hc45 : (2 : Int32).toInt = 0) => by exfalso; revert hc45; decide)
    refine px_iload S12 at_74 rfl rfl ?_
    refine px_iconst (v := (1 : Int32)) S12 at_76 rfl rfl ?_
    refine px_icmp S12 at_77 (by decide) (pc' := 93) rfl rfl (fun (hc46 : ¬ (2 : Int32).toInt = (1 : Int32).toInt) => ?_) (fun (hc46 : (2 : Int32).toInt = (1 : Int32).toInt) => by exfalso; revert hc46; decide)
    refine px_iload S12 at_93 rfl rfl ?_
    refine px_iconst (v := (2 : Int32)) S12 at_95 rfl rfl ?_
    refine px_icmp S12 at_96 (by decide) (pc' := 117) rfl rfl (fun (hc47 : ¬ (2 : Int32).toInt = (2 : Int32).toInt) => absurd rfl hc47) (fun (hc47 : (2 : Int32).toInt = (2 : Int32).toInt) => ?_)
    refine px_iconst (v := (2 : Int32)) S12 at_99 rfl rfl ?_
    refine px_newarr (aty := .char) (cap := 2) S12 (hw _ (List.mem_of_getElem? (i := 1) rfl)) rfl (n := 2) rfl (by decide) (by decide) (by decide) (by decide) at_100 rfl (fun T48 h48 b48 z48 g_b48 S48 E48 A_b48 => ?_)
    have ne_b7_b48 : b7 ≠ b48 := ne_new z48 A_b7.lt
    replace A_b7 := A_b7.ext E48
    refine px_dup S48 at_102 rfl rfl ?_
    refine px_iconst (v := (0 : Int32)) S48 at_103 rfl rfl ?_
    refine px_iload S48 at_104 rfl rfl ?_
    refine px_castore (v := v2) S48 A_b48 g_b48 (i := 0) rfl (by decide) (i2c_nar h_v2) at_106 rfl (fun T49 h49 S49 W49 A_b48 => ?_)
    replace A_b7 := A_b7.other W49 ne_b7_b48
    refine px_dup S49 at_107 rfl rfl ?_
    refine px_iconst (v := (1 : Int32)) S49 at_108 rfl rfl ?_
    refine px_iload S49 at_109 rfl rfl ?_
    refine px_castore (v := v3) S49 A_b48 g_b48 (i := 1) rfl (by decide) (i2c_nar h_v3) at_111 rfl (fun T50 h50 S50 W50 A_b48 => ?_)
    replace A_b7 := A_b7.other W50 ne_b7_b48
    refine px_astore S50 at_112 rfl rfl (L' := #[.val (.int i0), .val (.int i1), .val (.int i2), .val (.int i3), .val (.int i4), .val (.int i5), .val (.int (2 : Int32)), .val (.int v2), .val (.int v3), .val (.int v4), .val (.int v5), .val (.int v6), .val (.ref b7), .val (.ref b48), .unset]) rfl ?_
    refine px_goto S50 at_114 (by decide) (pc' := 210) rfl ?_
    refine px_aload S50 at_210 rfl rfl rfl ?_
    refine px_callS (as' := [(.ref b48)]) (st := []) (W := 0) S50 (c_of2 (c0 := v2) (c1 := v3) hw S50.size A_b48 rfl rfl (i2c_nar h_v2) (i2c_nar h_v3)) (hw _ (List.mem_of_getElem? (i := 2) rfl)) (hw _ (List.mem_of_getElem? (i := 3) rfl)) (hw _ (List.mem_of_getElem? (i := 4) rfl)) (hw _ (List.mem_of_getElem? (i := 5) rfl)) (by decide) pd_0_0 rfl rfl (by decide) rfl (by decide) (by decide) (by decide) at_212 rfl rfl (fun T51 h51 v51 S51 q51 => ?_)
    obtain ⟨bs, s0, s1, s2, rfl, g_bs, K51, A_bs, s_m1, sp1, sp2⟩ := q51
    replace A_b7 := A_b7.keep K51 nin0
    replace A_b48 := A_b48.keep K51 nin0
    show Go _ _ _ _ _ _ _ [(.ref bs)]
    refine px_astore S51 at_215 rfl rfl (L' := #[.val (.int i0), .val (.int i1), .val (.int i2), .val (.int i3), .val (.int i4), .val (.int i5), .val (.int (2 : Int32)), .val (.int v2), .val (.int v3), .val (.int v4), .val (.int v5), .val (.int v6), .val (.ref b7), .val (.ref b48), .val (.ref bs)]) rfl ?_
    refine px_aload S51 at_217 rfl rfl rfl ?_
    refine px_ifnull S51 at_219 rfl ?_
    refine px_aload S51 at_222 rfl rfl rfl ?_
    refine px_alenI (v := (3 : Int32)) S51 A_bs rfl at_224 rfl ?_
    refine px_iload S51 at_225 rfl rfl ?_
    refine px_iconst (v := (1 : Int32)) S51 at_227 rfl rfl ?_
    refine px_iadd S51 at_228 rfl ?_
    rw [show ((2 : Int32) + (1 : Int32)) = (3 : Int32) from by decide]
    refine px_icmp S51 at_229 (by decide) (pc' := 234) rfl rfl (fun (hc52 : (3 : Int32).toInt = (3 : Int32).toInt) => ?_) (fun (hc52 : ¬ (3 : Int32).toInt = (3 : Int32).toInt) => absurd rfl hc52)
    refine px_aload S51 at_234 rfl rfl rfl ?_
    refine px_iconst (v := (0 : Int32)) S51 at_236 rfl rfl ?_
    refine px_iaload (v := s0) S51 A_bs (i := 0) rfl (by decide) rfl at_237 rfl ?_
    refine px_iconst (v := (-1 : Int32)) S51 at_238 rfl rfl ?_
    refine px_icmp S51 at_239 (by decide) (pc' := 244) rfl rfl (fun (hc53 : s0.toInt = (-1 : Int32).toInt) => ?_) (fun (hc53 : ¬ s0.toInt = (-1 : Int32).toInt) => by exfalso; have q0 := rng32 s0; have q1 := (show (-1 : Int32).toInt = -1 from rfl); omega)
    refine px_iload S51 at_244 rfl rfl ?_
    refine px_iconst (v := (1 : Int32)) S51 at_246 rfl rfl ?_
    refine px_icmp S51 at_247 (by decide) (pc' := 265) rfl rfl (fun (hc54 : (2 : Int32).toInt < (1 : Int32).toInt) => by exfalso; revert hc54; decide) (fun (hc54 : (2 : Int32).toInt ≥ (1 : Int32).toInt) => ?_)
    refine px_aload S51 at_250 rfl rfl rfl ?_
    refine px_iconst (v := (1 : Int32)) S51 at_252 rfl rfl ?_
    refine px_iaload (v := s1) S51 A_bs (i := 1) rfl (by decide) rfl at_253 rfl ?_
    refine px_aload S51 at_254 rfl rfl rfl ?_
    refine px_iconst (v := (1 : Int32)) S51 at_256 rfl rfl ?_
    refine px_callS (as' := [(.ref b7), (.int (1 : Int32))]) (st := [(.int s1)]) (W := 1) S51 (c_border_1 (c0 := v2) (c1 := v3) (c2 := v4) (c3 := v5) (c4 := v6) hw S51.size A_b7 rfl rfl rfl rfl rfl) (hw _ (List.mem_of_getElem? (i := 57) rfl)) (hw _ (List.mem_of_getElem? (i := 58) rfl)) (hw _ (List.mem_of_getElem? (i := 59) rfl)) (hw _ (List.mem_of_getElem? (i := 60) rfl)) (by decide) pd_0_1 rfl rfl (by decide) rfl (by decide) (by decide) (by decide) at_257 rfl rfl (fun T55 h55 v55 S55 q55 => ?_)
    obtain ⟨rfl, r1, rfl, rp1⟩ := q55
    show Go _ _ _ _ _ _ _ [(.int r1), (.int s1)]
    have eq1 := buniq1 sp1 rp1
    clear rp1
    refine px_icmp S55 at_260 (by decide) (pc' := 265) rfl rfl (fun (hc56 : s1.toInt = r1.toInt) => ?_) (fun (hc56 : ¬ s1.toInt = r1.toInt) => by exfalso; exact absurd eq1 hc56)
    refine px_iload S55 at_265 rfl rfl ?_
    refine px_iconst (v := (2 : Int32)) S55 at_267 rfl rfl ?_
    refine px_icmp S55 at_268 (by decide) (pc' := 286) rfl rfl (fun (hc57 : (2 : Int32).toInt < (2 : Int32).toInt) => by exfalso; revert hc57; decide) (fun (hc57 : (2 : Int32).toInt ≥ (2 : Int32).toInt) => ?_)
    refine px_aload S55 at_271 rfl rfl rfl ?_
    refine px_iconst (v := (2 : Int32)) S55 at_273 rfl rfl ?_
    refine px_iaload (v := s2) S55 A_bs (i := 2) rfl (by decide) rfl at_274 rfl ?_
    refine px_aload S55 at_275 rfl rfl rfl ?_
    refine px_iconst (v := (2 : Int32)) S55 at_277 rfl rfl ?_
    refine px_callS (as' := [(.ref b7), (.int (2 : Int32))]) (st := [(.int s2)]) (W := 1) S55 (c_border_2 (c0 := v2) (c1 := v3) (c2 := v4) (c3 := v5) (c4 := v6) hw S55.size A_b7 rfl rfl rfl rfl rfl) (hw _ (List.mem_of_getElem? (i := 57) rfl)) (hw _ (List.mem_of_getElem? (i := 58) rfl)) (hw _ (List.mem_of_getElem? (i := 59) rfl)) (hw _ (List.mem_of_getElem? (i := 60) rfl)) (by decide) pd_0_1 rfl rfl (by decide) rfl (by decide) (by decide) (by decide) at_278 rfl rfl (fun T58 h58 v58 S58 q58 => ?_)
    obtain ⟨rfl, r2, rfl, rp2⟩ := q58
    show Go _ _ _ _ _ _ _ [(.int r2), (.int s2)]
    have eq2 := buniq2 sp2 rp2
    clear rp2
    refine px_icmp S58 at_281 (by decide) (pc' := 286) rfl rfl (fun (hc59 : s2.toInt = r2.toInt) => ?_) (fun (hc59 : ¬ s2.toInt = r2.toInt) => by exfalso; exact absurd eq2 hc59)
    refine px_iload S58 at_286 rfl rfl ?_
    refine px_iconst (v := (3 : Int32)) S58 at_288 rfl rfl ?_
    refine px_icmp S58 at_289 (by decide) (pc' := 307) rfl rfl (fun (hc60 : (2 : Int32).toInt < (3 : Int32).toInt) => ?_) (fun (hc60 : (2 : Int32).toInt ≥ (3 : Int32).toInt) => by exfalso; revert hc60; decide)
    refine px_iload S58 at_307 rfl rfl ?_
    refine px_iconst (v := (4 : Int32)) S58 at_309 rfl rfl ?_
    refine px_icmp S58 at_310 (by decide) (pc' := 328) rfl rfl (fun (hc61 : (2 : Int32).toInt < (4 : Int32).toInt) => ?_) (fun (hc61 : (2 : Int32).toInt ≥ (4 : Int32).toInt) => by exfalso; revert hc61; decide)
    refine px_iload S58 at_328 rfl rfl ?_
    refine px_iconst (v := (5 : Int32)) S58 at_330 rfl rfl ?_
    refine px_icmp S58 at_331 (by decide) (pc' := 349) rfl rfl (fun (hc62 : (2 : Int32).toInt < (5 : Int32).toInt) => ?_) (fun (hc62 : (2 : Int32).toInt ≥ (5 : Int32).toInt) => by exfalso; revert hc62; decide)
    refine px_aload S58 at_349 rfl rfl rfl ?_
    refine px_alenI (v := (2 : Int32)) S58 A_b48 rfl at_351 rfl ?_
    refine px_iload S58 at_352 rfl rfl ?_
    refine px_icmp S58 at_354 (by decide) (pc' := 359) rfl rfl (fun (hc63 : (2 : Int32).toInt = (2 : Int32).toInt) => ?_) (fun (hc63 : ¬ (2 : Int32).toInt = (2 : Int32).toInt) => absurd rfl hc63)
    refine px_iload S58 at_359 rfl rfl ?_
    refine px_iconst (v := (1 : Int32)) S58 at_361 rfl rfl ?_
    refine px_icmp S58 at_362 (by decide) (pc' := 376) rfl rfl (fun (hc64 : (2 : Int32).toInt < (1 : Int32).toInt) => by exfalso; revert hc64; decide) (fun (hc64 : (2 : Int32).toInt ≥ (1 : Int32).toInt) => ?_)
    refine px_aload S58 at_365 rfl rfl rfl ?_
    refine px_iconst (v := (0 : Int32)) S58 at_367 rfl rfl ?_
    refine px_caload (v := v2) S58 A_b48 (i := 0) rfl (by decide) rfl at_368 rfl ?_
    refine px_iload S58 at_369 rfl rfl ?_
    refine px_icmp S58 at_371 (by decide) (pc' := 376) rfl rfl (fun (hc65 : v2.toInt = v2.toInt) => ?_) (fun (hc65 : ¬ v2.toInt = v2.toInt) => absurd rfl hc65)
    refine px_iload S58 at_376 rfl rfl ?_
    refine px_iconst (v := (5 : Int32)) S58 at_378 rfl rfl ?_
    refine px_icmp S58 at_379 (by decide) (pc' := 393) rfl rfl (fun (hc66 : (2 : Int32).toInt < (5 : Int32).toInt) => ?_) (fun (hc66 : (2 : Int32).toInt ≥ (5 : Int32).toInt) => by exfalso; revert hc66; decide)
    refine px_iconst (v := (1 : Int32)) S58 at_393 rfl rfl ?_
    exact px_retN (t := .boolean) (z' := (1 : Int32)) S58 at_394 rfl (by simp) rfl (by decide) (by decide) (rfl)
  · obtain rfl : v1 = (3 : Int32) := i32_of e13 rfl
    refine px_iload S12 at_61 rfl rfl ?_
    refine px_if0 S12 at_63 (by decide) (pc' := 74) rfl rfl (fun (hc67 : ¬ (3 : Int32).toInt = 0) => ?_) (fun (hc67 : (3 : Int32).toInt = 0) => by exfalso; revert hc67; decide)
    refine px_iload S12 at_74 rfl rfl ?_
    refine px_iconst (v := (1 : Int32)) S12 at_76 rfl rfl ?_
    refine px_icmp S12 at_77 (by decide) (pc' := 93) rfl rfl (fun (hc68 : ¬ (3 : Int32).toInt = (1 : Int32).toInt) => ?_) (fun (hc68 : (3 : Int32).toInt = (1 : Int32).toInt) => by exfalso; revert hc68; decide)
    refine px_iload S12 at_93 rfl rfl ?_
    refine px_iconst (v := (2 : Int32)) S12 at_95 rfl rfl ?_
    refine px_icmp S12 at_96 (by decide) (pc' := 117) rfl rfl (fun (hc69 : ¬ (3 : Int32).toInt = (2 : Int32).toInt) => ?_) (fun (hc69 : (3 : Int32).toInt = (2 : Int32).toInt) => by exfalso; revert hc69; decide)
    refine px_iload S12 at_117 rfl rfl ?_
    refine px_iconst (v := (3 : Int32)) S12 at_119 rfl rfl ?_
    refine px_icmp S12 at_120 (by decide) (pc' := 146) rfl rfl (fun (hc70 : ¬ (3 : Int32).toInt = (3 : Int32).toInt) => absurd rfl hc70) (fun (hc70 : (3 : Int32).toInt = (3 : Int32).toInt) => ?_)
    refine px_iconst (v := (3 : Int32)) S12 at_123 rfl rfl ?_
    refine px_newarr (aty := .char) (cap := 3) S12 (hw _ (List.mem_of_getElem? (i := 1) rfl)) rfl (n := 3) rfl (by decide) (by decide) (by decide) (by decide) at_124 rfl (fun T71 h71 b71 z71 g_b71 S71 E71 A_b71 => ?_)
    have ne_b7_b71 : b7 ≠ b71 := ne_new z71 A_b7.lt
    replace A_b7 := A_b7.ext E71
    refine px_dup S71 at_126 rfl rfl ?_
    refine px_iconst (v := (0 : Int32)) S71 at_127 rfl rfl ?_
    refine px_iload S71 at_128 rfl rfl ?_
    refine px_castore (v := v2) S71 A_b71 g_b71 (i := 0) rfl (by decide) (i2c_nar h_v2) at_130 rfl (fun T72 h72 S72 W72 A_b71 => ?_)
    replace A_b7 := A_b7.other W72 ne_b7_b71
    refine px_dup S72 at_131 rfl rfl ?_
    refine px_iconst (v := (1 : Int32)) S72 at_132 rfl rfl ?_
    refine px_iload S72 at_133 rfl rfl ?_
    refine px_castore (v := v3) S72 A_b71 g_b71 (i := 1) rfl (by decide) (i2c_nar h_v3) at_135 rfl (fun T73 h73 S73 W73 A_b71 => ?_)
    replace A_b7 := A_b7.other W73 ne_b7_b71
    refine px_dup S73 at_136 rfl rfl ?_
    refine px_iconst (v := (2 : Int32)) S73 at_137 rfl rfl ?_
    refine px_iload S73 at_138 rfl rfl ?_
    refine px_castore (v := v4) S73 A_b71 g_b71 (i := 2) rfl (by decide) (i2c_nar h_v4) at_140 rfl (fun T74 h74 S74 W74 A_b71 => ?_)
    replace A_b7 := A_b7.other W74 ne_b7_b71
    refine px_astore S74 at_141 rfl rfl (L' := #[.val (.int i0), .val (.int i1), .val (.int i2), .val (.int i3), .val (.int i4), .val (.int i5), .val (.int (3 : Int32)), .val (.int v2), .val (.int v3), .val (.int v4), .val (.int v5), .val (.int v6), .val (.ref b7), .val (.ref b71), .unset]) rfl ?_
    refine px_goto S74 at_143 (by decide) (pc' := 210) rfl ?_
    refine px_aload S74 at_210 rfl rfl rfl ?_
    refine px_callS (as' := [(.ref b71)]) (st := []) (W := 0) S74 (c_of3 (c0 := v2) (c1 := v3) (c2 := v4) hw S74.size A_b71 rfl rfl rfl (i2c_nar h_v2) (i2c_nar h_v3) (i2c_nar h_v4)) (hw _ (List.mem_of_getElem? (i := 2) rfl)) (hw _ (List.mem_of_getElem? (i := 3) rfl)) (hw _ (List.mem_of_getElem? (i := 4) rfl)) (hw _ (List.mem_of_getElem? (i := 5) rfl)) (by decide) pd_0_0 rfl rfl (by decide) rfl (by decide) (by decide) (by decide) at_212 rfl rfl (fun T75 h75 v75 S75 q75 => ?_)
    obtain ⟨bs, s0, s1, s2, s3, rfl, g_bs, K75, A_bs, s_m1, sp1, sp2, sp3⟩ := q75
    replace A_b7 := A_b7.keep K75 nin0
    replace A_b71 := A_b71.keep K75 nin0
    show Go _ _ _ _ _ _ _ [(.ref bs)]
    refine px_astore S75 at_215 rfl rfl (L' := #[.val (.int i0), .val (.int i1), .val (.int i2), .val (.int i3), .val (.int i4), .val (.int i5), .val (.int (3 : Int32)), .val (.int v2), .val (.int v3), .val (.int v4), .val (.int v5), .val (.int v6), .val (.ref b7), .val (.ref b71), .val (.ref bs)]) rfl ?_
    refine px_aload S75 at_217 rfl rfl rfl ?_
    refine px_ifnull S75 at_219 rfl ?_
    refine px_aload S75 at_222 rfl rfl rfl ?_
    refine px_alenI (v := (4 : Int32)) S75 A_bs rfl at_224 rfl ?_
    refine px_iload S75 at_225 rfl rfl ?_
    refine px_iconst (v := (1 : Int32)) S75 at_227 rfl rfl ?_
    refine px_iadd S75 at_228 rfl ?_
    rw [show ((3 : Int32) + (1 : Int32)) = (4 : Int32) from by decide]
    refine px_icmp S75 at_229 (by decide) (pc' := 234) rfl rfl (fun (hc76 : (4 : Int32).toInt = (4 : Int32).toInt) => ?_) (fun (hc76 : ¬ (4 : Int32).toInt = (4 : Int32).toInt) => absurd rfl hc76)
    refine px_aload S75 at_234 rfl rfl rfl ?_
    refine px_iconst (v := (0 : Int32)) S75 at_236 rfl rfl ?_
    refine px_iaload (v := s0) S75 A_bs (i := 0) rfl (by decide) rfl at_237 rfl ?_
    refine px_iconst (v := (-1 : Int32)) S75 at_238 rfl rfl ?_
    refine px_icmp S75 at_239 (by decide) (pc' := 244) rfl rfl (fun (hc77 : s0.toInt = (-1 : Int32).toInt) => ?_) (fun (hc77 : ¬ s0.toInt = (-1 : Int32).toInt) => by exfalso; have q0 := rng32 s0; have q1 := (show (-1 : Int32).toInt = -1 from rfl); omega)
    refine px_iload S75 at_244 rfl rfl ?_
    refine px_iconst (v := (1 : Int32)) S75 at_246 rfl rfl ?_
    refine px_icmp S75 at_247 (by decide) (pc' := 265) rfl rfl (fun (hc78 : (3 : Int32).toInt < (1 : Int32).toInt) => by exfalso; revert hc78; decide) (fun (hc78 : (3 : Int32).toInt ≥ (1 : Int32).toInt) => ?_)
    refine px_aload S75 at_250 rfl rfl rfl ?_
    refine px_iconst (v := (1 : Int32)) S75 at_252 rfl rfl ?_
    refine px_iaload (v := s1) S75 A_bs (i := 1) rfl (by decide) rfl at_253 rfl ?_
    refine px_aload S75 at_254 rfl rfl rfl ?_
    refine px_iconst (v := (1 : Int32)) S75 at_256 rfl rfl ?_
    refine px_callS (as' := [(.ref b7), (.int (1 : Int32))]) (st := [(.int s1)]) (W := 1) S75 (c_border_1 (c0 := v2) (c1 := v3) (c2 := v4) (c3 := v5) (c4 := v6) hw S75.size A_b7 rfl rfl rfl rfl rfl) (hw _ (List.mem_of_getElem? (i := 57) rfl)) (hw _ (List.mem_of_getElem? (i := 58) rfl)) (hw _ (List.mem_of_getElem? (i := 59) rfl)) (hw _ (List.mem_of_getElem? (i := 60) rfl)) (by decide) pd_0_1 rfl rfl (by decide) rfl (by decide) (by decide) (by decide) at_257 rfl rfl (fun T79 h79 v79 S79 q79 => ?_)
    obtain ⟨rfl, r1, rfl, rp1⟩ := q79
    show Go _ _ _ _ _ _ _ [(.int r1), (.int s1)]
    have eq1 := buniq1 sp1 rp1
    clear rp1
    refine px_icmp S79 at_260 (by decide) (pc' := 265) rfl rfl (fun (hc80 : s1.toInt = r1.toInt) => ?_) (fun (hc80 : ¬ s1.toInt = r1.toInt) => by exfalso; exact absurd eq1 hc80)
    refine px_iload S79 at_265 rfl rfl ?_
    refine px_iconst (v := (2 : Int32)) S79 at_267 rfl rfl ?_
    refine px_icmp S79 at_268 (by decide) (pc' := 286) rfl rfl (fun (hc81 : (3 : Int32).toInt < (2 : Int32).toInt) => by exfalso; revert hc81; decide) (fun (hc81 : (3 : Int32).toInt ≥ (2 : Int32).toInt) => ?_)
    refine px_aload S79 at_271 rfl rfl rfl ?_
    refine px_iconst (v := (2 : Int32)) S79 at_273 rfl rfl ?_
    refine px_iaload (v := s2) S79 A_bs (i := 2) rfl (by decide) rfl at_274 rfl ?_
    refine px_aload S79 at_275 rfl rfl rfl ?_
    refine px_iconst (v := (2 : Int32)) S79 at_277 rfl rfl ?_
    refine px_callS (as' := [(.ref b7), (.int (2 : Int32))]) (st := [(.int s2)]) (W := 1) S79 (c_border_2 (c0 := v2) (c1 := v3) (c2 := v4) (c3 := v5) (c4 := v6) hw S79.size A_b7 rfl rfl rfl rfl rfl) (hw _ (List.mem_of_getElem? (i := 57) rfl)) (hw _ (List.mem_of_getElem? (i := 58) rfl)) (hw _ (List.mem_of_getElem? (i := 59) rfl)) (hw _ (List.mem_of_getElem? (i := 60) rfl)) (by decide) pd_0_1 rfl rfl (by decide) rfl (by decide) (by decide) (by decide) at_278 rfl rfl (fun T82 h82 v82 S82 q82 => ?_)
    obtain ⟨rfl, r2, rfl, rp2⟩ := q82
    show Go _ _ _ _ _ _ _ [(.int r2), (.int s2)]
    have eq2 := buniq2 sp2 rp2
    clear rp2
    refine px_icmp S82 at_281 (by decide) (pc' := 286) rfl rfl (fun (hc83 : s2.toInt = r2.toInt) => ?_) (fun (hc83 : ¬ s2.toInt = r2.toInt) => by exfalso; exact absurd eq2 hc83)
    refine px_iload S82 at_286 rfl rfl ?_
    refine px_iconst (v := (3 : Int32)) S82 at_288 rfl rfl ?_
    refine px_icmp S82 at_289 (by decide) (pc' := 307) rfl rfl (fun (hc84 : (3 : Int32).toInt < (3 : Int32).toInt) => by exfalso; revert hc84; decide) (fun (hc84 : (3 : Int32).toInt ≥ (3 : Int32).toInt) => ?_)
    refine px_aload S82 at_292 rfl rfl rfl ?_
    refine px_iconst (v := (3 : Int32)) S82 at_294 rfl rfl ?_
    refine px_iaload (v := s3) S82 A_bs (i := 3) rfl (by decide) rfl at_295 rfl ?_
    refine px_aload S82 at_296 rfl rfl rfl ?_
    refine px_iconst (v := (3 : Int32)) S82 at_298 rfl rfl ?_
    refine px_callS (as' := [(.ref b7), (.int (3 : Int32))]) (st := [(.int s3)]) (W := 1) S82 (c_border_3 (c0 := v2) (c1 := v3) (c2 := v4) (c3 := v5) (c4 := v6) hw S82.size A_b7 rfl rfl rfl rfl rfl) (hw _ (List.mem_of_getElem? (i := 57) rfl)) (hw _ (List.mem_of_getElem? (i := 58) rfl)) (hw _ (List.mem_of_getElem? (i := 59) rfl)) (hw _ (List.mem_of_getElem? (i := 60) rfl)) (by decide) pd_0_1 rfl rfl (by decide) rfl (by decide) (by decide) (by decide) at_299 rfl rfl (fun T85 h85 v85 S85 q85 => ?_)
    obtain ⟨rfl, r3, rfl, rp3⟩ := q85
    show Go _ _ _ _ _ _ _ [(.int r3), (.int s3)]
    have eq3 := buniq3 sp3 rp3
    clear rp3
    refine px_icmp S85 at_302 (by decide) (pc' := 307) rfl rfl (fun (hc86 : s3.toInt = r3.toInt) => ?_) (fun (hc86 : ¬ s3.toInt = r3.toInt) => by exfalso; exact absurd eq3 hc86)
    refine px_iload S85 at_307 rfl rfl ?_
    refine px_iconst (v := (4 : Int32)) S85 at_309 rfl rfl ?_
    refine px_icmp S85 at_310 (by decide) (pc' := 328) rfl rfl (fun (hc87 : (3 : Int32).toInt < (4 : Int32).toInt) => ?_) (fun (hc87 : (3 : Int32).toInt ≥ (4 : Int32).toInt) => by exfalso; revert hc87; decide)
    refine px_iload S85 at_328 rfl rfl ?_
    refine px_iconst (v := (5 : Int32)) S85 at_330 rfl rfl ?_
    refine px_icmp S85 at_331 (by decide) (pc' := 349) rfl rfl (fun (hc88 : (3 : Int32).toInt < (5 : Int32).toInt) => ?_) (fun (hc88 : (3 : Int32).toInt ≥ (5 : Int32).toInt) => by exfalso; revert hc88; decide)
    refine px_aload S85 at_349 rfl rfl rfl ?_
    refine px_alenI (v := (3 : Int32)) S85 A_b71 rfl at_351 rfl ?_
    refine px_iload S85 at_352 rfl rfl ?_
    refine px_icmp S85 at_354 (by decide) (pc' := 359) rfl rfl (fun (hc89 : (3 : Int32).toInt = (3 : Int32).toInt) => ?_) (fun (hc89 : ¬ (3 : Int32).toInt = (3 : Int32).toInt) => absurd rfl hc89)
    refine px_iload S85 at_359 rfl rfl ?_
    refine px_iconst (v := (1 : Int32)) S85 at_361 rfl rfl ?_
    refine px_icmp S85 at_362 (by decide) (pc' := 376) rfl rfl (fun (hc90 : (3 : Int32).toInt < (1 : Int32).toInt) => by exfalso; revert hc90; decide) (fun (hc90 : (3 : Int32).toInt ≥ (1 : Int32).toInt) => ?_)
    refine px_aload S85 at_365 rfl rfl rfl ?_
    refine px_iconst (v := (0 : Int32)) S85 at_367 rfl rfl ?_
    refine px_caload (v := v2) S85 A_b71 (i := 0) rfl (by decide) rfl at_368 rfl ?_
    refine px_iload S85 at_369 rfl rfl ?_
    refine px_icmp S85 at_371 (by decide) (pc' := 376) rfl rfl (fun (hc91 : v2.toInt = v2.toInt) => ?_) (fun (hc91 : ¬ v2.toInt = v2.toInt) => absurd rfl hc91)
    refine px_iload S85 at_376 rfl rfl ?_
    refine px_iconst (v := (5 : Int32)) S85 at_378 rfl rfl ?_
    refine px_icmp S85 at_379 (by decide) (pc' := 393) rfl rfl (fun (hc92 : (3 : Int32).toInt < (5 : Int32).toInt) => ?_) (fun (hc92 : (3 : Int32).toInt ≥ (5 : Int32).toInt) => by exfalso; revert hc92; decide)
    refine px_iconst (v := (1 : Int32)) S85 at_393 rfl rfl ?_
    exact px_retN (t := .boolean) (z' := (1 : Int32)) S85 at_394 rfl (by simp) rfl (by decide) (by decide) (rfl)
  · obtain rfl : v1 = (4 : Int32) := i32_of e13 rfl
    refine px_iload S12 at_61 rfl rfl ?_
    refine px_if0 S12 at_63 (by decide) (pc' := 74) rfl rfl (fun (hc93 : ¬ (4 : Int32).toInt = 0) => ?_) (fun (hc93 : (4 : Int32).toInt = 0) => by exfalso; revert hc93; decide)
    refine px_iload S12 at_74 rfl rfl ?_
    refine px_iconst (v := (1 : Int32)) S12 at_76 rfl rfl ?_
    refine px_icmp S12 at_77 (by decide) (pc' := 93) rfl rfl (fun (hc94 : ¬ (4 : Int32).toInt = (1 : Int32).toInt) => ?_) (fun (hc94 : (4 : Int32).toInt = (1 : Int32).toInt) => by exfalso; revert hc94; decide)
    refine px_iload S12 at_93 rfl rfl ?_
    refine px_iconst (v := (2 : Int32)) S12 at_95 rfl rfl ?_
    refine px_icmp S12 at_96 (by decide) (pc' := 117) rfl rfl (fun (hc95 : ¬ (4 : Int32).toInt = (2 : Int32).toInt) => ?_) (fun (hc95 : (4 : Int32).toInt = (2 : Int32).toInt) => by exfalso; revert hc95; decide)
    refine px_iload S12 at_117 rfl rfl ?_
    refine px_iconst (v := (3 : Int32)) S12 at_119 rfl rfl ?_
    refine px_icmp S12 at_120 (by decide) (pc' := 146) rfl rfl (fun (hc96 : ¬ (4 : Int32).toInt = (3 : Int32).toInt) => ?_) (fun (hc96 : (4 : Int32).toInt = (3 : Int32).toInt) => by exfalso; revert hc96; decide)
    refine px_iload S12 at_146 rfl rfl ?_
    refine px_iconst (v := (4 : Int32)) S12 at_148 rfl rfl ?_
    refine px_icmp S12 at_149 (by decide) (pc' := 180) rfl rfl (fun (hc97 : ¬ (4 : Int32).toInt = (4 : Int32).toInt) => absurd rfl hc97) (fun (hc97 : (4 : Int32).toInt = (4 : Int32).toInt) => ?_)
    refine px_iconst (v := (4 : Int32)) S12 at_152 rfl rfl ?_
    refine px_newarr (aty := .char) (cap := 4) S12 (hw _ (List.mem_of_getElem? (i := 1) rfl)) rfl (n := 4) rfl (by decide) (by decide) (by decide) (by decide) at_153 rfl (fun T98 h98 b98 z98 g_b98 S98 E98 A_b98 => ?_)
    have ne_b7_b98 : b7 ≠ b98 := ne_new z98 A_b7.lt
    replace A_b7 := A_b7.ext E98
    refine px_dup S98 at_155 rfl rfl ?_
    refine px_iconst (v := (0 : Int32)) S98 at_156 rfl rfl ?_
    refine px_iload S98 at_157 rfl rfl ?_
    refine px_castore (v := v2) S98 A_b98 g_b98 (i := 0) rfl (by decide) (i2c_nar h_v2) at_159 rfl (fun T99 h99 S99 W99 A_b98 => ?_)
    replace A_b7 := A_b7.other W99 ne_b7_b98
    refine px_dup S99 at_160 rfl rfl ?_
    refine px_iconst (v := (1 : Int32)) S99 at_161 rfl rfl ?_
    refine px_iload S99 at_162 rfl rfl ?_
    refine px_castore (v := v3) S99 A_b98 g_b98 (i := 1) rfl (by decide) (i2c_nar h_v3) at_164 rfl (fun T100 h100 S100 W100 A_b98 => ?_)
    replace A_b7 := A_b7.other W100 ne_b7_b98
    refine px_dup S100 at_165 rfl rfl ?_
    refine px_iconst (v := (2 : Int32)) S100 at_166 rfl rfl ?_
    refine px_iload S100 at_167 rfl rfl ?_
    refine px_castore (v := v4) S100 A_b98 g_b98 (i := 2) rfl (by decide) (i2c_nar h_v4) at_169 rfl (fun T101 h101 S101 W101 A_b98 => ?_)
    replace A_b7 := A_b7.other W101 ne_b7_b98
    refine px_dup S101 at_170 rfl rfl ?_
    refine px_iconst (v := (3 : Int32)) S101 at_171 rfl rfl ?_
    refine px_iload S101 at_172 rfl rfl ?_
    refine px_castore (v := v5) S101 A_b98 g_b98 (i := 3) rfl (by decide) (i2c_nar h_v5) at_174 rfl (fun T102 h102 S102 W102 A_b98 => ?_)
    replace A_b7 := A_b7.other W102 ne_b7_b98
    refine px_astore S102 at_175 rfl rfl (L' := #[.val (.int i0), .val (.int i1), .val (.int i2), .val (.int i3), .val (.int i4), .val (.int i5), .val (.int (4 : Int32)), .val (.int v2), .val (.int v3), .val (.int v4), .val (.int v5), .val (.int v6), .val (.ref b7), .val (.ref b98), .unset]) rfl ?_
    refine px_goto S102 at_177 (by decide) (pc' := 210) rfl ?_
    refine px_aload S102 at_210 rfl rfl rfl ?_
    refine px_callS (as' := [(.ref b98)]) (st := []) (W := 0) S102 (c_of4 (c0 := v2) (c1 := v3) (c2 := v4) (c3 := v5) hw S102.size A_b98 rfl rfl rfl rfl (i2c_nar h_v2) (i2c_nar h_v3) (i2c_nar h_v4) (i2c_nar h_v5)) (hw _ (List.mem_of_getElem? (i := 2) rfl)) (hw _ (List.mem_of_getElem? (i := 3) rfl)) (hw _ (List.mem_of_getElem? (i := 4) rfl)) (hw _ (List.mem_of_getElem? (i := 5) rfl)) (by decide) pd_0_0 rfl rfl (by decide) rfl (by decide) (by decide) (by decide) at_212 rfl rfl (fun T103 h103 v103 S103 q103 => ?_)
    obtain ⟨bs, s0, s1, s2, s3, s4, rfl, g_bs, K103, A_bs, s_m1, sp1, sp2, sp3, sp4⟩ := q103
    replace A_b7 := A_b7.keep K103 nin0
    replace A_b98 := A_b98.keep K103 nin0
    show Go _ _ _ _ _ _ _ [(.ref bs)]
    refine px_astore S103 at_215 rfl rfl (L' := #[.val (.int i0), .val (.int i1), .val (.int i2), .val (.int i3), .val (.int i4), .val (.int i5), .val (.int (4 : Int32)), .val (.int v2), .val (.int v3), .val (.int v4), .val (.int v5), .val (.int v6), .val (.ref b7), .val (.ref b98), .val (.ref bs)]) rfl ?_
    refine px_aload S103 at_217 rfl rfl rfl ?_
    refine px_ifnull S103 at_219 rfl ?_
    refine px_aload S103 at_222 rfl rfl rfl ?_
    refine px_alenI (v := (5 : Int32)) S103 A_bs rfl at_224 rfl ?_
    refine px_iload S103 at_225 rfl rfl ?_
    refine px_iconst (v := (1 : Int32)) S103 at_227 rfl rfl ?_
    refine px_iadd S103 at_228 rfl ?_
    rw [show ((4 : Int32) + (1 : Int32)) = (5 : Int32) from by decide]
    refine px_icmp S103 at_229 (by decide) (pc' := 234) rfl rfl (fun (hc104 : (5 : Int32).toInt = (5 : Int32).toInt) => ?_) (fun (hc104 : ¬ (5 : Int32).toInt = (5 : Int32).toInt) => absurd rfl hc104)
    refine px_aload S103 at_234 rfl rfl rfl ?_
    refine px_iconst (v := (0 : Int32)) S103 at_236 rfl rfl ?_
    refine px_iaload (v := s0) S103 A_bs (i := 0) rfl (by decide) rfl at_237 rfl ?_
    refine px_iconst (v := (-1 : Int32)) S103 at_238 rfl rfl ?_
    refine px_icmp S103 at_239 (by decide) (pc' := 244) rfl rfl (fun (hc105 : s0.toInt = (-1 : Int32).toInt) => ?_) (fun (hc105 : ¬ s0.toInt = (-1 : Int32).toInt) => by exfalso; have q0 := rng32 s0; have q1 := (show (-1 : Int32).toInt = -1 from rfl); omega)
    refine px_iload S103 at_244 rfl rfl ?_
    refine px_iconst (v := (1 : Int32)) S103 at_246 rfl rfl ?_
    refine px_icmp S103 at_247 (by decide) (pc' := 265) rfl rfl (fun (hc106 : (4 : Int32).toInt < (1 : Int32).toInt) => by exfalso; revert hc106; decide) (fun (hc106 : (4 : Int32).toInt ≥ (1 : Int32).toInt) => ?_)
    refine px_aload S103 at_250 rfl rfl rfl ?_
    refine px_iconst (v := (1 : Int32)) S103 at_252 rfl rfl ?_
    refine px_iaload (v := s1) S103 A_bs (i := 1) rfl (by decide) rfl at_253 rfl ?_
    refine px_aload S103 at_254 rfl rfl rfl ?_
    refine px_iconst (v := (1 : Int32)) S103 at_256 rfl rfl ?_
    refine px_callS (as' := [(.ref b7), (.int (1 : Int32))]) (st := [(.int s1)]) (W := 1) S103 (c_border_1 (c0 := v2) (c1 := v3) (c2 := v4) (c3 := v5) (c4 := v6) hw S103.size A_b7 rfl rfl rfl rfl rfl) (hw _ (List.mem_of_getElem? (i := 57) rfl)) (hw _ (List.mem_of_getElem? (i := 58) rfl)) (hw _ (List.mem_of_getElem? (i := 59) rfl)) (hw _ (List.mem_of_getElem? (i := 60) rfl)) (by decide) pd_0_1 rfl rfl (by decide) rfl (by decide) (by decide) (by decide) at_257 rfl rfl (fun T107 h107 v107 S107 q107 => ?_)
    obtain ⟨rfl, r1, rfl, rp1⟩ := q107
    show Go _ _ _ _ _ _ _ [(.int r1), (.int s1)]
    have eq1 := buniq1 sp1 rp1
    clear rp1
    refine px_icmp S107 at_260 (by decide) (pc' := 265) rfl rfl (fun (hc108 : s1.toInt = r1.toInt) => ?_) (fun (hc108 : ¬ s1.toInt = r1.toInt) => by exfalso; exact absurd eq1 hc108)
    refine px_iload S107 at_265 rfl rfl ?_
    refine px_iconst (v := (2 : Int32)) S107 at_267 rfl rfl ?_
    refine px_icmp S107 at_268 (by decide) (pc' := 286) rfl rfl (fun (hc109 : (4 : Int32).toInt < (2 : Int32).toInt) => by exfalso; revert hc109; decide) (fun (hc109 : (4 : Int32).toInt ≥ (2 : Int32).toInt) => ?_)
    refine px_aload S107 at_271 rfl rfl rfl ?_
    refine px_iconst (v := (2 : Int32)) S107 at_273 rfl rfl ?_
    refine px_iaload (v := s2) S107 A_bs (i := 2) rfl (by decide) rfl at_274 rfl ?_
    refine px_aload S107 at_275 rfl rfl rfl ?_
    refine px_iconst (v := (2 : Int32)) S107 at_277 rfl rfl ?_
    refine px_callS (as' := [(.ref b7), (.int (2 : Int32))]) (st := [(.int s2)]) (W := 1) S107 (c_border_2 (c0 := v2) (c1 := v3) (c2 := v4) (c3 := v5) (c4 := v6) hw S107.size A_b7 rfl rfl rfl rfl rfl) (hw _ (List.mem_of_getElem? (i := 57) rfl)) (hw _ (List.mem_of_getElem? (i := 58) rfl)) (hw _ (List.mem_of_getElem? (i := 59) rfl)) (hw _ (List.mem_of_getElem? (i := 60) rfl)) (by decide) pd_0_1 rfl rfl (by decide) rfl (by decide) (by decide) (by decide) at_278 rfl rfl (fun T110 h110 v110 S110 q110 => ?_)
    obtain ⟨rfl, r2, rfl, rp2⟩ := q110
    show Go _ _ _ _ _ _ _ [(.int r2), (.int s2)]
    have eq2 := buniq2 sp2 rp2
    clear rp2
    refine px_icmp S110 at_281 (by decide) (pc' := 286) rfl rfl (fun (hc111 : s2.toInt = r2.toInt) => ?_) (fun (hc111 : ¬ s2.toInt = r2.toInt) => by exfalso; exact absurd eq2 hc111)
    refine px_iload S110 at_286 rfl rfl ?_
    refine px_iconst (v := (3 : Int32)) S110 at_288 rfl rfl ?_
    refine px_icmp S110 at_289 (by decide) (pc' := 307) rfl rfl (fun (hc112 : (4 : Int32).toInt < (3 : Int32).toInt) => by exfalso; revert hc112; decide) (fun (hc112 : (4 : Int32).toInt ≥ (3 : Int32).toInt) => ?_)
    refine px_aload S110 at_292 rfl rfl rfl ?_
    refine px_iconst (v := (3 : Int32)) S110 at_294 rfl rfl ?_
    refine px_iaload (v := s3) S110 A_bs (i := 3) rfl (by decide) rfl at_295 rfl ?_
    refine px_aload S110 at_296 rfl rfl rfl ?_
    refine px_iconst (v := (3 : Int32)) S110 at_298 rfl rfl ?_
    refine px_callS (as' := [(.ref b7), (.int (3 : Int32))]) (st := [(.int s3)]) (W := 1) S110 (c_border_3 (c0 := v2) (c1 := v3) (c2 := v4) (c3 := v5) (c4 := v6) hw S110.size A_b7 rfl rfl rfl rfl rfl) (hw _ (List.mem_of_getElem? (i := 57) rfl)) (hw _ (List.mem_of_getElem? (i := 58) rfl)) (hw _ (List.mem_of_getElem? (i := 59) rfl)) (hw _ (List.mem_of_getElem? (i := 60) rfl)) (by decide) pd_0_1 rfl rfl (by decide) rfl (by decide) (by decide) (by decide) at_299 rfl rfl (fun T113 h113 v113 S113 q113 => ?_)
    obtain ⟨rfl, r3, rfl, rp3⟩ := q113
    show Go _ _ _ _ _ _ _ [(.int r3), (.int s3)]
    have eq3 := buniq3 sp3 rp3
    clear rp3
    refine px_icmp S113 at_302 (by decide) (pc' := 307) rfl rfl (fun (hc114 : s3.toInt = r3.toInt) => ?_) (fun (hc114 : ¬ s3.toInt = r3.toInt) => by exfalso; exact absurd eq3 hc114)
    refine px_iload S113 at_307 rfl rfl ?_
    refine px_iconst (v := (4 : Int32)) S113 at_309 rfl rfl ?_
    refine px_icmp S113 at_310 (by decide) (pc' := 328) rfl rfl (fun (hc115 : (4 : Int32).toInt < (4 : Int32).toInt) => by exfalso; revert hc115; decide) (fun (hc115 : (4 : Int32).toInt ≥ (4 : Int32).toInt) => ?_)
    refine px_aload S113 at_313 rfl rfl rfl ?_
    refine px_iconst (v := (4 : Int32)) S113 at_315 rfl rfl ?_
    refine px_iaload (v := s4) S113 A_bs (i := 4) rfl (by decide) rfl at_316 rfl ?_
    refine px_aload S113 at_317 rfl rfl rfl ?_
    refine px_iconst (v := (4 : Int32)) S113 at_319 rfl rfl ?_
    refine px_callS (as' := [(.ref b7), (.int (4 : Int32))]) (st := [(.int s4)]) (W := 1) S113 (c_border_4 (c0 := v2) (c1 := v3) (c2 := v4) (c3 := v5) (c4 := v6) hw S113.size A_b7 rfl rfl rfl rfl rfl) (hw _ (List.mem_of_getElem? (i := 57) rfl)) (hw _ (List.mem_of_getElem? (i := 58) rfl)) (hw _ (List.mem_of_getElem? (i := 59) rfl)) (hw _ (List.mem_of_getElem? (i := 60) rfl)) (by decide) pd_0_1 rfl rfl (by decide) rfl (by decide) (by decide) (by decide) at_320 rfl rfl (fun T116 h116 v116 S116 q116 => ?_)
    obtain ⟨rfl, r4, rfl, rp4⟩ := q116
    show Go _ _ _ _ _ _ _ [(.int r4), (.int s4)]
    have eq4 := buniq4 sp4 rp4
    clear rp4
    refine px_icmp S116 at_323 (by decide) (pc' := 328) rfl rfl (fun (hc117 : s4.toInt = r4.toInt) => ?_) (fun (hc117 : ¬ s4.toInt = r4.toInt) => by exfalso; exact absurd eq4 hc117)
    refine px_iload S116 at_328 rfl rfl ?_
    refine px_iconst (v := (5 : Int32)) S116 at_330 rfl rfl ?_
    refine px_icmp S116 at_331 (by decide) (pc' := 349) rfl rfl (fun (hc118 : (4 : Int32).toInt < (5 : Int32).toInt) => ?_) (fun (hc118 : (4 : Int32).toInt ≥ (5 : Int32).toInt) => by exfalso; revert hc118; decide)
    refine px_aload S116 at_349 rfl rfl rfl ?_
    refine px_alenI (v := (4 : Int32)) S116 A_b98 rfl at_351 rfl ?_
    refine px_iload S116 at_352 rfl rfl ?_
    refine px_icmp S116 at_354 (by decide) (pc' := 359) rfl rfl (fun (hc119 : (4 : Int32).toInt = (4 : Int32).toInt) => ?_) (fun (hc119 : ¬ (4 : Int32).toInt = (4 : Int32).toInt) => absurd rfl hc119)
    refine px_iload S116 at_359 rfl rfl ?_
    refine px_iconst (v := (1 : Int32)) S116 at_361 rfl rfl ?_
    refine px_icmp S116 at_362 (by decide) (pc' := 376) rfl rfl (fun (hc120 : (4 : Int32).toInt < (1 : Int32).toInt) => by exfalso; revert hc120; decide) (fun (hc120 : (4 : Int32).toInt ≥ (1 : Int32).toInt) => ?_)
    refine px_aload S116 at_365 rfl rfl rfl ?_
    refine px_iconst (v := (0 : Int32)) S116 at_367 rfl rfl ?_
    refine px_caload (v := v2) S116 A_b98 (i := 0) rfl (by decide) rfl at_368 rfl ?_
    refine px_iload S116 at_369 rfl rfl ?_
    refine px_icmp S116 at_371 (by decide) (pc' := 376) rfl rfl (fun (hc121 : v2.toInt = v2.toInt) => ?_) (fun (hc121 : ¬ v2.toInt = v2.toInt) => absurd rfl hc121)
    refine px_iload S116 at_376 rfl rfl ?_
    refine px_iconst (v := (5 : Int32)) S116 at_378 rfl rfl ?_
    refine px_icmp S116 at_379 (by decide) (pc' := 393) rfl rfl (fun (hc122 : (4 : Int32).toInt < (5 : Int32).toInt) => ?_) (fun (hc122 : (4 : Int32).toInt ≥ (5 : Int32).toInt) => by exfalso; revert hc122; decide)
    refine px_iconst (v := (1 : Int32)) S116 at_393 rfl rfl ?_
    exact px_retN (t := .boolean) (z' := (1 : Int32)) S116 at_394 rfl (by simp) rfl (by decide) (by decide) (rfl)
  · obtain rfl : v1 = (5 : Int32) := i32_of e13 rfl
    refine px_iload S12 at_61 rfl rfl ?_
    refine px_if0 S12 at_63 (by decide) (pc' := 74) rfl rfl (fun (hc123 : ¬ (5 : Int32).toInt = 0) => ?_) (fun (hc123 : (5 : Int32).toInt = 0) => by exfalso; revert hc123; decide)
    refine px_iload S12 at_74 rfl rfl ?_
    refine px_iconst (v := (1 : Int32)) S12 at_76 rfl rfl ?_
    refine px_icmp S12 at_77 (by decide) (pc' := 93) rfl rfl (fun (hc124 : ¬ (5 : Int32).toInt = (1 : Int32).toInt) => ?_) (fun (hc124 : (5 : Int32).toInt = (1 : Int32).toInt) => by exfalso; revert hc124; decide)
    refine px_iload S12 at_93 rfl rfl ?_
    refine px_iconst (v := (2 : Int32)) S12 at_95 rfl rfl ?_
    refine px_icmp S12 at_96 (by decide) (pc' := 117) rfl rfl (fun (hc125 : ¬ (5 : Int32).toInt = (2 : Int32).toInt) => ?_) (fun (hc125 : (5 : Int32).toInt = (2 : Int32).toInt) => by exfalso; revert hc125; decide)
    refine px_iload S12 at_117 rfl rfl ?_
    refine px_iconst (v := (3 : Int32)) S12 at_119 rfl rfl ?_
    refine px_icmp S12 at_120 (by decide) (pc' := 146) rfl rfl (fun (hc126 : ¬ (5 : Int32).toInt = (3 : Int32).toInt) => ?_) (fun (hc126 : (5 : Int32).toInt = (3 : Int32).toInt) => by exfalso; revert hc126; decide)
    refine px_iload S12 at_146 rfl rfl ?_
    refine px_iconst (v := (4 : Int32)) S12 at_148 rfl rfl ?_
    refine px_icmp S12 at_149 (by decide) (pc' := 180) rfl rfl (fun (hc127 : ¬ (5 : Int32).toInt = (4 : Int32).toInt) => ?_) (fun (hc127 : (5 : Int32).toInt = (4 : Int32).toInt) => by exfalso; revert hc127; decide)
    refine px_iconst (v := (5 : Int32)) S12 at_180 rfl rfl ?_
    refine px_newarr (aty := .char) (cap := 5) S12 (hw _ (List.mem_of_getElem? (i := 1) rfl)) rfl (n := 5) rfl (by decide) (by decide) (by decide) (by decide) at_181 rfl (fun T128 h128 b128 z128 g_b128 S128 E128 A_b128 => ?_)
    have ne_b7_b128 : b7 ≠ b128 := ne_new z128 A_b7.lt
    replace A_b7 := A_b7.ext E128
    refine px_dup S128 at_183 rfl rfl ?_
    refine px_iconst (v := (0 : Int32)) S128 at_184 rfl rfl ?_
    refine px_iload S128 at_185 rfl rfl ?_
    refine px_castore (v := v2) S128 A_b128 g_b128 (i := 0) rfl (by decide) (i2c_nar h_v2) at_187 rfl (fun T129 h129 S129 W129 A_b128 => ?_)
    replace A_b7 := A_b7.other W129 ne_b7_b128
    refine px_dup S129 at_188 rfl rfl ?_
    refine px_iconst (v := (1 : Int32)) S129 at_189 rfl rfl ?_
    refine px_iload S129 at_190 rfl rfl ?_
    refine px_castore (v := v3) S129 A_b128 g_b128 (i := 1) rfl (by decide) (i2c_nar h_v3) at_192 rfl (fun T130 h130 S130 W130 A_b128 => ?_)
    replace A_b7 := A_b7.other W130 ne_b7_b128
    refine px_dup S130 at_193 rfl rfl ?_
    refine px_iconst (v := (2 : Int32)) S130 at_194 rfl rfl ?_
    refine px_iload S130 at_195 rfl rfl ?_
    refine px_castore (v := v4) S130 A_b128 g_b128 (i := 2) rfl (by decide) (i2c_nar h_v4) at_197 rfl (fun T131 h131 S131 W131 A_b128 => ?_)
    replace A_b7 := A_b7.other W131 ne_b7_b128
    refine px_dup S131 at_198 rfl rfl ?_
    refine px_iconst (v := (3 : Int32)) S131 at_199 rfl rfl ?_
    refine px_iload S131 at_200 rfl rfl ?_
    refine px_castore (v := v5) S131 A_b128 g_b128 (i := 3) rfl (by decide) (i2c_nar h_v5) at_202 rfl (fun T132 h132 S132 W132 A_b128 => ?_)
    replace A_b7 := A_b7.other W132 ne_b7_b128
    refine px_dup S132 at_203 rfl rfl ?_
    refine px_iconst (v := (4 : Int32)) S132 at_204 rfl rfl ?_
    refine px_iload S132 at_205 rfl rfl ?_
    refine px_castore (v := v6) S132 A_b128 g_b128 (i := 4) rfl (by decide) (i2c_nar h_v6) at_207 rfl (fun T133 h133 S133 W133 A_b128 => ?_)
    replace A_b7 := A_b7.other W133 ne_b7_b128
    refine px_astore S133 at_208 rfl rfl (L' := #[.val (.int i0), .val (.int i1), .val (.int i2), .val (.int i3), .val (.int i4), .val (.int i5), .val (.int (5 : Int32)), .val (.int v2), .val (.int v3), .val (.int v4), .val (.int v5), .val (.int v6), .val (.ref b7), .val (.ref b128), .unset]) rfl ?_
    refine px_aload S133 at_210 rfl rfl rfl ?_
    refine px_callS (as' := [(.ref b128)]) (st := []) (W := 0) S133 (c_of5 (c0 := v2) (c1 := v3) (c2 := v4) (c3 := v5) (c4 := v6) hw S133.size A_b128 rfl rfl rfl rfl rfl (i2c_nar h_v2) (i2c_nar h_v3) (i2c_nar h_v4) (i2c_nar h_v5) (i2c_nar h_v6)) (hw _ (List.mem_of_getElem? (i := 2) rfl)) (hw _ (List.mem_of_getElem? (i := 3) rfl)) (hw _ (List.mem_of_getElem? (i := 4) rfl)) (hw _ (List.mem_of_getElem? (i := 5) rfl)) (by decide) pd_0_0 rfl rfl (by decide) rfl (by decide) (by decide) (by decide) at_212 rfl rfl (fun T134 h134 v134 S134 q134 => ?_)
    obtain ⟨bs, s0, s1, s2, s3, s4, s5, rfl, g_bs, K134, A_bs, s_m1, sp1, sp2, sp3, sp4, sp5⟩ := q134
    replace A_b7 := A_b7.keep K134 nin0
    replace A_b128 := A_b128.keep K134 nin0
    show Go _ _ _ _ _ _ _ [(.ref bs)]
    refine px_astore S134 at_215 rfl rfl (L' := #[.val (.int i0), .val (.int i1), .val (.int i2), .val (.int i3), .val (.int i4), .val (.int i5), .val (.int (5 : Int32)), .val (.int v2), .val (.int v3), .val (.int v4), .val (.int v5), .val (.int v6), .val (.ref b7), .val (.ref b128), .val (.ref bs)]) rfl ?_
    refine px_aload S134 at_217 rfl rfl rfl ?_
    refine px_ifnull S134 at_219 rfl ?_
    refine px_aload S134 at_222 rfl rfl rfl ?_
    refine px_alenI (v := (6 : Int32)) S134 A_bs rfl at_224 rfl ?_
    refine px_iload S134 at_225 rfl rfl ?_
    refine px_iconst (v := (1 : Int32)) S134 at_227 rfl rfl ?_
    refine px_iadd S134 at_228 rfl ?_
    rw [show ((5 : Int32) + (1 : Int32)) = (6 : Int32) from by decide]
    refine px_icmp S134 at_229 (by decide) (pc' := 234) rfl rfl (fun (hc135 : (6 : Int32).toInt = (6 : Int32).toInt) => ?_) (fun (hc135 : ¬ (6 : Int32).toInt = (6 : Int32).toInt) => absurd rfl hc135)
    refine px_aload S134 at_234 rfl rfl rfl ?_
    refine px_iconst (v := (0 : Int32)) S134 at_236 rfl rfl ?_
    refine px_iaload (v := s0) S134 A_bs (i := 0) rfl (by decide) rfl at_237 rfl ?_
    refine px_iconst (v := (-1 : Int32)) S134 at_238 rfl rfl ?_
    refine px_icmp S134 at_239 (by decide) (pc' := 244) rfl rfl (fun (hc136 : s0.toInt = (-1 : Int32).toInt) => ?_) (fun (hc136 : ¬ s0.toInt = (-1 : Int32).toInt) => by exfalso; have q0 := rng32 s0; have q1 := (show (-1 : Int32).toInt = -1 from rfl); omega)
    refine px_iload S134 at_244 rfl rfl ?_
    refine px_iconst (v := (1 : Int32)) S134 at_246 rfl rfl ?_
    refine px_icmp S134 at_247 (by decide) (pc' := 265) rfl rfl (fun (hc137 : (5 : Int32).toInt < (1 : Int32).toInt) => by exfalso; revert hc137; decide) (fun (hc137 : (5 : Int32).toInt ≥ (1 : Int32).toInt) => ?_)
    refine px_aload S134 at_250 rfl rfl rfl ?_
    refine px_iconst (v := (1 : Int32)) S134 at_252 rfl rfl ?_
    refine px_iaload (v := s1) S134 A_bs (i := 1) rfl (by decide) rfl at_253 rfl ?_
    refine px_aload S134 at_254 rfl rfl rfl ?_
    refine px_iconst (v := (1 : Int32)) S134 at_256 rfl rfl ?_
    refine px_callS (as' := [(.ref b7), (.int (1 : Int32))]) (st := [(.int s1)]) (W := 1) S134 (c_border_1 (c0 := v2) (c1 := v3) (c2 := v4) (c3 := v5) (c4 := v6) hw S134.size A_b7 rfl rfl rfl rfl rfl) (hw _ (List.mem_of_getElem? (i := 57) rfl)) (hw _ (List.mem_of_getElem? (i := 58) rfl)) (hw _ (List.mem_of_getElem? (i := 59) rfl)) (hw _ (List.mem_of_getElem? (i := 60) rfl)) (by decide) pd_0_1 rfl rfl (by decide) rfl (by decide) (by decide) (by decide) at_257 rfl rfl (fun T138 h138 v138 S138 q138 => ?_)
    obtain ⟨rfl, r1, rfl, rp1⟩ := q138
    show Go _ _ _ _ _ _ _ [(.int r1), (.int s1)]
    have eq1 := buniq1 sp1 rp1
    clear rp1
    refine px_icmp S138 at_260 (by decide) (pc' := 265) rfl rfl (fun (hc139 : s1.toInt = r1.toInt) => ?_) (fun (hc139 : ¬ s1.toInt = r1.toInt) => by exfalso; exact absurd eq1 hc139)
    refine px_iload S138 at_265 rfl rfl ?_
    refine px_iconst (v := (2 : Int32)) S138 at_267 rfl rfl ?_
    refine px_icmp S138 at_268 (by decide) (pc' := 286) rfl rfl (fun (hc140 : (5 : Int32).toInt < (2 : Int32).toInt) => by exfalso; revert hc140; decide) (fun (hc140 : (5 : Int32).toInt ≥ (2 : Int32).toInt) => ?_)
    refine px_aload S138 at_271 rfl rfl rfl ?_
    refine px_iconst (v := (2 : Int32)) S138 at_273 rfl rfl ?_
    refine px_iaload (v := s2) S138 A_bs (i := 2) rfl (by decide) rfl at_274 rfl ?_
    refine px_aload S138 at_275 rfl rfl rfl ?_
    refine px_iconst (v := (2 : Int32)) S138 at_277 rfl rfl ?_
    refine px_callS (as' := [(.ref b7), (.int (2 : Int32))]) (st := [(.int s2)]) (W := 1) S138 (c_border_2 (c0 := v2) (c1 := v3) (c2 := v4) (c3 := v5) (c4 := v6) hw S138.size A_b7 rfl rfl rfl rfl rfl) (hw _ (List.mem_of_getElem? (i := 57) rfl)) (hw _ (List.mem_of_getElem? (i := 58) rfl)) (hw _ (List.mem_of_getElem? (i := 59) rfl)) (hw _ (List.mem_of_getElem? (i := 60) rfl)) (by decide) pd_0_1 rfl rfl (by decide) rfl (by decide) (by decide) (by decide) at_278 rfl rfl (fun T141 h141 v141 S141 q141 => ?_)
    obtain ⟨rfl, r2, rfl, rp2⟩ := q141
    show Go _ _ _ _ _ _ _ [(.int r2), (.int s2)]
    have eq2 := buniq2 sp2 rp2
    clear rp2
    refine px_icmp S141 at_281 (by decide) (pc' := 286) rfl rfl (fun (hc142 : s2.toInt = r2.toInt) => ?_) (fun (hc142 : ¬ s2.toInt = r2.toInt) => by exfalso; exact absurd eq2 hc142)
    refine px_iload S141 at_286 rfl rfl ?_
    refine px_iconst (v := (3 : Int32)) S141 at_288 rfl rfl ?_
    refine px_icmp S141 at_289 (by decide) (pc' := 307) rfl rfl (fun (hc143 : (5 : Int32).toInt < (3 : Int32).toInt) => by exfalso; revert hc143; decide) (fun (hc143 : (5 : Int32).toInt ≥ (3 : Int32).toInt) => ?_)
    refine px_aload S141 at_292 rfl rfl rfl ?_
    refine px_iconst (v := (3 : Int32)) S141 at_294 rfl rfl ?_
    refine px_iaload (v := s3) S141 A_bs (i := 3) rfl (by decide) rfl at_295 rfl ?_
    refine px_aload S141 at_296 rfl rfl rfl ?_
    refine px_iconst (v := (3 : Int32)) S141 at_298 rfl rfl ?_
    refine px_callS (as' := [(.ref b7), (.int (3 : Int32))]) (st := [(.int s3)]) (W := 1) S141 (c_border_3 (c0 := v2) (c1 := v3) (c2 := v4) (c3 := v5) (c4 := v6) hw S141.size A_b7 rfl rfl rfl rfl rfl) (hw _ (List.mem_of_getElem? (i := 57) rfl)) (hw _ (List.mem_of_getElem? (i := 58) rfl)) (hw _ (List.mem_of_getElem? (i := 59) rfl)) (hw _ (List.mem_of_getElem? (i := 60) rfl)) (by decide) pd_0_1 rfl rfl (by decide) rfl (by decide) (by decide) (by decide) at_299 rfl rfl (fun T144 h144 v144 S144 q144 => ?_)
    obtain ⟨rfl, r3, rfl, rp3⟩ := q144
    show Go _ _ _ _ _ _ _ [(.int r3), (.int s3)]
    have eq3 := buniq3 sp3 rp3
    clear rp3
    refine px_icmp S144 at_302 (by decide) (pc' := 307) rfl rfl (fun (hc145 : s3.toInt = r3.toInt) => ?_) (fun (hc145 : ¬ s3.toInt = r3.toInt) => by exfalso; exact absurd eq3 hc145)
    refine px_iload S144 at_307 rfl rfl ?_
    refine px_iconst (v := (4 : Int32)) S144 at_309 rfl rfl ?_
    refine px_icmp S144 at_310 (by decide) (pc' := 328) rfl rfl (fun (hc146 : (5 : Int32).toInt < (4 : Int32).toInt) => by exfalso; revert hc146; decide) (fun (hc146 : (5 : Int32).toInt ≥ (4 : Int32).toInt) => ?_)
    refine px_aload S144 at_313 rfl rfl rfl ?_
    refine px_iconst (v := (4 : Int32)) S144 at_315 rfl rfl ?_
    refine px_iaload (v := s4) S144 A_bs (i := 4) rfl (by decide) rfl at_316 rfl ?_
    refine px_aload S144 at_317 rfl rfl rfl ?_
    refine px_iconst (v := (4 : Int32)) S144 at_319 rfl rfl ?_
    refine px_callS (as' := [(.ref b7), (.int (4 : Int32))]) (st := [(.int s4)]) (W := 1) S144 (c_border_4 (c0 := v2) (c1 := v3) (c2 := v4) (c3 := v5) (c4 := v6) hw S144.size A_b7 rfl rfl rfl rfl rfl) (hw _ (List.mem_of_getElem? (i := 57) rfl)) (hw _ (List.mem_of_getElem? (i := 58) rfl)) (hw _ (List.mem_of_getElem? (i := 59) rfl)) (hw _ (List.mem_of_getElem? (i := 60) rfl)) (by decide) pd_0_1 rfl rfl (by decide) rfl (by decide) (by decide) (by decide) at_320 rfl rfl (fun T147 h147 v147 S147 q147 => ?_)
    obtain ⟨rfl, r4, rfl, rp4⟩ := q147
    show Go _ _ _ _ _ _ _ [(.int r4), (.int s4)]
    have eq4 := buniq4 sp4 rp4
    clear rp4
    refine px_icmp S147 at_323 (by decide) (pc' := 328) rfl rfl (fun (hc148 : s4.toInt = r4.toInt) => ?_) (fun (hc148 : ¬ s4.toInt = r4.toInt) => by exfalso; exact absurd eq4 hc148)
    refine px_iload S147 at_328 rfl rfl ?_
    refine px_iconst (v := (5 : Int32)) S147 at_330 rfl rfl ?_
    refine px_icmp S147 at_331 (by decide) (pc' := 349) rfl rfl (fun (hc149 : (5 : Int32).toInt < (5 : Int32).toInt) => by exfalso; revert hc149; decide) (fun (hc149 : (5 : Int32).toInt ≥ (5 : Int32).toInt) => ?_)
    refine px_aload S147 at_334 rfl rfl rfl ?_
    refine px_iconst (v := (5 : Int32)) S147 at_336 rfl rfl ?_
    refine px_iaload (v := s5) S147 A_bs (i := 5) rfl (by decide) rfl at_337 rfl ?_
    refine px_aload S147 at_338 rfl rfl rfl ?_
    refine px_iconst (v := (5 : Int32)) S147 at_340 rfl rfl ?_
    refine px_callS (as' := [(.ref b7), (.int (5 : Int32))]) (st := [(.int s5)]) (W := 1) S147 (c_border_5 (c0 := v2) (c1 := v3) (c2 := v4) (c3 := v5) (c4 := v6) hw S147.size A_b7 rfl rfl rfl rfl rfl) (hw _ (List.mem_of_getElem? (i := 57) rfl)) (hw _ (List.mem_of_getElem? (i := 58) rfl)) (hw _ (List.mem_of_getElem? (i := 59) rfl)) (hw _ (List.mem_of_getElem? (i := 60) rfl)) (by decide) pd_0_1 rfl rfl (by decide) rfl (by decide) (by decide) (by decide) at_341 rfl rfl (fun T150 h150 v150 S150 q150 => ?_)
    obtain ⟨rfl, r5, rfl, rp5⟩ := q150
    show Go _ _ _ _ _ _ _ [(.int r5), (.int s5)]
    have eq5 := buniq5 sp5 rp5
    clear rp5
    refine px_icmp S150 at_344 (by decide) (pc' := 349) rfl rfl (fun (hc151 : s5.toInt = r5.toInt) => ?_) (fun (hc151 : ¬ s5.toInt = r5.toInt) => by exfalso; exact absurd eq5 hc151)
    refine px_aload S150 at_349 rfl rfl rfl ?_
    refine px_alenI (v := (5 : Int32)) S150 A_b128 rfl at_351 rfl ?_
    refine px_iload S150 at_352 rfl rfl ?_
    refine px_icmp S150 at_354 (by decide) (pc' := 359) rfl rfl (fun (hc152 : (5 : Int32).toInt = (5 : Int32).toInt) => ?_) (fun (hc152 : ¬ (5 : Int32).toInt = (5 : Int32).toInt) => absurd rfl hc152)
    refine px_iload S150 at_359 rfl rfl ?_
    refine px_iconst (v := (1 : Int32)) S150 at_361 rfl rfl ?_
    refine px_icmp S150 at_362 (by decide) (pc' := 376) rfl rfl (fun (hc153 : (5 : Int32).toInt < (1 : Int32).toInt) => by exfalso; revert hc153; decide) (fun (hc153 : (5 : Int32).toInt ≥ (1 : Int32).toInt) => ?_)
    refine px_aload S150 at_365 rfl rfl rfl ?_
    refine px_iconst (v := (0 : Int32)) S150 at_367 rfl rfl ?_
    refine px_caload (v := v2) S150 A_b128 (i := 0) rfl (by decide) rfl at_368 rfl ?_
    refine px_iload S150 at_369 rfl rfl ?_
    refine px_icmp S150 at_371 (by decide) (pc' := 376) rfl rfl (fun (hc154 : v2.toInt = v2.toInt) => ?_) (fun (hc154 : ¬ v2.toInt = v2.toInt) => absurd rfl hc154)
    refine px_iload S150 at_376 rfl rfl ?_
    refine px_iconst (v := (5 : Int32)) S150 at_378 rfl rfl ?_
    refine px_icmp S150 at_379 (by decide) (pc' := 393) rfl rfl (fun (hc155 : (5 : Int32).toInt < (5 : Int32).toInt) => by exfalso; revert hc155; decide) (fun (hc155 : (5 : Int32).toInt ≥ (5 : Int32).toInt) => ?_)
    refine px_aload S150 at_382 rfl rfl rfl ?_
    refine px_iconst (v := (4 : Int32)) S150 at_384 rfl rfl ?_
    refine px_caload (v := v6) S150 A_b128 (i := 4) rfl (by decide) rfl at_385 rfl ?_
    refine px_iload S150 at_386 rfl rfl ?_
    refine px_icmp S150 at_388 (by decide) (pc' := 393) rfl rfl (fun (hc156 : v6.toInt = v6.toInt) => ?_) (fun (hc156 : ¬ v6.toInt = v6.toInt) => absurd rfl hc156)
    refine px_iconst (v := (1 : Int32)) S150 at_393 rfl rfl ?_
    exact px_retN (t := .boolean) (z' := (1 : Int32)) S150 at_394 rfl (by simp) rfl (by decide) (by decide) (rfl)
set_option maxRecDepth 65536 in
set_option maxHeartbeats 40000000 in
theorem comes_1 {Post : Tables → Env → Array Value → State → Outcome → State → Prop} (hpost : ∀ tb e args s v u, (limb_1_1.after args s (.returned v) u = true ∧ limb_1_2.after args s (.returned v) u = true ∧ True) → FrameEnd s (.returned v) u (Jvm.fieldLocs frame_1_writes args s ++ Jvm.arrayLocs frame_1_arrays args s ++ Jvm.staticLocs frame_1_statics s) 16 128 → Post tb e args s (.returned v) u) :
    ArmFor flags0 classFile x code maxLocals ret World_1 tables_1 room_1 Calls_1 rest_1 Pre_1 Post := by
  intro l hfl _ _ p e ha hc hk s m args below hf hA hF happ hP
  obtain ⟨hcalls, hrest, hpre⟩ := hP
  obtain ⟨-, -, -, hnamed, -, -, -, hat⟩ := (Spec.applies_iff hf).mp happ
  obtain ⟨hg, hn⟩ := and_e (Cond.before_iff.mp (show (Jvm.Cond.and given_1 narrow_1).before args s = true from hpre))
  obtain ⟨hcount, hg0⟩ := and_e hg
  obtain ⟨ha0, hg1⟩ := and_e hg0
  obtain ⟨ha1, hg2⟩ := and_e hg1
  obtain ⟨ha2, hg3⟩ := and_e hg2
  obtain ⟨ha3, hg4⟩ := and_e hg3
  obtain ⟨ha4, hg5⟩ := and_e hg4
  obtain ⟨w0, w1, w2, w3, w4, w5, rfl⟩ : ∃ w0 w1 w2 w3 w4 w5 : Value, args = #[w0, w1, w2, w3, w4, w5] := by
    have hs : args.size = 6 := by simpa [Cond.value, given_1] using hcount
    obtain ⟨L⟩ := args
    match L, hs with
    | [w0, w1, w2, w3, w4, w5], _ => exact ⟨w0, w1, w2, w3, w4, w5, rfl⟩
  have hw := fun d (hd : d ∈ tables_1) => atoms_spec (ws := Jvm.Cond.code x code maxLocals ret :: tables_1) hat d (List.mem_cons_of_mem _ hd)
  obtain ⟨i0, ei0⟩ := is_v ha0
  obtain rfl : w0 = (.int i0) := Option.some.inj ei0
  obtain ⟨i1, ei1⟩ := is_v ha1
  obtain rfl : w1 = (.int i1) := Option.some.inj ei1
  obtain ⟨i2, ei2⟩ := is_v ha2
  obtain rfl : w2 = (.int i2) := Option.some.inj ei2
  obtain ⟨i3, ei3⟩ := is_v ha3
  obtain rfl : w3 = (.int i3) := Option.some.inj ei3
  obtain ⟨i4, ei4⟩ := is_v ha4
  obtain rfl : w4 = (.int i4) := Option.some.inj ei4
  obtain ⟨i5, ei5⟩ := is_v hg5
  obtain rfl : w5 = (.int i5) := Option.some.inj ei5
  obtain ⟨n, o, h1, h2, h3, _, L, rfl, ⟨rfl, N⟩, hq⟩ := law_ctr (Z := s) hw i0 i1 i2 i3 i4 i5 (Nat.le_refl _) l tables_1 p e ha hc hk s m _ below hf ((Spec.applies_iff_loose hf).mp happ).1 ⟨rfl, State.Warmed39.refl s, rfl⟩ trivial
  refine ⟨n, _, h1, h2, h3, hpost _ _ _ _ _ _ ⟨Cond.after_iff.mpr rfl, Cond.after_iff.mpr (eq_i res_at (Term.int_eval (1)) rfl), trivial⟩ ⟨hq.1, hq.2.1, (hq.2.2.sift fun y hy => Or.inr (N y hy)).mono (Nat.le_refl _) (Nat.le_refl _)⟩⟩
theorem main_1_1 : Claimed_1_1 := comes_1 fun _ _ _ _ _ _ h hF => ⟨h.1, hF⟩
theorem main_1_2 : Claimed_1_2 := comes_1 fun _ _ _ _ _ _ h hF => ⟨h.2.1, hF⟩
end Jvm.Pilot.@@N@@
namespace Jvm.Pilot.@@N@@
open Jvm Jvm.ClassFile Sem Op Lib Jvm.Free Jvm.Stand Jvm.Pilot.@@N@@.Jvm.D
/-! MADE BY PROGRAM (witnessworld.py) out of the Statement's table words and the real class files: 13 classes; the members and pool entries that the words name. The judged class is class 1, her method 3. -/
namespace start1
open Jvm.ClassFile
def u (s : String) : CpInfo := .utf8 (stringToUtf16 s)
/-- a pool by its gaps: so many unusable entries, then the entry; so many at the end -/
def gap : Nat → List CpInfo → List CpInfo
  | 0, r => r
  | n + 1, r => .unusable :: gap n r
def poolList (es : List (Nat × CpInfo)) (last : Nat) : List CpInfo := es.foldr (fun e r => gap e.1 (e.2 :: r)) (gap last [])
def pool (es : List (Nat × CpInfo)) (last : Nat) : Array CpInfo := ⟨poolList es last⟩
def fileOf (pool : Array CpInfo) (this : Nat) (attrs : Array Attribute := #[]) (ms : Array MethodInfo := #[]) (fl : Nat := 33) (sup : Nat := 0) (ifs : Array Nat := #[]) (fds : Array FieldInfo := #[]) : ClassFile where
  minorVersion := 0
  majorVersion := 65
  constantPool := pool
  accessFlags := fl
  thisClass := this
  superClass := sup
  interfaces := ifs
  fields := fds
  methods := ms
  attributes := attrs
def plain (name : String) (sup : Option ClassId) : Class where
  name := name
  kind := .ordinary
  loader := none
  accessFlags := 33
  super := sup
  interfaces := #[]
  cf := none
  fields := #[]
  methods := #[]
  instanceTypes := #[]
  staticTypes := #[]
  resolved := #[]
  callSites := []
  init := .initialized
  statics := none
  mirror := none

def pool0 : Array CpInfo := pool [(5, u "<init>"), (0, u "()V"), (1, .class_ 10), (1, u "java/lang/Object")] 113

def k0c0 : Code := { maxStack := 0, maxLocals := 1, code := object_method_1_code, exceptionTable := #[], attributes := #[] }
def k0m0 : Method := { name := "<init>", desc := "()V", sig := { parameters := [], returnType := none }, accessFlags := 1, code := some k0c0 }
/-- java/lang/Object -/
def k0 : Class := { plain "java/lang/Object" none with
  accessFlags := 33
  interfaces := #[]
  cf := some (fileOf pool0 8 #[] #[{ accessFlags := 1, nameIndex := 5, descriptorIndex := 6, attributes := #[] }] 33 0 #[] #[])
  fields := #[]
  methods := #[k0m0]
  instanceTypes := #[]
  staticTypes := #[]
  resolved := Array.replicate 124 none
  statics := none }

def pool1 : Array CpInfo := pool [(2, .class_ 4), (1, u "java/lang/Object"), (0, u "<init>"), (0, u "()V"), (0, .methodref 8 9), (0, .class_ 10), (0, .nameAndType 11 12), (0, u "com/example/ghost_state/ghoststate/ShadowsOfPinLaw"), (0, u "same"), (0, u "([CII)Z"), (0, .integer 2147483647), (0, .methodref 15 16), (0, .class_ 17), (0, .nameAndType 18 19), (0, u "com/example/ghost_state/ghoststate/Shadows"), (0, u "of"), (0, u "([C)[I"), (0, .methodref 8 21), (0, .nameAndType 22 23), (0, u "border"), (0, u "([CI)I"), (3, u "law"), (0, u "(IIIIII)Z")] 6

def k1m0 : Method := { name := "<init>", desc := "()V", sig := { parameters := [], returnType := none }, accessFlags := 2, code := none }
def k1c1 : Code := { maxStack := 4, maxLocals := 4, code := method_2_code, exceptionTable := #[], attributes := #[] }
def k1m1 : Method := { name := "same", desc := "([CII)Z", sig := { parameters := [(.array .char), .int, .int], returnType := some .boolean }, accessFlags := 10, code := some k1c1 }
def k1c2 : Code := { maxStack := 3, maxLocals := 2, code := method_3_code, exceptionTable := #[], attributes := #[] }
def k1m2 : Method := { name := "border", desc := "([CI)I", sig := { parameters := [(.array .char), .int], returnType := some .int }, accessFlags := 10, code := some k1c2 }
def k1c3 : Code := { maxStack := 4, maxLocals := 15, code := code, exceptionTable := #[], attributes := #[] }
def k1m3 : Method := { name := "law", desc := "(IIIIII)Z", sig := { parameters := [.int, .int, .int, .int, .int, .int], returnType := some .boolean }, accessFlags := 9, code := some k1c3 }
/-- com/example/ghost_state/ghoststate/ShadowsOfPinLaw -/
def k1 : Class := { plain "com/example/ghost_state/ghoststate/ShadowsOfPinLaw" (some 0) with
  accessFlags := 49
  interfaces := #[]
  cf := some (fileOf pool1 8 #[] #[{ accessFlags := 2, nameIndex := 5, descriptorIndex := 6, attributes := #[] }, { accessFlags := 10, nameIndex := 11, descriptorIndex := 12, attributes := #[] }, { accessFlags := 10, nameIndex := 22, descriptorIndex := 23, attributes := #[] }, { accessFlags := 9, nameIndex := 27, descriptorIndex := 28, attributes := #[] }] 49 2 #[] #[])
  fields := #[]
  methods := #[k1m0, k1m1, k1m2, k1m3]
  instanceTypes := #[]
  staticTypes := #[]
  resolved := Array.replicate 35 none
  statics := none }

def pool2 : Array CpInfo := pool [(2, .class_ 4), (1, u "java/lang/Object"), (0, u "<init>"), (0, u "()V"), (0, .class_ 8), (0, u "com/example/ghost_state/ghoststate/Shadows$Path"), (0, .methodref 7 10), (0, .nameAndType 5 11), (0, u "([C)V"), (0, .methodref 13 14), (0, .class_ 15), (0, .nameAndType 16 17), (0, u "com/example/ghost_state/ghoststate/Shadows"), (0, u "of"), (0, u "(Lcom/example/ghost_state/ghoststate/Shadows$PrefixTree;)[I"), (0, .interfaceMethodref 19 20), (0, .class_ 21), (0, .nameAndType 22 23), (0, u "com/example/ghost_state/ghoststate/Shadows$PrefixTree"), (0, u "states"), (0, u "()I"), (0, .interfaceMethodref 19 25), (0, .nameAndType 26 27), (0, u "parent"), (0, u "(I)I"), (0, .interfaceMethodref 19 29), (0, .nameAndType 30 31), (0, u "element"), (0, u "(I)C"), (0, .methodref 13 33), (0, .nameAndType 34 35), (0, u "next"), (0, u "(Lcom/example/ghost_state/ghoststate/Shadows$PrefixTree;[IIC)I"), (0, .interfaceMethodref 19 37), (0, .nameAndType 38 39), (0, u "child"), (0, u "(IC)I"), (2, u "([C)[I")] 10

def k2m0 : Method := { name := "<init>", desc := "()V", sig := { parameters := [], returnType := none }, accessFlags := 2, code := none }
def k2c1 : Code := { maxStack := 3, maxLocals := 1, code := prog_23_method_2_code, exceptionTable := #[], attributes := #[] }
def k2m1 : Method := { name := "of", desc := "([C)[I", sig := { parameters := [(.array .char)], returnType := some (.array .int) }, accessFlags := 8, code := some k2c1 }
def k2c2 : Code := { maxStack := 7, maxLocals := 3, code := prog_23_method_3_code, exceptionTable := #[], attributes := #[] }
def k2m2 : Method := { name := "of", desc := "(Lcom/example/ghost_state/ghoststate/Shadows$PrefixTree;)[I", sig := { parameters := [(.object "com/example/ghost_state/ghoststate/Shadows$PrefixTree")], returnType := some (.array .int) }, accessFlags := 8, code := some k2c2 }
def k2c3 : Code := { maxStack := 3, maxLocals := 6, code := prog_23_method_4_code, exceptionTable := #[], attributes := #[] }
def k2m3 : Method := { name := "next", desc := "(Lcom/example/ghost_state/ghoststate/Shadows$PrefixTree;[IIC)I", sig := { parameters := [(.object "com/example/ghost_state/ghoststate/Shadows$PrefixTree"), (.array .int), .int, .char], returnType := some .int }, accessFlags := 8, code := some k2c3 }
/-- com/example/ghost_state/ghoststate/Shadows -/
def k2 : Class := { plain "com/example/ghost_state/ghoststate/Shadows" (some 0) with
  accessFlags := 48
  interfaces := #[]
  cf := some (fileOf pool2 13 #[.nestMembers #[7, 19]] #[{ accessFlags := 2, nameIndex := 5, descriptorIndex := 6, attributes := #[] }, { accessFlags := 8, nameIndex := 16, descriptorIndex := 42, attributes := #[] }, { accessFlags := 8, nameIndex := 16, descriptorIndex := 17, attributes := #[] }, { accessFlags := 8, nameIndex := 34, descriptorIndex := 35, attributes := #[] }] 48 2 #[] #[])
  fields := #[]
  methods := #[k2m0, k2m1, k2m2, k2m3]
  instanceTypes := #[]
  staticTypes := #[]
  resolved := Array.replicate 53 none
  statics := none }

def pool3 : Array CpInfo := pool [(1, .class_ 2), (0, u "com/example/ghost_state/ghoststate/Shadows$PrefixTree"), (0, .class_ 4), (0, u "java/lang/Object"), (0, u "states"), (0, u "()I"), (0, u "parent"), (0, u "(I)I"), (0, u "element"), (0, u "(I)C"), (0, u "child"), (0, u "(IC)I"), (3, .class_ 17), (0, u "com/example/ghost_state/ghoststate/Shadows")] 2

def k3m0 : Method := { name := "states", desc := "()I", sig := { parameters := [], returnType := some .int }, accessFlags := 1025, code := none }
def k3m1 : Method := { name := "parent", desc := "(I)I", sig := { parameters := [.int], returnType := some .int }, accessFlags := 1025, code := none }
def k3m2 : Method := { name := "element", desc := "(I)C", sig := { parameters := [.int], returnType := some .char }, accessFlags := 1025, code := none }
def k3m3 : Method := { name := "child", desc := "(IC)I", sig := { parameters := [.int, .char], returnType := some .int }, accessFlags := 1025, code := none }
/-- com/example/ghost_state/ghoststate/Shadows$PrefixTree -/
def k3 : Class := { plain "com/example/ghost_state/ghoststate/Shadows$PrefixTree" (some 0) with
  accessFlags := 1536
  interfaces := #[]
  cf := some (fileOf pool3 1 #[.nestHost 16] #[{ accessFlags := 1025, nameIndex := 5, descriptorIndex := 6, attributes := #[] }, { accessFlags := 1025, nameIndex := 7, descriptorIndex := 8, attributes := #[] }, { accessFlags := 1025, nameIndex := 9, descriptorIndex := 10, attributes := #[] }, { accessFlags := 1025, nameIndex := 11, descriptorIndex := 12, attributes := #[] }] 1536 3 #[] #[])
  fields := #[]
  methods := #[k3m0, k3m1, k3m2, k3m3]
  instanceTypes := #[]
  staticTypes := #[]
  resolved := Array.replicate 20 none
  statics := none }

def pool4 : Array CpInfo := pool [(1, .methodref 2 3), (0, .class_ 4), (0, .nameAndType 5 6), (0, u "java/lang/Object"), (0, u "<init>"), (0, u "()V"), (0, .fieldref 8 9), (0, .class_ 10), (0, .nameAndType 11 12), (0, u "com/example/ghost_state/ghoststate/Shadows$Path"), (0, u "pattern"), (0, u "[C"), (0, .class_ 14), (0, u "com/example/ghost_state/ghoststate/Shadows$PrefixTree"), (0, u "([C)V"), (2, u "states"), (0, u "()I"), (0, u "parent"), (0, u "(I)I"), (0, u "element"), (0, u "(I)C"), (0, u "child"), (0, u "(IC)I"), (4, .class_ 31), (0, u "com/example/ghost_state/ghoststate/Shadows")] 3

def k4c0 : Code := { maxStack := 2, maxLocals := 2, code := prog_24_method_1_code, exceptionTable := #[], attributes := #[] }
def k4m0 : Method := { name := "<init>", desc := "([C)V", sig := { parameters := [(.array .char)], returnType := none }, accessFlags := 0, code := some k4c0 }
def k4c1 : Code := { maxStack := 2, maxLocals := 1, code := prog_24_method_2_code, exceptionTable := #[], attributes := #[] }
def k4m1 : Method := { name := "states", desc := "()I", sig := { parameters := [], returnType := some .int }, accessFlags := 1, code := some k4c1 }
def k4c2 : Code := { maxStack := 2, maxLocals := 2, code := prog_24_method_3_code, exceptionTable := #[], attributes := #[] }
def k4m2 : Method := { name := "parent", desc := "(I)I", sig := { parameters := [.int], returnType := some .int }, accessFlags := 1, code := some k4c2 }
def k4c3 : Code := { maxStack := 3, maxLocals := 2, code := prog_24_method_4_code, exceptionTable := #[], attributes := #[] }
def k4m3 : Method := { name := "element", desc := "(I)C", sig := { parameters := [.int], returnType := some .char }, accessFlags := 1, code := some k4c3 }
def k4c4 : Code := { maxStack := 2, maxLocals := 3, code := prog_24_method_5_code, exceptionTable := #[], attributes := #[] }
def k4m4 : Method := { name := "child", desc := "(IC)I", sig := { parameters := [.int, .char], returnType := some .int }, accessFlags := 1, code := some k4c4 }
/-- com/example/ghost_state/ghoststate/Shadows$Path -/
def k4 : Class := { plain "com/example/ghost_state/ghoststate/Shadows$Path" (some 0) with
  accessFlags := 48
  interfaces := #[3]
  cf := some (fileOf pool4 8 #[.nestHost 30] #[{ accessFlags := 0, nameIndex := 5, descriptorIndex := 15, attributes := #[] }, { accessFlags := 1, nameIndex := 18, descriptorIndex := 19, attributes := #[] }, { accessFlags := 1, nameIndex := 20, descriptorIndex := 21, attributes := #[] }, { accessFlags := 1, nameIndex := 22, descriptorIndex := 23, attributes := #[] }, { accessFlags := 1, nameIndex := 24, descriptorIndex := 25, attributes := #[] }] 48 2 #[13] #[{ accessFlags := 18, nameIndex := 11, descriptorIndex := 12, attributes := #[] }])
  fields := #[{ name := "pattern", type := (.array .char), accessFlags := 18, slot := 0, constantValue := 0 }]
  methods := #[k4m0, k4m1, k4m2, k4m3, k4m4]
  instanceTypes := #[(.array .char)]
  staticTypes := #[]
  resolved := Array.replicate 35 none
  statics := none }

def pool5 : Array CpInfo := pool [(1, u "java/lang/Cloneable"), (0, .class_ 1), (0, u "java/lang/Object"), (0, .class_ 3)] 3

/-- java/lang/Cloneable -/
def k5 : Class := { plain "java/lang/Cloneable" (some 0) with
  accessFlags := 1537
  interfaces := #[]
  cf := some (fileOf pool5 2 #[] #[] 1537 4 #[] #[])
  fields := #[]
  methods := #[]
  instanceTypes := #[]
  staticTypes := #[]
  resolved := Array.replicate 8 none
  statics := none }

def pool6 : Array CpInfo := pool [(1, u "java/io/Serializable"), (0, .class_ 1), (0, u "java/lang/Object"), (0, .class_ 3)] 3

/-- java/io/Serializable -/
def k6 : Class := { plain "java/io/Serializable" (some 0) with
  accessFlags := 1537
  interfaces := #[]
  cf := some (fileOf pool6 2 #[] #[] 1537 4 #[] #[])
  fields := #[]
  methods := #[]
  instanceTypes := #[]
  staticTypes := #[]
  resolved := Array.replicate 8 none
  statics := none }

/-- the primitive byte -/
def k7 : Class := { plain "byte" none with kind := .primitive 'B', accessFlags := 0x411 }
/-- [B -/
def k8 : Class := { plain "[B" (some 0) with kind := .array 7 .byte, interfaces := #[5, 6], accessFlags := 1041 }

/-- the primitive char -/
def k9 : Class := { plain "char" none with kind := .primitive 'C', accessFlags := 0x411 }
/-- [C -/
def k10 : Class := { plain "[C" (some 0) with kind := .array 9 .char, interfaces := #[5, 6], accessFlags := 1041 }

/-- the primitive int -/
def k11 : Class := { plain "int" none with kind := .primitive 'I', accessFlags := 0x411 }
/-- [I -/
def k12 : Class := { plain "[I" (some 0) with kind := .array 11 .int, interfaces := #[5, 6], accessFlags := 1041 }

def heap : Heap := #[]
def classes : Array Class := #[k0, k1, k2, k3, k4, k5, k6, k7, k8, k9, k10, k11, k12]
def interned : List (Array UInt16 × Addr) := []
def slotsUsed : Nat := 0
def theMethod : MethodId := ⟨1, 3⟩
def args0 : Array Value := #[.int 5, .int 1, .int 1, .int 9, .int 4, .int 4]
def aboutOver (below : List Frame) : State where
  vm := { classes := classes, interned := interned.toArray }
  heap := heap
  slotsUsed := slotsUsed
  threads := #[{ frames := .invoking theMethod args0 :: below }]
def below0 : List Frame := [.native { method := ⟨0, 0⟩, args := #[] }]
def about1 : State := aboutOver below0
def p0 : Program := .bare "" "" ""
def e0 : Env := launch0.env 0 0 0
theorem w_frames : about1.frames = Frame.invoking theMethod args0 :: below0 := rfl
set_option maxRecDepth 65536 in
theorem w_args : argsFit about1.vm theMethod args0 = true := by decide +kernel
set_option maxRecDepth 65536 in
theorem w_heap : heapFits about1 = true := by decide +kernel
set_option maxRecDepth 65536 in
theorem w_runnable : about1.curStatus? = some .runnable := by decide +kernel
set_option maxRecDepth 65536 in
theorem w_alone : about1.alone = true := by decide +kernel
set_option maxRecDepth 65536 in
theorem w_named : about1.methodNamed? x = some theMethod := by decide +kernel
set_option maxRecDepth 65536 in
theorem w_hears : about1.hears theMethod below0 = true := by decide +kernel
set_option maxRecDepth 65536 in
theorem w_ripe : about1.ripe theMethod args0 below0 = true := by decide +kernel
theorem w_running : about1.status = .running := rfl
set_option maxRecDepth 65536 in
theorem w_room : about1.hasRoom e0.platform room_1 = true :=
  launch0.hasRoom_least _ room_1 (by decide +kernel) (by decide +kernel) (by decide +kernel) (by decide +kernel) (by decide +kernel) (by decide +kernel)
theorem allAtoms_all (ts : List Jvm.Cond) (a : Array Jvm.Value) (st : Jvm.State) : (allAtoms ts).before a st = ts.all (fun c => c.before a st) := by
  induction ts with
  | nil => rfl
  | cons c t ih =>
    show (Jvm.Cond.and c (allAtoms t)).before a st = _
    rw [Jvm.Cond.before_and, ih, List.all_cons]
def words1 : List Jvm.Cond := Jvm.Cond.code x code maxLocals ret :: tables_1
/-- a 'code' word, met by the world's own term for the bytes: nothing is compared byte by byte -/
theorem code_word {y : MethodName} {bytes : ByteArray} {mx : Nat} {rt : Option FieldType} {a : Array Value} {s : State} {m : MethodId} {meth : Method} {c : Code} (h1 : s.methodNamed? y = some m) (h2 : s.vm.method? m = some meth) (h3 : meth.code = some c) (h4 : c.code = bytes)
    (h5 : (c.maxLocals == mx && c.exceptionTable.isEmpty && decide (c.maxStack ≤ mostOperands) && decide (meth.sig.returnType = rt) && !meth.locks && decide (parseMethodDescriptor y.desc = some meth.sig)) = true) : (Jvm.Cond.code y bytes mx rt).before a s = true := by
  simp only [Bool.and_eq_true, beq_iff_eq, Bool.not_eq_true', decide_eq_true_eq] at h5
  obtain ⟨⟨⟨⟨⟨g1, g2⟩, g3⟩, g4⟩, g5⟩, g6⟩ := h5
  simp [Cond.before, Cond.holds, Cond.value, h1, h2, h3, h4, g1, g2, g3, g4, g5, g6]
def isCode : Jvm.Cond → Bool
  | .code _ _ _ _ => true
  | _ => false
theorem all_split {L : List Jvm.Cond} {P : Jvm.Cond → Bool} (h1 : L.all (fun c => isCode c || P c) = true) (h2 : ∀ c ∈ L.filter isCode, P c = true) : L.all P = true := by
  refine List.all_eq_true.mpr fun c hc => ?_
  have h := List.all_eq_true.mp h1 c hc
  rcases Bool.eq_false_or_eq_true (isCode c) with hi | hi
  · exact h2 c (List.mem_filter.mpr ⟨hc, hi⟩)
  · simpa [hi] using h
set_option maxRecDepth 65536 in
theorem w_c0 : (Jvm.Cond.code x code maxLocals ret).before args0 about1 = true := code_word (m := ⟨1, 3⟩) (meth := k1m3) (c := k1c3) (by decide +kernel) rfl rfl rfl (by decide +kernel)
set_option maxRecDepth 65536 in
theorem w_c1 : (Jvm.Cond.code ({ cls := "com/example/ghost_state/ghoststate/Shadows", name := "of", desc := "([C)[I" } : Jvm.MethodName) prog_23_method_2_code (1 : Nat) (Option.some (Jvm.ClassFile.FieldType.array Jvm.ClassFile.FieldType.int))).before args0 about1 = true := code_word (m := ⟨2, 1⟩) (meth := k2m1) (c := k2c1) (by decide +kernel) rfl rfl rfl (by decide +kernel)
set_option maxRecDepth 65536 in
theorem w_c2 : (Jvm.Cond.code ({ cls := "com/example/ghost_state/ghoststate/Shadows$Path", name := "<init>", desc := "([C)V" } : Jvm.MethodName) prog_24_method_1_code (2 : Nat) (Option.none : Option Jvm.ClassFile.FieldType)).before args0 about1 = true := code_word (m := ⟨4, 0⟩) (meth := k4m0) (c := k4c0) (by decide +kernel) rfl rfl rfl (by decide +kernel)
set_option maxRecDepth 65536 in
theorem w_c3 : (Jvm.Cond.code ({ cls := "java/lang/Object", name := "<init>", desc := "()V" } : Jvm.MethodName) object_method_1_code (1 : Nat) (Option.none : Option Jvm.ClassFile.FieldType)).before args0 about1 = true := code_word (m := ⟨0, 0⟩) (meth := k0m0) (c := k0c0) (by decide +kernel) rfl rfl rfl (by decide +kernel)
set_option maxRecDepth 65536 in
theorem w_c4 : (Jvm.Cond.code ({ cls := "com/example/ghost_state/ghoststate/Shadows", name := "of", desc := "(Lcom/example/ghost_state/ghoststate/Shadows$PrefixTree;)[I" } : Jvm.MethodName) prog_23_method_3_code (3 : Nat) (Option.some (Jvm.ClassFile.FieldType.array Jvm.ClassFile.FieldType.int))).before args0 about1 = true := code_word (m := ⟨2, 2⟩) (meth := k2m2) (c := k2c2) (by decide +kernel) rfl rfl rfl (by decide +kernel)
set_option maxRecDepth 65536 in
theorem w_c5 : (Jvm.Cond.code ({ cls := "com/example/ghost_state/ghoststate/Shadows$Path", name := "states", desc := "()I" } : Jvm.MethodName) prog_24_method_2_code (1 : Nat) (Option.some Jvm.ClassFile.FieldType.int)).before args0 about1 = true := code_word (m := ⟨4, 1⟩) (meth := k4m1) (c := k4c1) (by decide +kernel) rfl rfl rfl (by decide +kernel)
set_option maxRecDepth 65536 in
theorem w_c6 : (Jvm.Cond.code ({ cls := "com/example/ghost_state/ghoststate/Shadows$Path", name := "parent", desc := "(I)I" } : Jvm.MethodName) prog_24_method_3_code (2 : Nat) (Option.some Jvm.ClassFile.FieldType.int)).before args0 about1 = true := code_word (m := ⟨4, 2⟩) (meth := k4m2) (c := k4c2) (by decide +kernel) rfl rfl rfl (by decide +kernel)
set_option maxRecDepth 65536 in
theorem w_c7 : (Jvm.Cond.code ({ cls := "com/example/ghost_state/ghoststate/Shadows$Path", name := "element", desc := "(I)C" } : Jvm.MethodName) prog_24_method_4_code (2 : Nat) (Option.some Jvm.ClassFile.FieldType.char)).before args0 about1 = true := code_word (m := ⟨4, 3⟩) (meth := k4m3) (c := k4c3) (by decide +kernel) rfl rfl rfl (by decide +kernel)
set_option maxRecDepth 65536 in
theorem w_c8 : (Jvm.Cond.code ({ cls := "com/example/ghost_state/ghoststate/Shadows", name := "next", desc := "(Lcom/example/ghost_state/ghoststate/Shadows$PrefixTree;[IIC)I" } : Jvm.MethodName) prog_23_method_4_code (6 : Nat) (Option.some Jvm.ClassFile.FieldType.int)).before args0 about1 = true := code_word (m := ⟨2, 3⟩) (meth := k2m3) (c := k2c3) (by decide +kernel) rfl rfl rfl (by decide +kernel)
set_option maxRecDepth 65536 in
theorem w_c9 : (Jvm.Cond.code ({ cls := "com/example/ghost_state/ghoststate/Shadows$Path", name := "child", desc := "(IC)I" } : Jvm.MethodName) prog_24_method_5_code (3 : Nat) (Option.some Jvm.ClassFile.FieldType.int)).before args0 about1 = true := code_word (m := ⟨4, 4⟩) (meth := k4m4) (c := k4c4) (by decide +kernel) rfl rfl rfl (by decide +kernel)
set_option maxRecDepth 65536 in
theorem w_c10 : (Jvm.Cond.code ({ cls := "com/example/ghost_state/ghoststate/ShadowsOfPinLaw", name := "border", desc := "([CI)I" } : Jvm.MethodName) method_3_code (2 : Nat) (Option.some Jvm.ClassFile.FieldType.int)).before args0 about1 = true := code_word (m := ⟨1, 2⟩) (meth := k1m2) (c := k1c2) (by decide +kernel) rfl rfl rfl (by decide +kernel)
set_option maxRecDepth 65536 in
theorem w_c11 : (Jvm.Cond.code ({ cls := "com/example/ghost_state/ghoststate/ShadowsOfPinLaw", name := "same", desc := "([CII)Z" } : Jvm.MethodName) method_2_code (4 : Nat) (Option.some Jvm.ClassFile.FieldType.boolean)).before args0 about1 = true := code_word (m := ⟨1, 1⟩) (meth := k1m1) (c := k1c1) (by decide +kernel) rfl rfl rfl (by decide +kernel)
def codes1 : List Jvm.Cond := [Jvm.Cond.code x code maxLocals ret, Jvm.Cond.code ({ cls := "com/example/ghost_state/ghoststate/Shadows", name := "of", desc := "([C)[I" } : Jvm.MethodName) prog_23_method_2_code (1 : Nat) (Option.some (Jvm.ClassFile.FieldType.array Jvm.ClassFile.FieldType.int)), Jvm.Cond.code ({ cls := "com/example/ghost_state/ghoststate/Shadows$Path", name := "<init>", desc := "([C)V" } : Jvm.MethodName) prog_24_method_1_code (2 : Nat) (Option.none : Option Jvm.ClassFile.FieldType), Jvm.Cond.code ({ cls := "java/lang/Object", name := "<init>", desc := "()V" } : Jvm.MethodName) object_method_1_code (1 : Nat) (Option.none : Option Jvm.ClassFile.FieldType), Jvm.Cond.code ({ cls := "com/example/ghost_state/ghoststate/Shadows", name := "of", desc := "(Lcom/example/ghost_state/ghoststate/Shadows$PrefixTree;)[I" } : Jvm.MethodName) prog_23_method_3_code (3 : Nat) (Option.some (Jvm.ClassFile.FieldType.array Jvm.ClassFile.FieldType.int)), Jvm.Cond.code ({ cls := "com/example/ghost_state/ghoststate/Shadows$Path", name := "states", desc := "()I" } : Jvm.MethodName) prog_24_method_2_code (1 : Nat) (Option.some Jvm.ClassFile.FieldType.int), Jvm.Cond.code ({ cls := "com/example/ghost_state/ghoststate/Shadows$Path", name := "parent", desc := "(I)I" } : Jvm.MethodName) prog_24_method_3_code (2 : Nat) (Option.some Jvm.ClassFile.FieldType.int), Jvm.Cond.code ({ cls := "com/example/ghost_state/ghoststate/Shadows$Path", name := "element", desc := "(I)C" } : Jvm.MethodName) prog_24_method_4_code (2 : Nat) (Option.some Jvm.ClassFile.FieldType.char), Jvm.Cond.code ({ cls := "com/example/ghost_state/ghoststate/Shadows", name := "next", desc := "(Lcom/example/ghost_state/ghoststate/Shadows$PrefixTree;[IIC)I" } : Jvm.MethodName) prog_23_method_4_code (6 : Nat) (Option.some Jvm.ClassFile.FieldType.int), Jvm.Cond.code ({ cls := "com/example/ghost_state/ghoststate/Shadows$Path", name := "child", desc := "(IC)I" } : Jvm.MethodName) prog_24_method_5_code (3 : Nat) (Option.some Jvm.ClassFile.FieldType.int), Jvm.Cond.code ({ cls := "com/example/ghost_state/ghoststate/ShadowsOfPinLaw", name := "border", desc := "([CI)I" } : Jvm.MethodName) method_3_code (2 : Nat) (Option.some Jvm.ClassFile.FieldType.int), Jvm.Cond.code ({ cls := "com/example/ghost_state/ghoststate/ShadowsOfPinLaw", name := "same", desc := "([CII)Z" } : Jvm.MethodName) method_2_code (4 : Nat) (Option.some Jvm.ClassFile.FieldType.boolean)]
set_option maxRecDepth 65536 in
theorem codes_eq : words1.filter isCode = codes1 := rfl
theorem w_codes : ∀ c ∈ words1.filter isCode, c.before args0 about1 = true := by
  rw [codes_eq]
  intro c hc
  simp only [codes1, List.mem_cons, List.not_mem_nil, or_false] at hc
  rcases hc with rfl | rfl | rfl | rfl | rfl | rfl | rfl | rfl | rfl | rfl | rfl | rfl
  · exact w_c0
  · exact w_c1
  · exact w_c2
  · exact w_c3
  · exact w_c4
  · exact w_c5
  · exact w_c6
  · exact w_c7
  · exact w_c8
  · exact w_c9
  · exact w_c10
  · exact w_c11
set_option maxRecDepth 65536 in
theorem w_t1 : (words1.take 24).all (fun c => isCode c || c.before args0 about1) = true := by decide +kernel
set_option maxRecDepth 65536 in
theorem w_t2 : ((words1.drop 24).take 24).all (fun c => isCode c || c.before args0 about1) = true := by decide +kernel
set_option maxRecDepth 65536 in
theorem w_t3 : ((words1.drop 24).drop 24).all (fun c => isCode c || c.before args0 about1) = true := by decide +kernel
theorem w_tables : (allAtoms (Jvm.Cond.code x code maxLocals ret :: tables_1)).before args0 about1 = true := by
  rw [allAtoms_all]
  show words1.all (fun c => c.before args0 about1) = true
  refine all_split ?_ w_codes
  rw [← List.take_append_drop 24 words1, List.all_append, w_t1, ← List.take_append_drop 24 (words1.drop 24), List.all_append, w_t2, w_t3]
  rfl
set_option maxRecDepth 65536 in
theorem w_case : (Jvm.Cond.and given_1 narrow_1).before args0 about1 = true := by decide +kernel
theorem w_applies : (headSpec (Jvm.Cond.code x code maxLocals ret :: tables_1) room_1).applies x e0.platform about1 = true :=
  (Spec.applies_iff w_frames).mpr ⟨w_running, w_runnable, w_alone, w_named, w_hears, w_ripe, w_room, w_tables⟩
theorem atStart : AtStart classFile x code maxLocals ret World_1 tables_1 room_1 Calls_1 rest_1 Pre_1 launch0 p0 e0 about1 theMethod args0 below0 :=
  ⟨lists_1, trivial, launch0.admits_env _ _ _, launch0.least_env, fairChoices_fair.cas, fairChoices_fair.clock, w_frames, w_args, w_heap, w_applies, trivial, trivial, w_case⟩
end start1
theorem witness_1 : WitnessClaimed_1 := ⟨start1.p0, start1.e0, start1.about1, start1.theMethod, start1.args0, start1.below0, start1.atStart⟩
end Jvm.Pilot.@@N@@
