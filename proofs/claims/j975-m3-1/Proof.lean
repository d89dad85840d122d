import JvmDerived
import JvmDerived.Pilot.@@N@@Statement
import JvmDerived.Pilot.@@N@@Code
set_option linter.unusedVariables false
set_option linter.unusedSimpArgs false
namespace Jvm.OwnK
open Sem ClassFile Op Lib Jvm.Stand Jvm.Free Jvm.LawKit Jvm.RoadKit
def Ctx : Type := Program × Launch × Env × State × MethodId × Array Value × List Frame × Method × Code
def Ctx.p (K : Ctx) : Program := K.1
def Ctx.l (K : Ctx) : Launch := K.2.1
def Ctx.e (K : Ctx) : Env := K.2.2.1
def Ctx.s (K : Ctx) : State := K.2.2.2.1
def Ctx.m (K : Ctx) : MethodId := K.2.2.2.2.1
def Ctx.args (K : Ctx) : Array Value := K.2.2.2.2.2.1
def Ctx.below (K : Ctx) : List Frame := K.2.2.2.2.2.2.1
def Ctx.meth (K : Ctx) : Method := K.2.2.2.2.2.2.2.1
def Ctx.c (K : Ctx) : Code := K.2.2.2.2.2.2.2.2
/-- from here the run ends by a return that answers Q -/
def Go (K : Ctx) (R : Room) (n0 : Nat) (Q : Option Value → Heap → Prop) (T : State) (pc : Nat) (L : Array Slot) (st : List Value) : Prop :=
  ∃ (s₂ : State) (o : Outcome), Steps K.p.tables K.e K.below (T.setTop (mkF K.m pc L st)) s₂ ∧ s₂.status = .running ∧ Ended s₂ K.below o ∧
    ∃ (v : Option Value) (Lc : List Loc), o = .returned v ∧ (Q v s₂.heap ∧ Fr n0 Lc) ∧ FrameEnd K.s o s₂ Lc R.cells R.slots
/-- where the run stands -/
def St (K : Ctx) (Z : State) (R : Room) (y : MethodName) (bytes : ByteArray) (maxL : Nat) (ret : Option FieldType) (n0 : Nat) (T : State) (h : Heap) (cells slots : Nat) : Prop :=
  (∃ locs, Stand K.p K.l K.e R K.s K.m K.args K.below K.meth K.c T locs cells slots ∧ Fr n0 locs) ∧ T.heap = h ∧ n0 ≤ K.s.heap.size ∧ K.p.tables.exec = Jvm.exec ∧ Z.Warmed39 K.s.vm ∧ K.c.code = bytes ∧ K.c.maxLocals = maxL ∧
    K.meth.sig.returnType = ret ∧ K.meth.locks = false ∧ K.s.vm.findClass y.cls = some K.m.cls ∧ K.meth.name = y.name
/-- what a body does, called with the arguments as' at the heap h -/
def Ctr (Z : State) (n0 : Nat) (y : MethodName) (bytes : ByteArray) (maxL : Nat) (ret : Option FieldType) (R : Room) (as' : List Value) (h : Heap) (Q : Option Value → Heap → Prop) : Prop :=
  ∀ (l : Launch) (ws : List Jvm.Cond), MetFree l y (head1 (Jvm.Cond.code y bytes maxL ret :: ws) R) (fun a U => a = as'.toArray ∧ Z.Warmed39 U.vm ∧ U.heap = h) (fun _ _ _ _ _ => True)
    (fun _ U o U' => ∃ v L, o = .returned v ∧ (Q v U'.heap ∧ Fr n0 L) ∧ FrameEnd U o U' L R.cells R.slots)
section Kit
variable {K : Ctx} {Z : State} {R : Room} {y : MethodName} {bytes : ByteArray} {maxL : Nat} {ret : Option FieldType} {n0 : Nat} {T : State} {h : Heap} {cl sl : Nat} {Q : Option Value → Heap → Prop} {pc pc' : Nat} {L L' : Array Slot} {st : List Value} {a0 : Array Value}
theorem Go.step {T' : State} {st' : List Value} (hs : ∀ target, Steps K.p.tables K.e K.below (T'.setTop (mkF K.m pc' L' st')) target → Steps K.p.tables K.e K.below (T.setTop (mkF K.m pc L st)) target) (k : Go K R n0 Q T' pc' L' st') : Go K R n0 Q T pc L st := by
  obtain ⟨s₂, o, h1, r⟩ := k
  exact ⟨s₂, o, hs _ h1, r⟩
theorem St.size (S : St K Z R y bytes maxL ret n0 T h cl sl) : n0 ≤ h.size := by
  obtain ⟨⟨locs, X, hF⟩, e0, hn, -⟩ := S
  have q : K.s.heap.size ≤ T.heap.size := X.same.2.1
  rw [← e0]; exact Nat.le_trans hn q
theorem St.more (S : St K Z R y bytes maxL ret n0 T h cl sl) {cl' sl' : Nat} (h1 : cl ≤ cl') (h2 : sl ≤ sl') : St K Z R y bytes maxL ret n0 T h cl' sl' := by
  obtain ⟨⟨locs, X, hF⟩, r⟩ := S
  exact ⟨⟨locs, X.more h1 h2, hF⟩, r⟩
theorem Ctr.of {as' : List Value} (hpl : plainFor y = true) (hn : n0 ≤ h.size) (hef : ∀ m, entryFrame m as'.toArray maxL = mkF m 0 L []) (body : ∀ (K : Ctx) (T : State), St K Z R y bytes maxL ret n0 T h 0 0 → Go K R n0 Q T 0 L []) : Ctr Z n0 y bytes maxL ret R as' h Q := by
  intro l ws
  refine MetFree.of_bodySF hpl hisR ?_
  intro p e s m args below meth c s₁ Bd hml0 hP hK
  obtain ⟨rfl, hZ, hh⟩ := hP
  have e0 : s₁.heap = h := by rw [← hh, Bd.state]; rfl
  have X0 : Stand p l e R s m as'.toArray below meth c s₁ [] 0 0 := Stand.of_body Bd
  obtain ⟨s₂, o, h1, h2, h3, h4⟩ := body (p, l, e, s, m, as'.toArray, below, meth, c) s₁ ⟨⟨[], X0, Fr.nil _⟩, e0, by rw [← hh] at hn; exact hn, Bd.exec, hZ, Bd.bytes, hml0, Bd.returns, BodyLoose.notSynchronized Bd, findClass_of_methodNamed Bd.named, (name_of_methodNamed Bd.named Bd.method).1⟩
  exact ⟨s₂, o, castTop (hef m) h1, h2, h3, h4⟩
theorem Ctr.imp {as' : List Value} {Q' : Option Value → Heap → Prop} (C : Ctr Z n0 y bytes maxL ret R as' h Q) (hq : ∀ v h', Q v h' → Q' v h') : Ctr Z n0 y bytes maxL ret R as' h Q' := by
  intro l ws p e ha hc hk s m args below hf happ hP hK
  obtain ⟨n, o, h1, h2, h3, v, L, e1, ⟨e2, e3⟩, e4⟩ := C l ws p e ha hc hk s m args below hf happ hP hK
  exact ⟨n, o, h1, h2, h3, v, L, e1, ⟨hq _ _ e2, e3⟩, e4⟩

theorem px_iload (S : St K Z R y bytes maxL ret n0 T h cl sl) {k : Nat} {v : Int32} (hd : decode bytes pc = .ok (.iload k, 2)) (hp : pc + 2 = pc') (hl : L[k]? = some (.val (.int v))) (k : Go K R n0 Q T pc' L (.int v :: st)) : Go K R n0 Q T pc L st := by
  subst hp
  obtain ⟨⟨locs, X, hF⟩, e0, hn0, hx, hZ, hby, hml, hret, hlk, hown, hnm⟩ := S
  exact Go.step (fun _ t => XS.iload X.here hx rfl (hb hby hd) hl t) k
theorem px_iloadN (S : St K Z R y bytes maxL ret n0 T h cl sl) {k : Fin 4} {v : Int32} (hd : decode bytes pc = .ok (.iload_n k, 1)) (hp : pc + 1 = pc') (hl : L[k.val]? = some (.val (.int v))) (k : Go K R n0 Q T pc' L (.int v :: st)) : Go K R n0 Q T pc L st := by
  subst hp
  obtain ⟨⟨locs, X, hF⟩, e0, hn0, hx, hZ, hby, hml, hret, hlk, hown, hnm⟩ := S
  exact Go.step (fun _ t => XS.iloadN X.here hx rfl (hb hby hd) hl t) k
theorem px_lload (S : St K Z R y bytes maxL ret n0 T h cl sl) {k : Nat} {v : Int64} (hd : decode bytes pc = .ok (.lload k, 2)) (hp : pc + 2 = pc') (hl : L[k]? = some (.val (.long v))) (k : Go K R n0 Q T pc' L (.long v :: st)) : Go K R n0 Q T pc L st := by
  subst hp
  obtain ⟨⟨locs, X, hF⟩, e0, hn0, hx, hZ, hby, hml, hret, hlk, hown, hnm⟩ := S
  exact Go.step (fun _ t => XS.lload X.here hx rfl (hb hby hd) hl t) k
theorem px_lloadN (S : St K Z R y bytes maxL ret n0 T h cl sl) {k : Fin 4} {v : Int64} (hd : decode bytes pc = .ok (.lload_n k, 1)) (hp : pc + 1 = pc') (hl : L[k.val]? = some (.val (.long v))) (k : Go K R n0 Q T pc' L (.long v :: st)) : Go K R n0 Q T pc L st := by
  subst hp
  obtain ⟨⟨locs, X, hF⟩, e0, hn0, hx, hZ, hby, hml, hret, hlk, hown, hnm⟩ := S
  exact Go.step (fun _ t => XS.lloadN X.here hx rfl (hb hby hd) hl t) k
theorem px_aload (S : St K Z R y bytes maxL ret n0 T h cl sl) {k : Nat} {v : Value} (hd : decode bytes pc = .ok (.aload k, 2)) (hp : pc + 2 = pc') (hl : L[k]? = some (.val v)) (hv : v.isRef = true) (k : Go K R n0 Q T pc' L (v :: st)) : Go K R n0 Q T pc L st := by
  subst hp
  obtain ⟨⟨locs, X, hF⟩, e0, hn0, hx, hZ, hby, hml, hret, hlk, hown, hnm⟩ := S
  exact Go.step (fun _ t => XS.aload X.here hx rfl (hb hby hd) hl hv t) k
theorem px_aloadN (S : St K Z R y bytes maxL ret n0 T h cl sl) {k : Fin 4} {v : Value} (hd : decode bytes pc = .ok (.aload_n k, 1)) (hp : pc + 1 = pc') (hl : L[k.val]? = some (.val v)) (hv : v.isRef = true) (k : Go K R n0 Q T pc' L (v :: st)) : Go K R n0 Q T pc L st := by
  subst hp
  obtain ⟨⟨locs, X, hF⟩, e0, hn0, hx, hZ, hby, hml, hret, hlk, hown, hnm⟩ := S
  exact Go.step (fun _ t => XS.aloadN X.here hx rfl (hb hby hd) hl hv t) k
theorem px_istore (S : St K Z R y bytes maxL ret n0 T h cl sl) {k : Nat} {v : Int32} (hd : decode bytes pc = .ok (.istore k, 2)) (hp : pc + 2 = pc') (hl : storeLocals L k (.int v) = some L') (k : Go K R n0 Q T pc' L' st) : Go K R n0 Q T pc L (.int v :: st) := by
  subst hp
  obtain ⟨⟨locs, X, hF⟩, e0, hn0, hx, hZ, hby, hml, hret, hlk, hown, hnm⟩ := S
  exact Go.step (fun _ t => XS.istore X.here hx rfl (hb hby hd) rfl hl t) k
theorem px_istoreN (S : St K Z R y bytes maxL ret n0 T h cl sl) {k : Fin 4} {v : Int32} (hd : decode bytes pc = .ok (.istore_n k, 1)) (hp : pc + 1 = pc') (hl : storeLocals L k.val (.int v) = some L') (k : Go K R n0 Q T pc' L' st) : Go K R n0 Q T pc L (.int v :: st) := by
  subst hp
  obtain ⟨⟨locs, X, hF⟩, e0, hn0, hx, hZ, hby, hml, hret, hlk, hown, hnm⟩ := S
  exact Go.step (fun _ t => XS.istoreN X.here hx rfl (hb hby hd) rfl hl t) k
theorem px_lstore (S : St K Z R y bytes maxL ret n0 T h cl sl) {k : Nat} {v : Int64} (hd : decode bytes pc = .ok (.lstore k, 2)) (hp : pc + 2 = pc') (hl : storeLocals L k (.long v) = some L') (k : Go K R n0 Q T pc' L' st) : Go K R n0 Q T pc L (.long v :: st) := by
  subst hp
  obtain ⟨⟨locs, X, hF⟩, e0, hn0, hx, hZ, hby, hml, hret, hlk, hown, hnm⟩ := S
  exact Go.step (fun _ t => XS.lstore X.here hx rfl (hb hby hd) rfl hl t) k
theorem px_lstoreN (S : St K Z R y bytes maxL ret n0 T h cl sl) {k : Fin 4} {v : Int64} (hd : decode bytes pc = .ok (.lstore_n k, 1)) (hp : pc + 1 = pc') (hl : storeLocals L k.val (.long v) = some L') (k : Go K R n0 Q T pc' L' st) : Go K R n0 Q T pc L (.long v :: st) := by
  subst hp
  obtain ⟨⟨locs, X, hF⟩, e0, hn0, hx, hZ, hby, hml, hret, hlk, hown, hnm⟩ := S
  exact Go.step (fun _ t => XS.lstoreN X.here hx rfl (hb hby hd) rfl hl t) k
theorem px_astore (S : St K Z R y bytes maxL ret n0 T h cl sl) {k : Nat} {v : Value} (hd : decode bytes pc = .ok (.astore k, 2)) (hp : pc + 2 = pc') (hv : v.isRef = true) (hl : storeLocals L k v = some L') (k : Go K R n0 Q T pc' L' st) : Go K R n0 Q T pc L (v :: st) := by
  subst hp
  obtain ⟨⟨locs, X, hF⟩, e0, hn0, hx, hZ, hby, hml, hret, hlk, hown, hnm⟩ := S
  exact Go.step (fun _ t => XS.astore X.here hx rfl (hb hby hd) rfl hv hl t) k
theorem px_astoreN (S : St K Z R y bytes maxL ret n0 T h cl sl) {k : Fin 4} {v : Value} (hd : decode bytes pc = .ok (.astore_n k, 1)) (hp : pc + 1 = pc') (hv : v.isRef = true) (hl : storeLocals L k.val v = some L') (k : Go K R n0 Q T pc' L' st) : Go K R n0 Q T pc L (v :: st) := by
  subst hp
  obtain ⟨⟨locs, X, hF⟩, e0, hn0, hx, hZ, hby, hml, hret, hlk, hown, hnm⟩ := S
  exact Go.step (fun _ t => XS.astoreN X.here hx rfl (hb hby hd) rfl hv hl t) k
theorem px_iconst (S : St K Z R y bytes maxL ret n0 T h cl sl) {i : Int} {v : Int32} (hd : decode bytes pc = .ok (.iconst i, 1)) (hp : pc + 1 = pc') (hv : Int32.ofInt i = v) (k : Go K R n0 Q T pc' L (.int v :: st)) : Go K R n0 Q T pc L st := by
  subst hp
  obtain ⟨⟨locs, X, hF⟩, e0, hn0, hx, hZ, hby, hml, hret, hlk, hown, hnm⟩ := S
  exact Go.step (fun _ t => XS.iconst X.here hx rfl (hb hby hd) (by rw [hv]; exact t)) k
theorem px_bipush (S : St K Z R y bytes maxL ret n0 T h cl sl) {i : Int} {v : Int32} (hd : decode bytes pc = .ok (.bipush i, 2)) (hp : pc + 2 = pc') (hv : (Int8.ofInt i).toInt32 = v) (k : Go K R n0 Q T pc' L (.int v :: st)) : Go K R n0 Q T pc L st := by
  subst hp
  obtain ⟨⟨locs, X, hF⟩, e0, hn0, hx, hZ, hby, hml, hret, hlk, hown, hnm⟩ := S
  exact Go.step (fun _ t => XS.bipush X.here hx rfl (hb hby hd) (by rw [hv]; exact t)) k
theorem px_sipush (S : St K Z R y bytes maxL ret n0 T h cl sl) {i : Int} {v : Int32} (hd : decode bytes pc = .ok (.sipush i, 3)) (hp : pc + 3 = pc') (hv : (Int16.ofInt i).toInt32 = v) (k : Go K R n0 Q T pc' L (.int v :: st)) : Go K R n0 Q T pc L st := by
  subst hp
  obtain ⟨⟨locs, X, hF⟩, e0, hn0, hx, hZ, hby, hml, hret, hlk, hown, hnm⟩ := S
  exact Go.step (fun _ t => XS.sipush X.here hx rfl (hb hby hd) (by rw [hv]; exact t)) k
theorem px_lconst (S : St K Z R y bytes maxL ret n0 T h cl sl) {i : Fin 2} {v : Int64} (hd : decode bytes pc = .ok (.lconst i, 1)) (hp : pc + 1 = pc') (hv : Int64.ofNat i = v) (k : Go K R n0 Q T pc' L (.long v :: st)) : Go K R n0 Q T pc L st := by
  subst hp
  obtain ⟨⟨locs, X, hF⟩, e0, hn0, hx, hZ, hby, hml, hret, hlk, hown, hnm⟩ := S
  exact Go.step (fun _ t => XS.lconst X.here hx rfl (hb hby hd) (by rw [hv]; exact t)) k
theorem px_aconstNull (S : St K Z R y bytes maxL ret n0 T h cl sl) (hd : decode bytes pc = .ok (.aconst_null, 1)) (hp : pc + 1 = pc') (k : Go K R n0 Q T pc' L (.null :: st)) : Go K R n0 Q T pc L st := by
  subst hp
  obtain ⟨⟨locs, X, hF⟩, e0, hn0, hx, hZ, hby, hml, hret, hlk, hown, hnm⟩ := S
  exact Go.step (fun _ t => XS.aconstNull X.here hx rfl (hb hby hd) t) k
theorem px_iadd (S : St K Z R y bytes maxL ret n0 T h cl sl) {u v : Int32} (hd : decode bytes pc = .ok (.iadd, 1)) (hp : pc + 1 = pc') (k : Go K R n0 Q T pc' L (.int (u + v) :: st)) : Go K R n0 Q T pc L (.int v :: .int u :: st) := by
  subst hp
  obtain ⟨⟨locs, X, hF⟩, e0, hn0, hx, hZ, hby, hml, hret, hlk, hown, hnm⟩ := S
  exact Go.step (fun _ t => XS.iadd X.here hx rfl (hb hby hd) rfl t) k
theorem px_ladd (S : St K Z R y bytes maxL ret n0 T h cl sl) {u v : Int64} (hd : decode bytes pc = .ok (.ladd, 1)) (hp : pc + 1 = pc') (k : Go K R n0 Q T pc' L (.long (u + v) :: st)) : Go K R n0 Q T pc L (.long v :: .long u :: st) := by
  subst hp
  obtain ⟨⟨locs, X, hF⟩, e0, hn0, hx, hZ, hby, hml, hret, hlk, hown, hnm⟩ := S
  exact Go.step (fun _ t => XS.ladd X.here hx rfl (hb hby hd) rfl t) k
theorem px_isub (S : St K Z R y bytes maxL ret n0 T h cl sl) {u v : Int32} (hd : decode bytes pc = .ok (.isub, 1)) (hp : pc + 1 = pc') (k : Go K R n0 Q T pc' L (.int (u - v) :: st)) : Go K R n0 Q T pc L (.int v :: .int u :: st) := by
  subst hp
  obtain ⟨⟨locs, X, hF⟩, e0, hn0, hx, hZ, hby, hml, hret, hlk, hown, hnm⟩ := S
  exact Go.step (fun _ t => XS.isub X.here hx rfl (hb hby hd) rfl t) k
theorem px_lsub (S : St K Z R y bytes maxL ret n0 T h cl sl) {u v : Int64} (hd : decode bytes pc = .ok (.lsub, 1)) (hp : pc + 1 = pc') (k : Go K R n0 Q T pc' L (.long (u - v) :: st)) : Go K R n0 Q T pc L (.long v :: .long u :: st) := by
  subst hp
  obtain ⟨⟨locs, X, hF⟩, e0, hn0, hx, hZ, hby, hml, hret, hlk, hown, hnm⟩ := S
  exact Go.step (fun _ t => XS.lsub X.here hx rfl (hb hby hd) rfl t) k
theorem px_imul (S : St K Z R y bytes maxL ret n0 T h cl sl) {u v : Int32} (hd : decode bytes pc = .ok (.imul, 1)) (hp : pc + 1 = pc') (k : Go K R n0 Q T pc' L (.int (u * v) :: st)) : Go K R n0 Q T pc L (.int v :: .int u :: st) := by
  subst hp
  obtain ⟨⟨locs, X, hF⟩, e0, hn0, hx, hZ, hby, hml, hret, hlk, hown, hnm⟩ := S
  exact Go.step (fun _ t => XS.imul X.here hx rfl (hb hby hd) rfl t) k
theorem px_lmul (S : St K Z R y bytes maxL ret n0 T h cl sl) {u v : Int64} (hd : decode bytes pc = .ok (.lmul, 1)) (hp : pc + 1 = pc') (k : Go K R n0 Q T pc' L (.long (u * v) :: st)) : Go K R n0 Q T pc L (.long v :: .long u :: st) := by
  subst hp
  obtain ⟨⟨locs, X, hF⟩, e0, hn0, hx, hZ, hby, hml, hret, hlk, hown, hnm⟩ := S
  exact Go.step (fun _ t => XS.lmul X.here hx rfl (hb hby hd) rfl t) k
theorem px_iand (S : St K Z R y bytes maxL ret n0 T h cl sl) {u v : Int32} (hd : decode bytes pc = .ok (.iand, 1)) (hp : pc + 1 = pc') (k : Go K R n0 Q T pc' L (.int (u &&& v) :: st)) : Go K R n0 Q T pc L (.int v :: .int u :: st) := by
  subst hp
  obtain ⟨⟨locs, X, hF⟩, e0, hn0, hx, hZ, hby, hml, hret, hlk, hown, hnm⟩ := S
  exact Go.step (fun _ t => XS.iand X.here hx rfl (hb hby hd) rfl t) k
theorem px_land (S : St K Z R y bytes maxL ret n0 T h cl sl) {u v : Int64} (hd : decode bytes pc = .ok (.land, 1)) (hp : pc + 1 = pc') (k : Go K R n0 Q T pc' L (.long (u &&& v) :: st)) : Go K R n0 Q T pc L (.long v :: .long u :: st) := by
  subst hp
  obtain ⟨⟨locs, X, hF⟩, e0, hn0, hx, hZ, hby, hml, hret, hlk, hown, hnm⟩ := S
  exact Go.step (fun _ t => XS.land X.here hx rfl (hb hby hd) rfl t) k
theorem px_ior (S : St K Z R y bytes maxL ret n0 T h cl sl) {u v : Int32} (hd : decode bytes pc = .ok (.ior, 1)) (hp : pc + 1 = pc') (k : Go K R n0 Q T pc' L (.int (u ||| v) :: st)) : Go K R n0 Q T pc L (.int v :: .int u :: st) := by
  subst hp
  obtain ⟨⟨locs, X, hF⟩, e0, hn0, hx, hZ, hby, hml, hret, hlk, hown, hnm⟩ := S
  exact Go.step (fun _ t => XS.ior X.here hx rfl (hb hby hd) rfl t) k
theorem px_lor (S : St K Z R y bytes maxL ret n0 T h cl sl) {u v : Int64} (hd : decode bytes pc = .ok (.lor, 1)) (hp : pc + 1 = pc') (k : Go K R n0 Q T pc' L (.long (u ||| v) :: st)) : Go K R n0 Q T pc L (.long v :: .long u :: st) := by
  subst hp
  obtain ⟨⟨locs, X, hF⟩, e0, hn0, hx, hZ, hby, hml, hret, hlk, hown, hnm⟩ := S
  exact Go.step (fun _ t => XS.lor X.here hx rfl (hb hby hd) rfl t) k
theorem px_ixor (S : St K Z R y bytes maxL ret n0 T h cl sl) {u v : Int32} (hd : decode bytes pc = .ok (.ixor, 1)) (hp : pc + 1 = pc') (k : Go K R n0 Q T pc' L (.int (u ^^^ v) :: st)) : Go K R n0 Q T pc L (.int v :: .int u :: st) := by
  subst hp
  obtain ⟨⟨locs, X, hF⟩, e0, hn0, hx, hZ, hby, hml, hret, hlk, hown, hnm⟩ := S
  exact Go.step (fun _ t => XS.ixor X.here hx rfl (hb hby hd) rfl t) k
theorem px_lxor (S : St K Z R y bytes maxL ret n0 T h cl sl) {u v : Int64} (hd : decode bytes pc = .ok (.lxor, 1)) (hp : pc + 1 = pc') (k : Go K R n0 Q T pc' L (.long (u ^^^ v) :: st)) : Go K R n0 Q T pc L (.long v :: .long u :: st) := by
  subst hp
  obtain ⟨⟨locs, X, hF⟩, e0, hn0, hx, hZ, hby, hml, hret, hlk, hown, hnm⟩ := S
  exact Go.step (fun _ t => XS.lxor X.here hx rfl (hb hby hd) rfl t) k
def ushr (u v : Int32) : Int32 := (u.toUInt32 >>> (v &&& 31).toUInt32).toInt32
def ushrL (u : Int64) (v : Int32) : Int64 := (u.toUInt64 >>> (v &&& 0x3f).toInt64.toUInt64).toInt64
def i2c (v : Int32) : Int32 := v.toUInt32.toUInt16.toUInt32.toInt32
def i2b (v : Int32) : Int32 := v.toInt8.toInt32
def i2s (v : Int32) : Int32 := v.toInt16.toInt32
theorem px_ishl (S : St K Z R y bytes maxL ret n0 T h cl sl) {u v : Int32} (hd : decode bytes pc = .ok (.ishl, 1)) (hp : pc + 1 = pc') (k : Go K R n0 Q T pc' L (.int (u <<< (v &&& 31)) :: st)) : Go K R n0 Q T pc L (.int v :: .int u :: st) := by
  subst hp
  obtain ⟨⟨locs, X, hF⟩, e0, hn0, hx, hZ, hby, hml, hret, hlk, hown, hnm⟩ := S
  exact Go.step (fun _ t => XS.ishl X.here hx rfl (hb hby hd) rfl t) k
theorem px_ishr (S : St K Z R y bytes maxL ret n0 T h cl sl) {u v : Int32} (hd : decode bytes pc = .ok (.ishr, 1)) (hp : pc + 1 = pc') (k : Go K R n0 Q T pc' L (.int (u >>> (v &&& 31)) :: st)) : Go K R n0 Q T pc L (.int v :: .int u :: st) := by
  subst hp
  obtain ⟨⟨locs, X, hF⟩, e0, hn0, hx, hZ, hby, hml, hret, hlk, hown, hnm⟩ := S
  exact Go.step (fun _ t => XS.ishr X.here hx rfl (hb hby hd) rfl t) k
theorem px_iushr (S : St K Z R y bytes maxL ret n0 T h cl sl) {u v : Int32} (hd : decode bytes pc = .ok (.iushr, 1)) (hp : pc + 1 = pc') (k : Go K R n0 Q T pc' L (.int (ushr u v) :: st)) : Go K R n0 Q T pc L (.int v :: .int u :: st) := by
  subst hp
  obtain ⟨⟨locs, X, hF⟩, e0, hn0, hx, hZ, hby, hml, hret, hlk, hown, hnm⟩ := S
  exact Go.step (fun _ t => XS.iushr X.here hx rfl (hb hby hd) rfl t) k
theorem px_lshl (S : St K Z R y bytes maxL ret n0 T h cl sl) {u : Int64} {v : Int32} (hd : decode bytes pc = .ok (.lshl, 1)) (hp : pc + 1 = pc') (k : Go K R n0 Q T pc' L (.long (u <<< (v &&& 0x3f).toInt64) :: st)) : Go K R n0 Q T pc L (.int v :: .long u :: st) := by
  subst hp
  obtain ⟨⟨locs, X, hF⟩, e0, hn0, hx, hZ, hby, hml, hret, hlk, hown, hnm⟩ := S
  exact Go.step (fun _ t => XS.lshl X.here hx rfl (hb hby hd) rfl t) k
theorem px_lshr (S : St K Z R y bytes maxL ret n0 T h cl sl) {u : Int64} {v : Int32} (hd : decode bytes pc = .ok (.lshr, 1)) (hp : pc + 1 = pc') (k : Go K R n0 Q T pc' L (.long (u >>> (v &&& 0x3f).toInt64) :: st)) : Go K R n0 Q T pc L (.int v :: .long u :: st) := by
  subst hp
  obtain ⟨⟨locs, X, hF⟩, e0, hn0, hx, hZ, hby, hml, hret, hlk, hown, hnm⟩ := S
  exact Go.step (fun _ t => XS.lshr X.here hx rfl (hb hby hd) rfl t) k
theorem px_lushr (S : St K Z R y bytes maxL ret n0 T h cl sl) {u : Int64} {v : Int32} (hd : decode bytes pc = .ok (.lushr, 1)) (hp : pc + 1 = pc') (k : Go K R n0 Q T pc' L (.long (ushrL u v) :: st)) : Go K R n0 Q T pc L (.int v :: .long u :: st) := by
  subst hp
  obtain ⟨⟨locs, X, hF⟩, e0, hn0, hx, hZ, hby, hml, hret, hlk, hown, hnm⟩ := S
  exact Go.step (fun _ t => XS.lushr X.here hx rfl (hb hby hd) rfl t) k
theorem px_idiv (S : St K Z R y bytes maxL ret n0 T h cl sl) {u v : Int32} (hd : decode bytes pc = .ok (.idiv, 1)) (hp : pc + 1 = pc') (hz : v ≠ 0) (k : Go K R n0 Q T pc' L (.int (u / v) :: st)) : Go K R n0 Q T pc L (.int v :: .int u :: st) := by
  subst hp
  obtain ⟨⟨locs, X, hF⟩, e0, hn0, hx, hZ, hby, hml, hret, hlk, hown, hnm⟩ := S
  exact Go.step (fun _ t => XS.idiv X.here hx rfl (hb hby hd) rfl hz t) k
theorem px_irem (S : St K Z R y bytes maxL ret n0 T h cl sl) {u v : Int32} (hd : decode bytes pc = .ok (.irem, 1)) (hp : pc + 1 = pc') (hz : v ≠ 0) (k : Go K R n0 Q T pc' L (.int (u % v) :: st)) : Go K R n0 Q T pc L (.int v :: .int u :: st) := by
  subst hp
  obtain ⟨⟨locs, X, hF⟩, e0, hn0, hx, hZ, hby, hml, hret, hlk, hown, hnm⟩ := S
  exact Go.step (fun _ t => iremM X hx rfl (hb hby hd) rfl hz t) k
theorem px_ldiv (S : St K Z R y bytes maxL ret n0 T h cl sl) {u v : Int64} (hd : decode bytes pc = .ok (.ldiv, 1)) (hp : pc + 1 = pc') (hz : v ≠ 0) (k : Go K R n0 Q T pc' L (.long (u / v) :: st)) : Go K R n0 Q T pc L (.long v :: .long u :: st) := by
  subst hp
  obtain ⟨⟨locs, X, hF⟩, e0, hn0, hx, hZ, hby, hml, hret, hlk, hown, hnm⟩ := S
  exact Go.step (fun _ t => XS.ldiv X.here hx rfl (hb hby hd) rfl hz t) k
theorem px_ineg (S : St K Z R y bytes maxL ret n0 T h cl sl) {u : Int32} (hd : decode bytes pc = .ok (.ineg, 1)) (hp : pc + 1 = pc') (k : Go K R n0 Q T pc' L (.int (-u) :: st)) : Go K R n0 Q T pc L (.int u :: st) := by
  subst hp
  obtain ⟨⟨locs, X, hF⟩, e0, hn0, hx, hZ, hby, hml, hret, hlk, hown, hnm⟩ := S
  exact Go.step (fun _ t => XS.ineg X.here hx rfl (hb hby hd) rfl t) k
theorem px_lneg (S : St K Z R y bytes maxL ret n0 T h cl sl) {u : Int64} (hd : decode bytes pc = .ok (.lneg, 1)) (hp : pc + 1 = pc') (k : Go K R n0 Q T pc' L (.long (-u) :: st)) : Go K R n0 Q T pc L (.long u :: st) := by
  subst hp
  obtain ⟨⟨locs, X, hF⟩, e0, hn0, hx, hZ, hby, hml, hret, hlk, hown, hnm⟩ := S
  exact Go.step (fun _ t => XS.lneg X.here hx rfl (hb hby hd) rfl t) k
theorem px_i2l (S : St K Z R y bytes maxL ret n0 T h cl sl) {u : Int32} (hd : decode bytes pc = .ok (.i2l, 1)) (hp : pc + 1 = pc') (k : Go K R n0 Q T pc' L (.long u.toInt64 :: st)) : Go K R n0 Q T pc L (.int u :: st) := by
  subst hp
  obtain ⟨⟨locs, X, hF⟩, e0, hn0, hx, hZ, hby, hml, hret, hlk, hown, hnm⟩ := S
  exact Go.step (fun _ t => XS.i2l X.here hx rfl (hb hby hd) rfl t) k
theorem px_l2i (S : St K Z R y bytes maxL ret n0 T h cl sl) {u : Int64} (hd : decode bytes pc = .ok (.l2i, 1)) (hp : pc + 1 = pc') (k : Go K R n0 Q T pc' L (.int u.toInt32 :: st)) : Go K R n0 Q T pc L (.long u :: st) := by
  subst hp
  obtain ⟨⟨locs, X, hF⟩, e0, hn0, hx, hZ, hby, hml, hret, hlk, hown, hnm⟩ := S
  exact Go.step (fun _ t => XS.l2i X.here hx rfl (hb hby hd) rfl t) k
theorem px_i2b (S : St K Z R y bytes maxL ret n0 T h cl sl) {u : Int32} (hd : decode bytes pc = .ok (.i2b, 1)) (hp : pc + 1 = pc') (k : Go K R n0 Q T pc' L (.int (i2b u) :: st)) : Go K R n0 Q T pc L (.int u :: st) := by
  subst hp
  obtain ⟨⟨locs, X, hF⟩, e0, hn0, hx, hZ, hby, hml, hret, hlk, hown, hnm⟩ := S
  exact Go.step (fun _ t => XS.i2b X.here hx rfl (hb hby hd) rfl t) k
theorem px_i2c (S : St K Z R y bytes maxL ret n0 T h cl sl) {u : Int32} (hd : decode bytes pc = .ok (.i2c, 1)) (hp : pc + 1 = pc') (k : Go K R n0 Q T pc' L (.int (i2c u) :: st)) : Go K R n0 Q T pc L (.int u :: st) := by
  subst hp
  obtain ⟨⟨locs, X, hF⟩, e0, hn0, hx, hZ, hby, hml, hret, hlk, hown, hnm⟩ := S
  exact Go.step (fun _ t => XS.i2c X.here hx rfl (hb hby hd) rfl t) k
theorem px_i2s (S : St K Z R y bytes maxL ret n0 T h cl sl) {u : Int32} (hd : decode bytes pc = .ok (.i2s, 1)) (hp : pc + 1 = pc') (k : Go K R n0 Q T pc' L (.int (i2s u) :: st)) : Go K R n0 Q T pc L (.int u :: st) := by
  subst hp
  obtain ⟨⟨locs, X, hF⟩, e0, hn0, hx, hZ, hby, hml, hret, hlk, hown, hnm⟩ := S
  exact Go.step (fun _ t => XS.i2s X.here hx rfl (hb hby hd) rfl t) k
theorem px_lcmp (S : St K Z R y bytes maxL ret n0 T h cl sl) {u v : Int64} (hd : decode bytes pc = .ok (.lcmp, 1)) (hp : pc + 1 = pc') (k : Go K R n0 Q T pc' L (.int (lcmpW u v) :: st)) : Go K R n0 Q T pc L (.long v :: .long u :: st) := by
  subst hp
  obtain ⟨⟨locs, X, hF⟩, e0, hn0, hx, hZ, hby, hml, hret, hlk, hown, hnm⟩ := S
  exact Go.step (fun _ t => XS.lcmp X.here hx rfl (hb hby hd) rfl t) k
theorem px_pop (S : St K Z R y bytes maxL ret n0 T h cl sl) {u : Value} (hd : decode bytes pc = .ok (.pop, 1)) (hp : pc + 1 = pc') (hc : u.category = 1) (k : Go K R n0 Q T pc' L st) : Go K R n0 Q T pc L (u :: st) := by
  subst hp
  obtain ⟨⟨locs, X, hF⟩, e0, hn0, hx, hZ, hby, hml, hret, hlk, hown, hnm⟩ := S
  exact Go.step (fun _ t => XS.pop X.here hx rfl (hb hby hd) rfl hc t) k
theorem px_dup (S : St K Z R y bytes maxL ret n0 T h cl sl) {u : Value} (hd : decode bytes pc = .ok (.dup, 1)) (hp : pc + 1 = pc') (hc : u.category = 1) (k : Go K R n0 Q T pc' L (u :: u :: st)) : Go K R n0 Q T pc L (u :: st) := by
  subst hp
  obtain ⟨⟨locs, X, hF⟩, e0, hn0, hx, hZ, hby, hml, hret, hlk, hown, hnm⟩ := S
  exact Go.step (fun _ t => XS.dup X.here hx rfl (hb hby hd) rfl hc t) k
theorem px_dupX1 (S : St K Z R y bytes maxL ret n0 T h cl sl) {u v : Value} (hd : decode bytes pc = .ok (.dup_x1, 1)) (hp : pc + 1 = pc') (hc : u.category = 1) (hc2 : v.category = 1) (k : Go K R n0 Q T pc' L (u :: v :: u :: st)) : Go K R n0 Q T pc L (u :: v :: st) := by
  subst hp
  obtain ⟨⟨locs, X, hF⟩, e0, hn0, hx, hZ, hby, hml, hret, hlk, hown, hnm⟩ := S
  exact Go.step (fun _ t => XS.dupX1 X.here hx rfl (hb hby hd) rfl hc hc2 t) k
theorem px_dup2 (S : St K Z R y bytes maxL ret n0 T h cl sl) {u v : Value} (hd : decode bytes pc = .ok (.dup2, 1)) (hp : pc + 1 = pc') (hc : u.category = 1) (hc2 : v.category = 1) (k : Go K R n0 Q T pc' L (u :: v :: u :: v :: st)) : Go K R n0 Q T pc L (u :: v :: st) := by
  subst hp
  obtain ⟨⟨locs, X, hF⟩, e0, hn0, hx, hZ, hby, hml, hret, hlk, hown, hnm⟩ := S
  exact Go.step (fun _ t => Jvm.Free.XT.dup2 X.here hx rfl (hb hby hd) rfl hc hc2 t) k
theorem px_iinc (S : St K Z R y bytes maxL ret n0 T h cl sl) {k : Nat} {cst : Int} {u v r : Int32} (hd : decode bytes pc = .ok (.iinc k cst, 3)) (hp : pc + 3 = pc') (hl : L[k]? = some (.val (.int u))) (hv : Int32.ofInt cst = v) (hr : u + v = r) (hl' : storeLocals L k (.int r) = some L') (k' : Go K R n0 Q T pc' L' st) : Go K R n0 Q T pc L st := by
  subst hp
  subst hv
  subst hr
  obtain ⟨⟨locs, X, hF⟩, e0, hn0, hx, hZ, hby, hml, hret, hlk, hown, hnm⟩ := S
  exact Go.step (fun _ t => XS.iinc X.here hx rfl (hb hby hd) hl hl' t) k'
theorem px_goto (S : St K Z R y bytes maxL ret n0 T h cl sl) {o : Int} (hd : decode bytes pc = .ok (.goto o, 3)) (ho : 0 ≤ (pc : Int) + o) (hp : ((pc : Int) + o).toNat = pc') (k : Go K R n0 Q T pc' L st) : Go K R n0 Q T pc L st := by
  obtain ⟨⟨locs, X, hF⟩, e0, hn0, hx, hZ, hby, hml, hret, hlk, hown, hnm⟩ := S
  exact Go.step (fun _ t => XS.goto X.here hx rfl rfl (hb hby hd) ho hp t) k
def yesC : ClassFile.Cond → Int → Int → Prop
  | .eq, x, y => x = y
  | .ne, x, y => ¬ x = y
  | .lt, x, y => x < y
  | .ge, x, y => y ≤ x
  | .gt, x, y => y < x
  | .le, x, y => x ≤ y
def noC : ClassFile.Cond → Int → Int → Prop
  | .eq, x, y => ¬ x = y
  | .ne, x, y => x = y
  | .lt, x, y => y ≤ x
  | .ge, x, y => x < y
  | .gt, x, y => x ≤ y
  | .le, x, y => y < x
theorem yesC_of {cd : ClassFile.Cond} {x y : Int32} (h : if_icmp.holds cd x y = true) : yesC cd x.toInt y.toInt := by
  cases cd <;> simp [if_icmp.holds, yesC, Int32.lt_iff_toInt_lt, Int32.le_iff_toInt_le, ← Int32.toInt_inj] at h ⊢ <;> omega
theorem noC_of {cd : ClassFile.Cond} {x y : Int32} (h : if_icmp.holds cd x y = false) : noC cd x.toInt y.toInt := by
  cases cd <;> simp [if_icmp.holds, noC, Int32.lt_iff_toInt_lt, Int32.le_iff_toInt_le, ← Int32.toInt_inj] at h ⊢ <;> omega
theorem px_icmp (S : St K Z R y bytes maxL ret n0 T h cl sl) {cd : ClassFile.Cond} {o : Int} {u v : Int32} {pcn : Nat} (hd : decode bytes pc = .ok (.if_icmp cd o, 3)) (ho : 0 ≤ (pc : Int) + o) (hp : ((pc : Int) + o).toNat = pc') (hn : pc + 3 = pcn)
    (ky : yesC cd u.toInt v.toInt → Go K R n0 Q T pc' L st) (kn : noC cd u.toInt v.toInt → Go K R n0 Q T pcn L st) : Go K R n0 Q T pc L (.int v :: .int u :: st) := by
  subst hn
  obtain ⟨⟨locs, X, hF⟩, e0, hn0, hx, hZ, hby, hml, hret, hlk, hown, hnm⟩ := S
  cases hc : if_icmp.holds cd u v
  · exact Go.step (fun _ t => XS.icmpNo X.here hx rfl (hb hby hd) rfl hc t) (kn (noC_of hc))
  · exact Go.step (fun _ t => XS.icmpYes X.here hx rfl rfl (hb hby hd) rfl hc ho hp t) (ky (yesC_of hc))
theorem px_if0 (S : St K Z R y bytes maxL ret n0 T h cl sl) {cd : ClassFile.Cond} {o : Int} {u : Int32} {pcn : Nat} (hd : decode bytes pc = .ok (.ifCond cd o, 3)) (ho : 0 ≤ (pc : Int) + o) (hp : ((pc : Int) + o).toNat = pc') (hn : pc + 3 = pcn)
    (ky : yesC cd u.toInt 0 → Go K R n0 Q T pc' L st) (kn : noC cd u.toInt 0 → Go K R n0 Q T pcn L st) : Go K R n0 Q T pc L (.int u :: st) := by
  subst hn
  obtain ⟨⟨locs, X, hF⟩, e0, hn0, hx, hZ, hby, hml, hret, hlk, hown, hnm⟩ := S
  cases hc : ifCond.holds cd u
  · exact Go.step (fun _ t => XS.ifNo X.here hx rfl (hb hby hd) rfl hc t) (kn (noC_of (y := 0) ((if0 cd u).symm.trans hc)))
  · exact Go.step (fun _ t => XS.ifYes X.here hx rfl rfl (hb hby hd) rfl hc ho hp t) (ky (yesC_of (y := 0) ((if0 cd u).symm.trans hc)))
theorem yesL {cd : ClassFile.Cond} {x y : Int64} (h : yesC cd (lcmpW x y).toInt 0) : yesC cd x.toInt y.toInt := by
  have q := c_lcmp x y
  cases cd <;> simp only [yesC] at h ⊢ <;> omega
theorem noL {cd : ClassFile.Cond} {x y : Int64} (h : noC cd (lcmpW x y).toInt 0) : noC cd x.toInt y.toInt := by
  have q := c_lcmp x y
  cases cd <;> simp only [noC] at h ⊢ <;> omega
theorem px_lif (S : St K Z R y bytes maxL ret n0 T h cl sl) {cd : ClassFile.Cond} {o : Int} {u v : Int64} {pc1 pcn : Nat} (hd1 : decode bytes pc = .ok (.lcmp, 1)) (hp1 : pc + 1 = pc1) (hd : decode bytes pc1 = .ok (.ifCond cd o, 3)) (ho : 0 ≤ (pc1 : Int) + o) (hp : ((pc1 : Int) + o).toNat = pc') (hn : pc1 + 3 = pcn)
    (ky : yesC cd u.toInt v.toInt → Go K R n0 Q T pc' L st) (kn : noC cd u.toInt v.toInt → Go K R n0 Q T pcn L st) : Go K R n0 Q T pc L (.long v :: .long u :: st) :=
  px_lcmp S hd1 hp1 (px_if0 S hd ho hp hn (fun q => ky (yesL q)) (fun q => kn (noL q)))
theorem px_ifnull (S : St K Z R y bytes maxL ret n0 T h cl sl) {o : Int} {a : Addr} (hd : decode bytes pc = .ok (.ifnull o, 3)) (hp : pc + 3 = pc') (k : Go K R n0 Q T pc' L st) : Go K R n0 Q T pc L (.ref a :: st) := by
  subst hp
  obtain ⟨⟨locs, X, hF⟩, e0, hn0, hx, hZ, hby, hml, hret, hlk, hown, hnm⟩ := S
  exact Go.step (fun _ t => XS.ifnullNo X.here hx rfl (hb hby hd) rfl t) k
theorem px_ifnullY (S : St K Z R y bytes maxL ret n0 T h cl sl) {o : Int} (hd : decode bytes pc = .ok (.ifnull o, 3)) (ho : 0 ≤ (pc : Int) + o) (hp : ((pc : Int) + o).toNat = pc') (k : Go K R n0 Q T pc' L st) : Go K R n0 Q T pc L (.null :: st) := by
  obtain ⟨⟨locs, X, hF⟩, e0, hn0, hx, hZ, hby, hml, hret, hlk, hown, hnm⟩ := S
  exact Go.step (fun _ t => XS.ifnullYes X.here hx rfl rfl (hb hby hd) rfl ho hp t) k
theorem px_ifnonnull (S : St K Z R y bytes maxL ret n0 T h cl sl) {o : Int} {a : Addr} (hd : decode bytes pc = .ok (.ifnonnull o, 3)) (ho : 0 ≤ (pc : Int) + o) (hp : ((pc : Int) + o).toNat = pc') (k : Go K R n0 Q T pc' L st) : Go K R n0 Q T pc L (.ref a :: st) := by
  obtain ⟨⟨locs, X, hF⟩, e0, hn0, hx, hZ, hby, hml, hret, hlk, hown, hnm⟩ := S
  exact Go.step (fun _ t => XS.ifnonnullYes X.here hx rfl rfl (hb hby hd) rfl ho hp t) k
theorem px_ifnonnullN (S : St K Z R y bytes maxL ret n0 T h cl sl) {o : Int} (hd : decode bytes pc = .ok (.ifnonnull o, 3)) (hp : pc + 3 = pc') (k : Go K R n0 Q T pc' L st) : Go K R n0 Q T pc L (.null :: st) := by
  subst hp
  obtain ⟨⟨locs, X, hF⟩, e0, hn0, hx, hZ, hby, hml, hret, hlk, hown, hnm⟩ := S
  exact Go.step (fun _ t => XS.ifnonnullNo X.here hx rfl (hb hby hd) rfl t) k
theorem px_ldcI (S : St K Z R y bytes maxL ret n0 T h cl sl) {idx : Nat} {v : Int32} (w : (Jvm.Cond.constant y.cls idx v).before a0 Z = true) (hd : decode bytes pc = .ok (.ldc idx, 2)) (hp : pc + 2 = pc') (k : Go K R n0 Q T pc' L (.int v :: st)) : Go K R n0 Q T pc L st := by
  subst hp
  obtain ⟨⟨locs, X, hF⟩, e0, hn0, hx, hZ, hby, hml, hret, hlk, hown, hnm⟩ := S
  exact Go.step (fun _ t => X.ldcInt hx hown (mvT hZ w) (g := mkF K.m pc L st) rfl (hb hby hd) _ t) k
theorem px_ldcwI (S : St K Z R y bytes maxL ret n0 T h cl sl) {idx : Nat} {v : Int32} (w : (Jvm.Cond.constant y.cls idx v).before a0 Z = true) (hd : decode bytes pc = .ok (.ldc_w idx, 3)) (hp : pc + 3 = pc') (k : Go K R n0 Q T pc' L (.int v :: st)) : Go K R n0 Q T pc L st := by
  subst hp
  obtain ⟨⟨locs, X, hF⟩, e0, hn0, hx, hZ, hby, hml, hret, hlk, hown, hnm⟩ := S
  exact Go.step (fun _ t => X.ldcwInt hx hown (mvT hZ w) (g := mkF K.m pc L st) rfl (hb hby hd) _ t) k
theorem px_ldc2 (S : St K Z R y bytes maxL ret n0 T h cl sl) {idx : Nat} {v : Int64} (w : (Jvm.Cond.constantLong y.cls idx v).before a0 Z = true) (hd : decode bytes pc = .ok (.ldc2_w idx, 3)) (hp : pc + 3 = pc') (k : Go K R n0 Q T pc' L (.long v :: st)) : Go K R n0 Q T pc L st := by
  subst hp
  obtain ⟨⟨locs, X, hF⟩, e0, hn0, hx, hZ, hby, hml, hret, hlk, hown, hnm⟩ := S
  exact Go.step (fun _ t => X.ldc2Long hx hown (mvT hZ w) (g := mkF K.m pc L st) rfl (hb hby hd) _ t) k
theorem px_ret {v : Option Value} (S : St K Z R y bytes maxL ret n0 T h cl sl) (hv : ret = none → v = none) (hc : cl ≤ R.cells) (hs : sl ≤ R.slots)
    (hd : ∀ (locs : List Loc) (fs : List Frame), Stand K.p K.l K.e R K.s K.m K.args K.below K.meth K.c T locs cl sl → K.p.tables.exec = Jvm.exec → K.c.code = bytes → K.meth.sig.returnType = ret → (∀ (f : JFrame) (acts : List Action), f.method = K.m → f.locked = none → f.entered = [] → (doReturn K.e (T.setTop f) acts v).1 = T.setFrames fs) → Steps K.p.tables K.e K.below (T.setTop (mkF K.m pc L st)) (T.setFrames fs))
    (hq : Q v h) : Go K R n0 Q T pc L st := by
  obtain ⟨⟨locs, X, hF⟩, e0, hn0, hx, hZ, hby, hml, hret, hlk, hown, hnm⟩ := S
  obtain ⟨fs, hr, hrun, hended, hW, hsame⟩ := X.leave (v := v) (fun q => hv (hret ▸ q)) hlk
  refine ⟨_, _, hd locs fs X hx hby hret hr, hrun, hended, _, _, rfl, ⟨?_, hF⟩, ⟨_, rfl⟩, hW, hsame.mono hc hs⟩
  show Q v T.heap
  rw [e0]; exact hq
theorem px_return (S : St K Z R y bytes maxL ret n0 T h cl sl) (hd : decode bytes pc = .ok (.return_, 1)) (hrt : ret = none) (hc : cl ≤ R.cells) (hs : sl ≤ R.slots) (hq : Q none h) : Go K R n0 Q T pc L [] :=
  px_ret S (fun _ => rfl) hc hs (fun _ _ X hx hby hret hr => X.returnOut hx (hret.trans hrt) (hb hby hd) hr) hq
theorem px_retN {t : FieldType} {z z' : Int32} (S : St K Z R y bytes maxL ret n0 T h cl sl) (hd : decode bytes pc = .ok (.ireturn, 1)) (hrt : ret = some t) (ht : t = .boolean ∨ t = .byte ∨ t = .char ∨ t = .short) (hz : nar t z = z') (hc : cl ≤ R.cells) (hs : sl ≤ R.slots) (hq : Q (some (.int z')) h) : Go K R n0 Q T pc L (.int z :: st) := by
  subst hz
  exact px_ret S (fun q => by rw [hrt] at q; cases q) hc hs (fun _ _ X hx hby hret hr => retN X hx (hret.trans hrt) ht (hb hby hd) hr) hq
theorem px_retI {z : Int32} (S : St K Z R y bytes maxL ret n0 T h cl sl) (hd : decode bytes pc = .ok (.ireturn, 1)) (hrt : ret = some .int) (hc : cl ≤ R.cells) (hs : sl ≤ R.slots) (hq : Q (some (.int z)) h) : Go K R n0 Q T pc L (.int z :: st) :=
  px_ret S (fun q => by rw [hrt] at q; cases q) hc hs (fun _ _ X hx hby hret hr => retOut X hx (hret.trans hrt) rfl (Or.inl ⟨rfl, Or.inl rfl, z, rfl⟩) (hb hby hd) hr) hq
theorem px_retJ {z : Int64} (S : St K Z R y bytes maxL ret n0 T h cl sl) (hd : decode bytes pc = .ok (.lreturn, 1)) (hrt : ret = some .long) (hc : cl ≤ R.cells) (hs : sl ≤ R.slots) (hq : Q (some (.long z)) h) : Go K R n0 Q T pc L (.long z :: st) :=
  px_ret S (fun q => by rw [hrt] at q; cases q) hc hs (fun _ _ X hx hby hret hr => retOut X hx (hret.trans hrt) rfl (Or.inr (Or.inl ⟨rfl, rfl, z, rfl⟩)) (hb hby hd) hr) hq
theorem narrow_ref {t : FieldType} {v : Value} (ht : t.isReference = true) : narrow t v = v := by cases t <;> simp [FieldType.isReference] at ht <;> cases v <;> rfl
theorem px_retA {t : FieldType} {v : Value} (S : St K Z R y bytes maxL ret n0 T h cl sl) (hd : decode bytes pc = .ok (.areturn, 1)) (hrt : ret = some t) (ht : t.isReference = true) (hv : v.isRef = true) (hc : cl ≤ R.cells) (hs : sl ≤ R.slots) (hq : Q (some v) h) : Go K R n0 Q T pc L (v :: st) :=
  px_ret S (fun q => by rw [hrt] at q; cases q) hc hs (fun _ _ X hx hby hret hr => retOut X hx (hret.trans hrt) (narrow_ref ht) (Or.inr (Or.inr (Or.inr (Or.inr ⟨rfl, ht, hv⟩)))) (hb hby hd) hr) hq
/-- an array of ints (or of bytes, chars, shorts, booleans) of n places that hold f 0 .. -/
def AI (Z : State) (h : Heap) (a : Addr) (ty : FieldType) (n : Nat) (f : Nat → Int32) : Prop := ∃ c : Cell, Arr Z h a c ty ∧ c.slots.size = n ∧ n < 2147483648 ∧ ∀ i, i < n → c.slots[i]? = some (.int (f i)) ∧ fits ty (.int (f i)) = true
def AJ (Z : State) (h : Heap) (a : Addr) (n : Nat) (f : Nat → Int64) : Prop := ∃ c : Cell, Arr Z h a c .long ∧ c.slots.size = n ∧ n < 2147483648 ∧ ∀ i, i < n → c.slots[i]? = some (.long (f i))
def updF {α : Type} (f : Nat → α) (i : Nat) (v : α) : Nat → α := fun j => if j = i then v else f j
theorem updF_same {α : Type} (f : Nat → α) (i : Nat) (v : α) : updF f i v i = v := by simp [updF]
theorem updF_ne {α : Type} (f : Nat → α) {i j : Nat} (v : α) (q : ¬ j = i) : updF f i v j = f j := by simp [updF, q]
variable {h' : Heap} {a b : Addr} {ty : FieldType} {n : Nat} {f : Nat → Int32} {fj : Nat → Int64}
theorem AI.lt (A : AI Z h a ty n f) : a < h.size := by obtain ⟨c, A, -⟩ := A; exact A.lt
theorem AJ.lt (A : AJ Z h a n fj) : a < h.size := by obtain ⟨c, A, -⟩ := A; exact A.lt
theorem AI.len (A : AI Z h a ty n f) : n < 2147483648 := by obtain ⟨c, -, -, q, -⟩ := A; exact q
theorem AJ.len (A : AJ Z h a n fj) : n < 2147483648 := by obtain ⟨c, -, -, q, -⟩ := A; exact q
theorem AI.ext (A : AI Z h a ty n f) (E : Ext h h') : AI Z h' a ty n f := by obtain ⟨c, A, r⟩ := A; exact ⟨c, A.ext E, r⟩
theorem AJ.ext (A : AJ Z h a n fj) (E : Ext h h') : AJ Z h' a n fj := by obtain ⟨c, A, r⟩ := A; exact ⟨c, A.ext E, r⟩
theorem AI.other {s0 : Nat} {v : Value} (A : AI Z h a ty n f) (W : Wr h h' b s0 v) (q : a ≠ b) : AI Z h' a ty n f := by obtain ⟨c, A, r⟩ := A; exact ⟨c, A.other W q, r⟩
theorem AJ.other {s0 : Nat} {v : Value} (A : AJ Z h a n fj) (W : Wr h h' b s0 v) (q : a ≠ b) : AJ Z h' a n fj := by obtain ⟨c, A, r⟩ := A; exact ⟨c, A.other W q, r⟩
theorem AI.keep {ws : List Addr} (A : AI Z h a ty n f) (W : Keep h h' ws) (q : a ∉ ws) : AI Z h' a ty n f := by obtain ⟨c, A, r⟩ := A; exact ⟨c, ⟨W.2.1 a c A.1 q, A.2⟩, r⟩
theorem AJ.keep {ws : List Addr} (A : AJ Z h a n fj) (W : Keep h h' ws) (q : a ∉ ws) : AJ Z h' a n fj := by obtain ⟨c, A, r⟩ := A; exact ⟨c, ⟨W.2.1 a c A.1 q, A.2⟩, r⟩
theorem AI.congr {g : Nat → Int32} (A : AI Z h a ty n f) (q : ∀ i, i < n → f i = g i) : AI Z h a ty n g := by obtain ⟨c, A, r1, r2, r3⟩ := A; exact ⟨c, A, r1, r2, fun i hi => by rw [← q i hi]; exact r3 i hi⟩
theorem AJ.congr {g : Nat → Int64} (A : AJ Z h a n fj) (q : ∀ i, i < n → fj i = g i) : AJ Z h a n g := by obtain ⟨c, A, r1, r2, r3⟩ := A; exact ⟨c, A, r1, r2, fun i hi => by rw [r3 i hi, q i hi]⟩
theorem clampI {j : Int32} {i : Nat} (hj : j.toInt = (i : Int)) : j.toNatClampNeg = i := by
  have q : j.toNatClampNeg = j.toInt.toNat := rfl
  rw [q, hj]; rfl
theorem inbI {c : Cell} {j : Int32} {i : Nat} (hj : j.toInt = (i : Int)) (hi : i < c.slots.size) : ¬ (j < 0 ∨ c.slots.size ≤ j.toNatClampNeg) := by
  rw [clampI hj]
  intro q
  rcases q with q | q
  · have q2 := Int32.lt_iff_toInt_lt.mp q
    have z : (0 : Int32).toInt = 0 := rfl
    omega
  · omega
theorem AI.same {c : Cell} {i : Nat} {v : Int32} (A : Arr Z h a c ty) (h1 : c.slots.size = n) (h2 : n < 2147483648) (h3 : ∀ i, i < n → c.slots[i]? = some (.int (f i)) ∧ fits ty (.int (f i)) = true) (W : Wr h h' a i (.int v)) (hi : i < n) (hft : fits ty (.int v) = true) : AI Z h' a ty n (updF f i v) := by
  refine ⟨_, A.same W, by simp [Cell.setSlot, h1], h2, fun j hj => ?_⟩
  by_cases q : j = i
  · subst q
    rw [updF_same]
    exact ⟨by simp [Cell.setSlot, h1, hj], hft⟩
  · rw [updF_ne _ _ q]
    have q' : ¬ i = j := fun e => q e.symm
    exact ⟨by simp [Cell.setSlot, Array.getElem?_setIfInBounds, q', (h3 j hj).1], (h3 j hj).2⟩
theorem AJ.same {c : Cell} {i : Nat} {v : Int64} (A : Arr Z h a c .long) (h1 : c.slots.size = n) (h2 : n < 2147483648) (h3 : ∀ i, i < n → c.slots[i]? = some (.long (fj i))) (W : Wr h h' a i (.long v)) (hi : i < n) : AJ Z h' a n (updF fj i v) := by
  refine ⟨_, A.same W, by simp [Cell.setSlot, h1], h2, fun j hj => ?_⟩
  by_cases q : j = i
  · subst q
    rw [updF_same]
    simp [Cell.setSlot, h1, hj]
  · rw [updF_ne _ _ q]
    have q' : ¬ i = j := fun e => q e.symm
    simp [Cell.setSlot, Array.getElem?_setIfInBounds, q', h3 j hj]
theorem px_iaload (S : St K Z R y bytes maxL ret n0 T h cl sl) (A : AI Z h a .int n f) {j v : Int32} {i : Nat} (hj : j.toInt = (i : Int)) (hi : i < n) (hv : f i = v) (hd : decode bytes pc = .ok (.iaload, 1)) (hp : pc + 1 = pc') (k : Go K R n0 Q T pc' L (.int v :: st)) : Go K R n0 Q T pc L (.int j :: .ref a :: st) := by
  subst hp
  subst hv
  obtain ⟨⟨locs, X, hF⟩, e0, hn0, hx, hZ, hby, hml, hret, hlk, hown, hnm⟩ := S
  obtain ⟨c, A, h1, h2, h3⟩ := A
  exact Go.step (fun _ t => X.iaload hx (j := j) (v := .int (f i)) (by rw [e0]; exact A.1) (State.isArrayOf_alike hZ.alike A.2.1) A.2.2 (inbI hj (h1 ▸ hi)) (by rw [clampI hj]; exact (h3 i hi).1) (g := mkF K.m pc L (.int j :: .ref a :: st)) rfl rfl (hb hby hd) _ t) k
theorem px_caload (S : St K Z R y bytes maxL ret n0 T h cl sl) (A : AI Z h a .char n f) {j v : Int32} {i : Nat} (hj : j.toInt = (i : Int)) (hi : i < n) (hv : f i = v) (hd : decode bytes pc = .ok (.caload, 1)) (hp : pc + 1 = pc') (k : Go K R n0 Q T pc' L (.int v :: st)) : Go K R n0 Q T pc L (.int j :: .ref a :: st) := by
  subst hp
  subst hv
  obtain ⟨⟨locs, X, hF⟩, e0, hn0, hx, hZ, hby, hml, hret, hlk, hown, hnm⟩ := S
  obtain ⟨c, A, h1, h2, h3⟩ := A
  exact Go.step (fun _ t => X.caload hx (j := j) (v := .int (f i)) (by rw [e0]; exact A.1) (State.isArrayOf_alike hZ.alike A.2.1) A.2.2 (inbI hj (h1 ▸ hi)) (by rw [clampI hj]; exact (h3 i hi).1) (g := mkF K.m pc L (.int j :: .ref a :: st)) rfl rfl (hb hby hd) _ t) k
theorem px_saload (S : St K Z R y bytes maxL ret n0 T h cl sl) (A : AI Z h a .short n f) {j v : Int32} {i : Nat} (hj : j.toInt = (i : Int)) (hi : i < n) (hv : f i = v) (hd : decode bytes pc = .ok (.saload, 1)) (hp : pc + 1 = pc') (k : Go K R n0 Q T pc' L (.int v :: st)) : Go K R n0 Q T pc L (.int j :: .ref a :: st) := by
  subst hp
  subst hv
  obtain ⟨⟨locs, X, hF⟩, e0, hn0, hx, hZ, hby, hml, hret, hlk, hown, hnm⟩ := S
  obtain ⟨c, A, h1, h2, h3⟩ := A
  exact Go.step (fun _ t => X.saload hx (j := j) (v := .int (f i)) (by rw [e0]; exact A.1) (State.isArrayOf_alike hZ.alike A.2.1) A.2.2 (inbI hj (h1 ▸ hi)) (by rw [clampI hj]; exact (h3 i hi).1) (g := mkF K.m pc L (.int j :: .ref a :: st)) rfl rfl (hb hby hd) _ t) k
theorem px_baload (S : St K Z R y bytes maxL ret n0 T h cl sl) (A : AI Z h a .byte n f) {j v : Int32} {i : Nat} (hj : j.toInt = (i : Int)) (hi : i < n) (hv : f i = v) (hd : decode bytes pc = .ok (.baload, 1)) (hp : pc + 1 = pc') (k : Go K R n0 Q T pc' L (.int v :: st)) : Go K R n0 Q T pc L (.int j :: .ref a :: st) := by
  subst hp
  subst hv
  obtain ⟨⟨locs, X, hF⟩, e0, hn0, hx, hZ, hby, hml, hret, hlk, hown, hnm⟩ := S
  obtain ⟨c, A, h1, h2, h3⟩ := A
  exact Go.step (fun _ t => X.baloadBytes hx (j := j) (v := .int (f i)) (by rw [e0]; exact A.1) (State.isArrayOf_alike hZ.alike A.2.1) A.2.2 (inbI hj (h1 ▸ hi)) (by rw [clampI hj]; exact (h3 i hi).1) (g := mkF K.m pc L (.int j :: .ref a :: st)) rfl rfl (hb hby hd) _ t) k
theorem px_laload (S : St K Z R y bytes maxL ret n0 T h cl sl) (A : AJ Z h a n fj) {j : Int32} {v : Int64} {i : Nat} (hj : j.toInt = (i : Int)) (hi : i < n) (hv : fj i = v) (hd : decode bytes pc = .ok (.laload, 1)) (hp : pc + 1 = pc') (k : Go K R n0 Q T pc' L (.long v :: st)) : Go K R n0 Q T pc L (.int j :: .ref a :: st) := by
  subst hp
  subst hv
  obtain ⟨⟨locs, X, hF⟩, e0, hn0, hx, hZ, hby, hml, hret, hlk, hown, hnm⟩ := S
  obtain ⟨c, A, h1, h2, h3⟩ := A
  exact Go.step (fun _ t => X.laload hx (j := j) (v := .long (fj i)) (by rw [e0]; exact A.1) (State.isArrayOf_alike hZ.alike A.2.1) A.2.2 (inbI hj (h1 ▸ hi)) (by rw [clampI hj]; exact h3 i hi) (g := mkF K.m pc L (.int j :: .ref a :: st)) rfl rfl (hb hby hd) _ t) k
theorem len32 {c : Cell} (h1 : c.slots.size = n) (h2 : n < 2147483648) {v : Int32} (hv : v.toInt = (n : Int)) : c.slots.size.toInt32 = v := by
  rw [h1]
  apply Int32.toInt_inj.mp
  rw [hv]
  have := Int32.toInt_ofNat_of_lt (n := n) h2
  exact this
theorem px_alenI (S : St K Z R y bytes maxL ret n0 T h cl sl) (A : AI Z h a ty n f) {v : Int32} (hv : v.toInt = (n : Int)) (hd : decode bytes pc = .ok (.arraylength, 1)) (hp : pc + 1 = pc') (k : Go K R n0 Q T pc' L (.int v :: st)) : Go K R n0 Q T pc L (.ref a :: st) := by
  subst hp
  obtain ⟨⟨locs, X, hF⟩, e0, hn0, hx, hZ, hby, hml, hret, hlk, hown, hnm⟩ := S
  obtain ⟨c, A, h1, h2, h3⟩ := A
  refine Go.step (fun _ t => X.arraylength hx (by rw [e0]; exact A.1) (State.isArrayOf_alike hZ.alike A.2.1) (g := mkF K.m pc L (.ref a :: st)) rfl rfl (hb hby hd) _ t) ?_
  rw [len32 h1 h2 hv]
  exact k
theorem px_alenJ (S : St K Z R y bytes maxL ret n0 T h cl sl) (A : AJ Z h a n fj) {v : Int32} (hv : v.toInt = (n : Int)) (hd : decode bytes pc = .ok (.arraylength, 1)) (hp : pc + 1 = pc') (k : Go K R n0 Q T pc' L (.int v :: st)) : Go K R n0 Q T pc L (.ref a :: st) := by
  subst hp
  obtain ⟨⟨locs, X, hF⟩, e0, hn0, hx, hZ, hby, hml, hret, hlk, hown, hnm⟩ := S
  obtain ⟨c, A, h1, h2, h3⟩ := A
  refine Go.step (fun _ t => X.arraylength hx (by rw [e0]; exact A.1) (State.isArrayOf_alike hZ.alike A.2.1) (g := mkF K.m pc L (.ref a :: st)) rfl rfl (hb hby hd) _ t) ?_
  rw [len32 h1 h2 hv]
  exact k
theorem px_iastore (S : St K Z R y bytes maxL ret n0 T h cl sl) (A : AI Z h a .int n f) (ha : n0 ≤ a) {j u v : Int32} {i : Nat} (hj : j.toInt = (i : Int)) (hi : i < n) (hv : u = v) (hd : decode bytes pc = .ok (.iastore, 1)) (hp : pc + 1 = pc')
    (k : ∀ (T' : State) (h' : Heap), St K Z R y bytes maxL ret n0 T' h' cl sl → Wr h h' a i (.int v) → AI Z h' a .int n (updF f i v) → Go K R n0 Q T' pc' L st) : Go K R n0 Q T pc L (.int u :: .int j :: .ref a :: st) := by
  subst hp
  subst hv
  obtain ⟨⟨locs, X, hF⟩, e0, hn0, hx, hZ, hby, hml, hret, hlk, hown, hnm⟩ := S
  obtain ⟨c, A, h1, h2, h3⟩ := A
  obtain ⟨T', h', X', e', W, stp⟩ := stI X hx hZ e0 A (j := j) (inbI hj (h1 ▸ hi)) (g := mkF K.m pc L (.int u :: .int j :: .ref a :: st)) rfl rfl (hb hby hd)
  have hF' := Fr.snoc X' hF ha
  rw [clampI hj] at W
  exact Go.step stp (k T' h' ⟨⟨_, X', hF'⟩, e', hn0, hx, hZ, hby, hml, hret, hlk, hown, hnm⟩ W (AI.same A h1 h2 h3 W hi rfl))
theorem px_castore (S : St K Z R y bytes maxL ret n0 T h cl sl) (A : AI Z h a .char n f) (ha : n0 ≤ a) {j u v : Int32} {i : Nat} (hj : j.toInt = (i : Int)) (hi : i < n) (hv : (nar .char u) = v) (hd : decode bytes pc = .ok (.castore, 1)) (hp : pc + 1 = pc')
    (k : ∀ (T' : State) (h' : Heap), St K Z R y bytes maxL ret n0 T' h' cl sl → Wr h h' a i (.int v) → AI Z h' a .char n (updF f i v) → Go K R n0 Q T' pc' L st) : Go K R n0 Q T pc L (.int u :: .int j :: .ref a :: st) := by
  subst hp
  subst hv
  obtain ⟨⟨locs, X, hF⟩, e0, hn0, hx, hZ, hby, hml, hret, hlk, hown, hnm⟩ := S
  obtain ⟨c, A, h1, h2, h3⟩ := A
  obtain ⟨T', h', X', e', W, stp⟩ := stC X hx hZ e0 A (j := j) (inbI hj (h1 ▸ hi)) (g := mkF K.m pc L (.int u :: .int j :: .ref a :: st)) rfl rfl (hb hby hd)
  have hF' := Fr.snoc X' hF ha
  rw [clampI hj] at W
  exact Go.step stp (k T' h' ⟨⟨_, X', hF'⟩, e', hn0, hx, hZ, hby, hml, hret, hlk, hown, hnm⟩ W (AI.same A h1 h2 h3 W hi (fits_nar_char _)))
theorem px_sastore (S : St K Z R y bytes maxL ret n0 T h cl sl) (A : AI Z h a .short n f) (ha : n0 ≤ a) {j u v : Int32} {i : Nat} (hj : j.toInt = (i : Int)) (hi : i < n) (hv : (nar .short u) = v) (hd : decode bytes pc = .ok (.sastore, 1)) (hp : pc + 1 = pc')
    (k : ∀ (T' : State) (h' : Heap), St K Z R y bytes maxL ret n0 T' h' cl sl → Wr h h' a i (.int v) → AI Z h' a .short n (updF f i v) → Go K R n0 Q T' pc' L st) : Go K R n0 Q T pc L (.int u :: .int j :: .ref a :: st) := by
  subst hp
  subst hv
  obtain ⟨⟨locs, X, hF⟩, e0, hn0, hx, hZ, hby, hml, hret, hlk, hown, hnm⟩ := S
  obtain ⟨c, A, h1, h2, h3⟩ := A
  obtain ⟨T', h', X', e', W, stp⟩ := stS X hx hZ e0 A (j := j) (inbI hj (h1 ▸ hi)) (g := mkF K.m pc L (.int u :: .int j :: .ref a :: st)) rfl rfl (hb hby hd)
  have hF' := Fr.snoc X' hF ha
  rw [clampI hj] at W
  exact Go.step stp (k T' h' ⟨⟨_, X', hF'⟩, e', hn0, hx, hZ, hby, hml, hret, hlk, hown, hnm⟩ W (AI.same A h1 h2 h3 W hi (fits_nar_short _)))
theorem px_bastore (S : St K Z R y bytes maxL ret n0 T h cl sl) (A : AI Z h a .byte n f) (ha : n0 ≤ a) {j u v : Int32} {i : Nat} (hj : j.toInt = (i : Int)) (hi : i < n) (hv : (nar .byte u) = v) (hd : decode bytes pc = .ok (.bastore, 1)) (hp : pc + 1 = pc')
    (k : ∀ (T' : State) (h' : Heap), St K Z R y bytes maxL ret n0 T' h' cl sl → Wr h h' a i (.int v) → AI Z h' a .byte n (updF f i v) → Go K R n0 Q T' pc' L st) : Go K R n0 Q T pc L (.int u :: .int j :: .ref a :: st) := by
  subst hp
  subst hv
  obtain ⟨⟨locs, X, hF⟩, e0, hn0, hx, hZ, hby, hml, hret, hlk, hown, hnm⟩ := S
  obtain ⟨c, A, h1, h2, h3⟩ := A
  obtain ⟨T', h', X', e', W, stp⟩ := stB X hx hZ e0 A (j := j) (inbI hj (h1 ▸ hi)) (g := mkF K.m pc L (.int u :: .int j :: .ref a :: st)) rfl rfl (hb hby hd)
  have hF' := Fr.snoc X' hF ha
  rw [clampI hj] at W
  exact Go.step stp (k T' h' ⟨⟨_, X', hF'⟩, e', hn0, hx, hZ, hby, hml, hret, hlk, hown, hnm⟩ W (AI.same A h1 h2 h3 W hi (fits_nar_byte _)))
theorem px_lastore (S : St K Z R y bytes maxL ret n0 T h cl sl) (A : AJ Z h a n fj) (ha : n0 ≤ a) {j : Int32} {u : Int64} {i : Nat} (hj : j.toInt = (i : Int)) (hi : i < n) (hd : decode bytes pc = .ok (.lastore, 1)) (hp : pc + 1 = pc')
    (k : ∀ (T' : State) (h' : Heap), St K Z R y bytes maxL ret n0 T' h' cl sl → Wr h h' a i (.long u) → AJ Z h' a n (updF fj i u) → Go K R n0 Q T' pc' L st) : Go K R n0 Q T pc L (.long u :: .int j :: .ref a :: st) := by
  subst hp
  obtain ⟨⟨locs, X, hF⟩, e0, hn0, hx, hZ, hby, hml, hret, hlk, hown, hnm⟩ := S
  obtain ⟨c, A, h1, h2, h3⟩ := A
  obtain ⟨T', h', X', e', W, stp⟩ := stJ X hx hZ e0 A (j := j) (inbI hj (h1 ▸ hi)) (g := mkF K.m pc L (.long u :: .int j :: .ref a :: st)) rfl rfl (hb hby hd)
  have hF' := Fr.snoc X' hF ha
  rw [clampI hj] at W
  exact Go.step stp (k T' h' ⟨⟨_, X', hF'⟩, e', hn0, hx, hZ, hby, hml, hret, hlk, hown, hnm⟩ W (AJ.same A h1 h2 h3 W hi))
theorem nneg {u : Int32} (hu : u.toInt = (n : Int)) : ¬ u < 0 := fun q => by
  have q2 := Int32.lt_iff_toInt_lt.mp q
  have z : (0 : Int32).toInt = 0 := rfl
  omega
theorem small {u : Int32} (hu : u.toInt = (n : Int)) : n < 2147483648 := by
  have := (rng32 u).2
  omega
theorem px_newarr {aty : ArrayType} (S : St K Z R y bytes maxL ret n0 T h cl sl) (w : (Jvm.Cond.arrayClass (newarray.typeOf aty)).before a0 Z = true) (hdv : defaultValue (newarray.typeOf aty) = .int 0) {u : Int32} {cap : Nat} (hu : u.toInt = (n : Int)) (hcap : n ≤ cap) (hb8 : cap * 8 ≤ 536870912) (hc : cl + 1 ≤ R.cells) (hs : sl + cap ≤ R.slots)
    (hd : decode bytes pc = .ok (.newarray aty, 2)) (hp : pc + 2 = pc')
    (k : ∀ (T' : State) (h' : Heap) (a : Addr), a = h.size → n0 ≤ a → St K Z R y bytes maxL ret n0 T' h' (cl + 1) (sl + cap) → Ext h h' → AI Z h' a (newarray.typeOf aty) n (fun _ => 0) → Go K R n0 Q T' pc' L (.ref a :: st)) : Go K R n0 Q T pc L (.int u :: st) := by
  subst hp
  have hsz := S.size
  obtain ⟨⟨locs, X, hF⟩, e0, hn0, hx, hZ, hby, hml, hret, hlk, hown, hnm⟩ := S
  obtain ⟨T', h', cA, X', e', E, A, stp⟩ := newP X hx hZ w e0 (g := mkF K.m pc L (.int u :: st)) rfl (hb hby hd) rfl (nneg hu) (cap := cap) (by rw [clampI hu]; exact hcap) hb8 hc hs
  refine Go.step stp (k T' h' h.size rfl hsz ⟨⟨_, X', hF⟩, e', hn0, hx, hZ, hby, hml, hret, hlk, hown, hnm⟩ E ⟨_, A, by rw [sz_new, clampI hu], small hu, fun i hi => ⟨?_, ?_⟩⟩)
  · simp [newA, clampI hu, hi, hdv]
  · rw [← hdv]; cases aty <;> first | rfl | (simp [newarray.typeOf, defaultValue] at hdv)
theorem px_newarrJ (S : St K Z R y bytes maxL ret n0 T h cl sl) (w : (Jvm.Cond.arrayClass FieldType.long).before a0 Z = true) {u : Int32} {cap : Nat} (hu : u.toInt = (n : Int)) (hcap : n ≤ cap) (hb8 : cap * 8 ≤ 536870912) (hc : cl + 1 ≤ R.cells) (hs : sl + cap ≤ R.slots)
    (hd : decode bytes pc = .ok (.newarray .long, 2)) (hp : pc + 2 = pc')
    (k : ∀ (T' : State) (h' : Heap) (a : Addr), a = h.size → n0 ≤ a → St K Z R y bytes maxL ret n0 T' h' (cl + 1) (sl + cap) → Ext h h' → AJ Z h' a n (fun _ => 0) → Go K R n0 Q T' pc' L (.ref a :: st)) : Go K R n0 Q T pc L (.int u :: st) := by
  subst hp
  have hsz := S.size
  obtain ⟨⟨locs, X, hF⟩, e0, hn0, hx, hZ, hby, hml, hret, hlk, hown, hnm⟩ := S
  obtain ⟨T', h', cA, X', e', E, A, stp⟩ := newP X hx hZ (aty := .long) w e0 (g := mkF K.m pc L (.int u :: st)) rfl (hb hby hd) rfl (nneg hu) (cap := cap) (by rw [clampI hu]; exact hcap) hb8 hc hs
  refine Go.step stp (k T' h' h.size rfl hsz ⟨⟨_, X', hF⟩, e', hn0, hx, hZ, hby, hml, hret, hlk, hown, hnm⟩ E ⟨_, A, by rw [sz_new, clampI hu], small hu, fun i hi => ?_⟩)
  simp [newA, clampI hu, hi, defaultValue, newarray.typeOf]
theorem px_new {C : String} {idx k0 : Nat} (S : St K Z R y bytes maxL ret n0 T h cl sl) (w : (Jvm.Cond.classLink y.cls idx C).before a0 Z = true) (wi : (Jvm.Cond.instantiable C k0).before a0 Z = true) (wz : (Jvm.Cond.initialized C).before a0 Z = true) (hc : cl + 1 ≤ R.cells) (hs : sl + k0 ≤ R.slots) (hd : decode bytes pc = .ok (.new idx, 3)) (hp : pc + 3 = pc')
    (k : ∀ (T' : State) (h' : Heap) (a : Addr), a = h.size → n0 ≤ a → St K Z R y bytes maxL ret n0 T' h' (cl + 1) (sl + k0) → Ext h h' → Exa Z h' a C → (∀ {O nm d : String} {ty : FieldType}, Laid Z a0 C O nm d → parseFieldDescriptor d = some ty → Fld Z h' a O nm d (defaultValue ty)) → Go K R n0 Q T' pc' L (.ref a :: st)) : Go K R n0 Q T pc L st := by
  subst hp
  have hsz := S.size
  obtain ⟨⟨locs, X, hF⟩, e0, hn0, hx, hZ, hby, hml, hret, hlk, hown, hnm⟩ := S
  obtain ⟨T', h', X', e', E, A, D, -, stp⟩ := newO X hx hZ hown w wi wz e0 (g := mkF K.m pc L st) rfl (hb hby hd) hc hs
  exact Go.step stp (k T' h' h.size rfl hsz ⟨⟨_, X', hF⟩, e', hn0, hx, hZ, hby, hml, hret, hlk, hown, hnm⟩ E A (fun {O nm d ty} => D))
theorem px_getfield {C nm d : String} {idx : Nat} {v : Value} (S : St K Z R y bytes maxL ret n0 T h cl sl) (w : (Jvm.Cond.fieldLink y.cls idx C nm d).before a0 Z = true) (F : Fld Z h a C nm d v) (hd : decode bytes pc = .ok (.getfield idx, 3)) (hp : pc + 3 = pc')
    (k : ∀ (T' : State), St K Z R y bytes maxL ret n0 T' h cl sl → Go K R n0 Q T' pc' L (v :: st)) : Go K R n0 Q T pc L (.ref a :: st) := by
  subst hp
  obtain ⟨⟨locs, X, hF⟩, e0, hn0, hx, hZ, hby, hml, hret, hlk, hown, hnm⟩ := S
  obtain ⟨T', X', e', stp⟩ := getF X hx hZ hown (host := "") (Or.inl w) Via.refl e0 F (g := mkF K.m pc L (.ref a :: st)) rfl rfl (hb hby hd)
  exact Go.step stp (k T' ⟨⟨_, X', hF⟩, e', hn0, hx, hZ, hby, hml, hret, hlk, hown, hnm⟩)
theorem px_putfield {C nm d : String} {idx kk : Nat} {v v' old : Value} {ty : FieldType} (S : St K Z R y bytes maxL ret n0 T h cl sl) (w : (Jvm.Cond.fieldLink y.cls idx C nm d).before a0 Z = true) (F : Fld Z h a C nm d old) (E : Exa Z h a C) (ha : n0 ≤ a)
    (hl : (Jvm.Cond.lays C C nm d).before a0 Z = true ∨ ((Jvm.Cond.laysFinal C C nm d).before a0 Z = true ∧ y.cls = C ∧ y.name = "<init>")) (wi : (Jvm.Cond.instantiable C kk).before a0 Z = true) (hty : parseFieldDescriptor d = some ty) (hv : narrow ty v = v') (hf : fits ty v' = true) (hd : decode bytes pc = .ok (.putfield idx, 3)) (hp : pc + 3 = pc')
    (k : ∀ (T' : State) (h' : Heap), St K Z R y bytes maxL ret n0 T' h' cl sl → Wr h h' a (Jvm.RoadKit.slotOf Z C nm d) v' → Fld Z h' a C nm d v' → Exa Z h' a C → Go K R n0 Q T' pc' L st) : Go K R n0 Q T pc L (v :: .ref a :: st) := by
  subst hp
  obtain ⟨⟨locs, X, hF⟩, e0, hn0, hx, hZ, hby, hml, hret, hlk, hown, hnm⟩ := S
  obtain ⟨T', h', X', e', W, stp⟩ := putFN X hx hZ hown w Via.refl e0 F E (hl.imp id fun q => ⟨q.1, q.2.1, hnm.trans q.2.2⟩) wi hty hv hf (g := mkF K.m pc L (v :: .ref a :: st)) rfl rfl (hb hby hd)
  have hF' := Fr.snoc X' hF ha
  exact Go.step stp (k T' h' ⟨⟨_, X', hF'⟩, e', hn0, hx, hZ, hby, hml, hret, hlk, hown, hnm⟩ W (F.same W) (E.wr W))
theorem px_initO {idx W : Nat} (S : St K Z R y bytes maxL ret n0 T h cl sl) (w1 : (Jvm.Cond.methodLink y.cls idx Lib.objectInit).before a0 Z = true) (w2 : (Jvm.Cond.instanceMethod Lib.objectInit).before a0 Z = true) (w3 : (Jvm.Cond.code Lib.objectInit ⟨#[0xb1]⟩ 1 none).before a0 Z = true) (hL : L.size = maxL) (hfr : 1 ≤ R.frames) (hW : (st.map fun v => v.category).sum = W) (hlo : W + 12 ≤ R.locals) (hd : decode bytes pc = .ok (.invokespecial idx, 3)) (hp : pc + 3 = pc')
    (k : ∀ (T' : State), St K Z R y bytes maxL ret n0 T' h cl sl → Go K R n0 Q T' pc' L st) : Go K R n0 Q T pc L (.ref a :: st) := by
  subst hp
  obtain ⟨⟨locs, X, hF⟩, e0, hn0, hx, hZ, hby, hml, hret, hlk, hown, hnm⟩ := S
  obtain ⟨T', X', e', stp⟩ := initO X hx hZ hown w1 w2 w3 e0 (g := mkF K.m pc L (.ref a :: st)) rfl (hL.trans hml.symm) rfl (hb hby hd) hfr (W := W) (by show 2 * 0 + _ ≤ _; rw [hW]; omega) hlo
  exact Go.step stp (k T' ⟨⟨_, X', hF⟩, e', hn0, hx, hZ, hby, hml, hret, hlk, hown, hnm⟩)
theorem px_callS {y' : MethodName} {b' : ByteArray} {mx' : Nat} {rt' : Option FieldType} {rm : Room} {as' : List Value} {Q' : Option Value → Heap → Prop} {W idx : Nat} {ps : List FieldType} {rr : Option FieldType} (S : St K Z R y bytes maxL ret n0 T h cl sl) (C : Ctr Z n0 y' b' mx' rt' rm as' h Q') (w1 : (Jvm.Cond.methodLink y.cls idx y').before a0 Z = true) (w2 : (Jvm.Cond.static y').before a0 Z = true) (w3 : (Jvm.Cond.initialized y'.cls).before a0 Z = true) (w4 : (Jvm.Cond.code y' b' mx' rt').before a0 Z = true) (hy : y'.cls ≠ "java/lang/invoke/MethodHandle" ∧ y'.cls ≠ "java/lang/invoke/VarHandle")
    (hps : parseMethodDescriptor y'.desc = some ⟨ps, rr⟩) (hlen : as'.length = ps.length) (hL : L.size = maxL) (hfr : rm.frames + 1 ≤ R.frames) (hW : (st.map fun v => v.category).sum = W) (hlo : W + (mx' + 11) + rm.locals ≤ R.locals) (hc : cl + rm.cells ≤ R.cells) (hs : sl + rm.slots ≤ R.slots) (hd : decode bytes pc = .ok (.invokestatic idx, 3)) (hp : pc + 3 = pc') {stk : List Value} (hst : stk = as'.reverse ++ st)
    (k : ∀ (T' : State) (h' : Heap) (v : Option Value), St K Z R y bytes maxL ret n0 T' h' (cl + rm.cells) (sl + rm.slots) → Q' v h' → Go K R n0 Q T' pc' L (v.toList ++ st)) : Go K R n0 Q T pc L stk := by
  subst hp
  subst hst
  obtain ⟨⟨locs, X, hF⟩, e0, hn0, hx, hZ, hby, hml, hret, hlk, hown, hnm⟩ := S
  obtain ⟨v, _, ⟨T1, L1, c1, n1⟩, -, X1, ⟨Lc, hq, hl1, hc1, hs1⟩, stp⟩ := Jvm.LawKit.callS X hx (y := y') hown (mvT hZ w1) (mvT hZ w2) (mvT hZ w3) (mvT hZ w4) hy (backOf (Q := fun v h' L => Q' v h' ∧ Fr n0 L) (W := W) (C K.l []) hZ w4 w3 hfr hlo) (g := mkF K.m pc L (as'.reverse ++ st)) rfl (hL.trans hml.symm) (argsL := as') (rest := st) (lenOf hps hlen) rfl (by show 2 * 0 + _ ≤ _; rw [hW]; omega) (hb hby hd) (fun _ _ => ⟨rfl, e0, hc, hs⟩)
  dsimp only [Pt.U, Pt.locs, Pt.cells, Pt.slots] at X1 hl1 hc1 hs1 stp hq
  subst hl1 hc1 hs1
  obtain ⟨hq, hFc⟩ := hq
  exact Go.step stp (k T1 T1.heap v ⟨⟨_, X1, Fr.app hF hFc⟩, rfl, hn0, hx, hZ, hby, hml, hret, hlk, hown, hnm⟩ hq)
theorem Go.trans {T' : State} {st' : List Value} (hs : Steps K.p.tables K.e K.below (T.setTop (mkF K.m pc L st)) (T'.setTop (mkF K.m pc' L' st'))) (k : Go K R n0 Q T' pc' L' st') : Go K R n0 Q T pc L st := by
  obtain ⟨s₂, o, h1, r⟩ := k
  exact ⟨s₂, o, hs.trans h1, r⟩
theorem px_callC {y' : MethodName} {b' : ByteArray} {mx' : Nat} {rm : Room} {as' : List Value} {Q' : Option Value → Heap → Prop} {W idx : Nat} {ps : List FieldType} {rr : Option FieldType} (S : St K Z R y bytes maxL ret n0 T h cl sl) (C : Ctr Z n0 y' b' mx' none rm (.ref a :: as') h Q') (hin : y'.name = "<init>") (w1 : (Jvm.Cond.methodLink y.cls idx y').before a0 Z = true) (w2 : (Jvm.Cond.instanceMethod y').before a0 Z = true) (w3 : (Jvm.Cond.initialized y'.cls).before a0 Z = true) (w4 : (Jvm.Cond.code y' b' mx' none).before a0 Z = true) (hy : y'.cls ≠ "java/lang/invoke/MethodHandle" ∧ y'.cls ≠ "java/lang/invoke/VarHandle")
    (hps : parseMethodDescriptor y'.desc = some ⟨ps, rr⟩) (hlen : as'.length = ps.length) (hL : L.size = maxL) (hfr : rm.frames + 1 ≤ R.frames) (hW : (st.map fun v => v.category).sum = W) (hlo : W + (mx' + 11) + rm.locals ≤ R.locals) (hc : cl + rm.cells ≤ R.cells) (hs : sl + rm.slots ≤ R.slots) (hd : decode bytes pc = .ok (.invokespecial idx, 3)) (hp : pc + 3 = pc') {stk : List Value} (hst : stk = as'.reverse ++ .ref a :: st)
    (k : ∀ (T' : State) (h' : Heap) (v : Option Value), St K Z R y bytes maxL ret n0 T' h' (cl + rm.cells) (sl + rm.slots) → Q' v h' → Go K R n0 Q T' pc' L (v.toList ++ st)) : Go K R n0 Q T pc L stk := by
  subst hp
  subst hst
  obtain ⟨⟨locs, X, hF⟩, e0, hn0, hx, hZ, hby, hml, hret, hlk, hown, hnm⟩ := S
  obtain ⟨v, _, ⟨T1, L1, c1, n1⟩, -, X1, ⟨Lc, hq, hl1, hc1, hs1⟩, stp⟩ := X.specialBack hx (y := y') hin hown (mvT hZ w1) (mvT hZ w2) (mvT hZ w4) hy (backOf (Q := fun v h' L => Q' v h' ∧ Fr n0 L) (W := W) (C K.l []) hZ w4 w3 hfr hlo) (g := mkF K.m pc L (as'.reverse ++ .ref a :: st)) rfl (hL.trans hml.symm) (Steps.refl _) (a := a) (argsL := as') (rest := st) (lenOf hps hlen) rfl (by show 2 * 0 + _ ≤ _; rw [hW]; omega) (hb hby hd) (fun _ _ => ⟨rfl, e0, hc, hs⟩)
  dsimp only [Pt.U, Pt.locs, Pt.cells, Pt.slots] at X1 hl1 hc1 hs1 stp hq
  subst hl1 hc1 hs1
  obtain ⟨hq, hFc⟩ := hq
  exact Go.trans stp (k T1 T1.heap v ⟨⟨_, X1, Fr.app hF hFc⟩, rfl, hn0, hx, hZ, hby, hml, hret, hlk, hown, hnm⟩ hq)
theorem px_callV {y' : MethodName} {b' : ByteArray} {mx' : Nat} {rt' : Option FieldType} {rm : Room} {as' : List Value} {Q' : Option Value → Heap → Prop} {W idx : Nat} {ps : List FieldType} {rr : Option FieldType} {Cn : String} (S : St K Z R y bytes maxL ret n0 T h cl sl) (C : Ctr Z n0 y' b' mx' rt' rm (.ref a :: as') h Q') (E : Exa Z h a Cn) (w1 : (Jvm.Cond.methodLink y.cls idx y').before a0 Z = true) (w2 : (Jvm.Cond.declares y').before a0 Z = true) (w5 : (Jvm.Cond.selects Cn y' y').before a0 Z = true) (w6 : (Jvm.Cond.instanceMethod y').before a0 Z = true) (w3 : (Jvm.Cond.initialized y'.cls).before a0 Z = true) (w4 : (Jvm.Cond.code y' b' mx' rt').before a0 Z = true) (hnf : NotFace K.s y') (hy : y'.cls ≠ "java/lang/invoke/MethodHandle" ∧ y'.cls ≠ "java/lang/invoke/VarHandle")
    (hps : parseMethodDescriptor y'.desc = some ⟨ps, rr⟩) (hlen : as'.length = ps.length) (hL : L.size = maxL) (hfr : rm.frames + 1 ≤ R.frames) (hW : (st.map fun v => v.category).sum = W) (hlo : W + (mx' + 11) + rm.locals ≤ R.locals) (hc : cl + rm.cells ≤ R.cells) (hs : sl + rm.slots ≤ R.slots) (hd : decode bytes pc = .ok (.invokevirtual idx, 3)) (hp : pc + 3 = pc') {stk : List Value} (hst : stk = as'.reverse ++ .ref a :: st)
    (k : ∀ (T' : State) (h' : Heap) (v : Option Value), St K Z R y bytes maxL ret n0 T' h' (cl + rm.cells) (sl + rm.slots) → Q' v h' → Go K R n0 Q T' pc' L (v.toList ++ st)) : Go K R n0 Q T pc L stk := by
  subst hp
  subst hst
  obtain ⟨⟨locs, X, hF⟩, e0, hn0, hx, hZ, hby, hml, hret, hlk, hown, hnm⟩ := S
  obtain ⟨cq, kq, qa, qb, qc⟩ := isOf hZ e0 E
  obtain ⟨v, _, ⟨T1, L1, c1, n1⟩, -, X1, ⟨Lc, hq, hl1, hc1, hs1⟩, stp⟩ := X.virtualBack hx (y := y') (z := y') hown (mvT hZ w1) (mvT hZ w2) hnf (mvT hZ w5) (mvT hZ w6) hy (backOf (Q := fun v h' L => Q' v h' ∧ Fr n0 L) (W := W) (C K.l []) hZ w4 w3 hfr hlo) qa qc (g := mkF K.m pc L (as'.reverse ++ .ref a :: st)) rfl (hL.trans hml.symm) (Steps.refl _) (argsL := as') (rest := st) (lenOf hps hlen) rfl (by show 2 * 0 + _ ≤ _; rw [hW]; omega) (hb hby hd) (fun _ _ => ⟨rfl, e0, hc, hs⟩)
  dsimp only [Pt.U, Pt.locs, Pt.cells, Pt.slots] at X1 hl1 hc1 hs1 stp hq
  subst hl1 hc1 hs1
  obtain ⟨hq, hFc⟩ := hq
  exact Go.trans stp (k T1 T1.heap v ⟨⟨_, X1, Fr.app hF hFc⟩, rfl, hn0, hx, hZ, hby, hml, hret, hlk, hown, hnm⟩ hq)
theorem px_callI {y' : MethodName} {b' : ByteArray} {mx' : Nat} {rt' : Option FieldType} {rm : Room} {as' : List Value} {Q' : Option Value → Heap → Prop} {W idx : Nat} {ps : List FieldType} {rr : Option FieldType} {Cn : String} {xi : MethodName} {count : Nat} (S : St K Z R y bytes maxL ret n0 T h cl sl) (C : Ctr Z n0 y' b' mx' rt' rm (.ref a :: as') h Q') (E : Exa Z h a Cn) (w1 : (Jvm.Cond.methodLink y.cls idx xi).before a0 Z = true) (w2 : (Jvm.Cond.declares xi).before a0 Z = true) (w7 : (Jvm.Cond.interfaceMethod xi.cls xi.cls xi.name xi.desc).before a0 Z = true) (hface : ((Jvm.Cond.interfaceMethod xi.cls xi.cls xi.name xi.desc).onTables && (Jvm.Cond.interfaceMethod xi.cls xi.cls xi.name xi.desc).keepsFace) = true) (w5 : (Jvm.Cond.selects Cn xi y').before a0 Z = true) (w6 : (Jvm.Cond.instanceMethod y').before a0 Z = true) (w8 : (Jvm.Cond.publicMethod y').before a0 Z = true) (w9 : (Jvm.Cond.unhidden Cn xi.name xi.desc).before a0 Z = true) (w10 : (Jvm.Cond.castable Cn xi.cls).before a0 Z = true) (w3 : (Jvm.Cond.initialized y'.cls).before a0 Z = true) (w4 : (Jvm.Cond.code y' b' mx' rt').before a0 Z = true) (hy : xi.cls ≠ "java/lang/invoke/MethodHandle" ∧ xi.cls ≠ "java/lang/invoke/VarHandle")
    (hps : parseMethodDescriptor xi.desc = some ⟨ps, rr⟩) (hlen : as'.length = ps.length) (hL : L.size = maxL) (hfr : rm.frames + 1 ≤ R.frames) (hW : (st.map fun v => v.category).sum = W) (hlo : W + (mx' + 11) + rm.locals ≤ R.locals) (hc : cl + rm.cells ≤ R.cells) (hs : sl + rm.slots ≤ R.slots) (hd : decode bytes pc = .ok (.invokeinterface idx count, 5)) (hp : pc + 5 = pc') {stk : List Value} (hst : stk = as'.reverse ++ .ref a :: st)
    (k : ∀ (T' : State) (h' : Heap) (v : Option Value), St K Z R y bytes maxL ret n0 T' h' (cl + rm.cells) (sl + rm.slots) → Q' v h' → Go K R n0 Q T' pc' L (v.toList ++ st)) : Go K R n0 Q T pc L stk := by
  subst hp
  subst hst
  obtain ⟨⟨locs, X, hF⟩, e0, hn0, hx, hZ, hby, hml, hret, hlk, hown, hnm⟩ := S
  obtain ⟨cq, kq, qa, qb, qc⟩ := isOf hZ e0 E
  obtain ⟨v, _, ⟨T1, L1, c1, n1⟩, -, X1, ⟨Lc, hq, hl1, hc1, hs1⟩, stp⟩ := X.interfaceBack hx (xi := xi) (y := y') hown (mvT hZ w1) (mvT hZ w2) (mvT hZ w7 hface) (mvT hZ w5) (mvT hZ w6) (mvT hZ w8) (mvT hZ w9) (mvT hZ w10) hy (backOf (Q := fun v h' L => Q' v h' ∧ Fr n0 L) (W := W) (C K.l []) hZ w4 w3 hfr hlo) qa qb qc (g := mkF K.m pc L (as'.reverse ++ .ref a :: st)) rfl (hL.trans hml.symm) (Steps.refl _) (argsL := as') (rest := st) (lenOf hps hlen) rfl (by show 2 * 0 + _ ≤ _; rw [hW]; omega) (hb hby hd) (fun _ _ => ⟨rfl, e0, hc, hs⟩)
  dsimp only [Pt.U, Pt.locs, Pt.cells, Pt.slots] at X1 hl1 hc1 hs1 stp hq
  subst hl1 hc1 hs1
  obtain ⟨hq, hFc⟩ := hq
  exact Go.trans stp (k T1 T1.heap v ⟨⟨_, X1, Fr.app hF hFc⟩, rfl, hn0, hx, hZ, hby, hml, hret, hlk, hown, hnm⟩ hq)
theorem St.nf {y' : MethodName} (S : St K Z R y bytes maxL ret n0 T h cl sl) (w : (Jvm.Cond.selects y'.cls y' y').before a0 Z = true) : NotFace K.s y' := by
  obtain ⟨⟨locs, X, hF⟩, e0, hn0, hx, hZ, hby, hml, hret, hlk, hown, hnm⟩ := S
  exact notFace_of_selects (args := #[]) (mvT hZ w)
theorem px_lsw (S : St K Z R y bytes maxL ret n0 T h cl sl) {df o : Int} {ps : Array (Int × Int)} {pl : List (Int × Int)} {ln : Nat} {u : Int32} (hd : decode bytes pc = .ok (.lookupswitch df ps, ln)) (hpl : ps.toList = pl) (hm : (pl.zip (pl.drop 1)).all (fun (a, next) => a.1 < next.1) = true) (hu : lookupswitch.offset pl df u.toInt = o) (ho : 0 ≤ (pc : Int) + o) (hp : ((pc : Int) + o).toNat = pc') (k : Go K R n0 Q T pc' L st) : Go K R n0 Q T pc L (.int u :: st) := by
  subst hp
  subst hpl
  obtain ⟨⟨locs, X, hF⟩, e0, hn0, hx, hZ, hby, hml, hret, hlk, hown, hnm⟩ := S
  refine Go.step (fun _ t => ?_) k
  have hd' := hb hby hd
  show Steps K.p.tables K.e K.below (T.setTop { method := K.m, pc := pc, locals := L, stack := .int u :: st, locked := none }) _
  jvm_step X.here [X.here.top, hx, hd', lookupswitch.wp_chain, hu, ho]
  exact ⟨by simpa using hm, t⟩
theorem Go.join {α : Type} {P : α → Prop} {pcj : Nat} {Lj : α → Array Slot} {stj : α → List Value} (h1 : ∀ x, P x → Go K R n0 Q T pcj (Lj x) (stj x)) (h2 : (∀ x, P x → Go K R n0 Q T pcj (Lj x) (stj x)) → Go K R n0 Q T pc L st) : Go K R n0 Q T pc L st := h2 h1
theorem Go.joinT {α : Type} {P : α → Prop} {pcj cl' sl' : Nat} {Lj : α → Array Slot} {stj : α → List Value} (S : St K Z R y bytes maxL ret n0 T h cl sl) (h1 : ∀ (x : α) (T' : State), St K Z R y bytes maxL ret n0 T' h cl' sl' → P x → Go K R n0 Q T' pcj (Lj x) (stj x)) (h2 : (∀ (x : α) (T' : State), St K Z R y bytes maxL ret n0 T' h cl' sl' → P x → Go K R n0 Q T' pcj (Lj x) (stj x)) → Go K R n0 Q T pc L st) : Go K R n0 Q T pc L st := h2 h1
theorem Go.joinH {α : Type} {P : α → Heap → Prop} {pcj cl' sl' : Nat} {Lj : α → Array Slot} {stj : α → List Value} (S : St K Z R y bytes maxL ret n0 T h cl sl) (h1 : ∀ (x : α) (T' : State) (h' : Heap), St K Z R y bytes maxL ret n0 T' h' cl' sl' → P x h' → Go K R n0 Q T' pcj (Lj x) (stj x)) (h2 : (∀ (x : α) (T' : State) (h' : Heap), St K Z R y bytes maxL ret n0 T' h' cl' sl' → P x h' → Go K R n0 Q T' pcj (Lj x) (stj x)) → Go K R n0 Q T pc L st) : Go K R n0 Q T pc L st := h2 h1
theorem Go.loopH {α : Type} {Inv : Nat → α → Heap → Prop} {pcj cl' sl' : Nat} {Lj : α → Array Slot} {stj : α → List Value} (S : St K Z R y bytes maxL ret n0 T h cl sl)
    (h1 : ∀ k, (∀ j, j < k → ∀ (x : α) (T' : State) (h' : Heap), St K Z R y bytes maxL ret n0 T' h' cl' sl' → Inv j x h' → Go K R n0 Q T' pcj (Lj x) (stj x)) → ∀ (x : α) (T' : State) (h' : Heap), St K Z R y bytes maxL ret n0 T' h' cl' sl' → Inv k x h' → Go K R n0 Q T' pcj (Lj x) (stj x))
    (h2 : (∀ (k : Nat) (x : α) (T' : State) (h' : Heap), St K Z R y bytes maxL ret n0 T' h' cl' sl' → Inv k x h' → Go K R n0 Q T' pcj (Lj x) (stj x)) → Go K R n0 Q T pc L st) : Go K R n0 Q T pc L st := h2 (fun k => Nat.strongRecOn k h1)
theorem i32_of {x y : Int32} {n : Int} (h : x.toInt = n) (hy : y.toInt = n) : x = y := Int32.toInt_inj.mp (h.trans hy.symm)
theorem i64_of {x y : Int64} {n : Int} (h : x.toInt = n) (hy : y.toInt = n) : x = y := Int64.toInt_inj.mp (h.trans hy.symm)
theorem ne_new {a b n : Nat} (e : a = n) (h : b < n) : b ≠ a := by omega
theorem f_imul (x y : Int32) (n : Int) (hy : y.toInt = n) : ((x * y).toInt - x.toInt * n) % 4294967296 = 0 := by rw [← hy]; exact c_imul x y
theorem f_imul' (x y : Int32) (n : Int) (hx : x.toInt = n) : ((x * y).toInt - n * y.toInt) % 4294967296 = 0 := by rw [← hx]; exact c_imul x y
theorem f_lmul (x y : Int64) (n : Int) (hy : y.toInt = n) : ((x * y).toInt - x.toInt * n) % 18446744073709551616 = 0 := by rw [← hy]; exact c_lmul x y
theorem f_lmul' (x y : Int64) (n : Int) (hx : x.toInt = n) : ((x * y).toInt - n * y.toInt) % 18446744073709551616 = 0 := by rw [← hx]; exact c_lmul x y
theorem f_imask (x m : Int32) (k : Nat) (P : Int) (hk : k ≤ 31) (hm : m.toBitVec.toNat = 2 ^ k - 1) (hP : ((2 ^ k : Nat) : Int) = P) : (x &&& m).toInt = x.toInt % P := by rw [← hP]; exact c_mask x m k hk hm
theorem f_imask' (m x : Int32) (k : Nat) (P : Int) (hk : k ≤ 31) (hm : m.toBitVec.toNat = 2 ^ k - 1) (hP : ((2 ^ k : Nat) : Int) = P) : (m &&& x).toInt = x.toInt % P := by rw [Int32.and_comm]; exact f_imask x m k P hk hm hP
theorem f_lmask (x m : Int64) (k : Nat) (P : Int) (hk : k ≤ 63) (hm : m.toBitVec.toNat = 2 ^ k - 1) (hP : ((2 ^ k : Nat) : Int) = P) : (x &&& m).toInt = x.toInt % P := by rw [← hP]; exact c_maskL x m k hk hm
theorem f_lmask' (m x : Int64) (k : Nat) (P : Int) (hk : k ≤ 63) (hm : m.toBitVec.toNat = 2 ^ k - 1) (hP : ((2 ^ k : Nat) : Int) = P) : (m &&& x).toInt = x.toInt % P := by rw [Int64.and_comm]; exact f_lmask x m k P hk hm hP
theorem f_ishl (x q : Int32) (k : Nat) (P : Int) (hk : q.toBitVec.toNat % 32 = k) (hP : ((2 ^ k : Nat) : Int) = P) : ((x <<< (q &&& 31)).toInt - x.toInt * P) % 4294967296 = 0 := by rw [← hP]; exact c_ishl x q k hk
theorem f_ishr (x q : Int32) (k : Nat) (P : Int) (hk : q.toBitVec.toNat % 32 = k) (hP : ((2 ^ k : Nat) : Int) = P) : (x >>> (q &&& 31)).toInt = x.toInt / P := by rw [← hP]; exact c_ishr x q k hk
theorem f_iushr (x q : Int32) (k : Nat) (P : Int) (hk : q.toBitVec.toNat % 32 = k) (h0 : 0 < k) (hP : ((2 ^ k : Nat) : Int) = P) : (ushr x q).toInt = (x.toInt % 4294967296) / P := by rw [← hP]; exact c_iushr x q k hk h0
theorem f_lshl (x : Int64) (q : Int32) (k : Nat) (P : Int) (hk : q.toBitVec.toNat % 64 = k) (hP : ((2 ^ k : Nat) : Int) = P) : ((x <<< (q &&& 0x3f).toInt64).toInt - x.toInt * P) % 18446744073709551616 = 0 := by rw [← hP]; exact c_lshl x q k hk
theorem f_lshr (x : Int64) (q : Int32) (k : Nat) (P : Int) (hk : q.toBitVec.toNat % 64 = k) (hP : ((2 ^ k : Nat) : Int) = P) : (x >>> (q &&& 0x3f).toInt64).toInt = x.toInt / P := by rw [← hP]; exact c_lshr x q k hk
theorem f_lushr (x : Int64) (q : Int32) (k : Nat) (P : Int) (hk : q.toBitVec.toNat % 64 = k) (h0 : 0 < k) (hP : ((2 ^ k : Nat) : Int) = P) : (ushrL x q).toInt = (x.toInt % 18446744073709551616) / P := by rw [← hP]; exact c_lushr x q k hk h0
theorem f_idiv (x y : Int32) (d : Int) (hy : y.toInt = d) (hd : y ≠ -1) : (0 ≤ x.toInt → (x / y).toInt = x.toInt / d) ∧ (x.toInt < 0 → (x / y).toInt = -((-x.toInt) / d)) := c_idiv x y d hy hd
theorem f_irem (x y : Int32) (d : Int) (hy : y.toInt = d) : (0 ≤ x.toInt → (x % y).toInt = x.toInt % d) ∧ (x.toInt < 0 → (x % y).toInt = -((-x.toInt) % d)) := c_irem x y d hy
theorem f_ldiv (x y : Int64) (d : Int) (hy : y.toInt = d) (hd : y ≠ -1) : (0 ≤ x.toInt → (x / y).toInt = x.toInt / d) ∧ (x.toInt < 0 → (x / y).toInt = -((-x.toInt) / d)) := c_ldiv x y d hy hd
theorem f_i2b (x : Int32) : ((i2b x).toInt - x.toInt) % 256 = 0 ∧ -128 ≤ (i2b x).toInt ∧ (i2b x).toInt < 128 := c_i2b x
theorem f_i2s (x : Int32) : ((i2s x).toInt - x.toInt) % 65536 = 0 ∧ -32768 ≤ (i2s x).toInt ∧ (i2s x).toInt < 32768 := c_i2s x
theorem f_i2c (x : Int32) : ((i2c x).toInt - x.toInt) % 65536 = 0 ∧ 0 ≤ (i2c x).toInt ∧ (i2c x).toInt < 65536 := c_i2c x
theorem x_iadd {a b : Int32} {la ha lb hb : Int} (p : la ≤ a.toInt ∧ a.toInt ≤ ha) (q : lb ≤ b.toInt ∧ b.toInt ≤ hb) (h1 : -2147483648 ≤ la + lb) (h2 : ha + hb < 2147483648) : (a + b).toInt = a.toInt + b.toInt := by have r := c_iadd a b; have s := rng32 (a + b); omega
theorem x_isub {a b : Int32} {la ha lb hb : Int} (p : la ≤ a.toInt ∧ a.toInt ≤ ha) (q : lb ≤ b.toInt ∧ b.toInt ≤ hb) (h1 : -2147483648 ≤ la - hb) (h2 : ha - lb < 2147483648) : (a - b).toInt = a.toInt - b.toInt := by have r := c_isub a b; have s := rng32 (a - b); omega
theorem x_imask {a m : Int32} {P : Int} (k : Nat) (hk : k ≤ 32 - 1) (hm : m.toBitVec.toNat = 2 ^ k - 1) (hP : ((2 ^ k : Nat) : Int) = P) : (a &&& m).toInt = a.toInt % P := f_imask a m k P hk hm hP
theorem x_ineg {a : Int32} {la ha : Int} (p : la ≤ a.toInt ∧ a.toInt ≤ ha) (h1 : -2147483648 < la) : (-a).toInt = -a.toInt := by have r := c_ineg a; have s := rng32 (-a); have t := rng32 a; omega
theorem x_ishr {x : Int32} {q : Int32} {P : Int} (k : Nat) (hk : q.toBitVec.toNat % 32 = k) (hP : ((2 ^ k : Nat) : Int) = P) : (x >>> (q &&& 31)).toInt = x.toInt / P := f_ishr x q k P hk hP
theorem x_iushr {x : Int32} {q : Int32} {P la ha : Int} (p : la ≤ x.toInt ∧ x.toInt ≤ ha) (h1 : 0 ≤ la) (k : Nat) (hk : q.toBitVec.toNat % 32 = k) (h0 : 0 < k) (hP : ((2 ^ k : Nat) : Int) = P) : (ushr x q).toInt = x.toInt / P := by
  have r := f_iushr x q k P hk h0 hP
  have s := rng32 x
  rw [r]; congr 1; omega
theorem x_imul {a b : Int32} {la ha n : Int} (p : la ≤ a.toInt ∧ a.toInt ≤ ha) (hn : b.toInt = n) (h0 : 0 ≤ n) (h1 : -2147483648 ≤ la * n) (h2 : ha * n < 2147483648) : (a * b).toInt = a.toInt * n := by
  have r := f_imul a b n hn
  have s := rng32 (a * b)
  have m1 := Int.mul_le_mul_of_nonneg_right p.1 h0
  have m2 := Int.mul_le_mul_of_nonneg_right p.2 h0
  generalize a.toInt * n = z at *
  generalize la * n = z1 at *
  generalize ha * n = z2 at *
  omega
theorem x_imulN {a b : Int32} {la ha n : Int} (p : la ≤ a.toInt ∧ a.toInt ≤ ha) (hn : b.toInt = n) (h0 : n ≤ 0) (h1 : -2147483648 ≤ ha * n) (h2 : la * n < 2147483648) : (a * b).toInt = a.toInt * n := by
  have r := f_imul a b n hn
  have s := rng32 (a * b)
  have m1 := Int.mul_le_mul_of_nonpos_right p.1 h0
  have m2 := Int.mul_le_mul_of_nonpos_right p.2 h0
  generalize a.toInt * n = z at *
  generalize la * n = z1 at *
  generalize ha * n = z2 at *
  omega
theorem x_imulN' {a b : Int32} {la ha n : Int} (p : la ≤ b.toInt ∧ b.toInt ≤ ha) (hn : a.toInt = n) (h0 : n ≤ 0) (h1 : -2147483648 ≤ ha * n) (h2 : la * n < 2147483648) : (a * b).toInt = b.toInt * n := by
  rw [Int32.mul_comm]; exact x_imulN p hn h0 h1 h2
theorem x_imul' {a b : Int32} {la ha n : Int} (p : la ≤ b.toInt ∧ b.toInt ≤ ha) (hn : a.toInt = n) (h0 : 0 ≤ n) (h1 : -2147483648 ≤ la * n) (h2 : ha * n < 2147483648) : (a * b).toInt = b.toInt * n := by
  rw [Int32.mul_comm]; exact x_imul p hn h0 h1 h2
theorem x_ladd {a b : Int64} {la ha lb hb : Int} (p : la ≤ a.toInt ∧ a.toInt ≤ ha) (q : lb ≤ b.toInt ∧ b.toInt ≤ hb) (h1 : -9223372036854775808 ≤ la + lb) (h2 : ha + hb < 9223372036854775808) : (a + b).toInt = a.toInt + b.toInt := by have r := c_ladd a b; have s := rng64 (a + b); omega
theorem x_lsub {a b : Int64} {la ha lb hb : Int} (p : la ≤ a.toInt ∧ a.toInt ≤ ha) (q : lb ≤ b.toInt ∧ b.toInt ≤ hb) (h1 : -9223372036854775808 ≤ la - hb) (h2 : ha - lb < 9223372036854775808) : (a - b).toInt = a.toInt - b.toInt := by have r := c_lsub a b; have s := rng64 (a - b); omega
theorem x_lmask {a m : Int64} {P : Int} (k : Nat) (hk : k ≤ 64 - 1) (hm : m.toBitVec.toNat = 2 ^ k - 1) (hP : ((2 ^ k : Nat) : Int) = P) : (a &&& m).toInt = a.toInt % P := f_lmask a m k P hk hm hP
theorem x_lneg {a : Int64} {la ha : Int} (p : la ≤ a.toInt ∧ a.toInt ≤ ha) (h1 : -9223372036854775808 < la) : (-a).toInt = -a.toInt := by have r := c_lneg a; have s := rng64 (-a); have t := rng64 a; omega
theorem x_lshr {x : Int64} {q : Int32} {P : Int} (k : Nat) (hk : q.toBitVec.toNat % 64 = k) (hP : ((2 ^ k : Nat) : Int) = P) : (x >>> (q &&& 0x3f).toInt64).toInt = x.toInt / P := f_lshr x q k P hk hP
theorem x_lushr {x : Int64} {q : Int32} {P la ha : Int} (p : la ≤ x.toInt ∧ x.toInt ≤ ha) (h1 : 0 ≤ la) (k : Nat) (hk : q.toBitVec.toNat % 64 = k) (h0 : 0 < k) (hP : ((2 ^ k : Nat) : Int) = P) : (ushrL x q).toInt = x.toInt / P := by
  have r := f_lushr x q k P hk h0 hP
  have s := rng64 x
  rw [r]; congr 1; omega
theorem x_lmul {a b : Int64} {la ha n : Int} (p : la ≤ a.toInt ∧ a.toInt ≤ ha) (hn : b.toInt = n) (h0 : 0 ≤ n) (h1 : -9223372036854775808 ≤ la * n) (h2 : ha * n < 9223372036854775808) : (a * b).toInt = a.toInt * n := by
  have r := f_lmul a b n hn
  have s := rng64 (a * b)
  have m1 := Int.mul_le_mul_of_nonneg_right p.1 h0
  have m2 := Int.mul_le_mul_of_nonneg_right p.2 h0
  generalize a.toInt * n = z at *
  generalize la * n = z1 at *
  generalize ha * n = z2 at *
  omega
theorem x_lmulN {a b : Int64} {la ha n : Int} (p : la ≤ a.toInt ∧ a.toInt ≤ ha) (hn : b.toInt = n) (h0 : n ≤ 0) (h1 : -9223372036854775808 ≤ ha * n) (h2 : la * n < 9223372036854775808) : (a * b).toInt = a.toInt * n := by
  have r := f_lmul a b n hn
  have s := rng64 (a * b)
  have m1 := Int.mul_le_mul_of_nonpos_right p.1 h0
  have m2 := Int.mul_le_mul_of_nonpos_right p.2 h0
  generalize a.toInt * n = z at *
  generalize la * n = z1 at *
  generalize ha * n = z2 at *
  omega
theorem x_lmulN' {a b : Int64} {la ha n : Int} (p : la ≤ b.toInt ∧ b.toInt ≤ ha) (hn : a.toInt = n) (h0 : n ≤ 0) (h1 : -9223372036854775808 ≤ ha * n) (h2 : la * n < 9223372036854775808) : (a * b).toInt = b.toInt * n := by
  rw [Int64.mul_comm]; exact x_lmulN p hn h0 h1 h2
theorem x_lmul' {a b : Int64} {la ha n : Int} (p : la ≤ b.toInt ∧ b.toInt ≤ ha) (hn : a.toInt = n) (h0 : 0 ≤ n) (h1 : -9223372036854775808 ≤ la * n) (h2 : ha * n < 9223372036854775808) : (a * b).toInt = b.toInt * n := by
  rw [Int64.mul_comm]; exact x_lmul p hn h0 h1 h2
theorem ib_add {a b la ha lb hb lo hi : Int} (p : la ≤ a ∧ a ≤ ha) (q : lb ≤ b ∧ b ≤ hb) (h1 : lo ≤ la + lb) (h2 : ha + hb ≤ hi) : lo ≤ a + b ∧ a + b ≤ hi := by omega
theorem ib_sub {a b la ha lb hb lo hi : Int} (p : la ≤ a ∧ a ≤ ha) (q : lb ≤ b ∧ b ≤ hb) (h1 : lo ≤ la - hb) (h2 : ha - lb ≤ hi) : lo ≤ a - b ∧ a - b ≤ hi := by omega
theorem ib_neg {a la ha lo hi : Int} (p : la ≤ a ∧ a ≤ ha) (h1 : lo ≤ -ha) (h2 : -la ≤ hi) : lo ≤ -a ∧ -a ≤ hi := by omega
theorem ib_mod {a lo hi : Int} (P : Int) (hP : 0 < P) (h1 : lo ≤ 0) (h2 : P - 1 ≤ hi) : lo ≤ a % P ∧ a % P ≤ hi := by have := Int.emod_nonneg a (Int.ne_of_gt hP); have := Int.emod_lt_of_pos a hP; omega
theorem ib_div {a la ha lo hi : Int} (P : Int) (hP : 0 < P) (p : la ≤ a ∧ a ≤ ha) (h1 : lo ≤ la / P) (h2 : ha / P ≤ hi) : lo ≤ a / P ∧ a / P ≤ hi := ⟨Int.le_trans h1 (Int.ediv_le_ediv hP p.1), Int.le_trans (Int.ediv_le_ediv hP p.2) h2⟩
theorem ib_mul {a la ha lo hi : Int} (n : Int) (h0 : 0 ≤ n) (p : la ≤ a ∧ a ≤ ha) (h1 : lo ≤ la * n) (h2 : ha * n ≤ hi) : lo ≤ a * n ∧ a * n ≤ hi := ⟨Int.le_trans h1 (Int.mul_le_mul_of_nonneg_right p.1 h0), Int.le_trans (Int.mul_le_mul_of_nonneg_right p.2 h0) h2⟩
theorem ib_mulN {a la ha lo hi : Int} (n : Int) (h0 : n ≤ 0) (p : la ≤ a ∧ a ≤ ha) (h1 : lo ≤ ha * n) (h2 : la * n ≤ hi) : lo ≤ a * n ∧ a * n ≤ hi := ⟨Int.le_trans h1 (Int.mul_le_mul_of_nonpos_right p.2 h0), Int.le_trans (Int.mul_le_mul_of_nonpos_right p.1 h0) h2⟩
theorem x_idiv {a b : Int32} {la ha d : Int} (p : la ≤ a.toInt ∧ a.toInt ≤ ha) (hy : b.toInt = d) (h0 : 0 ≤ la) (hd : b ≠ -1) : (a / b).toInt = a.toInt / d := (c_idiv a b d hy hd).1 (Int.le_trans h0 p.1)
theorem x_irem {a b : Int32} {la ha d : Int} (p : la ≤ a.toInt ∧ a.toInt ≤ ha) (hy : b.toInt = d) (h0 : 0 ≤ la) : (a % b).toInt = a.toInt % d := (c_irem a b d hy).1 (Int.le_trans h0 p.1)
theorem x_iremV {a b : Int32} {la ha lb hb : Int} (p : la ≤ a.toInt ∧ a.toInt ≤ ha) (q : lb ≤ b.toInt ∧ b.toInt ≤ hb) (h0 : 0 ≤ la) (h1 : 0 < lb) : 0 ≤ (a % b).toInt ∧ (a % b).toInt < b.toInt := by
  have r := (c_iremV a b).1 (Int.le_trans h0 p.1) (Int.lt_of_lt_of_le h1 q.1)
  exact ⟨r.1, r.2.1⟩
theorem ib_rem {r y lb hb hi : Int} (x : 0 ≤ r ∧ r < y) (q : lb ≤ y ∧ y ≤ hb) (h : hb - 1 ≤ hi) : 0 ≤ r ∧ r ≤ hi := by omega
theorem rb32 (x : Int32) : -2147483648 ≤ x.toInt ∧ x.toInt ≤ 2147483647 := by have := rng32 x; omega
theorem rb64 (x : Int64) : -9223372036854775808 ≤ x.toInt ∧ x.toInt ≤ 9223372036854775807 := by have := rng64 x; omega
theorem x_l2i {x : Int64} {la ha : Int} (p : la ≤ x.toInt ∧ x.toInt ≤ ha) (h1 : -2147483648 ≤ la) (h2 : ha < 2147483648) : x.toInt32.toInt = x.toInt := by have r := c_l2i x; have s := rng32 x.toInt32; omega
end Kit
end Jvm.OwnK
namespace Jvm.Pilot.@@N@@
open Jvm Jvm.ClassFile Sem Op Lib Jvm.Free Jvm.Stand Jvm.LawKit Jvm.RoadKit Bundle Jvm.OwnK Jvm.Pilot.@@N@@.Jvm.D
abbrev Obj4 (Z : State) (h : Heap) (a : Addr) (u1 u2 : Value) (o l : Int32) : Prop := Exa Z h a "com/example/ghost_state/ghoststate/ByteChars" ∧ Fld Z h a "com/example/ghost_state/ghoststate/ByteChars" "bytes" "[B" u1 ∧ Fld Z h a "com/example/ghost_state/ghoststate/ByteChars" "buffer" "Ljava/nio/ByteBuffer;" u2 ∧ Fld Z h a "com/example/ghost_state/ghoststate/ByteChars" "offset" "I" (.int o) ∧ Fld Z h a "com/example/ghost_state/ghoststate/ByteChars" "length" "I" (.int l)
theorem d3_0 : decode jdk_41_method_13_code 0 = .ok (.iload_n 2, 1) := by decide +kernel
theorem d3_1 : decode jdk_41_method_13_code 1 = .ok (.iload_n 0, 1) := by decide +kernel
theorem d3_2 : decode jdk_41_method_13_code 2 = .ok (.ior, 1) := by decide +kernel
theorem d3_3 : decode jdk_41_method_13_code 3 = .ok (.iload_n 1, 1) := by decide +kernel
theorem d3_4 : decode jdk_41_method_13_code 4 = .ok (.ior, 1) := by decide +kernel
theorem d3_5 : decode jdk_41_method_13_code 5 = .ok (.ifCond .lt 10, 3) := by decide +kernel
theorem d3_8 : decode jdk_41_method_13_code 8 = .ok (.iload_n 1, 1) := by decide +kernel
theorem d3_9 : decode jdk_41_method_13_code 9 = .ok (.iload_n 2, 1) := by decide +kernel
theorem d3_10 : decode jdk_41_method_13_code 10 = .ok (.iload_n 0, 1) := by decide +kernel
theorem d3_11 : decode jdk_41_method_13_code 11 = .ok (.isub, 1) := by decide +kernel
theorem d3_12 : decode jdk_41_method_13_code 12 = .ok (.if_icmp .le 11, 3) := by decide +kernel
theorem d3_23 : decode jdk_41_method_13_code 23 = .ok (.iload_n 0, 1) := by decide +kernel
theorem d3_24 : decode jdk_41_method_13_code 24 = .ok (.ireturn, 1) := by decide +kernel
theorem pn_3 : plainFor (⟨"jdk/internal/util/Preconditions", "checkFromIndexSize", "(IIILjava/util/function/BiFunction;)I"⟩ : MethodName) = true := plainFor_of_name (by first | (simp [plainName, overriddenIn]; done) | decide +kernel)
set_option maxRecDepth 65536 in
set_option maxHeartbeats 40000000 in
theorem c_pre {Z : State} {a0 : Array Value} (hw : ∀ d ∈ tables_1, d.before a0 Z = true) {x y z : Int32} {h0 : Heap} {n0 : Nat} (Z0 : n0 ≤ h0.size) (h1 : 0 ≤ x.toInt) (h2 : 0 ≤ y.toInt) (h3 : x.toInt + y.toInt ≤ z.toInt) :
    Ctr Z n0 (⟨"jdk/internal/util/Preconditions", "checkFromIndexSize", "(IIILjava/util/function/BiFunction;)I"⟩ : MethodName) jdk_41_method_13_code 4 (some .int) ({ frames := 0, cells := 0, slots := 0, locals := 0 } : Room) [(.int x), (.int y), (.int z), .null] h0 (fun v h => v = some (.int x) ∧ h = h0) := by
  refine Ctr.of (L := #[.val (.int x), .val (.int y), .val (.int z), .val .null]) pn_3 Z0 (fun m => by first | (simp [entryFrame, mkF, argsToLocals, Value.category]; done) | rfl) ?_
  intro K T S0
  refine px_iloadN S0 d3_0 rfl rfl ?_
  refine px_iloadN S0 d3_1 rfl rfl ?_
  refine px_ior S0 d3_2 rfl ?_
  refine px_iloadN S0 d3_3 rfl rfl ?_
  refine px_ior S0 d3_4 rfl ?_
  refine px_if0 S0 d3_5 (by decide) (pc' := 15) rfl rfl (fun (hc1 : ((z ||| x) ||| y).toInt < 0) => by exfalso; have q0 := rng32 ((z ||| x) ||| y); have q1 := c_orS (z ||| x) y; have q2 := rng32 (z ||| x); have q3 := c_orS z x; have q4 := rng32 z; have q5 := rng32 x; have q6 := rng32 y; omega) (fun (hc1 : ((z ||| x) ||| y).toInt ≥ 0) => ?_)
  refine px_iloadN S0 d3_8 rfl rfl ?_
  refine px_iloadN S0 d3_9 rfl rfl ?_
  refine px_iloadN S0 d3_10 rfl rfl ?_
  refine px_isub S0 d3_11 rfl ?_
  refine px_icmp S0 d3_12 (by decide) (pc' := 23) rfl rfl (fun (hc2 : y.toInt ≤ (z - x).toInt) => ?_) (fun (hc2 : y.toInt > (z - x).toInt) => by exfalso; have q0 := rng32 y; have q1 := c_isub z x; have q2 := rng32 (z - x); have q3 := rng32 z; have q4 := rng32 x; have q5 := rng32 ((z ||| x) ||| y); have q6 := c_orS (z ||| x) y; have q7 := rng32 (z ||| x); have q8 := c_orS z x; omega)
  refine px_iloadN S0 d3_23 rfl rfl ?_
  exact px_retI S0 d3_24 rfl (by decide) (by decide) (⟨rfl, rfl⟩)
theorem d2_0 : decode jdk_31_method_19_code 0 = .ok (.iload_n 0, 1) := by decide +kernel
theorem d2_1 : decode jdk_31_method_19_code 1 = .ok (.iload_n 1, 1) := by decide +kernel
theorem d2_2 : decode jdk_31_method_19_code 2 = .ok (.iload_n 2, 1) := by decide +kernel
theorem d2_3 : decode jdk_31_method_19_code 3 = .ok (.aconst_null, 1) := by decide +kernel
theorem d2_4 : decode jdk_31_method_19_code 4 = .ok (.invokestatic 115, 3) := by decide +kernel
theorem d2_7 : decode jdk_31_method_19_code 7 = .ok (.ireturn, 1) := by decide +kernel
theorem pd_2_0 : parseMethodDescriptor "(IIILjava/util/function/BiFunction;)I" = some ⟨[.int, .int, .int, (.object "java/util/function/BiFunction")], some .int⟩ := by decide +kernel
theorem pn_2 : plainFor (⟨"java/util/Objects", "checkFromIndexSize", "(III)I"⟩ : MethodName) = true := plainFor_of_name (by first | (simp [plainName, overriddenIn]; done) | decide +kernel)
set_option maxRecDepth 65536 in
set_option maxHeartbeats 40000000 in
theorem c_chk {Z : State} {a0 : Array Value} (hw : ∀ d ∈ tables_1, d.before a0 Z = true) {x y z : Int32} {h0 : Heap} {n0 : Nat} (Z0 : n0 ≤ h0.size) (h1 : 0 ≤ x.toInt) (h2 : 0 ≤ y.toInt) (h3 : x.toInt + y.toInt ≤ z.toInt) :
    Ctr Z n0 (⟨"java/util/Objects", "checkFromIndexSize", "(III)I"⟩ : MethodName) jdk_31_method_19_code 3 (some .int) ({ frames := 1, cells := 0, slots := 0, locals := 15 } : Room) [(.int x), (.int y), (.int z)] h0 (fun v h => v = some (.int x) ∧ h = h0) := by
  refine Ctr.of (L := #[.val (.int x), .val (.int y), .val (.int z)]) pn_2 Z0 (fun m => by first | (simp [entryFrame, mkF, argsToLocals, Value.category]; done) | rfl) ?_
  intro K T S0
  refine px_iloadN S0 d2_0 rfl rfl ?_
  refine px_iloadN S0 d2_1 rfl rfl ?_
  refine px_iloadN S0 d2_2 rfl rfl ?_
  refine px_aconstNull S0 d2_3 rfl ?_
  refine px_callS (as' := [(.int x), (.int y), (.int z), .null]) (st := []) (W := 0) S0 (c_pre hw S0.size h1 h2 h3) (hw _ (List.mem_of_getElem? (i := 12) rfl)) (hw _ (List.mem_of_getElem? (i := 13) rfl)) (hw _ (List.mem_of_getElem? (i := 14) rfl)) (hw _ (List.mem_of_getElem? (i := 15) rfl)) (by decide) pd_2_0 rfl rfl (by decide) rfl (by decide) (by decide) (by decide) d2_4 rfl rfl (fun T1 h1 v1 S1 q1 => ?_)
  obtain ⟨rfl, rfl⟩ := q1
  show Go _ _ _ _ _ _ _ [(.int x)]
  exact px_retI S1 d2_7 rfl (by decide) (by decide) (⟨rfl, rfl⟩)
theorem d4_0 : decode prog_4_method_3_code 0 = .ok (.aload_n 0, 1) := by decide +kernel
theorem d4_1 : decode prog_4_method_3_code 1 = .ok (.invokespecial 16, 3) := by decide +kernel
theorem d4_4 : decode prog_4_method_3_code 4 = .ok (.aload_n 0, 1) := by decide +kernel
theorem d4_5 : decode prog_4_method_3_code 5 = .ok (.aload_n 1, 1) := by decide +kernel
theorem d4_6 : decode prog_4_method_3_code 6 = .ok (.putfield 21, 3) := by decide +kernel
theorem d4_9 : decode prog_4_method_3_code 9 = .ok (.aload_n 0, 1) := by decide +kernel
theorem d4_10 : decode prog_4_method_3_code 10 = .ok (.aload_n 2, 1) := by decide +kernel
theorem d4_11 : decode prog_4_method_3_code 11 = .ok (.putfield 25, 3) := by decide +kernel
theorem d4_14 : decode prog_4_method_3_code 14 = .ok (.aload_n 0, 1) := by decide +kernel
theorem d4_15 : decode prog_4_method_3_code 15 = .ok (.iload_n 3, 1) := by decide +kernel
theorem d4_16 : decode prog_4_method_3_code 16 = .ok (.putfield 29, 3) := by decide +kernel
theorem d4_19 : decode prog_4_method_3_code 19 = .ok (.aload_n 0, 1) := by decide +kernel
theorem d4_20 : decode prog_4_method_3_code 20 = .ok (.iload 4, 2) := by decide +kernel
theorem d4_22 : decode prog_4_method_3_code 22 = .ok (.putfield 33, 3) := by decide +kernel
theorem d4_25 : decode prog_4_method_3_code 25 = .ok (.return_, 1) := by decide +kernel
theorem pn_4 : plainFor (⟨"com/example/ghost_state/ghoststate/ByteChars", "<init>", "([BLjava/nio/ByteBuffer;II)V"⟩ : MethodName) = true := plainFor_of_name (by first | (simp [plainName, overriddenIn]; done) | decide +kernel)
set_option maxRecDepth 65536 in
set_option maxHeartbeats 40000000 in
theorem c_in {Z : State} {a0 : Array Value} (hw : ∀ d ∈ tables_1, d.before a0 Z = true) {a b : Addr} {o l : Int32} {h0 : Heap} {n0 : Nat} (Z0 : n0 ≤ h0.size) (g_a : n0 ≤ a) (B0 : Obj4 Z h0 a .null .null 0 0) :
    Ctr Z n0 (⟨"com/example/ghost_state/ghoststate/ByteChars", "<init>", "([BLjava/nio/ByteBuffer;II)V"⟩ : MethodName) prog_4_method_3_code 5 none ({ frames := 1, cells := 0, slots := 0, locals := 12 } : Room) [(.ref a), (.ref b), .null, (.int o), (.int l)] h0 (fun v h => v = none ∧ Obj4 Z h a (.ref b) .null o l) := by
  refine Ctr.of (L := #[.val (.ref a), .val (.ref b), .val .null, .val (.int o), .val (.int l)]) pn_4 Z0 (fun m => by first | (simp [entryFrame, mkF, argsToLocals, Value.category]; done) | rfl) ?_
  intro K T S0
  obtain ⟨X_a, F_bytes_a, F_buffer_a, F_offset_a, F_length_a⟩ := B0
  refine px_aloadN S0 d4_0 rfl rfl rfl ?_
  refine px_initO (W := 0) S0 (hw _ (List.mem_of_getElem? (i := 19) rfl)) (hw _ (List.mem_of_getElem? (i := 20) rfl)) (hw _ (List.mem_of_getElem? (i := 21) rfl)) rfl (by decide) rfl (by decide) d4_1 rfl (fun T1 S1 => ?_)
  refine px_aloadN S1 d4_4 rfl rfl rfl ?_
  refine px_aloadN S1 d4_5 rfl rfl rfl ?_
  refine px_putfield (ty := (.array .byte)) S1 (hw _ (List.mem_of_getElem? (i := 22) rfl)) F_bytes_a X_a g_a (Or.inr ⟨(hw _ (List.mem_of_getElem? (i := 23) rfl)), rfl, rfl⟩) (hw _ (List.mem_of_getElem? (i := 3) rfl)) (by decide) rfl rfl d4_6 rfl (fun T2 h2 S2 W2 F_bytes_a X_a => ?_)
  replace F_buffer_a := F_buffer_a.other W2 (Or.inr (slot_ne (Or.inr (hw _ (List.mem_of_getElem? (i := 25) rfl))) (Or.inr (hw _ (List.mem_of_getElem? (i := 23) rfl))) (by decide) (t := (.object "java/nio/ByteBuffer")) (t' := (.array .byte)) (by decide) (by decide)))
  replace F_offset_a := F_offset_a.other W2 (Or.inr (slot_ne (Or.inr (hw _ (List.mem_of_getElem? (i := 27) rfl))) (Or.inr (hw _ (List.mem_of_getElem? (i := 23) rfl))) (by decide) (t := .int) (t' := (.array .byte)) (by decide) (by decide)))
  replace F_length_a := F_length_a.other W2 (Or.inr (slot_ne (Or.inr (hw _ (List.mem_of_getElem? (i := 29) rfl))) (Or.inr (hw _ (List.mem_of_getElem? (i := 23) rfl))) (by decide) (t := .int) (t' := (.array .byte)) (by decide) (by decide)))
  refine px_aloadN S2 d4_9 rfl rfl rfl ?_
  refine px_aloadN S2 d4_10 rfl rfl rfl ?_
  refine px_putfield (ty := (.object "java/nio/ByteBuffer")) S2 (hw _ (List.mem_of_getElem? (i := 24) rfl)) F_buffer_a X_a g_a (Or.inr ⟨(hw _ (List.mem_of_getElem? (i := 25) rfl)), rfl, rfl⟩) (hw _ (List.mem_of_getElem? (i := 3) rfl)) (by decide) rfl rfl d4_11 rfl (fun T3 h3 S3 W3 F_buffer_a X_a => ?_)
  replace F_bytes_a := F_bytes_a.other W3 (Or.inr (slot_ne (Or.inr (hw _ (List.mem_of_getElem? (i := 23) rfl))) (Or.inr (hw _ (List.mem_of_getElem? (i := 25) rfl))) (by decide) (t := (.array .byte)) (t' := (.object "java/nio/ByteBuffer")) (by decide) (by decide)))
  replace F_offset_a := F_offset_a.other W3 (Or.inr (slot_ne (Or.inr (hw _ (List.mem_of_getElem? (i := 27) rfl))) (Or.inr (hw _ (List.mem_of_getElem? (i := 25) rfl))) (by decide) (t := .int) (t' := (.object "java/nio/ByteBuffer")) (by decide) (by decide)))
  replace F_length_a := F_length_a.other W3 (Or.inr (slot_ne (Or.inr (hw _ (List.mem_of_getElem? (i := 29) rfl))) (Or.inr (hw _ (List.mem_of_getElem? (i := 25) rfl))) (by decide) (t := .int) (t' := (.object "java/nio/ByteBuffer")) (by decide) (by decide)))
  refine px_aloadN S3 d4_14 rfl rfl rfl ?_
  refine px_iloadN S3 d4_15 rfl rfl ?_
  refine px_putfield (ty := .int) S3 (hw _ (List.mem_of_getElem? (i := 26) rfl)) F_offset_a X_a g_a (Or.inr ⟨(hw _ (List.mem_of_getElem? (i := 27) rfl)), rfl, rfl⟩) (hw _ (List.mem_of_getElem? (i := 3) rfl)) (by decide) rfl rfl d4_16 rfl (fun T4 h4 S4 W4 F_offset_a X_a => ?_)
  replace F_bytes_a := F_bytes_a.other W4 (Or.inr (slot_ne (Or.inr (hw _ (List.mem_of_getElem? (i := 23) rfl))) (Or.inr (hw _ (List.mem_of_getElem? (i := 27) rfl))) (by decide) (t := (.array .byte)) (t' := .int) (by decide) (by decide)))
  replace F_buffer_a := F_buffer_a.other W4 (Or.inr (slot_ne (Or.inr (hw _ (List.mem_of_getElem? (i := 25) rfl))) (Or.inr (hw _ (List.mem_of_getElem? (i := 27) rfl))) (by decide) (t := (.object "java/nio/ByteBuffer")) (t' := .int) (by decide) (by decide)))
  replace F_length_a := F_length_a.other W4 (Or.inr (slot_ne (Or.inr (hw _ (List.mem_of_getElem? (i := 29) rfl))) (Or.inr (hw _ (List.mem_of_getElem? (i := 27) rfl))) (by decide) (t := .int) (t' := .int) (by decide) (by decide)))
  refine px_aloadN S4 d4_19 rfl rfl rfl ?_
  refine px_iload S4 d4_20 rfl rfl ?_
  refine px_putfield (ty := .int) S4 (hw _ (List.mem_of_getElem? (i := 28) rfl)) F_length_a X_a g_a (Or.inr ⟨(hw _ (List.mem_of_getElem? (i := 29) rfl)), rfl, rfl⟩) (hw _ (List.mem_of_getElem? (i := 3) rfl)) (by decide) rfl rfl d4_22 rfl (fun T5 h5 S5 W5 F_length_a X_a => ?_)
  replace F_bytes_a := F_bytes_a.other W5 (Or.inr (slot_ne (Or.inr (hw _ (List.mem_of_getElem? (i := 23) rfl))) (Or.inr (hw _ (List.mem_of_getElem? (i := 29) rfl))) (by decide) (t := (.array .byte)) (t' := .int) (by decide) (by decide)))
  replace F_buffer_a := F_buffer_a.other W5 (Or.inr (slot_ne (Or.inr (hw _ (List.mem_of_getElem? (i := 25) rfl))) (Or.inr (hw _ (List.mem_of_getElem? (i := 29) rfl))) (by decide) (t := (.object "java/nio/ByteBuffer")) (t' := .int) (by decide) (by decide)))
  replace F_offset_a := F_offset_a.other W5 (Or.inr (slot_ne (Or.inr (hw _ (List.mem_of_getElem? (i := 27) rfl))) (Or.inr (hw _ (List.mem_of_getElem? (i := 29) rfl))) (by decide) (t := .int) (t' := .int) (by decide) (by decide)))
  exact px_return S5 d4_25 rfl (by decide) (by decide) (⟨rfl, X_a, F_bytes_a, F_buffer_a, F_offset_a, F_length_a⟩)
theorem d1_0 : decode prog_4_method_2_code 0 = .ok (.aload_n 0, 1) := by decide +kernel
theorem d1_1 : decode prog_4_method_2_code 1 = .ok (.aload_n 1, 1) := by decide +kernel
theorem d1_2 : decode prog_4_method_2_code 2 = .ok (.aconst_null, 1) := by decide +kernel
theorem d1_3 : decode prog_4_method_2_code 3 = .ok (.iload_n 2, 1) := by decide +kernel
theorem d1_4 : decode prog_4_method_2_code 4 = .ok (.iload_n 3, 1) := by decide +kernel
theorem d1_5 : decode prog_4_method_2_code 5 = .ok (.aload_n 1, 1) := by decide +kernel
theorem d1_6 : decode prog_4_method_2_code 6 = .ok (.arraylength, 1) := by decide +kernel
theorem d1_7 : decode prog_4_method_2_code 7 = .ok (.invokestatic 7, 3) := by decide +kernel
theorem d1_10 : decode prog_4_method_2_code 10 = .ok (.iload_n 3, 1) := by decide +kernel
theorem d1_11 : decode prog_4_method_2_code 11 = .ok (.invokespecial 13, 3) := by decide +kernel
theorem d1_14 : decode prog_4_method_2_code 14 = .ok (.return_, 1) := by decide +kernel
theorem pd_1_0 : parseMethodDescriptor "(III)I" = some ⟨[.int, .int, .int], some .int⟩ := by decide +kernel
theorem pd_1_1 : parseMethodDescriptor "([BLjava/nio/ByteBuffer;II)V" = some ⟨[(.array .byte), (.object "java/nio/ByteBuffer"), .int, .int], none⟩ := by decide +kernel
theorem pn_1 : plainFor (⟨"com/example/ghost_state/ghoststate/ByteChars", "<init>", "([BII)V"⟩ : MethodName) = true := plainFor_of_name (by first | (simp [plainName, overriddenIn]; done) | decide +kernel)
set_option maxRecDepth 65536 in
set_option maxHeartbeats 40000000 in
theorem c_out {Z : State} {a0 : Array Value} (hw : ∀ d ∈ tables_1, d.before a0 Z = true) {a b : Addr} {n : Nat} {x y z : Int32} {f : Nat → Int32} {h0 : Heap} {n0 : Nat} (Z0 : n0 ≤ h0.size) (h1 : 0 ≤ x.toInt) (h2 : 0 ≤ y.toInt) (h3 : x.toInt + y.toInt ≤ z.toInt) (hnl : z.toInt = (n : Int)) (A0 : AI Z h0 b .byte n f) (g_a : n0 ≤ a) (B0 : Obj4 Z h0 a .null .null 0 0) :
    Ctr Z n0 (⟨"com/example/ghost_state/ghoststate/ByteChars", "<init>", "([BII)V"⟩ : MethodName) prog_4_method_2_code 4 none ({ frames := 2, cells := 0, slots := 0, locals := 32 } : Room) [(.ref a), (.ref b), (.int x), (.int y)] h0 (fun v h => v = none ∧ Obj4 Z h a (.ref b) .null x y) := by
  refine Ctr.of (L := #[.val (.ref a), .val (.ref b), .val (.int x), .val (.int y)]) pn_1 Z0 (fun m => by first | (simp [entryFrame, mkF, argsToLocals, Value.category]; done) | rfl) ?_
  intro K T S0
  refine px_aloadN S0 d1_0 rfl rfl rfl ?_
  refine px_aloadN S0 d1_1 rfl rfl rfl ?_
  refine px_aconstNull S0 d1_2 rfl ?_
  refine px_iloadN S0 d1_3 rfl rfl ?_
  refine px_iloadN S0 d1_4 rfl rfl ?_
  refine px_aloadN S0 d1_5 rfl rfl rfl ?_
  refine px_alenI (v := z) S0 A0 hnl d1_6 rfl ?_
  refine px_callS (as' := [(.int x), (.int y), (.int z)]) (st := [.null, (.ref b), (.ref a)]) (W := 3) S0 (c_chk hw S0.size h1 h2 h3) (hw _ (List.mem_of_getElem? (i := 8) rfl)) (hw _ (List.mem_of_getElem? (i := 9) rfl)) (hw _ (List.mem_of_getElem? (i := 10) rfl)) (hw _ (List.mem_of_getElem? (i := 11) rfl)) (by decide) pd_1_0 rfl rfl (by decide) rfl (by decide) (by decide) (by decide) d1_7 rfl rfl (fun T1 h1 v1 S1 q1 => ?_)
  obtain ⟨rfl, rfl⟩ := q1
  show Go _ _ _ _ _ _ _ [(.int x), .null, (.ref b), (.ref a)]
  refine px_iloadN S1 d1_10 rfl rfl ?_
  refine px_callC (as' := [(.ref b), .null, (.int x), (.int y)]) (st := []) (W := 0) S1 (c_in hw S1.size g_a B0) rfl (hw _ (List.mem_of_getElem? (i := 16) rfl)) (hw _ (List.mem_of_getElem? (i := 17) rfl)) (hw _ (List.mem_of_getElem? (i := 4) rfl)) (hw _ (List.mem_of_getElem? (i := 18) rfl)) (by decide) pd_1_1 rfl rfl (by decide) rfl (by decide) (by decide) (by decide) d1_11 rfl rfl (fun T2 h2 v2 S2 q2 => ?_)
  obtain ⟨rfl, hO⟩ := q2
  show Go _ _ _ _ _ _ _ []
  exact px_return S2 d1_14 rfl (by decide) (by decide) (⟨rfl, hO⟩)
theorem d6_0 : decode prog_4_method_7_code 0 = .ok (.aload_n 0, 1) := by decide +kernel
theorem d6_1 : decode prog_4_method_7_code 1 = .ok (.getfield 21, 3) := by decide +kernel
theorem d6_4 : decode prog_4_method_7_code 4 = .ok (.ifnull 15, 3) := by decide +kernel
theorem d6_7 : decode prog_4_method_7_code 7 = .ok (.aload_n 0, 1) := by decide +kernel
theorem d6_8 : decode prog_4_method_7_code 8 = .ok (.getfield 29, 3) := by decide +kernel
theorem d6_11 : decode prog_4_method_7_code 11 = .ok (.iload_n 1, 1) := by decide +kernel
theorem d6_12 : decode prog_4_method_7_code 12 = .ok (.iadd, 1) := by decide +kernel
theorem d6_13 : decode prog_4_method_7_code 13 = .ok (.bipush 7, 2) := by decide +kernel
theorem d6_15 : decode prog_4_method_7_code 15 = .ok (.iand, 1) := by decide +kernel
theorem d6_16 : decode prog_4_method_7_code 16 = .ok (.goto 18, 3) := by decide +kernel
theorem d6_34 : decode prog_4_method_7_code 34 = .ok (.ireturn, 1) := by decide +kernel
theorem pn_6 : plainFor (⟨"com/example/ghost_state/ghoststate/ByteChars", "placeInWord", "(I)I"⟩ : MethodName) = true := plainFor_of_name (by first | (simp [plainName, overriddenIn]; done) | decide +kernel)
set_option maxRecDepth 65536 in
set_option maxHeartbeats 40000000 in
theorem c_place {Z : State} {a0 : Array Value} (hw : ∀ d ∈ tables_1, d.before a0 Z = true) {a b : Addr} {o l i : Int32} {h0 : Heap} {n0 : Nat} (Z0 : n0 ≤ h0.size) (B0 : Obj4 Z h0 a (.ref b) .null o l) :
    Ctr Z n0 (⟨"com/example/ghost_state/ghoststate/ByteChars", "placeInWord", "(I)I"⟩ : MethodName) prog_4_method_7_code 2 (some .int) ({ frames := 0, cells := 0, slots := 0, locals := 0 } : Room) [(.ref a), (.int i)] h0 (fun v h => v = some (.int ((o + i) &&& (7 : Int32)))) := by
  refine Ctr.of (L := #[.val (.ref a), .val (.int i)]) pn_6 Z0 (fun m => by first | (simp [entryFrame, mkF, argsToLocals, Value.category]; done) | rfl) ?_
  intro K T S0
  obtain ⟨X_a, F_bytes_a, F_buffer_a, F_offset_a, F_length_a⟩ := B0
  refine px_aloadN S0 d6_0 rfl rfl rfl ?_
  refine px_getfield S0 (hw _ (List.mem_of_getElem? (i := 22) rfl)) F_bytes_a d6_1 rfl (fun T1 S1 => ?_)
  refine px_ifnull S1 d6_4 rfl ?_
  refine px_aloadN S1 d6_7 rfl rfl rfl ?_
  refine px_getfield S1 (hw _ (List.mem_of_getElem? (i := 26) rfl)) F_offset_a d6_8 rfl (fun T2 S2 => ?_)
  refine px_iloadN S2 d6_11 rfl rfl ?_
  refine px_iadd S2 d6_12 rfl ?_
  refine px_bipush (v := (7 : Int32)) S2 d6_13 rfl rfl ?_
  refine px_iand S2 d6_15 rfl ?_
  refine px_goto S2 d6_16 (by decide) (pc' := 34) rfl ?_
  exact px_retI S2 d6_34 rfl (by decide) (by decide) (rfl)
theorem pd_0_0 : parseMethodDescriptor "([BII)V" = some ⟨[(.array .byte), .int, .int], none⟩ := by decide +kernel
theorem pd_0_1 : parseMethodDescriptor "(I)I" = some ⟨[.int], some .int⟩ := by decide +kernel
theorem pn_0 : plainFor x = true := plainFor_of_name (by first | (simp [plainName, overriddenIn]; done) | decide +kernel)
set_option maxRecDepth 65536 in
set_option maxHeartbeats 40000000 in
theorem law_ctr {Z : State} {a0 : Array Value} (hw : ∀ d ∈ tables_1, d.before a0 Z = true) (i0 i1 i2 : Int32) {h0 : Heap} {n0 : Nat} (Z0 : n0 ≤ h0.size) :
    Ctr Z n0 x code maxLocals ret room_1 [(.int i0), (.int i1), (.int i2)] h0 (fun v h => v = some (.int 1)) := by
  refine Ctr.of (L := #[.val (.int i0), .val (.int i1), .val (.int i2), .unset, .unset, .unset, .unset, .unset, .unset, .unset, .unset]) pn_0 Z0 (fun m => by first | (simp [entryFrame, mkF, argsToLocals, Value.category, maxLocals]; done) | rfl) ?_
  intro K T S0
  refine px_sipush (v := (1024 : Int32)) S0 at_0 rfl rfl ?_
  refine px_istoreN S0 at_3 rfl (L' := #[.val (.int i0), .val (.int i1), .val (.int i2), .val (.int (1024 : Int32)), .unset, .unset, .unset, .unset, .unset, .unset, .unset]) rfl ?_
  refine px_iloadN S0 at_4 rfl rfl ?_
  refine px_newarr (aty := .byte) (cap := 1024) S0 (hw _ (List.mem_of_getElem? (i := 0) rfl)) rfl (n := 1024) rfl (by decide) (by decide) (by decide) (by decide) at_5 rfl (fun T1 h1 b1 z1 g_b1 S1 E1 A_b1 => ?_)
  refine px_astore S1 at_7 rfl rfl (L' := #[.val (.int i0), .val (.int i1), .val (.int i2), .val (.int (1024 : Int32)), .val (.ref b1), .unset, .unset, .unset, .unset, .unset, .unset]) rfl ?_
  refine px_iloadN S1 at_9 rfl rfl ?_
  refine px_ldcI S1 (hw _ (List.mem_of_getElem? (i := 1) rfl)) at_10 rfl ?_
  refine px_iand S1 at_12 rfl ?_
  refine px_iloadN S1 at_13 rfl rfl ?_
  refine px_irem S1 at_14 rfl (by decide) ?_
  have x_3 := (x_imask 31 (by decide) (by decide) (by decide) : (i0 &&& (2147483647 : Int32)).toInt = i0.toInt % 2147483648)
  have l_4 : (2147483647 : Int32).toInt = 2147483647 := rfl
  have bx_3 : (0 : Int) ≤ (i0 &&& (2147483647 : Int32)).toInt ∧ (i0 &&& (2147483647 : Int32)).toInt ≤ 2147483647 := by rw [x_3]; exact ib_mod 2147483648 (by decide) (by decide) (by decide)
  have x_2 := (x_irem bx_3 rfl (by decide) : ((i0 &&& (2147483647 : Int32)) % (1024 : Int32)).toInt = (i0 &&& (2147483647 : Int32)).toInt % 1024)
  have l_5 : (1024 : Int32).toInt = 1024 := rfl
  have bx_2 : (0 : Int) ≤ ((i0 &&& (2147483647 : Int32)) % (1024 : Int32)).toInt ∧ ((i0 &&& (2147483647 : Int32)) % (1024 : Int32)).toInt ≤ 1023 := by rw [x_2]; exact ib_mod 1024 (by decide) (by decide) (by decide)
  generalize h_v6 : ((i0 &&& (2147483647 : Int32)) % (1024 : Int32)) = v6
  rw [h_v6] at x_2 bx_2
  refine px_istore S1 at_15 rfl (L' := #[.val (.int i0), .val (.int i1), .val (.int i2), .val (.int (1024 : Int32)), .val (.ref b1), .val (.int v6), .unset, .unset, .unset, .unset, .unset]) rfl ?_
  refine px_iconst (v := (1 : Int32)) S1 at_17 rfl rfl ?_
  refine px_iloadN S1 at_18 rfl rfl ?_
  refine px_ldcI S1 (hw _ (List.mem_of_getElem? (i := 1) rfl)) at_19 rfl ?_
  refine px_iand S1 at_21 rfl ?_
  refine px_iloadN S1 at_22 rfl rfl ?_
  refine px_iload S1 at_23 rfl rfl ?_
  refine px_isub S1 at_25 rfl ?_
  have x_7 := (x_isub (show (1024 : Int) ≤ (1024 : Int32).toInt ∧ (1024 : Int32).toInt ≤ 1024 from by decide) bx_2 (by decide) (by decide) : ((1024 : Int32) - v6).toInt = (1024 : Int32).toInt - v6.toInt)
  have bx_7 : (1 : Int) ≤ ((1024 : Int32) - v6).toInt ∧ ((1024 : Int32) - v6).toInt ≤ 1024 := by rw [x_7]; exact ib_sub (show (1024 : Int) ≤ (1024 : Int32).toInt ∧ (1024 : Int32).toInt ≤ 1024 from by decide) bx_2 (by decide) (by decide)
  refine px_irem S1 at_26 rfl (fun hz => by have hz' := congrArg Int32.toInt hz; have z0 : (0 : Int32).toInt = 0 := rfl; have b0 := bx_7; omega) ?_
  refine px_iadd S1 at_27 rfl ?_
  have l_9 : (1 : Int32).toInt = 1 := rfl
  have x_11 := (x_imask 31 (by decide) (by decide) (by decide) : (i1 &&& (2147483647 : Int32)).toInt = i1.toInt % 2147483648)
  have bx_11 : (0 : Int) ≤ (i1 &&& (2147483647 : Int32)).toInt ∧ (i1 &&& (2147483647 : Int32)).toInt ≤ 2147483647 := by rw [x_11]; exact ib_mod 2147483648 (by decide) (by decide) (by decide)
  have x_10 := x_iremV bx_11 bx_7 (by decide) (by decide)
  have bx_10 : (0 : Int) ≤ ((i1 &&& (2147483647 : Int32)) % ((1024 : Int32) - v6)).toInt ∧ ((i1 &&& (2147483647 : Int32)) % ((1024 : Int32) - v6)).toInt ≤ 1023 := ib_rem x_10 bx_7 (by decide)
  have x_8 := (x_iadd (show (1 : Int) ≤ (1 : Int32).toInt ∧ (1 : Int32).toInt ≤ 1 from by decide) bx_10 (by decide) (by decide) : ((1 : Int32) + ((i1 &&& (2147483647 : Int32)) % ((1024 : Int32) - v6))).toInt = (1 : Int32).toInt + ((i1 &&& (2147483647 : Int32)) % ((1024 : Int32) - v6)).toInt)
  have bx_8 : (1 : Int) ≤ ((1 : Int32) + ((i1 &&& (2147483647 : Int32)) % ((1024 : Int32) - v6))).toInt ∧ ((1 : Int32) + ((i1 &&& (2147483647 : Int32)) % ((1024 : Int32) - v6))).toInt ≤ 1024 := by rw [x_8]; exact ib_add (show (1 : Int) ≤ (1 : Int32).toInt ∧ (1 : Int32).toInt ≤ 1 from by decide) bx_10 (by decide) (by decide)
  generalize h_v12 : ((1 : Int32) + ((i1 &&& (2147483647 : Int32)) % ((1024 : Int32) - v6))) = v12
  rw [h_v12] at x_8 bx_8
  refine px_istore S1 at_28 rfl (L' := #[.val (.int i0), .val (.int i1), .val (.int i2), .val (.int (1024 : Int32)), .val (.ref b1), .val (.int v6), .val (.int v12), .unset, .unset, .unset, .unset]) rfl ?_
  refine px_iloadN S1 at_30 rfl rfl ?_
  refine px_ldcI S1 (hw _ (List.mem_of_getElem? (i := 1) rfl)) at_31 rfl ?_
  refine px_iand S1 at_33 rfl ?_
  refine px_iload S1 at_34 rfl rfl ?_
  refine px_irem S1 at_36 rfl (fun hz => by have hz' := congrArg Int32.toInt hz; have z0 : (0 : Int32).toInt = 0 := rfl; have b0 := bx_8; omega) ?_
  have x_14 := (x_imask 31 (by decide) (by decide) (by decide) : (i2 &&& (2147483647 : Int32)).toInt = i2.toInt % 2147483648)
  have bx_14 : (0 : Int) ≤ (i2 &&& (2147483647 : Int32)).toInt ∧ (i2 &&& (2147483647 : Int32)).toInt ≤ 2147483647 := by rw [x_14]; exact ib_mod 2147483648 (by decide) (by decide) (by decide)
  have x_13 := x_iremV bx_14 bx_8 (by decide) (by decide)
  have bx_13 : (0 : Int) ≤ ((i2 &&& (2147483647 : Int32)) % v12).toInt ∧ ((i2 &&& (2147483647 : Int32)) % v12).toInt ≤ 1023 := ib_rem x_13 bx_8 (by decide)
  generalize h_v15 : ((i2 &&& (2147483647 : Int32)) % v12) = v15
  rw [h_v15] at x_13 bx_13
  refine px_istore S1 at_37 rfl (L' := #[.val (.int i0), .val (.int i1), .val (.int i2), .val (.int (1024 : Int32)), .val (.ref b1), .val (.int v6), .val (.int v12), .val (.int v15), .unset, .unset, .unset]) rfl ?_
  refine px_new S1 (hw _ (List.mem_of_getElem? (i := 2) rfl)) (hw _ (List.mem_of_getElem? (i := 3) rfl)) (hw _ (List.mem_of_getElem? (i := 4) rfl)) (by decide) (by decide) at_39 rfl (fun T16 h16 b16 z16 g_b16 S16 E16 X_b16 D16 => ?_)
  have ne_b1_b16 : b1 ≠ b16 := ne_new z16 A_b1.lt
  replace A_b1 := A_b1.ext E16
  have F_bytes_b16 : Fld Z h16 b16 "com/example/ghost_state/ghoststate/ByteChars" "bytes" "[B" .null := D16 (Or.inr (hw _ (List.mem_of_getElem? (i := 23) rfl))) (ty := (.array .byte)) (by decide)
  have F_buffer_b16 : Fld Z h16 b16 "com/example/ghost_state/ghoststate/ByteChars" "buffer" "Ljava/nio/ByteBuffer;" .null := D16 (Or.inr (hw _ (List.mem_of_getElem? (i := 25) rfl))) (ty := (.object "java/nio/ByteBuffer")) (by decide)
  have F_offset_b16 : Fld Z h16 b16 "com/example/ghost_state/ghoststate/ByteChars" "offset" "I" (.int (0 : Int32)) := D16 (Or.inr (hw _ (List.mem_of_getElem? (i := 27) rfl))) (ty := .int) (by decide)
  have F_length_b16 : Fld Z h16 b16 "com/example/ghost_state/ghoststate/ByteChars" "length" "I" (.int (0 : Int32)) := D16 (Or.inr (hw _ (List.mem_of_getElem? (i := 29) rfl))) (ty := .int) (by decide)
  refine px_dup S16 at_42 rfl rfl ?_
  refine px_aload S16 at_43 rfl rfl rfl ?_
  refine px_iload S16 at_45 rfl rfl ?_
  refine px_iload S16 at_47 rfl rfl ?_
  refine px_callC (as' := [(.ref b1), (.int v6), (.int v12)]) (st := [(.ref b16)]) (W := 1) S16 (c_out (z := (1024 : Int32)) hw S16.size (by omega) (by omega) (by have q : (1024 : Int32).toInt = 1024 := rfl; omega) rfl A_b1 g_b16 ⟨X_b16, F_bytes_b16, F_buffer_b16, F_offset_b16, F_length_b16⟩) rfl (hw _ (List.mem_of_getElem? (i := 5) rfl)) (hw _ (List.mem_of_getElem? (i := 6) rfl)) (hw _ (List.mem_of_getElem? (i := 4) rfl)) (hw _ (List.mem_of_getElem? (i := 7) rfl)) (by decide) pd_0_0 rfl rfl (by decide) rfl (by decide) (by decide) (by decide) at_49 rfl rfl (fun T17 h17 v17 S17 q17 => ?_)
  obtain ⟨rfl, X_b16, F_bytes_b16, F_buffer_b16, F_offset_b16, F_length_b16⟩ := q17
  show Go _ _ _ _ _ _ _ [(.ref b16)]
  refine px_astore S17 at_52 rfl rfl (L' := #[.val (.int i0), .val (.int i1), .val (.int i2), .val (.int (1024 : Int32)), .val (.ref b1), .val (.int v6), .val (.int v12), .val (.int v15), .val (.ref b16), .unset, .unset]) rfl ?_
  refine px_aload S17 at_54 rfl rfl rfl ?_
  refine px_iload S17 at_56 rfl rfl ?_
  refine px_callV (Cn := "com/example/ghost_state/ghoststate/ByteChars") (as' := [(.int v15)]) (st := []) (W := 0) S17 (c_place hw S17.size ⟨X_b16, F_bytes_b16, F_buffer_b16, F_offset_b16, F_length_b16⟩) X_b16 (hw _ (List.mem_of_getElem? (i := 30) rfl)) (hw _ (List.mem_of_getElem? (i := 31) rfl)) (hw _ (List.mem_of_getElem? (i := 33) rfl)) (hw _ (List.mem_of_getElem? (i := 32) rfl)) (hw _ (List.mem_of_getElem? (i := 4) rfl)) (hw _ (List.mem_of_getElem? (i := 34) rfl)) (S17.nf (hw _ (List.mem_of_getElem? (i := 33) rfl))) (by decide) pd_0_1 rfl rfl (by decide) rfl (by decide) (by decide) (by decide) at_58 rfl rfl (fun T18 h18 v18 S18 q18 => ?_)
  subst q18
  show Go _ _ _ _ _ _ _ [(.int ((v6 + v15) &&& (7 : Int32)))]
  have x_20 := (x_iadd bx_2 bx_13 (by decide) (by decide) : (v6 + v15).toInt = v6.toInt + v15.toInt)
  have bx_20 : (0 : Int) ≤ (v6 + v15).toInt ∧ (v6 + v15).toInt ≤ 2046 := by rw [x_20]; exact ib_add bx_2 bx_13 (by decide) (by decide)
  have x_19 := (x_imask 3 (by decide) (by decide) (by decide) : ((v6 + v15) &&& (7 : Int32)).toInt = (v6 + v15).toInt % 8)
  have l_21 : (7 : Int32).toInt = 7 := rfl
  have bx_19 : (0 : Int) ≤ ((v6 + v15) &&& (7 : Int32)).toInt ∧ ((v6 + v15) &&& (7 : Int32)).toInt ≤ 7 := by rw [x_19]; exact ib_mod 8 (by decide) (by decide) (by decide)
  generalize h_v22 : ((v6 + v15) &&& (7 : Int32)) = v22
  rw [h_v22] at x_19 bx_19
  refine px_istore S18 at_61 rfl (L' := #[.val (.int i0), .val (.int i1), .val (.int i2), .val (.int (1024 : Int32)), .val (.ref b1), .val (.int v6), .val (.int v12), .val (.int v15), .val (.ref b16), .val (.int v22), .unset]) rfl ?_
  refine px_iload S18 at_63 rfl rfl ?_
  refine px_iload S18 at_65 rfl rfl ?_
  refine px_iadd S18 at_67 rfl ?_
  refine px_bipush (v := (8 : Int32)) S18 at_68 rfl rfl ?_
  refine px_irem S18 at_70 rfl (by decide) ?_
  have x_23 := (x_irem bx_20 rfl (by decide) : ((v6 + v15) % (8 : Int32)).toInt = (v6 + v15).toInt % 8)
  have l_24 : (8 : Int32).toInt = 8 := rfl
  have bx_23 : (0 : Int) ≤ ((v6 + v15) % (8 : Int32)).toInt ∧ ((v6 + v15) % (8 : Int32)).toInt ≤ 7 := by rw [x_23]; exact ib_mod 8 (by decide) (by decide) (by decide)
  generalize h_v25 : ((v6 + v15) % (8 : Int32)) = v25
  rw [h_v25] at x_23 bx_23
  refine px_istore S18 at_71 rfl (L' := #[.val (.int i0), .val (.int i1), .val (.int i2), .val (.int (1024 : Int32)), .val (.ref b1), .val (.int v6), .val (.int v12), .val (.int v15), .val (.ref b16), .val (.int v22), .val (.int v25)]) rfl ?_
  refine px_iload S18 at_73 rfl rfl ?_
  refine px_iload S18 at_75 rfl rfl ?_
  refine px_icmp S18 at_77 (by decide) (pc' := 84) rfl rfl (fun (hc26 : ¬ v22.toInt = v25.toInt) => by exfalso; have q0 := rng32 v22; have q1 := (show (7 : Int32).toInt = 7 from rfl); have q2 := rng32 v25; have q3 := (show (8 : Int32).toInt = 8 from rfl); omega) (fun (hc26 : v22.toInt = v25.toInt) => ?_)
  refine px_iconst (v := (1 : Int32)) S18 at_80 rfl rfl ?_
  refine px_goto S18 at_81 (by decide) (pc' := 85) rfl ?_
  exact px_retN (t := .boolean) (z' := (1 : Int32)) S18 at_85 rfl (by simp) rfl (by decide) (by decide) (rfl)
set_option maxRecDepth 65536 in
set_option maxHeartbeats 40000000 in
theorem comes_1 {Post : Tables → Env → Array Value → State → Outcome → State → Prop} (hpost : ∀ tb e args s v u, (limb_1_1.after args s (.returned v) u = true ∧ limb_1_2.after args s (.returned v) u = true ∧ True) → FrameEnd s (.returned v) u (Jvm.fieldLocs frame_1_writes args s ++ Jvm.arrayLocs frame_1_arrays args s ++ Jvm.staticLocs frame_1_statics s) 16 2176 → Post tb e args s (.returned v) u) :
    ArmFor flags0 classFile x code maxLocals ret World_1 tables_1 room_1 Calls_1 rest_1 Pre_1 Post := by
  intro l hfl _ _ p e ha hc hk s m args below hf hA hF happ hP
  obtain ⟨hcalls, hrest, hpre⟩ := hP
  obtain ⟨-, -, -, hnamed, -, -, -, hat⟩ := (Spec.applies_iff hf).mp happ
  obtain ⟨hg, hn⟩ := and_e (Cond.before_iff.mp (show (Jvm.Cond.and given_1 narrow_1).before args s = true from hpre))
  obtain ⟨hcount, hg0⟩ := and_e hg
  obtain ⟨ha0, hg1⟩ := and_e hg0
  obtain ⟨ha1, hg2⟩ := and_e hg1
  obtain ⟨w0, w1, w2, rfl⟩ : ∃ w0 w1 w2 : Value, args = #[w0, w1, w2] := by
    have hs : args.size = 3 := by simpa [Cond.value, given_1] using hcount
    obtain ⟨L⟩ := args
    match L, hs with
    | [w0, w1, w2], _ => exact ⟨w0, w1, w2, rfl⟩
  have hw := fun d (hd : d ∈ tables_1) => atoms_spec (ws := Jvm.Cond.code x code maxLocals ret :: tables_1) hat d (List.mem_cons_of_mem _ hd)
  obtain ⟨i0, ei0⟩ := is_v ha0
  obtain rfl : w0 = (.int i0) := Option.some.inj ei0
  obtain ⟨i1, ei1⟩ := is_v ha1
  obtain rfl : w1 = (.int i1) := Option.some.inj ei1
  obtain ⟨i2, ei2⟩ := is_v hg2
  obtain rfl : w2 = (.int i2) := Option.some.inj ei2
  obtain ⟨n, o, h1, h2, h3, _, L, rfl, ⟨rfl, N⟩, hq⟩ := law_ctr (Z := s) hw i0 i1 i2 (Nat.le_refl _) l tables_1 p e ha hc hk s m _ below hf ((Spec.applies_iff_loose hf).mp happ).1 ⟨rfl, State.Warmed39.refl s, rfl⟩ trivial
  refine ⟨n, _, h1, h2, h3, hpost _ _ _ _ _ _ ⟨Cond.after_iff.mpr rfl, Cond.after_iff.mpr (eq_i res_at (Term.int_eval (1)) rfl), trivial⟩ ⟨hq.1, hq.2.1, (hq.2.2.sift fun y hy => Or.inr (N y hy)).mono (Nat.le_refl _) (Nat.le_refl _)⟩⟩
theorem main_1_1 : Claimed_1_1 := comes_1 fun _ _ _ _ _ _ h hF => ⟨h.1, hF⟩
theorem main_1_2 : Claimed_1_2 := comes_1 fun _ _ _ _ _ _ h hF => ⟨h.2.1, hF⟩
end Jvm.Pilot.@@N@@
namespace Jvm.Pilot.@@N@@
open Jvm Jvm.ClassFile Sem Op Lib Jvm.Free Jvm.Stand Jvm.Pilot.@@N@@.Jvm.D
/-! MADE BY PROGRAM (witnessworld.py) out of the Statement's table words and the real class files: 12 classes; the members and pool entries that the words name. The judged class is class 1, her method 1. -/
namespace start1
open Jvm.ClassFile
def u (s : String) : CpInfo := .utf8 (stringToUtf16 s)
/-- a pool by its gaps: so many unusable entries, then the entry; so many at the end -/
def gap : Nat → List CpInfo → List CpInfo
  | 0, r => r
  | n + 1, r => .unusable :: gap n r
def poolList (es : List (Nat × CpInfo)) (last : Nat) : List CpInfo := es.foldr (fun e r => gap e.1 (e.2 :: r)) (gap last [])
def pool (es : List (Nat × CpInfo)) (last : Nat) : Array CpInfo := ⟨poolList es last⟩
def fileOf (pool : Array CpInfo) (this : Nat) (attrs : Array Attribute := #[]) (ms : Array MethodInfo := #[]) (fl : Nat := 33) (sup : Nat := 0) (ifs : Array Nat := #[]) (fds : Array FieldInfo := #[]) : ClassFile where
  minorVersion := 0
  majorVersion := 65
  constantPool := pool
  accessFlags := fl
  thisClass := this
  superClass := sup
  interfaces := ifs
  fields := fds
  methods := ms
  attributes := attrs
def plain (name : String) (sup : Option ClassId) : Class where
  name := name
  kind := .ordinary
  loader := none
  accessFlags := 33
  super := sup
  interfaces := #[]
  cf := none
  fields := #[]
  methods := #[]
  instanceTypes := #[]
  staticTypes := #[]
  resolved := #[]
  callSites := []
  init := .initialized
  statics := none
  mirror := none

def pool0 : Array CpInfo := pool [(5, u "<init>"), (0, u "()V"), (1, .class_ 10), (1, u "java/lang/Object")] 113

def k0c0 : Code := { maxStack := 0, maxLocals := 1, code := object_method_1_code, exceptionTable := #[], attributes := #[] }
def k0m0 : Method := { name := "<init>", desc := "()V", sig := { parameters := [], returnType := none }, accessFlags := 1, code := some k0c0 }
/-- java/lang/Object -/
def k0 : Class := { plain "java/lang/Object" none with
  accessFlags := 33
  interfaces := #[]
  cf := some (fileOf pool0 8 #[] #[{ accessFlags := 1, nameIndex := 5, descriptorIndex := 6, attributes := #[] }] 33 0 #[] #[])
  fields := #[]
  methods := #[k0m0]
  instanceTypes := #[]
  staticTypes := #[]
  resolved := Array.replicate 124 none
  statics := none }

def pool1 : Array CpInfo := pool [(2, .class_ 4), (1, u "java/lang/Object"), (0, u "<init>"), (0, u "()V"), (0, .integer 2147483647), (0, .class_ 9), (0, u "com/example/ghost_state/ghoststate/ByteChars"), (0, .methodref 8 11), (0, .nameAndType 5 12), (0, u "([BII)V"), (0, .methodref 8 14), (0, .nameAndType 15 16), (0, u "placeInWord"), (0, u "(I)I"), (0, .class_ 18), (0, u "com/example/ghost_state/ghoststate/ByteCharsPlaceInWordPinLaw"), (2, u "law"), (0, u "(III)Z")] 5

def k1m0 : Method := { name := "<init>", desc := "()V", sig := { parameters := [], returnType := none }, accessFlags := 1, code := none }
def k1c1 : Code := { maxStack := 5, maxLocals := 11, code := code, exceptionTable := #[], attributes := #[] }
def k1m1 : Method := { name := "law", desc := "(III)Z", sig := { parameters := [.int, .int, .int], returnType := some .boolean }, accessFlags := 9, code := some k1c1 }
/-- com/example/ghost_state/ghoststate/ByteCharsPlaceInWordPinLaw -/
def k1 : Class := { plain "com/example/ghost_state/ghoststate/ByteCharsPlaceInWordPinLaw" (some 0) with
  accessFlags := 49
  interfaces := #[]
  cf := some (fileOf pool1 17 #[] #[{ accessFlags := 1, nameIndex := 5, descriptorIndex := 6, attributes := #[] }, { accessFlags := 9, nameIndex := 21, descriptorIndex := 22, attributes := #[] }] 49 2 #[] #[])
  fields := #[]
  methods := #[k1m0, k1m1]
  instanceTypes := #[]
  staticTypes := #[]
  resolved := Array.replicate 28 none
  statics := none }

def pool2 : Array CpInfo := pool [(2, .class_ 4), (1, u "java/lang/CharSequence"), (42, .class_ 48), (0, u "java/lang/CharSequence$1CodePointIterator"), (10, .class_ 60), (0, u "java/lang/CharSequence$1CharIterator"), (5, .class_ 67), (0, u "java/lang/Object")] 63

/-- java/lang/CharSequence -/
def k2 : Class := { plain "java/lang/CharSequence" (some 0) with
  accessFlags := 1537
  interfaces := #[]
  cf := some (fileOf pool2 2 #[.nestMembers #[47, 59]] #[] 1537 66 #[] #[])
  fields := #[]
  methods := #[]
  instanceTypes := #[]
  staticTypes := #[]
  resolved := Array.replicate 131 none
  statics := none }

def pool3 : Array CpInfo := pool [(2, .class_ 4), (1, u "com/example/ghost_state/ghoststate/ByteChars"), (0, u "<init>"), (0, u "([BII)V"), (0, .methodref 8 9), (0, .class_ 10), (0, .nameAndType 11 12), (0, u "java/util/Objects"), (0, u "checkFromIndexSize"), (0, u "(III)I"), (0, .methodref 2 14), (0, .nameAndType 5 15), (0, u "([BLjava/nio/ByteBuffer;II)V"), (0, .methodref 17 18), (0, .class_ 19), (0, .nameAndType 5 20), (0, u "java/lang/Object"), (0, u "()V"), (0, .fieldref 2 22), (0, .nameAndType 23 24), (0, u "bytes"), (0, u "[B"), (0, .fieldref 2 26), (0, .nameAndType 27 28), (0, u "buffer"), (0, u "Ljava/nio/ByteBuffer;"), (0, .fieldref 2 30), (0, .nameAndType 31 32), (0, u "offset"), (0, u "I"), (0, .fieldref 2 34), (0, .nameAndType 35 32), (0, u "length"), (72, .class_ 109), (0, u "java/lang/CharSequence"), (6, u "placeInWord"), (0, u "(I)I")] 4

def k3c0 : Code := { maxStack := 6, maxLocals := 4, code := prog_4_method_2_code, exceptionTable := #[], attributes := #[] }
def k3m0 : Method := { name := "<init>", desc := "([BII)V", sig := { parameters := [(.array .byte), .int, .int], returnType := none }, accessFlags := 0, code := some k3c0 }
def k3c1 : Code := { maxStack := 2, maxLocals := 5, code := prog_4_method_3_code, exceptionTable := #[], attributes := #[] }
def k3m1 : Method := { name := "<init>", desc := "([BLjava/nio/ByteBuffer;II)V", sig := { parameters := [(.array .byte), (.object "java/nio/ByteBuffer"), .int, .int], returnType := none }, accessFlags := 2, code := some k3c1 }
def k3c2 : Code := { maxStack := 3, maxLocals := 2, code := prog_4_method_7_code, exceptionTable := #[], attributes := #[] }
def k3m2 : Method := { name := "placeInWord", desc := "(I)I", sig := { parameters := [.int], returnType := some .int }, accessFlags := 0, code := some k3c2 }
/-- com/example/ghost_state/ghoststate/ByteChars -/
def k3 : Class := { plain "com/example/ghost_state/ghoststate/ByteChars" (some 0) with
  accessFlags := 48
  interfaces := #[2]
  cf := some (fileOf pool3 2 #[] #[{ accessFlags := 0, nameIndex := 5, descriptorIndex := 6, attributes := #[] }, { accessFlags := 2, nameIndex := 5, descriptorIndex := 15, attributes := #[] }, { accessFlags := 0, nameIndex := 116, descriptorIndex := 117, attributes := #[] }] 48 17 #[108] #[{ accessFlags := 18, nameIndex := 23, descriptorIndex := 24, attributes := #[] }, { accessFlags := 18, nameIndex := 27, descriptorIndex := 28, attributes := #[] }, { accessFlags := 18, nameIndex := 31, descriptorIndex := 32, attributes := #[] }, { accessFlags := 18, nameIndex := 35, descriptorIndex := 32, attributes := #[] }])
  fields := #[{ name := "bytes", type := (.array .byte), accessFlags := 18, slot := 0, constantValue := 0 }, { name := "buffer", type := (.object "java/nio/ByteBuffer"), accessFlags := 18, slot := 1, constantValue := 0 }, { name := "offset", type := .int, accessFlags := 18, slot := 2, constantValue := 0 }, { name := "length", type := .int, accessFlags := 18, slot := 3, constantValue := 0 }]
  methods := #[k3m0, k3m1, k3m2]
  instanceTypes := #[(.array .byte), (.object "java/nio/ByteBuffer"), .int, .int]
  staticTypes := #[]
  resolved := Array.replicate 122 none
  statics := none }

def pool4 : Array CpInfo := pool [(2, .class_ 4), (1, u "java/lang/Object"), (0, u "<init>"), (0, u "()V"), (35, .class_ 44), (1, u "java/util/Objects"), (61, .class_ 108), (1, u "jdk/internal/util/Preconditions"), (5, u "(IIILjava/util/function/BiFunction;)I"), (0, .methodref 106 116), (0, .nameAndType 117 114), (0, u "checkFromIndexSize"), (57, u "(III)I")] 8

def k4m0 : Method := { name := "<init>", desc := "()V", sig := { parameters := [], returnType := none }, accessFlags := 2, code := none }
def k4c1 : Code := { maxStack := 4, maxLocals := 3, code := jdk_31_method_19_code, exceptionTable := #[], attributes := #[] }
def k4m1 : Method := { name := "checkFromIndexSize", desc := "(III)I", sig := { parameters := [.int, .int, .int], returnType := some .int }, accessFlags := 9, code := some k4c1 }
/-- java/util/Objects -/
def k4 : Class := { plain "java/util/Objects" (some 0) with
  accessFlags := 49
  interfaces := #[]
  cf := some (fileOf pool4 42 #[] #[{ accessFlags := 2, nameIndex := 5, descriptorIndex := 6, attributes := #[] }, { accessFlags := 9, nameIndex := 117, descriptorIndex := 175, attributes := #[] }] 49 2 #[] #[])
  fields := #[]
  methods := #[k4m0, k4m1]
  instanceTypes := #[]
  staticTypes := #[]
  resolved := Array.replicate 184 none
  statics := none }

def pool5 : Array CpInfo := pool [(2, .class_ 4), (1, u "java/lang/Object"), (0, u "<init>"), (0, u "()V"), (17, .class_ 26), (1, u "jdk/internal/util/Preconditions"), (22, u "checkFromIndexSize"), (5, .class_ 56), (0, u "jdk/internal/util/Preconditions$4"), (57, .class_ 115), (0, u "jdk/internal/util/Preconditions$1"), (7, u "SIOOBE_FORMATTER"), (0, u "Ljava/util/function/BiFunction;"), (0, .class_ 126), (0, u "jdk/internal/util/Preconditions$2"), (3, u "AIOOBE_FORMATTER"), (0, .class_ 132), (0, u "jdk/internal/util/Preconditions$3"), (3, u "IOOBE_FORMATTER"), (46, u "(IIILjava/util/function/BiFunction;)I")] 10

def k5m0 : Method := { name := "<init>", desc := "()V", sig := { parameters := [], returnType := none }, accessFlags := 1, code := none }
def k5c1 : Code := { maxStack := 4, maxLocals := 4, code := jdk_41_method_13_code, exceptionTable := #[], attributes := #[] }
def k5m1 : Method := { name := "checkFromIndexSize", desc := "(IIILjava/util/function/BiFunction;)I", sig := { parameters := [.int, .int, .int, (.object "java/util/function/BiFunction")], returnType := some .int }, accessFlags := 9, code := some k5c1 }
/-- jdk/internal/util/Preconditions -/
def k5 : Class := { plain "jdk/internal/util/Preconditions" (some 0) with
  accessFlags := 33
  interfaces := #[]
  cf := some (fileOf pool5 24 #[.nestMembers #[55, 131, 125, 114]] #[{ accessFlags := 1, nameIndex := 5, descriptorIndex := 6, attributes := #[] }, { accessFlags := 9, nameIndex := 49, descriptorIndex := 183, attributes := #[] }] 33 2 #[] #[{ accessFlags := 25, nameIndex := 123, descriptorIndex := 124, attributes := #[] }, { accessFlags := 25, nameIndex := 130, descriptorIndex := 124, attributes := #[] }, { accessFlags := 25, nameIndex := 136, descriptorIndex := 124, attributes := #[] }])
  fields := #[{ name := "SIOOBE_FORMATTER", type := (.object "java/util/function/BiFunction"), accessFlags := 25, slot := 0, constantValue := 0 }, { name := "AIOOBE_FORMATTER", type := (.object "java/util/function/BiFunction"), accessFlags := 25, slot := 1, constantValue := 0 }, { name := "IOOBE_FORMATTER", type := (.object "java/util/function/BiFunction"), accessFlags := 25, slot := 2, constantValue := 0 }]
  methods := #[k5m0, k5m1]
  instanceTypes := #[]
  staticTypes := #[(.object "java/util/function/BiFunction"), (.object "java/util/function/BiFunction"), (.object "java/util/function/BiFunction")]
  resolved := Array.replicate 194 none
  statics := none }

def pool6 : Array CpInfo := pool [(1, u "java/lang/Cloneable"), (0, .class_ 1), (0, u "java/lang/Object"), (0, .class_ 3)] 3

/-- java/lang/Cloneable -/
def k6 : Class := { plain "java/lang/Cloneable" (some 0) with
  accessFlags := 1537
  interfaces := #[]
  cf := some (fileOf pool6 2 #[] #[] 1537 4 #[] #[])
  fields := #[]
  methods := #[]
  instanceTypes := #[]
  staticTypes := #[]
  resolved := Array.replicate 8 none
  statics := none }

def pool7 : Array CpInfo := pool [(1, u "java/io/Serializable"), (0, .class_ 1), (0, u "java/lang/Object"), (0, .class_ 3)] 3

/-- java/io/Serializable -/
def k7 : Class := { plain "java/io/Serializable" (some 0) with
  accessFlags := 1537
  interfaces := #[]
  cf := some (fileOf pool7 2 #[] #[] 1537 4 #[] #[])
  fields := #[]
  methods := #[]
  instanceTypes := #[]
  staticTypes := #[]
  resolved := Array.replicate 8 none
  statics := none }

/-- the primitive byte -/
def k8 : Class := { plain "byte" none with kind := .primitive 'B', accessFlags := 0x411 }
/-- [B -/
def k9 : Class := { plain "[B" (some 0) with kind := .array 8 .byte, interfaces := #[6, 7], accessFlags := 1041 }

/-- the primitive int -/
def k10 : Class := { plain "int" none with kind := .primitive 'I', accessFlags := 0x411 }
/-- [I -/
def k11 : Class := { plain "[I" (some 0) with kind := .array 10 .int, interfaces := #[6, 7], accessFlags := 1041 }

def heap : Heap := #[]
def classes : Array Class := #[k0, k1, k2, k3, k4, k5, k6, k7, k8, k9, k10, k11]
def interned : List (Array UInt16 × Addr) := []
def slotsUsed : Nat := 0
def theMethod : MethodId := ⟨1, 1⟩
def args0 : Array Value := #[.int 5, .int 1, .int 9]
def aboutOver (below : List Frame) : State where
  vm := { classes := classes, interned := interned.toArray }
  heap := heap
  slotsUsed := slotsUsed
  threads := #[{ frames := .invoking theMethod args0 :: below }]
def below0 : List Frame := [.native { method := ⟨0, 0⟩, args := #[] }]
def about1 : State := aboutOver below0
def p0 : Program := .bare "" "" ""
def e0 : Env := launch0.env 0 0 0
theorem w_frames : about1.frames = Frame.invoking theMethod args0 :: below0 := rfl
set_option maxRecDepth 65536 in
theorem w_args : argsFit about1.vm theMethod args0 = true := by decide +kernel
set_option maxRecDepth 65536 in
theorem w_heap : heapFits about1 = true := by decide +kernel
set_option maxRecDepth 65536 in
theorem w_runnable : about1.curStatus? = some .runnable := by decide +kernel
set_option maxRecDepth 65536 in
theorem w_alone : about1.alone = true := by decide +kernel
set_option maxRecDepth 65536 in
theorem w_named : about1.methodNamed? x = some theMethod := by decide +kernel
set_option maxRecDepth 65536 in
theorem w_hears : about1.hears theMethod below0 = true := by decide +kernel
set_option maxRecDepth 65536 in
theorem w_ripe : about1.ripe theMethod args0 below0 = true := by decide +kernel
theorem w_running : about1.status = .running := rfl
set_option maxRecDepth 65536 in
theorem w_room : about1.hasRoom e0.platform room_1 = true :=
  launch0.hasRoom_least _ room_1 (by decide +kernel) (by decide +kernel) (by decide +kernel) (by decide +kernel) (by decide +kernel) (by decide +kernel)
theorem allAtoms_all (ts : List Jvm.Cond) (a : Array Jvm.Value) (st : Jvm.State) : (allAtoms ts).before a st = ts.all (fun c => c.before a st) := by
  induction ts with
  | nil => rfl
  | cons c t ih =>
    show (Jvm.Cond.and c (allAtoms t)).before a st = _
    rw [Jvm.Cond.before_and, ih, List.all_cons]
def words1 : List Jvm.Cond := Jvm.Cond.code x code maxLocals ret :: tables_1
/-- a 'code' word, met by the world's own term for the bytes: nothing is compared byte by byte -/
theorem code_word {y : MethodName} {bytes : ByteArray} {mx : Nat} {rt : Option FieldType} {a : Array Value} {s : State} {m : MethodId} {meth : Method} {c : Code} (h1 : s.methodNamed? y = some m) (h2 : s.vm.method? m = some meth) (h3 : meth.code = some c) (h4 : c.code = bytes)
    (h5 : (c.maxLocals == mx && c.exceptionTable.isEmpty && decide (c.maxStack ≤ mostOperands) && decide (meth.sig.returnType = rt) && !meth.locks && decide (parseMethodDescriptor y.desc = some meth.sig)) = true) : (Jvm.Cond.code y bytes mx rt).before a s = true := by
  simp only [Bool.and_eq_true, beq_iff_eq, Bool.not_eq_true', decide_eq_true_eq] at h5
  obtain ⟨⟨⟨⟨⟨g1, g2⟩, g3⟩, g4⟩, g5⟩, g6⟩ := h5
  simp [Cond.before, Cond.holds, Cond.value, h1, h2, h3, h4, g1, g2, g3, g4, g5, g6]
def isCode : Jvm.Cond → Bool
  | .code _ _ _ _ => true
  | _ => false
theorem all_split {L : List Jvm.Cond} {P : Jvm.Cond → Bool} (h1 : L.all (fun c => isCode c || P c) = true) (h2 : ∀ c ∈ L.filter isCode, P c = true) : L.all P = true := by
  refine List.all_eq_true.mpr fun c hc => ?_
  have h := List.all_eq_true.mp h1 c hc
  rcases Bool.eq_false_or_eq_true (isCode c) with hi | hi
  · exact h2 c (List.mem_filter.mpr ⟨hc, hi⟩)
  · simpa [hi] using h
set_option maxRecDepth 65536 in
theorem w_c0 : (Jvm.Cond.code x code maxLocals ret).before args0 about1 = true := code_word (m := ⟨1, 1⟩) (meth := k1m1) (c := k1c1) (by decide +kernel) rfl rfl rfl (by decide +kernel)
set_option maxRecDepth 65536 in
theorem w_c1 : (Jvm.Cond.code ({ cls := "com/example/ghost_state/ghoststate/ByteChars", name := "<init>", desc := "([BII)V" } : Jvm.MethodName) prog_4_method_2_code (4 : Nat) (Option.none : Option Jvm.ClassFile.FieldType)).before args0 about1 = true := code_word (m := ⟨3, 0⟩) (meth := k3m0) (c := k3c0) (by decide +kernel) rfl rfl rfl (by decide +kernel)
set_option maxRecDepth 65536 in
theorem w_c2 : (Jvm.Cond.code ({ cls := "java/util/Objects", name := "checkFromIndexSize", desc := "(III)I" } : Jvm.MethodName) jdk_31_method_19_code (3 : Nat) (Option.some Jvm.ClassFile.FieldType.int)).before args0 about1 = true := code_word (m := ⟨4, 1⟩) (meth := k4m1) (c := k4c1) (by decide +kernel) rfl rfl rfl (by decide +kernel)
set_option maxRecDepth 65536 in
theorem w_c3 : (Jvm.Cond.code ({ cls := "jdk/internal/util/Preconditions", name := "checkFromIndexSize", desc := "(IIILjava/util/function/BiFunction;)I" } : Jvm.MethodName) jdk_41_method_13_code (4 : Nat) (Option.some Jvm.ClassFile.FieldType.int)).before args0 about1 = true := code_word (m := ⟨5, 1⟩) (meth := k5m1) (c := k5c1) (by decide +kernel) rfl rfl rfl (by decide +kernel)
set_option maxRecDepth 65536 in
theorem w_c4 : (Jvm.Cond.code ({ cls := "com/example/ghost_state/ghoststate/ByteChars", name := "<init>", desc := "([BLjava/nio/ByteBuffer;II)V" } : Jvm.MethodName) prog_4_method_3_code (5 : Nat) (Option.none : Option Jvm.ClassFile.FieldType)).before args0 about1 = true := code_word (m := ⟨3, 1⟩) (meth := k3m1) (c := k3c1) (by decide +kernel) rfl rfl rfl (by decide +kernel)
set_option maxRecDepth 65536 in
theorem w_c5 : (Jvm.Cond.code ({ cls := "java/lang/Object", name := "<init>", desc := "()V" } : Jvm.MethodName) object_method_1_code (1 : Nat) (Option.none : Option Jvm.ClassFile.FieldType)).before args0 about1 = true := code_word (m := ⟨0, 0⟩) (meth := k0m0) (c := k0c0) (by decide +kernel) rfl rfl rfl (by decide +kernel)
set_option maxRecDepth 65536 in
theorem w_c6 : (Jvm.Cond.code ({ cls := "com/example/ghost_state/ghoststate/ByteChars", name := "placeInWord", desc := "(I)I" } : Jvm.MethodName) prog_4_method_7_code (2 : Nat) (Option.some Jvm.ClassFile.FieldType.int)).before args0 about1 = true := code_word (m := ⟨3, 2⟩) (meth := k3m2) (c := k3c2) (by decide +kernel) rfl rfl rfl (by decide +kernel)
def codes1 : List Jvm.Cond := [Jvm.Cond.code x code maxLocals ret, Jvm.Cond.code ({ cls := "com/example/ghost_state/ghoststate/ByteChars", name := "<init>", desc := "([BII)V" } : Jvm.MethodName) prog_4_method_2_code (4 : Nat) (Option.none : Option Jvm.ClassFile.FieldType), Jvm.Cond.code ({ cls := "java/util/Objects", name := "checkFromIndexSize", desc := "(III)I" } : Jvm.MethodName) jdk_31_method_19_code (3 : Nat) (Option.some Jvm.ClassFile.FieldType.int), Jvm.Cond.code ({ cls := "jdk/internal/util/Preconditions", name := "checkFromIndexSize", desc := "(IIILjava/util/function/BiFunction;)I" } : Jvm.MethodName) jdk_41_method_13_code (4 : Nat) (Option.some Jvm.ClassFile.FieldType.int), Jvm.Cond.code ({ cls := "com/example/ghost_state/ghoststate/ByteChars", name := "<init>", desc := "([BLjava/nio/ByteBuffer;II)V" } : Jvm.MethodName) prog_4_method_3_code (5 : Nat) (Option.none : Option Jvm.ClassFile.FieldType), Jvm.Cond.code ({ cls := "java/lang/Object", name := "<init>", desc := "()V" } : Jvm.MethodName) object_method_1_code (1 : Nat) (Option.none : Option Jvm.ClassFile.FieldType), Jvm.Cond.code ({ cls := "com/example/ghost_state/ghoststate/ByteChars", name := "placeInWord", desc := "(I)I" } : Jvm.MethodName) prog_4_method_7_code (2 : Nat) (Option.some Jvm.ClassFile.FieldType.int)]
set_option maxRecDepth 65536 in
theorem codes_eq : words1.filter isCode = codes1 := rfl
theorem w_codes : ∀ c ∈ words1.filter isCode, c.before args0 about1 = true := by
  rw [codes_eq]
  intro c hc
  simp only [codes1, List.mem_cons, List.not_mem_nil, or_false] at hc
  rcases hc with rfl | rfl | rfl | rfl | rfl | rfl | rfl
  · exact w_c0
  · exact w_c1
  · exact w_c2
  · exact w_c3
  · exact w_c4
  · exact w_c5
  · exact w_c6
set_option maxRecDepth 65536 in
theorem w_t1 : (words1.take 24).all (fun c => isCode c || c.before args0 about1) = true := by decide +kernel
set_option maxRecDepth 65536 in
theorem w_t2 : (words1.drop 24).all (fun c => isCode c || c.before args0 about1) = true := by decide +kernel
theorem w_tables : (allAtoms (Jvm.Cond.code x code maxLocals ret :: tables_1)).before args0 about1 = true := by
  rw [allAtoms_all]
  show words1.all (fun c => c.before args0 about1) = true
  refine all_split ?_ w_codes
  rw [← List.take_append_drop 24 words1, List.all_append, w_t1, w_t2]
  rfl
set_option maxRecDepth 65536 in
theorem w_case : (Jvm.Cond.and given_1 narrow_1).before args0 about1 = true := by decide +kernel
theorem w_applies : (headSpec (Jvm.Cond.code x code maxLocals ret :: tables_1) room_1).applies x e0.platform about1 = true :=
  (Spec.applies_iff w_frames).mpr ⟨w_running, w_runnable, w_alone, w_named, w_hears, w_ripe, w_room, w_tables⟩
theorem atStart : AtStart classFile x code maxLocals ret World_1 tables_1 room_1 Calls_1 rest_1 Pre_1 launch0 p0 e0 about1 theMethod args0 below0 :=
  ⟨lists_1, trivial, launch0.admits_env _ _ _, launch0.least_env, fairChoices_fair.cas, fairChoices_fair.clock, w_frames, w_args, w_heap, w_applies, trivial, trivial, w_case⟩
end start1
theorem witness_1 : WitnessClaimed_1 := ⟨start1.p0, start1.e0, start1.about1, start1.theMethod, start1.args0, start1.below0, start1.atStart⟩
end Jvm.Pilot.@@N@@
