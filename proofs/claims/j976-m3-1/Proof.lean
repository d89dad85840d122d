import JvmDerived
import JvmDerived.Pilot.@@N@@Statement
import JvmDerived.Pilot.@@N@@Code
set_option linter.unusedVariables false
set_option linter.unusedSimpArgs false
namespace Jvm.OwnK
open Sem ClassFile Op Lib Jvm.Stand Jvm.Free Jvm.LawKit Jvm.RoadKit
def Ctx : Type := Program × Launch × Env × State × MethodId × Array Value × List Frame × Method × Code
def Ctx.p (K : Ctx) : Program := K.1
def Ctx.l (K : Ctx) : Launch := K.2.1
def Ctx.e (K : Ctx) : Env := K.2.2.1
def Ctx.s (K : Ctx) : State := K.2.2.2.1
def Ctx.m (K : Ctx) : MethodId := K.2.2.2.2.1
def Ctx.args (K : Ctx) : Array Value := K.2.2.2.2.2.1
def Ctx.below (K : Ctx) : List Frame := K.2.2.2.2.2.2.1
def Ctx.meth (K : Ctx) : Method := K.2.2.2.2.2.2.2.1
def Ctx.c (K : Ctx) : Code := K.2.2.2.2.2.2.2.2
/-- from here the run ends by a return that answers Q -/
def Go (K : Ctx) (R : Room) (n0 : Nat) (Q : Option Value → Heap → Prop) (T : State) (pc : Nat) (L : Array Slot) (st : List Value) : Prop :=
  ∃ (s₂ : State) (o : Outcome), Steps K.p.tables K.e K.below (T.setTop (mkF K.m pc L st)) s₂ ∧ s₂.status = .running ∧ Ended s₂ K.below o ∧
    ∃ (v : Option Value) (Lc : List Loc), o = .returned v ∧ (Q v s₂.heap ∧ Fr n0 Lc) ∧ FrameEnd K.s o s₂ Lc R.cells R.slots
/-- where the run stands -/
def St (K : Ctx) (Z : State) (R : Room) (y : MethodName) (bytes : ByteArray) (maxL : Nat) (ret : Option FieldType) (n0 : Nat) (T : State) (h : Heap) (cells slots : Nat) : Prop :=
  (∃ locs, Stand K.p K.l K.e R K.s K.m K.args K.below K.meth K.c T locs cells slots ∧ Fr n0 locs) ∧ T.heap = h ∧ n0 ≤ K.s.heap.size ∧ K.p.tables.exec = Jvm.exec ∧ Z.Warmed39 K.s.vm ∧ K.c.code = bytes ∧ K.c.maxLocals = maxL ∧
    K.meth.sig.returnType = ret ∧ K.meth.locks = false ∧ K.s.vm.findClass y.cls = some K.m.cls ∧ K.meth.name = y.name
/-- what a body does, called with the arguments as' at the heap h -/
def Ctr (Z : State) (n0 : Nat) (y : MethodName) (bytes : ByteArray) (maxL : Nat) (ret : Option FieldType) (R : Room) (as' : List Value) (h : Heap) (Q : Option Value → Heap → Prop) : Prop :=
  ∀ (l : Launch) (ws : List Jvm.Cond), MetFree l y (head1 (Jvm.Cond.code y bytes maxL ret :: ws) R) (fun a U => a = as'.toArray ∧ Z.Warmed39 U.vm ∧ U.heap = h) (fun _ _ _ _ _ => True)
    (fun _ U o U' => ∃ v L, o = .returned v ∧ (Q v U'.heap ∧ Fr n0 L) ∧ FrameEnd U o U' L R.cells R.slots)
section Kit
variable {K : Ctx} {Z : State} {R : Room} {y : MethodName} {bytes : ByteArray} {maxL : Nat} {ret : Option FieldType} {n0 : Nat} {T : State} {h : Heap} {cl sl : Nat} {Q : Option Value → Heap → Prop} {pc pc' : Nat} {L L' : Array Slot} {st : List Value} {a0 : Array Value}
theorem Go.step {T' : State} {st' : List Value} (hs : ∀ target, Steps K.p.tables K.e K.below (T'.setTop (mkF K.m pc' L' st')) target → Steps K.p.tables K.e K.below (T.setTop (mkF K.m pc L st)) target) (k : Go K R n0 Q T' pc' L' st') : Go K R n0 Q T pc L st := by
  obtain ⟨s₂, o, h1, r⟩ := k
  exact ⟨s₂, o, hs _ h1, r⟩
theorem St.size (S : St K Z R y bytes maxL ret n0 T h cl sl) : n0 ≤ h.size := by
  obtain ⟨⟨locs, X, hF⟩, e0, hn, -⟩ := S
  have q : K.s.heap.size ≤ T.heap.size := X.same.2.1
  rw [← e0]; exact Nat.le_trans hn q
theorem St.more (S : St K Z R y bytes maxL ret n0 T h cl sl) {cl' sl' : Nat} (h1 : cl ≤ cl') (h2 : sl ≤ sl') : St K Z R y bytes maxL ret n0 T h cl' sl' := by
  obtain ⟨⟨locs, X, hF⟩, r⟩ := S
  exact ⟨⟨locs, X.more h1 h2, hF⟩, r⟩
theorem Ctr.of {as' : List Value} (hpl : plainFor y = true) (hn : n0 ≤ h.size) (hef : ∀ m, entryFrame m as'.toArray maxL = mkF m 0 L []) (body : ∀ (K : Ctx) (T : State), St K Z R y bytes maxL ret n0 T h 0 0 → Go K R n0 Q T 0 L []) : Ctr Z n0 y bytes maxL ret R as' h Q := by
  intro l ws
  refine MetFree.of_bodySF hpl hisR ?_
  intro p e s m args below meth c s₁ Bd hml0 hP hK
  obtain ⟨rfl, hZ, hh⟩ := hP
  have e0 : s₁.heap = h := by rw [← hh, Bd.state]; rfl
  have X0 : Stand p l e R s m as'.toArray below meth c s₁ [] 0 0 := Stand.of_body Bd
  obtain ⟨s₂, o, h1, h2, h3, h4⟩ := body (p, l, e, s, m, as'.toArray, below, meth, c) s₁ ⟨⟨[], X0, Fr.nil _⟩, e0, by rw [← hh] at hn; exact hn, Bd.exec, hZ, Bd.bytes, hml0, Bd.returns, BodyLoose.notSynchronized Bd, findClass_of_methodNamed Bd.named, (name_of_methodNamed Bd.named Bd.method).1⟩
  exact ⟨s₂, o, castTop (hef m) h1, h2, h3, h4⟩
theorem Ctr.imp {as' : List Value} {Q' : Option Value → Heap → Prop} (C : Ctr Z n0 y bytes maxL ret R as' h Q) (hq : ∀ v h', Q v h' → Q' v h') : Ctr Z n0 y bytes maxL ret R as' h Q' := by
  intro l ws p e ha hc hk s m args below hf happ hP hK
  obtain ⟨n, o, h1, h2, h3, v, L, e1, ⟨e2, e3⟩, e4⟩ := C l ws p e ha hc hk s m args below hf happ hP hK
  exact ⟨n, o, h1, h2, h3, v, L, e1, ⟨hq _ _ e2, e3⟩, e4⟩

theorem px_iload (S : St K Z R y bytes maxL ret n0 T h cl sl) {k : Nat} {v : Int32} (hd : decode bytes pc = .ok (.iload k, 2)) (hp : pc + 2 = pc') (hl : L[k]? = some (.val (.int v))) (k : Go K R n0 Q T pc' L (.int v :: st)) : Go K R n0 Q T pc L st := by
  subst hp
  obtain ⟨⟨locs, X, hF⟩, e0, hn0, hx, hZ, hby, hml, hret, hlk, hown, hnm⟩ := S
  exact Go.step (fun _ t => XS.iload X.here hx rfl (hb hby hd) hl t) k
theorem px_iloadN (S : St K Z R y bytes maxL ret n0 T h cl sl) {k : Fin 4} {v : Int32} (hd : decode bytes pc = .ok (.iload_n k, 1)) (hp : pc + 1 = pc') (hl : L[k.val]? = some (.val (.int v))) (k : Go K R n0 Q T pc' L (.int v :: st)) : Go K R n0 Q T pc L st := by
  subst hp
  obtain ⟨⟨locs, X, hF⟩, e0, hn0, hx, hZ, hby, hml, hret, hlk, hown, hnm⟩ := S
  exact Go.step (fun _ t => XS.iloadN X.here hx rfl (hb hby hd) hl t) k
theorem px_lload (S : St K Z R y bytes maxL ret n0 T h cl sl) {k : Nat} {v : Int64} (hd : decode bytes pc = .ok (.lload k, 2)) (hp : pc + 2 = pc') (hl : L[k]? = some (.val (.long v))) (k : Go K R n0 Q T pc' L (.long v :: st)) : Go K R n0 Q T pc L st := by
  subst hp
  obtain ⟨⟨locs, X, hF⟩, e0, hn0, hx, hZ, hby, hml, hret, hlk, hown, hnm⟩ := S
  exact Go.step (fun _ t => XS.lload X.here hx rfl (hb hby hd) hl t) k
theorem px_lloadN (S : St K Z R y bytes maxL ret n0 T h cl sl) {k : Fin 4} {v : Int64} (hd : decode bytes pc = .ok (.lload_n k, 1)) (hp : pc + 1 = pc') (hl : L[k.val]? = some (.val (.long v))) (k : Go K R n0 Q T pc' L (.long v :: st)) : Go K R n0 Q T pc L st := by
  subst hp
  obtain ⟨⟨locs, X, hF⟩, e0, hn0, hx, hZ, hby, hml, hret, hlk, hown, hnm⟩ := S
  exact Go.step (fun _ t => XS.lloadN X.here hx rfl (hb hby hd) hl t) k
theorem px_aload (S : St K Z R y bytes maxL ret n0 T h cl sl) {k : Nat} {v : Value} (hd : decode bytes pc = .ok (.aload k, 2)) (hp : pc + 2 = pc') (hl : L[k]? = some (.val v)) (hv : v.isRef = true) (k : Go K R n0 Q T pc' L (v :: st)) : Go K R n0 Q T pc L st := by
  subst hp
  obtain ⟨⟨locs, X, hF⟩, e0, hn0, hx, hZ, hby, hml, hret, hlk, hown, hnm⟩ := S
  exact Go.step (fun _ t => XS.aload X.here hx rfl (hb hby hd) hl hv t) k
theorem px_aloadN (S : St K Z R y bytes maxL ret n0 T h cl sl) {k : Fin 4} {v : Value} (hd : decode bytes pc = .ok (.aload_n k, 1)) (hp : pc + 1 = pc') (hl : L[k.val]? = some (.val v)) (hv : v.isRef = true) (k : Go K R n0 Q T pc' L (v :: st)) : Go K R n0 Q T pc L st := by
  subst hp
  obtain ⟨⟨locs, X, hF⟩, e0, hn0, hx, hZ, hby, hml, hret, hlk, hown, hnm⟩ := S
  exact Go.step (fun _ t => XS.aloadN X.here hx rfl (hb hby hd) hl hv t) k
theorem px_istore (S : St K Z R y bytes maxL ret n0 T h cl sl) {k : Nat} {v : Int32} (hd : decode bytes pc = .ok (.istore k, 2)) (hp : pc + 2 = pc') (hl : storeLocals L k (.int v) = some L') (k : Go K R n0 Q T pc' L' st) : Go K R n0 Q T pc L (.int v :: st) := by
  subst hp
  obtain ⟨⟨locs, X, hF⟩, e0, hn0, hx, hZ, hby, hml, hret, hlk, hown, hnm⟩ := S
  exact Go.step (fun _ t => XS.istore X.here hx rfl (hb hby hd) rfl hl t) k
theorem px_istoreN (S : St K Z R y bytes maxL ret n0 T h cl sl) {k : Fin 4} {v : Int32} (hd : decode bytes pc = .ok (.istore_n k, 1)) (hp : pc + 1 = pc') (hl : storeLocals L k.val (.int v) = some L') (k : Go K R n0 Q T pc' L' st) : Go K R n0 Q T pc L (.int v :: st) := by
  subst hp
  obtain ⟨⟨locs, X, hF⟩, e0, hn0, hx, hZ, hby, hml, hret, hlk, hown, hnm⟩ := S
  exact Go.step (fun _ t => XS.istoreN X.here hx rfl (hb hby hd) rfl hl t) k
theorem px_lstore (S : St K Z R y bytes maxL ret n0 T h cl sl) {k : Nat} {v : Int64} (hd : decode bytes pc = .ok (.lstore k, 2)) (hp : pc + 2 = pc') (hl : storeLocals L k (.long v) = some L') (k : Go K R n0 Q T pc' L' st) : Go K R n0 Q T pc L (.long v :: st) := by
  subst hp
  obtain ⟨⟨locs, X, hF⟩, e0, hn0, hx, hZ, hby, hml, hret, hlk, hown, hnm⟩ := S
  exact Go.step (fun _ t => XS.lstore X.here hx rfl (hb hby hd) rfl hl t) k
theorem px_lstoreN (S : St K Z R y bytes maxL ret n0 T h cl sl) {k : Fin 4} {v : Int64} (hd : decode bytes pc = .ok (.lstore_n k, 1)) (hp : pc + 1 = pc') (hl : storeLocals L k.val (.long v) = some L') (k : Go K R n0 Q T pc' L' st) : Go K R n0 Q T pc L (.long v :: st) := by
  subst hp
  obtain ⟨⟨locs, X, hF⟩, e0, hn0, hx, hZ, hby, hml, hret, hlk, hown, hnm⟩ := S
  exact Go.step (fun _ t => XS.lstoreN X.here hx rfl (hb hby hd) rfl hl t) k
theorem px_astore (S : St K Z R y bytes maxL ret n0 T h cl sl) {k : Nat} {v : Value} (hd : decode bytes pc = .ok (.astore k, 2)) (hp : pc + 2 = pc') (hv : v.isRef = true) (hl : storeLocals L k v = some L') (k : Go K R n0 Q T pc' L' st) : Go K R n0 Q T pc L (v :: st) := by
  subst hp
  obtain ⟨⟨locs, X, hF⟩, e0, hn0, hx, hZ, hby, hml, hret, hlk, hown, hnm⟩ := S
  exact Go.step (fun _ t => XS.astore X.here hx rfl (hb hby hd) rfl hv hl t) k
theorem px_astoreN (S : St K Z R y bytes maxL ret n0 T h cl sl) {k : Fin 4} {v : Value} (hd : decode bytes pc = .ok (.astore_n k, 1)) (hp : pc + 1 = pc') (hv : v.isRef = true) (hl : storeLocals L k.val v = some L') (k : Go K R n0 Q T pc' L' st) : Go K R n0 Q T pc L (v :: st) := by
  subst hp
  obtain ⟨⟨locs, X, hF⟩, e0, hn0, hx, hZ, hby, hml, hret, hlk, hown, hnm⟩ := S
  exact Go.step (fun _ t => XS.astoreN X.here hx rfl (hb hby hd) rfl hv hl t) k
theorem px_iconst (S : St K Z R y bytes maxL ret n0 T h cl sl) {i : Int} {v : Int32} (hd : decode bytes pc = .ok (.iconst i, 1)) (hp : pc + 1 = pc') (hv : Int32.ofInt i = v) (k : Go K R n0 Q T pc' L (.int v :: st)) : Go K R n0 Q T pc L st := by
  subst hp
  obtain ⟨⟨locs, X, hF⟩, e0, hn0, hx, hZ, hby, hml, hret, hlk, hown, hnm⟩ := S
  exact Go.step (fun _ t => XS.iconst X.here hx rfl (hb hby hd) (by rw [hv]; exact t)) k
theorem px_bipush (S : St K Z R y bytes maxL ret n0 T h cl sl) {i : Int} {v : Int32} (hd : decode bytes pc = .ok (.bipush i, 2)) (hp : pc + 2 = pc') (hv : (Int8.ofInt i).toInt32 = v) (k : Go K R n0 Q T pc' L (.int v :: st)) : Go K R n0 Q T pc L st := by
  subst hp
  obtain ⟨⟨locs, X, hF⟩, e0, hn0, hx, hZ, hby, hml, hret, hlk, hown, hnm⟩ := S
  exact Go.step (fun _ t => XS.bipush X.here hx rfl (hb hby hd) (by rw [hv]; exact t)) k
theorem px_sipush (S : St K Z R y bytes maxL ret n0 T h cl sl) {i : Int} {v : Int32} (hd : decode bytes pc = .ok (.sipush i, 3)) (hp : pc + 3 = pc') (hv : (Int16.ofInt i).toInt32 = v) (k : Go K R n0 Q T pc' L (.int v :: st)) : Go K R n0 Q T pc L st := by
  subst hp
  obtain ⟨⟨locs, X, hF⟩, e0, hn0, hx, hZ, hby, hml, hret, hlk, hown, hnm⟩ := S
  exact Go.step (fun _ t => XS.sipush X.here hx rfl (hb hby hd) (by rw [hv]; exact t)) k
theorem px_lconst (S : St K Z R y bytes maxL ret n0 T h cl sl) {i : Fin 2} {v : Int64} (hd : decode bytes pc = .ok (.lconst i, 1)) (hp : pc + 1 = pc') (hv : Int64.ofNat i = v) (k : Go K R n0 Q T pc' L (.long v :: st)) : Go K R n0 Q T pc L st := by
  subst hp
  obtain ⟨⟨locs, X, hF⟩, e0, hn0, hx, hZ, hby, hml, hret, hlk, hown, hnm⟩ := S
  exact Go.step (fun _ t => XS.lconst X.here hx rfl (hb hby hd) (by rw [hv]; exact t)) k
theorem px_aconstNull (S : St K Z R y bytes maxL ret n0 T h cl sl) (hd : decode bytes pc = .ok (.aconst_null, 1)) (hp : pc + 1 = pc') (k : Go K R n0 Q T pc' L (.null :: st)) : Go K R n0 Q T pc L st := by
  subst hp
  obtain ⟨⟨locs, X, hF⟩, e0, hn0, hx, hZ, hby, hml, hret, hlk, hown, hnm⟩ := S
  exact Go.step (fun _ t => XS.aconstNull X.here hx rfl (hb hby hd) t) k
theorem px_iadd (S : St K Z R y bytes maxL ret n0 T h cl sl) {u v : Int32} (hd : decode bytes pc = .ok (.iadd, 1)) (hp : pc + 1 = pc') (k : Go K R n0 Q T pc' L (.int (u + v) :: st)) : Go K R n0 Q T pc L (.int v :: .int u :: st) := by
  subst hp
  obtain ⟨⟨locs, X, hF⟩, e0, hn0, hx, hZ, hby, hml, hret, hlk, hown, hnm⟩ := S
  exact Go.step (fun _ t => XS.iadd X.here hx rfl (hb hby hd) rfl t) k
theorem px_ladd (S : St K Z R y bytes maxL ret n0 T h cl sl) {u v : Int64} (hd : decode bytes pc = .ok (.ladd, 1)) (hp : pc + 1 = pc') (k : Go K R n0 Q T pc' L (.long (u + v) :: st)) : Go K R n0 Q T pc L (.long v :: .long u :: st) := by
  subst hp
  obtain ⟨⟨locs, X, hF⟩, e0, hn0, hx, hZ, hby, hml, hret, hlk, hown, hnm⟩ := S
  exact Go.step (fun _ t => XS.ladd X.here hx rfl (hb hby hd) rfl t) k
theorem px_isub (S : St K Z R y bytes maxL ret n0 T h cl sl) {u v : Int32} (hd : decode bytes pc = .ok (.isub, 1)) (hp : pc + 1 = pc') (k : Go K R n0 Q T pc' L (.int (u - v) :: st)) : Go K R n0 Q T pc L (.int v :: .int u :: st) := by
  subst hp
  obtain ⟨⟨locs, X, hF⟩, e0, hn0, hx, hZ, hby, hml, hret, hlk, hown, hnm⟩ := S
  exact Go.step (fun _ t => XS.isub X.here hx rfl (hb hby hd) rfl t) k
theorem px_lsub (S : St K Z R y bytes maxL ret n0 T h cl sl) {u v : Int64} (hd : decode bytes pc = .ok (.lsub, 1)) (hp : pc + 1 = pc') (k : Go K R n0 Q T pc' L (.long (u - v) :: st)) : Go K R n0 Q T pc L (.long v :: .long u :: st) := by
  subst hp
  obtain ⟨⟨locs, X, hF⟩, e0, hn0, hx, hZ, hby, hml, hret, hlk, hown, hnm⟩ := S
  exact Go.step (fun _ t => XS.lsub X.here hx rfl (hb hby hd) rfl t) k
theorem px_imul (S : St K Z R y bytes maxL ret n0 T h cl sl) {u v : Int32} (hd : decode bytes pc = .ok (.imul, 1)) (hp : pc + 1 = pc') (k : Go K R n0 Q T pc' L (.int (u * v) :: st)) : Go K R n0 Q T pc L (.int v :: .int u :: st) := by
  subst hp
  obtain ⟨⟨locs, X, hF⟩, e0, hn0, hx, hZ, hby, hml, hret, hlk, hown, hnm⟩ := S
  exact Go.step (fun _ t => XS.imul X.here hx rfl (hb hby hd) rfl t) k
theorem px_lmul (S : St K Z R y bytes maxL ret n0 T h cl sl) {u v : Int64} (hd : decode bytes pc = .ok (.lmul, 1)) (hp : pc + 1 = pc') (k : Go K R n0 Q T pc' L (.long (u * v) :: st)) : Go K R n0 Q T pc L (.long v :: .long u :: st) := by
  subst hp
  obtain ⟨⟨locs, X, hF⟩, e0, hn0, hx, hZ, hby, hml, hret, hlk, hown, hnm⟩ := S
  exact Go.step (fun _ t => XS.lmul X.here hx rfl (hb hby hd) rfl t) k
theorem px_iand (S : St K Z R y bytes maxL ret n0 T h cl sl) {u v : Int32} (hd : decode bytes pc = .ok (.iand, 1)) (hp : pc + 1 = pc') (k : Go K R n0 Q T pc' L (.int (u &&& v) :: st)) : Go K R n0 Q T pc L (.int v :: .int u :: st) := by
  subst hp
  obtain ⟨⟨locs, X, hF⟩, e0, hn0, hx, hZ, hby, hml, hret, hlk, hown, hnm⟩ := S
  exact Go.step (fun _ t => XS.iand X.here hx rfl (hb hby hd) rfl t) k
theorem px_land (S : St K Z R y bytes maxL ret n0 T h cl sl) {u v : Int64} (hd : decode bytes pc = .ok (.land, 1)) (hp : pc + 1 = pc') (k : Go K R n0 Q T pc' L (.long (u &&& v) :: st)) : Go K R n0 Q T pc L (.long v :: .long u :: st) := by
  subst hp
  obtain ⟨⟨locs, X, hF⟩, e0, hn0, hx, hZ, hby, hml, hret, hlk, hown, hnm⟩ := S
  exact Go.step (fun _ t => XS.land X.here hx rfl (hb hby hd) rfl t) k
theorem px_ior (S : St K Z R y bytes maxL ret n0 T h cl sl) {u v : Int32} (hd : decode bytes pc = .ok (.ior, 1)) (hp : pc + 1 = pc') (k : Go K R n0 Q T pc' L (.int (u ||| v) :: st)) : Go K R n0 Q T pc L (.int v :: .int u :: st) := by
  subst hp
  obtain ⟨⟨locs, X, hF⟩, e0, hn0, hx, hZ, hby, hml, hret, hlk, hown, hnm⟩ := S
  exact Go.step (fun _ t => XS.ior X.here hx rfl (hb hby hd) rfl t) k
theorem px_lor (S : St K Z R y bytes maxL ret n0 T h cl sl) {u v : Int64} (hd : decode bytes pc = .ok (.lor, 1)) (hp : pc + 1 = pc') (k : Go K R n0 Q T pc' L (.long (u ||| v) :: st)) : Go K R n0 Q T pc L (.long v :: .long u :: st) := by
  subst hp
  obtain ⟨⟨locs, X, hF⟩, e0, hn0, hx, hZ, hby, hml, hret, hlk, hown, hnm⟩ := S
  exact Go.step (fun _ t => XS.lor X.here hx rfl (hb hby hd) rfl t) k
theorem px_ixor (S : St K Z R y bytes maxL ret n0 T h cl sl) {u v : Int32} (hd : decode bytes pc = .ok (.ixor, 1)) (hp : pc + 1 = pc') (k : Go K R n0 Q T pc' L (.int (u ^^^ v) :: st)) : Go K R n0 Q T pc L (.int v :: .int u :: st) := by
  subst hp
  obtain ⟨⟨locs, X, hF⟩, e0, hn0, hx, hZ, hby, hml, hret, hlk, hown, hnm⟩ := S
  exact Go.step (fun _ t => XS.ixor X.here hx rfl (hb hby hd) rfl t) k
theorem px_lxor (S : St K Z R y bytes maxL ret n0 T h cl sl) {u v : Int64} (hd : decode bytes pc = .ok (.lxor, 1)) (hp : pc + 1 = pc') (k : Go K R n0 Q T pc' L (.long (u ^^^ v) :: st)) : Go K R n0 Q T pc L (.long v :: .long u :: st) := by
  subst hp
  obtain ⟨⟨locs, X, hF⟩, e0, hn0, hx, hZ, hby, hml, hret, hlk, hown, hnm⟩ := S
  exact Go.step (fun _ t => XS.lxor X.here hx rfl (hb hby hd) rfl t) k
def ushr (u v : Int32) : Int32 := (u.toUInt32 >>> (v &&& 31).toUInt32).toInt32
def ushrL (u : Int64) (v : Int32) : Int64 := (u.toUInt64 >>> (v &&& 0x3f).toInt64.toUInt64).toInt64
def i2c (v : Int32) : Int32 := v.toUInt32.toUInt16.toUInt32.toInt32
def i2b (v : Int32) : Int32 := v.toInt8.toInt32
def i2s (v : Int32) : Int32 := v.toInt16.toInt32
theorem px_ishl (S : St K Z R y bytes maxL ret n0 T h cl sl) {u v : Int32} (hd : decode bytes pc = .ok (.ishl, 1)) (hp : pc + 1 = pc') (k : Go K R n0 Q T pc' L (.int (u <<< (v &&& 31)) :: st)) : Go K R n0 Q T pc L (.int v :: .int u :: st) := by
  subst hp
  obtain ⟨⟨locs, X, hF⟩, e0, hn0, hx, hZ, hby, hml, hret, hlk, hown, hnm⟩ := S
  exact Go.step (fun _ t => XS.ishl X.here hx rfl (hb hby hd) rfl t) k
theorem px_ishr (S : St K Z R y bytes maxL ret n0 T h cl sl) {u v : Int32} (hd : decode bytes pc = .ok (.ishr, 1)) (hp : pc + 1 = pc') (k : Go K R n0 Q T pc' L (.int (u >>> (v &&& 31)) :: st)) : Go K R n0 Q T pc L (.int v :: .int u :: st) := by
  subst hp
  obtain ⟨⟨locs, X, hF⟩, e0, hn0, hx, hZ, hby, hml, hret, hlk, hown, hnm⟩ := S
  exact Go.step (fun _ t => XS.ishr X.here hx rfl (hb hby hd) rfl t) k
theorem px_iushr (S : St K Z R y bytes maxL ret n0 T h cl sl) {u v : Int32} (hd : decode bytes pc = .ok (.iushr, 1)) (hp : pc + 1 = pc') (k : Go K R n0 Q T pc' L (.int (ushr u v) :: st)) : Go K R n0 Q T pc L (.int v :: .int u :: st) := by
  subst hp
  obtain ⟨⟨locs, X, hF⟩, e0, hn0, hx, hZ, hby, hml, hret, hlk, hown, hnm⟩ := S
  exact Go.step (fun _ t => XS.iushr X.here hx rfl (hb hby hd) rfl t) k
theorem px_lshl (S : St K Z R y bytes maxL ret n0 T h cl sl) {u : Int64} {v : Int32} (hd : decode bytes pc = .ok (.lshl, 1)) (hp : pc + 1 = pc') (k : Go K R n0 Q T pc' L (.long (u <<< (v &&& 0x3f).toInt64) :: st)) : Go K R n0 Q T pc L (.int v :: .long u :: st) := by
  subst hp
  obtain ⟨⟨locs, X, hF⟩, e0, hn0, hx, hZ, hby, hml, hret, hlk, hown, hnm⟩ := S
  exact Go.step (fun _ t => XS.lshl X.here hx rfl (hb hby hd) rfl t) k
theorem px_lshr (S : St K Z R y bytes maxL ret n0 T h cl sl) {u : Int64} {v : Int32} (hd : decode bytes pc = .ok (.lshr, 1)) (hp : pc + 1 = pc') (k : Go K R n0 Q T pc' L (.long (u >>> (v &&& 0x3f).toInt64) :: st)) : Go K R n0 Q T pc L (.int v :: .long u :: st) := by
  subst hp
  obtain ⟨⟨locs, X, hF⟩, e0, hn0, hx, hZ, hby, hml, hret, hlk, hown, hnm⟩ := S
  exact Go.step (fun _ t => XS.lshr X.here hx rfl (hb hby hd) rfl t) k
theorem px_lushr (S : St K Z R y bytes maxL ret n0 T h cl sl) {u : Int64} {v : Int32} (hd : decode bytes pc = .ok (.lushr, 1)) (hp : pc + 1 = pc') (k : Go K R n0 Q T pc' L (.long (ushrL u v) :: st)) : Go K R n0 Q T pc L (.int v :: .long u :: st) := by
  subst hp
  obtain ⟨⟨locs, X, hF⟩, e0, hn0, hx, hZ, hby, hml, hret, hlk, hown, hnm⟩ := S
  exact Go.step (fun _ t => XS.lushr X.here hx rfl (hb hby hd) rfl t) k
theorem px_idiv (S : St K Z R y bytes maxL ret n0 T h cl sl) {u v : Int32} (hd : decode bytes pc = .ok (.idiv, 1)) (hp : pc + 1 = pc') (hz : v ≠ 0) (k : Go K R n0 Q T pc' L (.int (u / v) :: st)) : Go K R n0 Q T pc L (.int v :: .int u :: st) := by
  subst hp
  obtain ⟨⟨locs, X, hF⟩, e0, hn0, hx, hZ, hby, hml, hret, hlk, hown, hnm⟩ := S
  exact Go.step (fun _ t => XS.idiv X.here hx rfl (hb hby hd) rfl hz t) k
theorem px_irem (S : St K Z R y bytes maxL ret n0 T h cl sl) {u v : Int32} (hd : decode bytes pc = .ok (.irem, 1)) (hp : pc + 1 = pc') (hz : v ≠ 0) (k : Go K R n0 Q T pc' L (.int (u % v) :: st)) : Go K R n0 Q T pc L (.int v :: .int u :: st) := by
  subst hp
  obtain ⟨⟨locs, X, hF⟩, e0, hn0, hx, hZ, hby, hml, hret, hlk, hown, hnm⟩ := S
  exact Go.step (fun _ t => iremM X hx rfl (hb hby hd) rfl hz t) k
theorem px_ldiv (S : St K Z R y bytes maxL ret n0 T h cl sl) {u v : Int64} (hd : decode bytes pc = .ok (.ldiv, 1)) (hp : pc + 1 = pc') (hz : v ≠ 0) (k : Go K R n0 Q T pc' L (.long (u / v) :: st)) : Go K R n0 Q T pc L (.long v :: .long u :: st) := by
  subst hp
  obtain ⟨⟨locs, X, hF⟩, e0, hn0, hx, hZ, hby, hml, hret, hlk, hown, hnm⟩ := S
  exact Go.step (fun _ t => XS.ldiv X.here hx rfl (hb hby hd) rfl hz t) k
theorem px_ineg (S : St K Z R y bytes maxL ret n0 T h cl sl) {u : Int32} (hd : decode bytes pc = .ok (.ineg, 1)) (hp : pc + 1 = pc') (k : Go K R n0 Q T pc' L (.int (-u) :: st)) : Go K R n0 Q T pc L (.int u :: st) := by
  subst hp
  obtain ⟨⟨locs, X, hF⟩, e0, hn0, hx, hZ, hby, hml, hret, hlk, hown, hnm⟩ := S
  exact Go.step (fun _ t => XS.ineg X.here hx rfl (hb hby hd) rfl t) k
theorem px_lneg (S : St K Z R y bytes maxL ret n0 T h cl sl) {u : Int64} (hd : decode bytes pc = .ok (.lneg, 1)) (hp : pc + 1 = pc') (k : Go K R n0 Q T pc' L (.long (-u) :: st)) : Go K R n0 Q T pc L (.long u :: st) := by
  subst hp
  obtain ⟨⟨locs, X, hF⟩, e0, hn0, hx, hZ, hby, hml, hret, hlk, hown, hnm⟩ := S
  exact Go.step (fun _ t => XS.lneg X.here hx rfl (hb hby hd) rfl t) k
theorem px_i2l (S : St K Z R y bytes maxL ret n0 T h cl sl) {u : Int32} (hd : decode bytes pc = .ok (.i2l, 1)) (hp : pc + 1 = pc') (k : Go K R n0 Q T pc' L (.long u.toInt64 :: st)) : Go K R n0 Q T pc L (.int u :: st) := by
  subst hp
  obtain ⟨⟨locs, X, hF⟩, e0, hn0, hx, hZ, hby, hml, hret, hlk, hown, hnm⟩ := S
  exact Go.step (fun _ t => XS.i2l X.here hx rfl (hb hby hd) rfl t) k
theorem px_l2i (S : St K Z R y bytes maxL ret n0 T h cl sl) {u : Int64} (hd : decode bytes pc = .ok (.l2i, 1)) (hp : pc + 1 = pc') (k : Go K R n0 Q T pc' L (.int u.toInt32 :: st)) : Go K R n0 Q T pc L (.long u :: st) := by
  subst hp
  obtain ⟨⟨locs, X, hF⟩, e0, hn0, hx, hZ, hby, hml, hret, hlk, hown, hnm⟩ := S
  exact Go.step (fun _ t => XS.l2i X.here hx rfl (hb hby hd) rfl t) k
theorem px_i2b (S : St K Z R y bytes maxL ret n0 T h cl sl) {u : Int32} (hd : decode bytes pc = .ok (.i2b, 1)) (hp : pc + 1 = pc') (k : Go K R n0 Q T pc' L (.int (i2b u) :: st)) : Go K R n0 Q T pc L (.int u :: st) := by
  subst hp
  obtain ⟨⟨locs, X, hF⟩, e0, hn0, hx, hZ, hby, hml, hret, hlk, hown, hnm⟩ := S
  exact Go.step (fun _ t => XS.i2b X.here hx rfl (hb hby hd) rfl t) k
theorem px_i2c (S : St K Z R y bytes maxL ret n0 T h cl sl) {u : Int32} (hd : decode bytes pc = .ok (.i2c, 1)) (hp : pc + 1 = pc') (k : Go K R n0 Q T pc' L (.int (i2c u) :: st)) : Go K R n0 Q T pc L (.int u :: st) := by
  subst hp
  obtain ⟨⟨locs, X, hF⟩, e0, hn0, hx, hZ, hby, hml, hret, hlk, hown, hnm⟩ := S
  exact Go.step (fun _ t => XS.i2c X.here hx rfl (hb hby hd) rfl t) k
theorem px_i2s (S : St K Z R y bytes maxL ret n0 T h cl sl) {u : Int32} (hd : decode bytes pc = .ok (.i2s, 1)) (hp : pc + 1 = pc') (k : Go K R n0 Q T pc' L (.int (i2s u) :: st)) : Go K R n0 Q T pc L (.int u :: st) := by
  subst hp
  obtain ⟨⟨locs, X, hF⟩, e0, hn0, hx, hZ, hby, hml, hret, hlk, hown, hnm⟩ := S
  exact Go.step (fun _ t => XS.i2s X.here hx rfl (hb hby hd) rfl t) k
theorem px_lcmp (S : St K Z R y bytes maxL ret n0 T h cl sl) {u v : Int64} (hd : decode bytes pc = .ok (.lcmp, 1)) (hp : pc + 1 = pc') (k : Go K R n0 Q T pc' L (.int (lcmpW u v) :: st)) : Go K R n0 Q T pc L (.long v :: .long u :: st) := by
  subst hp
  obtain ⟨⟨locs, X, hF⟩, e0, hn0, hx, hZ, hby, hml, hret, hlk, hown, hnm⟩ := S
  exact Go.step (fun _ t => XS.lcmp X.here hx rfl (hb hby hd) rfl t) k
theorem px_pop (S : St K Z R y bytes maxL ret n0 T h cl sl) {u : Value} (hd : decode bytes pc = .ok (.pop, 1)) (hp : pc + 1 = pc') (hc : u.category = 1) (k : Go K R n0 Q T pc' L st) : Go K R n0 Q T pc L (u :: st) := by
  subst hp
  obtain ⟨⟨locs, X, hF⟩, e0, hn0, hx, hZ, hby, hml, hret, hlk, hown, hnm⟩ := S
  exact Go.step (fun _ t => XS.pop X.here hx rfl (hb hby hd) rfl hc t) k
theorem px_dup (S : St K Z R y bytes maxL ret n0 T h cl sl) {u : Value} (hd : decode bytes pc = .ok (.dup, 1)) (hp : pc + 1 = pc') (hc : u.category = 1) (k : Go K R n0 Q T pc' L (u :: u :: st)) : Go K R n0 Q T pc L (u :: st) := by
  subst hp
  obtain ⟨⟨locs, X, hF⟩, e0, hn0, hx, hZ, hby, hml, hret, hlk, hown, hnm⟩ := S
  exact Go.step (fun _ t => XS.dup X.here hx rfl (hb hby hd) rfl hc t) k
theorem px_dupX1 (S : St K Z R y bytes maxL ret n0 T h cl sl) {u v : Value} (hd : decode bytes pc = .ok (.dup_x1, 1)) (hp : pc + 1 = pc') (hc : u.category = 1) (hc2 : v.category = 1) (k : Go K R n0 Q T pc' L (u :: v :: u :: st)) : Go K R n0 Q T pc L (u :: v :: st) := by
  subst hp
  obtain ⟨⟨locs, X, hF⟩, e0, hn0, hx, hZ, hby, hml, hret, hlk, hown, hnm⟩ := S
  exact Go.step (fun _ t => XS.dupX1 X.here hx rfl (hb hby hd) rfl hc hc2 t) k
theorem px_dup2 (S : St K Z R y bytes maxL ret n0 T h cl sl) {u v : Value} (hd : decode bytes pc = .ok (.dup2, 1)) (hp : pc + 1 = pc') (hc : u.category = 1) (hc2 : v.category = 1) (k : Go K R n0 Q T pc' L (u :: v :: u :: v :: st)) : Go K R n0 Q T pc L (u :: v :: st) := by
  subst hp
  obtain ⟨⟨locs, X, hF⟩, e0, hn0, hx, hZ, hby, hml, hret, hlk, hown, hnm⟩ := S
  exact Go.step (fun _ t => Jvm.Free.XT.dup2 X.here hx rfl (hb hby hd) rfl hc hc2 t) k
theorem px_iinc (S : St K Z R y bytes maxL ret n0 T h cl sl) {k : Nat} {cst : Int} {u v r : Int32} (hd : decode bytes pc = .ok (.iinc k cst, 3)) (hp : pc + 3 = pc') (hl : L[k]? = some (.val (.int u))) (hv : Int32.ofInt cst = v) (hr : u + v = r) (hl' : storeLocals L k (.int r) = some L') (k' : Go K R n0 Q T pc' L' st) : Go K R n0 Q T pc L st := by
  subst hp
  subst hv
  subst hr
  obtain ⟨⟨locs, X, hF⟩, e0, hn0, hx, hZ, hby, hml, hret, hlk, hown, hnm⟩ := S
  exact Go.step (fun _ t => XS.iinc X.here hx rfl (hb hby hd) hl hl' t) k'
theorem px_goto (S : St K Z R y bytes maxL ret n0 T h cl sl) {o : Int} (hd : decode bytes pc = .ok (.goto o, 3)) (ho : 0 ≤ (pc : Int) + o) (hp : ((pc : Int) + o).toNat = pc') (k : Go K R n0 Q T pc' L st) : Go K R n0 Q T pc L st := by
  obtain ⟨⟨locs, X, hF⟩, e0, hn0, hx, hZ, hby, hml, hret, hlk, hown, hnm⟩ := S
  exact Go.step (fun _ t => XS.goto X.here hx rfl rfl (hb hby hd) ho hp t) k
def yesC : ClassFile.Cond → Int → Int → Prop
  | .eq, x, y => x = y
  | .ne, x, y => ¬ x = y
  | .lt, x, y => x < y
  | .ge, x, y => y ≤ x
  | .gt, x, y => y < x
  | .le, x, y => x ≤ y
def noC : ClassFile.Cond → Int → Int → Prop
  | .eq, x, y => ¬ x = y
  | .ne, x, y => x = y
  | .lt, x, y => y ≤ x
  | .ge, x, y => x < y
  | .gt, x, y => x ≤ y
  | .le, x, y => y < x
theorem yesC_of {cd : ClassFile.Cond} {x y : Int32} (h : if_icmp.holds cd x y = true) : yesC cd x.toInt y.toInt := by
  cases cd <;> simp [if_icmp.holds, yesC, Int32.lt_iff_toInt_lt, Int32.le_iff_toInt_le, ← Int32.toInt_inj] at h ⊢ <;> omega
theorem noC_of {cd : ClassFile.Cond} {x y : Int32} (h : if_icmp.holds cd x y = false) : noC cd x.toInt y.toInt := by
  cases cd <;> simp [if_icmp.holds, noC, Int32.lt_iff_toInt_lt, Int32.le_iff_toInt_le, ← Int32.toInt_inj] at h ⊢ <;> omega
theorem px_icmp (S : St K Z R y bytes maxL ret n0 T h cl sl) {cd : ClassFile.Cond} {o : Int} {u v : Int32} {pcn : Nat} (hd : decode bytes pc = .ok (.if_icmp cd o, 3)) (ho : 0 ≤ (pc : Int) + o) (hp : ((pc : Int) + o).toNat = pc') (hn : pc + 3 = pcn)
    (ky : yesC cd u.toInt v.toInt → Go K R n0 Q T pc' L st) (kn : noC cd u.toInt v.toInt → Go K R n0 Q T pcn L st) : Go K R n0 Q T pc L (.int v :: .int u :: st) := by
  subst hn
  obtain ⟨⟨locs, X, hF⟩, e0, hn0, hx, hZ, hby, hml, hret, hlk, hown, hnm⟩ := S
  cases hc : if_icmp.holds cd u v
  · exact Go.step (fun _ t => XS.icmpNo X.here hx rfl (hb hby hd) rfl hc t) (kn (noC_of hc))
  · exact Go.step (fun _ t => XS.icmpYes X.here hx rfl rfl (hb hby hd) rfl hc ho hp t) (ky (yesC_of hc))
theorem px_if0 (S : St K Z R y bytes maxL ret n0 T h cl sl) {cd : ClassFile.Cond} {o : Int} {u : Int32} {pcn : Nat} (hd : decode bytes pc = .ok (.ifCond cd o, 3)) (ho : 0 ≤ (pc : Int) + o) (hp : ((pc : Int) + o).toNat = pc') (hn : pc + 3 = pcn)
    (ky : yesC cd u.toInt 0 → Go K R n0 Q T pc' L st) (kn : noC cd u.toInt 0 → Go K R n0 Q T pcn L st) : Go K R n0 Q T pc L (.int u :: st) := by
  subst hn
  obtain ⟨⟨locs, X, hF⟩, e0, hn0, hx, hZ, hby, hml, hret, hlk, hown, hnm⟩ := S
  cases hc : ifCond.holds cd u
  · exact Go.step (fun _ t => XS.ifNo X.here hx rfl (hb hby hd) rfl hc t) (kn (noC_of (y := 0) ((if0 cd u).symm.trans hc)))
  · exact Go.step (fun _ t => XS.ifYes X.here hx rfl rfl (hb hby hd) rfl hc ho hp t) (ky (yesC_of (y := 0) ((if0 cd u).symm.trans hc)))
theorem yesL {cd : ClassFile.Cond} {x y : Int64} (h : yesC cd (lcmpW x y).toInt 0) : yesC cd x.toInt y.toInt := by
  have q := c_lcmp x y
  cases cd <;> simp only [yesC] at h ⊢ <;> omega
theorem noL {cd : ClassFile.Cond} {x y : Int64} (h : noC cd (lcmpW x y).toInt 0) : noC cd x.toInt y.toInt := by
  have q := c_lcmp x y
  cases cd <;> simp only [noC] at h ⊢ <;> omega
theorem px_lif (S : St K Z R y bytes maxL ret n0 T h cl sl) {cd : ClassFile.Cond} {o : Int} {u v : Int64} {pc1 pcn : Nat} (hd1 : decode bytes pc = .ok (.lcmp, 1)) (hp1 : pc + 1 = pc1) (hd : decode bytes pc1 = .ok (.ifCond cd o, 3)) (ho : 0 ≤ (pc1 : Int) + o) (hp : ((pc1 : Int) + o).toNat = pc') (hn : pc1 + 3 = pcn)
    (ky : yesC cd u.toInt v.toInt → Go K R n0 Q T pc' L st) (kn : noC cd u.toInt v.toInt → Go K R n0 Q T pcn L st) : Go K R n0 Q T pc L (.long v :: .long u :: st) :=
  px_lcmp S hd1 hp1 (px_if0 S hd ho hp hn (fun q => ky (yesL q)) (fun q => kn (noL q)))
theorem px_ifnull (S : St K Z R y bytes maxL ret n0 T h cl sl) {o : Int} {a : Addr} (hd : decode bytes pc = .ok (.ifnull o, 3)) (hp : pc + 3 = pc') (k : Go K R n0 Q T pc' L st) : Go K R n0 Q T pc L (.ref a :: st) := by
  subst hp
  obtain ⟨⟨locs, X, hF⟩, e0, hn0, hx, hZ, hby, hml, hret, hlk, hown, hnm⟩ := S
  exact Go.step (fun _ t => XS.ifnullNo X.here hx rfl (hb hby hd) rfl t) k
theorem px_ifnullY (S : St K Z R y bytes maxL ret n0 T h cl sl) {o : Int} (hd : decode bytes pc = .ok (.ifnull o, 3)) (ho : 0 ≤ (pc : Int) + o) (hp : ((pc : Int) + o).toNat = pc') (k : Go K R n0 Q T pc' L st) : Go K R n0 Q T pc L (.null :: st) := by
  obtain ⟨⟨locs, X, hF⟩, e0, hn0, hx, hZ, hby, hml, hret, hlk, hown, hnm⟩ := S
  exact Go.step (fun _ t => XS.ifnullYes X.here hx rfl rfl (hb hby hd) rfl ho hp t) k
theorem px_ifnonnull (S : St K Z R y bytes maxL ret n0 T h cl sl) {o : Int} {a : Addr} (hd : decode bytes pc = .ok (.ifnonnull o, 3)) (ho : 0 ≤ (pc : Int) + o) (hp : ((pc : Int) + o).toNat = pc') (k : Go K R n0 Q T pc' L st) : Go K R n0 Q T pc L (.ref a :: st) := by
  obtain ⟨⟨locs, X, hF⟩, e0, hn0, hx, hZ, hby, hml, hret, hlk, hown, hnm⟩ := S
  exact Go.step (fun _ t => XS.ifnonnullYes X.here hx rfl rfl (hb hby hd) rfl ho hp t) k
theorem px_ifnonnullN (S : St K Z R y bytes maxL ret n0 T h cl sl) {o : Int} (hd : decode bytes pc = .ok (.ifnonnull o, 3)) (hp : pc + 3 = pc') (k : Go K R n0 Q T pc' L st) : Go K R n0 Q T pc L (.null :: st) := by
  subst hp
  obtain ⟨⟨locs, X, hF⟩, e0, hn0, hx, hZ, hby, hml, hret, hlk, hown, hnm⟩ := S
  exact Go.step (fun _ t => XS.ifnonnullNo X.here hx rfl (hb hby hd) rfl t) k
theorem px_ldcI (S : St K Z R y bytes maxL ret n0 T h cl sl) {idx : Nat} {v : Int32} (w : (Jvm.Cond.constant y.cls idx v).before a0 Z = true) (hd : decode bytes pc = .ok (.ldc idx, 2)) (hp : pc + 2 = pc') (k : Go K R n0 Q T pc' L (.int v :: st)) : Go K R n0 Q T pc L st := by
  subst hp
  obtain ⟨⟨locs, X, hF⟩, e0, hn0, hx, hZ, hby, hml, hret, hlk, hown, hnm⟩ := S
  exact Go.step (fun _ t => X.ldcInt hx hown (mvT hZ w) (g := mkF K.m pc L st) rfl (hb hby hd) _ t) k
theorem px_ldcwI (S : St K Z R y bytes maxL ret n0 T h cl sl) {idx : Nat} {v : Int32} (w : (Jvm.Cond.constant y.cls idx v).before a0 Z = true) (hd : decode bytes pc = .ok (.ldc_w idx, 3)) (hp : pc + 3 = pc') (k : Go K R n0 Q T pc' L (.int v :: st)) : Go K R n0 Q T pc L st := by
  subst hp
  obtain ⟨⟨locs, X, hF⟩, e0, hn0, hx, hZ, hby, hml, hret, hlk, hown, hnm⟩ := S
  exact Go.step (fun _ t => X.ldcwInt hx hown (mvT hZ w) (g := mkF K.m pc L st) rfl (hb hby hd) _ t) k
theorem px_ldc2 (S : St K Z R y bytes maxL ret n0 T h cl sl) {idx : Nat} {v : Int64} (w : (Jvm.Cond.constantLong y.cls idx v).before a0 Z = true) (hd : decode bytes pc = .ok (.ldc2_w idx, 3)) (hp : pc + 3 = pc') (k : Go K R n0 Q T pc' L (.long v :: st)) : Go K R n0 Q T pc L st := by
  subst hp
  obtain ⟨⟨locs, X, hF⟩, e0, hn0, hx, hZ, hby, hml, hret, hlk, hown, hnm⟩ := S
  exact Go.step (fun _ t => X.ldc2Long hx hown (mvT hZ w) (g := mkF K.m pc L st) rfl (hb hby hd) _ t) k
theorem px_ret {v : Option Value} (S : St K Z R y bytes maxL ret n0 T h cl sl) (hv : ret = none → v = none) (hc : cl ≤ R.cells) (hs : sl ≤ R.slots)
    (hd : ∀ (locs : List Loc) (fs : List Frame), Stand K.p K.l K.e R K.s K.m K.args K.below K.meth K.c T locs cl sl → K.p.tables.exec = Jvm.exec → K.c.code = bytes → K.meth.sig.returnType = ret → (∀ (f : JFrame) (acts : List Action), f.method = K.m → f.locked = none → f.entered = [] → (doReturn K.e (T.setTop f) acts v).1 = T.setFrames fs) → Steps K.p.tables K.e K.below (T.setTop (mkF K.m pc L st)) (T.setFrames fs))
    (hq : Q v h) : Go K R n0 Q T pc L st := by
  obtain ⟨⟨locs, X, hF⟩, e0, hn0, hx, hZ, hby, hml, hret, hlk, hown, hnm⟩ := S
  obtain ⟨fs, hr, hrun, hended, hW, hsame⟩ := X.leave (v := v) (fun q => hv (hret ▸ q)) hlk
  refine ⟨_, _, hd locs fs X hx hby hret hr, hrun, hended, _, _, rfl, ⟨?_, hF⟩, ⟨_, rfl⟩, hW, hsame.mono hc hs⟩
  show Q v T.heap
  rw [e0]; exact hq
theorem px_return (S : St K Z R y bytes maxL ret n0 T h cl sl) (hd : decode bytes pc = .ok (.return_, 1)) (hrt : ret = none) (hc : cl ≤ R.cells) (hs : sl ≤ R.slots) (hq : Q none h) : Go K R n0 Q T pc L [] :=
  px_ret S (fun _ => rfl) hc hs (fun _ _ X hx hby hret hr => X.returnOut hx (hret.trans hrt) (hb hby hd) hr) hq
theorem px_retN {t : FieldType} {z z' : Int32} (S : St K Z R y bytes maxL ret n0 T h cl sl) (hd : decode bytes pc = .ok (.ireturn, 1)) (hrt : ret = some t) (ht : t = .boolean ∨ t = .byte ∨ t = .char ∨ t = .short) (hz : nar t z = z') (hc : cl ≤ R.cells) (hs : sl ≤ R.slots) (hq : Q (some (.int z')) h) : Go K R n0 Q T pc L (.int z :: st) := by
  subst hz
  exact px_ret S (fun q => by rw [hrt] at q; cases q) hc hs (fun _ _ X hx hby hret hr => retN X hx (hret.trans hrt) ht (hb hby hd) hr) hq
theorem px_retI {z : Int32} (S : St K Z R y bytes maxL ret n0 T h cl sl) (hd : decode bytes pc = .ok (.ireturn, 1)) (hrt : ret = some .int) (hc : cl ≤ R.cells) (hs : sl ≤ R.slots) (hq : Q (some (.int z)) h) : Go K R n0 Q T pc L (.int z :: st) :=
  px_ret S (fun q => by rw [hrt] at q; cases q) hc hs (fun _ _ X hx hby hret hr => retOut X hx (hret.trans hrt) rfl (Or.inl ⟨rfl, Or.inl rfl, z, rfl⟩) (hb hby hd) hr) hq
theorem px_retJ {z : Int64} (S : St K Z R y bytes maxL ret n0 T h cl sl) (hd : decode bytes pc = .ok (.lreturn, 1)) (hrt : ret = some .long) (hc : cl ≤ R.cells) (hs : sl ≤ R.slots) (hq : Q (some (.long z)) h) : Go K R n0 Q T pc L (.long z :: st) :=
  px_ret S (fun q => by rw [hrt] at q; cases q) hc hs (fun _ _ X hx hby hret hr => retOut X hx (hret.trans hrt) rfl (Or.inr (Or.inl ⟨rfl, rfl, z, rfl⟩)) (hb hby hd) hr) hq
theorem narrow_ref {t : FieldType} {v : Value} (ht : t.isReference = true) : narrow t v = v := by cases t <;> simp [FieldType.isReference] at ht <;> cases v <;> rfl
theorem px_retA {t : FieldType} {v : Value} (S : St K Z R y bytes maxL ret n0 T h cl sl) (hd : decode bytes pc = .ok (.areturn, 1)) (hrt : ret = some t) (ht : t.isReference = true) (hv : v.isRef = true) (hc : cl ≤ R.cells) (hs : sl ≤ R.slots) (hq : Q (some v) h) : Go K R n0 Q T pc L (v :: st) :=
  px_ret S (fun q => by rw [hrt] at q; cases q) hc hs (fun _ _ X hx hby hret hr => retOut X hx (hret.trans hrt) (narrow_ref ht) (Or.inr (Or.inr (Or.inr (Or.inr ⟨rfl, ht, hv⟩)))) (hb hby hd) hr) hq
/-- an array of ints (or of bytes, chars, shorts, booleans) of n places that hold f 0 .. -/
def AI (Z : State) (h : Heap) (a : Addr) (ty : FieldType) (n : Nat) (f : Nat → Int32) : Prop := ∃ c : Cell, Arr Z h a c ty ∧ c.slots.size = n ∧ n < 2147483648 ∧ ∀ i, i < n → c.slots[i]? = some (.int (f i)) ∧ fits ty (.int (f i)) = true
def AJ (Z : State) (h : Heap) (a : Addr) (n : Nat) (f : Nat → Int64) : Prop := ∃ c : Cell, Arr Z h a c .long ∧ c.slots.size = n ∧ n < 2147483648 ∧ ∀ i, i < n → c.slots[i]? = some (.long (f i))
def updF {α : Type} (f : Nat → α) (i : Nat) (v : α) : Nat → α := fun j => if j = i then v else f j
theorem updF_same {α : Type} (f : Nat → α) (i : Nat) (v : α) : updF f i v i = v := by simp [updF]
theorem updF_ne {α : Type} (f : Nat → α) {i j : Nat} (v : α) (q : ¬ j = i) : updF f i v j = f j := by simp [updF, q]
variable {h' : Heap} {a b : Addr} {ty : FieldType} {n : Nat} {f : Nat → Int32} {fj : Nat → Int64}
theorem AI.lt (A : AI Z h a ty n f) : a < h.size := by obtain ⟨c, A, -⟩ := A; exact A.lt
theorem AJ.lt (A : AJ Z h a n fj) : a < h.size := by obtain ⟨c, A, -⟩ := A; exact A.lt
theorem AI.len (A : AI Z h a ty n f) : n < 2147483648 := by obtain ⟨c, -, -, q, -⟩ := A; exact q
theorem AJ.len (A : AJ Z h a n fj) : n < 2147483648 := by obtain ⟨c, -, -, q, -⟩ := A; exact q
theorem AI.ext (A : AI Z h a ty n f) (E : Ext h h') : AI Z h' a ty n f := by obtain ⟨c, A, r⟩ := A; exact ⟨c, A.ext E, r⟩
theorem AJ.ext (A : AJ Z h a n fj) (E : Ext h h') : AJ Z h' a n fj := by obtain ⟨c, A, r⟩ := A; exact ⟨c, A.ext E, r⟩
theorem AI.other {s0 : Nat} {v : Value} (A : AI Z h a ty n f) (W : Wr h h' b s0 v) (q : a ≠ b) : AI Z h' a ty n f := by obtain ⟨c, A, r⟩ := A; exact ⟨c, A.other W q, r⟩
theorem AJ.other {s0 : Nat} {v : Value} (A : AJ Z h a n fj) (W : Wr h h' b s0 v) (q : a ≠ b) : AJ Z h' a n fj := by obtain ⟨c, A, r⟩ := A; exact ⟨c, A.other W q, r⟩
theorem AI.keep {ws : List Addr} (A : AI Z h a ty n f) (W : Keep h h' ws) (q : a ∉ ws) : AI Z h' a ty n f := by obtain ⟨c, A, r⟩ := A; exact ⟨c, ⟨W.2.1 a c A.1 q, A.2⟩, r⟩
theorem AJ.keep {ws : List Addr} (A : AJ Z h a n fj) (W : Keep h h' ws) (q : a ∉ ws) : AJ Z h' a n fj := by obtain ⟨c, A, r⟩ := A; exact ⟨c, ⟨W.2.1 a c A.1 q, A.2⟩, r⟩
theorem AI.congr {g : Nat → Int32} (A : AI Z h a ty n f) (q : ∀ i, i < n → f i = g i) : AI Z h a ty n g := by obtain ⟨c, A, r1, r2, r3⟩ := A; exact ⟨c, A, r1, r2, fun i hi => by rw [← q i hi]; exact r3 i hi⟩
theorem AJ.congr {g : Nat → Int64} (A : AJ Z h a n fj) (q : ∀ i, i < n → fj i = g i) : AJ Z h a n g := by obtain ⟨c, A, r1, r2, r3⟩ := A; exact ⟨c, A, r1, r2, fun i hi => by rw [r3 i hi, q i hi]⟩
theorem clampI {j : Int32} {i : Nat} (hj : j.toInt = (i : Int)) : j.toNatClampNeg = i := by
  have q : j.toNatClampNeg = j.toInt.toNat := rfl
  rw [q, hj]; rfl
theorem inbI {c : Cell} {j : Int32} {i : Nat} (hj : j.toInt = (i : Int)) (hi : i < c.slots.size) : ¬ (j < 0 ∨ c.slots.size ≤ j.toNatClampNeg) := by
  rw [clampI hj]
  intro q
  rcases q with q | q
  · have q2 := Int32.lt_iff_toInt_lt.mp q
    have z : (0 : Int32).toInt = 0 := rfl
    omega
  · omega
theorem AI.same {c : Cell} {i : Nat} {v : Int32} (A : Arr Z h a c ty) (h1 : c.slots.size = n) (h2 : n < 2147483648) (h3 : ∀ i, i < n → c.slots[i]? = some (.int (f i)) ∧ fits ty (.int (f i)) = true) (W : Wr h h' a i (.int v)) (hi : i < n) (hft : fits ty (.int v) = true) : AI Z h' a ty n (updF f i v) := by
  refine ⟨_, A.same W, by simp [Cell.setSlot, h1], h2, fun j hj => ?_⟩
  by_cases q : j = i
  · subst q
    rw [updF_same]
    exact ⟨by simp [Cell.setSlot, h1, hj], hft⟩
  · rw [updF_ne _ _ q]
    have q' : ¬ i = j := fun e => q e.symm
    exact ⟨by simp [Cell.setSlot, Array.getElem?_setIfInBounds, q', (h3 j hj).1], (h3 j hj).2⟩
theorem AJ.same {c : Cell} {i : Nat} {v : Int64} (A : Arr Z h a c .long) (h1 : c.slots.size = n) (h2 : n < 2147483648) (h3 : ∀ i, i < n → c.slots[i]? = some (.long (fj i))) (W : Wr h h' a i (.long v)) (hi : i < n) : AJ Z h' a n (updF fj i v) := by
  refine ⟨_, A.same W, by simp [Cell.setSlot, h1], h2, fun j hj => ?_⟩
  by_cases q : j = i
  · subst q
    rw [updF_same]
    simp [Cell.setSlot, h1, hj]
  · rw [updF_ne _ _ q]
    have q' : ¬ i = j := fun e => q e.symm
    simp [Cell.setSlot, Array.getElem?_setIfInBounds, q', h3 j hj]
theorem px_iaload (S : St K Z R y bytes maxL ret n0 T h cl sl) (A : AI Z h a .int n f) {j v : Int32} {i : Nat} (hj : j.toInt = (i : Int)) (hi : i < n) (hv : f i = v) (hd : decode bytes pc = .ok (.iaload, 1)) (hp : pc + 1 = pc') (k : Go K R n0 Q T pc' L (.int v :: st)) : Go K R n0 Q T pc L (.int j :: .ref a :: st) := by
  subst hp
  subst hv
  obtain ⟨⟨locs, X, hF⟩, e0, hn0, hx, hZ, hby, hml, hret, hlk, hown, hnm⟩ := S
  obtain ⟨c, A, h1, h2, h3⟩ := A
  exact Go.step (fun _ t => X.iaload hx (j := j) (v := .int (f i)) (by rw [e0]; exact A.1) (State.isArrayOf_alike hZ.alike A.2.1) A.2.2 (inbI hj (h1 ▸ hi)) (by rw [clampI hj]; exact (h3 i hi).1) (g := mkF K.m pc L (.int j :: .ref a :: st)) rfl rfl (hb hby hd) _ t) k
theorem px_caload (S : St K Z R y bytes maxL ret n0 T h cl sl) (A : AI Z h a .char n f) {j v : Int32} {i : Nat} (hj : j.toInt = (i : Int)) (hi : i < n) (hv : f i = v) (hd : decode bytes pc = .ok (.caload, 1)) (hp : pc + 1 = pc') (k : Go K R n0 Q T pc' L (.int v :: st)) : Go K R n0 Q T pc L (.int j :: .ref a :: st) := by
  subst hp
  subst hv
  obtain ⟨⟨locs, X, hF⟩, e0, hn0, hx, hZ, hby, hml, hret, hlk, hown, hnm⟩ := S
  obtain ⟨c, A, h1, h2, h3⟩ := A
  exact Go.step (fun _ t => X.caload hx (j := j) (v := .int (f i)) (by rw [e0]; exact A.1) (State.isArrayOf_alike hZ.alike A.2.1) A.2.2 (inbI hj (h1 ▸ hi)) (by rw [clampI hj]; exact (h3 i hi).1) (g := mkF K.m pc L (.int j :: .ref a :: st)) rfl rfl (hb hby hd) _ t) k
theorem px_saload (S : St K Z R y bytes maxL ret n0 T h cl sl) (A : AI Z h a .short n f) {j v : Int32} {i : Nat} (hj : j.toInt = (i : Int)) (hi : i < n) (hv : f i = v) (hd : decode bytes pc = .ok (.saload, 1)) (hp : pc + 1 = pc') (k : Go K R n0 Q T pc' L (.int v :: st)) : Go K R n0 Q T pc L (.int j :: .ref a :: st) := by
  subst hp
  subst hv
  obtain ⟨⟨locs, X, hF⟩, e0, hn0, hx, hZ, hby, hml, hret, hlk, hown, hnm⟩ := S
  obtain ⟨c, A, h1, h2, h3⟩ := A
  exact Go.step (fun _ t => X.saload hx (j := j) (v := .int (f i)) (by rw [e0]; exact A.1) (State.isArrayOf_alike hZ.alike A.2.1) A.2.2 (inbI hj (h1 ▸ hi)) (by rw [clampI hj]; exact (h3 i hi).1) (g := mkF K.m pc L (.int j :: .ref a :: st)) rfl rfl (hb hby hd) _ t) k
theorem px_baload (S : St K Z R y bytes maxL ret n0 T h cl sl) (A : AI Z h a .byte n f) {j v : Int32} {i : Nat} (hj : j.toInt = (i : Int)) (hi : i < n) (hv : f i = v) (hd : decode bytes pc = .ok (.baload, 1)) (hp : pc + 1 = pc') (k : Go K R n0 Q T pc' L (.int v :: st)) : Go K R n0 Q T pc L (.int j :: .ref a :: st) := by
  subst hp
  subst hv
  obtain ⟨⟨locs, X, hF⟩, e0, hn0, hx, hZ, hby, hml, hret, hlk, hown, hnm⟩ := S
  obtain ⟨c, A, h1, h2, h3⟩ := A
  exact Go.step (fun _ t => X.baloadBytes hx (j := j) (v := .int (f i)) (by rw [e0]; exact A.1) (State.isArrayOf_alike hZ.alike A.2.1) A.2.2 (inbI hj (h1 ▸ hi)) (by rw [clampI hj]; exact (h3 i hi).1) (g := mkF K.m pc L (.int j :: .ref a :: st)) rfl rfl (hb hby hd) _ t) k
theorem px_laload (S : St K Z R y bytes maxL ret n0 T h cl sl) (A : AJ Z h a n fj) {j : Int32} {v : Int64} {i : Nat} (hj : j.toInt = (i : Int)) (hi : i < n) (hv : fj i = v) (hd : decode bytes pc = .ok (.laload, 1)) (hp : pc + 1 = pc') (k : Go K R n0 Q T pc' L (.long v :: st)) : Go K R n0 Q T pc L (.int j :: .ref a :: st) := by
  subst hp
  subst hv
  obtain ⟨⟨locs, X, hF⟩, e0, hn0, hx, hZ, hby, hml, hret, hlk, hown, hnm⟩ := S
  obtain ⟨c, A, h1, h2, h3⟩ := A
  exact Go.step (fun _ t => X.laload hx (j := j) (v := .long (fj i)) (by rw [e0]; exact A.1) (State.isArrayOf_alike hZ.alike A.2.1) A.2.2 (inbI hj (h1 ▸ hi)) (by rw [clampI hj]; exact h3 i hi) (g := mkF K.m pc L (.int j :: .ref a :: st)) rfl rfl (hb hby hd) _ t) k
theorem len32 {c : Cell} (h1 : c.slots.size = n) (h2 : n < 2147483648) {v : Int32} (hv : v.toInt = (n : Int)) : c.slots.size.toInt32 = v := by
  rw [h1]
  apply Int32.toInt_inj.mp
  rw [hv]
  have := Int32.toInt_ofNat_of_lt (n := n) h2
  exact this
theorem px_alenI (S : St K Z R y bytes maxL ret n0 T h cl sl) (A : AI Z h a ty n f) {v : Int32} (hv : v.toInt = (n : Int)) (hd : decode bytes pc = .ok (.arraylength, 1)) (hp : pc + 1 = pc') (k : Go K R n0 Q T pc' L (.int v :: st)) : Go K R n0 Q T pc L (.ref a :: st) := by
  subst hp
  obtain ⟨⟨locs, X, hF⟩, e0, hn0, hx, hZ, hby, hml, hret, hlk, hown, hnm⟩ := S
  obtain ⟨c, A, h1, h2, h3⟩ := A
  refine Go.step (fun _ t => X.arraylength hx (by rw [e0]; exact A.1) (State.isArrayOf_alike hZ.alike A.2.1) (g := mkF K.m pc L (.ref a :: st)) rfl rfl (hb hby hd) _ t) ?_
  rw [len32 h1 h2 hv]
  exact k
theorem px_alenJ (S : St K Z R y bytes maxL ret n0 T h cl sl) (A : AJ Z h a n fj) {v : Int32} (hv : v.toInt = (n : Int)) (hd : decode bytes pc = .ok (.arraylength, 1)) (hp : pc + 1 = pc') (k : Go K R n0 Q T pc' L (.int v :: st)) : Go K R n0 Q T pc L (.ref a :: st) := by
  subst hp
  obtain ⟨⟨locs, X, hF⟩, e0, hn0, hx, hZ, hby, hml, hret, hlk, hown, hnm⟩ := S
  obtain ⟨c, A, h1, h2, h3⟩ := A
  refine Go.step (fun _ t => X.arraylength hx (by rw [e0]; exact A.1) (State.isArrayOf_alike hZ.alike A.2.1) (g := mkF K.m pc L (.ref a :: st)) rfl rfl (hb hby hd) _ t) ?_
  rw [len32 h1 h2 hv]
  exact k
theorem px_iastore (S : St K Z R y bytes maxL ret n0 T h cl sl) (A : AI Z h a .int n f) (ha : n0 ≤ a) {j u v : Int32} {i : Nat} (hj : j.toInt = (i : Int)) (hi : i < n) (hv : u = v) (hd : decode bytes pc = .ok (.iastore, 1)) (hp : pc + 1 = pc')
    (k : ∀ (T' : State) (h' : Heap), St K Z R y bytes maxL ret n0 T' h' cl sl → Wr h h' a i (.int v) → AI Z h' a .int n (updF f i v) → Go K R n0 Q T' pc' L st) : Go K R n0 Q T pc L (.int u :: .int j :: .ref a :: st) := by
  subst hp
  subst hv
  obtain ⟨⟨locs, X, hF⟩, e0, hn0, hx, hZ, hby, hml, hret, hlk, hown, hnm⟩ := S
  obtain ⟨c, A, h1, h2, h3⟩ := A
  obtain ⟨T', h', X', e', W, stp⟩ := stI X hx hZ e0 A (j := j) (inbI hj (h1 ▸ hi)) (g := mkF K.m pc L (.int u :: .int j :: .ref a :: st)) rfl rfl (hb hby hd)
  have hF' := Fr.snoc X' hF ha
  rw [clampI hj] at W
  exact Go.step stp (k T' h' ⟨⟨_, X', hF'⟩, e', hn0, hx, hZ, hby, hml, hret, hlk, hown, hnm⟩ W (AI.same A h1 h2 h3 W hi rfl))
theorem px_castore (S : St K Z R y bytes maxL ret n0 T h cl sl) (A : AI Z h a .char n f) (ha : n0 ≤ a) {j u v : Int32} {i : Nat} (hj : j.toInt = (i : Int)) (hi : i < n) (hv : (nar .char u) = v) (hd : decode bytes pc = .ok (.castore, 1)) (hp : pc + 1 = pc')
    (k : ∀ (T' : State) (h' : Heap), St K Z R y bytes maxL ret n0 T' h' cl sl → Wr h h' a i (.int v) → AI Z h' a .char n (updF f i v) → Go K R n0 Q T' pc' L st) : Go K R n0 Q T pc L (.int u :: .int j :: .ref a :: st) := by
  subst hp
  subst hv
  obtain ⟨⟨locs, X, hF⟩, e0, hn0, hx, hZ, hby, hml, hret, hlk, hown, hnm⟩ := S
  obtain ⟨c, A, h1, h2, h3⟩ := A
  obtain ⟨T', h', X', e', W, stp⟩ := stC X hx hZ e0 A (j := j) (inbI hj (h1 ▸ hi)) (g := mkF K.m pc L (.int u :: .int j :: .ref a :: st)) rfl rfl (hb hby hd)
  have hF' := Fr.snoc X' hF ha
  rw [clampI hj] at W
  exact Go.step stp (k T' h' ⟨⟨_, X', hF'⟩, e', hn0, hx, hZ, hby, hml, hret, hlk, hown, hnm⟩ W (AI.same A h1 h2 h3 W hi (fits_nar_char _)))
theorem px_sastore (S : St K Z R y bytes maxL ret n0 T h cl sl) (A : AI Z h a .short n f) (ha : n0 ≤ a) {j u v : Int32} {i : Nat} (hj : j.toInt = (i : Int)) (hi : i < n) (hv : (nar .short u) = v) (hd : decode bytes pc = .ok (.sastore, 1)) (hp : pc + 1 = pc')
    (k : ∀ (T' : State) (h' : Heap), St K Z R y bytes maxL ret n0 T' h' cl sl → Wr h h' a i (.int v) → AI Z h' a .short n (updF f i v) → Go K R n0 Q T' pc' L st) : Go K R n0 Q T pc L (.int u :: .int j :: .ref a :: st) := by
  subst hp
  subst hv
  obtain ⟨⟨locs, X, hF⟩, e0, hn0, hx, hZ, hby, hml, hret, hlk, hown, hnm⟩ := S
  obtain ⟨c, A, h1, h2, h3⟩ := A
  obtain ⟨T', h', X', e', W, stp⟩ := stS X hx hZ e0 A (j := j) (inbI hj (h1 ▸ hi)) (g := mkF K.m pc L (.int u :: .int j :: .ref a :: st)) rfl rfl (hb hby hd)
  have hF' := Fr.snoc X' hF ha
  rw [clampI hj] at W
  exact Go.step stp (k T' h' ⟨⟨_, X', hF'⟩, e', hn0, hx, hZ, hby, hml, hret, hlk, hown, hnm⟩ W (AI.same A h1 h2 h3 W hi (fits_nar_short _)))
theorem px_bastore (S : St K Z R y bytes maxL ret n0 T h cl sl) (A : AI Z h a .byte n f) (ha : n0 ≤ a) {j u v : Int32} {i : Nat} (hj : j.toInt = (i : Int)) (hi : i < n) (hv : (nar .byte u) = v) (hd : decode bytes pc = .ok (.bastore, 1)) (hp : pc + 1 = pc')
    (k : ∀ (T' : State) (h' : Heap), St K Z R y bytes maxL ret n0 T' h' cl sl → Wr h h' a i (.int v) → AI Z h' a .byte n (updF f i v) → Go K R n0 Q T' pc' L st) : Go K R n0 Q T pc L (.int u :: .int j :: .ref a :: st) := by
  subst hp
  subst hv
  obtain ⟨⟨locs, X, hF⟩, e0, hn0, hx, hZ, hby, hml, hret, hlk, hown, hnm⟩ := S
  obtain ⟨c, A, h1, h2, h3⟩ := A
  obtain ⟨T', h', X', e', W, stp⟩ := stB X hx hZ e0 A (j := j) (inbI hj (h1 ▸ hi)) (g := mkF K.m pc L (.int u :: .int j :: .ref a :: st)) rfl rfl (hb hby hd)
  have hF' := Fr.snoc X' hF ha
  rw [clampI hj] at W
  exact Go.step stp (k T' h' ⟨⟨_, X', hF'⟩, e', hn0, hx, hZ, hby, hml, hret, hlk, hown, hnm⟩ W (AI.same A h1 h2 h3 W hi (fits_nar_byte _)))
theorem px_lastore (S : St K Z R y bytes maxL ret n0 T h cl sl) (A : AJ Z h a n fj) (ha : n0 ≤ a) {j : Int32} {u : Int64} {i : Nat} (hj : j.toInt = (i : Int)) (hi : i < n) (hd : decode bytes pc = .ok (.lastore, 1)) (hp : pc + 1 = pc')
    (k : ∀ (T' : State) (h' : Heap), St K Z R y bytes maxL ret n0 T' h' cl sl → Wr h h' a i (.long u) → AJ Z h' a n (updF fj i u) → Go K R n0 Q T' pc' L st) : Go K R n0 Q T pc L (.long u :: .int j :: .ref a :: st) := by
  subst hp
  obtain ⟨⟨locs, X, hF⟩, e0, hn0, hx, hZ, hby, hml, hret, hlk, hown, hnm⟩ := S
  obtain ⟨c, A, h1, h2, h3⟩ := A
  obtain ⟨T', h', X', e', W, stp⟩ := stJ X hx hZ e0 A (j := j) (inbI hj (h1 ▸ hi)) (g := mkF K.m pc L (.long u :: .int j :: .ref a :: st)) rfl rfl (hb hby hd)
  have hF' := Fr.snoc X' hF ha
  rw [clampI hj] at W
  exact Go.step stp (k T' h' ⟨⟨_, X', hF'⟩, e', hn0, hx, hZ, hby, hml, hret, hlk, hown, hnm⟩ W (AJ.same A h1 h2 h3 W hi))
theorem nneg {u : Int32} (hu : u.toInt = (n : Int)) : ¬ u < 0 := fun q => by
  have q2 := Int32.lt_iff_toInt_lt.mp q
  have z : (0 : Int32).toInt = 0 := rfl
  omega
theorem small {u : Int32} (hu : u.toInt = (n : Int)) : n < 2147483648 := by
  have := (rng32 u).2
  omega
theorem px_newarr {aty : ArrayType} (S : St K Z R y bytes maxL ret n0 T h cl sl) (w : (Jvm.Cond.arrayClass (newarray.typeOf aty)).before a0 Z = true) (hdv : defaultValue (newarray.typeOf aty) = .int 0) {u : Int32} {cap : Nat} (hu : u.toInt = (n : Int)) (hcap : n ≤ cap) (hb8 : cap * 8 ≤ 536870912) (hc : cl + 1 ≤ R.cells) (hs : sl + cap ≤ R.slots)
    (hd : decode bytes pc = .ok (.newarray aty, 2)) (hp : pc + 2 = pc')
    (k : ∀ (T' : State) (h' : Heap) (a : Addr), a = h.size → n0 ≤ a → St K Z R y bytes maxL ret n0 T' h' (cl + 1) (sl + cap) → Ext h h' → AI Z h' a (newarray.typeOf aty) n (fun _ => 0) → Go K R n0 Q T' pc' L (.ref a :: st)) : Go K R n0 Q T pc L (.int u :: st) := by
  subst hp
  have hsz := S.size
  obtain ⟨⟨locs, X, hF⟩, e0, hn0, hx, hZ, hby, hml, hret, hlk, hown, hnm⟩ := S
  obtain ⟨T', h', cA, X', e', E, A, stp⟩ := newP X hx hZ w e0 (g := mkF K.m pc L (.int u :: st)) rfl (hb hby hd) rfl (nneg hu) (cap := cap) (by rw [clampI hu]; exact hcap) hb8 hc hs
  refine Go.step stp (k T' h' h.size rfl hsz ⟨⟨_, X', hF⟩, e', hn0, hx, hZ, hby, hml, hret, hlk, hown, hnm⟩ E ⟨_, A, by rw [sz_new, clampI hu], small hu, fun i hi => ⟨?_, ?_⟩⟩)
  · simp [newA, clampI hu, hi, hdv]
  · rw [← hdv]; cases aty <;> first | rfl | (simp [newarray.typeOf, defaultValue] at hdv)
theorem px_newarrJ (S : St K Z R y bytes maxL ret n0 T h cl sl) (w : (Jvm.Cond.arrayClass FieldType.long).before a0 Z = true) {u : Int32} {cap : Nat} (hu : u.toInt = (n : Int)) (hcap : n ≤ cap) (hb8 : cap * 8 ≤ 536870912) (hc : cl + 1 ≤ R.cells) (hs : sl + cap ≤ R.slots)
    (hd : decode bytes pc = .ok (.newarray .long, 2)) (hp : pc + 2 = pc')
    (k : ∀ (T' : State) (h' : Heap) (a : Addr), a = h.size → n0 ≤ a → St K Z R y bytes maxL ret n0 T' h' (cl + 1) (sl + cap) → Ext h h' → AJ Z h' a n (fun _ => 0) → Go K R n0 Q T' pc' L (.ref a :: st)) : Go K R n0 Q T pc L (.int u :: st) := by
  subst hp
  have hsz := S.size
  obtain ⟨⟨locs, X, hF⟩, e0, hn0, hx, hZ, hby, hml, hret, hlk, hown, hnm⟩ := S
  obtain ⟨T', h', cA, X', e', E, A, stp⟩ := newP X hx hZ (aty := .long) w e0 (g := mkF K.m pc L (.int u :: st)) rfl (hb hby hd) rfl (nneg hu) (cap := cap) (by rw [clampI hu]; exact hcap) hb8 hc hs
  refine Go.step stp (k T' h' h.size rfl hsz ⟨⟨_, X', hF⟩, e', hn0, hx, hZ, hby, hml, hret, hlk, hown, hnm⟩ E ⟨_, A, by rw [sz_new, clampI hu], small hu, fun i hi => ?_⟩)
  simp [newA, clampI hu, hi, defaultValue, newarray.typeOf]
theorem px_new {C : String} {idx k0 : Nat} (S : St K Z R y bytes maxL ret n0 T h cl sl) (w : (Jvm.Cond.classLink y.cls idx C).before a0 Z = true) (wi : (Jvm.Cond.instantiable C k0).before a0 Z = true) (wz : (Jvm.Cond.initialized C).before a0 Z = true) (hc : cl + 1 ≤ R.cells) (hs : sl + k0 ≤ R.slots) (hd : decode bytes pc = .ok (.new idx, 3)) (hp : pc + 3 = pc')
    (k : ∀ (T' : State) (h' : Heap) (a : Addr), a = h.size → n0 ≤ a → St K Z R y bytes maxL ret n0 T' h' (cl + 1) (sl + k0) → Ext h h' → Exa Z h' a C → (∀ {O nm d : String} {ty : FieldType}, Laid Z a0 C O nm d → parseFieldDescriptor d = some ty → Fld Z h' a O nm d (defaultValue ty)) → Go K R n0 Q T' pc' L (.ref a :: st)) : Go K R n0 Q T pc L st := by
  subst hp
  have hsz := S.size
  obtain ⟨⟨locs, X, hF⟩, e0, hn0, hx, hZ, hby, hml, hret, hlk, hown, hnm⟩ := S
  obtain ⟨T', h', X', e', E, A, D, -, stp⟩ := newO X hx hZ hown w wi wz e0 (g := mkF K.m pc L st) rfl (hb hby hd) hc hs
  exact Go.step stp (k T' h' h.size rfl hsz ⟨⟨_, X', hF⟩, e', hn0, hx, hZ, hby, hml, hret, hlk, hown, hnm⟩ E A (fun {O nm d ty} => D))
theorem px_getfield {C nm d : String} {idx : Nat} {v : Value} (S : St K Z R y bytes maxL ret n0 T h cl sl) (w : (Jvm.Cond.fieldLink y.cls idx C nm d).before a0 Z = true) (F : Fld Z h a C nm d v) (hd : decode bytes pc = .ok (.getfield idx, 3)) (hp : pc + 3 = pc')
    (k : ∀ (T' : State), St K Z R y bytes maxL ret n0 T' h cl sl → Go K R n0 Q T' pc' L (v :: st)) : Go K R n0 Q T pc L (.ref a :: st) := by
  subst hp
  obtain ⟨⟨locs, X, hF⟩, e0, hn0, hx, hZ, hby, hml, hret, hlk, hown, hnm⟩ := S
  obtain ⟨T', X', e', stp⟩ := getF X hx hZ hown (host := "") (Or.inl w) Via.refl e0 F (g := mkF K.m pc L (.ref a :: st)) rfl rfl (hb hby hd)
  exact Go.step stp (k T' ⟨⟨_, X', hF⟩, e', hn0, hx, hZ, hby, hml, hret, hlk, hown, hnm⟩)
theorem px_putfield {C nm d : String} {idx kk : Nat} {v v' old : Value} {ty : FieldType} (S : St K Z R y bytes maxL ret n0 T h cl sl) (w : (Jvm.Cond.fieldLink y.cls idx C nm d).before a0 Z = true) (F : Fld Z h a C nm d old) (E : Exa Z h a C) (ha : n0 ≤ a)
    (hl : (Jvm.Cond.lays C C nm d).before a0 Z = true ∨ ((Jvm.Cond.laysFinal C C nm d).before a0 Z = true ∧ y.cls = C ∧ y.name = "<init>")) (wi : (Jvm.Cond.instantiable C kk).before a0 Z = true) (hty : parseFieldDescriptor d = some ty) (hv : narrow ty v = v') (hf : fits ty v' = true) (hd : decode bytes pc = .ok (.putfield idx, 3)) (hp : pc + 3 = pc')
    (k : ∀ (T' : State) (h' : Heap), St K Z R y bytes maxL ret n0 T' h' cl sl → Wr h h' a (Jvm.RoadKit.slotOf Z C nm d) v' → Fld Z h' a C nm d v' → Exa Z h' a C → Go K R n0 Q T' pc' L st) : Go K R n0 Q T pc L (v :: .ref a :: st) := by
  subst hp
  obtain ⟨⟨locs, X, hF⟩, e0, hn0, hx, hZ, hby, hml, hret, hlk, hown, hnm⟩ := S
  obtain ⟨T', h', X', e', W, stp⟩ := putFN X hx hZ hown w Via.refl e0 F E (hl.imp id fun q => ⟨q.1, q.2.1, hnm.trans q.2.2⟩) wi hty hv hf (g := mkF K.m pc L (v :: .ref a :: st)) rfl rfl (hb hby hd)
  have hF' := Fr.snoc X' hF ha
  exact Go.step stp (k T' h' ⟨⟨_, X', hF'⟩, e', hn0, hx, hZ, hby, hml, hret, hlk, hown, hnm⟩ W (F.same W) (E.wr W))
theorem px_initO {idx W : Nat} (S : St K Z R y bytes maxL ret n0 T h cl sl) (w1 : (Jvm.Cond.methodLink y.cls idx Lib.objectInit).before a0 Z = true) (w2 : (Jvm.Cond.instanceMethod Lib.objectInit).before a0 Z = true) (w3 : (Jvm.Cond.code Lib.objectInit ⟨#[0xb1]⟩ 1 none).before a0 Z = true) (hL : L.size = maxL) (hfr : 1 ≤ R.frames) (hW : (st.map fun v => v.category).sum = W) (hlo : W + 12 ≤ R.locals) (hd : decode bytes pc = .ok (.invokespecial idx, 3)) (hp : pc + 3 = pc')
    (k : ∀ (T' : State), St K Z R y bytes maxL ret n0 T' h cl sl → Go K R n0 Q T' pc' L st) : Go K R n0 Q T pc L (.ref a :: st) := by
  subst hp
  obtain ⟨⟨locs, X, hF⟩, e0, hn0, hx, hZ, hby, hml, hret, hlk, hown, hnm⟩ := S
  obtain ⟨T', X', e', stp⟩ := initO X hx hZ hown w1 w2 w3 e0 (g := mkF K.m pc L (.ref a :: st)) rfl (hL.trans hml.symm) rfl (hb hby hd) hfr (W := W) (by show 2 * 0 + _ ≤ _; rw [hW]; omega) hlo
  exact Go.step stp (k T' ⟨⟨_, X', hF⟩, e', hn0, hx, hZ, hby, hml, hret, hlk, hown, hnm⟩)
theorem px_callS {y' : MethodName} {b' : ByteArray} {mx' : Nat} {rt' : Option FieldType} {rm : Room} {as' : List Value} {Q' : Option Value → Heap → Prop} {W idx : Nat} {ps : List FieldType} {rr : Option FieldType} (S : St K Z R y bytes maxL ret n0 T h cl sl) (C : Ctr Z n0 y' b' mx' rt' rm as' h Q') (w1 : (Jvm.Cond.methodLink y.cls idx y').before a0 Z = true) (w2 : (Jvm.Cond.static y').before a0 Z = true) (w3 : (Jvm.Cond.initialized y'.cls).before a0 Z = true) (w4 : (Jvm.Cond.code y' b' mx' rt').before a0 Z = true) (hy : y'.cls ≠ "java/lang/invoke/MethodHandle" ∧ y'.cls ≠ "java/lang/invoke/VarHandle")
    (hps : parseMethodDescriptor y'.desc = some ⟨ps, rr⟩) (hlen : as'.length = ps.length) (hL : L.size = maxL) (hfr : rm.frames + 1 ≤ R.frames) (hW : (st.map fun v => v.category).sum = W) (hlo : W + (mx' + 11) + rm.locals ≤ R.locals) (hc : cl + rm.cells ≤ R.cells) (hs : sl + rm.slots ≤ R.slots) (hd : decode bytes pc = .ok (.invokestatic idx, 3)) (hp : pc + 3 = pc') {stk : List Value} (hst : stk = as'.reverse ++ st)
    (k : ∀ (T' : State) (h' : Heap) (v : Option Value), St K Z R y bytes maxL ret n0 T' h' (cl + rm.cells) (sl + rm.slots) → Q' v h' → Go K R n0 Q T' pc' L (v.toList ++ st)) : Go K R n0 Q T pc L stk := by
  subst hp
  subst hst
  obtain ⟨⟨locs, X, hF⟩, e0, hn0, hx, hZ, hby, hml, hret, hlk, hown, hnm⟩ := S
  obtain ⟨v, _, ⟨T1, L1, c1, n1⟩, -, X1, ⟨Lc, hq, hl1, hc1, hs1⟩, stp⟩ := Jvm.LawKit.callS X hx (y := y') hown (mvT hZ w1) (mvT hZ w2) (mvT hZ w3) (mvT hZ w4) hy (backOf (Q := fun v h' L => Q' v h' ∧ Fr n0 L) (W := W) (C K.l []) hZ w4 w3 hfr hlo) (g := mkF K.m pc L (as'.reverse ++ st)) rfl (hL.trans hml.symm) (argsL := as') (rest := st) (lenOf hps hlen) rfl (by show 2 * 0 + _ ≤ _; rw [hW]; omega) (hb hby hd) (fun _ _ => ⟨rfl, e0, hc, hs⟩)
  dsimp only [Pt.U, Pt.locs, Pt.cells, Pt.slots] at X1 hl1 hc1 hs1 stp hq
  subst hl1 hc1 hs1
  obtain ⟨hq, hFc⟩ := hq
  exact Go.step stp (k T1 T1.heap v ⟨⟨_, X1, Fr.app hF hFc⟩, rfl, hn0, hx, hZ, hby, hml, hret, hlk, hown, hnm⟩ hq)
theorem Go.trans {T' : State} {st' : List Value} (hs : Steps K.p.tables K.e K.below (T.setTop (mkF K.m pc L st)) (T'.setTop (mkF K.m pc' L' st'))) (k : Go K R n0 Q T' pc' L' st') : Go K R n0 Q T pc L st := by
  obtain ⟨s₂, o, h1, r⟩ := k
  exact ⟨s₂, o, hs.trans h1, r⟩
theorem px_callC {y' : MethodName} {b' : ByteArray} {mx' : Nat} {rm : Room} {as' : List Value} {Q' : Option Value → Heap → Prop} {W idx : Nat} {ps : List FieldType} {rr : Option FieldType} (S : St K Z R y bytes maxL ret n0 T h cl sl) (C : Ctr Z n0 y' b' mx' none rm (.ref a :: as') h Q') (hin : y'.name = "<init>") (w1 : (Jvm.Cond.methodLink y.cls idx y').before a0 Z = true) (w2 : (Jvm.Cond.instanceMethod y').before a0 Z = true) (w3 : (Jvm.Cond.initialized y'.cls).before a0 Z = true) (w4 : (Jvm.Cond.code y' b' mx' none).before a0 Z = true) (hy : y'.cls ≠ "java/lang/invoke/MethodHandle" ∧ y'.cls ≠ "java/lang/invoke/VarHandle")
    (hps : parseMethodDescriptor y'.desc = some ⟨ps, rr⟩) (hlen : as'.length = ps.length) (hL : L.size = maxL) (hfr : rm.frames + 1 ≤ R.frames) (hW : (st.map fun v => v.category).sum = W) (hlo : W + (mx' + 11) + rm.locals ≤ R.locals) (hc : cl + rm.cells ≤ R.cells) (hs : sl + rm.slots ≤ R.slots) (hd : decode bytes pc = .ok (.invokespecial idx, 3)) (hp : pc + 3 = pc') {stk : List Value} (hst : stk = as'.reverse ++ .ref a :: st)
    (k : ∀ (T' : State) (h' : Heap) (v : Option Value), St K Z R y bytes maxL ret n0 T' h' (cl + rm.cells) (sl + rm.slots) → Q' v h' → Go K R n0 Q T' pc' L (v.toList ++ st)) : Go K R n0 Q T pc L stk := by
  subst hp
  subst hst
  obtain ⟨⟨locs, X, hF⟩, e0, hn0, hx, hZ, hby, hml, hret, hlk, hown, hnm⟩ := S
  obtain ⟨v, _, ⟨T1, L1, c1, n1⟩, -, X1, ⟨Lc, hq, hl1, hc1, hs1⟩, stp⟩ := X.specialBack hx (y := y') hin hown (mvT hZ w1) (mvT hZ w2) (mvT hZ w4) hy (backOf (Q := fun v h' L => Q' v h' ∧ Fr n0 L) (W := W) (C K.l []) hZ w4 w3 hfr hlo) (g := mkF K.m pc L (as'.reverse ++ .ref a :: st)) rfl (hL.trans hml.symm) (Steps.refl _) (a := a) (argsL := as') (rest := st) (lenOf hps hlen) rfl (by show 2 * 0 + _ ≤ _; rw [hW]; omega) (hb hby hd) (fun _ _ => ⟨rfl, e0, hc, hs⟩)
  dsimp only [Pt.U, Pt.locs, Pt.cells, Pt.slots] at X1 hl1 hc1 hs1 stp hq
  subst hl1 hc1 hs1
  obtain ⟨hq, hFc⟩ := hq
  exact Go.trans stp (k T1 T1.heap v ⟨⟨_, X1, Fr.app hF hFc⟩, rfl, hn0, hx, hZ, hby, hml, hret, hlk, hown, hnm⟩ hq)
theorem px_callV {y' : MethodName} {b' : ByteArray} {mx' : Nat} {rt' : Option FieldType} {rm : Room} {as' : List Value} {Q' : Option Value → Heap → Prop} {W idx : Nat} {ps : List FieldType} {rr : Option FieldType} {Cn : String} (S : St K Z R y bytes maxL ret n0 T h cl sl) (C : Ctr Z n0 y' b' mx' rt' rm (.ref a :: as') h Q') (E : Exa Z h a Cn) (w1 : (Jvm.Cond.methodLink y.cls idx y').before a0 Z = true) (w2 : (Jvm.Cond.declares y').before a0 Z = true) (w5 : (Jvm.Cond.selects Cn y' y').before a0 Z = true) (w6 : (Jvm.Cond.instanceMethod y').before a0 Z = true) (w3 : (Jvm.Cond.initialized y'.cls).before a0 Z = true) (w4 : (Jvm.Cond.code y' b' mx' rt').before a0 Z = true) (hnf : NotFace K.s y') (hy : y'.cls ≠ "java/lang/invoke/MethodHandle" ∧ y'.cls ≠ "java/lang/invoke/VarHandle")
    (hps : parseMethodDescriptor y'.desc = some ⟨ps, rr⟩) (hlen : as'.length = ps.length) (hL : L.size = maxL) (hfr : rm.frames + 1 ≤ R.frames) (hW : (st.map fun v => v.category).sum = W) (hlo : W + (mx' + 11) + rm.locals ≤ R.locals) (hc : cl + rm.cells ≤ R.cells) (hs : sl + rm.slots ≤ R.slots) (hd : decode bytes pc = .ok (.invokevirtual idx, 3)) (hp : pc + 3 = pc') {stk : List Value} (hst : stk = as'.reverse ++ .ref a :: st)
    (k : ∀ (T' : State) (h' : Heap) (v : Option Value), St K Z R y bytes maxL ret n0 T' h' (cl + rm.cells) (sl + rm.slots) → Q' v h' → Go K R n0 Q T' pc' L (v.toList ++ st)) : Go K R n0 Q T pc L stk := by
  subst hp
  subst hst
  obtain ⟨⟨locs, X, hF⟩, e0, hn0, hx, hZ, hby, hml, hret, hlk, hown, hnm⟩ := S
  obtain ⟨cq, kq, qa, qb, qc⟩ := isOf hZ e0 E
  obtain ⟨v, _, ⟨T1, L1, c1, n1⟩, -, X1, ⟨Lc, hq, hl1, hc1, hs1⟩, stp⟩ := X.virtualBack hx (y := y') (z := y') hown (mvT hZ w1) (mvT hZ w2) hnf (mvT hZ w5) (mvT hZ w6) hy (backOf (Q := fun v h' L => Q' v h' ∧ Fr n0 L) (W := W) (C K.l []) hZ w4 w3 hfr hlo) qa qc (g := mkF K.m pc L (as'.reverse ++ .ref a :: st)) rfl (hL.trans hml.symm) (Steps.refl _) (argsL := as') (rest := st) (lenOf hps hlen) rfl (by show 2 * 0 + _ ≤ _; rw [hW]; omega) (hb hby hd) (fun _ _ => ⟨rfl, e0, hc, hs⟩)
  dsimp only [Pt.U, Pt.locs, Pt.cells, Pt.slots] at X1 hl1 hc1 hs1 stp hq
  subst hl1 hc1 hs1
  obtain ⟨hq, hFc⟩ := hq
  exact Go.trans stp (k T1 T1.heap v ⟨⟨_, X1, Fr.app hF hFc⟩, rfl, hn0, hx, hZ, hby, hml, hret, hlk, hown, hnm⟩ hq)
theorem px_callI {y' : MethodName} {b' : ByteArray} {mx' : Nat} {rt' : Option FieldType} {rm : Room} {as' : List Value} {Q' : Option Value → Heap → Prop} {W idx : Nat} {ps : List FieldType} {rr : Option FieldType} {Cn : String} {xi : MethodName} {count : Nat} (S : St K Z R y bytes maxL ret n0 T h cl sl) (C : Ctr Z n0 y' b' mx' rt' rm (.ref a :: as') h Q') (E : Exa Z h a Cn) (w1 : (Jvm.Cond.methodLink y.cls idx xi).before a0 Z = true) (w2 : (Jvm.Cond.declares xi).before a0 Z = true) (w7 : (Jvm.Cond.interfaceMethod xi.cls xi.cls xi.name xi.desc).before a0 Z = true) (hface : ((Jvm.Cond.interfaceMethod xi.cls xi.cls xi.name xi.desc).onTables && (Jvm.Cond.interfaceMethod xi.cls xi.cls xi.name xi.desc).keepsFace) = true) (w5 : (Jvm.Cond.selects Cn xi y').before a0 Z = true) (w6 : (Jvm.Cond.instanceMethod y').before a0 Z = true) (w8 : (Jvm.Cond.publicMethod y').before a0 Z = true) (w9 : (Jvm.Cond.unhidden Cn xi.name xi.desc).before a0 Z = true) (w10 : (Jvm.Cond.castable Cn xi.cls).before a0 Z = true) (w3 : (Jvm.Cond.initialized y'.cls).before a0 Z = true) (w4 : (Jvm.Cond.code y' b' mx' rt').before a0 Z = true) (hy : xi.cls ≠ "java/lang/invoke/MethodHandle" ∧ xi.cls ≠ "java/lang/invoke/VarHandle")
    (hps : parseMethodDescriptor xi.desc = some ⟨ps, rr⟩) (hlen : as'.length = ps.length) (hL : L.size = maxL) (hfr : rm.frames + 1 ≤ R.frames) (hW : (st.map fun v => v.category).sum = W) (hlo : W + (mx' + 11) + rm.locals ≤ R.locals) (hc : cl + rm.cells ≤ R.cells) (hs : sl + rm.slots ≤ R.slots) (hd : decode bytes pc = .ok (.invokeinterface idx count, 5)) (hp : pc + 5 = pc') {stk : List Value} (hst : stk = as'.reverse ++ .ref a :: st)
    (k : ∀ (T' : State) (h' : Heap) (v : Option Value), St K Z R y bytes maxL ret n0 T' h' (cl + rm.cells) (sl + rm.slots) → Q' v h' → Go K R n0 Q T' pc' L (v.toList ++ st)) : Go K R n0 Q T pc L stk := by
  subst hp
  subst hst
  obtain ⟨⟨locs, X, hF⟩, e0, hn0, hx, hZ, hby, hml, hret, hlk, hown, hnm⟩ := S
  obtain ⟨cq, kq, qa, qb, qc⟩ := isOf hZ e0 E
  obtain ⟨v, _, ⟨T1, L1, c1, n1⟩, -, X1, ⟨Lc, hq, hl1, hc1, hs1⟩, stp⟩ := X.interfaceBack hx (xi := xi) (y := y') hown (mvT hZ w1) (mvT hZ w2) (mvT hZ w7 hface) (mvT hZ w5) (mvT hZ w6) (mvT hZ w8) (mvT hZ w9) (mvT hZ w10) hy (backOf (Q := fun v h' L => Q' v h' ∧ Fr n0 L) (W := W) (C K.l []) hZ w4 w3 hfr hlo) qa qb qc (g := mkF K.m pc L (as'.reverse ++ .ref a :: st)) rfl (hL.trans hml.symm) (Steps.refl _) (argsL := as') (rest := st) (lenOf hps hlen) rfl (by show 2 * 0 + _ ≤ _; rw [hW]; omega) (hb hby hd) (fun _ _ => ⟨rfl, e0, hc, hs⟩)
  dsimp only [Pt.U, Pt.locs, Pt.cells, Pt.slots] at X1 hl1 hc1 hs1 stp hq
  subst hl1 hc1 hs1
  obtain ⟨hq, hFc⟩ := hq
  exact Go.trans stp (k T1 T1.heap v ⟨⟨_, X1, Fr.app hF hFc⟩, rfl, hn0, hx, hZ, hby, hml, hret, hlk, hown, hnm⟩ hq)
theorem St.nf {y' : MethodName} (S : St K Z R y bytes maxL ret n0 T h cl sl) (w : (Jvm.Cond.selects y'.cls y' y').before a0 Z = true) : NotFace K.s y' := by
  obtain ⟨⟨locs, X, hF⟩, e0, hn0, hx, hZ, hby, hml, hret, hlk, hown, hnm⟩ := S
  exact notFace_of_selects (args := #[]) (mvT hZ w)
theorem px_lsw (S : St K Z R y bytes maxL ret n0 T h cl sl) {df o : Int} {ps : Array (Int × Int)} {pl : List (Int × Int)} {ln : Nat} {u : Int32} (hd : decode bytes pc = .ok (.lookupswitch df ps, ln)) (hpl : ps.toList = pl) (hm : (pl.zip (pl.drop 1)).all (fun (a, next) => a.1 < next.1) = true) (hu : lookupswitch.offset pl df u.toInt = o) (ho : 0 ≤ (pc : Int) + o) (hp : ((pc : Int) + o).toNat = pc') (k : Go K R n0 Q T pc' L st) : Go K R n0 Q T pc L (.int u :: st) := by
  subst hp
  subst hpl
  obtain ⟨⟨locs, X, hF⟩, e0, hn0, hx, hZ, hby, hml, hret, hlk, hown, hnm⟩ := S
  refine Go.step (fun _ t => ?_) k
  have hd' := hb hby hd
  show Steps K.p.tables K.e K.below (T.setTop { method := K.m, pc := pc, locals := L, stack := .int u :: st, locked := none }) _
  jvm_step X.here [X.here.top, hx, hd', lookupswitch.wp_chain, hu, ho]
  exact ⟨by simpa using hm, t⟩
theorem Go.join {α : Type} {P : α → Prop} {pcj : Nat} {Lj : α → Array Slot} {stj : α → List Value} (h1 : ∀ x, P x → Go K R n0 Q T pcj (Lj x) (stj x)) (h2 : (∀ x, P x → Go K R n0 Q T pcj (Lj x) (stj x)) → Go K R n0 Q T pc L st) : Go K R n0 Q T pc L st := h2 h1
theorem Go.joinT {α : Type} {P : α → Prop} {pcj cl' sl' : Nat} {Lj : α → Array Slot} {stj : α → List Value} (S : St K Z R y bytes maxL ret n0 T h cl sl) (h1 : ∀ (x : α) (T' : State), St K Z R y bytes maxL ret n0 T' h cl' sl' → P x → Go K R n0 Q T' pcj (Lj x) (stj x)) (h2 : (∀ (x : α) (T' : State), St K Z R y bytes maxL ret n0 T' h cl' sl' → P x → Go K R n0 Q T' pcj (Lj x) (stj x)) → Go K R n0 Q T pc L st) : Go K R n0 Q T pc L st := h2 h1
theorem Go.joinH {α : Type} {P : α → Heap → Prop} {pcj cl' sl' : Nat} {Lj : α → Array Slot} {stj : α → List Value} (S : St K Z R y bytes maxL ret n0 T h cl sl) (h1 : ∀ (x : α) (T' : State) (h' : Heap), St K Z R y bytes maxL ret n0 T' h' cl' sl' → P x h' → Go K R n0 Q T' pcj (Lj x) (stj x)) (h2 : (∀ (x : α) (T' : State) (h' : Heap), St K Z R y bytes maxL ret n0 T' h' cl' sl' → P x h' → Go K R n0 Q T' pcj (Lj x) (stj x)) → Go K R n0 Q T pc L st) : Go K R n0 Q T pc L st := h2 h1
theorem Go.loopH {α : Type} {Inv : Nat → α → Heap → Prop} {pcj cl' sl' : Nat} {Lj : α → Array Slot} {stj : α → List Value} (S : St K Z R y bytes maxL ret n0 T h cl sl)
    (h1 : ∀ k, (∀ j, j < k → ∀ (x : α) (T' : State) (h' : Heap), St K Z R y bytes maxL ret n0 T' h' cl' sl' → Inv j x h' → Go K R n0 Q T' pcj (Lj x) (stj x)) → ∀ (x : α) (T' : State) (h' : Heap), St K Z R y bytes maxL ret n0 T' h' cl' sl' → Inv k x h' → Go K R n0 Q T' pcj (Lj x) (stj x))
    (h2 : (∀ (k : Nat) (x : α) (T' : State) (h' : Heap), St K Z R y bytes maxL ret n0 T' h' cl' sl' → Inv k x h' → Go K R n0 Q T' pcj (Lj x) (stj x)) → Go K R n0 Q T pc L st) : Go K R n0 Q T pc L st := h2 (fun k => Nat.strongRecOn k h1)
theorem i32_of {x y : Int32} {n : Int} (h : x.toInt = n) (hy : y.toInt = n) : x = y := Int32.toInt_inj.mp (h.trans hy.symm)
theorem i64_of {x y : Int64} {n : Int} (h : x.toInt = n) (hy : y.toInt = n) : x = y := Int64.toInt_inj.mp (h.trans hy.symm)
theorem ne_new {a b n : Nat} (e : a = n) (h : b < n) : b ≠ a := by omega
theorem f_imul (x y : Int32) (n : Int) (hy : y.toInt = n) : ((x * y).toInt - x.toInt * n) % 4294967296 = 0 := by rw [← hy]; exact c_imul x y
theorem f_imul' (x y : Int32) (n : Int) (hx : x.toInt = n) : ((x * y).toInt - n * y.toInt) % 4294967296 = 0 := by rw [← hx]; exact c_imul x y
theorem f_lmul (x y : Int64) (n : Int) (hy : y.toInt = n) : ((x * y).toInt - x.toInt * n) % 18446744073709551616 = 0 := by rw [← hy]; exact c_lmul x y
theorem f_lmul' (x y : Int64) (n : Int) (hx : x.toInt = n) : ((x * y).toInt - n * y.toInt) % 18446744073709551616 = 0 := by rw [← hx]; exact c_lmul x y
theorem f_imask (x m : Int32) (k : Nat) (P : Int) (hk : k ≤ 31) (hm : m.toBitVec.toNat = 2 ^ k - 1) (hP : ((2 ^ k : Nat) : Int) = P) : (x &&& m).toInt = x.toInt % P := by rw [← hP]; exact c_mask x m k hk hm
theorem f_imask' (m x : Int32) (k : Nat) (P : Int) (hk : k ≤ 31) (hm : m.toBitVec.toNat = 2 ^ k - 1) (hP : ((2 ^ k : Nat) : Int) = P) : (m &&& x).toInt = x.toInt % P := by rw [Int32.and_comm]; exact f_imask x m k P hk hm hP
theorem f_lmask (x m : Int64) (k : Nat) (P : Int) (hk : k ≤ 63) (hm : m.toBitVec.toNat = 2 ^ k - 1) (hP : ((2 ^ k : Nat) : Int) = P) : (x &&& m).toInt = x.toInt % P := by rw [← hP]; exact c_maskL x m k hk hm
theorem f_lmask' (m x : Int64) (k : Nat) (P : Int) (hk : k ≤ 63) (hm : m.toBitVec.toNat = 2 ^ k - 1) (hP : ((2 ^ k : Nat) : Int) = P) : (m &&& x).toInt = x.toInt % P := by rw [Int64.and_comm]; exact f_lmask x m k P hk hm hP
theorem f_ishl (x q : Int32) (k : Nat) (P : Int) (hk : q.toBitVec.toNat % 32 = k) (hP : ((2 ^ k : Nat) : Int) = P) : ((x <<< (q &&& 31)).toInt - x.toInt * P) % 4294967296 = 0 := by rw [← hP]; exact c_ishl x q k hk
theorem f_ishr (x q : Int32) (k : Nat) (P : Int) (hk : q.toBitVec.toNat % 32 = k) (hP : ((2 ^ k : Nat) : Int) = P) : (x >>> (q &&& 31)).toInt = x.toInt / P := by rw [← hP]; exact c_ishr x q k hk
theorem f_iushr (x q : Int32) (k : Nat) (P : Int) (hk : q.toBitVec.toNat % 32 = k) (h0 : 0 < k) (hP : ((2 ^ k : Nat) : Int) = P) : (ushr x q).toInt = (x.toInt % 4294967296) / P := by rw [← hP]; exact c_iushr x q k hk h0
theorem f_lshl (x : Int64) (q : Int32) (k : Nat) (P : Int) (hk : q.toBitVec.toNat % 64 = k) (hP : ((2 ^ k : Nat) : Int) = P) : ((x <<< (q &&& 0x3f).toInt64).toInt - x.toInt * P) % 18446744073709551616 = 0 := by rw [← hP]; exact c_lshl x q k hk
theorem f_lshr (x : Int64) (q : Int32) (k : Nat) (P : Int) (hk : q.toBitVec.toNat % 64 = k) (hP : ((2 ^ k : Nat) : Int) = P) : (x >>> (q &&& 0x3f).toInt64).toInt = x.toInt / P := by rw [← hP]; exact c_lshr x q k hk
theorem f_lushr (x : Int64) (q : Int32) (k : Nat) (P : Int) (hk : q.toBitVec.toNat % 64 = k) (h0 : 0 < k) (hP : ((2 ^ k : Nat) : Int) = P) : (ushrL x q).toInt = (x.toInt % 18446744073709551616) / P := by rw [← hP]; exact c_lushr x q k hk h0
theorem f_idiv (x y : Int32) (d : Int) (hy : y.toInt = d) (hd : y ≠ -1) : (0 ≤ x.toInt → (x / y).toInt = x.toInt / d) ∧ (x.toInt < 0 → (x / y).toInt = -((-x.toInt) / d)) := c_idiv x y d hy hd
theorem f_irem (x y : Int32) (d : Int) (hy : y.toInt = d) : (0 ≤ x.toInt → (x % y).toInt = x.toInt % d) ∧ (x.toInt < 0 → (x % y).toInt = -((-x.toInt) % d)) := c_irem x y d hy
theorem f_ldiv (x y : Int64) (d : Int) (hy : y.toInt = d) (hd : y ≠ -1) : (0 ≤ x.toInt → (x / y).toInt = x.toInt / d) ∧ (x.toInt < 0 → (x / y).toInt = -((-x.toInt) / d)) := c_ldiv x y d hy hd
theorem f_i2b (x : Int32) : ((i2b x).toInt - x.toInt) % 256 = 0 ∧ -128 ≤ (i2b x).toInt ∧ (i2b x).toInt < 128 := c_i2b x
theorem f_i2s (x : Int32) : ((i2s x).toInt - x.toInt) % 65536 = 0 ∧ -32768 ≤ (i2s x).toInt ∧ (i2s x).toInt < 32768 := c_i2s x
theorem f_i2c (x : Int32) : ((i2c x).toInt - x.toInt) % 65536 = 0 ∧ 0 ≤ (i2c x).toInt ∧ (i2c x).toInt < 65536 := c_i2c x
theorem x_iadd {a b : Int32} {la ha lb hb : Int} (p : la ≤ a.toInt ∧ a.toInt ≤ ha) (q : lb ≤ b.toInt ∧ b.toInt ≤ hb) (h1 : -2147483648 ≤ la + lb) (h2 : ha + hb < 2147483648) : (a + b).toInt = a.toInt + b.toInt := by have r := c_iadd a b; have s := rng32 (a + b); omega
theorem x_isub {a b : Int32} {la ha lb hb : Int} (p : la ≤ a.toInt ∧ a.toInt ≤ ha) (q : lb ≤ b.toInt ∧ b.toInt ≤ hb) (h1 : -2147483648 ≤ la - hb) (h2 : ha - lb < 2147483648) : (a - b).toInt = a.toInt - b.toInt := by have r := c_isub a b; have s := rng32 (a - b); omega
theorem x_imask {a m : Int32} {P : Int} (k : Nat) (hk : k ≤ 32 - 1) (hm : m.toBitVec.toNat = 2 ^ k - 1) (hP : ((2 ^ k : Nat) : Int) = P) : (a &&& m).toInt = a.toInt % P := f_imask a m k P hk hm hP
theorem x_ineg {a : Int32} {la ha : Int} (p : la ≤ a.toInt ∧ a.toInt ≤ ha) (h1 : -2147483648 < la) : (-a).toInt = -a.toInt := by have r := c_ineg a; have s := rng32 (-a); have t := rng32 a; omega
theorem x_ishr {x : Int32} {q : Int32} {P : Int} (k : Nat) (hk : q.toBitVec.toNat % 32 = k) (hP : ((2 ^ k : Nat) : Int) = P) : (x >>> (q &&& 31)).toInt = x.toInt / P := f_ishr x q k P hk hP
theorem x_iushr {x : Int32} {q : Int32} {P la ha : Int} (p : la ≤ x.toInt ∧ x.toInt ≤ ha) (h1 : 0 ≤ la) (k : Nat) (hk : q.toBitVec.toNat % 32 = k) (h0 : 0 < k) (hP : ((2 ^ k : Nat) : Int) = P) : (ushr x q).toInt = x.toInt / P := by
  have r := f_iushr x q k P hk h0 hP
  have s := rng32 x
  rw [r]; congr 1; omega
theorem x_imul {a b : Int32} {la ha n : Int} (p : la ≤ a.toInt ∧ a.toInt ≤ ha) (hn : b.toInt = n) (h0 : 0 ≤ n) (h1 : -2147483648 ≤ la * n) (h2 : ha * n < 2147483648) : (a * b).toInt = a.toInt * n := by
  have r := f_imul a b n hn
  have s := rng32 (a * b)
  have m1 := Int.mul_le_mul_of_nonneg_right p.1 h0
  have m2 := Int.mul_le_mul_of_nonneg_right p.2 h0
  generalize a.toInt * n = z at *
  generalize la * n = z1 at *
  generalize ha * n = z2 at *
  omega
theorem x_imulN {a b : Int32} {la ha n : Int} (p : la ≤ a.toInt ∧ a.toInt ≤ ha) (hn : b.toInt = n) (h0 : n ≤ 0) (h1 : -2147483648 ≤ ha * n) (h2 : la * n < 2147483648) : (a * b).toInt = a.toInt * n := by
  have r := f_imul a b n hn
  have s := rng32 (a * b)
  have m1 := Int.mul_le_mul_of_nonpos_right p.1 h0
  have m2 := Int.mul_le_mul_of_nonpos_right p.2 h0
  generalize a.toInt * n = z at *
  generalize la * n = z1 at *
  generalize ha * n = z2 at *
  omega
theorem x_imulN' {a b : Int32} {la ha n : Int} (p : la ≤ b.toInt ∧ b.toInt ≤ ha) (hn : a.toInt = n) (h0 : n ≤ 0) (h1 : -2147483648 ≤ ha * n) (h2 : la * n < 2147483648) : (a * b).toInt = b.toInt * n := by
  rw [Int32.mul_comm]; exact x_imulN p hn h0 h1 h2
theorem x_imul' {a b : Int32} {la ha n : Int} (p : la ≤ b.toInt ∧ b.toInt ≤ ha) (hn : a.toInt = n) (h0 : 0 ≤ n) (h1 : -2147483648 ≤ la * n) (h2 : ha * n < 2147483648) : (a * b).toInt = b.toInt * n := by
  rw [Int32.mul_comm]; exact x_imul p hn h0 h1 h2
theorem x_ladd {a b : Int64} {la ha lb hb : Int} (p : la ≤ a.toInt ∧ a.toInt ≤ ha) (q : lb ≤ b.toInt ∧ b.toInt ≤ hb) (h1 : -9223372036854775808 ≤ la + lb) (h2 : ha + hb < 9223372036854775808) : (a + b).toInt = a.toInt + b.toInt := by have r := c_ladd a b; have s := rng64 (a + b); omega
theorem x_lsub {a b : Int64} {la ha lb hb : Int} (p : la ≤ a.toInt ∧ a.toInt ≤ ha) (q : lb ≤ b.toInt ∧ b.toInt ≤ hb) (h1 : -9223372036854775808 ≤ la - hb) (h2 : ha - lb < 9223372036854775808) : (a - b).toInt = a.toInt - b.toInt := by have r := c_lsub a b; have s := rng64 (a - b); omega
theorem x_lmask {a m : Int64} {P : Int} (k : Nat) (hk : k ≤ 64 - 1) (hm : m.toBitVec.toNat = 2 ^ k - 1) (hP : ((2 ^ k : Nat) : Int) = P) : (a &&& m).toInt = a.toInt % P := f_lmask a m k P hk hm hP
theorem x_lneg {a : Int64} {la ha : Int} (p : la ≤ a.toInt ∧ a.toInt ≤ ha) (h1 : -9223372036854775808 < la) : (-a).toInt = -a.toInt := by have r := c_lneg a; have s := rng64 (-a); have t := rng64 a; omega
theorem x_lshr {x : Int64} {q : Int32} {P : Int} (k : Nat) (hk : q.toBitVec.toNat % 64 = k) (hP : ((2 ^ k : Nat) : Int) = P) : (x >>> (q &&& 0x3f).toInt64).toInt = x.toInt / P := f_lshr x q k P hk hP
theorem x_lushr {x : Int64} {q : Int32} {P la ha : Int} (p : la ≤ x.toInt ∧ x.toInt ≤ ha) (h1 : 0 ≤ la) (k : Nat) (hk : q.toBitVec.toNat % 64 = k) (h0 : 0 < k) (hP : ((2 ^ k : Nat) : Int) = P) : (ushrL x q).toInt = x.toInt / P := by
  have r := f_lushr x q k P hk h0 hP
  have s := rng64 x
  rw [r]; congr 1; omega
theorem x_lmul {a b : Int64} {la ha n : Int} (p : la ≤ a.toInt ∧ a.toInt ≤ ha) (hn : b.toInt = n) (h0 : 0 ≤ n) (h1 : -9223372036854775808 ≤ la * n) (h2 : ha * n < 9223372036854775808) : (a * b).toInt = a.toInt * n := by
  have r := f_lmul a b n hn
  have s := rng64 (a * b)
  have m1 := Int.mul_le_mul_of_nonneg_right p.1 h0
  have m2 := Int.mul_le_mul_of_nonneg_right p.2 h0
  generalize a.toInt * n = z at *
  generalize la * n = z1 at *
  generalize ha * n = z2 at *
  omega
theorem x_lmulN {a b : Int64} {la ha n : Int} (p : la ≤ a.toInt ∧ a.toInt ≤ ha) (hn : b.toInt = n) (h0 : n ≤ 0) (h1 : -9223372036854775808 ≤ ha * n) (h2 : la * n < 9223372036854775808) : (a * b).toInt = a.toInt * n := by
  have r := f_lmul a b n hn
  have s := rng64 (a * b)
  have m1 := Int.mul_le_mul_of_nonpos_right p.1 h0
  have m2 := Int.mul_le_mul_of_nonpos_right p.2 h0
  generalize a.toInt * n = z at *
  generalize la * n = z1 at *
  generalize ha * n = z2 at *
  omega
theorem x_lmulN' {a b : Int64} {la ha n : Int} (p : la ≤ b.toInt ∧ b.toInt ≤ ha) (hn : a.toInt = n) (h0 : n ≤ 0) (h1 : -9223372036854775808 ≤ ha * n) (h2 : la * n < 9223372036854775808) : (a * b).toInt = b.toInt * n := by
  rw [Int64.mul_comm]; exact x_lmulN p hn h0 h1 h2
theorem x_lmul' {a b : Int64} {la ha n : Int} (p : la ≤ b.toInt ∧ b.toInt ≤ ha) (hn : a.toInt = n) (h0 : 0 ≤ n) (h1 : -9223372036854775808 ≤ la * n) (h2 : ha * n < 9223372036854775808) : (a * b).toInt = b.toInt * n := by
  rw [Int64.mul_comm]; exact x_lmul p hn h0 h1 h2
theorem ib_add {a b la ha lb hb lo hi : Int} (p : la ≤ a ∧ a ≤ ha) (q : lb ≤ b ∧ b ≤ hb) (h1 : lo ≤ la + lb) (h2 : ha + hb ≤ hi) : lo ≤ a + b ∧ a + b ≤ hi := by omega
theorem ib_sub {a b la ha lb hb lo hi : Int} (p : la ≤ a ∧ a ≤ ha) (q : lb ≤ b ∧ b ≤ hb) (h1 : lo ≤ la - hb) (h2 : ha - lb ≤ hi) : lo ≤ a - b ∧ a - b ≤ hi := by omega
theorem ib_neg {a la ha lo hi : Int} (p : la ≤ a ∧ a ≤ ha) (h1 : lo ≤ -ha) (h2 : -la ≤ hi) : lo ≤ -a ∧ -a ≤ hi := by omega
theorem ib_mod {a lo hi : Int} (P : Int) (hP : 0 < P) (h1 : lo ≤ 0) (h2 : P - 1 ≤ hi) : lo ≤ a % P ∧ a % P ≤ hi := by have := Int.emod_nonneg a (Int.ne_of_gt hP); have := Int.emod_lt_of_pos a hP; omega
theorem ib_div {a la ha lo hi : Int} (P : Int) (hP : 0 < P) (p : la ≤ a ∧ a ≤ ha) (h1 : lo ≤ la / P) (h2 : ha / P ≤ hi) : lo ≤ a / P ∧ a / P ≤ hi := ⟨Int.le_trans h1 (Int.ediv_le_ediv hP p.1), Int.le_trans (Int.ediv_le_ediv hP p.2) h2⟩
theorem ib_mul {a la ha lo hi : Int} (n : Int) (h0 : 0 ≤ n) (p : la ≤ a ∧ a ≤ ha) (h1 : lo ≤ la * n) (h2 : ha * n ≤ hi) : lo ≤ a * n ∧ a * n ≤ hi := ⟨Int.le_trans h1 (Int.mul_le_mul_of_nonneg_right p.1 h0), Int.le_trans (Int.mul_le_mul_of_nonneg_right p.2 h0) h2⟩
theorem ib_mulN {a la ha lo hi : Int} (n : Int) (h0 : n ≤ 0) (p : la ≤ a ∧ a ≤ ha) (h1 : lo ≤ ha * n) (h2 : la * n ≤ hi) : lo ≤ a * n ∧ a * n ≤ hi := ⟨Int.le_trans h1 (Int.mul_le_mul_of_nonpos_right p.2 h0), Int.le_trans (Int.mul_le_mul_of_nonpos_right p.1 h0) h2⟩
theorem x_idiv {a b : Int32} {la ha d : Int} (p : la ≤ a.toInt ∧ a.toInt ≤ ha) (hy : b.toInt = d) (h0 : 0 ≤ la) (hd : b ≠ -1) : (a / b).toInt = a.toInt / d := (c_idiv a b d hy hd).1 (Int.le_trans h0 p.1)
theorem x_irem {a b : Int32} {la ha d : Int} (p : la ≤ a.toInt ∧ a.toInt ≤ ha) (hy : b.toInt = d) (h0 : 0 ≤ la) : (a % b).toInt = a.toInt % d := (c_irem a b d hy).1 (Int.le_trans h0 p.1)
theorem x_iremV {a b : Int32} {la ha lb hb : Int} (p : la ≤ a.toInt ∧ a.toInt ≤ ha) (q : lb ≤ b.toInt ∧ b.toInt ≤ hb) (h0 : 0 ≤ la) (h1 : 0 < lb) : 0 ≤ (a % b).toInt ∧ (a % b).toInt < b.toInt := by
  have r := (c_iremV a b).1 (Int.le_trans h0 p.1) (Int.lt_of_lt_of_le h1 q.1)
  exact ⟨r.1, r.2.1⟩
theorem ib_rem {r y lb hb hi : Int} (x : 0 ≤ r ∧ r < y) (q : lb ≤ y ∧ y ≤ hb) (h : hb - 1 ≤ hi) : 0 ≤ r ∧ r ≤ hi := by omega
theorem rb32 (x : Int32) : -2147483648 ≤ x.toInt ∧ x.toInt ≤ 2147483647 := by have := rng32 x; omega
theorem rb64 (x : Int64) : -9223372036854775808 ≤ x.toInt ∧ x.toInt ≤ 9223372036854775807 := by have := rng64 x; omega
theorem x_l2i {x : Int64} {la ha : Int} (p : la ≤ x.toInt ∧ x.toInt ≤ ha) (h1 : -2147483648 ≤ la) (h2 : ha < 2147483648) : x.toInt32.toInt = x.toInt := by have r := c_l2i x; have s := rng32 x.toInt32; omega
end Kit
end Jvm.OwnK
namespace Jvm.Pilot.@@N@@
open Jvm Jvm.ClassFile Sem Op Lib Jvm.Free Jvm.Stand Jvm.LawKit Jvm.RoadKit Bundle Jvm.OwnK Jvm.Pilot.@@N@@.Jvm.D
theorem be_eq (H : Int32) : ((((i2b (ushr H (24 : Int32)) &&& (255 : Int32)) <<< ((24 : Int32) &&& 31)) ||| ((i2b (ushr H (16 : Int32)) &&& (255 : Int32)) <<< ((16 : Int32) &&& 31))) ||| ((i2b (ushr H (8 : Int32)) &&& (255 : Int32)) <<< ((8 : Int32) &&& 31))) ||| (i2b H &&& (255 : Int32)) = H := by
  apply Int32.toInt_inj.mp
  have a1 := f_i2b (ushr H 24); have a2 := f_i2b (ushr H 16); have a3 := f_i2b (ushr H 8); have a4 := f_i2b H
  have u1 := f_iushr H 24 24 16777216 (by decide) (by decide) (by decide); have u2 := f_iushr H 16 16 65536 (by decide) (by decide) (by decide); have u3 := f_iushr H 8 8 256 (by decide) (by decide) (by decide)
  have m1 := f_imask (i2b (ushr H 24)) 255 8 256 (by decide) (by decide) (by decide); have m2 := f_imask (i2b (ushr H 16)) 255 8 256 (by decide) (by decide) (by decide); have m3 := f_imask (i2b (ushr H 8)) 255 8 256 (by decide) (by decide) (by decide); have m4 := f_imask (i2b H) 255 8 256 (by decide) (by decide) (by decide)
  have s1 := f_ishl (i2b (ushr H 24) &&& 255) 24 24 16777216 (by decide) (by decide); have s2 := f_ishl (i2b (ushr H 16) &&& 255) 16 16 65536 (by decide) (by decide); have s3 := f_ishl (i2b (ushr H 8) &&& 255) 8 8 256 (by decide) (by decide)
  have r0 := rng32 H
  generalize i2b (ushr H 24) &&& 255 = p1 at *; generalize i2b (ushr H 16) &&& 255 = p2 at *; generalize i2b (ushr H 8) &&& 255 = p3 at *; generalize i2b H &&& 255 = p4 at *
  generalize i2b (ushr H 24) = z1 at *; generalize i2b (ushr H 16) = z2 at *; generalize i2b (ushr H 8) = z3 at *; generalize i2b H = z4 at *
  generalize ushr H 24 = w1 at *; generalize ushr H 16 = w2 at *; generalize ushr H 8 = w3 at *
  have g1 := rng32 (p1 <<< ((24 : Int32) &&& 31)); have g2 := rng32 (p2 <<< ((16 : Int32) &&& 31)); have g3 := rng32 (p3 <<< ((8 : Int32) &&& 31))
  generalize p1 <<< ((24 : Int32) &&& 31) = t1 at *; generalize p2 <<< ((16 : Int32) &&& 31) = t2 at *; generalize p3 <<< ((8 : Int32) &&& 31) = t3 at *
  have b1 : t1.toInt % 16777216 = 0 := by omega
  have b2 : 0 ≤ t2.toInt ∧ t2.toInt < 16777216 := by omega
  have o1 := c_or t1 t2 24 (by decide) 16777216 rfl b1 b2.1 b2.2
  have g4 := rng32 (t1 ||| t2)
  generalize t1 ||| t2 = o12 at *
  have o2 := c_or o12 t3 16 (by decide) 65536 rfl (by omega) (by omega) (by omega)
  have g5 := rng32 (o12 ||| t3)
  generalize o12 ||| t3 = o123 at *
  have o3 := c_or o123 p4 8 (by decide) 256 rfl (by omega) (by omega) (by omega)
  have g6 := rng32 (o123 ||| p4)
  omega
theorem addmin (x : Int32) : (x + (-2147483648 : Int32)).toInt = x.toInt % 4294967296 - 2147483648 := by
  have a := c_iadd x (-2147483648 : Int32); have b := rng32 (x + (-2147483648 : Int32)); have c := rng32 x
  have d : (-2147483648 : Int32).toInt = -2147483648 := rfl
  omega
theorem cm_lt {x z : Int32} (h : (x + (-2147483648 : Int32)).toInt < (z + (-2147483648 : Int32)).toInt) : x.toInt % 4294967296 < z.toInt % 4294967296 := by rw [addmin, addmin] at h; omega
theorem cm_eq {x z : Int32} (h : (x + (-2147483648 : Int32)).toInt = (z + (-2147483648 : Int32)).toInt) : x.toInt % 4294967296 = z.toInt % 4294967296 := by rw [addmin, addmin] at h; omega
theorem cm_gt {x z : Int32} (h : (x + (-2147483648 : Int32)).toInt > (z + (-2147483648 : Int32)).toInt) : x.toInt % 4294967296 > z.toInt % 4294967296 := by rw [addmin, addmin] at h; omega
theorem i2b_i2b (x : Int32) : nar .byte (i2b x) = i2b x := by
  apply Int32.toInt_inj.mp
  have a := f_i2b x; have b := f_i2b (i2b x)
  show (i2b (i2b x)).toInt = _
  omega
theorem d1_0 : decode method_3_code 0 = .ok (.iload_n 1, 1) := by decide +kernel
theorem d1_1 : decode method_3_code 1 = .ok (.aload_n 0, 1) := by decide +kernel
theorem d1_2 : decode method_3_code 2 = .ok (.arraylength, 1) := by decide +kernel
theorem d1_3 : decode method_3_code 3 = .ok (.if_icmp .ge 8, 3) := by decide +kernel
theorem d1_6 : decode method_3_code 6 = .ok (.aload_n 0, 1) := by decide +kernel
theorem d1_7 : decode method_3_code 7 = .ok (.iload_n 1, 1) := by decide +kernel
theorem d1_8 : decode method_3_code 8 = .ok (.iload_n 2, 1) := by decide +kernel
theorem d1_9 : decode method_3_code 9 = .ok (.i2b, 1) := by decide +kernel
theorem d1_10 : decode method_3_code 10 = .ok (.bastore, 1) := by decide +kernel
theorem d1_11 : decode method_3_code 11 = .ok (.return_, 1) := by decide +kernel
theorem pn_1 : plainFor (⟨"com/example/ferrule/ferrule/symbols/MachOExportsRecognisesPinLaw", "put", "([BII)V"⟩ : MethodName) = true := plainFor_of_name (by first | (simp [plainName, overriddenIn]; done) | decide +kernel)
set_option maxRecDepth 65536 in
set_option maxHeartbeats 40000000 in
theorem c_put {Z : State} {a0 : Array Value} (hw : ∀ d ∈ tables_1, d.before a0 Z = true) {a : Addr} {n k : Nat} {nl i x : Int32} {f : Nat → Int32} {h0 : Heap} {n0 : Nat} (Z0 : n0 ≤ h0.size) (hnl : nl.toInt = (n : Int)) (hi : i.toInt = (k : Int)) (g_a : n0 ≤ a) (A0 : AI Z h0 a .byte n f) :
    Ctr Z n0 (⟨"com/example/ferrule/ferrule/symbols/MachOExportsRecognisesPinLaw", "put", "([BII)V"⟩ : MethodName) method_3_code 3 none ({ frames := 0, cells := 0, slots := 0, locals := 0 } : Room) [(.ref a), (.int i), (.int x)] h0 (fun v h => v = none ∧ AI Z h a .byte n (updF f k (i2b x))) := by
  refine Ctr.of (L := #[.val (.ref a), .val (.int i), .val (.int x)]) pn_1 Z0 (fun m => by first | (simp [entryFrame, mkF, argsToLocals, Value.category]; done) | rfl) ?_
  intro K T S0
  refine px_iloadN S0 d1_0 rfl rfl ?_
  refine px_aloadN S0 d1_1 rfl rfl rfl ?_
  refine px_alenI (v := nl) S0 A0 hnl d1_2 rfl ?_
  refine px_icmp S0 d1_3 (by decide) (pc' := 11) rfl rfl (fun (hc1 : i.toInt ≥ nl.toInt) => ?_) (fun (hc1 : i.toInt < nl.toInt) => ?_)
  · exact px_return S0 d1_11 rfl (by decide) (by decide) (⟨rfl, A0.congr (fun j hj => (updF_ne _ _ (by omega)).symm)⟩)
  · refine px_aloadN S0 d1_6 rfl rfl rfl ?_
    refine px_iloadN S0 d1_7 rfl rfl ?_
    refine px_iloadN S0 d1_8 rfl rfl ?_
    refine px_i2b S0 d1_9 rfl ?_
    refine px_bastore (v := (i2b x)) S0 A0 g_a (i := k) hi (by omega) (i2b_i2b x) d1_10 rfl (fun T2 h2 S2 W2 A0 => ?_)
    exact px_return S2 d1_11 rfl (by decide) (by decide) (⟨rfl, A0⟩)
theorem d5_0 : decode jdk_33_method_40_code 0 = .ok (.iload_n 0, 1) := by decide +kernel
theorem d5_1 : decode jdk_33_method_40_code 1 = .ok (.iload_n 1, 1) := by decide +kernel
theorem d5_2 : decode jdk_33_method_40_code 2 = .ok (.if_icmp .ge 7, 3) := by decide +kernel
theorem d5_5 : decode jdk_33_method_40_code 5 = .ok (.iconst (-1), 1) := by decide +kernel
theorem d5_6 : decode jdk_33_method_40_code 6 = .ok (.goto 13, 3) := by decide +kernel
theorem d5_9 : decode jdk_33_method_40_code 9 = .ok (.iload_n 0, 1) := by decide +kernel
theorem d5_10 : decode jdk_33_method_40_code 10 = .ok (.iload_n 1, 1) := by decide +kernel
theorem d5_11 : decode jdk_33_method_40_code 11 = .ok (.if_icmp .ne 7, 3) := by decide +kernel
theorem d5_14 : decode jdk_33_method_40_code 14 = .ok (.iconst 0, 1) := by decide +kernel
theorem d5_15 : decode jdk_33_method_40_code 15 = .ok (.goto 4, 3) := by decide +kernel
theorem d5_18 : decode jdk_33_method_40_code 18 = .ok (.iconst 1, 1) := by decide +kernel
theorem d5_19 : decode jdk_33_method_40_code 19 = .ok (.ireturn, 1) := by decide +kernel
theorem pn_5 : plainFor (⟨"java/lang/Integer", "compare", "(II)I"⟩ : MethodName) = true := plainFor_of_name (by first | (simp [plainName, overriddenIn]; done) | decide +kernel)
set_option maxRecDepth 65536 in
set_option maxHeartbeats 40000000 in
theorem c_cmp {Z : State} {a0 : Array Value} (hw : ∀ d ∈ tables_1, d.before a0 Z = true) {x z : Int32} {h0 : Heap} {n0 : Nat} (Z0 : n0 ≤ h0.size) :
    Ctr Z n0 (⟨"java/lang/Integer", "compare", "(II)I"⟩ : MethodName) jdk_33_method_40_code 2 (some .int) ({ frames := 0, cells := 0, slots := 0, locals := 0 } : Room) [(.int x), (.int z)] h0 (fun v h => h = h0 ∧ ((v = some (.int (-1)) ∧ x.toInt < z.toInt) ∨ (v = some (.int 0) ∧ x.toInt = z.toInt) ∨ (v = some (.int 1) ∧ x.toInt > z.toInt))) := by
  refine Ctr.of (L := #[.val (.int x), .val (.int z)]) pn_5 Z0 (fun m => by first | (simp [entryFrame, mkF, argsToLocals, Value.category]; done) | rfl) ?_
  intro K T S0
  refine px_iloadN S0 d5_0 rfl rfl ?_
  refine px_iloadN S0 d5_1 rfl rfl ?_
  refine px_icmp S0 d5_2 (by decide) (pc' := 9) rfl rfl (fun (hc1 : x.toInt ≥ z.toInt) => ?_) (fun (hc1 : x.toInt < z.toInt) => ?_)
  · refine px_iloadN S0 d5_9 rfl rfl ?_
    refine px_iloadN S0 d5_10 rfl rfl ?_
    refine px_icmp S0 d5_11 (by decide) (pc' := 18) rfl rfl (fun (hc2 : ¬ x.toInt = z.toInt) => ?_) (fun (hc2 : x.toInt = z.toInt) => ?_)
    · refine px_iconst (v := (1 : Int32)) S0 d5_18 rfl rfl ?_
      exact px_retI S0 d5_19 rfl (by decide) (by decide) (⟨rfl, Or.inr (Or.inr ⟨rfl, by omega⟩)⟩)
    · refine px_iconst (v := (0 : Int32)) S0 d5_14 rfl rfl ?_
      refine px_goto S0 d5_15 (by decide) (pc' := 19) rfl ?_
      exact px_retI S0 d5_19 rfl (by decide) (by decide) (⟨rfl, Or.inr (Or.inl ⟨rfl, hc2⟩)⟩)
  · refine px_iconst (v := (-1 : Int32)) S0 d5_5 rfl rfl ?_
    refine px_goto S0 d5_6 (by decide) (pc' := 19) rfl ?_
    exact px_retI S0 d5_19 rfl (by decide) (by decide) (⟨rfl, Or.inl ⟨rfl, hc1⟩⟩)
theorem d4_0 : decode jdk_33_method_41_code 0 = .ok (.iload_n 0, 1) := by decide +kernel
theorem d4_1 : decode jdk_33_method_41_code 1 = .ok (.ldc 127, 2) := by decide +kernel
theorem d4_3 : decode jdk_33_method_41_code 3 = .ok (.iadd, 1) := by decide +kernel
theorem d4_4 : decode jdk_33_method_41_code 4 = .ok (.iload_n 1, 1) := by decide +kernel
theorem d4_5 : decode jdk_33_method_41_code 5 = .ok (.ldc 127, 2) := by decide +kernel
theorem d4_7 : decode jdk_33_method_41_code 7 = .ok (.iadd, 1) := by decide +kernel
theorem d4_8 : decode jdk_33_method_41_code 8 = .ok (.invokestatic 259, 3) := by decide +kernel
theorem d4_11 : decode jdk_33_method_41_code 11 = .ok (.ireturn, 1) := by decide +kernel
theorem pd_4_0 : parseMethodDescriptor "(II)I" = some ⟨[.int, .int], some .int⟩ := by decide +kernel
theorem pn_4 : plainFor (⟨"java/lang/Integer", "compareUnsigned", "(II)I"⟩ : MethodName) = true := plainFor_of_name (by first | (simp [plainName, overriddenIn]; done) | decide +kernel)
set_option maxRecDepth 65536 in
set_option maxHeartbeats 40000000 in
theorem c_cmpU {Z : State} {a0 : Array Value} (hw : ∀ d ∈ tables_1, d.before a0 Z = true) {x z : Int32} {h0 : Heap} {n0 : Nat} (Z0 : n0 ≤ h0.size) :
    Ctr Z n0 (⟨"java/lang/Integer", "compareUnsigned", "(II)I"⟩ : MethodName) jdk_33_method_41_code 2 (some .int) ({ frames := 1, cells := 0, slots := 0, locals := 13 } : Room) [(.int x), (.int z)] h0 (fun v h => h = h0 ∧ ((v = some (.int (-1)) ∧ x.toInt % 4294967296 < z.toInt % 4294967296) ∨ (v = some (.int 0) ∧ x.toInt % 4294967296 = z.toInt % 4294967296) ∨ (v = some (.int 1) ∧ x.toInt % 4294967296 > z.toInt % 4294967296))) := by
  refine Ctr.of (L := #[.val (.int x), .val (.int z)]) pn_4 Z0 (fun m => by first | (simp [entryFrame, mkF, argsToLocals, Value.category]; done) | rfl) ?_
  intro K T S0
  refine px_iloadN S0 d4_0 rfl rfl ?_
  refine px_ldcI S0 (hw _ (List.mem_of_getElem? (i := 23) rfl)) d4_1 rfl ?_
  refine px_iadd S0 d4_3 rfl ?_
  refine px_iloadN S0 d4_4 rfl rfl ?_
  refine px_ldcI S0 (hw _ (List.mem_of_getElem? (i := 23) rfl)) d4_5 rfl ?_
  refine px_iadd S0 d4_7 rfl ?_
  refine px_callS (as' := [(.int (x + (-2147483648 : Int32))), (.int (z + (-2147483648 : Int32)))]) (st := []) (W := 0) S0 (c_cmp hw S0.size) (hw _ (List.mem_of_getElem? (i := 24) rfl)) (hw _ (List.mem_of_getElem? (i := 25) rfl)) (hw _ (List.mem_of_getElem? (i := 21) rfl)) (hw _ (List.mem_of_getElem? (i := 26) rfl)) (by decide) pd_4_0 rfl rfl (by decide) rfl (by decide) (by decide) (by decide) d4_8 rfl rfl (fun T1 h1 v1 S1 q1 => ?_)
  obtain ⟨rfl, q1⟩ := q1
  rcases q1 with ⟨rfl, k1⟩ | ⟨rfl, k1⟩ | ⟨rfl, k1⟩
  · show Go _ _ _ _ _ _ _ [(.int (-1 : Int32))]
    exact px_retI S1 d4_11 rfl (by decide) (by decide) (⟨rfl, Or.inl ⟨rfl, cm_lt k1⟩⟩)
  · show Go _ _ _ _ _ _ _ [(.int (0 : Int32))]
    exact px_retI S1 d4_11 rfl (by decide) (by decide) (⟨rfl, Or.inr (Or.inl ⟨rfl, cm_eq k1⟩)⟩)
  · show Go _ _ _ _ _ _ _ [(.int (1 : Int32))]
    exact px_retI S1 d4_11 rfl (by decide) (by decide) (⟨rfl, Or.inr (Or.inr ⟨rfl, cm_gt k1⟩)⟩)
theorem d3_0 : decode prog_24_method_9_code 0 = .ok (.aload_n 0, 1) := by decide +kernel
theorem d3_1 : decode prog_24_method_9_code 1 = .ok (.iload_n 1, 1) := by decide +kernel
theorem d3_2 : decode prog_24_method_9_code 2 = .ok (.baload, 1) := by decide +kernel
theorem d3_3 : decode prog_24_method_9_code 3 = .ok (.sipush 255, 3) := by decide +kernel
theorem d3_6 : decode prog_24_method_9_code 6 = .ok (.iand, 1) := by decide +kernel
theorem d3_7 : decode prog_24_method_9_code 7 = .ok (.bipush 24, 2) := by decide +kernel
theorem d3_9 : decode prog_24_method_9_code 9 = .ok (.ishl, 1) := by decide +kernel
theorem d3_10 : decode prog_24_method_9_code 10 = .ok (.aload_n 0, 1) := by decide +kernel
theorem d3_11 : decode prog_24_method_9_code 11 = .ok (.iload_n 1, 1) := by decide +kernel
theorem d3_12 : decode prog_24_method_9_code 12 = .ok (.iconst 1, 1) := by decide +kernel
theorem d3_13 : decode prog_24_method_9_code 13 = .ok (.iadd, 1) := by decide +kernel
theorem d3_14 : decode prog_24_method_9_code 14 = .ok (.baload, 1) := by decide +kernel
theorem d3_15 : decode prog_24_method_9_code 15 = .ok (.sipush 255, 3) := by decide +kernel
theorem d3_18 : decode prog_24_method_9_code 18 = .ok (.iand, 1) := by decide +kernel
theorem d3_19 : decode prog_24_method_9_code 19 = .ok (.bipush 16, 2) := by decide +kernel
theorem d3_21 : decode prog_24_method_9_code 21 = .ok (.ishl, 1) := by decide +kernel
theorem d3_22 : decode prog_24_method_9_code 22 = .ok (.ior, 1) := by decide +kernel
theorem d3_23 : decode prog_24_method_9_code 23 = .ok (.aload_n 0, 1) := by decide +kernel
theorem d3_24 : decode prog_24_method_9_code 24 = .ok (.iload_n 1, 1) := by decide +kernel
theorem d3_25 : decode prog_24_method_9_code 25 = .ok (.iconst 2, 1) := by decide +kernel
theorem d3_26 : decode prog_24_method_9_code 26 = .ok (.iadd, 1) := by decide +kernel
theorem d3_27 : decode prog_24_method_9_code 27 = .ok (.baload, 1) := by decide +kernel
theorem d3_28 : decode prog_24_method_9_code 28 = .ok (.sipush 255, 3) := by decide +kernel
theorem d3_31 : decode prog_24_method_9_code 31 = .ok (.iand, 1) := by decide +kernel
theorem d3_32 : decode prog_24_method_9_code 32 = .ok (.bipush 8, 2) := by decide +kernel
theorem d3_34 : decode prog_24_method_9_code 34 = .ok (.ishl, 1) := by decide +kernel
theorem d3_35 : decode prog_24_method_9_code 35 = .ok (.ior, 1) := by decide +kernel
theorem d3_36 : decode prog_24_method_9_code 36 = .ok (.aload_n 0, 1) := by decide +kernel
theorem d3_37 : decode prog_24_method_9_code 37 = .ok (.iload_n 1, 1) := by decide +kernel
theorem d3_38 : decode prog_24_method_9_code 38 = .ok (.iconst 3, 1) := by decide +kernel
theorem d3_39 : decode prog_24_method_9_code 39 = .ok (.iadd, 1) := by decide +kernel
theorem d3_40 : decode prog_24_method_9_code 40 = .ok (.baload, 1) := by decide +kernel
theorem d3_41 : decode prog_24_method_9_code 41 = .ok (.sipush 255, 3) := by decide +kernel
theorem d3_44 : decode prog_24_method_9_code 44 = .ok (.iand, 1) := by decide +kernel
theorem d3_45 : decode prog_24_method_9_code 45 = .ok (.ior, 1) := by decide +kernel
theorem d3_46 : decode prog_24_method_9_code 46 = .ok (.ireturn, 1) := by decide +kernel
theorem pn_3 : plainFor (⟨"com/example/ferrule/ferrule/symbols/MachOExports", "bigEndianInt", "([BI)I"⟩ : MethodName) = true := plainFor_of_name (by first | (simp [plainName, overriddenIn]; done) | decide +kernel)
set_option maxRecDepth 65536 in
set_option maxHeartbeats 40000000 in
theorem c_be {Z : State} {a0 : Array Value} (hw : ∀ d ∈ tables_1, d.before a0 Z = true) {a : Addr} {n oN : Nat} {o H : Int32} {f : Nat → Int32} {h0 : Heap} {n0 : Nat} (Z0 : n0 ≤ h0.size) (ho : o.toInt = (oN : Int)) (hon : oN < 1000) (hn : oN + 3 < n) (A0 : AI Z h0 a .byte n f) (e0 : f oN = i2b (ushr H (24 : Int32))) (e1 : f (oN + 1) = i2b (ushr H (16 : Int32))) (e2 : f (oN + 2) = i2b (ushr H (8 : Int32))) (e3 : f (oN + 3) = i2b H) :
    Ctr Z n0 (⟨"com/example/ferrule/ferrule/symbols/MachOExports", "bigEndianInt", "([BI)I"⟩ : MethodName) prog_24_method_9_code 2 (some .int) ({ frames := 0, cells := 0, slots := 0, locals := 0 } : Room) [(.ref a), (.int o)] h0 (fun v h => v = some (.int H) ∧ h = h0) := by
  refine Ctr.of (L := #[.val (.ref a), .val (.int o)]) pn_3 Z0 (fun m => by first | (simp [entryFrame, mkF, argsToLocals, Value.category]; done) | rfl) ?_
  intro K T S0
  refine px_aloadN S0 d3_0 rfl rfl rfl ?_
  refine px_iloadN S0 d3_1 rfl rfl ?_
  refine px_baload (v := (i2b (ushr H (24 : Int32)))) S0 A0 (i := oN) ho (by omega) e0 d3_2 rfl ?_
  refine px_sipush (v := (255 : Int32)) S0 d3_3 rfl rfl ?_
  refine px_iand S0 d3_6 rfl ?_
  refine px_bipush (v := (24 : Int32)) S0 d3_7 rfl rfl ?_
  refine px_ishl S0 d3_9 rfl ?_
  refine px_aloadN S0 d3_10 rfl rfl rfl ?_
  refine px_iloadN S0 d3_11 rfl rfl ?_
  refine px_iconst (v := (1 : Int32)) S0 d3_12 rfl rfl ?_
  refine px_iadd S0 d3_13 rfl ?_
  refine px_baload (v := (i2b (ushr H (16 : Int32)))) S0 A0 (i := oN + 1) (by have q0 := c_iadd o (1 : Int32); have q1 := rng32 (o + (1 : Int32)); have q2 := rng32 o; have q3 := (show (1 : Int32).toInt = 1 from rfl); omega) (by omega) e1 d3_14 rfl ?_
  refine px_sipush (v := (255 : Int32)) S0 d3_15 rfl rfl ?_
  refine px_iand S0 d3_18 rfl ?_
  refine px_bipush (v := (16 : Int32)) S0 d3_19 rfl rfl ?_
  refine px_ishl S0 d3_21 rfl ?_
  refine px_ior S0 d3_22 rfl ?_
  refine px_aloadN S0 d3_23 rfl rfl rfl ?_
  refine px_iloadN S0 d3_24 rfl rfl ?_
  refine px_iconst (v := (2 : Int32)) S0 d3_25 rfl rfl ?_
  refine px_iadd S0 d3_26 rfl ?_
  refine px_baload (v := (i2b (ushr H (8 : Int32)))) S0 A0 (i := oN + 2) (by have q0 := c_iadd o (2 : Int32); have q1 := rng32 (o + (2 : Int32)); have q2 := rng32 o; have q3 := (show (2 : Int32).toInt = 2 from rfl); omega) (by omega) e2 d3_27 rfl ?_
  refine px_sipush (v := (255 : Int32)) S0 d3_28 rfl rfl ?_
  refine px_iand S0 d3_31 rfl ?_
  refine px_bipush (v := (8 : Int32)) S0 d3_32 rfl rfl ?_
  refine px_ishl S0 d3_34 rfl ?_
  refine px_ior S0 d3_35 rfl ?_
  refine px_aloadN S0 d3_36 rfl rfl rfl ?_
  refine px_iloadN S0 d3_37 rfl rfl ?_
  refine px_iconst (v := (3 : Int32)) S0 d3_38 rfl rfl ?_
  refine px_iadd S0 d3_39 rfl ?_
  refine px_baload (v := (i2b H)) S0 A0 (i := oN + 3) (by have q0 := c_iadd o (3 : Int32); have q1 := rng32 (o + (3 : Int32)); have q2 := rng32 o; have q3 := (show (3 : Int32).toInt = 3 from rfl); omega) (by omega) e3 d3_40 rfl ?_
  refine px_sipush (v := (255 : Int32)) S0 d3_41 rfl rfl ?_
  refine px_iand S0 d3_44 rfl ?_
  refine px_ior S0 d3_45 rfl ?_
  exact px_retI S0 d3_46 rfl (by decide) (by decide) (⟨congrArg (fun q => some (Value.int q)) (be_eq H), rfl⟩)
theorem d2_0 : decode prog_24_method_2_code 0 = .ok (.aload_n 0, 1) := by decide +kernel
theorem d2_1 : decode prog_24_method_2_code 1 = .ok (.arraylength, 1) := by decide +kernel
theorem d2_2 : decode prog_24_method_2_code 2 = .ok (.iconst 4, 1) := by decide +kernel
theorem d2_3 : decode prog_24_method_2_code 3 = .ok (.if_icmp .ge 5, 3) := by decide +kernel
theorem d2_6 : decode prog_24_method_2_code 6 = .ok (.iconst 0, 1) := by decide +kernel
theorem d2_7 : decode prog_24_method_2_code 7 = .ok (.ireturn, 1) := by decide +kernel
theorem d2_8 : decode prog_24_method_2_code 8 = .ok (.aload_n 0, 1) := by decide +kernel
theorem d2_9 : decode prog_24_method_2_code 9 = .ok (.iconst 0, 1) := by decide +kernel
theorem d2_10 : decode prog_24_method_2_code 10 = .ok (.invokestatic 13, 3) := by decide +kernel
theorem d2_13 : decode prog_24_method_2_code 13 = .ok (.lookupswitch 91 #[(-889275714, 63), (-889275713, 59), (-822415874, 59), (-805638658, 59), (-17958194, 59), (-17958193, 59)], 59) := by decide +kernel
theorem d2_72 : decode prog_24_method_2_code 72 = .ok (.iconst 1, 1) := by decide +kernel
theorem d2_73 : decode prog_24_method_2_code 73 = .ok (.goto 32, 3) := by decide +kernel
theorem d2_76 : decode prog_24_method_2_code 76 = .ok (.aload_n 0, 1) := by decide +kernel
theorem d2_77 : decode prog_24_method_2_code 77 = .ok (.arraylength, 1) := by decide +kernel
theorem d2_78 : decode prog_24_method_2_code 78 = .ok (.bipush 8, 2) := by decide +kernel
theorem d2_80 : decode prog_24_method_2_code 80 = .ok (.if_icmp .lt 16, 3) := by decide +kernel
theorem d2_83 : decode prog_24_method_2_code 83 = .ok (.aload_n 0, 1) := by decide +kernel
theorem d2_84 : decode prog_24_method_2_code 84 = .ok (.iconst 4, 1) := by decide +kernel
theorem d2_85 : decode prog_24_method_2_code 85 = .ok (.invokestatic 13, 3) := by decide +kernel
theorem d2_88 : decode prog_24_method_2_code 88 = .ok (.bipush 45, 2) := by decide +kernel
theorem d2_90 : decode prog_24_method_2_code 90 = .ok (.invokestatic 17, 3) := by decide +kernel
theorem d2_93 : decode prog_24_method_2_code 93 = .ok (.ifCond .ge 7, 3) := by decide +kernel
theorem d2_96 : decode prog_24_method_2_code 96 = .ok (.iconst 1, 1) := by decide +kernel
theorem d2_97 : decode prog_24_method_2_code 97 = .ok (.goto 8, 3) := by decide +kernel
theorem d2_100 : decode prog_24_method_2_code 100 = .ok (.iconst 0, 1) := by decide +kernel
theorem d2_101 : decode prog_24_method_2_code 101 = .ok (.goto 4, 3) := by decide +kernel
theorem d2_104 : decode prog_24_method_2_code 104 = .ok (.iconst 0, 1) := by decide +kernel
theorem d2_105 : decode prog_24_method_2_code 105 = .ok (.ireturn, 1) := by decide +kernel
theorem pd_2_0 : parseMethodDescriptor "([BI)I" = some ⟨[(.array .byte), .int], some .int⟩ := by decide +kernel
theorem pd_2_1 : parseMethodDescriptor "(II)I" = some ⟨[.int, .int], some .int⟩ := by decide +kernel
theorem pn_2 : plainFor (⟨"com/example/ferrule/ferrule/symbols/MachOExports", "recognises", "([B)Z"⟩ : MethodName) = true := plainFor_of_name (by first | (simp [plainName, overriddenIn]; done) | decide +kernel)
set_option maxRecDepth 65536 in
set_option maxHeartbeats 40000000 in
theorem c_rec {Z : State} {a0 : Array Value} (hw : ∀ d ∈ tables_1, d.before a0 Z = true) {a : Addr} {n : Nat} {nl H S : Int32} {f : Nat → Int32} {h0 : Heap} {n0 : Nat} (Z0 : n0 ≤ h0.size) (hnl : nl.toInt = (n : Int)) (A0 : AI Z h0 a .byte n f) (e0 : f 0 = i2b (ushr H (24 : Int32))) (e1 : f 1 = i2b (ushr H (16 : Int32))) (e2 : f 2 = i2b (ushr H (8 : Int32))) (e3 : f 3 = i2b H) (e4 : f 4 = i2b (ushr S (24 : Int32))) (e5 : f 5 = i2b (ushr S (16 : Int32))) (e6 : f 6 = i2b (ushr S (8 : Int32))) (e7 : f 7 = i2b S) :
    Ctr Z n0 (⟨"com/example/ferrule/ferrule/symbols/MachOExports", "recognises", "([B)Z"⟩ : MethodName) prog_24_method_2_code 1 (some .boolean) ({ frames := 2, cells := 0, slots := 0, locals := 26 } : Room) [(.ref a)] h0 (fun v h => h = h0 ∧ ((nl.toInt < 4 ∧ v = some (.int 0)) ∨ (4 ≤ nl.toInt ∧ H.toInt = (-17958193 : Int32).toInt ∧ v = some (.int 1)) ∨ (4 ≤ nl.toInt ∧ H.toInt = (-805638658 : Int32).toInt ∧ v = some (.int 1)) ∨ (4 ≤ nl.toInt ∧ H.toInt = (-17958194 : Int32).toInt ∧ v = some (.int 1)) ∨ (4 ≤ nl.toInt ∧ H.toInt = (-822415874 : Int32).toInt ∧ v = some (.int 1)) ∨ (4 ≤ nl.toInt ∧ H.toInt = (-889275713 : Int32).toInt ∧ v = some (.int 1)) ∨ (4 ≤ nl.toInt ∧ H.toInt = (-889275714 : Int32).toInt ∧ nl.toInt < 8 ∧ v = some (.int 1)) ∨ (8 ≤ nl.toInt ∧ H.toInt = (-889275714 : Int32).toInt ∧ (0 ≤ S.toInt ∧ S.toInt < 45) ∧ v = some (.int 1)) ∨ (8 ≤ nl.toInt ∧ H.toInt = (-889275714 : Int32).toInt ∧ (S.toInt < 0 ∨ 45 ≤ S.toInt) ∧ v = some (.int 0)) ∨ (4 ≤ nl.toInt ∧ ¬ H.toInt = (-17958193 : Int32).toInt ∧ ¬ H.toInt = (-805638658 : Int32).toInt ∧ ¬ H.toInt = (-17958194 : Int32).toInt ∧ ¬ H.toInt = (-822415874 : Int32).toInt ∧ ¬ H.toInt = (-889275713 : Int32).toInt ∧ ¬ H.toInt = (-889275714 : Int32).toInt ∧ v = some (.int 0)))) := by
  refine Ctr.of (L := #[.val (.ref a)]) pn_2 Z0 (fun m => by first | (simp [entryFrame, mkF, argsToLocals, Value.category]; done) | rfl) ?_
  intro K T S0
  refine px_aloadN S0 d2_0 rfl rfl rfl ?_
  refine px_alenI (v := nl) S0 A0 hnl d2_1 rfl ?_
  refine px_iconst (v := (4 : Int32)) S0 d2_2 rfl rfl ?_
  refine px_icmp S0 d2_3 (by decide) (pc' := 8) rfl rfl (fun (hc1 : nl.toInt ≥ (4 : Int32).toInt) => ?_) (fun (hc1 : nl.toInt < (4 : Int32).toInt) => ?_)
  · refine px_aloadN S0 d2_8 rfl rfl rfl ?_
    refine px_iconst (v := (0 : Int32)) S0 d2_9 rfl rfl ?_
    refine px_callS (as' := [(.ref a), (.int (0 : Int32))]) (st := []) (W := 0) S0 (c_be (oN := 0) (H := H) hw S0.size rfl (by decide) (by have q0 := rng32 nl; have q1 := (show (4 : Int32).toInt = 4 from rfl); omega) A0 e0 e1 e2 e3) (hw _ (List.mem_of_getElem? (i := 12) rfl)) (hw _ (List.mem_of_getElem? (i := 13) rfl)) (hw _ (List.mem_of_getElem? (i := 9) rfl)) (hw _ (List.mem_of_getElem? (i := 14) rfl)) (by decide) pd_2_0 rfl rfl (by decide) rfl (by decide) (by decide) (by decide) d2_10 rfl rfl (fun T2 h2 v2 S2 q2 => ?_)
    obtain ⟨rfl, rfl⟩ := q2
    show Go _ _ _ _ _ _ _ [(.int H)]
    by_cases hc3 : (-889275714 : Int) = H.toInt
    · refine px_lsw S2 d2_13 rfl (by decide) (o := 63) (by simp [lookupswitch.offset, ← hc3]) (by decide) (pc' := 76) rfl ?_
      refine px_aloadN S2 d2_76 rfl rfl rfl ?_
      refine px_alenI (v := nl) S2 A0 hnl d2_77 rfl ?_
      refine px_bipush (v := (8 : Int32)) S2 d2_78 rfl rfl ?_
      refine px_icmp S2 d2_80 (by decide) (pc' := 96) rfl rfl (fun (hc4 : nl.toInt < (8 : Int32).toInt) => ?_) (fun (hc4 : nl.toInt ≥ (8 : Int32).toInt) => ?_)
      · refine px_iconst (v := (1 : Int32)) S2 d2_96 rfl rfl ?_
        refine px_goto S2 d2_97 (by decide) (pc' := 105) rfl ?_
        exact px_retN (t := .boolean) (z' := (1 : Int32)) S2 d2_105 rfl (by simp) rfl (by decide) (by decide) (⟨rfl, Or.inr (Or.inr (Or.inr (Or.inr (Or.inr (Or.inr (Or.inl (⟨by have q0 := rng32 nl; have q1 := rng32 S; have q2 := (show (4 : Int32).toInt = 4 from rfl); have q3 := rng32 H; have q4 := (show (8 : Int32).toInt = 8 from rfl); omega, (by rw [← hc3]; rfl), by have q0 := rng32 nl; have q1 := rng32 S; have q2 := (show (4 : Int32).toInt = 4 from rfl); have q3 := rng32 H; have q4 := (show (8 : Int32).toInt = 8 from rfl); omega, rfl⟩)))))))⟩)
      · refine px_aloadN S2 d2_83 rfl rfl rfl ?_
        refine px_iconst (v := (4 : Int32)) S2 d2_84 rfl rfl ?_
        refine px_callS (as' := [(.ref a), (.int (4 : Int32))]) (st := []) (W := 0) S2 (c_be (oN := 4) (H := S) hw S2.size rfl (by decide) (by have q0 := rng32 nl; have q1 := (show (4 : Int32).toInt = 4 from rfl); have q2 := rng32 H; have q3 := (show (8 : Int32).toInt = 8 from rfl); omega) A0 e4 e5 e6 e7) (hw _ (List.mem_of_getElem? (i := 12) rfl)) (hw _ (List.mem_of_getElem? (i := 13) rfl)) (hw _ (List.mem_of_getElem? (i := 9) rfl)) (hw _ (List.mem_of_getElem? (i := 14) rfl)) (by decide) pd_2_0 rfl rfl (by decide) rfl (by decide) (by decide) (by decide) d2_85 rfl rfl (fun T5 h5 v5 S5 q5 => ?_)
        obtain ⟨rfl, rfl⟩ := q5
        show Go _ _ _ _ _ _ _ [(.int S)]
        refine px_bipush (v := (45 : Int32)) S5 d2_88 rfl rfl ?_
        refine px_callS (as' := [(.int S), (.int (45 : Int32))]) (st := []) (W := 0) S5 (c_cmpU hw S5.size) (hw _ (List.mem_of_getElem? (i := 19) rfl)) (hw _ (List.mem_of_getElem? (i := 20) rfl)) (hw _ (List.mem_of_getElem? (i := 21) rfl)) (hw _ (List.mem_of_getElem? (i := 22) rfl)) (by decide) pd_2_1 rfl rfl (by decide) rfl (by decide) (by decide) (by decide) d2_90 rfl rfl (fun T6 h6 v6 S6 q6 => ?_)
        obtain ⟨rfl, q6⟩ := q6
        rcases q6 with ⟨rfl, k6⟩ | ⟨rfl, k6⟩ | ⟨rfl, k6⟩
        · show Go _ _ _ _ _ _ _ [(.int (-1 : Int32))]
          refine px_if0 S6 d2_93 (by decide) (pc' := 100) rfl rfl (fun (hc7 : (-1 : Int32).toInt ≥ 0) => by exfalso; revert hc7; decide) (fun (hc7 : (-1 : Int32).toInt < 0) => ?_)
          refine px_iconst (v := (1 : Int32)) S6 d2_96 rfl rfl ?_
          refine px_goto S6 d2_97 (by decide) (pc' := 105) rfl ?_
          exact px_retN (t := .boolean) (z' := (1 : Int32)) S6 d2_105 rfl (by simp) rfl (by decide) (by decide) (⟨rfl, Or.inr (Or.inr (Or.inr (Or.inr (Or.inr (Or.inr (Or.inr (Or.inl (⟨by have q0 := rng32 nl; have q1 := rng32 S; have q2 := (show (4 : Int32).toInt = 4 from rfl); have q3 := rng32 H; have q4 := (show (8 : Int32).toInt = 8 from rfl); have q5 := (show (45 : Int32).toInt = 45 from rfl); omega, (by rw [← hc3]; rfl), by have q0 := rng32 nl; have q1 := rng32 S; have q2 := (show (4 : Int32).toInt = 4 from rfl); have q3 := rng32 H; have q4 := (show (8 : Int32).toInt = 8 from rfl); have q5 := (show (45 : Int32).toInt = 45 from rfl); omega, rfl⟩))))))))⟩)
        · show Go _ _ _ _ _ _ _ [(.int (0 : Int32))]
          refine px_if0 S6 d2_93 (by decide) (pc' := 100) rfl rfl (fun (hc8 : (0 : Int32).toInt ≥ 0) => ?_) (fun (hc8 : (0 : Int32).toInt < 0) => by exfalso; revert hc8; decide)
          refine px_iconst (v := (0 : Int32)) S6 d2_100 rfl rfl ?_
          refine px_goto S6 d2_101 (by decide) (pc' := 105) rfl ?_
          exact px_retN (t := .boolean) (z' := (0 : Int32)) S6 d2_105 rfl (by simp) rfl (by decide) (by decide) (⟨rfl, Or.inr (Or.inr (Or.inr (Or.inr (Or.inr (Or.inr (Or.inr (Or.inr (Or.inl (⟨by have q0 := rng32 nl; have q1 := rng32 S; have q2 := (show (4 : Int32).toInt = 4 from rfl); have q3 := rng32 H; have q4 := (show (8 : Int32).toInt = 8 from rfl); have q5 := (show (45 : Int32).toInt = 45 from rfl); omega, (by rw [← hc3]; rfl), by have q0 := rng32 nl; have q1 := rng32 S; have q2 := (show (4 : Int32).toInt = 4 from rfl); have q3 := rng32 H; have q4 := (show (8 : Int32).toInt = 8 from rfl); have q5 := (show (45 : Int32).toInt = 45 from rfl); omega, rfl⟩)))))))))⟩)
        · show Go _ _ _ _ _ _ _ [(.int (1 : Int32))]
          refine px_if0 S6 d2_93 (by decide) (pc' := 100) rfl rfl (fun (hc9 : (1 : Int32).toInt ≥ 0) => ?_) (fun (hc9 : (1 : Int32).toInt < 0) => by exfalso; revert hc9; decide)
          refine px_iconst (v := (0 : Int32)) S6 d2_100 rfl rfl ?_
          refine px_goto S6 d2_101 (by decide) (pc' := 105) rfl ?_
          exact px_retN (t := .boolean) (z' := (0 : Int32)) S6 d2_105 rfl (by simp) rfl (by decide) (by decide) (⟨rfl, Or.inr (Or.inr (Or.inr (Or.inr (Or.inr (Or.inr (Or.inr (Or.inr (Or.inl (⟨by have q0 := rng32 nl; have q1 := rng32 S; have q2 := (show (4 : Int32).toInt = 4 from rfl); have q3 := rng32 H; have q4 := (show (8 : Int32).toInt = 8 from rfl); have q5 := (show (45 : Int32).toInt = 45 from rfl); omega, (by rw [← hc3]; rfl), by have q0 := rng32 nl; have q1 := rng32 S; have q2 := (show (4 : Int32).toInt = 4 from rfl); have q3 := rng32 H; have q4 := (show (8 : Int32).toInt = 8 from rfl); have q5 := (show (45 : Int32).toInt = 45 from rfl); omega, rfl⟩)))))))))⟩)
    · by_cases hc10 : (-889275713 : Int) = H.toInt
      · refine px_lsw S2 d2_13 rfl (by decide) (o := 59) (by simp [lookupswitch.offset, ← hc10]) (by decide) (pc' := 72) rfl ?_
        refine px_iconst (v := (1 : Int32)) S2 d2_72 rfl rfl ?_
        refine px_goto S2 d2_73 (by decide) (pc' := 105) rfl ?_
        exact px_retN (t := .boolean) (z' := (1 : Int32)) S2 d2_105 rfl (by simp) rfl (by decide) (by decide) (⟨rfl, Or.inr (Or.inr (Or.inr (Or.inr (Or.inr (Or.inl (⟨by have q0 := rng32 nl; have q1 := (show (4 : Int32).toInt = 4 from rfl); have q2 := rng32 H; omega, (by rw [← hc10]; rfl), rfl⟩))))))⟩)
      · by_cases hc11 : (-822415874 : Int) = H.toInt
        · refine px_lsw S2 d2_13 rfl (by decide) (o := 59) (by simp [lookupswitch.offset, ← hc11]) (by decide) (pc' := 72) rfl ?_
          refine px_iconst (v := (1 : Int32)) S2 d2_72 rfl rfl ?_
          refine px_goto S2 d2_73 (by decide) (pc' := 105) rfl ?_
          exact px_retN (t := .boolean) (z' := (1 : Int32)) S2 d2_105 rfl (by simp) rfl (by decide) (by decide) (⟨rfl, Or.inr (Or.inr (Or.inr (Or.inr (Or.inl (⟨by have q0 := rng32 nl; have q1 := (show (4 : Int32).toInt = 4 from rfl); have q2 := rng32 H; omega, (by rw [← hc11]; rfl), rfl⟩)))))⟩)
        · by_cases hc12 : (-805638658 : Int) = H.toInt
          · refine px_lsw S2 d2_13 rfl (by decide) (o := 59) (by simp [lookupswitch.offset, ← hc12]) (by decide) (pc' := 72) rfl ?_
            refine px_iconst (v := (1 : Int32)) S2 d2_72 rfl rfl ?_
            refine px_goto S2 d2_73 (by decide) (pc' := 105) rfl ?_
            exact px_retN (t := .boolean) (z' := (1 : Int32)) S2 d2_105 rfl (by simp) rfl (by decide) (by decide) (⟨rfl, Or.inr (Or.inr (Or.inl (⟨by have q0 := rng32 nl; have q1 := (show (4 : Int32).toInt = 4 from rfl); have q2 := rng32 H; omega, (by rw [← hc12]; rfl), rfl⟩)))⟩)
          · by_cases hc13 : (-17958194 : Int) = H.toInt
            · refine px_lsw S2 d2_13 rfl (by decide) (o := 59) (by simp [lookupswitch.offset, ← hc13]) (by decide) (pc' := 72) rfl ?_
              refine px_iconst (v := (1 : Int32)) S2 d2_72 rfl rfl ?_
              refine px_goto S2 d2_73 (by decide) (pc' := 105) rfl ?_
              exact px_retN (t := .boolean) (z' := (1 : Int32)) S2 d2_105 rfl (by simp) rfl (by decide) (by decide) (⟨rfl, Or.inr (Or.inr (Or.inr (Or.inl (⟨by have q0 := rng32 nl; have q1 := (show (4 : Int32).toInt = 4 from rfl); have q2 := rng32 H; omega, (by rw [← hc13]; rfl), rfl⟩))))⟩)
            · by_cases hc14 : (-17958193 : Int) = H.toInt
              · refine px_lsw S2 d2_13 rfl (by decide) (o := 59) (by simp [lookupswitch.offset, ← hc14]) (by decide) (pc' := 72) rfl ?_
                refine px_iconst (v := (1 : Int32)) S2 d2_72 rfl rfl ?_
                refine px_goto S2 d2_73 (by decide) (pc' := 105) rfl ?_
                exact px_retN (t := .boolean) (z' := (1 : Int32)) S2 d2_105 rfl (by simp) rfl (by decide) (by decide) (⟨rfl, Or.inr (Or.inl (⟨by have q0 := rng32 nl; have q1 := (show (4 : Int32).toInt = 4 from rfl); have q2 := rng32 H; omega, (by rw [← hc14]; rfl), rfl⟩))⟩)
              · refine px_lsw S2 d2_13 rfl (by decide) (o := 91) (by simp [lookupswitch.offset, hc3, hc10, hc11, hc12, hc13, hc14]) (by decide) (pc' := 104) rfl ?_
                refine px_iconst (v := (0 : Int32)) S2 d2_104 rfl rfl ?_
                exact px_retN (t := .boolean) (z' := (0 : Int32)) S2 d2_105 rfl (by simp) rfl (by decide) (by decide) (⟨rfl, Or.inr (Or.inr (Or.inr (Or.inr (Or.inr (Or.inr (Or.inr (Or.inr (Or.inr (⟨by have q0 := rng32 nl; have q1 := (show (4 : Int32).toInt = 4 from rfl); have q2 := rng32 H; omega, fun q => hc14 (by rw [q]; rfl), fun q => hc12 (by rw [q]; rfl), fun q => hc13 (by rw [q]; rfl), fun q => hc11 (by rw [q]; rfl), fun q => hc10 (by rw [q]; rfl), fun q => hc3 (by rw [q]; rfl), rfl⟩)))))))))⟩)
  · refine px_iconst (v := (0 : Int32)) S0 d2_6 rfl rfl ?_
    exact px_retN (t := .boolean) (z' := (0 : Int32)) S0 d2_7 rfl (by simp) rfl (by decide) (by decide) (⟨rfl, Or.inl (⟨by have q0 := rng32 nl; have q1 := (show (4 : Int32).toInt = 4 from rfl); omega, rfl⟩)⟩)
theorem pd_0_0 : parseMethodDescriptor "([BII)V" = some ⟨[(.array .byte), .int, .int], none⟩ := by decide +kernel
theorem pd_0_1 : parseMethodDescriptor "([B)Z" = some ⟨[(.array .byte)], some .boolean⟩ := by decide +kernel
theorem pn_0 : plainFor x = true := plainFor_of_name (by first | (simp [plainName, overriddenIn]; done) | decide +kernel)
set_option maxRecDepth 65536 in
set_option maxHeartbeats 40000000 in
theorem law_ctr {Z : State} {a0 : Array Value} (hw : ∀ d ∈ tables_1, d.before a0 Z = true) (i0 i1 i2 i3 i4 : Int32) {h0 : Heap} {n0 : Nat} (Z0 : n0 ≤ h0.size) :
    Ctr Z n0 x code maxLocals ret room_1 [(.int i0), (.int i1), (.int i2), (.int i3), (.int i4)] h0 (fun v h => v = some (.int 1)) := by
  refine Ctr.of (L := #[.val (.int i0), .val (.int i1), .val (.int i2), .val (.int i3), .val (.int i4), .unset, .unset, .unset, .unset, .unset, .unset, .unset]) pn_0 Z0 (fun m => by first | (simp [entryFrame, mkF, argsToLocals, Value.category, maxLocals]; done) | rfl) ?_
  intro K T S0
  refine px_iload S0 at_0 rfl rfl ?_
  refine px_ldcI S0 (hw _ (List.mem_of_getElem? (i := 0) rfl)) at_2 rfl ?_
  refine px_iand S0 at_4 rfl ?_
  refine px_bipush (v := (10 : Int32)) S0 at_5 rfl rfl ?_
  refine px_irem S0 at_7 rfl (by decide) ?_
  generalize h_v1 : ((i4 &&& (2147483647 : Int32)) % (10 : Int32)) = v1
  refine px_istore S0 at_8 rfl (L' := #[.val (.int i0), .val (.int i1), .val (.int i2), .val (.int i3), .val (.int i4), .val (.int v1), .unset, .unset, .unset, .unset, .unset, .unset]) rfl ?_
  refine px_iloadN S0 at_10 rfl rfl ?_
  refine px_bipush (v := (7 : Int32)) S0 at_11 rfl rfl ?_
  refine px_iand S0 at_13 rfl ?_
  generalize h_v2 : (i0 &&& (7 : Int32)) = v2
  refine px_istore S0 at_14 rfl (L' := #[.val (.int i0), .val (.int i1), .val (.int i2), .val (.int i3), .val (.int i4), .val (.int v1), .val (.int v2), .unset, .unset, .unset, .unset, .unset]) rfl ?_
  refine Go.join (P := fun hd0 : Int32 => True) (pcj := 96) (Lj := fun hd0 => #[.val (.int i0), .val (.int i1), .val (.int i2), .val (.int i3), .val (.int i4), .val (.int v1), .val (.int v2), .val (.int hd0), .unset, .unset, .unset, .unset]) (stj := fun hd0 => []) (fun hd0 p_hd0 => ?_) (fun J3 => ?_)
  · show Go _ _ _ _ _ 96 #[.val (.int i0), .val (.int i1), .val (.int i2), .val (.int i3), .val (.int i4), .val (.int v1), .val (.int v2), .val (.int hd0), .unset, .unset, .unset, .unset] []
    refine Go.join (P := fun hd : Int32 => True) (pcj := 115) (Lj := fun hd => #[.val (.int i0), .val (.int i1), .val (.int i2), .val (.int i3), .val (.int i4), .val (.int v1), .val (.int v2), .val (.int hd), .unset, .unset, .unset, .unset]) (stj := fun hd => []) (fun hd p_hd => ?_) (fun J4 => ?_)
    · show Go _ _ _ _ _ 115 #[.val (.int i0), .val (.int i1), .val (.int i2), .val (.int i3), .val (.int i4), .val (.int v1), .val (.int v2), .val (.int hd), .unset, .unset, .unset, .unset] []
      refine Go.join (P := fun sec : Int32 => True) (pcj := 136) (Lj := fun sec => #[.val (.int i0), .val (.int i1), .val (.int i2), .val (.int i3), .val (.int i4), .val (.int v1), .val (.int v2), .val (.int hd), .unset, .unset, .unset, .unset]) (stj := fun sec => [(.int sec)]) (fun sec p_sec => ?_) (fun J5 => ?_)
      · show Go _ _ _ _ _ 136 #[.val (.int i0), .val (.int i1), .val (.int i2), .val (.int i3), .val (.int i4), .val (.int v1), .val (.int v2), .val (.int hd), .unset, .unset, .unset, .unset] [(.int sec)]
        refine px_istore S0 at_136 rfl (L' := #[.val (.int i0), .val (.int i1), .val (.int i2), .val (.int i3), .val (.int i4), .val (.int v1), .val (.int v2), .val (.int hd), .val (.int sec), .unset, .unset, .unset]) rfl ?_
        refine px_iload S0 at_138 rfl rfl ?_
        refine px_newarr (aty := .byte) (cap := 9) S0 (hw _ (List.mem_of_getElem? (i := 2) rfl)) rfl (n := v1.toInt.toNat) (by have q0 := rng32 v1; have q1 := congrArg Int32.toInt h_v1; have q2 := f_irem (i4 &&& (2147483647 : Int32)) (10 : Int32) 10 rfl; have q3 := rng32 ((i4 &&& (2147483647 : Int32)) % (10 : Int32)); have q4 := f_imask i4 (2147483647 : Int32) 31 2147483648 (by decide) (by decide) (by decide); have q5 := rng32 i4; have q6 := (show (2147483647 : Int32).toInt = 2147483647 from rfl); have q7 := (show (10 : Int32).toInt = 10 from rfl); have q8 := rng32 hd0; have q9 := rng32 hd; have q10 := rng32 sec; omega) (by have q0 := rng32 v1; have q1 := congrArg Int32.toInt h_v1; have q2 := f_irem (i4 &&& (2147483647 : Int32)) (10 : Int32) 10 rfl; have q3 := rng32 ((i4 &&& (2147483647 : Int32)) % (10 : Int32)); have q4 := f_imask i4 (2147483647 : Int32) 31 2147483648 (by decide) (by decide) (by decide); have q5 := rng32 i4; have q6 := (show (2147483647 : Int32).toInt = 2147483647 from rfl); have q7 := (show (10 : Int32).toInt = 10 from rfl); have q8 := rng32 hd0; have q9 := rng32 hd; have q10 := rng32 sec; omega) (by decide) (by decide) (by decide) at_140 rfl (fun T6 h6 b6 z6 g_b6 S6 E6 A_b6 => ?_)
        refine px_astore S6 at_142 rfl rfl (L' := #[.val (.int i0), .val (.int i1), .val (.int i2), .val (.int i3), .val (.int i4), .val (.int v1), .val (.int v2), .val (.int hd), .val (.int sec), .val (.ref b6), .unset, .unset]) rfl ?_
        refine px_aload S6 at_144 rfl rfl rfl ?_
        refine px_iconst (v := (0 : Int32)) S6 at_146 rfl rfl ?_
        refine px_iload S6 at_147 rfl rfl ?_
        refine px_bipush (v := (24 : Int32)) S6 at_149 rfl rfl ?_
        refine px_iushr S6 at_151 rfl ?_
        refine px_callS (as' := [(.ref b6), (.int (0 : Int32)), (.int (ushr hd (24 : Int32)))]) (st := []) (W := 0) S6 (c_put (k := 0) (nl := v1) hw S6.size (by have q0 := rng32 v1; have q1 := congrArg Int32.toInt h_v1; have q2 := f_irem (i4 &&& (2147483647 : Int32)) (10 : Int32) 10 rfl; have q3 := rng32 ((i4 &&& (2147483647 : Int32)) % (10 : Int32)); have q4 := f_imask i4 (2147483647 : Int32) 31 2147483648 (by decide) (by decide) (by decide); have q5 := rng32 i4; have q6 := (show (2147483647 : Int32).toInt = 2147483647 from rfl); have q7 := (show (10 : Int32).toInt = 10 from rfl); have q8 := rng32 hd0; have q9 := rng32 hd; have q10 := rng32 sec; omega) rfl g_b6 A_b6) (hw _ (List.mem_of_getElem? (i := 3) rfl)) (hw _ (List.mem_of_getElem? (i := 4) rfl)) (hw _ (List.mem_of_getElem? (i := 5) rfl)) (hw _ (List.mem_of_getElem? (i := 6) rfl)) (by decide) pd_0_0 rfl rfl (by decide) rfl (by decide) (by decide) (by decide) at_152 rfl rfl (fun T7 h7 v7 S7 q7 => ?_)
        obtain ⟨rfl, A_b6⟩ := q7
        show Go _ _ _ _ _ _ _ []
        refine px_aload S7 at_155 rfl rfl rfl ?_
        refine px_iconst (v := (1 : Int32)) S7 at_157 rfl rfl ?_
        refine px_iload S7 at_158 rfl rfl ?_
        refine px_bipush (v := (16 : Int32)) S7 at_160 rfl rfl ?_
        refine px_iushr S7 at_162 rfl ?_
        refine px_callS (as' := [(.ref b6), (.int (1 : Int32)), (.int (ushr hd (16 : Int32)))]) (st := []) (W := 0) S7 (c_put (k := 1) (nl := v1) hw S7.size (by have q0 := rng32 v1; have q1 := congrArg Int32.toInt h_v1; have q2 := f_irem (i4 &&& (2147483647 : Int32)) (10 : Int32) 10 rfl; have q3 := rng32 ((i4 &&& (2147483647 : Int32)) % (10 : Int32)); have q4 := f_imask i4 (2147483647 : Int32) 31 2147483648 (by decide) (by decide) (by decide); have q5 := rng32 i4; have q6 := (show (2147483647 : Int32).toInt = 2147483647 from rfl); have q7 := (show (10 : Int32).toInt = 10 from rfl); have q8 := rng32 hd0; have q9 := rng32 hd; have q10 := rng32 sec; omega) rfl g_b6 A_b6) (hw _ (List.mem_of_getElem? (i := 3) rfl)) (hw _ (List.mem_of_getElem? (i := 4) rfl)) (hw _ (List.mem_of_getElem? (i := 5) rfl)) (hw _ (List.mem_of_getElem? (i := 6) rfl)) (by decide) pd_0_0 rfl rfl (by decide) rfl (by decide) (by decide) (by decide) at_163 rfl rfl (fun T8 h8 v8 S8 q8 => ?_)
        obtain ⟨rfl, A_b6⟩ := q8
        show Go _ _ _ _ _ _ _ []
        refine px_aload S8 at_166 rfl rfl rfl ?_
        refine px_iconst (v := (2 : Int32)) S8 at_168 rfl rfl ?_
        refine px_iload S8 at_169 rfl rfl ?_
        refine px_bipush (v := (8 : Int32)) S8 at_171 rfl rfl ?_
        refine px_iushr S8 at_173 rfl ?_
        refine px_callS (as' := [(.ref b6), (.int (2 : Int32)), (.int (ushr hd (8 : Int32)))]) (st := []) (W := 0) S8 (c_put (k := 2) (nl := v1) hw S8.size (by have q0 := rng32 v1; have q1 := congrArg Int32.toInt h_v1; have q2 := f_irem (i4 &&& (2147483647 : Int32)) (10 : Int32) 10 rfl; have q3 := rng32 ((i4 &&& (2147483647 : Int32)) % (10 : Int32)); have q4 := f_imask i4 (2147483647 : Int32) 31 2147483648 (by decide) (by decide) (by decide); have q5 := rng32 i4; have q6 := (show (2147483647 : Int32).toInt = 2147483647 from rfl); have q7 := (show (10 : Int32).toInt = 10 from rfl); have q8 := rng32 hd0; have q9 := rng32 hd; have q10 := rng32 sec; omega) rfl g_b6 A_b6) (hw _ (List.mem_of_getElem? (i := 3) rfl)) (hw _ (List.mem_of_getElem? (i := 4) rfl)) (hw _ (List.mem_of_getElem? (i := 5) rfl)) (hw _ (List.mem_of_getElem? (i := 6) rfl)) (by decide) pd_0_0 rfl rfl (by decide) rfl (by decide) (by decide) (by decide) at_174 rfl rfl (fun T9 h9 v9 S9 q9 => ?_)
        obtain ⟨rfl, A_b6⟩ := q9
        show Go _ _ _ _ _ _ _ []
        refine px_aload S9 at_177 rfl rfl rfl ?_
        refine px_iconst (v := (3 : Int32)) S9 at_179 rfl rfl ?_
        refine px_iload S9 at_180 rfl rfl ?_
        refine px_callS (as' := [(.ref b6), (.int (3 : Int32)), (.int hd)]) (st := []) (W := 0) S9 (c_put (k := 3) (nl := v1) hw S9.size (by have q0 := rng32 v1; have q1 := congrArg Int32.toInt h_v1; have q2 := f_irem (i4 &&& (2147483647 : Int32)) (10 : Int32) 10 rfl; have q3 := rng32 ((i4 &&& (2147483647 : Int32)) % (10 : Int32)); have q4 := f_imask i4 (2147483647 : Int32) 31 2147483648 (by decide) (by decide) (by decide); have q5 := rng32 i4; have q6 := (show (2147483647 : Int32).toInt = 2147483647 from rfl); have q7 := (show (10 : Int32).toInt = 10 from rfl); have q8 := rng32 hd0; have q9 := rng32 hd; have q10 := rng32 sec; omega) rfl g_b6 A_b6) (hw _ (List.mem_of_getElem? (i := 3) rfl)) (hw _ (List.mem_of_getElem? (i := 4) rfl)) (hw _ (List.mem_of_getElem? (i := 5) rfl)) (hw _ (List.mem_of_getElem? (i := 6) rfl)) (by decide) pd_0_0 rfl rfl (by decide) rfl (by decide) (by decide) (by decide) at_182 rfl rfl (fun T10 h10 v10 S10 q10 => ?_)
        obtain ⟨rfl, A_b6⟩ := q10
        show Go _ _ _ _ _ _ _ []
        refine px_aload S10 at_185 rfl rfl rfl ?_
        refine px_iconst (v := (4 : Int32)) S10 at_187 rfl rfl ?_
        refine px_iload S10 at_188 rfl rfl ?_
        refine px_bipush (v := (24 : Int32)) S10 at_190 rfl rfl ?_
        refine px_iushr S10 at_192 rfl ?_
        refine px_callS (as' := [(.ref b6), (.int (4 : Int32)), (.int (ushr sec (24 : Int32)))]) (st := []) (W := 0) S10 (c_put (k := 4) (nl := v1) hw S10.size (by have q0 := rng32 v1; have q1 := congrArg Int32.toInt h_v1; have q2 := f_irem (i4 &&& (2147483647 : Int32)) (10 : Int32) 10 rfl; have q3 := rng32 ((i4 &&& (2147483647 : Int32)) % (10 : Int32)); have q4 := f_imask i4 (2147483647 : Int32) 31 2147483648 (by decide) (by decide) (by decide); have q5 := rng32 i4; have q6 := (show (2147483647 : Int32).toInt = 2147483647 from rfl); have q7 := (show (10 : Int32).toInt = 10 from rfl); have q8 := rng32 hd0; have q9 := rng32 hd; have q10 := rng32 sec; omega) rfl g_b6 A_b6) (hw _ (List.mem_of_getElem? (i := 3) rfl)) (hw _ (List.mem_of_getElem? (i := 4) rfl)) (hw _ (List.mem_of_getElem? (i := 5) rfl)) (hw _ (List.mem_of_getElem? (i := 6) rfl)) (by decide) pd_0_0 rfl rfl (by decide) rfl (by decide) (by decide) (by decide) at_193 rfl rfl (fun T11 h11 v11 S11 q11 => ?_)
        obtain ⟨rfl, A_b6⟩ := q11
        show Go _ _ _ _ _ _ _ []
        refine px_aload S11 at_196 rfl rfl rfl ?_
        refine px_iconst (v := (5 : Int32)) S11 at_198 rfl rfl ?_
        refine px_iload S11 at_199 rfl rfl ?_
        refine px_bipush (v := (16 : Int32)) S11 at_201 rfl rfl ?_
        refine px_iushr S11 at_203 rfl ?_
        refine px_callS (as' := [(.ref b6), (.int (5 : Int32)), (.int (ushr sec (16 : Int32)))]) (st := []) (W := 0) S11 (c_put (k := 5) (nl := v1) hw S11.size (by have q0 := rng32 v1; have q1 := congrArg Int32.toInt h_v1; have q2 := f_irem (i4 &&& (2147483647 : Int32)) (10 : Int32) 10 rfl; have q3 := rng32 ((i4 &&& (2147483647 : Int32)) % (10 : Int32)); have q4 := f_imask i4 (2147483647 : Int32) 31 2147483648 (by decide) (by decide) (by decide); have q5 := rng32 i4; have q6 := (show (2147483647 : Int32).toInt = 2147483647 from rfl); have q7 := (show (10 : Int32).toInt = 10 from rfl); have q8 := rng32 hd0; have q9 := rng32 hd; have q10 := rng32 sec; omega) rfl g_b6 A_b6) (hw _ (List.mem_of_getElem? (i := 3) rfl)) (hw _ (List.mem_of_getElem? (i := 4) rfl)) (hw _ (List.mem_of_getElem? (i := 5) rfl)) (hw _ (List.mem_of_getElem? (i := 6) rfl)) (by decide) pd_0_0 rfl rfl (by decide) rfl (by decide) (by decide) (by decide) at_204 rfl rfl (fun T12 h12 v12 S12 q12 => ?_)
        obtain ⟨rfl, A_b6⟩ := q12
        show Go _ _ _ _ _ _ _ []
        refine px_aload S12 at_207 rfl rfl rfl ?_
        refine px_bipush (v := (6 : Int32)) S12 at_209 rfl rfl ?_
        refine px_iload S12 at_211 rfl rfl ?_
        refine px_bipush (v := (8 : Int32)) S12 at_213 rfl rfl ?_
        refine px_iushr S12 at_215 rfl ?_
        refine px_callS (as' := [(.ref b6), (.int (6 : Int32)), (.int (ushr sec (8 : Int32)))]) (st := []) (W := 0) S12 (c_put (k := 6) (nl := v1) hw S12.size (by have q0 := rng32 v1; have q1 := congrArg Int32.toInt h_v1; have q2 := f_irem (i4 &&& (2147483647 : Int32)) (10 : Int32) 10 rfl; have q3 := rng32 ((i4 &&& (2147483647 : Int32)) % (10 : Int32)); have q4 := f_imask i4 (2147483647 : Int32) 31 2147483648 (by decide) (by decide) (by decide); have q5 := rng32 i4; have q6 := (show (2147483647 : Int32).toInt = 2147483647 from rfl); have q7 := (show (10 : Int32).toInt = 10 from rfl); have q8 := rng32 hd0; have q9 := rng32 hd; have q10 := rng32 sec; omega) rfl g_b6 A_b6) (hw _ (List.mem_of_getElem? (i := 3) rfl)) (hw _ (List.mem_of_getElem? (i := 4) rfl)) (hw _ (List.mem_of_getElem? (i := 5) rfl)) (hw _ (List.mem_of_getElem? (i := 6) rfl)) (by decide) pd_0_0 rfl rfl (by decide) rfl (by decide) (by decide) (by decide) at_216 rfl rfl (fun T13 h13 v13 S13 q13 => ?_)
        obtain ⟨rfl, A_b6⟩ := q13
        show Go _ _ _ _ _ _ _ []
        refine px_aload S13 at_219 rfl rfl rfl ?_
        refine px_bipush (v := (7 : Int32)) S13 at_221 rfl rfl ?_
        refine px_iload S13 at_223 rfl rfl ?_
        refine px_callS (as' := [(.ref b6), (.int (7 : Int32)), (.int sec)]) (st := []) (W := 0) S13 (c_put (k := 7) (nl := v1) hw S13.size (by have q0 := rng32 v1; have q1 := congrArg Int32.toInt h_v1; have q2 := f_irem (i4 &&& (2147483647 : Int32)) (10 : Int32) 10 rfl; have q3 := rng32 ((i4 &&& (2147483647 : Int32)) % (10 : Int32)); have q4 := f_imask i4 (2147483647 : Int32) 31 2147483648 (by decide) (by decide) (by decide); have q5 := rng32 i4; have q6 := (show (2147483647 : Int32).toInt = 2147483647 from rfl); have q7 := (show (10 : Int32).toInt = 10 from rfl); have q8 := rng32 hd0; have q9 := rng32 hd; have q10 := rng32 sec; omega) rfl g_b6 A_b6) (hw _ (List.mem_of_getElem? (i := 3) rfl)) (hw _ (List.mem_of_getElem? (i := 4) rfl)) (hw _ (List.mem_of_getElem? (i := 5) rfl)) (hw _ (List.mem_of_getElem? (i := 6) rfl)) (by decide) pd_0_0 rfl rfl (by decide) rfl (by decide) (by decide) (by decide) at_225 rfl rfl (fun T14 h14 v14 S14 q14 => ?_)
        obtain ⟨rfl, A_b6⟩ := q14
        show Go _ _ _ _ _ _ _ []
        refine px_aload S14 at_228 rfl rfl rfl ?_
        refine px_bipush (v := (8 : Int32)) S14 at_230 rfl rfl ?_
        refine px_iloadN S14 at_232 rfl rfl ?_
        refine px_bipush (v := (8 : Int32)) S14 at_233 rfl rfl ?_
        refine px_iushr S14 at_235 rfl ?_
        refine px_callS (as' := [(.ref b6), (.int (8 : Int32)), (.int (ushr i3 (8 : Int32)))]) (st := []) (W := 0) S14 (c_put (k := 8) (nl := v1) hw S14.size (by have q0 := rng32 v1; have q1 := congrArg Int32.toInt h_v1; have q2 := f_irem (i4 &&& (2147483647 : Int32)) (10 : Int32) 10 rfl; have q3 := rng32 ((i4 &&& (2147483647 : Int32)) % (10 : Int32)); have q4 := f_imask i4 (2147483647 : Int32) 31 2147483648 (by decide) (by decide) (by decide); have q5 := rng32 i4; have q6 := (show (2147483647 : Int32).toInt = 2147483647 from rfl); have q7 := (show (10 : Int32).toInt = 10 from rfl); have q8 := rng32 hd0; have q9 := rng32 hd; have q10 := rng32 sec; omega) rfl g_b6 A_b6) (hw _ (List.mem_of_getElem? (i := 3) rfl)) (hw _ (List.mem_of_getElem? (i := 4) rfl)) (hw _ (List.mem_of_getElem? (i := 5) rfl)) (hw _ (List.mem_of_getElem? (i := 6) rfl)) (by decide) pd_0_0 rfl rfl (by decide) rfl (by decide) (by decide) (by decide) at_236 rfl rfl (fun T15 h15 v15 S15 q15 => ?_)
        obtain ⟨rfl, A_b6⟩ := q15
        show Go _ _ _ _ _ _ _ []
        refine px_aload S15 at_239 rfl rfl rfl ?_
        refine px_callS (as' := [(.ref b6)]) (st := []) (W := 0) S15 (c_rec (nl := v1) (H := hd) (S := sec) hw S15.size (by have q0 := rng32 v1; have q1 := congrArg Int32.toInt h_v1; have q2 := f_irem (i4 &&& (2147483647 : Int32)) (10 : Int32) 10 rfl; have q3 := rng32 ((i4 &&& (2147483647 : Int32)) % (10 : Int32)); have q4 := f_imask i4 (2147483647 : Int32) 31 2147483648 (by decide) (by decide) (by decide); have q5 := rng32 i4; have q6 := (show (2147483647 : Int32).toInt = 2147483647 from rfl); have q7 := (show (10 : Int32).toInt = 10 from rfl); have q8 := rng32 hd0; have q9 := rng32 hd; have q10 := rng32 sec; omega) A_b6 rfl rfl rfl rfl rfl rfl rfl rfl) (hw _ (List.mem_of_getElem? (i := 7) rfl)) (hw _ (List.mem_of_getElem? (i := 8) rfl)) (hw _ (List.mem_of_getElem? (i := 9) rfl)) (hw _ (List.mem_of_getElem? (i := 10) rfl)) (by decide) pd_0_1 rfl rfl (by decide) rfl (by decide) (by decide) (by decide) at_241 rfl rfl (fun T16 h16 v16 S16 q16 => ?_)
        obtain ⟨rfl, q16⟩ := q16
        rcases q16 with ⟨ka, rfl⟩ | ⟨ka, kb, rfl⟩ | ⟨ka, kb, rfl⟩ | ⟨ka, kb, rfl⟩ | ⟨ka, kb, rfl⟩ | ⟨ka, kb, rfl⟩ | ⟨ka, kb, kc, rfl⟩ | ⟨ka, kb, kc, rfl⟩ | ⟨ka, kb, kc, rfl⟩ | ⟨ka, d0, d1, d2, d3, d4, d5, rfl⟩
        · show Go _ _ _ _ _ _ _ [(.int (0 : Int32))]
          refine px_istore S16 at_244 rfl (L' := #[.val (.int i0), .val (.int i1), .val (.int i2), .val (.int i3), .val (.int i4), .val (.int v1), .val (.int v2), .val (.int hd), .val (.int sec), .val (.ref b6), .val (.int (0 : Int32)), .unset]) rfl ?_
          refine px_iload S16 at_246 rfl rfl ?_
          refine px_iconst (v := (4 : Int32)) S16 at_248 rfl rfl ?_
          refine px_icmp S16 at_249 (by decide) (pc' := 258) rfl rfl (fun (hc17 : v1.toInt ≥ (4 : Int32).toInt) => by exfalso; have q0 := rng32 v1; have q1 := congrArg Int32.toInt h_v1; have q2 := f_irem (i4 &&& (2147483647 : Int32)) (10 : Int32) 10 rfl; have q3 := rng32 ((i4 &&& (2147483647 : Int32)) % (10 : Int32)); have q4 := f_imask i4 (2147483647 : Int32) 31 2147483648 (by decide) (by decide) (by decide); have q5 := rng32 i4; have q6 := (show (2147483647 : Int32).toInt = 2147483647 from rfl); have q7 := (show (10 : Int32).toInt = 10 from rfl); have q8 := (show (4 : Int32).toInt = 4 from rfl); omega) (fun (hc17 : v1.toInt < (4 : Int32).toInt) => ?_)
          refine px_iconst (v := (0 : Int32)) S16 at_252 rfl rfl ?_
          refine px_istore S16 at_253 rfl (L' := #[.val (.int i0), .val (.int i1), .val (.int i2), .val (.int i3), .val (.int i4), .val (.int v1), .val (.int v2), .val (.int hd), .val (.int sec), .val (.ref b6), .val (.int (0 : Int32)), .val (.int (0 : Int32))]) rfl ?_
          refine px_goto S16 at_255 (by decide) (pc' := 338) rfl ?_
          refine px_iload S16 at_338 rfl rfl ?_
          refine px_iload S16 at_340 rfl rfl ?_
          refine px_icmp S16 at_342 (by decide) (pc' := 349) rfl rfl (fun (hc18 : ¬ (0 : Int32).toInt = (0 : Int32).toInt) => absurd rfl hc18) (fun (hc18 : (0 : Int32).toInt = (0 : Int32).toInt) => ?_)
          refine px_iconst (v := (1 : Int32)) S16 at_345 rfl rfl ?_
          refine px_goto S16 at_346 (by decide) (pc' := 350) rfl ?_
          exact px_retN (t := .boolean) (z' := (1 : Int32)) S16 at_350 rfl (by simp) rfl (by decide) (by decide) (rfl)
        · show Go _ _ _ _ _ _ _ [(.int (1 : Int32))]
          refine px_istore S16 at_244 rfl (L' := #[.val (.int i0), .val (.int i1), .val (.int i2), .val (.int i3), .val (.int i4), .val (.int v1), .val (.int v2), .val (.int hd), .val (.int sec), .val (.ref b6), .val (.int (1 : Int32)), .unset]) rfl ?_
          refine px_iload S16 at_246 rfl rfl ?_
          refine px_iconst (v := (4 : Int32)) S16 at_248 rfl rfl ?_
          refine px_icmp S16 at_249 (by decide) (pc' := 258) rfl rfl (fun (hc19 : v1.toInt ≥ (4 : Int32).toInt) => ?_) (fun (hc19 : v1.toInt < (4 : Int32).toInt) => by exfalso; have q0 := rng32 v1; have q1 := congrArg Int32.toInt h_v1; have q2 := f_irem (i4 &&& (2147483647 : Int32)) (10 : Int32) 10 rfl; have q3 := rng32 ((i4 &&& (2147483647 : Int32)) % (10 : Int32)); have q4 := f_imask i4 (2147483647 : Int32) 31 2147483648 (by decide) (by decide) (by decide); have q5 := rng32 i4; have q6 := (show (2147483647 : Int32).toInt = 2147483647 from rfl); have q7 := (show (10 : Int32).toInt = 10 from rfl); have q8 := (show (4 : Int32).toInt = 4 from rfl); have q9 := rng32 hd; have q10 := rng32 sec; have q11 := (show (-17958193 : Int32).toInt = -17958193 from rfl); omega)
          refine px_iload S16 at_258 rfl rfl ?_
          refine px_ldcI S16 (hw _ (List.mem_of_getElem? (i := 1) rfl)) at_260 rfl ?_
          refine px_icmp S16 at_262 (by decide) (pc' := 293) rfl rfl (fun (hc20 : hd.toInt = (-17958193 : Int32).toInt) => ?_) (fun (hc20 : ¬ hd.toInt = (-17958193 : Int32).toInt) => by exfalso; have q0 := rng32 hd; have q1 := (show (-17958193 : Int32).toInt = -17958193 from rfl); have q2 := rng32 v1; have q3 := congrArg Int32.toInt h_v1; have q4 := f_irem (i4 &&& (2147483647 : Int32)) (10 : Int32) 10 rfl; have q5 := rng32 ((i4 &&& (2147483647 : Int32)) % (10 : Int32)); have q6 := f_imask i4 (2147483647 : Int32) 31 2147483648 (by decide) (by decide) (by decide); have q7 := rng32 i4; have q8 := (show (2147483647 : Int32).toInt = 2147483647 from rfl); have q9 := (show (10 : Int32).toInt = 10 from rfl); have q10 := rng32 sec; have q11 := (show (4 : Int32).toInt = 4 from rfl); omega)
          refine px_iconst (v := (1 : Int32)) S16 at_293 rfl rfl ?_
          refine px_istore S16 at_294 rfl (L' := #[.val (.int i0), .val (.int i1), .val (.int i2), .val (.int i3), .val (.int i4), .val (.int v1), .val (.int v2), .val (.int hd), .val (.int sec), .val (.ref b6), .val (.int (1 : Int32)), .val (.int (1 : Int32))]) rfl ?_
          refine px_goto S16 at_296 (by decide) (pc' := 338) rfl ?_
          refine px_iload S16 at_338 rfl rfl ?_
          refine px_iload S16 at_340 rfl rfl ?_
          refine px_icmp S16 at_342 (by decide) (pc' := 349) rfl rfl (fun (hc21 : ¬ (1 : Int32).toInt = (1 : Int32).toInt) => absurd rfl hc21) (fun (hc21 : (1 : Int32).toInt = (1 : Int32).toInt) => ?_)
          refine px_iconst (v := (1 : Int32)) S16 at_345 rfl rfl ?_
          refine px_goto S16 at_346 (by decide) (pc' := 350) rfl ?_
          exact px_retN (t := .boolean) (z' := (1 : Int32)) S16 at_350 rfl (by simp) rfl (by decide) (by decide) (rfl)
        · show Go _ _ _ _ _ _ _ [(.int (1 : Int32))]
          refine px_istore S16 at_244 rfl (L' := #[.val (.int i0), .val (.int i1), .val (.int i2), .val (.int i3), .val (.int i4), .val (.int v1), .val (.int v2), .val (.int hd), .val (.int sec), .val (.ref b6), .val (.int (1 : Int32)), .unset]) rfl ?_
          refine px_iload S16 at_246 rfl rfl ?_
          refine px_iconst (v := (4 : Int32)) S16 at_248 rfl rfl ?_
          refine px_icmp S16 at_249 (by decide) (pc' := 258) rfl rfl (fun (hc22 : v1.toInt ≥ (4 : Int32).toInt) => ?_) (fun (hc22 : v1.toInt < (4 : Int32).toInt) => by exfalso; have q0 := rng32 v1; have q1 := congrArg Int32.toInt h_v1; have q2 := f_irem (i4 &&& (2147483647 : Int32)) (10 : Int32) 10 rfl; have q3 := rng32 ((i4 &&& (2147483647 : Int32)) % (10 : Int32)); have q4 := f_imask i4 (2147483647 : Int32) 31 2147483648 (by decide) (by decide) (by decide); have q5 := rng32 i4; have q6 := (show (2147483647 : Int32).toInt = 2147483647 from rfl); have q7 := (show (10 : Int32).toInt = 10 from rfl); have q8 := (show (4 : Int32).toInt = 4 from rfl); have q9 := rng32 hd; have q10 := rng32 sec; have q11 := (show (-805638658 : Int32).toInt = -805638658 from rfl); omega)
          refine px_iload S16 at_258 rfl rfl ?_
          refine px_ldcI S16 (hw _ (List.mem_of_getElem? (i := 1) rfl)) at_260 rfl ?_
          refine px_icmp S16 at_262 (by decide) (pc' := 293) rfl rfl (fun (hc23 : hd.toInt = (-17958193 : Int32).toInt) => by exfalso; have q0 := rng32 hd; have q1 := (show (-17958193 : Int32).toInt = -17958193 from rfl); have q2 := rng32 v1; have q3 := congrArg Int32.toInt h_v1; have q4 := f_irem (i4 &&& (2147483647 : Int32)) (10 : Int32) 10 rfl; have q5 := rng32 ((i4 &&& (2147483647 : Int32)) % (10 : Int32)); have q6 := f_imask i4 (2147483647 : Int32) 31 2147483648 (by decide) (by decide) (by decide); have q7 := rng32 i4; have q8 := (show (2147483647 : Int32).toInt = 2147483647 from rfl); have q9 := (show (10 : Int32).toInt = 10 from rfl); have q10 := rng32 sec; have q11 := (show (-805638658 : Int32).toInt = -805638658 from rfl); have q12 := (show (4 : Int32).toInt = 4 from rfl); omega) (fun (hc23 : ¬ hd.toInt = (-17958193 : Int32).toInt) => ?_)
          refine px_iload S16 at_265 rfl rfl ?_
          refine px_ldcI S16 (hw _ (List.mem_of_getElem? (i := 15) rfl)) at_267 rfl ?_
          refine px_icmp S16 at_269 (by decide) (pc' := 293) rfl rfl (fun (hc24 : hd.toInt = (-805638658 : Int32).toInt) => ?_) (fun (hc24 : ¬ hd.toInt = (-805638658 : Int32).toInt) => by exfalso; have q0 := rng32 hd; have q1 := (show (-805638658 : Int32).toInt = -805638658 from rfl); have q2 := rng32 v1; have q3 := congrArg Int32.toInt h_v1; have q4 := f_irem (i4 &&& (2147483647 : Int32)) (10 : Int32) 10 rfl; have q5 := rng32 ((i4 &&& (2147483647 : Int32)) % (10 : Int32)); have q6 := f_imask i4 (2147483647 : Int32) 31 2147483648 (by decide) (by decide) (by decide); have q7 := rng32 i4; have q8 := (show (2147483647 : Int32).toInt = 2147483647 from rfl); have q9 := (show (10 : Int32).toInt = 10 from rfl); have q10 := rng32 sec; have q11 := (show (4 : Int32).toInt = 4 from rfl); have q12 := (show (-17958193 : Int32).toInt = -17958193 from rfl); omega)
          refine px_iconst (v := (1 : Int32)) S16 at_293 rfl rfl ?_
          refine px_istore S16 at_294 rfl (L' := #[.val (.int i0), .val (.int i1), .val (.int i2), .val (.int i3), .val (.int i4), .val (.int v1), .val (.int v2), .val (.int hd), .val (.int sec), .val (.ref b6), .val (.int (1 : Int32)), .val (.int (1 : Int32))]) rfl ?_
          refine px_goto S16 at_296 (by decide) (pc' := 338) rfl ?_
          refine px_iload S16 at_338 rfl rfl ?_
          refine px_iload S16 at_340 rfl rfl ?_
          refine px_icmp S16 at_342 (by decide) (pc' := 349) rfl rfl (fun (hc25 : ¬ (1 : Int32).toInt = (1 : Int32).toInt) => absurd rfl hc25) (fun (hc25 : (1 : Int32).toInt = (1 : Int32).toInt) => ?_)
          refine px_iconst (v := (1 : Int32)) S16 at_345 rfl rfl ?_
          refine px_goto S16 at_346 (by decide) (pc' := 350) rfl ?_
          exact px_retN (t := .boolean) (z' := (1 : Int32)) S16 at_350 rfl (by simp) rfl (by decide) (by decide) (rfl)
        · show Go _ _ _ _ _ _ _ [(.int (1 : Int32))]
          refine px_istore S16 at_244 rfl (L' := #[.val (.int i0), .val (.int i1), .val (.int i2), .val (.int i3), .val (.int i4), .val (.int v1), .val (.int v2), .val (.int hd), .val (.int sec), .val (.ref b6), .val (.int (1 : Int32)), .unset]) rfl ?_
          refine px_iload S16 at_246 rfl rfl ?_
          refine px_iconst (v := (4 : Int32)) S16 at_248 rfl rfl ?_
          refine px_icmp S16 at_249 (by decide) (pc' := 258) rfl rfl (fun (hc26 : v1.toInt ≥ (4 : Int32).toInt) => ?_) (fun (hc26 : v1.toInt < (4 : Int32).toInt) => by exfalso; have q0 := rng32 v1; have q1 := congrArg Int32.toInt h_v1; have q2 := f_irem (i4 &&& (2147483647 : Int32)) (10 : Int32) 10 rfl; have q3 := rng32 ((i4 &&& (2147483647 : Int32)) % (10 : Int32)); have q4 := f_imask i4 (2147483647 : Int32) 31 2147483648 (by decide) (by decide) (by decide); have q5 := rng32 i4; have q6 := (show (2147483647 : Int32).toInt = 2147483647 from rfl); have q7 := (show (10 : Int32).toInt = 10 from rfl); have q8 := (show (4 : Int32).toInt = 4 from rfl); have q9 := rng32 hd; have q10 := rng32 sec; have q11 := (show (-17958194 : Int32).toInt = -17958194 from rfl); omega)
          refine px_iload S16 at_258 rfl rfl ?_
          refine px_ldcI S16 (hw _ (List.mem_of_getElem? (i := 1) rfl)) at_260 rfl ?_
          refine px_icmp S16 at_262 (by decide) (pc' := 293) rfl rfl (fun (hc27 : hd.toInt = (-17958193 : Int32).toInt) => by exfalso; have q0 := rng32 hd; have q1 := (show (-17958193 : Int32).toInt = -17958193 from rfl); have q2 := rng32 v1; have q3 := congrArg Int32.toInt h_v1; have q4 := f_irem (i4 &&& (2147483647 : Int32)) (10 : Int32) 10 rfl; have q5 := rng32 ((i4 &&& (2147483647 : Int32)) % (10 : Int32)); have q6 := f_imask i4 (2147483647 : Int32) 31 2147483648 (by decide) (by decide) (by decide); have q7 := rng32 i4; have q8 := (show (2147483647 : Int32).toInt = 2147483647 from rfl); have q9 := (show (10 : Int32).toInt = 10 from rfl); have q10 := rng32 sec; have q11 := (show (-17958194 : Int32).toInt = -17958194 from rfl); have q12 := (show (4 : Int32).toInt = 4 from rfl); omega) (fun (hc27 : ¬ hd.toInt = (-17958193 : Int32).toInt) => ?_)
          refine px_iload S16 at_265 rfl rfl ?_
          refine px_ldcI S16 (hw _ (List.mem_of_getElem? (i := 15) rfl)) at_267 rfl ?_
          refine px_icmp S16 at_269 (by decide) (pc' := 293) rfl rfl (fun (hc28 : hd.toInt = (-805638658 : Int32).toInt) => by exfalso; have q0 := rng32 hd; have q1 := (show (-805638658 : Int32).toInt = -805638658 from rfl); have q2 := rng32 v1; have q3 := congrArg Int32.toInt h_v1; have q4 := f_irem (i4 &&& (2147483647 : Int32)) (10 : Int32) 10 rfl; have q5 := rng32 ((i4 &&& (2147483647 : Int32)) % (10 : Int32)); have q6 := f_imask i4 (2147483647 : Int32) 31 2147483648 (by decide) (by decide) (by decide); have q7 := rng32 i4; have q8 := (show (2147483647 : Int32).toInt = 2147483647 from rfl); have q9 := (show (10 : Int32).toInt = 10 from rfl); have q10 := rng32 sec; have q11 := (show (-17958194 : Int32).toInt = -17958194 from rfl); have q12 := (show (4 : Int32).toInt = 4 from rfl); have q13 := (show (-17958193 : Int32).toInt = -17958193 from rfl); omega) (fun (hc28 : ¬ hd.toInt = (-805638658 : Int32).toInt) => ?_)
          refine px_iload S16 at_272 rfl rfl ?_
          refine px_ldcI S16 (hw _ (List.mem_of_getElem? (i := 16) rfl)) at_274 rfl ?_
          refine px_icmp S16 at_276 (by decide) (pc' := 293) rfl rfl (fun (hc29 : hd.toInt = (-17958194 : Int32).toInt) => ?_) (fun (hc29 : ¬ hd.toInt = (-17958194 : Int32).toInt) => by exfalso; have q0 := rng32 hd; have q1 := (show (-17958194 : Int32).toInt = -17958194 from rfl); have q2 := rng32 v1; have q3 := congrArg Int32.toInt h_v1; have q4 := f_irem (i4 &&& (2147483647 : Int32)) (10 : Int32) 10 rfl; have q5 := rng32 ((i4 &&& (2147483647 : Int32)) % (10 : Int32)); have q6 := f_imask i4 (2147483647 : Int32) 31 2147483648 (by decide) (by decide) (by decide); have q7 := rng32 i4; have q8 := (show (2147483647 : Int32).toInt = 2147483647 from rfl); have q9 := (show (10 : Int32).toInt = 10 from rfl); have q10 := rng32 sec; have q11 := (show (4 : Int32).toInt = 4 from rfl); have q12 := (show (-17958193 : Int32).toInt = -17958193 from rfl); have q13 := (show (-805638658 : Int32).toInt = -805638658 from rfl); omega)
          refine px_iconst (v := (1 : Int32)) S16 at_293 rfl rfl ?_
          refine px_istore S16 at_294 rfl (L' := #[.val (.int i0), .val (.int i1), .val (.int i2), .val (.int i3), .val (.int i4), .val (.int v1), .val (.int v2), .val (.int hd), .val (.int sec), .val (.ref b6), .val (.int (1 : Int32)), .val (.int (1 : Int32))]) rfl ?_
          refine px_goto S16 at_296 (by decide) (pc' := 338) rfl ?_
          refine px_iload S16 at_338 rfl rfl ?_
          refine px_iload S16 at_340 rfl rfl ?_
          refine px_icmp S16 at_342 (by decide) (pc' := 349) rfl rfl (fun (hc30 : ¬ (1 : Int32).toInt = (1 : Int32).toInt) => absurd rfl hc30) (fun (hc30 : (1 : Int32).toInt = (1 : Int32).toInt) => ?_)
          refine px_iconst (v := (1 : Int32)) S16 at_345 rfl rfl ?_
          refine px_goto S16 at_346 (by decide) (pc' := 350) rfl ?_
          exact px_retN (t := .boolean) (z' := (1 : Int32)) S16 at_350 rfl (by simp) rfl (by decide) (by decide) (rfl)
        · show Go _ _ _ _ _ _ _ [(.int (1 : Int32))]
          refine px_istore S16 at_244 rfl (L' := #[.val (.int i0), .val (.int i1), .val (.int i2), .val (.int i3), .val (.int i4), .val (.int v1), .val (.int v2), .val (.int hd), .val (.int sec), .val (.ref b6), .val (.int (1 : Int32)), .unset]) rfl ?_
          refine px_iload S16 at_246 rfl rfl ?_
          refine px_iconst (v := (4 : Int32)) S16 at_248 rfl rfl ?_
          refine px_icmp S16 at_249 (by decide) (pc' := 258) rfl rfl (fun (hc31 : v1.toInt ≥ (4 : Int32).toInt) => ?_) (fun (hc31 : v1.toInt < (4 : Int32).toInt) => by exfalso; have q0 := rng32 v1; have q1 := congrArg Int32.toInt h_v1; have q2 := f_irem (i4 &&& (2147483647 : Int32)) (10 : Int32) 10 rfl; have q3 := rng32 ((i4 &&& (2147483647 : Int32)) % (10 : Int32)); have q4 := f_imask i4 (2147483647 : Int32) 31 2147483648 (by decide) (by decide) (by decide); have q5 := rng32 i4; have q6 := (show (2147483647 : Int32).toInt = 2147483647 from rfl); have q7 := (show (10 : Int32).toInt = 10 from rfl); have q8 := (show (4 : Int32).toInt = 4 from rfl); have q9 := rng32 hd; have q10 := rng32 sec; have q11 := (show (-822415874 : Int32).toInt = -822415874 from rfl); omega)
          refine px_iload S16 at_258 rfl rfl ?_
          refine px_ldcI S16 (hw _ (List.mem_of_getElem? (i := 1) rfl)) at_260 rfl ?_
          refine px_icmp S16 at_262 (by decide) (pc' := 293) rfl rfl (fun (hc32 : hd.toInt = (-17958193 : Int32).toInt) => by exfalso; have q0 := rng32 hd; have q1 := (show (-17958193 : Int32).toInt = -17958193 from rfl); have q2 := rng32 v1; have q3 := congrArg Int32.toInt h_v1; have q4 := f_irem (i4 &&& (2147483647 : Int32)) (10 : Int32) 10 rfl; have q5 := rng32 ((i4 &&& (2147483647 : Int32)) % (10 : Int32)); have q6 := f_imask i4 (2147483647 : Int32) 31 2147483648 (by decide) (by decide) (by decide); have q7 := rng32 i4; have q8 := (show (2147483647 : Int32).toInt = 2147483647 from rfl); have q9 := (show (10 : Int32).toInt = 10 from rfl); have q10 := rng32 sec; have q11 := (show (-822415874 : Int32).toInt = -822415874 from rfl); have q12 := (show (4 : Int32).toInt = 4 from rfl); omega) (fun (hc32 : ¬ hd.toInt = (-17958193 : Int32).toInt) => ?_)
          refine px_iload S16 at_265 rfl rfl ?_
          refine px_ldcI S16 (hw _ (List.mem_of_getElem? (i := 15) rfl)) at_267 rfl ?_
          refine px_icmp S16 at_269 (by decide) (pc' := 293) rfl rfl (fun (hc33 : hd.toInt = (-805638658 : Int32).toInt) => by exfalso; have q0 := rng32 hd; have q1 := (show (-805638658 : Int32).toInt = -805638658 from rfl); have q2 := rng32 v1; have q3 := congrArg Int32.toInt h_v1; have q4 := f_irem (i4 &&& (2147483647 : Int32)) (10 : Int32) 10 rfl; have q5 := rng32 ((i4 &&& (2147483647 : Int32)) % (10 : Int32)); have q6 := f_imask i4 (2147483647 : Int32) 31 2147483648 (by decide) (by decide) (by decide); have q7 := rng32 i4; have q8 := (show (2147483647 : Int32).toInt = 2147483647 from rfl); have q9 := (show (10 : Int32).toInt = 10 from rfl); have q10 := rng32 sec; have q11 := (show (-822415874 : Int32).toInt = -822415874 from rfl); have q12 := (show (4 : Int32).toInt = 4 from rfl); have q13 := (show (-17958193 : Int32).toInt = -17958193 from rfl); omega) (fun (hc33 : ¬ hd.toInt = (-805638658 : Int32).toInt) => ?_)
          refine px_iload S16 at_272 rfl rfl ?_
          refine px_ldcI S16 (hw _ (List.mem_of_getElem? (i := 16) rfl)) at_274 rfl ?_
          refine px_icmp S16 at_276 (by decide) (pc' := 293) rfl rfl (fun (hc34 : hd.toInt = (-17958194 : Int32).toInt) => by exfalso; have q0 := rng32 hd; have q1 := (show (-17958194 : Int32).toInt = -17958194 from rfl); have q2 := rng32 v1; have q3 := congrArg Int32.toInt h_v1; have q4 := f_irem (i4 &&& (2147483647 : Int32)) (10 : Int32) 10 rfl; have q5 := rng32 ((i4 &&& (2147483647 : Int32)) % (10 : Int32)); have q6 := f_imask i4 (2147483647 : Int32) 31 2147483648 (by decide) (by decide) (by decide); have q7 := rng32 i4; have q8 := (show (2147483647 : Int32).toInt = 2147483647 from rfl); have q9 := (show (10 : Int32).toInt = 10 from rfl); have q10 := rng32 sec; have q11 := (show (-822415874 : Int32).toInt = -822415874 from rfl); have q12 := (show (4 : Int32).toInt = 4 from rfl); have q13 := (show (-17958193 : Int32).toInt = -17958193 from rfl); have q14 := (show (-805638658 : Int32).toInt = -805638658 from rfl); omega) (fun (hc34 : ¬ hd.toInt = (-17958194 : Int32).toInt) => ?_)
          refine px_iload S16 at_279 rfl rfl ?_
          refine px_ldcI S16 (hw _ (List.mem_of_getElem? (i := 11) rfl)) at_281 rfl ?_
          refine px_icmp S16 at_283 (by decide) (pc' := 293) rfl rfl (fun (hc35 : hd.toInt = (-822415874 : Int32).toInt) => ?_) (fun (hc35 : ¬ hd.toInt = (-822415874 : Int32).toInt) => by exfalso; have q0 := rng32 hd; have q1 := (show (-822415874 : Int32).toInt = -822415874 from rfl); have q2 := rng32 v1; have q3 := congrArg Int32.toInt h_v1; have q4 := f_irem (i4 &&& (2147483647 : Int32)) (10 : Int32) 10 rfl; have q5 := rng32 ((i4 &&& (2147483647 : Int32)) % (10 : Int32)); have q6 := f_imask i4 (2147483647 : Int32) 31 2147483648 (by decide) (by decide) (by decide); have q7 := rng32 i4; have q8 := (show (2147483647 : Int32).toInt = 2147483647 from rfl); have q9 := (show (10 : Int32).toInt = 10 from rfl); have q10 := rng32 sec; have q11 := (show (4 : Int32).toInt = 4 from rfl); have q12 := (show (-17958193 : Int32).toInt = -17958193 from rfl); have q13 := (show (-805638658 : Int32).toInt = -805638658 from rfl); have q14 := (show (-17958194 : Int32).toInt = -17958194 from rfl); omega)
          refine px_iconst (v := (1 : Int32)) S16 at_293 rfl rfl ?_
          refine px_istore S16 at_294 rfl (L' := #[.val (.int i0), .val (.int i1), .val (.int i2), .val (.int i3), .val (.int i4), .val (.int v1), .val (.int v2), .val (.int hd), .val (.int sec), .val (.ref b6), .val (.int (1 : Int32)), .val (.int (1 : Int32))]) rfl ?_
          refine px_goto S16 at_296 (by decide) (pc' := 338) rfl ?_
          refine px_iload S16 at_338 rfl rfl ?_
          refine px_iload S16 at_340 rfl rfl ?_
          refine px_icmp S16 at_342 (by decide) (pc' := 349) rfl rfl (fun (hc36 : ¬ (1 : Int32).toInt = (1 : Int32).toInt) => absurd rfl hc36) (fun (hc36 : (1 : Int32).toInt = (1 : Int32).toInt) => ?_)
          refine px_iconst (v := (1 : Int32)) S16 at_345 rfl rfl ?_
          refine px_goto S16 at_346 (by decide) (pc' := 350) rfl ?_
          exact px_retN (t := .boolean) (z' := (1 : Int32)) S16 at_350 rfl (by simp) rfl (by decide) (by decide) (rfl)
        · show Go _ _ _ _ _ _ _ [(.int (1 : Int32))]
          refine px_istore S16 at_244 rfl (L' := #[.val (.int i0), .val (.int i1), .val (.int i2), .val (.int i3), .val (.int i4), .val (.int v1), .val (.int v2), .val (.int hd), .val (.int sec), .val (.ref b6), .val (.int (1 : Int32)), .unset]) rfl ?_
          refine px_iload S16 at_246 rfl rfl ?_
          refine px_iconst (v := (4 : Int32)) S16 at_248 rfl rfl ?_
          refine px_icmp S16 at_249 (by decide) (pc' := 258) rfl rfl (fun (hc37 : v1.toInt ≥ (4 : Int32).toInt) => ?_) (fun (hc37 : v1.toInt < (4 : Int32).toInt) => by exfalso; have q0 := rng32 v1; have q1 := congrArg Int32.toInt h_v1; have q2 := f_irem (i4 &&& (2147483647 : Int32)) (10 : Int32) 10 rfl; have q3 := rng32 ((i4 &&& (2147483647 : Int32)) % (10 : Int32)); have q4 := f_imask i4 (2147483647 : Int32) 31 2147483648 (by decide) (by decide) (by decide); have q5 := rng32 i4; have q6 := (show (2147483647 : Int32).toInt = 2147483647 from rfl); have q7 := (show (10 : Int32).toInt = 10 from rfl); have q8 := (show (4 : Int32).toInt = 4 from rfl); have q9 := rng32 hd; have q10 := rng32 sec; have q11 := (show (-889275713 : Int32).toInt = -889275713 from rfl); omega)
          refine px_iload S16 at_258 rfl rfl ?_
          refine px_ldcI S16 (hw _ (List.mem_of_getElem? (i := 1) rfl)) at_260 rfl ?_
          refine px_icmp S16 at_262 (by decide) (pc' := 293) rfl rfl (fun (hc38 : hd.toInt = (-17958193 : Int32).toInt) => by exfalso; have q0 := rng32 hd; have q1 := (show (-17958193 : Int32).toInt = -17958193 from rfl); have q2 := rng32 v1; have q3 := congrArg Int32.toInt h_v1; have q4 := f_irem (i4 &&& (2147483647 : Int32)) (10 : Int32) 10 rfl; have q5 := rng32 ((i4 &&& (2147483647 : Int32)) % (10 : Int32)); have q6 := f_imask i4 (2147483647 : Int32) 31 2147483648 (by decide) (by decide) (by decide); have q7 := rng32 i4; have q8 := (show (2147483647 : Int32).toInt = 2147483647 from rfl); have q9 := (show (10 : Int32).toInt = 10 from rfl); have q10 := rng32 sec; have q11 := (show (-889275713 : Int32).toInt = -889275713 from rfl); have q12 := (show (4 : Int32).toInt = 4 from rfl); omega) (fun (hc38 : ¬ hd.toInt = (-17958193 : Int32).toInt) => ?_)
          refine px_iload S16 at_265 rfl rfl ?_
          refine px_ldcI S16 (hw _ (List.mem_of_getElem? (i := 15) rfl)) at_267 rfl ?_
          refine px_icmp S16 at_269 (by decide) (pc' := 293) rfl rfl (fun (hc39 : hd.toInt = (-805638658 : Int32).toInt) => by exfalso; have q0 := rng32 hd; have q1 := (show (-805638658 : Int32).toInt = -805638658 from rfl); have q2 := rng32 v1; have q3 := congrArg Int32.toInt h_v1; have q4 := f_irem (i4 &&& (2147483647 : Int32)) (10 : Int32) 10 rfl; have q5 := rng32 ((i4 &&& (2147483647 : Int32)) % (10 : Int32)); have q6 := f_imask i4 (2147483647 : Int32) 31 2147483648 (by decide) (by decide) (by decide); have q7 := rng32 i4; have q8 := (show (2147483647 : Int32).toInt = 2147483647 from rfl); have q9 := (show (10 : Int32).toInt = 10 from rfl); have q10 := rng32 sec; have q11 := (show (-889275713 : Int32).toInt = -889275713 from rfl); have q12 := (show (4 : Int32).toInt = 4 from rfl); have q13 := (show (-17958193 : Int32).toInt = -17958193 from rfl); omega) (fun (hc39 : ¬ hd.toInt = (-805638658 : Int32).toInt) => ?_)
          refine px_iload S16 at_272 rfl rfl ?_
          refine px_ldcI S16 (hw _ (List.mem_of_getElem? (i := 16) rfl)) at_274 rfl ?_
          refine px_icmp S16 at_276 (by decide) (pc' := 293) rfl rfl (fun (hc40 : hd.toInt = (-17958194 : Int32).toInt) => by exfalso; have q0 := rng32 hd; have q1 := (show (-17958194 : Int32).toInt = -17958194 from rfl); have q2 := rng32 v1; have q3 := congrArg Int32.toInt h_v1; have q4 := f_irem (i4 &&& (2147483647 : Int32)) (10 : Int32) 10 rfl; have q5 := rng32 ((i4 &&& (2147483647 : Int32)) % (10 : Int32)); have q6 := f_imask i4 (2147483647 : Int32) 31 2147483648 (by decide) (by decide) (by decide); have q7 := rng32 i4; have q8 := (show (2147483647 : Int32).toInt = 2147483647 from rfl); have q9 := (show (10 : Int32).toInt = 10 from rfl); have q10 := rng32 sec; have q11 := (show (-889275713 : Int32).toInt = -889275713 from rfl); have q12 := (show (4 : Int32).toInt = 4 from rfl); have q13 := (show (-17958193 : Int32).toInt = -17958193 from rfl); have q14 := (show (-805638658 : Int32).toInt = -805638658 from rfl); omega) (fun (hc40 : ¬ hd.toInt = (-17958194 : Int32).toInt) => ?_)
          refine px_iload S16 at_279 rfl rfl ?_
          refine px_ldcI S16 (hw _ (List.mem_of_getElem? (i := 11) rfl)) at_281 rfl ?_
          refine px_icmp S16 at_283 (by decide) (pc' := 293) rfl rfl (fun (hc41 : hd.toInt = (-822415874 : Int32).toInt) => by exfalso; have q0 := rng32 hd; have q1 := (show (-822415874 : Int32).toInt = -822415874 from rfl); have q2 := rng32 v1; have q3 := congrArg Int32.toInt h_v1; have q4 := f_irem (i4 &&& (2147483647 : Int32)) (10 : Int32) 10 rfl; have q5 := rng32 ((i4 &&& (2147483647 : Int32)) % (10 : Int32)); have q6 := f_imask i4 (2147483647 : Int32) 31 2147483648 (by decide) (by decide) (by decide); have q7 := rng32 i4; have q8 := (show (2147483647 : Int32).toInt = 2147483647 from rfl); have q9 := (show (10 : Int32).toInt = 10 from rfl); have q10 := rng32 sec; have q11 := (show (-889275713 : Int32).toInt = -889275713 from rfl); have q12 := (show (4 : Int32).toInt = 4 from rfl); have q13 := (show (-17958193 : Int32).toInt = -17958193 from rfl); have q14 := (show (-805638658 : Int32).toInt = -805638658 from rfl); have q15 := (show (-17958194 : Int32).toInt = -17958194 from rfl); omega) (fun (hc41 : ¬ hd.toInt = (-822415874 : Int32).toInt) => ?_)
          refine px_iload S16 at_286 rfl rfl ?_
          refine px_ldcI S16 (hw _ (List.mem_of_getElem? (i := 17) rfl)) at_288 rfl ?_
          refine px_icmp S16 at_290 (by decide) (pc' := 299) rfl rfl (fun (hc42 : ¬ hd.toInt = (-889275713 : Int32).toInt) => by exfalso; have q0 := rng32 hd; have q1 := (show (-889275713 : Int32).toInt = -889275713 from rfl); have q2 := rng32 v1; have q3 := congrArg Int32.toInt h_v1; have q4 := f_irem (i4 &&& (2147483647 : Int32)) (10 : Int32) 10 rfl; have q5 := rng32 ((i4 &&& (2147483647 : Int32)) % (10 : Int32)); have q6 := f_imask i4 (2147483647 : Int32) 31 2147483648 (by decide) (by decide) (by decide); have q7 := rng32 i4; have q8 := (show (2147483647 : Int32).toInt = 2147483647 from rfl); have q9 := (show (10 : Int32).toInt = 10 from rfl); have q10 := rng32 sec; have q11 := (show (4 : Int32).toInt = 4 from rfl); have q12 := (show (-17958193 : Int32).toInt = -17958193 from rfl); have q13 := (show (-805638658 : Int32).toInt = -805638658 from rfl); have q14 := (show (-17958194 : Int32).toInt = -17958194 from rfl); have q15 := (show (-822415874 : Int32).toInt = -822415874 from rfl); omega) (fun (hc42 : hd.toInt = (-889275713 : Int32).toInt) => ?_)
          refine px_iconst (v := (1 : Int32)) S16 at_293 rfl rfl ?_
          refine px_istore S16 at_294 rfl (L' := #[.val (.int i0), .val (.int i1), .val (.int i2), .val (.int i3), .val (.int i4), .val (.int v1), .val (.int v2), .val (.int hd), .val (.int sec), .val (.ref b6), .val (.int (1 : Int32)), .val (.int (1 : Int32))]) rfl ?_
          refine px_goto S16 at_296 (by decide) (pc' := 338) rfl ?_
          refine px_iload S16 at_338 rfl rfl ?_
          refine px_iload S16 at_340 rfl rfl ?_
          refine px_icmp S16 at_342 (by decide) (pc' := 349) rfl rfl (fun (hc43 : ¬ (1 : Int32).toInt = (1 : Int32).toInt) => absurd rfl hc43) (fun (hc43 : (1 : Int32).toInt = (1 : Int32).toInt) => ?_)
          refine px_iconst (v := (1 : Int32)) S16 at_345 rfl rfl ?_
          refine px_goto S16 at_346 (by decide) (pc' := 350) rfl ?_
          exact px_retN (t := .boolean) (z' := (1 : Int32)) S16 at_350 rfl (by simp) rfl (by decide) (by decide) (rfl)
        · show Go _ _ _ _ _ _ _ [(.int (1 : Int32))]
          refine px_istore S16 at_244 rfl (L' := #[.val (.int i0), .val (.int i1), .val (.int i2), .val (.int i3), .val (.int i4), .val (.int v1), .val (.int v2), .val (.int hd), .val (.int sec), .val (.ref b6), .val (.int (1 : Int32)), .unset]) rfl ?_
          refine px_iload S16 at_246 rfl rfl ?_
          refine px_iconst (v := (4 : Int32)) S16 at_248 rfl rfl ?_
          refine px_icmp S16 at_249 (by decide) (pc' := 258) rfl rfl (fun (hc44 : v1.toInt ≥ (4 : Int32).toInt) => ?_) (fun (hc44 : v1.toInt < (4 : Int32).toInt) => by exfalso; have q0 := rng32 v1; have q1 := congrArg Int32.toInt h_v1; have q2 := f_irem (i4 &&& (2147483647 : Int32)) (10 : Int32) 10 rfl; have q3 := rng32 ((i4 &&& (2147483647 : Int32)) % (10 : Int32)); have q4 := f_imask i4 (2147483647 : Int32) 31 2147483648 (by decide) (by decide) (by decide); have q5 := rng32 i4; have q6 := (show (2147483647 : Int32).toInt = 2147483647 from rfl); have q7 := (show (10 : Int32).toInt = 10 from rfl); have q8 := (show (4 : Int32).toInt = 4 from rfl); have q9 := rng32 hd; have q10 := rng32 sec; have q11 := (show (-889275714 : Int32).toInt = -889275714 from rfl); omega)
          refine px_iload S16 at_258 rfl rfl ?_
          refine px_ldcI S16 (hw _ (List.mem_of_getElem? (i := 1) rfl)) at_260 rfl ?_
          refine px_icmp S16 at_262 (by decide) (pc' := 293) rfl rfl (fun (hc45 : hd.toInt = (-17958193 : Int32).toInt) => by exfalso; have q0 := rng32 hd; have q1 := (show (-17958193 : Int32).toInt = -17958193 from rfl); have q2 := rng32 v1; have q3 := congrArg Int32.toInt h_v1; have q4 := f_irem (i4 &&& (2147483647 : Int32)) (10 : Int32) 10 rfl; have q5 := rng32 ((i4 &&& (2147483647 : Int32)) % (10 : Int32)); have q6 := f_imask i4 (2147483647 : Int32) 31 2147483648 (by decide) (by decide) (by decide); have q7 := rng32 i4; have q8 := (show (2147483647 : Int32).toInt = 2147483647 from rfl); have q9 := (show (10 : Int32).toInt = 10 from rfl); have q10 := rng32 sec; have q11 := (show (-889275714 : Int32).toInt = -889275714 from rfl); have q12 := (show (4 : Int32).toInt = 4 from rfl); omega) (fun (hc45 : ¬ hd.toInt = (-17958193 : Int32).toInt) => ?_)
          refine px_iload S16 at_265 rfl rfl ?_
          refine px_ldcI S16 (hw _ (List.mem_of_getElem? (i := 15) rfl)) at_267 rfl ?_
          refine px_icmp S16 at_269 (by decide) (pc' := 293) rfl rfl (fun (hc46 : hd.toInt = (-805638658 : Int32).toInt) => by exfalso; have q0 := rng32 hd; have q1 := (show (-805638658 : Int32).toInt = -805638658 from rfl); have q2 := rng32 v1; have q3 := congrArg Int32.toInt h_v1; have q4 := f_irem (i4 &&& (2147483647 : Int32)) (10 : Int32) 10 rfl; have q5 := rng32 ((i4 &&& (2147483647 : Int32)) % (10 : Int32)); have q6 := f_imask i4 (2147483647 : Int32) 31 2147483648 (by decide) (by decide) (by decide); have q7 := rng32 i4; have q8 := (show (2147483647 : Int32).toInt = 2147483647 from rfl); have q9 := (show (10 : Int32).toInt = 10 from rfl); have q10 := rng32 sec; have q11 := (show (-889275714 : Int32).toInt = -889275714 from rfl); have q12 := (show (4 : Int32).toInt = 4 from rfl); have q13 := (show (-17958193 : Int32).toInt = -17958193 from rfl); omega) (fun (hc46 : ¬ hd.toInt = (-805638658 : Int32).toInt) => ?_)
          refine px_iload S16 at_272 rfl rfl ?_
          refine px_ldcI S16 (hw _ (List.mem_of_getElem? (i := 16) rfl)) at_274 rfl ?_
          refine px_icmp S16 at_276 (by decide) (pc' := 293) rfl rfl (fun (hc47 : hd.toInt = (-17958194 : Int32).toInt) => by exfalso; have q0 := rng32 hd; have q1 := (show (-17958194 : Int32).toInt = -17958194 from rfl); have q2 := rng32 v1; have q3 := congrArg Int32.toInt h_v1; have q4 := f_irem (i4 &&& (2147483647 : Int32)) (10 : Int32) 10 rfl; have q5 := rng32 ((i4 &&& (2147483647 : Int32)) % (10 : Int32)); have q6 := f_imask i4 (2147483647 : Int32) 31 2147483648 (by decide) (by decide) (by decide); have q7 := rng32 i4; have q8 := (show (2147483647 : Int32).toInt = 2147483647 from rfl); have q9 := (show (10 : Int32).toInt = 10 from rfl); have q10 := rng32 sec; have q11 := (show (-889275714 : Int32).toInt = -889275714 from rfl); have q12 := (show (4 : Int32).toInt = 4 from rfl); have q13 := (show (-17958193 : Int32).toInt = -17958193 from rfl); have q14 := (show (-805638658 : Int32).toInt = -805638658 from rfl); omega) (fun (hc47 : ¬ hd.toInt = (-17958194 : Int32).toInt) => ?_)
          refine px_iload S16 at_279 rfl rfl ?_
          refine px_ldcI S16 (hw _ (List.mem_of_getElem? (i := 11) rfl)) at_281 rfl ?_
          refine px_icmp S16 at_283 (by decide) (pc' := 293) rfl rfl (fun (hc48 : hd.toInt = (-822415874 : Int32).toInt) => by exfalso; have q0 := rng32 hd; have q1 := (show (-822415874 : Int32).toInt = -822415874 from rfl); have q2 := rng32 v1; have q3 := congrArg Int32.toInt h_v1; have q4 := f_irem (i4 &&& (2147483647 : Int32)) (10 : Int32) 10 rfl; have q5 := rng32 ((i4 &&& (2147483647 : Int32)) % (10 : Int32)); have q6 := f_imask i4 (2147483647 : Int32) 31 2147483648 (by decide) (by decide) (by decide); have q7 := rng32 i4; have q8 := (show (2147483647 : Int32).toInt = 2147483647 from rfl); have q9 := (show (10 : Int32).toInt = 10 from rfl); have q10 := rng32 sec; have q11 := (show (-889275714 : Int32).toInt = -889275714 from rfl); have q12 := (show (4 : Int32).toInt = 4 from rfl); have q13 := (show (-17958193 : Int32).toInt = -17958193 from rfl); have q14 := (show (-805638658 : Int32).toInt = -805638658 from rfl); have q15 := (show (-17958194 : Int32).toInt = -17958194 from rfl); omega) (fun (hc48 : ¬ hd.toInt = (-822415874 : Int32).toInt) => ?_)
          refine px_iload S16 at_286 rfl rfl ?_
          refine px_ldcI S16 (hw _ (List.mem_of_getElem? (i := 17) rfl)) at_288 rfl ?_
          refine px_icmp S16 at_290 (by decide) (pc' := 299) rfl rfl (fun (hc49 : ¬ hd.toInt = (-889275713 : Int32).toInt) => ?_) (fun (hc49 : hd.toInt = (-889275713 : Int32).toInt) => by exfalso; have q0 := rng32 hd; have q1 := (show (-889275713 : Int32).toInt = -889275713 from rfl); have q2 := rng32 v1; have q3 := congrArg Int32.toInt h_v1; have q4 := f_irem (i4 &&& (2147483647 : Int32)) (10 : Int32) 10 rfl; have q5 := rng32 ((i4 &&& (2147483647 : Int32)) % (10 : Int32)); have q6 := f_imask i4 (2147483647 : Int32) 31 2147483648 (by decide) (by decide) (by decide); have q7 := rng32 i4; have q8 := (show (2147483647 : Int32).toInt = 2147483647 from rfl); have q9 := (show (10 : Int32).toInt = 10 from rfl); have q10 := rng32 sec; have q11 := (show (-889275714 : Int32).toInt = -889275714 from rfl); have q12 := (show (4 : Int32).toInt = 4 from rfl); have q13 := (show (-17958193 : Int32).toInt = -17958193 from rfl); have q14 := (show (-805638658 : Int32).toInt = -805638658 from rfl); have q15 := (show (-17958194 : Int32).toInt = -17958194 from rfl); have q16 := (show (-822415874 : Int32).toInt = -822415874 from rfl); omega)
          refine px_iload S16 at_299 rfl rfl ?_
          refine px_ldcI S16 (hw _ (List.mem_of_getElem? (i := 18) rfl)) at_301 rfl ?_
          refine px_icmp S16 at_303 (by decide) (pc' := 335) rfl rfl (fun (hc50 : ¬ hd.toInt = (-889275714 : Int32).toInt) => by exfalso; have q0 := rng32 hd; have q1 := (show (-889275714 : Int32).toInt = -889275714 from rfl); have q2 := rng32 v1; have q3 := congrArg Int32.toInt h_v1; have q4 := f_irem (i4 &&& (2147483647 : Int32)) (10 : Int32) 10 rfl; have q5 := rng32 ((i4 &&& (2147483647 : Int32)) % (10 : Int32)); have q6 := f_imask i4 (2147483647 : Int32) 31 2147483648 (by decide) (by decide) (by decide); have q7 := rng32 i4; have q8 := (show (2147483647 : Int32).toInt = 2147483647 from rfl); have q9 := (show (10 : Int32).toInt = 10 from rfl); have q10 := rng32 sec; have q11 := (show (4 : Int32).toInt = 4 from rfl); have q12 := (show (-17958193 : Int32).toInt = -17958193 from rfl); have q13 := (show (-805638658 : Int32).toInt = -805638658 from rfl); have q14 := (show (-17958194 : Int32).toInt = -17958194 from rfl); have q15 := (show (-822415874 : Int32).toInt = -822415874 from rfl); have q16 := (show (-889275713 : Int32).toInt = -889275713 from rfl); omega) (fun (hc50 : hd.toInt = (-889275714 : Int32).toInt) => ?_)
          refine px_iload S16 at_306 rfl rfl ?_
          refine px_bipush (v := (8 : Int32)) S16 at_308 rfl rfl ?_
          refine px_icmp S16 at_310 (by decide) (pc' := 325) rfl rfl (fun (hc51 : v1.toInt < (8 : Int32).toInt) => ?_) (fun (hc51 : v1.toInt ≥ (8 : Int32).toInt) => by exfalso; have q0 := rng32 v1; have q1 := congrArg Int32.toInt h_v1; have q2 := f_irem (i4 &&& (2147483647 : Int32)) (10 : Int32) 10 rfl; have q3 := rng32 ((i4 &&& (2147483647 : Int32)) % (10 : Int32)); have q4 := f_imask i4 (2147483647 : Int32) 31 2147483648 (by decide) (by decide) (by decide); have q5 := rng32 i4; have q6 := (show (2147483647 : Int32).toInt = 2147483647 from rfl); have q7 := (show (10 : Int32).toInt = 10 from rfl); have q8 := (show (8 : Int32).toInt = 8 from rfl); have q9 := rng32 hd; have q10 := rng32 sec; have q11 := (show (-889275714 : Int32).toInt = -889275714 from rfl); have q12 := (show (4 : Int32).toInt = 4 from rfl); have q13 := (show (-17958193 : Int32).toInt = -17958193 from rfl); have q14 := (show (-805638658 : Int32).toInt = -805638658 from rfl); have q15 := (show (-17958194 : Int32).toInt = -17958194 from rfl); have q16 := (show (-822415874 : Int32).toInt = -822415874 from rfl); have q17 := (show (-889275713 : Int32).toInt = -889275713 from rfl); omega)
          refine px_iconst (v := (1 : Int32)) S16 at_325 rfl rfl ?_
          refine px_goto S16 at_326 (by decide) (pc' := 330) rfl ?_
          refine px_istore S16 at_330 rfl (L' := #[.val (.int i0), .val (.int i1), .val (.int i2), .val (.int i3), .val (.int i4), .val (.int v1), .val (.int v2), .val (.int hd), .val (.int sec), .val (.ref b6), .val (.int (1 : Int32)), .val (.int (1 : Int32))]) rfl ?_
          refine px_goto S16 at_332 (by decide) (pc' := 338) rfl ?_
          refine px_iload S16 at_338 rfl rfl ?_
          refine px_iload S16 at_340 rfl rfl ?_
          refine px_icmp S16 at_342 (by decide) (pc' := 349) rfl rfl (fun (hc52 : ¬ (1 : Int32).toInt = (1 : Int32).toInt) => absurd rfl hc52) (fun (hc52 : (1 : Int32).toInt = (1 : Int32).toInt) => ?_)
          refine px_iconst (v := (1 : Int32)) S16 at_345 rfl rfl ?_
          refine px_goto S16 at_346 (by decide) (pc' := 350) rfl ?_
          exact px_retN (t := .boolean) (z' := (1 : Int32)) S16 at_350 rfl (by simp) rfl (by decide) (by decide) (rfl)
        · show Go _ _ _ _ _ _ _ [(.int (1 : Int32))]
          refine px_istore S16 at_244 rfl (L' := #[.val (.int i0), .val (.int i1), .val (.int i2), .val (.int i3), .val (.int i4), .val (.int v1), .val (.int v2), .val (.int hd), .val (.int sec), .val (.ref b6), .val (.int (1 : Int32)), .unset]) rfl ?_
          refine px_iload S16 at_246 rfl rfl ?_
          refine px_iconst (v := (4 : Int32)) S16 at_248 rfl rfl ?_
          refine px_icmp S16 at_249 (by decide) (pc' := 258) rfl rfl (fun (hc53 : v1.toInt ≥ (4 : Int32).toInt) => ?_) (fun (hc53 : v1.toInt < (4 : Int32).toInt) => by exfalso; have q0 := rng32 v1; have q1 := congrArg Int32.toInt h_v1; have q2 := f_irem (i4 &&& (2147483647 : Int32)) (10 : Int32) 10 rfl; have q3 := rng32 ((i4 &&& (2147483647 : Int32)) % (10 : Int32)); have q4 := f_imask i4 (2147483647 : Int32) 31 2147483648 (by decide) (by decide) (by decide); have q5 := rng32 i4; have q6 := (show (2147483647 : Int32).toInt = 2147483647 from rfl); have q7 := (show (10 : Int32).toInt = 10 from rfl); have q8 := (show (4 : Int32).toInt = 4 from rfl); have q9 := rng32 hd; have q10 := rng32 sec; have q11 := (show (-889275714 : Int32).toInt = -889275714 from rfl); omega)
          refine px_iload S16 at_258 rfl rfl ?_
          refine px_ldcI S16 (hw _ (List.mem_of_getElem? (i := 1) rfl)) at_260 rfl ?_
          refine px_icmp S16 at_262 (by decide) (pc' := 293) rfl rfl (fun (hc54 : hd.toInt = (-17958193 : Int32).toInt) => by exfalso; have q0 := rng32 hd; have q1 := (show (-17958193 : Int32).toInt = -17958193 from rfl); have q2 := rng32 v1; have q3 := congrArg Int32.toInt h_v1; have q4 := f_irem (i4 &&& (2147483647 : Int32)) (10 : Int32) 10 rfl; have q5 := rng32 ((i4 &&& (2147483647 : Int32)) % (10 : Int32)); have q6 := f_imask i4 (2147483647 : Int32) 31 2147483648 (by decide) (by decide) (by decide); have q7 := rng32 i4; have q8 := (show (2147483647 : Int32).toInt = 2147483647 from rfl); have q9 := (show (10 : Int32).toInt = 10 from rfl); have q10 := rng32 sec; have q11 := (show (-889275714 : Int32).toInt = -889275714 from rfl); have q12 := (show (4 : Int32).toInt = 4 from rfl); omega) (fun (hc54 : ¬ hd.toInt = (-17958193 : Int32).toInt) => ?_)
          refine px_iload S16 at_265 rfl rfl ?_
          refine px_ldcI S16 (hw _ (List.mem_of_getElem? (i := 15) rfl)) at_267 rfl ?_
          refine px_icmp S16 at_269 (by decide) (pc' := 293) rfl rfl (fun (hc55 : hd.toInt = (-805638658 : Int32).toInt) => by exfalso; have q0 := rng32 hd; have q1 := (show (-805638658 : Int32).toInt = -805638658 from rfl); have q2 := rng32 v1; have q3 := congrArg Int32.toInt h_v1; have q4 := f_irem (i4 &&& (2147483647 : Int32)) (10 : Int32) 10 rfl; have q5 := rng32 ((i4 &&& (2147483647 : Int32)) % (10 : Int32)); have q6 := f_imask i4 (2147483647 : Int32) 31 2147483648 (by decide) (by decide) (by decide); have q7 := rng32 i4; have q8 := (show (2147483647 : Int32).toInt = 2147483647 from rfl); have q9 := (show (10 : Int32).toInt = 10 from rfl); have q10 := rng32 sec; have q11 := (show (-889275714 : Int32).toInt = -889275714 from rfl); have q12 := (show (4 : Int32).toInt = 4 from rfl); have q13 := (show (-17958193 : Int32).toInt = -17958193 from rfl); omega) (fun (hc55 : ¬ hd.toInt = (-805638658 : Int32).toInt) => ?_)
          refine px_iload S16 at_272 rfl rfl ?_
          refine px_ldcI S16 (hw _ (List.mem_of_getElem? (i := 16) rfl)) at_274 rfl ?_
          refine px_icmp S16 at_276 (by decide) (pc' := 293) rfl rfl (fun (hc56 : hd.toInt = (-17958194 : Int32).toInt) => by exfalso; have q0 := rng32 hd; have q1 := (show (-17958194 : Int32).toInt = -17958194 from rfl); have q2 := rng32 v1; have q3 := congrArg Int32.toInt h_v1; have q4 := f_irem (i4 &&& (2147483647 : Int32)) (10 : Int32) 10 rfl; have q5 := rng32 ((i4 &&& (2147483647 : Int32)) % (10 : Int32)); have q6 := f_imask i4 (2147483647 : Int32) 31 2147483648 (by decide) (by decide) (by decide); have q7 := rng32 i4; have q8 := (show (2147483647 : Int32).toInt = 2147483647 from rfl); have q9 := (show (10 : Int32).toInt = 10 from rfl); have q10 := rng32 sec; have q11 := (show (-889275714 : Int32).toInt = -889275714 from rfl); have q12 := (show (4 : Int32).toInt = 4 from rfl); have q13 := (show (-17958193 : Int32).toInt = -17958193 from rfl); have q14 := (show (-805638658 : Int32).toInt = -805638658 from rfl); omega) (fun (hc56 : ¬ hd.toInt = (-17958194 : Int32).toInt) => ?_)
          refine px_iload S16 at_279 rfl rfl ?_
          refine px_ldcI S16 (hw _ (List.mem_of_getElem? (i := 11) rfl)) at_281 rfl ?_
          refine px_icmp S16 at_283 (by decide) (pc' := 293) rfl rfl (fun (hc57 : hd.toInt = (-822415874 : Int32).toInt) => by exfalso; have q0 := rng32 hd; have q1 := (show (-822415874 : Int32).toInt = -822415874 from rfl); have q2 := rng32 v1; have q3 := congrArg Int32.toInt h_v1; have q4 := f_irem (i4 &&& (2147483647 : Int32)) (10 : Int32) 10 rfl; have q5 := rng32 ((i4 &&& (2147483647 : Int32)) % (10 : Int32)); have q6 := f_imask i4 (2147483647 : Int32) 31 2147483648 (by decide) (by decide) (by decide); have q7 := rng32 i4; have q8 := (show (2147483647 : Int32).toInt = 2147483647 from rfl); have q9 := (show (10 : Int32).toInt = 10 from rfl); have q10 := rng32 sec; have q11 := (show (-889275714 : Int32).toInt = -889275714 from rfl); have q12 := (show (4 : Int32).toInt = 4 from rfl); have q13 := (show (-17958193 : Int32).toInt = -17958193 from rfl); have q14 := (show (-805638658 : Int32).toInt = -805638658 from rfl); have q15 := (show (-17958194 : Int32).toInt = -17958194 from rfl); omega) (fun (hc57 : ¬ hd.toInt = (-822415874 : Int32).toInt) => ?_)
          refine px_iload S16 at_286 rfl rfl ?_
          refine px_ldcI S16 (hw _ (List.mem_of_getElem? (i := 17) rfl)) at_288 rfl ?_
          refine px_icmp S16 at_290 (by decide) (pc' := 299) rfl rfl (fun (hc58 : ¬ hd.toInt = (-889275713 : Int32).toInt) => ?_) (fun (hc58 : hd.toInt = (-889275713 : Int32).toInt) => by exfalso; have q0 := rng32 hd; have q1 := (show (-889275713 : Int32).toInt = -889275713 from rfl); have q2 := rng32 v1; have q3 := congrArg Int32.toInt h_v1; have q4 := f_irem (i4 &&& (2147483647 : Int32)) (10 : Int32) 10 rfl; have q5 := rng32 ((i4 &&& (2147483647 : Int32)) % (10 : Int32)); have q6 := f_imask i4 (2147483647 : Int32) 31 2147483648 (by decide) (by decide) (by decide); have q7 := rng32 i4; have q8 := (show (2147483647 : Int32).toInt = 2147483647 from rfl); have q9 := (show (10 : Int32).toInt = 10 from rfl); have q10 := rng32 sec; have q11 := (show (-889275714 : Int32).toInt = -889275714 from rfl); have q12 := (show (4 : Int32).toInt = 4 from rfl); have q13 := (show (-17958193 : Int32).toInt = -17958193 from rfl); have q14 := (show (-805638658 : Int32).toInt = -805638658 from rfl); have q15 := (show (-17958194 : Int32).toInt = -17958194 from rfl); have q16 := (show (-822415874 : Int32).toInt = -822415874 from rfl); omega)
          refine px_iload S16 at_299 rfl rfl ?_
          refine px_ldcI S16 (hw _ (List.mem_of_getElem? (i := 18) rfl)) at_301 rfl ?_
          refine px_icmp S16 at_303 (by decide) (pc' := 335) rfl rfl (fun (hc59 : ¬ hd.toInt = (-889275714 : Int32).toInt) => by exfalso; have q0 := rng32 hd; have q1 := (show (-889275714 : Int32).toInt = -889275714 from rfl); have q2 := rng32 v1; have q3 := congrArg Int32.toInt h_v1; have q4 := f_irem (i4 &&& (2147483647 : Int32)) (10 : Int32) 10 rfl; have q5 := rng32 ((i4 &&& (2147483647 : Int32)) % (10 : Int32)); have q6 := f_imask i4 (2147483647 : Int32) 31 2147483648 (by decide) (by decide) (by decide); have q7 := rng32 i4; have q8 := (show (2147483647 : Int32).toInt = 2147483647 from rfl); have q9 := (show (10 : Int32).toInt = 10 from rfl); have q10 := rng32 sec; have q11 := (show (4 : Int32).toInt = 4 from rfl); have q12 := (show (-17958193 : Int32).toInt = -17958193 from rfl); have q13 := (show (-805638658 : Int32).toInt = -805638658 from rfl); have q14 := (show (-17958194 : Int32).toInt = -17958194 from rfl); have q15 := (show (-822415874 : Int32).toInt = -822415874 from rfl); have q16 := (show (-889275713 : Int32).toInt = -889275713 from rfl); omega) (fun (hc59 : hd.toInt = (-889275714 : Int32).toInt) => ?_)
          refine px_iload S16 at_306 rfl rfl ?_
          refine px_bipush (v := (8 : Int32)) S16 at_308 rfl rfl ?_
          refine px_icmp S16 at_310 (by decide) (pc' := 325) rfl rfl (fun (hc60 : v1.toInt < (8 : Int32).toInt) => by exfalso; have q0 := rng32 v1; have q1 := congrArg Int32.toInt h_v1; have q2 := f_irem (i4 &&& (2147483647 : Int32)) (10 : Int32) 10 rfl; have q3 := rng32 ((i4 &&& (2147483647 : Int32)) % (10 : Int32)); have q4 := f_imask i4 (2147483647 : Int32) 31 2147483648 (by decide) (by decide) (by decide); have q5 := rng32 i4; have q6 := (show (2147483647 : Int32).toInt = 2147483647 from rfl); have q7 := (show (10 : Int32).toInt = 10 from rfl); have q8 := (show (8 : Int32).toInt = 8 from rfl); have q9 := rng32 hd; have q10 := rng32 sec; have q11 := (show (-889275714 : Int32).toInt = -889275714 from rfl); have q12 := (show (4 : Int32).toInt = 4 from rfl); have q13 := (show (-17958193 : Int32).toInt = -17958193 from rfl); have q14 := (show (-805638658 : Int32).toInt = -805638658 from rfl); have q15 := (show (-17958194 : Int32).toInt = -17958194 from rfl); have q16 := (show (-822415874 : Int32).toInt = -822415874 from rfl); have q17 := (show (-889275713 : Int32).toInt = -889275713 from rfl); omega) (fun (hc60 : v1.toInt ≥ (8 : Int32).toInt) => ?_)
          refine px_iload S16 at_313 rfl rfl ?_
          refine px_if0 S16 at_315 (by decide) (pc' := 329) rfl rfl (fun (hc61 : sec.toInt < 0) => by exfalso; have q0 := rng32 sec; have q1 := rng32 v1; have q2 := congrArg Int32.toInt h_v1; have q3 := f_irem (i4 &&& (2147483647 : Int32)) (10 : Int32) 10 rfl; have q4 := rng32 ((i4 &&& (2147483647 : Int32)) % (10 : Int32)); have q5 := f_imask i4 (2147483647 : Int32) 31 2147483648 (by decide) (by decide) (by decide); have q6 := rng32 i4; have q7 := (show (2147483647 : Int32).toInt = 2147483647 from rfl); have q8 := (show (10 : Int32).toInt = 10 from rfl); have q9 := rng32 hd; have q10 := (show (-889275714 : Int32).toInt = -889275714 from rfl); have q11 := (show (4 : Int32).toInt = 4 from rfl); have q12 := (show (-17958193 : Int32).toInt = -17958193 from rfl); have q13 := (show (-805638658 : Int32).toInt = -805638658 from rfl); have q14 := (show (-17958194 : Int32).toInt = -17958194 from rfl); have q15 := (show (-822415874 : Int32).toInt = -822415874 from rfl); have q16 := (show (-889275713 : Int32).toInt = -889275713 from rfl); have q17 := (show (8 : Int32).toInt = 8 from rfl); omega) (fun (hc61 : sec.toInt ≥ 0) => ?_)
          refine px_iload S16 at_318 rfl rfl ?_
          refine px_bipush (v := (45 : Int32)) S16 at_320 rfl rfl ?_
          refine px_icmp S16 at_322 (by decide) (pc' := 329) rfl rfl (fun (hc62 : sec.toInt ≥ (45 : Int32).toInt) => by exfalso; have q0 := rng32 sec; have q1 := (show (45 : Int32).toInt = 45 from rfl); have q2 := rng32 v1; have q3 := congrArg Int32.toInt h_v1; have q4 := f_irem (i4 &&& (2147483647 : Int32)) (10 : Int32) 10 rfl; have q5 := rng32 ((i4 &&& (2147483647 : Int32)) % (10 : Int32)); have q6 := f_imask i4 (2147483647 : Int32) 31 2147483648 (by decide) (by decide) (by decide); have q7 := rng32 i4; have q8 := (show (2147483647 : Int32).toInt = 2147483647 from rfl); have q9 := (show (10 : Int32).toInt = 10 from rfl); have q10 := rng32 hd; have q11 := (show (-889275714 : Int32).toInt = -889275714 from rfl); have q12 := (show (4 : Int32).toInt = 4 from rfl); have q13 := (show (-17958193 : Int32).toInt = -17958193 from rfl); have q14 := (show (-805638658 : Int32).toInt = -805638658 from rfl); have q15 := (show (-17958194 : Int32).toInt = -17958194 from rfl); have q16 := (show (-822415874 : Int32).toInt = -822415874 from rfl); have q17 := (show (-889275713 : Int32).toInt = -889275713 from rfl); have q18 := (show (8 : Int32).toInt = 8 from rfl); omega) (fun (hc62 : sec.toInt < (45 : Int32).toInt) => ?_)
          refine px_iconst (v := (1 : Int32)) S16 at_325 rfl rfl ?_
          refine px_goto S16 at_326 (by decide) (pc' := 330) rfl ?_
          refine px_istore S16 at_330 rfl (L' := #[.val (.int i0), .val (.int i1), .val (.int i2), .val (.int i3), .val (.int i4), .val (.int v1), .val (.int v2), .val (.int hd), .val (.int sec), .val (.ref b6), .val (.int (1 : Int32)), .val (.int (1 : Int32))]) rfl ?_
          refine px_goto S16 at_332 (by decide) (pc' := 338) rfl ?_
          refine px_iload S16 at_338 rfl rfl ?_
          refine px_iload S16 at_340 rfl rfl ?_
          refine px_icmp S16 at_342 (by decide) (pc' := 349) rfl rfl (fun (hc63 : ¬ (1 : Int32).toInt = (1 : Int32).toInt) => absurd rfl hc63) (fun (hc63 : (1 : Int32).toInt = (1 : Int32).toInt) => ?_)
          refine px_iconst (v := (1 : Int32)) S16 at_345 rfl rfl ?_
          refine px_goto S16 at_346 (by decide) (pc' := 350) rfl ?_
          exact px_retN (t := .boolean) (z' := (1 : Int32)) S16 at_350 rfl (by simp) rfl (by decide) (by decide) (rfl)
        · show Go _ _ _ _ _ _ _ [(.int (0 : Int32))]
          refine px_istore S16 at_244 rfl (L' := #[.val (.int i0), .val (.int i1), .val (.int i2), .val (.int i3), .val (.int i4), .val (.int v1), .val (.int v2), .val (.int hd), .val (.int sec), .val (.ref b6), .val (.int (0 : Int32)), .unset]) rfl ?_
          refine px_iload S16 at_246 rfl rfl ?_
          refine px_iconst (v := (4 : Int32)) S16 at_248 rfl rfl ?_
          refine px_icmp S16 at_249 (by decide) (pc' := 258) rfl rfl (fun (hc64 : v1.toInt ≥ (4 : Int32).toInt) => ?_) (fun (hc64 : v1.toInt < (4 : Int32).toInt) => by exfalso; have q0 := rng32 v1; have q1 := congrArg Int32.toInt h_v1; have q2 := f_irem (i4 &&& (2147483647 : Int32)) (10 : Int32) 10 rfl; have q3 := rng32 ((i4 &&& (2147483647 : Int32)) % (10 : Int32)); have q4 := f_imask i4 (2147483647 : Int32) 31 2147483648 (by decide) (by decide) (by decide); have q5 := rng32 i4; have q6 := (show (2147483647 : Int32).toInt = 2147483647 from rfl); have q7 := (show (10 : Int32).toInt = 10 from rfl); have q8 := (show (4 : Int32).toInt = 4 from rfl); have q9 := rng32 hd; have q10 := rng32 sec; have q11 := (show (-889275714 : Int32).toInt = -889275714 from rfl); omega)
          refine px_iload S16 at_258 rfl rfl ?_
          refine px_ldcI S16 (hw _ (List.mem_of_getElem? (i := 1) rfl)) at_260 rfl ?_
          refine px_icmp S16 at_262 (by decide) (pc' := 293) rfl rfl (fun (hc65 : hd.toInt = (-17958193 : Int32).toInt) => by exfalso; have q0 := rng32 hd; have q1 := (show (-17958193 : Int32).toInt = -17958193 from rfl); have q2 := rng32 v1; have q3 := congrArg Int32.toInt h_v1; have q4 := f_irem (i4 &&& (2147483647 : Int32)) (10 : Int32) 10 rfl; have q5 := rng32 ((i4 &&& (2147483647 : Int32)) % (10 : Int32)); have q6 := f_imask i4 (2147483647 : Int32) 31 2147483648 (by decide) (by decide) (by decide); have q7 := rng32 i4; have q8 := (show (2147483647 : Int32).toInt = 2147483647 from rfl); have q9 := (show (10 : Int32).toInt = 10 from rfl); have q10 := rng32 sec; have q11 := (show (-889275714 : Int32).toInt = -889275714 from rfl); have q12 := (show (4 : Int32).toInt = 4 from rfl); omega) (fun (hc65 : ¬ hd.toInt = (-17958193 : Int32).toInt) => ?_)
          refine px_iload S16 at_265 rfl rfl ?_
          refine px_ldcI S16 (hw _ (List.mem_of_getElem? (i := 15) rfl)) at_267 rfl ?_
          refine px_icmp S16 at_269 (by decide) (pc' := 293) rfl rfl (fun (hc66 : hd.toInt = (-805638658 : Int32).toInt) => by exfalso; have q0 := rng32 hd; have q1 := (show (-805638658 : Int32).toInt = -805638658 from rfl); have q2 := rng32 v1; have q3 := congrArg Int32.toInt h_v1; have q4 := f_irem (i4 &&& (2147483647 : Int32)) (10 : Int32) 10 rfl; have q5 := rng32 ((i4 &&& (2147483647 : Int32)) % (10 : Int32)); have q6 := f_imask i4 (2147483647 : Int32) 31 2147483648 (by decide) (by decide) (by decide); have q7 := rng32 i4; have q8 := (show (2147483647 : Int32).toInt = 2147483647 from rfl); have q9 := (show (10 : Int32).toInt = 10 from rfl); have q10 := rng32 sec; have q11 := (show (-889275714 : Int32).toInt = -889275714 from rfl); have q12 := (show (4 : Int32).toInt = 4 from rfl); have q13 := (show (-17958193 : Int32).toInt = -17958193 from rfl); omega) (fun (hc66 : ¬ hd.toInt = (-805638658 : Int32).toInt) => ?_)
          refine px_iload S16 at_272 rfl rfl ?_
          refine px_ldcI S16 (hw _ (List.mem_of_getElem? (i := 16) rfl)) at_274 rfl ?_
          refine px_icmp S16 at_276 (by decide) (pc' := 293) rfl rfl (fun (hc67 : hd.toInt = (-17958194 : Int32).toInt) => by exfalso; have q0 := rng32 hd; have q1 := (show (-17958194 : Int32).toInt = -17958194 from rfl); have q2 := rng32 v1; have q3 := congrArg Int32.toInt h_v1; have q4 := f_irem (i4 &&& (2147483647 : Int32)) (10 : Int32) 10 rfl; have q5 := rng32 ((i4 &&& (2147483647 : Int32)) % (10 : Int32)); have q6 := f_imask i4 (2147483647 : Int32) 31 2147483648 (by decide) (by decide) (by decide); have q7 := rng32 i4; have q8 := (show (2147483647 : Int32).toInt = 2147483647 from rfl); have q9 := (show (10 : Int32).toInt = 10 from rfl); have q10 := rng32 sec; have q11 := (show (-889275714 : Int32).toInt = -889275714 from rfl); have q12 := (show (4 : Int32).toInt = 4 from rfl); have q13 := (show (-17958193 : Int32).toInt = -17958193 from rfl); have q14 := (show (-805638658 : Int32).toInt = -805638658 from rfl); omega) (fun (hc67 : ¬ hd.toInt = (-17958194 : Int32).toInt) => ?_)
          refine px_iload S16 at_279 rfl rfl ?_
          refine px_ldcI S16 (hw _ (List.mem_of_getElem? (i := 11) rfl)) at_281 rfl ?_
          refine px_icmp S16 at_283 (by decide) (pc' := 293) rfl rfl (fun (hc68 : hd.toInt = (-822415874 : Int32).toInt) => by exfalso; have q0 := rng32 hd; have q1 := (show (-822415874 : Int32).toInt = -822415874 from rfl); have q2 := rng32 v1; have q3 := congrArg Int32.toInt h_v1; have q4 := f_irem (i4 &&& (2147483647 : Int32)) (10 : Int32) 10 rfl; have q5 := rng32 ((i4 &&& (2147483647 : Int32)) % (10 : Int32)); have q6 := f_imask i4 (2147483647 : Int32) 31 2147483648 (by decide) (by decide) (by decide); have q7 := rng32 i4; have q8 := (show (2147483647 : Int32).toInt = 2147483647 from rfl); have q9 := (show (10 : Int32).toInt = 10 from rfl); have q10 := rng32 sec; have q11 := (show (-889275714 : Int32).toInt = -889275714 from rfl); have q12 := (show (4 : Int32).toInt = 4 from rfl); have q13 := (show (-17958193 : Int32).toInt = -17958193 from rfl); have q14 := (show (-805638658 : Int32).toInt = -805638658 from rfl); have q15 := (show (-17958194 : Int32).toInt = -17958194 from rfl); omega) (fun (hc68 : ¬ hd.toInt = (-822415874 : Int32).toInt) => ?_)
          refine px_iload S16 at_286 rfl rfl ?_
          refine px_ldcI S16 (hw _ (List.mem_of_getElem? (i := 17) rfl)) at_288 rfl ?_
          refine px_icmp S16 at_290 (by decide) (pc' := 299) rfl rfl (fun (hc69 : ¬ hd.toInt = (-889275713 : Int32).toInt) => ?_) (fun (hc69 : hd.toInt = (-889275713 : Int32).toInt) => by exfalso; have q0 := rng32 hd; have q1 := (show (-889275713 : Int32).toInt = -889275713 from rfl); have q2 := rng32 v1; have q3 := congrArg Int32.toInt h_v1; have q4 := f_irem (i4 &&& (2147483647 : Int32)) (10 : Int32) 10 rfl; have q5 := rng32 ((i4 &&& (2147483647 : Int32)) % (10 : Int32)); have q6 := f_imask i4 (2147483647 : Int32) 31 2147483648 (by decide) (by decide) (by decide); have q7 := rng32 i4; have q8 := (show (2147483647 : Int32).toInt = 2147483647 from rfl); have q9 := (show (10 : Int32).toInt = 10 from rfl); have q10 := rng32 sec; have q11 := (show (-889275714 : Int32).toInt = -889275714 from rfl); have q12 := (show (4 : Int32).toInt = 4 from rfl); have q13 := (show (-17958193 : Int32).toInt = -17958193 from rfl); have q14 := (show (-805638658 : Int32).toInt = -805638658 from rfl); have q15 := (show (-17958194 : Int32).toInt = -17958194 from rfl); have q16 := (show (-822415874 : Int32).toInt = -822415874 from rfl); omega)
          refine px_iload S16 at_299 rfl rfl ?_
          refine px_ldcI S16 (hw _ (List.mem_of_getElem? (i := 18) rfl)) at_301 rfl ?_
          refine px_icmp S16 at_303 (by decide) (pc' := 335) rfl rfl (fun (hc70 : ¬ hd.toInt = (-889275714 : Int32).toInt) => by exfalso; have q0 := rng32 hd; have q1 := (show (-889275714 : Int32).toInt = -889275714 from rfl); have q2 := rng32 v1; have q3 := congrArg Int32.toInt h_v1; have q4 := f_irem (i4 &&& (2147483647 : Int32)) (10 : Int32) 10 rfl; have q5 := rng32 ((i4 &&& (2147483647 : Int32)) % (10 : Int32)); have q6 := f_imask i4 (2147483647 : Int32) 31 2147483648 (by decide) (by decide) (by decide); have q7 := rng32 i4; have q8 := (show (2147483647 : Int32).toInt = 2147483647 from rfl); have q9 := (show (10 : Int32).toInt = 10 from rfl); have q10 := rng32 sec; have q11 := (show (4 : Int32).toInt = 4 from rfl); have q12 := (show (-17958193 : Int32).toInt = -17958193 from rfl); have q13 := (show (-805638658 : Int32).toInt = -805638658 from rfl); have q14 := (show (-17958194 : Int32).toInt = -17958194 from rfl); have q15 := (show (-822415874 : Int32).toInt = -822415874 from rfl); have q16 := (show (-889275713 : Int32).toInt = -889275713 from rfl); omega) (fun (hc70 : hd.toInt = (-889275714 : Int32).toInt) => ?_)
          refine px_iload S16 at_306 rfl rfl ?_
          refine px_bipush (v := (8 : Int32)) S16 at_308 rfl rfl ?_
          refine px_icmp S16 at_310 (by decide) (pc' := 325) rfl rfl (fun (hc71 : v1.toInt < (8 : Int32).toInt) => by exfalso; have q0 := rng32 v1; have q1 := congrArg Int32.toInt h_v1; have q2 := f_irem (i4 &&& (2147483647 : Int32)) (10 : Int32) 10 rfl; have q3 := rng32 ((i4 &&& (2147483647 : Int32)) % (10 : Int32)); have q4 := f_imask i4 (2147483647 : Int32) 31 2147483648 (by decide) (by decide) (by decide); have q5 := rng32 i4; have q6 := (show (2147483647 : Int32).toInt = 2147483647 from rfl); have q7 := (show (10 : Int32).toInt = 10 from rfl); have q8 := (show (8 : Int32).toInt = 8 from rfl); have q9 := rng32 hd; have q10 := rng32 sec; have q11 := (show (-889275714 : Int32).toInt = -889275714 from rfl); have q12 := (show (4 : Int32).toInt = 4 from rfl); have q13 := (show (-17958193 : Int32).toInt = -17958193 from rfl); have q14 := (show (-805638658 : Int32).toInt = -805638658 from rfl); have q15 := (show (-17958194 : Int32).toInt = -17958194 from rfl); have q16 := (show (-822415874 : Int32).toInt = -822415874 from rfl); have q17 := (show (-889275713 : Int32).toInt = -889275713 from rfl); omega) (fun (hc71 : v1.toInt ≥ (8 : Int32).toInt) => ?_)
          refine px_iload S16 at_313 rfl rfl ?_
          refine px_if0 S16 at_315 (by decide) (pc' := 329) rfl rfl (fun (hc72 : sec.toInt < 0) => ?_) (fun (hc72 : sec.toInt ≥ 0) => ?_)
          · refine px_iconst (v := (0 : Int32)) S16 at_329 rfl rfl ?_
            refine px_istore S16 at_330 rfl (L' := #[.val (.int i0), .val (.int i1), .val (.int i2), .val (.int i3), .val (.int i4), .val (.int v1), .val (.int v2), .val (.int hd), .val (.int sec), .val (.ref b6), .val (.int (0 : Int32)), .val (.int (0 : Int32))]) rfl ?_
            refine px_goto S16 at_332 (by decide) (pc' := 338) rfl ?_
            refine px_iload S16 at_338 rfl rfl ?_
            refine px_iload S16 at_340 rfl rfl ?_
            refine px_icmp S16 at_342 (by decide) (pc' := 349) rfl rfl (fun (hc73 : ¬ (0 : Int32).toInt = (0 : Int32).toInt) => absurd rfl hc73) (fun (hc73 : (0 : Int32).toInt = (0 : Int32).toInt) => ?_)
            refine px_iconst (v := (1 : Int32)) S16 at_345 rfl rfl ?_
            refine px_goto S16 at_346 (by decide) (pc' := 350) rfl ?_
            exact px_retN (t := .boolean) (z' := (1 : Int32)) S16 at_350 rfl (by simp) rfl (by decide) (by decide) (rfl)
          · refine px_iload S16 at_318 rfl rfl ?_
            refine px_bipush (v := (45 : Int32)) S16 at_320 rfl rfl ?_
            refine px_icmp S16 at_322 (by decide) (pc' := 329) rfl rfl (fun (hc74 : sec.toInt ≥ (45 : Int32).toInt) => ?_) (fun (hc74 : sec.toInt < (45 : Int32).toInt) => by exfalso; have q0 := rng32 sec; have q1 := (show (45 : Int32).toInt = 45 from rfl); have q2 := rng32 v1; have q3 := congrArg Int32.toInt h_v1; have q4 := f_irem (i4 &&& (2147483647 : Int32)) (10 : Int32) 10 rfl; have q5 := rng32 ((i4 &&& (2147483647 : Int32)) % (10 : Int32)); have q6 := f_imask i4 (2147483647 : Int32) 31 2147483648 (by decide) (by decide) (by decide); have q7 := rng32 i4; have q8 := (show (2147483647 : Int32).toInt = 2147483647 from rfl); have q9 := (show (10 : Int32).toInt = 10 from rfl); have q10 := rng32 hd; have q11 := (show (-889275714 : Int32).toInt = -889275714 from rfl); have q12 := (show (4 : Int32).toInt = 4 from rfl); have q13 := (show (-17958193 : Int32).toInt = -17958193 from rfl); have q14 := (show (-805638658 : Int32).toInt = -805638658 from rfl); have q15 := (show (-17958194 : Int32).toInt = -17958194 from rfl); have q16 := (show (-822415874 : Int32).toInt = -822415874 from rfl); have q17 := (show (-889275713 : Int32).toInt = -889275713 from rfl); have q18 := (show (8 : Int32).toInt = 8 from rfl); omega)
            refine px_iconst (v := (0 : Int32)) S16 at_329 rfl rfl ?_
            refine px_istore S16 at_330 rfl (L' := #[.val (.int i0), .val (.int i1), .val (.int i2), .val (.int i3), .val (.int i4), .val (.int v1), .val (.int v2), .val (.int hd), .val (.int sec), .val (.ref b6), .val (.int (0 : Int32)), .val (.int (0 : Int32))]) rfl ?_
            refine px_goto S16 at_332 (by decide) (pc' := 338) rfl ?_
            refine px_iload S16 at_338 rfl rfl ?_
            refine px_iload S16 at_340 rfl rfl ?_
            refine px_icmp S16 at_342 (by decide) (pc' := 349) rfl rfl (fun (hc75 : ¬ (0 : Int32).toInt = (0 : Int32).toInt) => absurd rfl hc75) (fun (hc75 : (0 : Int32).toInt = (0 : Int32).toInt) => ?_)
            refine px_iconst (v := (1 : Int32)) S16 at_345 rfl rfl ?_
            refine px_goto S16 at_346 (by decide) (pc' := 350) rfl ?_
            exact px_retN (t := .boolean) (z' := (1 : Int32)) S16 at_350 rfl (by simp) rfl (by decide) (by decide) (rfl)
        · show Go _ _ _ _ _ _ _ [(.int (0 : Int32))]
          refine px_istore S16 at_244 rfl (L' := #[.val (.int i0), .val (.int i1), .val (.int i2), .val (.int i3), .val (.int i4), .val (.int v1), .val (.int v2), .val (.int hd), .val (.int sec), .val (.ref b6), .val (.int (0 : Int32)), .unset]) rfl ?_
          refine px_iload S16 at_246 rfl rfl ?_
          refine px_iconst (v := (4 : Int32)) S16 at_248 rfl rfl ?_
          refine px_icmp S16 at_249 (by decide) (pc' := 258) rfl rfl (fun (hc76 : v1.toInt ≥ (4 : Int32).toInt) => ?_) (fun (hc76 : v1.toInt < (4 : Int32).toInt) => by exfalso; first | exact absurd hc76 d0 | exact absurd hc76 d1 | exact absurd hc76 d2 | exact absurd hc76 d3 | exact absurd hc76 d4 | exact absurd hc76 d5 | (clear d0 d1 d2 d3 d4 d5; have q0 := rng32 v1; have q1 := congrArg Int32.toInt h_v1; have q2 := f_irem (i4 &&& (2147483647 : Int32)) (10 : Int32) 10 rfl; have q3 := rng32 ((i4 &&& (2147483647 : Int32)) % (10 : Int32)); have q4 := f_imask i4 (2147483647 : Int32) 31 2147483648 (by decide) (by decide) (by decide); have q5 := rng32 i4; have q6 := (show (2147483647 : Int32).toInt = 2147483647 from rfl); have q7 := (show (10 : Int32).toInt = 10 from rfl); have q8 := (show (4 : Int32).toInt = 4 from rfl); have q9 := rng32 hd; have q10 := rng32 sec; omega))
          refine px_iload S16 at_258 rfl rfl ?_
          refine px_ldcI S16 (hw _ (List.mem_of_getElem? (i := 1) rfl)) at_260 rfl ?_
          refine px_icmp S16 at_262 (by decide) (pc' := 293) rfl rfl (fun (hc77 : hd.toInt = (-17958193 : Int32).toInt) => by exfalso; first | exact absurd hc77 d0 | exact absurd hc77 d1 | exact absurd hc77 d2 | exact absurd hc77 d3 | exact absurd hc77 d4 | exact absurd hc77 d5 | (clear d0 d1 d2 d3 d4 d5; have q0 := rng32 hd; have q1 := (show (-17958193 : Int32).toInt = -17958193 from rfl); have q2 := rng32 v1; have q3 := congrArg Int32.toInt h_v1; have q4 := f_irem (i4 &&& (2147483647 : Int32)) (10 : Int32) 10 rfl; have q5 := rng32 ((i4 &&& (2147483647 : Int32)) % (10 : Int32)); have q6 := f_imask i4 (2147483647 : Int32) 31 2147483648 (by decide) (by decide) (by decide); have q7 := rng32 i4; have q8 := (show (2147483647 : Int32).toInt = 2147483647 from rfl); have q9 := (show (10 : Int32).toInt = 10 from rfl); have q10 := rng32 sec; have q11 := (show (4 : Int32).toInt = 4 from rfl); omega)) (fun (hc77 : ¬ hd.toInt = (-17958193 : Int32).toInt) => ?_)
          refine px_iload S16 at_265 rfl rfl ?_
          refine px_ldcI S16 (hw _ (List.mem_of_getElem? (i := 15) rfl)) at_267 rfl ?_
          refine px_icmp S16 at_269 (by decide) (pc' := 293) rfl rfl (fun (hc78 : hd.toInt = (-805638658 : Int32).toInt) => by exfalso; first | exact absurd hc78 d0 | exact absurd hc78 d1 | exact absurd hc78 d2 | exact absurd hc78 d3 | exact absurd hc78 d4 | exact absurd hc78 d5 | (clear d0 d1 d2 d3 d4 d5; have q0 := rng32 hd; have q1 := (show (-805638658 : Int32).toInt = -805638658 from rfl); have q2 := rng32 v1; have q3 := congrArg Int32.toInt h_v1; have q4 := f_irem (i4 &&& (2147483647 : Int32)) (10 : Int32) 10 rfl; have q5 := rng32 ((i4 &&& (2147483647 : Int32)) % (10 : Int32)); have q6 := f_imask i4 (2147483647 : Int32) 31 2147483648 (by decide) (by decide) (by decide); have q7 := rng32 i4; have q8 := (show (2147483647 : Int32).toInt = 2147483647 from rfl); have q9 := (show (10 : Int32).toInt = 10 from rfl); have q10 := rng32 sec; have q11 := (show (4 : Int32).toInt = 4 from rfl); have q12 := (show (-17958193 : Int32).toInt = -17958193 from rfl); omega)) (fun (hc78 : ¬ hd.toInt = (-805638658 : Int32).toInt) => ?_)
          refine px_iload S16 at_272 rfl rfl ?_
          refine px_ldcI S16 (hw _ (List.mem_of_getElem? (i := 16) rfl)) at_274 rfl ?_
          refine px_icmp S16 at_276 (by decide) (pc' := 293) rfl rfl (fun (hc79 : hd.toInt = (-17958194 : Int32).toInt) => by exfalso; first | exact absurd hc79 d0 | exact absurd hc79 d1 | exact absurd hc79 d2 | exact absurd hc79 d3 | exact absurd hc79 d4 | exact absurd hc79 d5 | (clear d0 d1 d2 d3 d4 d5; have q0 := rng32 hd; have q1 := (show (-17958194 : Int32).toInt = -17958194 from rfl); have q2 := rng32 v1; have q3 := congrArg Int32.toInt h_v1; have q4 := f_irem (i4 &&& (2147483647 : Int32)) (10 : Int32) 10 rfl; have q5 := rng32 ((i4 &&& (2147483647 : Int32)) % (10 : Int32)); have q6 := f_imask i4 (2147483647 : Int32) 31 2147483648 (by decide) (by decide) (by decide); have q7 := rng32 i4; have q8 := (show (2147483647 : Int32).toInt = 2147483647 from rfl); have q9 := (show (10 : Int32).toInt = 10 from rfl); have q10 := rng32 sec; have q11 := (show (4 : Int32).toInt = 4 from rfl); have q12 := (show (-17958193 : Int32).toInt = -17958193 from rfl); have q13 := (show (-805638658 : Int32).toInt = -805638658 from rfl); omega)) (fun (hc79 : ¬ hd.toInt = (-17958194 : Int32).toInt) => ?_)
          refine px_iload S16 at_279 rfl rfl ?_
          refine px_ldcI S16 (hw _ (List.mem_of_getElem? (i := 11) rfl)) at_281 rfl ?_
          refine px_icmp S16 at_283 (by decide) (pc' := 293) rfl rfl (fun (hc80 : hd.toInt = (-822415874 : Int32).toInt) => by exfalso; first | exact absurd hc80 d0 | exact absurd hc80 d1 | exact absurd hc80 d2 | exact absurd hc80 d3 | exact absurd hc80 d4 | exact absurd hc80 d5 | (clear d0 d1 d2 d3 d4 d5; have q0 := rng32 hd; have q1 := (show (-822415874 : Int32).toInt = -822415874 from rfl); have q2 := rng32 v1; have q3 := congrArg Int32.toInt h_v1; have q4 := f_irem (i4 &&& (2147483647 : Int32)) (10 : Int32) 10 rfl; have q5 := rng32 ((i4 &&& (2147483647 : Int32)) % (10 : Int32)); have q6 := f_imask i4 (2147483647 : Int32) 31 2147483648 (by decide) (by decide) (by decide); have q7 := rng32 i4; have q8 := (show (2147483647 : Int32).toInt = 2147483647 from rfl); have q9 := (show (10 : Int32).toInt = 10 from rfl); have q10 := rng32 sec; have q11 := (show (4 : Int32).toInt = 4 from rfl); have q12 := (show (-17958193 : Int32).toInt = -17958193 from rfl); have q13 := (show (-805638658 : Int32).toInt = -805638658 from rfl); have q14 := (show (-17958194 : Int32).toInt = -17958194 from rfl); omega)) (fun (hc80 : ¬ hd.toInt = (-822415874 : Int32).toInt) => ?_)
          refine px_iload S16 at_286 rfl rfl ?_
          refine px_ldcI S16 (hw _ (List.mem_of_getElem? (i := 17) rfl)) at_288 rfl ?_
          refine px_icmp S16 at_290 (by decide) (pc' := 299) rfl rfl (fun (hc81 : ¬ hd.toInt = (-889275713 : Int32).toInt) => ?_) (fun (hc81 : hd.toInt = (-889275713 : Int32).toInt) => by exfalso; first | exact absurd hc81 d0 | exact absurd hc81 d1 | exact absurd hc81 d2 | exact absurd hc81 d3 | exact absurd hc81 d4 | exact absurd hc81 d5 | (clear d0 d1 d2 d3 d4 d5; have q0 := rng32 hd; have q1 := (show (-889275713 : Int32).toInt = -889275713 from rfl); have q2 := rng32 v1; have q3 := congrArg Int32.toInt h_v1; have q4 := f_irem (i4 &&& (2147483647 : Int32)) (10 : Int32) 10 rfl; have q5 := rng32 ((i4 &&& (2147483647 : Int32)) % (10 : Int32)); have q6 := f_imask i4 (2147483647 : Int32) 31 2147483648 (by decide) (by decide) (by decide); have q7 := rng32 i4; have q8 := (show (2147483647 : Int32).toInt = 2147483647 from rfl); have q9 := (show (10 : Int32).toInt = 10 from rfl); have q10 := rng32 sec; have q11 := (show (4 : Int32).toInt = 4 from rfl); have q12 := (show (-17958193 : Int32).toInt = -17958193 from rfl); have q13 := (show (-805638658 : Int32).toInt = -805638658 from rfl); have q14 := (show (-17958194 : Int32).toInt = -17958194 from rfl); have q15 := (show (-822415874 : Int32).toInt = -822415874 from rfl); omega))
          refine px_iload S16 at_299 rfl rfl ?_
          refine px_ldcI S16 (hw _ (List.mem_of_getElem? (i := 18) rfl)) at_301 rfl ?_
          refine px_icmp S16 at_303 (by decide) (pc' := 335) rfl rfl (fun (hc82 : ¬ hd.toInt = (-889275714 : Int32).toInt) => ?_) (fun (hc82 : hd.toInt = (-889275714 : Int32).toInt) => by exfalso; first | exact absurd hc82 d0 | exact absurd hc82 d1 | exact absurd hc82 d2 | exact absurd hc82 d3 | exact absurd hc82 d4 | exact absurd hc82 d5 | (clear d0 d1 d2 d3 d4 d5; have q0 := rng32 hd; have q1 := (show (-889275714 : Int32).toInt = -889275714 from rfl); have q2 := rng32 v1; have q3 := congrArg Int32.toInt h_v1; have q4 := f_irem (i4 &&& (2147483647 : Int32)) (10 : Int32) 10 rfl; have q5 := rng32 ((i4 &&& (2147483647 : Int32)) % (10 : Int32)); have q6 := f_imask i4 (2147483647 : Int32) 31 2147483648 (by decide) (by decide) (by decide); have q7 := rng32 i4; have q8 := (show (2147483647 : Int32).toInt = 2147483647 from rfl); have q9 := (show (10 : Int32).toInt = 10 from rfl); have q10 := rng32 sec; have q11 := (show (4 : Int32).toInt = 4 from rfl); have q12 := (show (-17958193 : Int32).toInt = -17958193 from rfl); have q13 := (show (-805638658 : Int32).toInt = -805638658 from rfl); have q14 := (show (-17958194 : Int32).toInt = -17958194 from rfl); have q15 := (show (-822415874 : Int32).toInt = -822415874 from rfl); have q16 := (show (-889275713 : Int32).toInt = -889275713 from rfl); omega))
          refine px_iconst (v := (0 : Int32)) S16 at_335 rfl rfl ?_
          refine px_istore S16 at_336 rfl (L' := #[.val (.int i0), .val (.int i1), .val (.int i2), .val (.int i3), .val (.int i4), .val (.int v1), .val (.int v2), .val (.int hd), .val (.int sec), .val (.ref b6), .val (.int (0 : Int32)), .val (.int (0 : Int32))]) rfl ?_
          refine px_iload S16 at_338 rfl rfl ?_
          refine px_iload S16 at_340 rfl rfl ?_
          refine px_icmp S16 at_342 (by decide) (pc' := 349) rfl rfl (fun (hc83 : ¬ (0 : Int32).toInt = (0 : Int32).toInt) => absurd rfl hc83) (fun (hc83 : (0 : Int32).toInt = (0 : Int32).toInt) => ?_)
          refine px_iconst (v := (1 : Int32)) S16 at_345 rfl rfl ?_
          refine px_goto S16 at_346 (by decide) (pc' := 350) rfl ?_
          exact px_retN (t := .boolean) (z' := (1 : Int32)) S16 at_350 rfl (by simp) rfl (by decide) (by decide) (rfl)
      · refine px_iloadN S0 at_115 rfl rfl ?_
        refine px_iconst (v := (4 : Int32)) S0 at_116 rfl rfl ?_
        refine px_iushr S0 at_117 rfl ?_
        refine px_iconst (v := (1 : Int32)) S0 at_118 rfl rfl ?_
        refine px_iand S0 at_119 rfl ?_
        refine px_if0 S0 at_120 (by decide) (pc' := 127) rfl rfl (fun (hc84 : ((ushr i0 (4 : Int32)) &&& (1 : Int32)).toInt = 0) => ?_) (fun (hc84 : ¬ ((ushr i0 (4 : Int32)) &&& (1 : Int32)).toInt = 0) => ?_)
        · refine px_bipush (v := (43 : Int32)) S0 at_127 rfl rfl ?_
          refine px_iloadN S0 at_129 rfl rfl ?_
          refine px_ldcI S0 (hw _ (List.mem_of_getElem? (i := 0) rfl)) at_130 rfl ?_
          refine px_iand S0 at_132 rfl ?_
          refine px_iconst (v := (4 : Int32)) S0 at_133 rfl rfl ?_
          refine px_irem S0 at_134 rfl (by decide) ?_
          refine px_iadd S0 at_135 rfl ?_
          exact J5 _ trivial
        · refine px_iloadN S0 at_123 rfl rfl ?_
          refine px_goto S0 at_124 (by decide) (pc' := 136) rfl ?_
          exact J5 _ trivial
    · refine px_iloadN S0 at_96 rfl rfl ?_
      refine px_iconst (v := (3 : Int32)) S0 at_97 rfl rfl ?_
      refine px_iushr S0 at_98 rfl ?_
      refine px_iconst (v := (1 : Int32)) S0 at_99 rfl rfl ?_
      refine px_iand S0 at_100 rfl ?_
      refine px_if0 S0 at_101 (by decide) (pc' := 115) rfl rfl (fun (hc85 : ((ushr i0 (3 : Int32)) &&& (1 : Int32)).toInt = 0) => ?_) (fun (hc85 : ¬ ((ushr i0 (3 : Int32)) &&& (1 : Int32)).toInt = 0) => ?_)
      · exact J4 _ trivial
      · refine px_iload S0 at_104 rfl rfl ?_
        refine px_iconst (v := (1 : Int32)) S0 at_106 rfl rfl ?_
        refine px_iloadN S0 at_107 rfl rfl ?_
        refine px_bipush (v := (31 : Int32)) S0 at_108 rfl rfl ?_
        refine px_iand S0 at_110 rfl ?_
        refine px_ishl S0 at_111 rfl ?_
        refine px_ixor S0 at_112 rfl ?_
        generalize h_v86 : (hd0 ^^^ ((1 : Int32) <<< ((i3 &&& (31 : Int32)) &&& 31))) = v86
        refine px_istore S0 at_113 rfl (L' := #[.val (.int i0), .val (.int i1), .val (.int i2), .val (.int i3), .val (.int i4), .val (.int v1), .val (.int v2), .val (.int v86), .unset, .unset, .unset, .unset]) rfl ?_
        exact J4 _ trivial
  · refine px_iload S0 at_16 rfl rfl ?_
    refine px_if0 S0 at_18 (by decide) (pc' := 28) rfl rfl (fun (hc87 : ¬ v2.toInt = 0) => ?_) (fun (hc87 : v2.toInt = 0) => ?_)
    · refine px_iload S0 at_28 rfl rfl ?_
      refine px_iconst (v := (1 : Int32)) S0 at_30 rfl rfl ?_
      refine px_icmp S0 at_31 (by decide) (pc' := 41) rfl rfl (fun (hc88 : ¬ v2.toInt = (1 : Int32).toInt) => ?_) (fun (hc88 : v2.toInt = (1 : Int32).toInt) => ?_)
      · refine px_iload S0 at_41 rfl rfl ?_
        refine px_iconst (v := (2 : Int32)) S0 at_43 rfl rfl ?_
        refine px_icmp S0 at_44 (by decide) (pc' := 54) rfl rfl (fun (hc89 : ¬ v2.toInt = (2 : Int32).toInt) => ?_) (fun (hc89 : v2.toInt = (2 : Int32).toInt) => ?_)
        · refine px_iload S0 at_54 rfl rfl ?_
          refine px_iconst (v := (3 : Int32)) S0 at_56 rfl rfl ?_
          refine px_icmp S0 at_57 (by decide) (pc' := 67) rfl rfl (fun (hc90 : ¬ v2.toInt = (3 : Int32).toInt) => ?_) (fun (hc90 : v2.toInt = (3 : Int32).toInt) => ?_)
          · refine px_iload S0 at_67 rfl rfl ?_
            refine px_iconst (v := (4 : Int32)) S0 at_69 rfl rfl ?_
            refine px_icmp S0 at_70 (by decide) (pc' := 80) rfl rfl (fun (hc91 : ¬ v2.toInt = (4 : Int32).toInt) => ?_) (fun (hc91 : v2.toInt = (4 : Int32).toInt) => ?_)
            · refine px_iload S0 at_80 rfl rfl ?_
              refine px_iconst (v := (5 : Int32)) S0 at_82 rfl rfl ?_
              refine px_icmp S0 at_83 (by decide) (pc' := 93) rfl rfl (fun (hc92 : ¬ v2.toInt = (5 : Int32).toInt) => ?_) (fun (hc92 : v2.toInt = (5 : Int32).toInt) => ?_)
              · refine px_iloadN S0 at_93 rfl rfl ?_
                refine px_istore S0 at_94 rfl (L' := #[.val (.int i0), .val (.int i1), .val (.int i2), .val (.int i3), .val (.int i4), .val (.int v1), .val (.int v2), .val (.int i1), .unset, .unset, .unset, .unset]) rfl ?_
                exact J3 _ trivial
              · refine px_ldcI S0 (hw _ (List.mem_of_getElem? (i := 18) rfl)) at_86 rfl ?_
                refine px_istore S0 at_88 rfl (L' := #[.val (.int i0), .val (.int i1), .val (.int i2), .val (.int i3), .val (.int i4), .val (.int v1), .val (.int v2), .val (.int (-889275714 : Int32)), .unset, .unset, .unset, .unset]) rfl ?_
                refine px_goto S0 at_90 (by decide) (pc' := 96) rfl ?_
                exact J3 _ trivial
            · refine px_ldcI S0 (hw _ (List.mem_of_getElem? (i := 17) rfl)) at_73 rfl ?_
              refine px_istore S0 at_75 rfl (L' := #[.val (.int i0), .val (.int i1), .val (.int i2), .val (.int i3), .val (.int i4), .val (.int v1), .val (.int v2), .val (.int (-889275713 : Int32)), .unset, .unset, .unset, .unset]) rfl ?_
              refine px_goto S0 at_77 (by decide) (pc' := 96) rfl ?_
              exact J3 _ trivial
          · refine px_ldcI S0 (hw _ (List.mem_of_getElem? (i := 11) rfl)) at_60 rfl ?_
            refine px_istore S0 at_62 rfl (L' := #[.val (.int i0), .val (.int i1), .val (.int i2), .val (.int i3), .val (.int i4), .val (.int v1), .val (.int v2), .val (.int (-822415874 : Int32)), .unset, .unset, .unset, .unset]) rfl ?_
            refine px_goto S0 at_64 (by decide) (pc' := 96) rfl ?_
            exact J3 _ trivial
        · refine px_ldcI S0 (hw _ (List.mem_of_getElem? (i := 16) rfl)) at_47 rfl ?_
          refine px_istore S0 at_49 rfl (L' := #[.val (.int i0), .val (.int i1), .val (.int i2), .val (.int i3), .val (.int i4), .val (.int v1), .val (.int v2), .val (.int (-17958194 : Int32)), .unset, .unset, .unset, .unset]) rfl ?_
          refine px_goto S0 at_51 (by decide) (pc' := 96) rfl ?_
          exact J3 _ trivial
      · refine px_ldcI S0 (hw _ (List.mem_of_getElem? (i := 15) rfl)) at_34 rfl ?_
        refine px_istore S0 at_36 rfl (L' := #[.val (.int i0), .val (.int i1), .val (.int i2), .val (.int i3), .val (.int i4), .val (.int v1), .val (.int v2), .val (.int (-805638658 : Int32)), .unset, .unset, .unset, .unset]) rfl ?_
        refine px_goto S0 at_38 (by decide) (pc' := 96) rfl ?_
        exact J3 _ trivial
    · refine px_ldcI S0 (hw _ (List.mem_of_getElem? (i := 1) rfl)) at_21 rfl ?_
      refine px_istore S0 at_23 rfl (L' := #[.val (.int i0), .val (.int i1), .val (.int i2), .val (.int i3), .val (.int i4), .val (.int v1), .val (.int v2), .val (.int (-17958193 : Int32)), .unset, .unset, .unset, .unset]) rfl ?_
      refine px_goto S0 at_25 (by decide) (pc' := 96) rfl ?_
      exact J3 _ trivial
set_option maxRecDepth 65536 in
set_option maxHeartbeats 40000000 in
theorem comes_1 {Post : Tables → Env → Array Value → State → Outcome → State → Prop} (hpost : ∀ tb e args s v u, (limb_1_1.after args s (.returned v) u = true ∧ limb_1_2.after args s (.returned v) u = true ∧ True) → FrameEnd s (.returned v) u (Jvm.fieldLocs frame_1_writes args s ++ Jvm.arrayLocs frame_1_arrays args s ++ Jvm.staticLocs frame_1_statics s) 16 128 → Post tb e args s (.returned v) u) :
    ArmFor flags0 classFile x code maxLocals ret World_1 tables_1 room_1 Calls_1 rest_1 Pre_1 Post := by
  intro l hfl _ _ p e ha hc hk s m args below hf hA hF happ hP
  obtain ⟨hcalls, hrest, hpre⟩ := hP
  obtain ⟨-, -, -, hnamed, -, -, -, hat⟩ := (Spec.applies_iff hf).mp happ
  obtain ⟨hg, hn⟩ := and_e (Cond.before_iff.mp (show (Jvm.Cond.and given_1 narrow_1).before args s = true from hpre))
  obtain ⟨hcount, hg0⟩ := and_e hg
  obtain ⟨ha0, hg1⟩ := and_e hg0
  obtain ⟨ha1, hg2⟩ := and_e hg1
  obtain ⟨ha2, hg3⟩ := and_e hg2
  obtain ⟨ha3, hg4⟩ := and_e hg3
  obtain ⟨w0, w1, w2, w3, w4, rfl⟩ : ∃ w0 w1 w2 w3 w4 : Value, args = #[w0, w1, w2, w3, w4] := by
    have hs : args.size = 5 := by simpa [Cond.value, given_1] using hcount
    obtain ⟨L⟩ := args
    match L, hs with
    | [w0, w1, w2, w3, w4], _ => exact ⟨w0, w1, w2, w3, w4, rfl⟩
  have hw := fun d (hd : d ∈ tables_1) => atoms_spec (ws := Jvm.Cond.code x code maxLocals ret :: tables_1) hat d (List.mem_cons_of_mem _ hd)
  obtain ⟨i0, ei0⟩ := is_v ha0
  obtain rfl : w0 = (.int i0) := Option.some.inj ei0
  obtain ⟨i1, ei1⟩ := is_v ha1
  obtain rfl : w1 = (.int i1) := Option.some.inj ei1
  obtain ⟨i2, ei2⟩ := is_v ha2
  obtain rfl : w2 = (.int i2) := Option.some.inj ei2
  obtain ⟨i3, ei3⟩ := is_v ha3
  obtain rfl : w3 = (.int i3) := Option.some.inj ei3
  obtain ⟨i4, ei4⟩ := is_v hg4
  obtain rfl : w4 = (.int i4) := Option.some.inj ei4
  obtain ⟨n, o, h1, h2, h3, _, L, rfl, ⟨rfl, N⟩, hq⟩ := law_ctr (Z := s) hw i0 i1 i2 i3 i4 (Nat.le_refl _) l tables_1 p e ha hc hk s m _ below hf ((Spec.applies_iff_loose hf).mp happ).1 ⟨rfl, State.Warmed39.refl s, rfl⟩ trivial
  refine ⟨n, _, h1, h2, h3, hpost _ _ _ _ _ _ ⟨Cond.after_iff.mpr rfl, Cond.after_iff.mpr (eq_i res_at (Term.int_eval (1)) rfl), trivial⟩ ⟨hq.1, hq.2.1, (hq.2.2.sift fun y hy => Or.inr (N y hy)).mono (Nat.le_refl _) (Nat.le_refl _)⟩⟩
theorem main_1_1 : Claimed_1_1 := comes_1 fun _ _ _ _ _ _ h hF => ⟨h.1, hF⟩
theorem main_1_2 : Claimed_1_2 := comes_1 fun _ _ _ _ _ _ h hF => ⟨h.2.1, hF⟩
end Jvm.Pilot.@@N@@
namespace Jvm.Pilot.@@N@@
open Jvm Jvm.ClassFile Sem Op Lib Jvm.Free Jvm.Stand Jvm.Pilot.@@N@@.Jvm.D
/-! MADE BY PROGRAM (witnessworld.py) out of the Statement's table words and the real class files: 14 classes; the members and pool entries that the words name. The judged class is class 1, her method 1. -/
namespace start1
open Jvm.ClassFile
def u (s : String) : CpInfo := .utf8 (stringToUtf16 s)
/-- a pool by its gaps: so many unusable entries, then the entry; so many at the end -/
def gap : Nat → List CpInfo → List CpInfo
  | 0, r => r
  | n + 1, r => .unusable :: gap n r
def poolList (es : List (Nat × CpInfo)) (last : Nat) : List CpInfo := es.foldr (fun e r => gap e.1 (e.2 :: r)) (gap last [])
def pool (es : List (Nat × CpInfo)) (last : Nat) : Array CpInfo := ⟨poolList es last⟩
def fileOf (pool : Array CpInfo) (this : Nat) (attrs : Array Attribute := #[]) (ms : Array MethodInfo := #[]) (fl : Nat := 33) (sup : Nat := 0) (ifs : Array Nat := #[]) (fds : Array FieldInfo := #[]) : ClassFile where
  minorVersion := 0
  majorVersion := 65
  constantPool := pool
  accessFlags := fl
  thisClass := this
  superClass := sup
  interfaces := ifs
  fields := fds
  methods := ms
  attributes := attrs
def plain (name : String) (sup : Option ClassId) : Class where
  name := name
  kind := .ordinary
  loader := none
  accessFlags := 33
  super := sup
  interfaces := #[]
  cf := none
  fields := #[]
  methods := #[]
  instanceTypes := #[]
  staticTypes := #[]
  resolved := #[]
  callSites := []
  init := .initialized
  statics := none
  mirror := none

def pool0 : Array CpInfo := pool [(5, u "<init>"), (0, u "()V"), (1, .class_ 10), (1, u "java/lang/Object")] 113

def k0m0 : Method := { name := "<init>", desc := "()V", sig := { parameters := [], returnType := none }, accessFlags := 1, code := none }
/-- java/lang/Object -/
def k0 : Class := { plain "java/lang/Object" none with
  accessFlags := 33
  interfaces := #[]
  cf := some (fileOf pool0 8 #[] #[{ accessFlags := 1, nameIndex := 5, descriptorIndex := 6, attributes := #[] }] 33 0 #[] #[])
  fields := #[]
  methods := #[k0m0]
  instanceTypes := #[]
  staticTypes := #[]
  resolved := Array.replicate 124 none
  statics := none }

def pool1 : Array CpInfo := pool [(2, .class_ 4), (1, u "java/lang/Object"), (0, u "<init>"), (0, u "()V"), (0, .integer 2147483647), (0, .integer 4277009103), (0, .integer 3489328638), (0, .integer 4277009102), (0, .integer 3472551422), (0, .integer 3405691583), (0, .integer 3405691582), (0, .methodref 15 16), (0, .class_ 17), (0, .nameAndType 18 19), (0, u "com/example/ferrule/ferrule/symbols/MachOExportsRecognisesPinLaw"), (0, u "put"), (0, u "([BII)V"), (0, .methodref 21 22), (0, .class_ 23), (0, .nameAndType 24 25), (0, u "com/example/ferrule/ferrule/symbols/MachOExports"), (0, u "recognises"), (0, u "([B)Z"), (2, u "law"), (0, u "(IIIII)Z")] 5

def k1m0 : Method := { name := "<init>", desc := "()V", sig := { parameters := [], returnType := none }, accessFlags := 1, code := none }
def k1c1 : Code := { maxStack := 4, maxLocals := 12, code := code, exceptionTable := #[], attributes := #[] }
def k1m1 : Method := { name := "law", desc := "(IIIII)Z", sig := { parameters := [.int, .int, .int, .int, .int], returnType := some .boolean }, accessFlags := 9, code := some k1c1 }
def k1c2 : Code := { maxStack := 3, maxLocals := 3, code := method_3_code, exceptionTable := #[], attributes := #[] }
def k1m2 : Method := { name := "put", desc := "([BII)V", sig := { parameters := [(.array .byte), .int, .int], returnType := none }, accessFlags := 10, code := some k1c2 }
/-- com/example/ferrule/ferrule/symbols/MachOExportsRecognisesPinLaw -/
def k1 : Class := { plain "com/example/ferrule/ferrule/symbols/MachOExportsRecognisesPinLaw" (some 0) with
  accessFlags := 49
  interfaces := #[]
  cf := some (fileOf pool1 15 #[] #[{ accessFlags := 1, nameIndex := 5, descriptorIndex := 6, attributes := #[] }, { accessFlags := 9, nameIndex := 28, descriptorIndex := 29, attributes := #[] }, { accessFlags := 10, nameIndex := 18, descriptorIndex := 19, attributes := #[] }] 49 2 #[] #[])
  fields := #[]
  methods := #[k1m0, k1m1, k1m2]
  instanceTypes := #[]
  staticTypes := #[]
  resolved := Array.replicate 35 none
  statics := none }

def pool2 : Array CpInfo := pool [(2, .class_ 4), (1, u "java/lang/Object"), (3, .class_ 10), (1, u "com/example/ferrule/ferrule/symbols/MachOExports"), (0, u "mach"), (0, u "Lcom/example/ferrule/ferrule/symbols/FileBytes;"), (0, .methodref 8 14), (0, .nameAndType 15 16), (0, u "bigEndianInt"), (0, u "([BI)I"), (0, .methodref 18 19), (0, .class_ 20), (0, .nameAndType 21 22), (0, u "java/lang/Integer"), (0, u "compareUnsigned"), (0, u "(II)I"), (115, .class_ 139), (0, u "com/example/ferrule/ferrule/symbols/MachOExports$Trie"), (42, u "MH_MAGIC_64"), (0, u "I"), (2, u "MH_CIGAM_64"), (1, u "MH_MAGIC"), (1, u "MH_CIGAM"), (1, u "FAT_MAGIC"), (0, u "FAT_MAGIC_64"), (0, u "FIRST_CLASS_FILE_VERSION"), (1, u "FAT_ARCH_SIZE"), (1, u "FAT_ARCH_64_SIZE"), (1, u "CPU_ARCH_ABI64"), (0, u "J"), (0, u "HEADER_64_SIZE"), (0, u "MH_DYLIB"), (1, u "MH_BUNDLE"), (1, u "LC_SYMTAB"), (0, u "LC_DYLD_INFO"), (0, u "LC_DYLD_INFO_ONLY"), (0, u "LC_DYLD_EXPORTS_TRIE"), (0, u "LOAD_COMMAND_HEADER_SIZE"), (0, u "NLIST_64_SIZE"), (1, u "N_EXT"), (1, u "N_TYPE"), (1, u "N_PEXT"), (0, u "N_UNDF"), (1, u "ULEB_MAX_BYTES"), (3, u "recognises"), (0, u "([B)Z"), (14, .class_ 242), (0, u "com/example/ferrule/ferrule/symbols/MachOExports$Trie$Edge")] 27

def k2c0 : Code := { maxStack := 2, maxLocals := 1, code := prog_24_method_2_code, exceptionTable := #[], attributes := #[] }
def k2m0 : Method := { name := "recognises", desc := "([B)Z", sig := { parameters := [(.array .byte)], returnType := some .boolean }, accessFlags := 8, code := some k2c0 }
def k2c1 : Code := { maxStack := 4, maxLocals := 2, code := prog_24_method_9_code, exceptionTable := #[], attributes := #[] }
def k2m1 : Method := { name := "bigEndianInt", desc := "([BI)I", sig := { parameters := [(.array .byte), .int], returnType := some .int }, accessFlags := 10, code := some k2c1 }
/-- com/example/ferrule/ferrule/symbols/MachOExports -/
def k2 : Class := { plain "com/example/ferrule/ferrule/symbols/MachOExports" (some 0) with
  accessFlags := 48
  interfaces := #[]
  cf := some (fileOf pool2 8 #[.nestMembers #[138, 241]] #[{ accessFlags := 8, nameIndex := 225, descriptorIndex := 226, attributes := #[] }, { accessFlags := 10, nameIndex := 15, descriptorIndex := 16, attributes := #[] }] 48 2 #[] #[{ accessFlags := 26, nameIndex := 182, descriptorIndex := 183, attributes := #[] }, { accessFlags := 26, nameIndex := 186, descriptorIndex := 183, attributes := #[] }, { accessFlags := 26, nameIndex := 188, descriptorIndex := 183, attributes := #[] }, { accessFlags := 26, nameIndex := 190, descriptorIndex := 183, attributes := #[] }, { accessFlags := 26, nameIndex := 192, descriptorIndex := 183, attributes := #[] }, { accessFlags := 26, nameIndex := 193, descriptorIndex := 183, attributes := #[] }, { accessFlags := 26, nameIndex := 194, descriptorIndex := 183, attributes := #[] }, { accessFlags := 26, nameIndex := 196, descriptorIndex := 183, attributes := #[] }, { accessFlags := 26, nameIndex := 198, descriptorIndex := 183, attributes := #[] }, { accessFlags := 26, nameIndex := 200, descriptorIndex := 201, attributes := #[] }, { accessFlags := 26, nameIndex := 202, descriptorIndex := 183, attributes := #[] }, { accessFlags := 26, nameIndex := 203, descriptorIndex := 183, attributes := #[] }, { accessFlags := 26, nameIndex := 205, descriptorIndex := 183, attributes := #[] }, { accessFlags := 26, nameIndex := 207, descriptorIndex := 201, attributes := #[] }, { accessFlags := 26, nameIndex := 208, descriptorIndex := 201, attributes := #[] }, { accessFlags := 26, nameIndex := 209, descriptorIndex := 201, attributes := #[] }, { accessFlags := 26, nameIndex := 210, descriptorIndex := 201, attributes := #[] }, { accessFlags := 26, nameIndex := 211, descriptorIndex := 183, attributes := #[] }, { accessFlags := 26, nameIndex := 212, descriptorIndex := 183, attributes := #[] }, { accessFlags := 26, nameIndex := 214, descriptorIndex := 183, attributes := #[] }, { accessFlags := 26, nameIndex := 216, descriptorIndex := 183, attributes := #[] }, { accessFlags := 26, nameIndex := 218, descriptorIndex := 183, attributes := #[] }, { accessFlags := 26, nameIndex := 219, descriptorIndex := 183, attributes := #[] }, { accessFlags := 26, nameIndex := 221, descriptorIndex := 183, attributes := #[] }, { accessFlags := 18, nameIndex := 11, descriptorIndex := 12, attributes := #[] }])
  fields := #[{ name := "MH_MAGIC_64", type := .int, accessFlags := 26, slot := 0, constantValue := 0 }, { name := "MH_CIGAM_64", type := .int, accessFlags := 26, slot := 1, constantValue := 0 }, { name := "MH_MAGIC", type := .int, accessFlags := 26, slot := 2, constantValue := 0 }, { name := "MH_CIGAM", type := .int, accessFlags := 26, slot := 3, constantValue := 0 }, { name := "FAT_MAGIC", type := .int, accessFlags := 26, slot := 4, constantValue := 0 }, { name := "FAT_MAGIC_64", type := .int, accessFlags := 26, slot := 5, constantValue := 0 }, { name := "FIRST_CLASS_FILE_VERSION", type := .int, accessFlags := 26, slot := 6, constantValue := 0 }, { name := "FAT_ARCH_SIZE", type := .int, accessFlags := 26, slot := 7, constantValue := 0 }, { name := "FAT_ARCH_64_SIZE", type := .int, accessFlags := 26, slot := 8, constantValue := 0 }, { name := "CPU_ARCH_ABI64", type := .long, accessFlags := 26, slot := 9, constantValue := 0 }, { name := "HEADER_64_SIZE", type := .int, accessFlags := 26, slot := 10, constantValue := 0 }, { name := "MH_DYLIB", type := .int, accessFlags := 26, slot := 11, constantValue := 0 }, { name := "MH_BUNDLE", type := .int, accessFlags := 26, slot := 12, constantValue := 0 }, { name := "LC_SYMTAB", type := .long, accessFlags := 26, slot := 13, constantValue := 0 }, { name := "LC_DYLD_INFO", type := .long, accessFlags := 26, slot := 14, constantValue := 0 }, { name := "LC_DYLD_INFO_ONLY", type := .long, accessFlags := 26, slot := 15, constantValue := 0 }, { name := "LC_DYLD_EXPORTS_TRIE", type := .long, accessFlags := 26, slot := 16, constantValue := 0 }, { name := "LOAD_COMMAND_HEADER_SIZE", type := .int, accessFlags := 26, slot := 17, constantValue := 0 }, { name := "NLIST_64_SIZE", type := .int, accessFlags := 26, slot := 18, constantValue := 0 }, { name := "N_EXT", type := .int, accessFlags := 26, slot := 19, constantValue := 0 }, { name := "N_TYPE", type := .int, accessFlags := 26, slot := 20, constantValue := 0 }, { name := "N_PEXT", type := .int, accessFlags := 26, slot := 21, constantValue := 0 }, { name := "N_UNDF", type := .int, accessFlags := 26, slot := 22, constantValue := 0 }, { name := "ULEB_MAX_BYTES", type := .int, accessFlags := 26, slot := 23, constantValue := 0 }, { name := "mach", type := (.object "com/example/ferrule/ferrule/symbols/FileBytes"), accessFlags := 18, slot := 0, constantValue := 0 }]
  methods := #[k2m0, k2m1]
  instanceTypes := #[(.object "com/example/ferrule/ferrule/symbols/FileBytes")]
  staticTypes := #[.int, .int, .int, .int, .int, .int, .int, .int, .int, .long, .int, .int, .int, .long, .long, .long, .long, .int, .int, .int, .int, .int, .int, .int]
  resolved := Array.replicate 270 none
  statics := none }

def pool3 : Array CpInfo := pool [(1, .class_ 2), (0, u "java/io/Serializable"), (0, .class_ 4), (0, u "java/lang/Object")] 2

/-- java/io/Serializable -/
def k3 : Class := { plain "java/io/Serializable" (some 0) with
  accessFlags := 1537
  interfaces := #[]
  cf := some (fileOf pool3 1 #[] #[] 1537 3 #[] #[])
  fields := #[]
  methods := #[]
  instanceTypes := #[]
  staticTypes := #[]
  resolved := Array.replicate 7 none
  statics := none }

def pool4 : Array CpInfo := pool [(2, .class_ 4), (1, u "java/lang/Object"), (0, u "<init>"), (0, u "()V"), (1, .class_ 10), (1, u "java/lang/Number"), (2, .class_ 14), (0, u "java/io/Serializable"), (0, u "serialVersionUID"), (0, u "J")] 20

def k4m0 : Method := { name := "<init>", desc := "()V", sig := { parameters := [], returnType := none }, accessFlags := 1, code := none }
/-- java/lang/Number -/
def k4 : Class := { plain "java/lang/Number" (some 0) with
  accessFlags := 1057
  interfaces := #[3]
  cf := some (fileOf pool4 8 #[] #[{ accessFlags := 1, nameIndex := 5, descriptorIndex := 6, attributes := #[] }] 1057 2 #[13] #[{ accessFlags := 26, nameIndex := 15, descriptorIndex := 16, attributes := #[] }])
  fields := #[{ name := "serialVersionUID", type := .long, accessFlags := 26, slot := 0, constantValue := 0 }]
  methods := #[k4m0]
  instanceTypes := #[]
  staticTypes := #[.long]
  resolved := Array.replicate 37 none
  statics := none }

def pool5 : Array CpInfo := pool [(1, .class_ 2), (0, u "java/lang/Comparable"), (0, .class_ 4), (0, u "java/lang/Object")] 7

/-- java/lang/Comparable -/
def k5 : Class := { plain "java/lang/Comparable" (some 0) with
  accessFlags := 1537
  interfaces := #[]
  cf := some (fileOf pool5 1 #[] #[] 1537 3 #[] #[])
  fields := #[]
  methods := #[]
  instanceTypes := #[]
  staticTypes := #[]
  resolved := Array.replicate 12 none
  statics := none }

def pool6 : Array CpInfo := pool [(1, .class_ 2), (0, u "java/lang/constant/Constable"), (0, .class_ 4), (0, u "java/lang/Object")] 6

/-- java/lang/constant/Constable -/
def k6 : Class := { plain "java/lang/constant/Constable" (some 0) with
  accessFlags := 1537
  interfaces := #[]
  cf := some (fileOf pool6 1 #[] #[] 1537 3 #[] #[])
  fields := #[]
  methods := #[]
  instanceTypes := #[]
  staticTypes := #[]
  resolved := Array.replicate 11 none
  statics := none }

def pool7 : Array CpInfo := pool [(1, .class_ 2), (0, u "java/lang/constant/ConstantDesc"), (0, .class_ 4), (0, u "java/lang/Object")] 32

/-- java/lang/constant/ConstantDesc -/
def k7 : Class := { plain "java/lang/constant/ConstantDesc" (some 0) with
  accessFlags := 1537
  interfaces := #[]
  cf := some (fileOf pool7 1 #[] #[] 1537 3 #[] #[])
  fields := #[]
  methods := #[]
  instanceTypes := #[]
  staticTypes := #[]
  resolved := Array.replicate 37 none
  statics := none }

def pool8 : Array CpInfo := pool [(1, .class_ 2), (0, u "java/lang/Integer"), (16, u "digits"), (0, u "[C"), (39, u "(II)I"), (24, u "DigitOnes"), (0, u "[B"), (2, u "DigitTens"), (37, .integer 2147483648), (61, .class_ 190), (0, u "java/lang/Integer$IntegerCache"), (3, u "I"), (8, .class_ 204), (0, u "java/lang/Number"), (2, u "value"), (51, .methodref 1 260), (0, .nameAndType 261 60), (0, u "compare"), (40, u "TYPE"), (0, u "Ljava/lang/Class;"), (0, .class_ 305), (0, u "java/lang/Comparable"), (0, .class_ 307), (0, u "java/lang/constant/Constable"), (0, .class_ 309), (0, u "java/lang/constant/ConstantDesc"), (0, u "MIN_VALUE"), (1, u "MAX_VALUE"), (3, u "SIZE"), (1, u "BYTES"), (1, u "serialVersionUID"), (0, u "J"), (76, u "compareUnsigned")] 54

def k8c0 : Code := { maxStack := 2, maxLocals := 2, code := jdk_33_method_40_code, exceptionTable := #[], attributes := #[] }
def k8m0 : Method := { name := "compare", desc := "(II)I", sig := { parameters := [.int, .int], returnType := some .int }, accessFlags := 9, code := some k8c0 }
def k8c1 : Code := { maxStack := 3, maxLocals := 2, code := jdk_33_method_41_code, exceptionTable := #[], attributes := #[] }
def k8m1 : Method := { name := "compareUnsigned", desc := "(II)I", sig := { parameters := [.int, .int], returnType := some .int }, accessFlags := 9, code := some k8c1 }
/-- java/lang/Integer -/
def k8 : Class := { plain "java/lang/Integer" (some 4) with
  accessFlags := 49
  interfaces := #[5, 6, 7]
  cf := some (fileOf pool8 1 #[.nestMembers #[189]] #[{ accessFlags := 9, nameIndex := 261, descriptorIndex := 60, attributes := #[] }, { accessFlags := 9, nameIndex := 398, descriptorIndex := 60, attributes := #[] }] 49 203 #[304, 306, 308] #[{ accessFlags := 25, nameIndex := 310, descriptorIndex := 194, attributes := #[] }, { accessFlags := 25, nameIndex := 312, descriptorIndex := 194, attributes := #[] }, { accessFlags := 25, nameIndex := 302, descriptorIndex := 303, attributes := #[] }, { accessFlags := 24, nameIndex := 19, descriptorIndex := 20, attributes := #[] }, { accessFlags := 24, nameIndex := 89, descriptorIndex := 86, attributes := #[] }, { accessFlags := 24, nameIndex := 85, descriptorIndex := 86, attributes := #[] }, { accessFlags := 18, nameIndex := 207, descriptorIndex := 194, attributes := #[] }, { accessFlags := 25, nameIndex := 316, descriptorIndex := 194, attributes := #[] }, { accessFlags := 25, nameIndex := 318, descriptorIndex := 194, attributes := #[] }, { accessFlags := 26, nameIndex := 320, descriptorIndex := 321, attributes := #[] }])
  fields := #[{ name := "MIN_VALUE", type := .int, accessFlags := 25, slot := 0, constantValue := 0 }, { name := "MAX_VALUE", type := .int, accessFlags := 25, slot := 1, constantValue := 0 }, { name := "TYPE", type := (.object "java/lang/Class"), accessFlags := 25, slot := 2, constantValue := 0 }, { name := "digits", type := (.array .char), accessFlags := 24, slot := 3, constantValue := 0 }, { name := "DigitTens", type := (.array .byte), accessFlags := 24, slot := 4, constantValue := 0 }, { name := "DigitOnes", type := (.array .byte), accessFlags := 24, slot := 5, constantValue := 0 }, { name := "value", type := .int, accessFlags := 18, slot := 0, constantValue := 0 }, { name := "SIZE", type := .int, accessFlags := 25, slot := 6, constantValue := 0 }, { name := "BYTES", type := .int, accessFlags := 25, slot := 7, constantValue := 0 }, { name := "serialVersionUID", type := .long, accessFlags := 26, slot := 8, constantValue := 0 }]
  methods := #[k8m0, k8m1]
  instanceTypes := #[.int]
  staticTypes := #[.int, .int, (.object "java/lang/Class"), (.array .char), (.array .byte), (.array .byte), .int, .int, .long]
  resolved := Array.replicate 453 none
  statics := none }

def pool9 : Array CpInfo := pool [(1, u "java/lang/Cloneable"), (0, .class_ 1), (0, u "java/lang/Object"), (0, .class_ 3)] 3

/-- java/lang/Cloneable -/
def k9 : Class := { plain "java/lang/Cloneable" (some 0) with
  accessFlags := 1537
  interfaces := #[]
  cf := some (fileOf pool9 2 #[] #[] 1537 4 #[] #[])
  fields := #[]
  methods := #[]
  instanceTypes := #[]
  staticTypes := #[]
  resolved := Array.replicate 8 none
  statics := none }

/-- the primitive byte -/
def k10 : Class := { plain "byte" none with kind := .primitive 'B', accessFlags := 0x411 }
/-- [B -/
def k11 : Class := { plain "[B" (some 0) with kind := .array 10 .byte, interfaces := #[9, 3], accessFlags := 1041 }

/-- the primitive int -/
def k12 : Class := { plain "int" none with kind := .primitive 'I', accessFlags := 0x411 }
/-- [I -/
def k13 : Class := { plain "[I" (some 0) with kind := .array 12 .int, interfaces := #[9, 3], accessFlags := 1041 }

def heap : Heap := #[]
def classes : Array Class := #[k0, k1, k2, k3, k4, k5, k6, k7, k8, k9, k10, k11, k12, k13]
def interned : List (Array UInt16 × Addr) := []
def slotsUsed : Nat := 0
def theMethod : MethodId := ⟨1, 1⟩
def args0 : Array Value := #[.int 2, .int 1, .int 1, .int 9, .int 4]
def aboutOver (below : List Frame) : State where
  vm := { classes := classes, interned := interned.toArray }
  heap := heap
  slotsUsed := slotsUsed
  threads := #[{ frames := .invoking theMethod args0 :: below }]
def below0 : List Frame := [.native { method := ⟨0, 0⟩, args := #[] }]
def about1 : State := aboutOver below0
def p0 : Program := .bare "" "" ""
def e0 : Env := launch0.env 0 0 0
theorem w_frames : about1.frames = Frame.invoking theMethod args0 :: below0 := rfl
set_option maxRecDepth 65536 in
theorem w_args : argsFit about1.vm theMethod args0 = true := by decide +kernel
set_option maxRecDepth 65536 in
theorem w_heap : heapFits about1 = true := by decide +kernel
set_option maxRecDepth 65536 in
theorem w_runnable : about1.curStatus? = some .runnable := by decide +kernel
set_option maxRecDepth 65536 in
theorem w_alone : about1.alone = true := by decide +kernel
set_option maxRecDepth 65536 in
theorem w_named : about1.methodNamed? x = some theMethod := by decide +kernel
set_option maxRecDepth 65536 in
theorem w_hears : about1.hears theMethod below0 = true := by decide +kernel
set_option maxRecDepth 65536 in
theorem w_ripe : about1.ripe theMethod args0 below0 = true := by decide +kernel
theorem w_running : about1.status = .running := rfl
set_option maxRecDepth 65536 in
theorem w_room : about1.hasRoom e0.platform room_1 = true :=
  launch0.hasRoom_least _ room_1 (by decide +kernel) (by decide +kernel) (by decide +kernel) (by decide +kernel) (by decide +kernel) (by decide +kernel)
theorem allAtoms_all (ts : List Jvm.Cond) (a : Array Jvm.Value) (st : Jvm.State) : (allAtoms ts).before a st = ts.all (fun c => c.before a st) := by
  induction ts with
  | nil => rfl
  | cons c t ih =>
    show (Jvm.Cond.and c (allAtoms t)).before a st = _
    rw [Jvm.Cond.before_and, ih, List.all_cons]
def words1 : List Jvm.Cond := Jvm.Cond.code x code maxLocals ret :: tables_1
/-- a 'code' word, met by the world's own term for the bytes: nothing is compared byte by byte -/
theorem code_word {y : MethodName} {bytes : ByteArray} {mx : Nat} {rt : Option FieldType} {a : Array Value} {s : State} {m : MethodId} {meth : Method} {c : Code} (h1 : s.methodNamed? y = some m) (h2 : s.vm.method? m = some meth) (h3 : meth.code = some c) (h4 : c.code = bytes)
    (h5 : (c.maxLocals == mx && c.exceptionTable.isEmpty && decide (c.maxStack ≤ mostOperands) && decide (meth.sig.returnType = rt) && !meth.locks && decide (parseMethodDescriptor y.desc = some meth.sig)) = true) : (Jvm.Cond.code y bytes mx rt).before a s = true := by
  simp only [Bool.and_eq_true, beq_iff_eq, Bool.not_eq_true', decide_eq_true_eq] at h5
  obtain ⟨⟨⟨⟨⟨g1, g2⟩, g3⟩, g4⟩, g5⟩, g6⟩ := h5
  simp [Cond.before, Cond.holds, Cond.value, h1, h2, h3, h4, g1, g2, g3, g4, g5, g6]
def isCode : Jvm.Cond → Bool
  | .code _ _ _ _ => true
  | _ => false
theorem all_split {L : List Jvm.Cond} {P : Jvm.Cond → Bool} (h1 : L.all (fun c => isCode c || P c) = true) (h2 : ∀ c ∈ L.filter isCode, P c = true) : L.all P = true := by
  refine List.all_eq_true.mpr fun c hc => ?_
  have h := List.all_eq_true.mp h1 c hc
  rcases Bool.eq_false_or_eq_true (isCode c) with hi | hi
  · exact h2 c (List.mem_filter.mpr ⟨hc, hi⟩)
  · simpa [hi] using h
set_option maxRecDepth 65536 in
theorem w_c0 : (Jvm.Cond.code x code maxLocals ret).before args0 about1 = true := code_word (m := ⟨1, 1⟩) (meth := k1m1) (c := k1c1) (by decide +kernel) rfl rfl rfl (by decide +kernel)
set_option maxRecDepth 65536 in
theorem w_c1 : (Jvm.Cond.code ({ cls := "com/example/ferrule/ferrule/symbols/MachOExportsRecognisesPinLaw", name := "put", desc := "([BII)V" } : Jvm.MethodName) method_3_code (3 : Nat) (Option.none : Option Jvm.ClassFile.FieldType)).before args0 about1 = true := code_word (m := ⟨1, 2⟩) (meth := k1m2) (c := k1c2) (by decide +kernel) rfl rfl rfl (by decide +kernel)
set_option maxRecDepth 65536 in
theorem w_c2 : (Jvm.Cond.code ({ cls := "com/example/ferrule/ferrule/symbols/MachOExports", name := "recognises", desc := "([B)Z" } : Jvm.MethodName) prog_24_method_2_code (1 : Nat) (Option.some Jvm.ClassFile.FieldType.boolean)).before args0 about1 = true := code_word (m := ⟨2, 0⟩) (meth := k2m0) (c := k2c0) (by decide +kernel) rfl rfl rfl (by decide +kernel)
set_option maxRecDepth 65536 in
theorem w_c3 : (Jvm.Cond.code ({ cls := "com/example/ferrule/ferrule/symbols/MachOExports", name := "bigEndianInt", desc := "([BI)I" } : Jvm.MethodName) prog_24_method_9_code (2 : Nat) (Option.some Jvm.ClassFile.FieldType.int)).before args0 about1 = true := code_word (m := ⟨2, 1⟩) (meth := k2m1) (c := k2c1) (by decide +kernel) rfl rfl rfl (by decide +kernel)
set_option maxRecDepth 65536 in
theorem w_c4 : (Jvm.Cond.code ({ cls := "java/lang/Integer", name := "compareUnsigned", desc := "(II)I" } : Jvm.MethodName) jdk_33_method_41_code (2 : Nat) (Option.some Jvm.ClassFile.FieldType.int)).before args0 about1 = true := code_word (m := ⟨8, 1⟩) (meth := k8m1) (c := k8c1) (by decide +kernel) rfl rfl rfl (by decide +kernel)
set_option maxRecDepth 65536 in
theorem w_c5 : (Jvm.Cond.code ({ cls := "java/lang/Integer", name := "compare", desc := "(II)I" } : Jvm.MethodName) jdk_33_method_40_code (2 : Nat) (Option.some Jvm.ClassFile.FieldType.int)).before args0 about1 = true := code_word (m := ⟨8, 0⟩) (meth := k8m0) (c := k8c0) (by decide +kernel) rfl rfl rfl (by decide +kernel)
def codes1 : List Jvm.Cond := [Jvm.Cond.code x code maxLocals ret, Jvm.Cond.code ({ cls := "com/example/ferrule/ferrule/symbols/MachOExportsRecognisesPinLaw", name := "put", desc := "([BII)V" } : Jvm.MethodName) method_3_code (3 : Nat) (Option.none : Option Jvm.ClassFile.FieldType), Jvm.Cond.code ({ cls := "com/example/ferrule/ferrule/symbols/MachOExports", name := "recognises", desc := "([B)Z" } : Jvm.MethodName) prog_24_method_2_code (1 : Nat) (Option.some Jvm.ClassFile.FieldType.boolean), Jvm.Cond.code ({ cls := "com/example/ferrule/ferrule/symbols/MachOExports", name := "bigEndianInt", desc := "([BI)I" } : Jvm.MethodName) prog_24_method_9_code (2 : Nat) (Option.some Jvm.ClassFile.FieldType.int), Jvm.Cond.code ({ cls := "java/lang/Integer", name := "compareUnsigned", desc := "(II)I" } : Jvm.MethodName) jdk_33_method_41_code (2 : Nat) (Option.some Jvm.ClassFile.FieldType.int), Jvm.Cond.code ({ cls := "java/lang/Integer", name := "compare", desc := "(II)I" } : Jvm.MethodName) jdk_33_method_40_code (2 : Nat) (Option.some Jvm.ClassFile.FieldType.int)]
set_option maxRecDepth 65536 in
theorem codes_eq : words1.filter isCode = codes1 := rfl
theorem w_codes : ∀ c ∈ words1.filter isCode, c.before args0 about1 = true := by
  rw [codes_eq]
  intro c hc
  simp only [codes1, List.mem_cons, List.not_mem_nil, or_false] at hc
  rcases hc with rfl | rfl | rfl | rfl | rfl | rfl
  · exact w_c0
  · exact w_c1
  · exact w_c2
  · exact w_c3
  · exact w_c4
  · exact w_c5
set_option maxRecDepth 65536 in
theorem w_t1 : (words1.take 24).all (fun c => isCode c || c.before args0 about1) = true := by decide +kernel
set_option maxRecDepth 65536 in
theorem w_t2 : (words1.drop 24).all (fun c => isCode c || c.before args0 about1) = true := by decide +kernel
theorem w_tables : (allAtoms (Jvm.Cond.code x code maxLocals ret :: tables_1)).before args0 about1 = true := by
  rw [allAtoms_all]
  show words1.all (fun c => c.before args0 about1) = true
  refine all_split ?_ w_codes
  rw [← List.take_append_drop 24 words1, List.all_append, w_t1, w_t2]
  rfl
set_option maxRecDepth 65536 in
theorem w_case : (Jvm.Cond.and given_1 narrow_1).before args0 about1 = true := by decide +kernel
theorem w_applies : (headSpec (Jvm.Cond.code x code maxLocals ret :: tables_1) room_1).applies x e0.platform about1 = true :=
  (Spec.applies_iff w_frames).mpr ⟨w_running, w_runnable, w_alone, w_named, w_hears, w_ripe, w_room, w_tables⟩
theorem atStart : AtStart classFile x code maxLocals ret World_1 tables_1 room_1 Calls_1 rest_1 Pre_1 launch0 p0 e0 about1 theMethod args0 below0 :=
  ⟨lists_1, trivial, launch0.admits_env _ _ _, launch0.least_env, fairChoices_fair.cas, fairChoices_fair.clock, w_frames, w_args, w_heap, w_applies, trivial, trivial, w_case⟩
end start1
theorem witness_1 : WitnessClaimed_1 := ⟨start1.p0, start1.e0, start1.about1, start1.theMethod, start1.args0, start1.below0, start1.atStart⟩
end Jvm.Pilot.@@N@@
