import JvmDerived
import JvmDerived.Pilot.@@N@@Statement
import JvmDerived.Pilot.@@N@@Code
set_option linter.unusedVariables false
set_option linter.unusedSimpArgs false
namespace Jvm.OwnK
open Sem ClassFile Op Lib Jvm.Stand Jvm.Free Jvm.LawKit Jvm.RoadKit
def Ctx : Type := Program × Launch × Env × State × MethodId × Array Value × List Frame × Method × Code
def Ctx.p (K : Ctx) : Program := K.1
def Ctx.l (K : Ctx) : Launch := K.2.1
def Ctx.e (K : Ctx) : Env := K.2.2.1
def Ctx.s (K : Ctx) : State := K.2.2.2.1
def Ctx.m (K : Ctx) : MethodId := K.2.2.2.2.1
def Ctx.args (K : Ctx) : Array Value := K.2.2.2.2.2.1
def Ctx.below (K : Ctx) : List Frame := K.2.2.2.2.2.2.1
def Ctx.meth (K : Ctx) : Method := K.2.2.2.2.2.2.2.1
def Ctx.c (K : Ctx) : Code := K.2.2.2.2.2.2.2.2
/-- from here the run ends by a return that answers Q -/
def Go (K : Ctx) (R : Room) (n0 : Nat) (Q : Option Value → Heap → Prop) (T : State) (pc : Nat) (L : Array Slot) (st : List Value) : Prop :=
  ∃ (s₂ : State) (o : Outcome), Steps K.p.tables K.e K.below (T.setTop (mkF K.m pc L st)) s₂ ∧ s₂.status = .running ∧ Ended s₂ K.below o ∧
    ∃ (v : Option Value) (Lc : List Loc), o = .returned v ∧ (Q v s₂.heap ∧ Fr n0 Lc) ∧ FrameEnd K.s o s₂ Lc R.cells R.slots
/-- where the run stands -/
def St (K : Ctx) (Z : State) (R : Room) (y : MethodName) (bytes : ByteArray) (maxL : Nat) (ret : Option FieldType) (n0 : Nat) (T : State) (h : Heap) (cells slots : Nat) : Prop :=
  (∃ locs, Stand K.p K.l K.e R K.s K.m K.args K.below K.meth K.c T locs cells slots ∧ Fr n0 locs) ∧ T.heap = h ∧ n0 ≤ K.s.heap.size ∧ K.p.tables.exec = Jvm.exec ∧ Z.Warmed39 K.s.vm ∧ K.c.code = bytes ∧ K.c.maxLocals = maxL ∧
    K.meth.sig.returnType = ret ∧ K.meth.locks = false ∧ K.s.vm.findClass y.cls = some K.m.cls ∧ K.meth.name = y.name
/-- what a body does, called with the arguments as' at the heap h -/
def Ctr (Z : State) (n0 : Nat) (y : MethodName) (bytes : ByteArray) (maxL : Nat) (ret : Option FieldType) (R : Room) (as' : List Value) (h : Heap) (Q : Option Value → Heap → Prop) : Prop :=
  ∀ (l : Launch) (ws : List Jvm.Cond), MetFree l y (head1 (Jvm.Cond.code y bytes maxL ret :: ws) R) (fun a U => a = as'.toArray ∧ Z.Warmed39 U.vm ∧ U.heap = h) (fun _ _ _ _ _ => True)
    (fun _ U o U' => ∃ v L, o = .returned v ∧ (Q v U'.heap ∧ Fr n0 L) ∧ FrameEnd U o U' L R.cells R.slots)
section Kit
variable {K : Ctx} {Z : State} {R : Room} {y : MethodName} {bytes : ByteArray} {maxL : Nat} {ret : Option FieldType} {n0 : Nat} {T : State} {h : Heap} {cl sl : Nat} {Q : Option Value → Heap → Prop} {pc pc' : Nat} {L L' : Array Slot} {st : List Value} {a0 : Array Value}
theorem Go.step {T' : State} {st' : List Value} (hs : ∀ target, Steps K.p.tables K.e K.below (T'.setTop (mkF K.m pc' L' st')) target → Steps K.p.tables K.e K.below (T.setTop (mkF K.m pc L st)) target) (k : Go K R n0 Q T' pc' L' st') : Go K R n0 Q T pc L st := by
  obtain ⟨s₂, o, h1, r⟩ := k
  exact ⟨s₂, o, hs _ h1, r⟩
theorem St.size (S : St K Z R y bytes maxL ret n0 T h cl sl) : n0 ≤ h.size := by
  obtain ⟨⟨locs, X, hF⟩, e0, hn, -⟩ := S
  have q : K.s.heap.size ≤ T.heap.size := X.same.2.1
  rw [← e0]; exact Nat.le_trans hn q
theorem St.more (S : St K Z R y bytes maxL ret n0 T h cl sl) {cl' sl' : Nat} (h1 : cl ≤ cl') (h2 : sl ≤ sl') : St K Z R y bytes maxL ret n0 T h cl' sl' := by
  obtain ⟨⟨locs, X, hF⟩, r⟩ := S
  exact ⟨⟨locs, X.more h1 h2, hF⟩, r⟩
theorem Ctr.of {as' : List Value} (hpl : plainFor y = true) (hn : n0 ≤ h.size) (hef : ∀ m, entryFrame m as'.toArray maxL = mkF m 0 L []) (body : ∀ (K : Ctx) (T : State), St K Z R y bytes maxL ret n0 T h 0 0 → Go K R n0 Q T 0 L []) : Ctr Z n0 y bytes maxL ret R as' h Q := by
  intro l ws
  refine MetFree.of_bodySF hpl hisR ?_
  intro p e s m args below meth c s₁ Bd hml0 hP hK
  obtain ⟨rfl, hZ, hh⟩ := hP
  have e0 : s₁.heap = h := by rw [← hh, Bd.state]; rfl
  have X0 : Stand p l e R s m as'.toArray below meth c s₁ [] 0 0 := Stand.of_body Bd
  obtain ⟨s₂, o, h1, h2, h3, h4⟩ := body (p, l, e, s, m, as'.toArray, below, meth, c) s₁ ⟨⟨[], X0, Fr.nil _⟩, e0, by rw [← hh] at hn; exact hn, Bd.exec, hZ, Bd.bytes, hml0, Bd.returns, BodyLoose.notSynchronized Bd, findClass_of_methodNamed Bd.named, (name_of_methodNamed Bd.named Bd.method).1⟩
  exact ⟨s₂, o, castTop (hef m) h1, h2, h3, h4⟩
theorem Ctr.imp {as' : List Value} {Q' : Option Value → Heap → Prop} (C : Ctr Z n0 y bytes maxL ret R as' h Q) (hq : ∀ v h', Q v h' → Q' v h') : Ctr Z n0 y bytes maxL ret R as' h Q' := by
  intro l ws p e ha hc hk s m args below hf happ hP hK
  obtain ⟨n, o, h1, h2, h3, v, L, e1, ⟨e2, e3⟩, e4⟩ := C l ws p e ha hc hk s m args below hf happ hP hK
  exact ⟨n, o, h1, h2, h3, v, L, e1, ⟨hq _ _ e2, e3⟩, e4⟩

theorem px_iload (S : St K Z R y bytes maxL ret n0 T h cl sl) {k : Nat} {v : Int32} (hd : decode bytes pc = .ok (.iload k, 2)) (hp : pc + 2 = pc') (hl : L[k]? = some (.val (.int v))) (k : Go K R n0 Q T pc' L (.int v :: st)) : Go K R n0 Q T pc L st := by
  subst hp
  obtain ⟨⟨locs, X, hF⟩, e0, hn0, hx, hZ, hby, hml, hret, hlk, hown, hnm⟩ := S
  exact Go.step (fun _ t => XS.iload X.here hx rfl (hb hby hd) hl t) k
theorem px_iloadN (S : St K Z R y bytes maxL ret n0 T h cl sl) {k : Fin 4} {v : Int32} (hd : decode bytes pc = .ok (.iload_n k, 1)) (hp : pc + 1 = pc') (hl : L[k.val]? = some (.val (.int v))) (k : Go K R n0 Q T pc' L (.int v :: st)) : Go K R n0 Q T pc L st := by
  subst hp
  obtain ⟨⟨locs, X, hF⟩, e0, hn0, hx, hZ, hby, hml, hret, hlk, hown, hnm⟩ := S
  exact Go.step (fun _ t => XS.iloadN X.here hx rfl (hb hby hd) hl t) k
theorem px_lload (S : St K Z R y bytes maxL ret n0 T h cl sl) {k : Nat} {v : Int64} (hd : decode bytes pc = .ok (.lload k, 2)) (hp : pc + 2 = pc') (hl : L[k]? = some (.val (.long v))) (k : Go K R n0 Q T pc' L (.long v :: st)) : Go K R n0 Q T pc L st := by
  subst hp
  obtain ⟨⟨locs, X, hF⟩, e0, hn0, hx, hZ, hby, hml, hret, hlk, hown, hnm⟩ := S
  exact Go.step (fun _ t => XS.lload X.here hx rfl (hb hby hd) hl t) k
theorem px_lloadN (S : St K Z R y bytes maxL ret n0 T h cl sl) {k : Fin 4} {v : Int64} (hd : decode bytes pc = .ok (.lload_n k, 1)) (hp : pc + 1 = pc') (hl : L[k.val]? = some (.val (.long v))) (k : Go K R n0 Q T pc' L (.long v :: st)) : Go K R n0 Q T pc L st := by
  subst hp
  obtain ⟨⟨locs, X, hF⟩, e0, hn0, hx, hZ, hby, hml, hret, hlk, hown, hnm⟩ := S
  exact Go.step (fun _ t => XS.lloadN X.here hx rfl (hb hby hd) hl t) k
theorem px_aload (S : St K Z R y bytes maxL ret n0 T h cl sl) {k : Nat} {v : Value} (hd : decode bytes pc = .ok (.aload k, 2)) (hp : pc + 2 = pc') (hl : L[k]? = some (.val v)) (hv : v.isRef = true) (k : Go K R n0 Q T pc' L (v :: st)) : Go K R n0 Q T pc L st := by
  subst hp
  obtain ⟨⟨locs, X, hF⟩, e0, hn0, hx, hZ, hby, hml, hret, hlk, hown, hnm⟩ := S
  exact Go.step (fun _ t => XS.aload X.here hx rfl (hb hby hd) hl hv t) k
theorem px_aloadN (S : St K Z R y bytes maxL ret n0 T h cl sl) {k : Fin 4} {v : Value} (hd : decode bytes pc = .ok (.aload_n k, 1)) (hp : pc + 1 = pc') (hl : L[k.val]? = some (.val v)) (hv : v.isRef = true) (k : Go K R n0 Q T pc' L (v :: st)) : Go K R n0 Q T pc L st := by
  subst hp
  obtain ⟨⟨locs, X, hF⟩, e0, hn0, hx, hZ, hby, hml, hret, hlk, hown, hnm⟩ := S
  exact Go.step (fun _ t => XS.aloadN X.here hx rfl (hb hby hd) hl hv t) k
theorem px_istore (S : St K Z R y bytes maxL ret n0 T h cl sl) {k : Nat} {v : Int32} (hd : decode bytes pc = .ok (.istore k, 2)) (hp : pc + 2 = pc') (hl : storeLocals L k (.int v) = some L') (k : Go K R n0 Q T pc' L' st) : Go K R n0 Q T pc L (.int v :: st) := by
  subst hp
  obtain ⟨⟨locs, X, hF⟩, e0, hn0, hx, hZ, hby, hml, hret, hlk, hown, hnm⟩ := S
  exact Go.step (fun _ t => XS.istore X.here hx rfl (hb hby hd) rfl hl t) k
theorem px_istoreN (S : St K Z R y bytes maxL ret n0 T h cl sl) {k : Fin 4} {v : Int32} (hd : decode bytes pc = .ok (.istore_n k, 1)) (hp : pc + 1 = pc') (hl : storeLocals L k.val (.int v) = some L') (k : Go K R n0 Q T pc' L' st) : Go K R n0 Q T pc L (.int v :: st) := by
  subst hp
  obtain ⟨⟨locs, X, hF⟩, e0, hn0, hx, hZ, hby, hml, hret, hlk, hown, hnm⟩ := S
  exact Go.step (fun _ t => XS.istoreN X.here hx rfl (hb hby hd) rfl hl t) k
theorem px_lstore (S : St K Z R y bytes maxL ret n0 T h cl sl) {k : Nat} {v : Int64} (hd : decode bytes pc = .ok (.lstore k, 2)) (hp : pc + 2 = pc') (hl : storeLocals L k (.long v) = some L') (k : Go K R n0 Q T pc' L' st) : Go K R n0 Q T pc L (.long v :: st) := by
  subst hp
  obtain ⟨⟨locs, X, hF⟩, e0, hn0, hx, hZ, hby, hml, hret, hlk, hown, hnm⟩ := S
  exact Go.step (fun _ t => XS.lstore X.here hx rfl (hb hby hd) rfl hl t) k
theorem px_lstoreN (S : St K Z R y bytes maxL ret n0 T h cl sl) {k : Fin 4} {v : Int64} (hd : decode bytes pc = .ok (.lstore_n k, 1)) (hp : pc + 1 = pc') (hl : storeLocals L k.val (.long v) = some L') (k : Go K R n0 Q T pc' L' st) : Go K R n0 Q T pc L (.long v :: st) := by
  subst hp
  obtain ⟨⟨locs, X, hF⟩, e0, hn0, hx, hZ, hby, hml, hret, hlk, hown, hnm⟩ := S
  exact Go.step (fun _ t => XS.lstoreN X.here hx rfl (hb hby hd) rfl hl t) k
theorem px_astore (S : St K Z R y bytes maxL ret n0 T h cl sl) {k : Nat} {v : Value} (hd : decode bytes pc = .ok (.astore k, 2)) (hp : pc + 2 = pc') (hv : v.isRef = true) (hl : storeLocals L k v = some L') (k : Go K R n0 Q T pc' L' st) : Go K R n0 Q T pc L (v :: st) := by
  subst hp
  obtain ⟨⟨locs, X, hF⟩, e0, hn0, hx, hZ, hby, hml, hret, hlk, hown, hnm⟩ := S
  exact Go.step (fun _ t => XS.astore X.here hx rfl (hb hby hd) rfl hv hl t) k
theorem px_astoreN (S : St K Z R y bytes maxL ret n0 T h cl sl) {k : Fin 4} {v : Value} (hd : decode bytes pc = .ok (.astore_n k, 1)) (hp : pc + 1 = pc') (hv : v.isRef = true) (hl : storeLocals L k.val v = some L') (k : Go K R n0 Q T pc' L' st) : Go K R n0 Q T pc L (v :: st) := by
  subst hp
  obtain ⟨⟨locs, X, hF⟩, e0, hn0, hx, hZ, hby, hml, hret, hlk, hown, hnm⟩ := S
  exact Go.step (fun _ t => XS.astoreN X.here hx rfl (hb hby hd) rfl hv hl t) k
theorem px_iconst (S : St K Z R y bytes maxL ret n0 T h cl sl) {i : Int} {v : Int32} (hd : decode bytes pc = .ok (.iconst i, 1)) (hp : pc + 1 = pc') (hv : Int32.ofInt i = v) (k : Go K R n0 Q T pc' L (.int v :: st)) : Go K R n0 Q T pc L st := by
  subst hp
  obtain ⟨⟨locs, X, hF⟩, e0, hn0, hx, hZ, hby, hml, hret, hlk, hown, hnm⟩ := S
  exact Go.step (fun _ t => XS.iconst X.here hx rfl (hb hby hd) (by rw [hv]; exact t)) k
theorem px_bipush (S : St K Z R y bytes maxL ret n0 T h cl sl) {i : Int} {v : Int32} (hd : decode bytes pc = .ok (.bipush i, 2)) (hp : pc + 2 = pc') (hv : (Int8.ofInt i).toInt32 = v) (k : Go K R n0 Q T pc' L (.int v :: st)) : Go K R n0 Q T pc L st := by
  subst hp
  obtain ⟨⟨locs, X, hF⟩, e0, hn0, hx, hZ, hby, hml, hret, hlk, hown, hnm⟩ := S
  exact Go.step (fun _ t => XS.bipush X.here hx rfl (hb hby hd) (by rw [hv]; exact t)) k
theorem px_sipush (S : St K Z R y bytes maxL ret n0 T h cl sl) {i : Int} {v : Int32} (hd : decode bytes pc = .ok (.sipush i, 3)) (hp : pc + 3 = pc') (hv : (Int16.ofInt i).toInt32 = v) (k : Go K R n0 Q T pc' L (.int v :: st)) : Go K R n0 Q T pc L st := by
  subst hp
  obtain ⟨⟨locs, X, hF⟩, e0, hn0, hx, hZ, hby, hml, hret, hlk, hown, hnm⟩ := S
  exact Go.step (fun _ t => XS.sipush X.here hx rfl (hb hby hd) (by rw [hv]; exact t)) k
theorem px_lconst (S : St K Z R y bytes maxL ret n0 T h cl sl) {i : Fin 2} {v : Int64} (hd : decode bytes pc = .ok (.lconst i, 1)) (hp : pc + 1 = pc') (hv : Int64.ofNat i = v) (k : Go K R n0 Q T pc' L (.long v :: st)) : Go K R n0 Q T pc L st := by
  subst hp
  obtain ⟨⟨locs, X, hF⟩, e0, hn0, hx, hZ, hby, hml, hret, hlk, hown, hnm⟩ := S
  exact Go.step (fun _ t => XS.lconst X.here hx rfl (hb hby hd) (by rw [hv]; exact t)) k
theorem px_aconstNull (S : St K Z R y bytes maxL ret n0 T h cl sl) (hd : decode bytes pc = .ok (.aconst_null, 1)) (hp : pc + 1 = pc') (k : Go K R n0 Q T pc' L (.null :: st)) : Go K R n0 Q T pc L st := by
  subst hp
  obtain ⟨⟨locs, X, hF⟩, e0, hn0, hx, hZ, hby, hml, hret, hlk, hown, hnm⟩ := S
  exact Go.step (fun _ t => XS.aconstNull X.here hx rfl (hb hby hd) t) k
theorem px_iadd (S : St K Z R y bytes maxL ret n0 T h cl sl) {u v : Int32} (hd : decode bytes pc = .ok (.iadd, 1)) (hp : pc + 1 = pc') (k : Go K R n0 Q T pc' L (.int (u + v) :: st)) : Go K R n0 Q T pc L (.int v :: .int u :: st) := by
  subst hp
  obtain ⟨⟨locs, X, hF⟩, e0, hn0, hx, hZ, hby, hml, hret, hlk, hown, hnm⟩ := S
  exact Go.step (fun _ t => XS.iadd X.here hx rfl (hb hby hd) rfl t) k
theorem px_ladd (S : St K Z R y bytes maxL ret n0 T h cl sl) {u v : Int64} (hd : decode bytes pc = .ok (.ladd, 1)) (hp : pc + 1 = pc') (k : Go K R n0 Q T pc' L (.long (u + v) :: st)) : Go K R n0 Q T pc L (.long v :: .long u :: st) := by
  subst hp
  obtain ⟨⟨locs, X, hF⟩, e0, hn0, hx, hZ, hby, hml, hret, hlk, hown, hnm⟩ := S
  exact Go.step (fun _ t => XS.ladd X.here hx rfl (hb hby hd) rfl t) k
theorem px_isub (S : St K Z R y bytes maxL ret n0 T h cl sl) {u v : Int32} (hd : decode bytes pc = .ok (.isub, 1)) (hp : pc + 1 = pc') (k : Go K R n0 Q T pc' L (.int (u - v) :: st)) : Go K R n0 Q T pc L (.int v :: .int u :: st) := by
  subst hp
  obtain ⟨⟨locs, X, hF⟩, e0, hn0, hx, hZ, hby, hml, hret, hlk, hown, hnm⟩ := S
  exact Go.step (fun _ t => XS.isub X.here hx rfl (hb hby hd) rfl t) k
theorem px_lsub (S : St K Z R y bytes maxL ret n0 T h cl sl) {u v : Int64} (hd : decode bytes pc = .ok (.lsub, 1)) (hp : pc + 1 = pc') (k : Go K R n0 Q T pc' L (.long (u - v) :: st)) : Go K R n0 Q T pc L (.long v :: .long u :: st) := by
  subst hp
  obtain ⟨⟨locs, X, hF⟩, e0, hn0, hx, hZ, hby, hml, hret, hlk, hown, hnm⟩ := S
  exact Go.step (fun _ t => XS.lsub X.here hx rfl (hb hby hd) rfl t) k
theorem px_imul (S : St K Z R y bytes maxL ret n0 T h cl sl) {u v : Int32} (hd : decode bytes pc = .ok (.imul, 1)) (hp : pc + 1 = pc') (k : Go K R n0 Q T pc' L (.int (u * v) :: st)) : Go K R n0 Q T pc L (.int v :: .int u :: st) := by
  subst hp
  obtain ⟨⟨locs, X, hF⟩, e0, hn0, hx, hZ, hby, hml, hret, hlk, hown, hnm⟩ := S
  exact Go.step (fun _ t => XS.imul X.here hx rfl (hb hby hd) rfl t) k
theorem px_lmul (S : St K Z R y bytes maxL ret n0 T h cl sl) {u v : Int64} (hd : decode bytes pc = .ok (.lmul, 1)) (hp : pc + 1 = pc') (k : Go K R n0 Q T pc' L (.long (u * v) :: st)) : Go K R n0 Q T pc L (.long v :: .long u :: st) := by
  subst hp
  obtain ⟨⟨locs, X, hF⟩, e0, hn0, hx, hZ, hby, hml, hret, hlk, hown, hnm⟩ := S
  exact Go.step (fun _ t => XS.lmul X.here hx rfl (hb hby hd) rfl t) k
theorem px_iand (S : St K Z R y bytes maxL ret n0 T h cl sl) {u v : Int32} (hd : decode bytes pc = .ok (.iand, 1)) (hp : pc + 1 = pc') (k : Go K R n0 Q T pc' L (.int (u &&& v) :: st)) : Go K R n0 Q T pc L (.int v :: .int u :: st) := by
  subst hp
  obtain ⟨⟨locs, X, hF⟩, e0, hn0, hx, hZ, hby, hml, hret, hlk, hown, hnm⟩ := S
  exact Go.step (fun _ t => XS.iand X.here hx rfl (hb hby hd) rfl t) k
theorem px_land (S : St K Z R y bytes maxL ret n0 T h cl sl) {u v : Int64} (hd : decode bytes pc = .ok (.land, 1)) (hp : pc + 1 = pc') (k : Go K R n0 Q T pc' L (.long (u &&& v) :: st)) : Go K R n0 Q T pc L (.long v :: .long u :: st) := by
  subst hp
  obtain ⟨⟨locs, X, hF⟩, e0, hn0, hx, hZ, hby, hml, hret, hlk, hown, hnm⟩ := S
  exact Go.step (fun _ t => XS.land X.here hx rfl (hb hby hd) rfl t) k
theorem px_ior (S : St K Z R y bytes maxL ret n0 T h cl sl) {u v : Int32} (hd : decode bytes pc = .ok (.ior, 1)) (hp : pc + 1 = pc') (k : Go K R n0 Q T pc' L (.int (u ||| v) :: st)) : Go K R n0 Q T pc L (.int v :: .int u :: st) := by
  subst hp
  obtain ⟨⟨locs, X, hF⟩, e0, hn0, hx, hZ, hby, hml, hret, hlk, hown, hnm⟩ := S
  exact Go.step (fun _ t => XS.ior X.here hx rfl (hb hby hd) rfl t) k
theorem px_lor (S : St K Z R y bytes maxL ret n0 T h cl sl) {u v : Int64} (hd : decode bytes pc = .ok (.lor, 1)) (hp : pc + 1 = pc') (k : Go K R n0 Q T pc' L (.long (u ||| v) :: st)) : Go K R n0 Q T pc L (.long v :: .long u :: st) := by
  subst hp
  obtain ⟨⟨locs, X, hF⟩, e0, hn0, hx, hZ, hby, hml, hret, hlk, hown, hnm⟩ := S
  exact Go.step (fun _ t => XS.lor X.here hx rfl (hb hby hd) rfl t) k
theorem px_ixor (S : St K Z R y bytes maxL ret n0 T h cl sl) {u v : Int32} (hd : decode bytes pc = .ok (.ixor, 1)) (hp : pc + 1 = pc') (k : Go K R n0 Q T pc' L (.int (u ^^^ v) :: st)) : Go K R n0 Q T pc L (.int v :: .int u :: st) := by
  subst hp
  obtain ⟨⟨locs, X, hF⟩, e0, hn0, hx, hZ, hby, hml, hret, hlk, hown, hnm⟩ := S
  exact Go.step (fun _ t => XS.ixor X.here hx rfl (hb hby hd) rfl t) k
theorem px_lxor (S : St K Z R y bytes maxL ret n0 T h cl sl) {u v : Int64} (hd : decode bytes pc = .ok (.lxor, 1)) (hp : pc + 1 = pc') (k : Go K R n0 Q T pc' L (.long (u ^^^ v) :: st)) : Go K R n0 Q T pc L (.long v :: .long u :: st) := by
  subst hp
  obtain ⟨⟨locs, X, hF⟩, e0, hn0, hx, hZ, hby, hml, hret, hlk, hown, hnm⟩ := S
  exact Go.step (fun _ t => XS.lxor X.here hx rfl (hb hby hd) rfl t) k
def ushr (u v : Int32) : Int32 := (u.toUInt32 >>> (v &&& 31).toUInt32).toInt32
def ushrL (u : Int64) (v : Int32) : Int64 := (u.toUInt64 >>> (v &&& 0x3f).toInt64.toUInt64).toInt64
def i2c (v : Int32) : Int32 := v.toUInt32.toUInt16.toUInt32.toInt32
def i2b (v : Int32) : Int32 := v.toInt8.toInt32
def i2s (v : Int32) : Int32 := v.toInt16.toInt32
theorem px_ishl (S : St K Z R y bytes maxL ret n0 T h cl sl) {u v : Int32} (hd : decode bytes pc = .ok (.ishl, 1)) (hp : pc + 1 = pc') (k : Go K R n0 Q T pc' L (.int (u <<< (v &&& 31)) :: st)) : Go K R n0 Q T pc L (.int v :: .int u :: st) := by
  subst hp
  obtain ⟨⟨locs, X, hF⟩, e0, hn0, hx, hZ, hby, hml, hret, hlk, hown, hnm⟩ := S
  exact Go.step (fun _ t => XS.ishl X.here hx rfl (hb hby hd) rfl t) k
theorem px_ishr (S : St K Z R y bytes maxL ret n0 T h cl sl) {u v : Int32} (hd : decode bytes pc = .ok (.ishr, 1)) (hp : pc + 1 = pc') (k : Go K R n0 Q T pc' L (.int (u >>> (v &&& 31)) :: st)) : Go K R n0 Q T pc L (.int v :: .int u :: st) := by
  subst hp
  obtain ⟨⟨locs, X, hF⟩, e0, hn0, hx, hZ, hby, hml, hret, hlk, hown, hnm⟩ := S
  exact Go.step (fun _ t => XS.ishr X.here hx rfl (hb hby hd) rfl t) k
theorem px_iushr (S : St K Z R y bytes maxL ret n0 T h cl sl) {u v : Int32} (hd : decode bytes pc = .ok (.iushr, 1)) (hp : pc + 1 = pc') (k : Go K R n0 Q T pc' L (.int (ushr u v) :: st)) : Go K R n0 Q T pc L (.int v :: .int u :: st) := by
  subst hp
  obtain ⟨⟨locs, X, hF⟩, e0, hn0, hx, hZ, hby, hml, hret, hlk, hown, hnm⟩ := S
  exact Go.step (fun _ t => XS.iushr X.here hx rfl (hb hby hd) rfl t) k
theorem px_lshl (S : St K Z R y bytes maxL ret n0 T h cl sl) {u : Int64} {v : Int32} (hd : decode bytes pc = .ok (.lshl, 1)) (hp : pc + 1 = pc') (k : Go K R n0 Q T pc' L (.long (u <<< (v &&& 0x3f).toInt64) :: st)) : Go K R n0 Q T pc L (.int v :: .long u :: st) := by
  subst hp
  obtain ⟨⟨locs, X, hF⟩, e0, hn0, hx, hZ, hby, hml, hret, hlk, hown, hnm⟩ := S
  exact Go.step (fun _ t => XS.lshl X.here hx rfl (hb hby hd) rfl t) k
theorem px_lshr (S : St K Z R y bytes maxL ret n0 T h cl sl) {u : Int64} {v : Int32} (hd : decode bytes pc = .ok (.lshr, 1)) (hp : pc + 1 = pc') (k : Go K R n0 Q T pc' L (.long (u >>> (v &&& 0x3f).toInt64) :: st)) : Go K R n0 Q T pc L (.int v :: .long u :: st) := by
  subst hp
  obtain ⟨⟨locs, X, hF⟩, e0, hn0, hx, hZ, hby, hml, hret, hlk, hown, hnm⟩ := S
  exact Go.step (fun _ t => XS.lshr X.here hx rfl (hb hby hd) rfl t) k
theorem px_lushr (S : St K Z R y bytes maxL ret n0 T h cl sl) {u : Int64} {v : Int32} (hd : decode bytes pc = .ok (.lushr, 1)) (hp : pc + 1 = pc') (k : Go K R n0 Q T pc' L (.long (ushrL u v) :: st)) : Go K R n0 Q T pc L (.int v :: .long u :: st) := by
  subst hp
  obtain ⟨⟨locs, X, hF⟩, e0, hn0, hx, hZ, hby, hml, hret, hlk, hown, hnm⟩ := S
  exact Go.step (fun _ t => XS.lushr X.here hx rfl (hb hby hd) rfl t) k
theorem px_idiv (S : St K Z R y bytes maxL ret n0 T h cl sl) {u v : Int32} (hd : decode bytes pc = .ok (.idiv, 1)) (hp : pc + 1 = pc') (hz : v ≠ 0) (k : Go K R n0 Q T pc' L (.int (u / v) :: st)) : Go K R n0 Q T pc L (.int v :: .int u :: st) := by
  subst hp
  obtain ⟨⟨locs, X, hF⟩, e0, hn0, hx, hZ, hby, hml, hret, hlk, hown, hnm⟩ := S
  exact Go.step (fun _ t => XS.idiv X.here hx rfl (hb hby hd) rfl hz t) k
theorem px_irem (S : St K Z R y bytes maxL ret n0 T h cl sl) {u v : Int32} (hd : decode bytes pc = .ok (.irem, 1)) (hp : pc + 1 = pc') (hz : v ≠ 0) (k : Go K R n0 Q T pc' L (.int (u % v) :: st)) : Go K R n0 Q T pc L (.int v :: .int u :: st) := by
  subst hp
  obtain ⟨⟨locs, X, hF⟩, e0, hn0, hx, hZ, hby, hml, hret, hlk, hown, hnm⟩ := S
  exact Go.step (fun _ t => iremM X hx rfl (hb hby hd) rfl hz t) k
theorem px_ldiv (S : St K Z R y bytes maxL ret n0 T h cl sl) {u v : Int64} (hd : decode bytes pc = .ok (.ldiv, 1)) (hp : pc + 1 = pc') (hz : v ≠ 0) (k : Go K R n0 Q T pc' L (.long (u / v) :: st)) : Go K R n0 Q T pc L (.long v :: .long u :: st) := by
  subst hp
  obtain ⟨⟨locs, X, hF⟩, e0, hn0, hx, hZ, hby, hml, hret, hlk, hown, hnm⟩ := S
  exact Go.step (fun _ t => XS.ldiv X.here hx rfl (hb hby hd) rfl hz t) k
theorem px_ineg (S : St K Z R y bytes maxL ret n0 T h cl sl) {u : Int32} (hd : decode bytes pc = .ok (.ineg, 1)) (hp : pc + 1 = pc') (k : Go K R n0 Q T pc' L (.int (-u) :: st)) : Go K R n0 Q T pc L (.int u :: st) := by
  subst hp
  obtain ⟨⟨locs, X, hF⟩, e0, hn0, hx, hZ, hby, hml, hret, hlk, hown, hnm⟩ := S
  exact Go.step (fun _ t => XS.ineg X.here hx rfl (hb hby hd) rfl t) k
theorem px_lneg (S : St K Z R y bytes maxL ret n0 T h cl sl) {u : Int64} (hd : decode bytes pc = .ok (.lneg, 1)) (hp : pc + 1 = pc') (k : Go K R n0 Q T pc' L (.long (-u) :: st)) : Go K R n0 Q T pc L (.long u :: st) := by
  subst hp
  obtain ⟨⟨locs, X, hF⟩, e0, hn0, hx, hZ, hby, hml, hret, hlk, hown, hnm⟩ := S
  exact Go.step (fun _ t => XS.lneg X.here hx rfl (hb hby hd) rfl t) k
theorem px_i2l (S : St K Z R y bytes maxL ret n0 T h cl sl) {u : Int32} (hd : decode bytes pc = .ok (.i2l, 1)) (hp : pc + 1 = pc') (k : Go K R n0 Q T pc' L (.long u.toInt64 :: st)) : Go K R n0 Q T pc L (.int u :: st) := by
  subst hp
  obtain ⟨⟨locs, X, hF⟩, e0, hn0, hx, hZ, hby, hml, hret, hlk, hown, hnm⟩ := S
  exact Go.step (fun _ t => XS.i2l X.here hx rfl (hb hby hd) rfl t) k
theorem px_l2i (S : St K Z R y bytes maxL ret n0 T h cl sl) {u : Int64} (hd : decode bytes pc = .ok (.l2i, 1)) (hp : pc + 1 = pc') (k : Go K R n0 Q T pc' L (.int u.toInt32 :: st)) : Go K R n0 Q T pc L (.long u :: st) := by
  subst hp
  obtain ⟨⟨locs, X, hF⟩, e0, hn0, hx, hZ, hby, hml, hret, hlk, hown, hnm⟩ := S
  exact Go.step (fun _ t => XS.l2i X.here hx rfl (hb hby hd) rfl t) k
theorem px_i2b (S : St K Z R y bytes maxL ret n0 T h cl sl) {u : Int32} (hd : decode bytes pc = .ok (.i2b, 1)) (hp : pc + 1 = pc') (k : Go K R n0 Q T pc' L (.int (i2b u) :: st)) : Go K R n0 Q T pc L (.int u :: st) := by
  subst hp
  obtain ⟨⟨locs, X, hF⟩, e0, hn0, hx, hZ, hby, hml, hret, hlk, hown, hnm⟩ := S
  exact Go.step (fun _ t => XS.i2b X.here hx rfl (hb hby hd) rfl t) k
theorem px_i2c (S : St K Z R y bytes maxL ret n0 T h cl sl) {u : Int32} (hd : decode bytes pc = .ok (.i2c, 1)) (hp : pc + 1 = pc') (k : Go K R n0 Q T pc' L (.int (i2c u) :: st)) : Go K R n0 Q T pc L (.int u :: st) := by
  subst hp
  obtain ⟨⟨locs, X, hF⟩, e0, hn0, hx, hZ, hby, hml, hret, hlk, hown, hnm⟩ := S
  exact Go.step (fun _ t => XS.i2c X.here hx rfl (hb hby hd) rfl t) k
theorem px_i2s (S : St K Z R y bytes maxL ret n0 T h cl sl) {u : Int32} (hd : decode bytes pc = .ok (.i2s, 1)) (hp : pc + 1 = pc') (k : Go K R n0 Q T pc' L (.int (i2s u) :: st)) : Go K R n0 Q T pc L (.int u :: st) := by
  subst hp
  obtain ⟨⟨locs, X, hF⟩, e0, hn0, hx, hZ, hby, hml, hret, hlk, hown, hnm⟩ := S
  exact Go.step (fun _ t => XS.i2s X.here hx rfl (hb hby hd) rfl t) k
theorem px_lcmp (S : St K Z R y bytes maxL ret n0 T h cl sl) {u v : Int64} (hd : decode bytes pc = .ok (.lcmp, 1)) (hp : pc + 1 = pc') (k : Go K R n0 Q T pc' L (.int (lcmpW u v) :: st)) : Go K R n0 Q T pc L (.long v :: .long u :: st) := by
  subst hp
  obtain ⟨⟨locs, X, hF⟩, e0, hn0, hx, hZ, hby, hml, hret, hlk, hown, hnm⟩ := S
  exact Go.step (fun _ t => XS.lcmp X.here hx rfl (hb hby hd) rfl t) k
theorem px_pop (S : St K Z R y bytes maxL ret n0 T h cl sl) {u : Value} (hd : decode bytes pc = .ok (.pop, 1)) (hp : pc + 1 = pc') (hc : u.category = 1) (k : Go K R n0 Q T pc' L st) : Go K R n0 Q T pc L (u :: st) := by
  subst hp
  obtain ⟨⟨locs, X, hF⟩, e0, hn0, hx, hZ, hby, hml, hret, hlk, hown, hnm⟩ := S
  exact Go.step (fun _ t => XS.pop X.here hx rfl (hb hby hd) rfl hc t) k
theorem px_dup (S : St K Z R y bytes maxL ret n0 T h cl sl) {u : Value} (hd : decode bytes pc = .ok (.dup, 1)) (hp : pc + 1 = pc') (hc : u.category = 1) (k : Go K R n0 Q T pc' L (u :: u :: st)) : Go K R n0 Q T pc L (u :: st) := by
  subst hp
  obtain ⟨⟨locs, X, hF⟩, e0, hn0, hx, hZ, hby, hml, hret, hlk, hown, hnm⟩ := S
  exact Go.step (fun _ t => XS.dup X.here hx rfl (hb hby hd) rfl hc t) k
theorem px_dupX1 (S : St K Z R y bytes maxL ret n0 T h cl sl) {u v : Value} (hd : decode bytes pc = .ok (.dup_x1, 1)) (hp : pc + 1 = pc') (hc : u.category = 1) (hc2 : v.category = 1) (k : Go K R n0 Q T pc' L (u :: v :: u :: st)) : Go K R n0 Q T pc L (u :: v :: st) := by
  subst hp
  obtain ⟨⟨locs, X, hF⟩, e0, hn0, hx, hZ, hby, hml, hret, hlk, hown, hnm⟩ := S
  exact Go.step (fun _ t => XS.dupX1 X.here hx rfl (hb hby hd) rfl hc hc2 t) k
theorem px_dup2 (S : St K Z R y bytes maxL ret n0 T h cl sl) {u v : Value} (hd : decode bytes pc = .ok (.dup2, 1)) (hp : pc + 1 = pc') (hc : u.category = 1) (hc2 : v.category = 1) (k : Go K R n0 Q T pc' L (u :: v :: u :: v :: st)) : Go K R n0 Q T pc L (u :: v :: st) := by
  subst hp
  obtain ⟨⟨locs, X, hF⟩, e0, hn0, hx, hZ, hby, hml, hret, hlk, hown, hnm⟩ := S
  exact Go.step (fun _ t => Jvm.Free.XT.dup2 X.here hx rfl (hb hby hd) rfl hc hc2 t) k
theorem px_iinc (S : St K Z R y bytes maxL ret n0 T h cl sl) {k : Nat} {cst : Int} {u v r : Int32} (hd : decode bytes pc = .ok (.iinc k cst, 3)) (hp : pc + 3 = pc') (hl : L[k]? = some (.val (.int u))) (hv : Int32.ofInt cst = v) (hr : u + v = r) (hl' : storeLocals L k (.int r) = some L') (k' : Go K R n0 Q T pc' L' st) : Go K R n0 Q T pc L st := by
  subst hp
  subst hv
  subst hr
  obtain ⟨⟨locs, X, hF⟩, e0, hn0, hx, hZ, hby, hml, hret, hlk, hown, hnm⟩ := S
  exact Go.step (fun _ t => XS.iinc X.here hx rfl (hb hby hd) hl hl' t) k'
theorem px_goto (S : St K Z R y bytes maxL ret n0 T h cl sl) {o : Int} (hd : decode bytes pc = .ok (.goto o, 3)) (ho : 0 ≤ (pc : Int) + o) (hp : ((pc : Int) + o).toNat = pc') (k : Go K R n0 Q T pc' L st) : Go K R n0 Q T pc L st := by
  obtain ⟨⟨locs, X, hF⟩, e0, hn0, hx, hZ, hby, hml, hret, hlk, hown, hnm⟩ := S
  exact Go.step (fun _ t => XS.goto X.here hx rfl rfl (hb hby hd) ho hp t) k
def yesC : ClassFile.Cond → Int → Int → Prop
  | .eq, x, y => x = y
  | .ne, x, y => ¬ x = y
  | .lt, x, y => x < y
  | .ge, x, y => y ≤ x
  | .gt, x, y => y < x
  | .le, x, y => x ≤ y
def noC : ClassFile.Cond → Int → Int → Prop
  | .eq, x, y => ¬ x = y
  | .ne, x, y => x = y
  | .lt, x, y => y ≤ x
  | .ge, x, y => x < y
  | .gt, x, y => x ≤ y
  | .le, x, y => y < x
theorem yesC_of {cd : ClassFile.Cond} {x y : Int32} (h : if_icmp.holds cd x y = true) : yesC cd x.toInt y.toInt := by
  cases cd <;> simp [if_icmp.holds, yesC, Int32.lt_iff_toInt_lt, Int32.le_iff_toInt_le, ← Int32.toInt_inj] at h ⊢ <;> omega
theorem noC_of {cd : ClassFile.Cond} {x y : Int32} (h : if_icmp.holds cd x y = false) : noC cd x.toInt y.toInt := by
  cases cd <;> simp [if_icmp.holds, noC, Int32.lt_iff_toInt_lt, Int32.le_iff_toInt_le, ← Int32.toInt_inj] at h ⊢ <;> omega
theorem px_icmp (S : St K Z R y bytes maxL ret n0 T h cl sl) {cd : ClassFile.Cond} {o : Int} {u v : Int32} {pcn : Nat} (hd : decode bytes pc = .ok (.if_icmp cd o, 3)) (ho : 0 ≤ (pc : Int) + o) (hp : ((pc : Int) + o).toNat = pc') (hn : pc + 3 = pcn)
    (ky : yesC cd u.toInt v.toInt → Go K R n0 Q T pc' L st) (kn : noC cd u.toInt v.toInt → Go K R n0 Q T pcn L st) : Go K R n0 Q T pc L (.int v :: .int u :: st) := by
  subst hn
  obtain ⟨⟨locs, X, hF⟩, e0, hn0, hx, hZ, hby, hml, hret, hlk, hown, hnm⟩ := S
  cases hc : if_icmp.holds cd u v
  · exact Go.step (fun _ t => XS.icmpNo X.here hx rfl (hb hby hd) rfl hc t) (kn (noC_of hc))
  · exact Go.step (fun _ t => XS.icmpYes X.here hx rfl rfl (hb hby hd) rfl hc ho hp t) (ky (yesC_of hc))
theorem px_if0 (S : St K Z R y bytes maxL ret n0 T h cl sl) {cd : ClassFile.Cond} {o : Int} {u : Int32} {pcn : Nat} (hd : decode bytes pc = .ok (.ifCond cd o, 3)) (ho : 0 ≤ (pc : Int) + o) (hp : ((pc : Int) + o).toNat = pc') (hn : pc + 3 = pcn)
    (ky : yesC cd u.toInt 0 → Go K R n0 Q T pc' L st) (kn : noC cd u.toInt 0 → Go K R n0 Q T pcn L st) : Go K R n0 Q T pc L (.int u :: st) := by
  subst hn
  obtain ⟨⟨locs, X, hF⟩, e0, hn0, hx, hZ, hby, hml, hret, hlk, hown, hnm⟩ := S
  cases hc : ifCond.holds cd u
  · exact Go.step (fun _ t => XS.ifNo X.here hx rfl (hb hby hd) rfl hc t) (kn (noC_of (y := 0) ((if0 cd u).symm.trans hc)))
  · exact Go.step (fun _ t => XS.ifYes X.here hx rfl rfl (hb hby hd) rfl hc ho hp t) (ky (yesC_of (y := 0) ((if0 cd u).symm.trans hc)))
theorem yesL {cd : ClassFile.Cond} {x y : Int64} (h : yesC cd (lcmpW x y).toInt 0) : yesC cd x.toInt y.toInt := by
  have q := c_lcmp x y
  cases cd <;> simp only [yesC] at h ⊢ <;> omega
theorem noL {cd : ClassFile.Cond} {x y : Int64} (h : noC cd (lcmpW x y).toInt 0) : noC cd x.toInt y.toInt := by
  have q := c_lcmp x y
  cases cd <;> simp only [noC] at h ⊢ <;> omega
theorem px_lif (S : St K Z R y bytes maxL ret n0 T h cl sl) {cd : ClassFile.Cond} {o : Int} {u v : Int64} {pc1 pcn : Nat} (hd1 : decode bytes pc = .ok (.lcmp, 1)) (hp1 : pc + 1 = pc1) (hd : decode bytes pc1 = .ok (.ifCond cd o, 3)) (ho : 0 ≤ (pc1 : Int) + o) (hp : ((pc1 : Int) + o).toNat = pc') (hn : pc1 + 3 = pcn)
    (ky : yesC cd u.toInt v.toInt → Go K R n0 Q T pc' L st) (kn : noC cd u.toInt v.toInt → Go K R n0 Q T pcn L st) : Go K R n0 Q T pc L (.long v :: .long u :: st) :=
  px_lcmp S hd1 hp1 (px_if0 S hd ho hp hn (fun q => ky (yesL q)) (fun q => kn (noL q)))
theorem px_ifnull (S : St K Z R y bytes maxL ret n0 T h cl sl) {o : Int} {a : Addr} (hd : decode bytes pc = .ok (.ifnull o, 3)) (hp : pc + 3 = pc') (k : Go K R n0 Q T pc' L st) : Go K R n0 Q T pc L (.ref a :: st) := by
  subst hp
  obtain ⟨⟨locs, X, hF⟩, e0, hn0, hx, hZ, hby, hml, hret, hlk, hown, hnm⟩ := S
  exact Go.step (fun _ t => XS.ifnullNo X.here hx rfl (hb hby hd) rfl t) k
theorem px_ifnullY (S : St K Z R y bytes maxL ret n0 T h cl sl) {o : Int} (hd : decode bytes pc = .ok (.ifnull o, 3)) (ho : 0 ≤ (pc : Int) + o) (hp : ((pc : Int) + o).toNat = pc') (k : Go K R n0 Q T pc' L st) : Go K R n0 Q T pc L (.null :: st) := by
  obtain ⟨⟨locs, X, hF⟩, e0, hn0, hx, hZ, hby, hml, hret, hlk, hown, hnm⟩ := S
  exact Go.step (fun _ t => XS.ifnullYes X.here hx rfl rfl (hb hby hd) rfl ho hp t) k
theorem px_ifnonnull (S : St K Z R y bytes maxL ret n0 T h cl sl) {o : Int} {a : Addr} (hd : decode bytes pc = .ok (.ifnonnull o, 3)) (ho : 0 ≤ (pc : Int) + o) (hp : ((pc : Int) + o).toNat = pc') (k : Go K R n0 Q T pc' L st) : Go K R n0 Q T pc L (.ref a :: st) := by
  obtain ⟨⟨locs, X, hF⟩, e0, hn0, hx, hZ, hby, hml, hret, hlk, hown, hnm⟩ := S
  exact Go.step (fun _ t => XS.ifnonnullYes X.here hx rfl rfl (hb hby hd) rfl ho hp t) k
theorem px_ifnonnullN (S : St K Z R y bytes maxL ret n0 T h cl sl) {o : Int} (hd : decode bytes pc = .ok (.ifnonnull o, 3)) (hp : pc + 3 = pc') (k : Go K R n0 Q T pc' L st) : Go K R n0 Q T pc L (.null :: st) := by
  subst hp
  obtain ⟨⟨locs, X, hF⟩, e0, hn0, hx, hZ, hby, hml, hret, hlk, hown, hnm⟩ := S
  exact Go.step (fun _ t => XS.ifnonnullNo X.here hx rfl (hb hby hd) rfl t) k
theorem px_ldcI (S : St K Z R y bytes maxL ret n0 T h cl sl) {idx : Nat} {v : Int32} (w : (Jvm.Cond.constant y.cls idx v).before a0 Z = true) (hd : decode bytes pc = .ok (.ldc idx, 2)) (hp : pc + 2 = pc') (k : Go K R n0 Q T pc' L (.int v :: st)) : Go K R n0 Q T pc L st := by
  subst hp
  obtain ⟨⟨locs, X, hF⟩, e0, hn0, hx, hZ, hby, hml, hret, hlk, hown, hnm⟩ := S
  exact Go.step (fun _ t => X.ldcInt hx hown (mvT hZ w) (g := mkF K.m pc L st) rfl (hb hby hd) _ t) k
theorem px_ldcwI (S : St K Z R y bytes maxL ret n0 T h cl sl) {idx : Nat} {v : Int32} (w : (Jvm.Cond.constant y.cls idx v).before a0 Z = true) (hd : decode bytes pc = .ok (.ldc_w idx, 3)) (hp : pc + 3 = pc') (k : Go K R n0 Q T pc' L (.int v :: st)) : Go K R n0 Q T pc L st := by
  subst hp
  obtain ⟨⟨locs, X, hF⟩, e0, hn0, hx, hZ, hby, hml, hret, hlk, hown, hnm⟩ := S
  exact Go.step (fun _ t => X.ldcwInt hx hown (mvT hZ w) (g := mkF K.m pc L st) rfl (hb hby hd) _ t) k
theorem px_ldc2 (S : St K Z R y bytes maxL ret n0 T h cl sl) {idx : Nat} {v : Int64} (w : (Jvm.Cond.constantLong y.cls idx v).before a0 Z = true) (hd : decode bytes pc = .ok (.ldc2_w idx, 3)) (hp : pc + 3 = pc') (k : Go K R n0 Q T pc' L (.long v :: st)) : Go K R n0 Q T pc L st := by
  subst hp
  obtain ⟨⟨locs, X, hF⟩, e0, hn0, hx, hZ, hby, hml, hret, hlk, hown, hnm⟩ := S
  exact Go.step (fun _ t => X.ldc2Long hx hown (mvT hZ w) (g := mkF K.m pc L st) rfl (hb hby hd) _ t) k
theorem px_ret {v : Option Value} (S : St K Z R y bytes maxL ret n0 T h cl sl) (hv : ret = none → v = none) (hc : cl ≤ R.cells) (hs : sl ≤ R.slots)
    (hd : ∀ (locs : List Loc) (fs : List Frame), Stand K.p K.l K.e R K.s K.m K.args K.below K.meth K.c T locs cl sl → K.p.tables.exec = Jvm.exec → K.c.code = bytes → K.meth.sig.returnType = ret → (∀ (f : JFrame) (acts : List Action), f.method = K.m → f.locked = none → f.entered = [] → (doReturn K.e (T.setTop f) acts v).1 = T.setFrames fs) → Steps K.p.tables K.e K.below (T.setTop (mkF K.m pc L st)) (T.setFrames fs))
    (hq : Q v h) : Go K R n0 Q T pc L st := by
  obtain ⟨⟨locs, X, hF⟩, e0, hn0, hx, hZ, hby, hml, hret, hlk, hown, hnm⟩ := S
  obtain ⟨fs, hr, hrun, hended, hW, hsame⟩ := X.leave (v := v) (fun q => hv (hret ▸ q)) hlk
  refine ⟨_, _, hd locs fs X hx hby hret hr, hrun, hended, _, _, rfl, ⟨?_, hF⟩, ⟨_, rfl⟩, hW, hsame.mono hc hs⟩
  show Q v T.heap
  rw [e0]; exact hq
theorem px_return (S : St K Z R y bytes maxL ret n0 T h cl sl) (hd : decode bytes pc = .ok (.return_, 1)) (hrt : ret = none) (hc : cl ≤ R.cells) (hs : sl ≤ R.slots) (hq : Q none h) : Go K R n0 Q T pc L [] :=
  px_ret S (fun _ => rfl) hc hs (fun _ _ X hx hby hret hr => X.returnOut hx (hret.trans hrt) (hb hby hd) hr) hq
theorem px_retN {t : FieldType} {z z' : Int32} (S : St K Z R y bytes maxL ret n0 T h cl sl) (hd : decode bytes pc = .ok (.ireturn, 1)) (hrt : ret = some t) (ht : t = .boolean ∨ t = .byte ∨ t = .char ∨ t = .short) (hz : nar t z = z') (hc : cl ≤ R.cells) (hs : sl ≤ R.slots) (hq : Q (some (.int z')) h) : Go K R n0 Q T pc L (.int z :: st) := by
  subst hz
  exact px_ret S (fun q => by rw [hrt] at q; cases q) hc hs (fun _ _ X hx hby hret hr => retN X hx (hret.trans hrt) ht (hb hby hd) hr) hq
theorem px_retI {z : Int32} (S : St K Z R y bytes maxL ret n0 T h cl sl) (hd : decode bytes pc = .ok (.ireturn, 1)) (hrt : ret = some .int) (hc : cl ≤ R.cells) (hs : sl ≤ R.slots) (hq : Q (some (.int z)) h) : Go K R n0 Q T pc L (.int z :: st) :=
  px_ret S (fun q => by rw [hrt] at q; cases q) hc hs (fun _ _ X hx hby hret hr => retOut X hx (hret.trans hrt) rfl (Or.inl ⟨rfl, Or.inl rfl, z, rfl⟩) (hb hby hd) hr) hq
theorem px_retJ {z : Int64} (S : St K Z R y bytes maxL ret n0 T h cl sl) (hd : decode bytes pc = .ok (.lreturn, 1)) (hrt : ret = some .long) (hc : cl ≤ R.cells) (hs : sl ≤ R.slots) (hq : Q (some (.long z)) h) : Go K R n0 Q T pc L (.long z :: st) :=
  px_ret S (fun q => by rw [hrt] at q; cases q) hc hs (fun _ _ X hx hby hret hr => retOut X hx (hret.trans hrt) rfl (Or.inr (Or.inl ⟨rfl, rfl, z, rfl⟩)) (hb hby hd) hr) hq
theorem narrow_ref {t : FieldType} {v : Value} (ht : t.isReference = true) : narrow t v = v := by cases t <;> simp [FieldType.isReference] at ht <;> cases v <;> rfl
theorem px_retA {t : FieldType} {v : Value} (S : St K Z R y bytes maxL ret n0 T h cl sl) (hd : decode bytes pc = .ok (.areturn, 1)) (hrt : ret = some t) (ht : t.isReference = true) (hv : v.isRef = true) (hc : cl ≤ R.cells) (hs : sl ≤ R.slots) (hq : Q (some v) h) : Go K R n0 Q T pc L (v :: st) :=
  px_ret S (fun q => by rw [hrt] at q; cases q) hc hs (fun _ _ X hx hby hret hr => retOut X hx (hret.trans hrt) (narrow_ref ht) (Or.inr (Or.inr (Or.inr (Or.inr ⟨rfl, ht, hv⟩)))) (hb hby hd) hr) hq
/-- an array of ints (or of bytes, chars, shorts, booleans) of n places that hold f 0 .. -/
def AI (Z : State) (h : Heap) (a : Addr) (ty : FieldType) (n : Nat) (f : Nat → Int32) : Prop := ∃ c : Cell, Arr Z h a c ty ∧ c.slots.size = n ∧ n < 2147483648 ∧ ∀ i, i < n → c.slots[i]? = some (.int (f i)) ∧ fits ty (.int (f i)) = true
def AJ (Z : State) (h : Heap) (a : Addr) (n : Nat) (f : Nat → Int64) : Prop := ∃ c : Cell, Arr Z h a c .long ∧ c.slots.size = n ∧ n < 2147483648 ∧ ∀ i, i < n → c.slots[i]? = some (.long (f i))
def updF {α : Type} (f : Nat → α) (i : Nat) (v : α) : Nat → α := fun j => if j = i then v else f j
theorem updF_same {α : Type} (f : Nat → α) (i : Nat) (v : α) : updF f i v i = v := by simp [updF]
theorem updF_ne {α : Type} (f : Nat → α) {i j : Nat} (v : α) (q : ¬ j = i) : updF f i v j = f j := by simp [updF, q]
variable {h' : Heap} {a b : Addr} {ty : FieldType} {n : Nat} {f : Nat → Int32} {fj : Nat → Int64}
theorem AI.lt (A : AI Z h a ty n f) : a < h.size := by obtain ⟨c, A, -⟩ := A; exact A.lt
theorem AJ.lt (A : AJ Z h a n fj) : a < h.size := by obtain ⟨c, A, -⟩ := A; exact A.lt
theorem AI.len (A : AI Z h a ty n f) : n < 2147483648 := by obtain ⟨c, -, -, q, -⟩ := A; exact q
theorem AJ.len (A : AJ Z h a n fj) : n < 2147483648 := by obtain ⟨c, -, -, q, -⟩ := A; exact q
theorem AI.ext (A : AI Z h a ty n f) (E : Ext h h') : AI Z h' a ty n f := by obtain ⟨c, A, r⟩ := A; exact ⟨c, A.ext E, r⟩
theorem AJ.ext (A : AJ Z h a n fj) (E : Ext h h') : AJ Z h' a n fj := by obtain ⟨c, A, r⟩ := A; exact ⟨c, A.ext E, r⟩
theorem AI.other {s0 : Nat} {v : Value} (A : AI Z h a ty n f) (W : Wr h h' b s0 v) (q : a ≠ b) : AI Z h' a ty n f := by obtain ⟨c, A, r⟩ := A; exact ⟨c, A.other W q, r⟩
theorem AJ.other {s0 : Nat} {v : Value} (A : AJ Z h a n fj) (W : Wr h h' b s0 v) (q : a ≠ b) : AJ Z h' a n fj := by obtain ⟨c, A, r⟩ := A; exact ⟨c, A.other W q, r⟩
theorem AI.keep {ws : List Addr} (A : AI Z h a ty n f) (W : Keep h h' ws) (q : a ∉ ws) : AI Z h' a ty n f := by obtain ⟨c, A, r⟩ := A; exact ⟨c, ⟨W.2.1 a c A.1 q, A.2⟩, r⟩
theorem AJ.keep {ws : List Addr} (A : AJ Z h a n fj) (W : Keep h h' ws) (q : a ∉ ws) : AJ Z h' a n fj := by obtain ⟨c, A, r⟩ := A; exact ⟨c, ⟨W.2.1 a c A.1 q, A.2⟩, r⟩
theorem AI.congr {g : Nat → Int32} (A : AI Z h a ty n f) (q : ∀ i, i < n → f i = g i) : AI Z h a ty n g := by obtain ⟨c, A, r1, r2, r3⟩ := A; exact ⟨c, A, r1, r2, fun i hi => by rw [← q i hi]; exact r3 i hi⟩
theorem AJ.congr {g : Nat → Int64} (A : AJ Z h a n fj) (q : ∀ i, i < n → fj i = g i) : AJ Z h a n g := by obtain ⟨c, A, r1, r2, r3⟩ := A; exact ⟨c, A, r1, r2, fun i hi => by rw [r3 i hi, q i hi]⟩
theorem clampI {j : Int32} {i : Nat} (hj : j.toInt = (i : Int)) : j.toNatClampNeg = i := by
  have q : j.toNatClampNeg = j.toInt.toNat := rfl
  rw [q, hj]; rfl
theorem inbI {c : Cell} {j : Int32} {i : Nat} (hj : j.toInt = (i : Int)) (hi : i < c.slots.size) : ¬ (j < 0 ∨ c.slots.size ≤ j.toNatClampNeg) := by
  rw [clampI hj]
  intro q
  rcases q with q | q
  · have q2 := Int32.lt_iff_toInt_lt.mp q
    have z : (0 : Int32).toInt = 0 := rfl
    omega
  · omega
theorem AI.same {c : Cell} {i : Nat} {v : Int32} (A : Arr Z h a c ty) (h1 : c.slots.size = n) (h2 : n < 2147483648) (h3 : ∀ i, i < n → c.slots[i]? = some (.int (f i)) ∧ fits ty (.int (f i)) = true) (W : Wr h h' a i (.int v)) (hi : i < n) (hft : fits ty (.int v) = true) : AI Z h' a ty n (updF f i v) := by
  refine ⟨_, A.same W, by simp [Cell.setSlot, h1], h2, fun j hj => ?_⟩
  by_cases q : j = i
  · subst q
    rw [updF_same]
    exact ⟨by simp [Cell.setSlot, h1, hj], hft⟩
  · rw [updF_ne _ _ q]
    have q' : ¬ i = j := fun e => q e.symm
    exact ⟨by simp [Cell.setSlot, Array.getElem?_setIfInBounds, q', (h3 j hj).1], (h3 j hj).2⟩
theorem AJ.same {c : Cell} {i : Nat} {v : Int64} (A : Arr Z h a c .long) (h1 : c.slots.size = n) (h2 : n < 2147483648) (h3 : ∀ i, i < n → c.slots[i]? = some (.long (fj i))) (W : Wr h h' a i (.long v)) (hi : i < n) : AJ Z h' a n (updF fj i v) := by
  refine ⟨_, A.same W, by simp [Cell.setSlot, h1], h2, fun j hj => ?_⟩
  by_cases q : j = i
  · subst q
    rw [updF_same]
    simp [Cell.setSlot, h1, hj]
  · rw [updF_ne _ _ q]
    have q' : ¬ i = j := fun e => q e.symm
    simp [Cell.setSlot, Array.getElem?_setIfInBounds, q', h3 j hj]
theorem px_iaload (S : St K Z R y bytes maxL ret n0 T h cl sl) (A : AI Z h a .int n f) {j v : Int32} {i : Nat} (hj : j.toInt = (i : Int)) (hi : i < n) (hv : f i = v) (hd : decode bytes pc = .ok (.iaload, 1)) (hp : pc + 1 = pc') (k : Go K R n0 Q T pc' L (.int v :: st)) : Go K R n0 Q T pc L (.int j :: .ref a :: st) := by
  subst hp
  subst hv
  obtain ⟨⟨locs, X, hF⟩, e0, hn0, hx, hZ, hby, hml, hret, hlk, hown, hnm⟩ := S
  obtain ⟨c, A, h1, h2, h3⟩ := A
  exact Go.step (fun _ t => X.iaload hx (j := j) (v := .int (f i)) (by rw [e0]; exact A.1) (State.isArrayOf_alike hZ.alike A.2.1) A.2.2 (inbI hj (h1 ▸ hi)) (by rw [clampI hj]; exact (h3 i hi).1) (g := mkF K.m pc L (.int j :: .ref a :: st)) rfl rfl (hb hby hd) _ t) k
theorem px_caload (S : St K Z R y bytes maxL ret n0 T h cl sl) (A : AI Z h a .char n f) {j v : Int32} {i : Nat} (hj : j.toInt = (i : Int)) (hi : i < n) (hv : f i = v) (hd : decode bytes pc = .ok (.caload, 1)) (hp : pc + 1 = pc') (k : Go K R n0 Q T pc' L (.int v :: st)) : Go K R n0 Q T pc L (.int j :: .ref a :: st) := by
  subst hp
  subst hv
  obtain ⟨⟨locs, X, hF⟩, e0, hn0, hx, hZ, hby, hml, hret, hlk, hown, hnm⟩ := S
  obtain ⟨c, A, h1, h2, h3⟩ := A
  exact Go.step (fun _ t => X.caload hx (j := j) (v := .int (f i)) (by rw [e0]; exact A.1) (State.isArrayOf_alike hZ.alike A.2.1) A.2.2 (inbI hj (h1 ▸ hi)) (by rw [clampI hj]; exact (h3 i hi).1) (g := mkF K.m pc L (.int j :: .ref a :: st)) rfl rfl (hb hby hd) _ t) k
theorem px_saload (S : St K Z R y bytes maxL ret n0 T h cl sl) (A : AI Z h a .short n f) {j v : Int32} {i : Nat} (hj : j.toInt = (i : Int)) (hi : i < n) (hv : f i = v) (hd : decode bytes pc = .ok (.saload, 1)) (hp : pc + 1 = pc') (k : Go K R n0 Q T pc' L (.int v :: st)) : Go K R n0 Q T pc L (.int j :: .ref a :: st) := by
  subst hp
  subst hv
  obtain ⟨⟨locs, X, hF⟩, e0, hn0, hx, hZ, hby, hml, hret, hlk, hown, hnm⟩ := S
  obtain ⟨c, A, h1, h2, h3⟩ := A
  exact Go.step (fun _ t => X.saload hx (j := j) (v := .int (f i)) (by rw [e0]; exact A.1) (State.isArrayOf_alike hZ.alike A.2.1) A.2.2 (inbI hj (h1 ▸ hi)) (by rw [clampI hj]; exact (h3 i hi).1) (g := mkF K.m pc L (.int j :: .ref a :: st)) rfl rfl (hb hby hd) _ t) k
theorem px_baload (S : St K Z R y bytes maxL ret n0 T h cl sl) (A : AI Z h a .byte n f) {j v : Int32} {i : Nat} (hj : j.toInt = (i : Int)) (hi : i < n) (hv : f i = v) (hd : decode bytes pc = .ok (.baload, 1)) (hp : pc + 1 = pc') (k : Go K R n0 Q T pc' L (.int v :: st)) : Go K R n0 Q T pc L (.int j :: .ref a :: st) := by
  subst hp
  subst hv
  obtain ⟨⟨locs, X, hF⟩, e0, hn0, hx, hZ, hby, hml, hret, hlk, hown, hnm⟩ := S
  obtain ⟨c, A, h1, h2, h3⟩ := A
  exact Go.step (fun _ t => X.baloadBytes hx (j := j) (v := .int (f i)) (by rw [e0]; exact A.1) (State.isArrayOf_alike hZ.alike A.2.1) A.2.2 (inbI hj (h1 ▸ hi)) (by rw [clampI hj]; exact (h3 i hi).1) (g := mkF K.m pc L (.int j :: .ref a :: st)) rfl rfl (hb hby hd) _ t) k
theorem px_laload (S : St K Z R y bytes maxL ret n0 T h cl sl) (A : AJ Z h a n fj) {j : Int32} {v : Int64} {i : Nat} (hj : j.toInt = (i : Int)) (hi : i < n) (hv : fj i = v) (hd : decode bytes pc = .ok (.laload, 1)) (hp : pc + 1 = pc') (k : Go K R n0 Q T pc' L (.long v :: st)) : Go K R n0 Q T pc L (.int j :: .ref a :: st) := by
  subst hp
  subst hv
  obtain ⟨⟨locs, X, hF⟩, e0, hn0, hx, hZ, hby, hml, hret, hlk, hown, hnm⟩ := S
  obtain ⟨c, A, h1, h2, h3⟩ := A
  exact Go.step (fun _ t => X.laload hx (j := j) (v := .long (fj i)) (by rw [e0]; exact A.1) (State.isArrayOf_alike hZ.alike A.2.1) A.2.2 (inbI hj (h1 ▸ hi)) (by rw [clampI hj]; exact h3 i hi) (g := mkF K.m pc L (.int j :: .ref a :: st)) rfl rfl (hb hby hd) _ t) k
theorem len32 {c : Cell} (h1 : c.slots.size = n) (h2 : n < 2147483648) {v : Int32} (hv : v.toInt = (n : Int)) : c.slots.size.toInt32 = v := by
  rw [h1]
  apply Int32.toInt_inj.mp
  rw [hv]
  have := Int32.toInt_ofNat_of_lt (n := n) h2
  exact this
theorem px_alenI (S : St K Z R y bytes maxL ret n0 T h cl sl) (A : AI Z h a ty n f) {v : Int32} (hv : v.toInt = (n : Int)) (hd : decode bytes pc = .ok (.arraylength, 1)) (hp : pc + 1 = pc') (k : Go K R n0 Q T pc' L (.int v :: st)) : Go K R n0 Q T pc L (.ref a :: st) := by
  subst hp
  obtain ⟨⟨locs, X, hF⟩, e0, hn0, hx, hZ, hby, hml, hret, hlk, hown, hnm⟩ := S
  obtain ⟨c, A, h1, h2, h3⟩ := A
  refine Go.step (fun _ t => X.arraylength hx (by rw [e0]; exact A.1) (State.isArrayOf_alike hZ.alike A.2.1) (g := mkF K.m pc L (.ref a :: st)) rfl rfl (hb hby hd) _ t) ?_
  rw [len32 h1 h2 hv]
  exact k
theorem px_alenJ (S : St K Z R y bytes maxL ret n0 T h cl sl) (A : AJ Z h a n fj) {v : Int32} (hv : v.toInt = (n : Int)) (hd : decode bytes pc = .ok (.arraylength, 1)) (hp : pc + 1 = pc') (k : Go K R n0 Q T pc' L (.int v :: st)) : Go K R n0 Q T pc L (.ref a :: st) := by
  subst hp
  obtain ⟨⟨locs, X, hF⟩, e0, hn0, hx, hZ, hby, hml, hret, hlk, hown, hnm⟩ := S
  obtain ⟨c, A, h1, h2, h3⟩ := A
  refine Go.step (fun _ t => X.arraylength hx (by rw [e0]; exact A.1) (State.isArrayOf_alike hZ.alike A.2.1) (g := mkF K.m pc L (.ref a :: st)) rfl rfl (hb hby hd) _ t) ?_
  rw [len32 h1 h2 hv]
  exact k
theorem px_iastore (S : St K Z R y bytes maxL ret n0 T h cl sl) (A : AI Z h a .int n f) (ha : n0 ≤ a) {j u v : Int32} {i : Nat} (hj : j.toInt = (i : Int)) (hi : i < n) (hv : u = v) (hd : decode bytes pc = .ok (.iastore, 1)) (hp : pc + 1 = pc')
    (k : ∀ (T' : State) (h' : Heap), St K Z R y bytes maxL ret n0 T' h' cl sl → Wr h h' a i (.int v) → AI Z h' a .int n (updF f i v) → Go K R n0 Q T' pc' L st) : Go K R n0 Q T pc L (.int u :: .int j :: .ref a :: st) := by
  subst hp
  subst hv
  obtain ⟨⟨locs, X, hF⟩, e0, hn0, hx, hZ, hby, hml, hret, hlk, hown, hnm⟩ := S
  obtain ⟨c, A, h1, h2, h3⟩ := A
  obtain ⟨T', h', X', e', W, stp⟩ := stI X hx hZ e0 A (j := j) (inbI hj (h1 ▸ hi)) (g := mkF K.m pc L (.int u :: .int j :: .ref a :: st)) rfl rfl (hb hby hd)
  have hF' := Fr.snoc X' hF ha
  rw [clampI hj] at W
  exact Go.step stp (k T' h' ⟨⟨_, X', hF'⟩, e', hn0, hx, hZ, hby, hml, hret, hlk, hown, hnm⟩ W (AI.same A h1 h2 h3 W hi rfl))
theorem px_castore (S : St K Z R y bytes maxL ret n0 T h cl sl) (A : AI Z h a .char n f) (ha : n0 ≤ a) {j u v : Int32} {i : Nat} (hj : j.toInt = (i : Int)) (hi : i < n) (hv : (nar .char u) = v) (hd : decode bytes pc = .ok (.castore, 1)) (hp : pc + 1 = pc')
    (k : ∀ (T' : State) (h' : Heap), St K Z R y bytes maxL ret n0 T' h' cl sl → Wr h h' a i (.int v) → AI Z h' a .char n (updF f i v) → Go K R n0 Q T' pc' L st) : Go K R n0 Q T pc L (.int u :: .int j :: .ref a :: st) := by
  subst hp
  subst hv
  obtain ⟨⟨locs, X, hF⟩, e0, hn0, hx, hZ, hby, hml, hret, hlk, hown, hnm⟩ := S
  obtain ⟨c, A, h1, h2, h3⟩ := A
  obtain ⟨T', h', X', e', W, stp⟩ := stC X hx hZ e0 A (j := j) (inbI hj (h1 ▸ hi)) (g := mkF K.m pc L (.int u :: .int j :: .ref a :: st)) rfl rfl (hb hby hd)
  have hF' := Fr.snoc X' hF ha
  rw [clampI hj] at W
  exact Go.step stp (k T' h' ⟨⟨_, X', hF'⟩, e', hn0, hx, hZ, hby, hml, hret, hlk, hown, hnm⟩ W (AI.same A h1 h2 h3 W hi (fits_nar_char _)))
theorem px_sastore (S : St K Z R y bytes maxL ret n0 T h cl sl) (A : AI Z h a .short n f) (ha : n0 ≤ a) {j u v : Int32} {i : Nat} (hj : j.toInt = (i : Int)) (hi : i < n) (hv : (nar .short u) = v) (hd : decode bytes pc = .ok (.sastore, 1)) (hp : pc + 1 = pc')
    (k : ∀ (T' : State) (h' : Heap), St K Z R y bytes maxL ret n0 T' h' cl sl → Wr h h' a i (.int v) → AI Z h' a .short n (updF f i v) → Go K R n0 Q T' pc' L st) : Go K R n0 Q T pc L (.int u :: .int j :: .ref a :: st) := by
  subst hp
  subst hv
  obtain ⟨⟨locs, X, hF⟩, e0, hn0, hx, hZ, hby, hml, hret, hlk, hown, hnm⟩ := S
  obtain ⟨c, A, h1, h2, h3⟩ := A
  obtain ⟨T', h', X', e', W, stp⟩ := stS X hx hZ e0 A (j := j) (inbI hj (h1 ▸ hi)) (g := mkF K.m pc L (.int u :: .int j :: .ref a :: st)) rfl rfl (hb hby hd)
  have hF' := Fr.snoc X' hF ha
  rw [clampI hj] at W
  exact Go.step stp (k T' h' ⟨⟨_, X', hF'⟩, e', hn0, hx, hZ, hby, hml, hret, hlk, hown, hnm⟩ W (AI.same A h1 h2 h3 W hi (fits_nar_short _)))
theorem px_bastore (S : St K Z R y bytes maxL ret n0 T h cl sl) (A : AI Z h a .byte n f) (ha : n0 ≤ a) {j u v : Int32} {i : Nat} (hj : j.toInt = (i : Int)) (hi : i < n) (hv : (nar .byte u) = v) (hd : decode bytes pc = .ok (.bastore, 1)) (hp : pc + 1 = pc')
    (k : ∀ (T' : State) (h' : Heap), St K Z R y bytes maxL ret n0 T' h' cl sl → Wr h h' a i (.int v) → AI Z h' a .byte n (updF f i v) → Go K R n0 Q T' pc' L st) : Go K R n0 Q T pc L (.int u :: .int j :: .ref a :: st) := by
  subst hp
  subst hv
  obtain ⟨⟨locs, X, hF⟩, e0, hn0, hx, hZ, hby, hml, hret, hlk, hown, hnm⟩ := S
  obtain ⟨c, A, h1, h2, h3⟩ := A
  obtain ⟨T', h', X', e', W, stp⟩ := stB X hx hZ e0 A (j := j) (inbI hj (h1 ▸ hi)) (g := mkF K.m pc L (.int u :: .int j :: .ref a :: st)) rfl rfl (hb hby hd)
  have hF' := Fr.snoc X' hF ha
  rw [clampI hj] at W
  exact Go.step stp (k T' h' ⟨⟨_, X', hF'⟩, e', hn0, hx, hZ, hby, hml, hret, hlk, hown, hnm⟩ W (AI.same A h1 h2 h3 W hi (fits_nar_byte _)))
theorem px_lastore (S : St K Z R y bytes maxL ret n0 T h cl sl) (A : AJ Z h a n fj) (ha : n0 ≤ a) {j : Int32} {u : Int64} {i : Nat} (hj : j.toInt = (i : Int)) (hi : i < n) (hd : decode bytes pc = .ok (.lastore, 1)) (hp : pc + 1 = pc')
    (k : ∀ (T' : State) (h' : Heap), St K Z R y bytes maxL ret n0 T' h' cl sl → Wr h h' a i (.long u) → AJ Z h' a n (updF fj i u) → Go K R n0 Q T' pc' L st) : Go K R n0 Q T pc L (.long u :: .int j :: .ref a :: st) := by
  subst hp
  obtain ⟨⟨locs, X, hF⟩, e0, hn0, hx, hZ, hby, hml, hret, hlk, hown, hnm⟩ := S
  obtain ⟨c, A, h1, h2, h3⟩ := A
  obtain ⟨T', h', X', e', W, stp⟩ := stJ X hx hZ e0 A (j := j) (inbI hj (h1 ▸ hi)) (g := mkF K.m pc L (.long u :: .int j :: .ref a :: st)) rfl rfl (hb hby hd)
  have hF' := Fr.snoc X' hF ha
  rw [clampI hj] at W
  exact Go.step stp (k T' h' ⟨⟨_, X', hF'⟩, e', hn0, hx, hZ, hby, hml, hret, hlk, hown, hnm⟩ W (AJ.same A h1 h2 h3 W hi))
theorem nneg {u : Int32} (hu : u.toInt = (n : Int)) : ¬ u < 0 := fun q => by
  have q2 := Int32.lt_iff_toInt_lt.mp q
  have z : (0 : Int32).toInt = 0 := rfl
  omega
theorem small {u : Int32} (hu : u.toInt = (n : Int)) : n < 2147483648 := by
  have := (rng32 u).2
  omega
theorem px_newarr {aty : ArrayType} (S : St K Z R y bytes maxL ret n0 T h cl sl) (w : (Jvm.Cond.arrayClass (newarray.typeOf aty)).before a0 Z = true) (hdv : defaultValue (newarray.typeOf aty) = .int 0) {u : Int32} {cap : Nat} (hu : u.toInt = (n : Int)) (hcap : n ≤ cap) (hb8 : cap * 8 ≤ 536870912) (hc : cl + 1 ≤ R.cells) (hs : sl + cap ≤ R.slots)
    (hd : decode bytes pc = .ok (.newarray aty, 2)) (hp : pc + 2 = pc')
    (k : ∀ (T' : State) (h' : Heap) (a : Addr), a = h.size → n0 ≤ a → St K Z R y bytes maxL ret n0 T' h' (cl + 1) (sl + cap) → Ext h h' → AI Z h' a (newarray.typeOf aty) n (fun _ => 0) → Go K R n0 Q T' pc' L (.ref a :: st)) : Go K R n0 Q T pc L (.int u :: st) := by
  subst hp
  have hsz := S.size
  obtain ⟨⟨locs, X, hF⟩, e0, hn0, hx, hZ, hby, hml, hret, hlk, hown, hnm⟩ := S
  obtain ⟨T', h', cA, X', e', E, A, stp⟩ := newP X hx hZ w e0 (g := mkF K.m pc L (.int u :: st)) rfl (hb hby hd) rfl (nneg hu) (cap := cap) (by rw [clampI hu]; exact hcap) hb8 hc hs
  refine Go.step stp (k T' h' h.size rfl hsz ⟨⟨_, X', hF⟩, e', hn0, hx, hZ, hby, hml, hret, hlk, hown, hnm⟩ E ⟨_, A, by rw [sz_new, clampI hu], small hu, fun i hi => ⟨?_, ?_⟩⟩)
  · simp [newA, clampI hu, hi, hdv]
  · rw [← hdv]; cases aty <;> first | rfl | (simp [newarray.typeOf, defaultValue] at hdv)
theorem px_newarrJ (S : St K Z R y bytes maxL ret n0 T h cl sl) (w : (Jvm.Cond.arrayClass FieldType.long).before a0 Z = true) {u : Int32} {cap : Nat} (hu : u.toInt = (n : Int)) (hcap : n ≤ cap) (hb8 : cap * 8 ≤ 536870912) (hc : cl + 1 ≤ R.cells) (hs : sl + cap ≤ R.slots)
    (hd : decode bytes pc = .ok (.newarray .long, 2)) (hp : pc + 2 = pc')
    (k : ∀ (T' : State) (h' : Heap) (a : Addr), a = h.size → n0 ≤ a → St K Z R y bytes maxL ret n0 T' h' (cl + 1) (sl + cap) → Ext h h' → AJ Z h' a n (fun _ => 0) → Go K R n0 Q T' pc' L (.ref a :: st)) : Go K R n0 Q T pc L (.int u :: st) := by
  subst hp
  have hsz := S.size
  obtain ⟨⟨locs, X, hF⟩, e0, hn0, hx, hZ, hby, hml, hret, hlk, hown, hnm⟩ := S
  obtain ⟨T', h', cA, X', e', E, A, stp⟩ := newP X hx hZ (aty := .long) w e0 (g := mkF K.m pc L (.int u :: st)) rfl (hb hby hd) rfl (nneg hu) (cap := cap) (by rw [clampI hu]; exact hcap) hb8 hc hs
  refine Go.step stp (k T' h' h.size rfl hsz ⟨⟨_, X', hF⟩, e', hn0, hx, hZ, hby, hml, hret, hlk, hown, hnm⟩ E ⟨_, A, by rw [sz_new, clampI hu], small hu, fun i hi => ?_⟩)
  simp [newA, clampI hu, hi, defaultValue, newarray.typeOf]
theorem px_new {C : String} {idx k0 : Nat} (S : St K Z R y bytes maxL ret n0 T h cl sl) (w : (Jvm.Cond.classLink y.cls idx C).before a0 Z = true) (wi : (Jvm.Cond.instantiable C k0).before a0 Z = true) (wz : (Jvm.Cond.initialized C).before a0 Z = true) (hc : cl + 1 ≤ R.cells) (hs : sl + k0 ≤ R.slots) (hd : decode bytes pc = .ok (.new idx, 3)) (hp : pc + 3 = pc')
    (k : ∀ (T' : State) (h' : Heap) (a : Addr), a = h.size → n0 ≤ a → St K Z R y bytes maxL ret n0 T' h' (cl + 1) (sl + k0) → Ext h h' → Exa Z h' a C → (∀ {O nm d : String} {ty : FieldType}, Laid Z a0 C O nm d → parseFieldDescriptor d = some ty → Fld Z h' a O nm d (defaultValue ty)) → Go K R n0 Q T' pc' L (.ref a :: st)) : Go K R n0 Q T pc L st := by
  subst hp
  have hsz := S.size
  obtain ⟨⟨locs, X, hF⟩, e0, hn0, hx, hZ, hby, hml, hret, hlk, hown, hnm⟩ := S
  obtain ⟨T', h', X', e', E, A, D, -, stp⟩ := newO X hx hZ hown w wi wz e0 (g := mkF K.m pc L st) rfl (hb hby hd) hc hs
  exact Go.step stp (k T' h' h.size rfl hsz ⟨⟨_, X', hF⟩, e', hn0, hx, hZ, hby, hml, hret, hlk, hown, hnm⟩ E A (fun {O nm d ty} => D))
theorem px_getfield {C nm d : String} {idx : Nat} {v : Value} (S : St K Z R y bytes maxL ret n0 T h cl sl) (w : (Jvm.Cond.fieldLink y.cls idx C nm d).before a0 Z = true) (F : Fld Z h a C nm d v) (hd : decode bytes pc = .ok (.getfield idx, 3)) (hp : pc + 3 = pc')
    (k : ∀ (T' : State), St K Z R y bytes maxL ret n0 T' h cl sl → Go K R n0 Q T' pc' L (v :: st)) : Go K R n0 Q T pc L (.ref a :: st) := by
  subst hp
  obtain ⟨⟨locs, X, hF⟩, e0, hn0, hx, hZ, hby, hml, hret, hlk, hown, hnm⟩ := S
  obtain ⟨T', X', e', stp⟩ := getF X hx hZ hown (host := "") (Or.inl w) Via.refl e0 F (g := mkF K.m pc L (.ref a :: st)) rfl rfl (hb hby hd)
  exact Go.step stp (k T' ⟨⟨_, X', hF⟩, e', hn0, hx, hZ, hby, hml, hret, hlk, hown, hnm⟩)
theorem px_putfield {C nm d : String} {idx kk : Nat} {v v' old : Value} {ty : FieldType} (S : St K Z R y bytes maxL ret n0 T h cl sl) (w : (Jvm.Cond.fieldLink y.cls idx C nm d).before a0 Z = true) (F : Fld Z h a C nm d old) (E : Exa Z h a C) (ha : n0 ≤ a)
    (hl : (Jvm.Cond.lays C C nm d).before a0 Z = true ∨ ((Jvm.Cond.laysFinal C C nm d).before a0 Z = true ∧ y.cls = C ∧ y.name = "<init>")) (wi : (Jvm.Cond.instantiable C kk).before a0 Z = true) (hty : parseFieldDescriptor d = some ty) (hv : narrow ty v = v') (hf : fits ty v' = true) (hd : decode bytes pc = .ok (.putfield idx, 3)) (hp : pc + 3 = pc')
    (k : ∀ (T' : State) (h' : Heap), St K Z R y bytes maxL ret n0 T' h' cl sl → Wr h h' a (Jvm.RoadKit.slotOf Z C nm d) v' → Fld Z h' a C nm d v' → Exa Z h' a C → Go K R n0 Q T' pc' L st) : Go K R n0 Q T pc L (v :: .ref a :: st) := by
  subst hp
  obtain ⟨⟨locs, X, hF⟩, e0, hn0, hx, hZ, hby, hml, hret, hlk, hown, hnm⟩ := S
  obtain ⟨T', h', X', e', W, stp⟩ := putFN X hx hZ hown w Via.refl e0 F E (hl.imp id fun q => ⟨q.1, q.2.1, hnm.trans q.2.2⟩) wi hty hv hf (g := mkF K.m pc L (v :: .ref a :: st)) rfl rfl (hb hby hd)
  have hF' := Fr.snoc X' hF ha
  exact Go.step stp (k T' h' ⟨⟨_, X', hF'⟩, e', hn0, hx, hZ, hby, hml, hret, hlk, hown, hnm⟩ W (F.same W) (E.wr W))
theorem px_initO {idx W : Nat} (S : St K Z R y bytes maxL ret n0 T h cl sl) (w1 : (Jvm.Cond.methodLink y.cls idx Lib.objectInit).before a0 Z = true) (w2 : (Jvm.Cond.instanceMethod Lib.objectInit).before a0 Z = true) (w3 : (Jvm.Cond.code Lib.objectInit ⟨#[0xb1]⟩ 1 none).before a0 Z = true) (hL : L.size = maxL) (hfr : 1 ≤ R.frames) (hW : (st.map fun v => v.category).sum = W) (hlo : W + 12 ≤ R.locals) (hd : decode bytes pc = .ok (.invokespecial idx, 3)) (hp : pc + 3 = pc')
    (k : ∀ (T' : State), St K Z R y bytes maxL ret n0 T' h cl sl → Go K R n0 Q T' pc' L st) : Go K R n0 Q T pc L (.ref a :: st) := by
  subst hp
  obtain ⟨⟨locs, X, hF⟩, e0, hn0, hx, hZ, hby, hml, hret, hlk, hown, hnm⟩ := S
  obtain ⟨T', X', e', stp⟩ := initO X hx hZ hown w1 w2 w3 e0 (g := mkF K.m pc L (.ref a :: st)) rfl (hL.trans hml.symm) rfl (hb hby hd) hfr (W := W) (by show 2 * 0 + _ ≤ _; rw [hW]; omega) hlo
  exact Go.step stp (k T' ⟨⟨_, X', hF⟩, e', hn0, hx, hZ, hby, hml, hret, hlk, hown, hnm⟩)
theorem px_callS {y' : MethodName} {b' : ByteArray} {mx' : Nat} {rt' : Option FieldType} {rm : Room} {as' : List Value} {Q' : Option Value → Heap → Prop} {W idx : Nat} {ps : List FieldType} {rr : Option FieldType} (S : St K Z R y bytes maxL ret n0 T h cl sl) (C : Ctr Z n0 y' b' mx' rt' rm as' h Q') (w1 : (Jvm.Cond.methodLink y.cls idx y').before a0 Z = true) (w2 : (Jvm.Cond.static y').before a0 Z = true) (w3 : (Jvm.Cond.initialized y'.cls).before a0 Z = true) (w4 : (Jvm.Cond.code y' b' mx' rt').before a0 Z = true) (hy : y'.cls ≠ "java/lang/invoke/MethodHandle" ∧ y'.cls ≠ "java/lang/invoke/VarHandle")
    (hps : parseMethodDescriptor y'.desc = some ⟨ps, rr⟩) (hlen : as'.length = ps.length) (hL : L.size = maxL) (hfr : rm.frames + 1 ≤ R.frames) (hW : (st.map fun v => v.category).sum = W) (hlo : W + (mx' + 11) + rm.locals ≤ R.locals) (hc : cl + rm.cells ≤ R.cells) (hs : sl + rm.slots ≤ R.slots) (hd : decode bytes pc = .ok (.invokestatic idx, 3)) (hp : pc + 3 = pc') {stk : List Value} (hst : stk = as'.reverse ++ st)
    (k : ∀ (T' : State) (h' : Heap) (v : Option Value), St K Z R y bytes maxL ret n0 T' h' (cl + rm.cells) (sl + rm.slots) → Q' v h' → Go K R n0 Q T' pc' L (v.toList ++ st)) : Go K R n0 Q T pc L stk := by
  subst hp
  subst hst
  obtain ⟨⟨locs, X, hF⟩, e0, hn0, hx, hZ, hby, hml, hret, hlk, hown, hnm⟩ := S
  obtain ⟨v, _, ⟨T1, L1, c1, n1⟩, -, X1, ⟨Lc, hq, hl1, hc1, hs1⟩, stp⟩ := Jvm.LawKit.callS X hx (y := y') hown (mvT hZ w1) (mvT hZ w2) (mvT hZ w3) (mvT hZ w4) hy (backOf (Q := fun v h' L => Q' v h' ∧ Fr n0 L) (W := W) (C K.l []) hZ w4 w3 hfr hlo) (g := mkF K.m pc L (as'.reverse ++ st)) rfl (hL.trans hml.symm) (argsL := as') (rest := st) (lenOf hps hlen) rfl (by show 2 * 0 + _ ≤ _; rw [hW]; omega) (hb hby hd) (fun _ _ => ⟨rfl, e0, hc, hs⟩)
  dsimp only [Pt.U, Pt.locs, Pt.cells, Pt.slots] at X1 hl1 hc1 hs1 stp hq
  subst hl1 hc1 hs1
  obtain ⟨hq, hFc⟩ := hq
  exact Go.step stp (k T1 T1.heap v ⟨⟨_, X1, Fr.app hF hFc⟩, rfl, hn0, hx, hZ, hby, hml, hret, hlk, hown, hnm⟩ hq)
theorem Go.trans {T' : State} {st' : List Value} (hs : Steps K.p.tables K.e K.below (T.setTop (mkF K.m pc L st)) (T'.setTop (mkF K.m pc' L' st'))) (k : Go K R n0 Q T' pc' L' st') : Go K R n0 Q T pc L st := by
  obtain ⟨s₂, o, h1, r⟩ := k
  exact ⟨s₂, o, hs.trans h1, r⟩
theorem px_callC {y' : MethodName} {b' : ByteArray} {mx' : Nat} {rm : Room} {as' : List Value} {Q' : Option Value → Heap → Prop} {W idx : Nat} {ps : List FieldType} {rr : Option FieldType} (S : St K Z R y bytes maxL ret n0 T h cl sl) (C : Ctr Z n0 y' b' mx' none rm (.ref a :: as') h Q') (hin : y'.name = "<init>") (w1 : (Jvm.Cond.methodLink y.cls idx y').before a0 Z = true) (w2 : (Jvm.Cond.instanceMethod y').before a0 Z = true) (w3 : (Jvm.Cond.initialized y'.cls).before a0 Z = true) (w4 : (Jvm.Cond.code y' b' mx' none).before a0 Z = true) (hy : y'.cls ≠ "java/lang/invoke/MethodHandle" ∧ y'.cls ≠ "java/lang/invoke/VarHandle")
    (hps : parseMethodDescriptor y'.desc = some ⟨ps, rr⟩) (hlen : as'.length = ps.length) (hL : L.size = maxL) (hfr : rm.frames + 1 ≤ R.frames) (hW : (st.map fun v => v.category).sum = W) (hlo : W + (mx' + 11) + rm.locals ≤ R.locals) (hc : cl + rm.cells ≤ R.cells) (hs : sl + rm.slots ≤ R.slots) (hd : decode bytes pc = .ok (.invokespecial idx, 3)) (hp : pc + 3 = pc') {stk : List Value} (hst : stk = as'.reverse ++ .ref a :: st)
    (k : ∀ (T' : State) (h' : Heap) (v : Option Value), St K Z R y bytes maxL ret n0 T' h' (cl + rm.cells) (sl + rm.slots) → Q' v h' → Go K R n0 Q T' pc' L (v.toList ++ st)) : Go K R n0 Q T pc L stk := by
  subst hp
  subst hst
  obtain ⟨⟨locs, X, hF⟩, e0, hn0, hx, hZ, hby, hml, hret, hlk, hown, hnm⟩ := S
  obtain ⟨v, _, ⟨T1, L1, c1, n1⟩, -, X1, ⟨Lc, hq, hl1, hc1, hs1⟩, stp⟩ := X.specialBack hx (y := y') hin hown (mvT hZ w1) (mvT hZ w2) (mvT hZ w4) hy (backOf (Q := fun v h' L => Q' v h' ∧ Fr n0 L) (W := W) (C K.l []) hZ w4 w3 hfr hlo) (g := mkF K.m pc L (as'.reverse ++ .ref a :: st)) rfl (hL.trans hml.symm) (Steps.refl _) (a := a) (argsL := as') (rest := st) (lenOf hps hlen) rfl (by show 2 * 0 + _ ≤ _; rw [hW]; omega) (hb hby hd) (fun _ _ => ⟨rfl, e0, hc, hs⟩)
  dsimp only [Pt.U, Pt.locs, Pt.cells, Pt.slots] at X1 hl1 hc1 hs1 stp hq
  subst hl1 hc1 hs1
  obtain ⟨hq, hFc⟩ := hq
  exact Go.trans stp (k T1 T1.heap v ⟨⟨_, X1, Fr.app hF hFc⟩, rfl, hn0, hx, hZ, hby, hml, hret, hlk, hown, hnm⟩ hq)
theorem px_callV {y' : MethodName} {b' : ByteArray} {mx' : Nat} {rt' : Option FieldType} {rm : Room} {as' : List Value} {Q' : Option Value → Heap → Prop} {W idx : Nat} {ps : List FieldType} {rr : Option FieldType} {Cn : String} (S : St K Z R y bytes maxL ret n0 T h cl sl) (C : Ctr Z n0 y' b' mx' rt' rm (.ref a :: as') h Q') (E : Exa Z h a Cn) (w1 : (Jvm.Cond.methodLink y.cls idx y').before a0 Z = true) (w2 : (Jvm.Cond.declares y').before a0 Z = true) (w5 : (Jvm.Cond.selects Cn y' y').before a0 Z = true) (w6 : (Jvm.Cond.instanceMethod y').before a0 Z = true) (w3 : (Jvm.Cond.initialized y'.cls).before a0 Z = true) (w4 : (Jvm.Cond.code y' b' mx' rt').before a0 Z = true) (hnf : NotFace K.s y') (hy : y'.cls ≠ "java/lang/invoke/MethodHandle" ∧ y'.cls ≠ "java/lang/invoke/VarHandle")
    (hps : parseMethodDescriptor y'.desc = some ⟨ps, rr⟩) (hlen : as'.length = ps.length) (hL : L.size = maxL) (hfr : rm.frames + 1 ≤ R.frames) (hW : (st.map fun v => v.category).sum = W) (hlo : W + (mx' + 11) + rm.locals ≤ R.locals) (hc : cl + rm.cells ≤ R.cells) (hs : sl + rm.slots ≤ R.slots) (hd : decode bytes pc = .ok (.invokevirtual idx, 3)) (hp : pc + 3 = pc') {stk : List Value} (hst : stk = as'.reverse ++ .ref a :: st)
    (k : ∀ (T' : State) (h' : Heap) (v : Option Value), St K Z R y bytes maxL ret n0 T' h' (cl + rm.cells) (sl + rm.slots) → Q' v h' → Go K R n0 Q T' pc' L (v.toList ++ st)) : Go K R n0 Q T pc L stk := by
  subst hp
  subst hst
  obtain ⟨⟨locs, X, hF⟩, e0, hn0, hx, hZ, hby, hml, hret, hlk, hown, hnm⟩ := S
  obtain ⟨cq, kq, qa, qb, qc⟩ := isOf hZ e0 E
  obtain ⟨v, _, ⟨T1, L1, c1, n1⟩, -, X1, ⟨Lc, hq, hl1, hc1, hs1⟩, stp⟩ := X.virtualBack hx (y := y') (z := y') hown (mvT hZ w1) (mvT hZ w2) hnf (mvT hZ w5) (mvT hZ w6) hy (backOf (Q := fun v h' L => Q' v h' ∧ Fr n0 L) (W := W) (C K.l []) hZ w4 w3 hfr hlo) qa qc (g := mkF K.m pc L (as'.reverse ++ .ref a :: st)) rfl (hL.trans hml.symm) (Steps.refl _) (argsL := as') (rest := st) (lenOf hps hlen) rfl (by show 2 * 0 + _ ≤ _; rw [hW]; omega) (hb hby hd) (fun _ _ => ⟨rfl, e0, hc, hs⟩)
  dsimp only [Pt.U, Pt.locs, Pt.cells, Pt.slots] at X1 hl1 hc1 hs1 stp hq
  subst hl1 hc1 hs1
  obtain ⟨hq, hFc⟩ := hq
  exact Go.trans stp (k T1 T1.heap v ⟨⟨_, X1, Fr.app hF hFc⟩, rfl, hn0, hx, hZ, hby, hml, hret, hlk, hown, hnm⟩ hq)
theorem px_callI {y' : MethodName} {b' : ByteArray} {mx' : Nat} {rt' : Option FieldType} {rm : Room} {as' : List Value} {Q' : Option Value → Heap → Prop} {W idx : Nat} {ps : List FieldType} {rr : Option FieldType} {Cn : String} {xi : MethodName} {count : Nat} (S : St K Z R y bytes maxL ret n0 T h cl sl) (C : Ctr Z n0 y' b' mx' rt' rm (.ref a :: as') h Q') (E : Exa Z h a Cn) (w1 : (Jvm.Cond.methodLink y.cls idx xi).before a0 Z = true) (w2 : (Jvm.Cond.declares xi).before a0 Z = true) (w7 : (Jvm.Cond.interfaceMethod xi.cls xi.cls xi.name xi.desc).before a0 Z = true) (hface : ((Jvm.Cond.interfaceMethod xi.cls xi.cls xi.name xi.desc).onTables && (Jvm.Cond.interfaceMethod xi.cls xi.cls xi.name xi.desc).keepsFace) = true) (w5 : (Jvm.Cond.selects Cn xi y').before a0 Z = true) (w6 : (Jvm.Cond.instanceMethod y').before a0 Z = true) (w8 : (Jvm.Cond.publicMethod y').before a0 Z = true) (w9 : (Jvm.Cond.unhidden Cn xi.name xi.desc).before a0 Z = true) (w10 : (Jvm.Cond.castable Cn xi.cls).before a0 Z = true) (w3 : (Jvm.Cond.initialized y'.cls).before a0 Z = true) (w4 : (Jvm.Cond.code y' b' mx' rt').before a0 Z = true) (hy : xi.cls ≠ "java/lang/invoke/MethodHandle" ∧ xi.cls ≠ "java/lang/invoke/VarHandle")
    (hps : parseMethodDescriptor xi.desc = some ⟨ps, rr⟩) (hlen : as'.length = ps.length) (hL : L.size = maxL) (hfr : rm.frames + 1 ≤ R.frames) (hW : (st.map fun v => v.category).sum = W) (hlo : W + (mx' + 11) + rm.locals ≤ R.locals) (hc : cl + rm.cells ≤ R.cells) (hs : sl + rm.slots ≤ R.slots) (hd : decode bytes pc = .ok (.invokeinterface idx count, 5)) (hp : pc + 5 = pc') {stk : List Value} (hst : stk = as'.reverse ++ .ref a :: st)
    (k : ∀ (T' : State) (h' : Heap) (v : Option Value), St K Z R y bytes maxL ret n0 T' h' (cl + rm.cells) (sl + rm.slots) → Q' v h' → Go K R n0 Q T' pc' L (v.toList ++ st)) : Go K R n0 Q T pc L stk := by
  subst hp
  subst hst
  obtain ⟨⟨locs, X, hF⟩, e0, hn0, hx, hZ, hby, hml, hret, hlk, hown, hnm⟩ := S
  obtain ⟨cq, kq, qa, qb, qc⟩ := isOf hZ e0 E
  obtain ⟨v, _, ⟨T1, L1, c1, n1⟩, -, X1, ⟨Lc, hq, hl1, hc1, hs1⟩, stp⟩ := X.interfaceBack hx (xi := xi) (y := y') hown (mvT hZ w1) (mvT hZ w2) (mvT hZ w7 hface) (mvT hZ w5) (mvT hZ w6) (mvT hZ w8) (mvT hZ w9) (mvT hZ w10) hy (backOf (Q := fun v h' L => Q' v h' ∧ Fr n0 L) (W := W) (C K.l []) hZ w4 w3 hfr hlo) qa qb qc (g := mkF K.m pc L (as'.reverse ++ .ref a :: st)) rfl (hL.trans hml.symm) (Steps.refl _) (argsL := as') (rest := st) (lenOf hps hlen) rfl (by show 2 * 0 + _ ≤ _; rw [hW]; omega) (hb hby hd) (fun _ _ => ⟨rfl, e0, hc, hs⟩)
  dsimp only [Pt.U, Pt.locs, Pt.cells, Pt.slots] at X1 hl1 hc1 hs1 stp hq
  subst hl1 hc1 hs1
  obtain ⟨hq, hFc⟩ := hq
  exact Go.trans stp (k T1 T1.heap v ⟨⟨_, X1, Fr.app hF hFc⟩, rfl, hn0, hx, hZ, hby, hml, hret, hlk, hown, hnm⟩ hq)
theorem St.nf {y' : MethodName} (S : St K Z R y bytes maxL ret n0 T h cl sl) (w : (Jvm.Cond.selects y'.cls y' y').before a0 Z = true) : NotFace K.s y' := by
  obtain ⟨⟨locs, X, hF⟩, e0, hn0, hx, hZ, hby, hml, hret, hlk, hown, hnm⟩ := S
  exact notFace_of_selects (args := #[]) (mvT hZ w)
theorem px_lsw (S : St K Z R y bytes maxL ret n0 T h cl sl) {df o : Int} {ps : Array (Int × Int)} {pl : List (Int × Int)} {ln : Nat} {u : Int32} (hd : decode bytes pc = .ok (.lookupswitch df ps, ln)) (hpl : ps.toList = pl) (hm : (pl.zip (pl.drop 1)).all (fun (a, next) => a.1 < next.1) = true) (hu : lookupswitch.offset pl df u.toInt = o) (ho : 0 ≤ (pc : Int) + o) (hp : ((pc : Int) + o).toNat = pc') (k : Go K R n0 Q T pc' L st) : Go K R n0 Q T pc L (.int u :: st) := by
  subst hp
  subst hpl
  obtain ⟨⟨locs, X, hF⟩, e0, hn0, hx, hZ, hby, hml, hret, hlk, hown, hnm⟩ := S
  refine Go.step (fun _ t => ?_) k
  have hd' := hb hby hd
  show Steps K.p.tables K.e K.below (T.setTop { method := K.m, pc := pc, locals := L, stack := .int u :: st, locked := none }) _
  jvm_step X.here [X.here.top, hx, hd', lookupswitch.wp_chain, hu, ho]
  exact ⟨by simpa using hm, t⟩
theorem Go.join {α : Type} {P : α → Prop} {pcj : Nat} {Lj : α → Array Slot} {stj : α → List Value} (h1 : ∀ x, P x → Go K R n0 Q T pcj (Lj x) (stj x)) (h2 : (∀ x, P x → Go K R n0 Q T pcj (Lj x) (stj x)) → Go K R n0 Q T pc L st) : Go K R n0 Q T pc L st := h2 h1
theorem Go.joinT {α : Type} {P : α → Prop} {pcj cl' sl' : Nat} {Lj : α → Array Slot} {stj : α → List Value} (S : St K Z R y bytes maxL ret n0 T h cl sl) (h1 : ∀ (x : α) (T' : State), St K Z R y bytes maxL ret n0 T' h cl' sl' → P x → Go K R n0 Q T' pcj (Lj x) (stj x)) (h2 : (∀ (x : α) (T' : State), St K Z R y bytes maxL ret n0 T' h cl' sl' → P x → Go K R n0 Q T' pcj (Lj x) (stj x)) → Go K R n0 Q T pc L st) : Go K R n0 Q T pc L st := h2 h1
theorem Go.joinH {α : Type} {P : α → Heap → Prop} {pcj cl' sl' : Nat} {Lj : α → Array Slot} {stj : α → List Value} (S : St K Z R y bytes maxL ret n0 T h cl sl) (h1 : ∀ (x : α) (T' : State) (h' : Heap), St K Z R y bytes maxL ret n0 T' h' cl' sl' → P x h' → Go K R n0 Q T' pcj (Lj x) (stj x)) (h2 : (∀ (x : α) (T' : State) (h' : Heap), St K Z R y bytes maxL ret n0 T' h' cl' sl' → P x h' → Go K R n0 Q T' pcj (Lj x) (stj x)) → Go K R n0 Q T pc L st) : Go K R n0 Q T pc L st := h2 h1
theorem Go.loopH {α : Type} {Inv : Nat → α → Heap → Prop} {pcj cl' sl' : Nat} {Lj : α → Array Slot} {stj : α → List Value} (S : St K Z R y bytes maxL ret n0 T h cl sl)
    (h1 : ∀ k, (∀ j, j < k → ∀ (x : α) (T' : State) (h' : Heap), St K Z R y bytes maxL ret n0 T' h' cl' sl' → Inv j x h' → Go K R n0 Q T' pcj (Lj x) (stj x)) → ∀ (x : α) (T' : State) (h' : Heap), St K Z R y bytes maxL ret n0 T' h' cl' sl' → Inv k x h' → Go K R n0 Q T' pcj (Lj x) (stj x))
    (h2 : (∀ (k : Nat) (x : α) (T' : State) (h' : Heap), St K Z R y bytes maxL ret n0 T' h' cl' sl' → Inv k x h' → Go K R n0 Q T' pcj (Lj x) (stj x)) → Go K R n0 Q T pc L st) : Go K R n0 Q T pc L st := h2 (fun k => Nat.strongRecOn k h1)
theorem i32_of {x y : Int32} {n : Int} (h : x.toInt = n) (hy : y.toInt = n) : x = y := Int32.toInt_inj.mp (h.trans hy.symm)
theorem i64_of {x y : Int64} {n : Int} (h : x.toInt = n) (hy : y.toInt = n) : x = y := Int64.toInt_inj.mp (h.trans hy.symm)
theorem ne_new {a b n : Nat} (e : a = n) (h : b < n) : b ≠ a := by omega
theorem f_imul (x y : Int32) (n : Int) (hy : y.toInt = n) : ((x * y).toInt - x.toInt * n) % 4294967296 = 0 := by rw [← hy]; exact c_imul x y
theorem f_imul' (x y : Int32) (n : Int) (hx : x.toInt = n) : ((x * y).toInt - n * y.toInt) % 4294967296 = 0 := by rw [← hx]; exact c_imul x y
theorem f_lmul (x y : Int64) (n : Int) (hy : y.toInt = n) : ((x * y).toInt - x.toInt * n) % 18446744073709551616 = 0 := by rw [← hy]; exact c_lmul x y
theorem f_lmul' (x y : Int64) (n : Int) (hx : x.toInt = n) : ((x * y).toInt - n * y.toInt) % 18446744073709551616 = 0 := by rw [← hx]; exact c_lmul x y
theorem f_imask (x m : Int32) (k : Nat) (P : Int) (hk : k ≤ 31) (hm : m.toBitVec.toNat = 2 ^ k - 1) (hP : ((2 ^ k : Nat) : Int) = P) : (x &&& m).toInt = x.toInt % P := by rw [← hP]; exact c_mask x m k hk hm
theorem f_imask' (m x : Int32) (k : Nat) (P : Int) (hk : k ≤ 31) (hm : m.toBitVec.toNat = 2 ^ k - 1) (hP : ((2 ^ k : Nat) : Int) = P) : (m &&& x).toInt = x.toInt % P := by rw [Int32.and_comm]; exact f_imask x m k P hk hm hP
theorem f_lmask (x m : Int64) (k : Nat) (P : Int) (hk : k ≤ 63) (hm : m.toBitVec.toNat = 2 ^ k - 1) (hP : ((2 ^ k : Nat) : Int) = P) : (x &&& m).toInt = x.toInt % P := by rw [← hP]; exact c_maskL x m k hk hm
theorem f_lmask' (m x : Int64) (k : Nat) (P : Int) (hk : k ≤ 63) (hm : m.toBitVec.toNat = 2 ^ k - 1) (hP : ((2 ^ k : Nat) : Int) = P) : (m &&& x).toInt = x.toInt % P := by rw [Int64.and_comm]; exact f_lmask x m k P hk hm hP
theorem f_ishl (x q : Int32) (k : Nat) (P : Int) (hk : q.toBitVec.toNat % 32 = k) (hP : ((2 ^ k : Nat) : Int) = P) : ((x <<< (q &&& 31)).toInt - x.toInt * P) % 4294967296 = 0 := by rw [← hP]; exact c_ishl x q k hk
theorem f_ishr (x q : Int32) (k : Nat) (P : Int) (hk : q.toBitVec.toNat % 32 = k) (hP : ((2 ^ k : Nat) : Int) = P) : (x >>> (q &&& 31)).toInt = x.toInt / P := by rw [← hP]; exact c_ishr x q k hk
theorem f_iushr (x q : Int32) (k : Nat) (P : Int) (hk : q.toBitVec.toNat % 32 = k) (h0 : 0 < k) (hP : ((2 ^ k : Nat) : Int) = P) : (ushr x q).toInt = (x.toInt % 4294967296) / P := by rw [← hP]; exact c_iushr x q k hk h0
theorem f_lshl (x : Int64) (q : Int32) (k : Nat) (P : Int) (hk : q.toBitVec.toNat % 64 = k) (hP : ((2 ^ k : Nat) : Int) = P) : ((x <<< (q &&& 0x3f).toInt64).toInt - x.toInt * P) % 18446744073709551616 = 0 := by rw [← hP]; exact c_lshl x q k hk
theorem f_lshr (x : Int64) (q : Int32) (k : Nat) (P : Int) (hk : q.toBitVec.toNat % 64 = k) (hP : ((2 ^ k : Nat) : Int) = P) : (x >>> (q &&& 0x3f).toInt64).toInt = x.toInt / P := by rw [← hP]; exact c_lshr x q k hk
theorem f_lushr (x : Int64) (q : Int32) (k : Nat) (P : Int) (hk : q.toBitVec.toNat % 64 = k) (h0 : 0 < k) (hP : ((2 ^ k : Nat) : Int) = P) : (ushrL x q).toInt = (x.toInt % 18446744073709551616) / P := by rw [← hP]; exact c_lushr x q k hk h0
theorem f_idiv (x y : Int32) (d : Int) (hy : y.toInt = d) (hd : y ≠ -1) : (0 ≤ x.toInt → (x / y).toInt = x.toInt / d) ∧ (x.toInt < 0 → (x / y).toInt = -((-x.toInt) / d)) := c_idiv x y d hy hd
theorem f_irem (x y : Int32) (d : Int) (hy : y.toInt = d) : (0 ≤ x.toInt → (x % y).toInt = x.toInt % d) ∧ (x.toInt < 0 → (x % y).toInt = -((-x.toInt) % d)) := c_irem x y d hy
theorem f_ldiv (x y : Int64) (d : Int) (hy : y.toInt = d) (hd : y ≠ -1) : (0 ≤ x.toInt → (x / y).toInt = x.toInt / d) ∧ (x.toInt < 0 → (x / y).toInt = -((-x.toInt) / d)) := c_ldiv x y d hy hd
theorem f_i2b (x : Int32) : ((i2b x).toInt - x.toInt) % 256 = 0 ∧ -128 ≤ (i2b x).toInt ∧ (i2b x).toInt < 128 := c_i2b x
theorem f_i2s (x : Int32) : ((i2s x).toInt - x.toInt) % 65536 = 0 ∧ -32768 ≤ (i2s x).toInt ∧ (i2s x).toInt < 32768 := c_i2s x
theorem f_i2c (x : Int32) : ((i2c x).toInt - x.toInt) % 65536 = 0 ∧ 0 ≤ (i2c x).toInt ∧ (i2c x).toInt < 65536 := c_i2c x
theorem x_iadd {a b : Int32} {la ha lb hb : Int} (p : la ≤ a.toInt ∧ a.toInt ≤ ha) (q : lb ≤ b.toInt ∧ b.toInt ≤ hb) (h1 : -2147483648 ≤ la + lb) (h2 : ha + hb < 2147483648) : (a + b).toInt = a.toInt + b.toInt := by have r := c_iadd a b; have s := rng32 (a + b); omega
theorem x_isub {a b : Int32} {la ha lb hb : Int} (p : la ≤ a.toInt ∧ a.toInt ≤ ha) (q : lb ≤ b.toInt ∧ b.toInt ≤ hb) (h1 : -2147483648 ≤ la - hb) (h2 : ha - lb < 2147483648) : (a - b).toInt = a.toInt - b.toInt := by have r := c_isub a b; have s := rng32 (a - b); omega
theorem x_imask {a m : Int32} {P : Int} (k : Nat) (hk : k ≤ 32 - 1) (hm : m.toBitVec.toNat = 2 ^ k - 1) (hP : ((2 ^ k : Nat) : Int) = P) : (a &&& m).toInt = a.toInt % P := f_imask a m k P hk hm hP
theorem x_ineg {a : Int32} {la ha : Int} (p : la ≤ a.toInt ∧ a.toInt ≤ ha) (h1 : -2147483648 < la) : (-a).toInt = -a.toInt := by have r := c_ineg a; have s := rng32 (-a); have t := rng32 a; omega
theorem x_ishr {x : Int32} {q : Int32} {P : Int} (k : Nat) (hk : q.toBitVec.toNat % 32 = k) (hP : ((2 ^ k : Nat) : Int) = P) : (x >>> (q &&& 31)).toInt = x.toInt / P := f_ishr x q k P hk hP
theorem x_iushr {x : Int32} {q : Int32} {P la ha : Int} (p : la ≤ x.toInt ∧ x.toInt ≤ ha) (h1 : 0 ≤ la) (k : Nat) (hk : q.toBitVec.toNat % 32 = k) (h0 : 0 < k) (hP : ((2 ^ k : Nat) : Int) = P) : (ushr x q).toInt = x.toInt / P := by
  have r := f_iushr x q k P hk h0 hP
  have s := rng32 x
  rw [r]; congr 1; omega
theorem x_imul {a b : Int32} {la ha n : Int} (p : la ≤ a.toInt ∧ a.toInt ≤ ha) (hn : b.toInt = n) (h0 : 0 ≤ n) (h1 : -2147483648 ≤ la * n) (h2 : ha * n < 2147483648) : (a * b).toInt = a.toInt * n := by
  have r := f_imul a b n hn
  have s := rng32 (a * b)
  have m1 := Int.mul_le_mul_of_nonneg_right p.1 h0
  have m2 := Int.mul_le_mul_of_nonneg_right p.2 h0
  generalize a.toInt * n = z at *
  generalize la * n = z1 at *
  generalize ha * n = z2 at *
  omega
theorem x_imulN {a b : Int32} {la ha n : Int} (p : la ≤ a.toInt ∧ a.toInt ≤ ha) (hn : b.toInt = n) (h0 : n ≤ 0) (h1 : -2147483648 ≤ ha * n) (h2 : la * n < 2147483648) : (a * b).toInt = a.toInt * n := by
  have r := f_imul a b n hn
  have s := rng32 (a * b)
  have m1 := Int.mul_le_mul_of_nonpos_right p.1 h0
  have m2 := Int.mul_le_mul_of_nonpos_right p.2 h0
  generalize a.toInt * n = z at *
  generalize la * n = z1 at *
  generalize ha * n = z2 at *
  omega
theorem x_imulN' {a b : Int32} {la ha n : Int} (p : la ≤ b.toInt ∧ b.toInt ≤ ha) (hn : a.toInt = n) (h0 : n ≤ 0) (h1 : -2147483648 ≤ ha * n) (h2 : la * n < 2147483648) : (a * b).toInt = b.toInt * n := by
  rw [Int32.mul_comm]; exact x_imulN p hn h0 h1 h2
theorem x_imul' {a b : Int32} {la ha n : Int} (p : la ≤ b.toInt ∧ b.toInt ≤ ha) (hn : a.toInt = n) (h0 : 0 ≤ n) (h1 : -2147483648 ≤ la * n) (h2 : ha * n < 2147483648) : (a * b).toInt = b.toInt * n := by
  rw [Int32.mul_comm]; exact x_imul p hn h0 h1 h2
theorem x_ladd {a b : Int64} {la ha lb hb : Int} (p : la ≤ a.toInt ∧ a.toInt ≤ ha) (q : lb ≤ b.toInt ∧ b.toInt ≤ hb) (h1 : -9223372036854775808 ≤ la + lb) (h2 : ha + hb < 9223372036854775808) : (a + b).toInt = a.toInt + b.toInt := by have r := c_ladd a b; have s := rng64 (a + b); omega
theorem x_lsub {a b : Int64} {la ha lb hb : Int} (p : la ≤ a.toInt ∧ a.toInt ≤ ha) (q : lb ≤ b.toInt ∧ b.toInt ≤ hb) (h1 : -9223372036854775808 ≤ la - hb) (h2 : ha - lb < 9223372036854775808) : (a - b).toInt = a.toInt - b.toInt := by have r := c_lsub a b; have s := rng64 (a - b); omega
theorem x_lmask {a m : Int64} {P : Int} (k : Nat) (hk : k ≤ 64 - 1) (hm : m.toBitVec.toNat = 2 ^ k - 1) (hP : ((2 ^ k : Nat) : Int) = P) : (a &&& m).toInt = a.toInt % P := f_lmask a m k P hk hm hP
theorem x_lneg {a : Int64} {la ha : Int} (p : la ≤ a.toInt ∧ a.toInt ≤ ha) (h1 : -9223372036854775808 < la) : (-a).toInt = -a.toInt := by have r := c_lneg a; have s := rng64 (-a); have t := rng64 a; omega
theorem x_lshr {x : Int64} {q : Int32} {P : Int} (k : Nat) (hk : q.toBitVec.toNat % 64 = k) (hP : ((2 ^ k : Nat) : Int) = P) : (x >>> (q &&& 0x3f).toInt64).toInt = x.toInt / P := f_lshr x q k P hk hP
theorem x_lushr {x : Int64} {q : Int32} {P la ha : Int} (p : la ≤ x.toInt ∧ x.toInt ≤ ha) (h1 : 0 ≤ la) (k : Nat) (hk : q.toBitVec.toNat % 64 = k) (h0 : 0 < k) (hP : ((2 ^ k : Nat) : Int) = P) : (ushrL x q).toInt = x.toInt / P := by
  have r := f_lushr x q k P hk h0 hP
  have s := rng64 x
  rw [r]; congr 1; omega
theorem x_lmul {a b : Int64} {la ha n : Int} (p : la ≤ a.toInt ∧ a.toInt ≤ ha) (hn : b.toInt = n) (h0 : 0 ≤ n) (h1 : -9223372036854775808 ≤ la * n) (h2 : ha * n < 9223372036854775808) : (a * b).toInt = a.toInt * n := by
  have r := f_lmul a b n hn
  have s := rng64 (a * b)
  have m1 := Int.mul_le_mul_of_nonneg_right p.1 h0
  have m2 := Int.mul_le_mul_of_nonneg_right p.2 h0
  generalize a.toInt * n = z at *
  generalize la * n = z1 at *
  generalize ha * n = z2 at *
  omega
theorem x_lmulN {a b : Int64} {la ha n : Int} (p : la ≤ a.toInt ∧ a.toInt ≤ ha) (hn : b.toInt = n) (h0 : n ≤ 0) (h1 : -9223372036854775808 ≤ ha * n) (h2 : la * n < 9223372036854775808) : (a * b).toInt = a.toInt * n := by
  have r := f_lmul a b n hn
  have s := rng64 (a * b)
  have m1 := Int.mul_le_mul_of_nonpos_right p.1 h0
  have m2 := Int.mul_le_mul_of_nonpos_right p.2 h0
  generalize a.toInt * n = z at *
  generalize la * n = z1 at *
  generalize ha * n = z2 at *
  omega
theorem x_lmulN' {a b : Int64} {la ha n : Int} (p : la ≤ b.toInt ∧ b.toInt ≤ ha) (hn : a.toInt = n) (h0 : n ≤ 0) (h1 : -9223372036854775808 ≤ ha * n) (h2 : la * n < 9223372036854775808) : (a * b).toInt = b.toInt * n := by
  rw [Int64.mul_comm]; exact x_lmulN p hn h0 h1 h2
theorem x_lmul' {a b : Int64} {la ha n : Int} (p : la ≤ b.toInt ∧ b.toInt ≤ ha) (hn : a.toInt = n) (h0 : 0 ≤ n) (h1 : -9223372036854775808 ≤ la * n) (h2 : ha * n < 9223372036854775808) : (a * b).toInt = b.toInt * n := by
  rw [Int64.mul_comm]; exact x_lmul p hn h0 h1 h2
theorem ib_add {a b la ha lb hb lo hi : Int} (p : la ≤ a ∧ a ≤ ha) (q : lb ≤ b ∧ b ≤ hb) (h1 : lo ≤ la + lb) (h2 : ha + hb ≤ hi) : lo ≤ a + b ∧ a + b ≤ hi := by omega
theorem ib_sub {a b la ha lb hb lo hi : Int} (p : la ≤ a ∧ a ≤ ha) (q : lb ≤ b ∧ b ≤ hb) (h1 : lo ≤ la - hb) (h2 : ha - lb ≤ hi) : lo ≤ a - b ∧ a - b ≤ hi := by omega
theorem ib_neg {a la ha lo hi : Int} (p : la ≤ a ∧ a ≤ ha) (h1 : lo ≤ -ha) (h2 : -la ≤ hi) : lo ≤ -a ∧ -a ≤ hi := by omega
theorem ib_mod {a lo hi : Int} (P : Int) (hP : 0 < P) (h1 : lo ≤ 0) (h2 : P - 1 ≤ hi) : lo ≤ a % P ∧ a % P ≤ hi := by have := Int.emod_nonneg a (Int.ne_of_gt hP); have := Int.emod_lt_of_pos a hP; omega
theorem ib_div {a la ha lo hi : Int} (P : Int) (hP : 0 < P) (p : la ≤ a ∧ a ≤ ha) (h1 : lo ≤ la / P) (h2 : ha / P ≤ hi) : lo ≤ a / P ∧ a / P ≤ hi := ⟨Int.le_trans h1 (Int.ediv_le_ediv hP p.1), Int.le_trans (Int.ediv_le_ediv hP p.2) h2⟩
theorem ib_mul {a la ha lo hi : Int} (n : Int) (h0 : 0 ≤ n) (p : la ≤ a ∧ a ≤ ha) (h1 : lo ≤ la * n) (h2 : ha * n ≤ hi) : lo ≤ a * n ∧ a * n ≤ hi := ⟨Int.le_trans h1 (Int.mul_le_mul_of_nonneg_right p.1 h0), Int.le_trans (Int.mul_le_mul_of_nonneg_right p.2 h0) h2⟩
theorem ib_mulN {a la ha lo hi : Int} (n : Int) (h0 : n ≤ 0) (p : la ≤ a ∧ a ≤ ha) (h1 : lo ≤ ha * n) (h2 : la * n ≤ hi) : lo ≤ a * n ∧ a * n ≤ hi := ⟨Int.le_trans h1 (Int.mul_le_mul_of_nonpos_right p.2 h0), Int.le_trans (Int.mul_le_mul_of_nonpos_right p.1 h0) h2⟩
theorem x_idiv {a b : Int32} {la ha d : Int} (p : la ≤ a.toInt ∧ a.toInt ≤ ha) (hy : b.toInt = d) (h0 : 0 ≤ la) (hd : b ≠ -1) : (a / b).toInt = a.toInt / d := (c_idiv a b d hy hd).1 (Int.le_trans h0 p.1)
theorem x_irem {a b : Int32} {la ha d : Int} (p : la ≤ a.toInt ∧ a.toInt ≤ ha) (hy : b.toInt = d) (h0 : 0 ≤ la) : (a % b).toInt = a.toInt % d := (c_irem a b d hy).1 (Int.le_trans h0 p.1)
theorem x_iremV {a b : Int32} {la ha lb hb : Int} (p : la ≤ a.toInt ∧ a.toInt ≤ ha) (q : lb ≤ b.toInt ∧ b.toInt ≤ hb) (h0 : 0 ≤ la) (h1 : 0 < lb) : 0 ≤ (a % b).toInt ∧ (a % b).toInt < b.toInt := by
  have r := (c_iremV a b).1 (Int.le_trans h0 p.1) (Int.lt_of_lt_of_le h1 q.1)
  exact ⟨r.1, r.2.1⟩
theorem ib_rem {r y lb hb hi : Int} (x : 0 ≤ r ∧ r < y) (q : lb ≤ y ∧ y ≤ hb) (h : hb - 1 ≤ hi) : 0 ≤ r ∧ r ≤ hi := by omega
theorem rb32 (x : Int32) : -2147483648 ≤ x.toInt ∧ x.toInt ≤ 2147483647 := by have := rng32 x; omega
theorem rb64 (x : Int64) : -9223372036854775808 ≤ x.toInt ∧ x.toInt ≤ 9223372036854775807 := by have := rng64 x; omega
theorem x_l2i {x : Int64} {la ha : Int} (p : la ≤ x.toInt ∧ x.toInt ≤ ha) (h1 : -2147483648 ≤ la) (h2 : ha < 2147483648) : x.toInt32.toInt = x.toInt := by have r := c_l2i x; have s := rng32 x.toInt32; omega
end Kit
end Jvm.OwnK
namespace Jvm.OwnK
open Sem ClassFile Op Lib Jvm.Stand Jvm.Free Jvm.LawKit Jvm.RoadKit
section Kit4
variable {K : Ctx} {Z : State} {R : Room} {y : MethodName} {bytes : ByteArray} {maxL : Nat} {ret : Option FieldType} {n0 : Nat} {T : State} {h : Heap} {cl sl : Nat} {Q : Option Value → Heap → Prop} {pc pc' : Nat} {L L' : Array Slot} {st : List Value} {a0 : Array Value} {h' : Heap} {a b : Addr} {ty : FieldType} {n m : Nat}
/-- a private method called by invokevirtual; yp: another method of the class of which the sheet has the word selects (so the class is no interface) -/
theorem px_callP {y' : MethodName} {b' : ByteArray} {mx' : Nat} {rt' : Option FieldType} {rm : Room} {as' : List Value} {Q' : Option Value → Heap → Prop} {W idx : Nat} {ps : List FieldType} {rr : Option FieldType} {Cn : String} {yp : MethodName} (S : St K Z R y bytes maxL ret n0 T h cl sl) (C : Ctr Z n0 y' b' mx' rt' rm (.ref a :: as') h Q') (E : Exa Z h a Cn) (w1 : (Jvm.Cond.methodLink y.cls idx y').before a0 Z = true) (w6 : (Jvm.Cond.instanceMethod y').before a0 Z = true) (wp : (Jvm.Cond.privateMethod y').before a0 Z = true) (ws : (Jvm.Cond.selects yp.cls yp yp).before a0 Z = true) (hcc : yp.cls = y'.cls) (w3 : (Jvm.Cond.initialized y'.cls).before a0 Z = true) (w4 : (Jvm.Cond.code y' b' mx' rt').before a0 Z = true) (hy : y'.cls ≠ "java/lang/invoke/MethodHandle" ∧ y'.cls ≠ "java/lang/invoke/VarHandle")
    (hps : parseMethodDescriptor y'.desc = some ⟨ps, rr⟩) (hlen : as'.length = ps.length) (hL : L.size = maxL) (hfr : rm.frames + 1 ≤ R.frames) (hW : (st.map fun v => v.category).sum = W) (hlo : W + (mx' + 11) + rm.locals ≤ R.locals) (hc : cl + rm.cells ≤ R.cells) (hs : sl + rm.slots ≤ R.slots) (hd : decode bytes pc = .ok (.invokevirtual idx, 3)) (hp : pc + 3 = pc') {stk : List Value} (hst : stk = as'.reverse ++ .ref a :: st)
    (k : ∀ (T' : State) (h' : Heap) (v : Option Value), St K Z R y bytes maxL ret n0 T' h' (cl + rm.cells) (sl + rm.slots) → Q' v h' → Go K R n0 Q T' pc' L (v.toList ++ st)) : Go K R n0 Q T pc L stk := by
  subst hp
  subst hst
  obtain ⟨⟨locs, X, hF⟩, e0, hn0, hx, hZ, hby, hml, hret, hlk, hown, hnm⟩ := S
  obtain ⟨cell, hcell, hobj⟩ := E.cell
  have hin : (Jvm.Cond.instanceMethod y').before K.args K.s = true := mvT hZ w6
  have hpr : K.s.PrivateAt y' := Cond.privateMethod_at (mvP (args := K.args) hZ wp)
  have hsel : (Jvm.Cond.selects y'.cls y' y').before K.args K.s = true := by
    have ws' : (Jvm.Cond.selects yp.cls yp yp).before K.args K.s = true := mvT hZ ws
    obtain ⟨c2, r2, m2, -, -, q3, -, kP, hkP, hkPi⟩ := Cond.selects_spec ws'
    have hc := findClass_of_methodNamed q3
    rw [hcc] at hc
    exact selects_self_of_private hc hkP hkPi hpr hin hy
  obtain ⟨v, _, ⟨T1, L1, c1, n1⟩, -, X1, ⟨Lc, hq, hl1, hc1, hs1⟩, stp⟩ := X.privateBack hx (y := y') hown (mvT hZ w1) hin hsel hpr (mvT hZ w4) hy (backOf (Q := fun v h' L => Q' v h' ∧ Fr n0 L) (W := W) (C K.l []) hZ w4 w3 hfr hlo) (g := mkF K.m pc L (as'.reverse ++ .ref a :: st)) rfl (hL.trans hml.symm) (Steps.refl _) (a := a) (by rw [e0]; exact hcell) hobj (argsL := as') (rest := st) (lenOf hps hlen) rfl (by show 2 * 0 + _ ≤ _; rw [hW]; omega) (hb hby hd) (fun _ _ => ⟨rfl, e0, hc, hs⟩)
  dsimp only [Pt.U, Pt.locs, Pt.cells, Pt.slots] at X1 hl1 hc1 hs1 stp hq
  subst hl1 hc1 hs1
  obtain ⟨hq, hFc⟩ := hq
  exact Go.trans stp (k T1 T1.heap v ⟨⟨_, X1, Fr.app hF hFc⟩, rfl, hn0, hx, hZ, hby, hml, hret, hlk, hown, hnm⟩ hq)
end Kit4
end Jvm.OwnK
namespace Jvm.Pilot.@@N@@
open Jvm Jvm.ClassFile Sem Op Lib Jvm.Free Jvm.Stand Jvm.LawKit Jvm.RoadKit Bundle Jvm.OwnK Jvm.Pilot.@@N@@.Jvm.D
set_option maxRecDepth 100000
def gC (C i : Nat) : Nat := Nat.mod (Nat.div C (Nat.pow 6 i)) 6
def sC (C i v : Nat) : Nat := Nat.add (Nat.sub C (Nat.mul (gC C i) (Nat.pow 6 i))) (Nat.mul v (Nat.pow 6 i))
def rootM (L R U x : Nat) : Bool := cond (Nat.beq (gC U x) 0) true (cond (Nat.beq (gC L (Nat.pred (gC U x))) (Nat.succ x)) false (cond (Nat.beq (gC R (Nat.pred (gC U x))) (Nat.succ x)) false true))
abbrev T3 : Type := Option (Nat × Nat × Nat)
/-- the last part of rotate: the pointer from above -/
def rotE (pr : Bool) (L R U g p x : Nat) : T3 := cond pr (some (L, R, U)) (cond (Nat.beq (gC L (Nat.pred g)) p) (some ((sC L (Nat.pred g) (Nat.succ x)), R, U)) (some (L, (sC R (Nat.pred g) (Nat.succ x)), U)))
def upM (U c p : Nat) : Nat := cond (Nat.beq c 0) U (sC U (Nat.pred c) p)
/-- rotate, p the code of x's parent, P the parent, g the code of its parent -/
def rotP (L R U x p P g : Nat) : T3 := cond (Nat.beq (gC L P) (Nat.succ x))
  (rotE (rootM L R U P) (sC L P (gC R x)) (sC R x p) (sC (sC (upM U (gC R x) p) P (Nat.succ x)) x g) g p x)
  (rotE (rootM L R U P) (sC L x p) (sC R P (gC L x)) (sC (sC (upM U (gC L x) p) P (Nat.succ x)) x g) g p x)
def rotM (L R U x : Nat) : T3 := rotP L R U x (gC U x) (Nat.pred (gC U x)) (gC U (Nat.pred (gC U x)))
/-- which node turns first -/
def strM (L P x G : Nat) : Nat := cond (Nat.beq (gC L G) (Nat.succ P)) (cond (Nat.beq (gC L P) (Nat.succ x)) P x) (cond (Nat.beq (gC L P) (Nat.succ x)) x P)
def s1M (L R U x P : Nat) : T3 := cond (rootM L R U P) (some (L, R, U)) (rotM L R U (strM L P x (Nat.pred (gC U P))))
def s2M (x : Nat) : T3 → T3
  | none => none
  | some (L, R, U) => cond (Nat.beq (gC U x) 0) none (rotM L R U x)
def splM : Nat → Nat → Nat → Nat → Nat → T3
  | 0, L, R, U, x => cond (rootM L R U x) (some (L, R, U)) none
  | k + 1, L, R, U, x => cond (rootM L R U x) (some (L, R, U)) (match s2M x (s1M L R U x (Nat.pred (gC U x))) with
    | none => none
    | some (L, R, U) => splM k L R U x)
abbrev T4 : Type := Option (Nat × Nat × Nat × Nat)
/-- the loop of expose: top and below as codes -/
def expL : Nat → Nat → Nat → Nat → Nat → Nat → T4
  | 0, L, R, U, t, b => cond (Nat.beq t 0) (some (L, R, U, b)) none
  | k + 1, L, R, U, t, b => cond (Nat.beq t 0) (some (L, R, U, b)) (match splM 3 L R U (Nat.pred t) with
    | none => none
    | some (L, R, U) => expL k L (sC R (Nat.pred t) b) U (gC U (Nat.pred t)) t)
def expE (x : Nat) : T4 → T4
  | none => none
  | some (L, R, U, b) => match splM 3 L R U x with
    | none => none
    | some (L, R, U) => some (L, R, U, b)
def expM (L R U x : Nat) : T4 := expE x (expL 6 L R U (Nat.succ x) 0)
def packM (L R U : Nat) : Nat := Nat.add L (Nat.mul 7776 (Nat.add R (Nat.mul 7776 U)))
def lM (s : Nat) : Nat := Nat.mod s 7776
def rM (s : Nat) : Nat := Nat.mod (Nat.div s 7776) 7776
def uM (s : Nat) : Nat := Nat.div s 60466176
def tagM (U : Nat) : Nat := cond (Nat.beq (gC U 0) 0) 0 (cond (Nat.beq (gC U 1) 0) 1 (cond (Nat.beq (gC U 2) 0) 2 (cond (Nat.beq (gC U 3) 0) 3 4)))
def expd (R U : Nat) : Bool := Nat.beq (gC R (tagM U)) 0
def parM (t x : Nat) : Nat := Nat.mod (Nat.div t (Nat.pow 5 x)) 5
def ancR (t a : Nat) : Nat → Nat → Bool
  | 0, x => Nat.beq x a
  | k + 1, x => cond (Nat.beq x a) true (ancR t a k (parM t x))
def ancM (t a b : Nat) : Bool := ancR t a 4 b
def hasM (s : Nat) : List Nat → Bool
  | [] => false
  | a :: l => cond (Nat.beq s a) true (hasM s l)
/-- what one expose must give -/
def oneR (t : Nat) (ss : List Nat) (R U b : Nat) : T4 → Bool
  | none => false
  | some (L', R', U', c) => cond (hasM (packM L' R' U') ss) (cond (Nat.beq (lM (packM L' R' U')) L') (cond (Nat.beq (rM (packM L' R' U')) R') (cond (Nat.beq (uM (packM L' R' U')) U') (cond (Nat.beq (tagM U') b) (cond (expd R' U')
      (cond (expd R U) (cond (ancM t (tagM U) b) (Nat.beq c (Nat.succ (tagM U))) (cond (Nat.beq c (Nat.succ (tagM U))) false true)) true) false) false) false) false) false) false
def oneM (t : Nat) (ss : List Nat) (s b : Nat) : Bool := oneR t ss (rM s) (uM s) b (expM (lM s) (rM s) (uM s) b)
def fiveM (t : Nat) (ss : List Nat) (s : Nat) : Bool := cond (oneM t ss s 0) (cond (oneM t ss s 1) (cond (oneM t ss s 2) (cond (oneM t ss s 3) (oneM t ss s 4) false) false) false) false
def allM (f : Nat → Bool) : List Nat → Bool
  | [] => true
  | a :: l => cond (f a) (allM f l) false
def allG (f : Nat → List Nat → Bool) : List (Nat × List Nat) → Bool
  | [] => true
  | g :: l => cond (f g.1 g.2) (allG f l) false
def okG (t : Nat) (ss : List Nat) : Bool := allM (fiveM t ss) ss
def G1 : List (Nat × List Nat) := [(0, [15902605584, 81145608408, 91969053732, 93722572806, 93964437504]),
  (25, [16628199768, 18079387920, 18079527888, 81871202592, 83322390744, 83322530712, 91969069284, 92634181710, 94690031688, 95899355142, 96141219840, 96141359808]),
  (125, [16990997184, 28963299600, 28963486224, 81145623960, 82113067446, 93057445332, 95052829104, 105029747748, 105029934372, 106783266822, 107025131520, 107025318144]),
  (150, [19167779520, 29688893784, 31140081936, 31140221904, 31140268560, 83322406296, 84289849782, 97229611440, 105029763300, 105694875726, 107750725704, 108960049158, 109201913856, 109202053824, 109202100480]),
  (250, [22432953240, 42023993616, 42025113360, 81145631736, 87615489708, 100252920462, 100494785160, 118090441764, 119843960838, 119845080582, 120085825536, 120086945280]),
  (275, [19167919488, 23158547424, 35493647256, 35493833880, 42749587800, 42750707544, 44200775952, 44200915920, 44201895696, 81871225920, 83322546264, 84289989750, 87615505260, 88280617686, 97229751408, 101220379344, 113313614478, 113555479176, 113555665800, 118090457316, 118755569742, 120811419720, 120812539464, 122020743174, 122021862918, 122262607872, 122262747840, 122263727616]),
  (625, [15902621136, 17172396582, 82596799224, 93420244548, 95415628320, 159509772504, 159510005784, 170333217828, 170333451108, 172086736902, 172328601600, 172328834880]),
  (650, [18079403472, 19349178918, 84773581560, 97592410656, 160235366688, 161686554840, 161686694808, 161686788120, 170333233380, 170998345806, 173054195784, 174263519238, 174505383936, 174505523904, 174505617216]),
  (750, [28963315152, 30233090598, 106480938564, 108476322336, 159509788056, 160477231542, 171421609428, 173416993200, 183393911844, 183394098468, 183394145124, 185147430918, 185389295616, 185389482240, 185389528896]),
  (775, [31140097488, 32409872934, 110653104672, 161686570392, 162654013878, 175593775536, 183393927396, 184059039822, 186114889800, 187324213254, 187566077952, 187566217920, 187566264576, 187566311232]),
  (875, [22432968792, 23702744238, 42024009168, 42025128912, 43293784614, 43294904358, 82596822552, 89066680524, 101945975976, 119541632580, 121537016352, 121538136096, 159509795832, 159510029112, 165979653804, 165979887084, 178617084558, 178858949256, 178859182536, 196454605860, 196454839140, 198208124934, 198209244678, 198449989632, 198450222912, 198451109376, 198451342656]),
  (900, [35493662808, 36763438254, 44200791504, 44201911248, 45470566950, 45471686694, 115006669992, 123713798688, 123714918432, 160235390016, 161686710360, 162654153846, 165979669356, 166644781782, 175593915504, 179584543440, 191677778574, 191919643272, 191919829896, 191919876552, 196454621412, 197119733838, 199175583816, 199176703560, 200384907270, 200386027014, 200626771968, 200626911936, 200627005248, 200627891712, 200628124992]),
  (1250, [15902628912, 24488805204, 89852741640, 102429706038, 102671570736, 237873936600, 237875336280, 248697381924, 250450900998, 250452300678, 250692765696, 250694165376]),
  (1275, [16628223096, 18079543440, 19349318886, 24488820756, 25153933182, 84773721528, 90578335824, 97592550624, 103397164920, 168216905736, 168217139016, 180793870134, 181035734832, 181035968112, 238599530784, 238600930464, 240050718936, 240050858904, 240052118616, 248697397476, 249362509902, 251418359880, 251419759560, 252627683334, 252629083014, 252869548032, 252869688000, 252870947712]),
  (1375, [16991020512, 25577196804, 28963322928, 28963509552, 37549499220, 37549685844, 89852757192, 90820200678, 103759962336, 115490400054, 115732264752, 115732451376, 237873952152, 237875351832, 238841395638, 238842795318, 249785773524, 251781157296, 251782556976, 261758075940, 261758262564, 263511595014, 263512994694, 263753459712, 263753646336, 263754859392, 263755046016]),
  (1400, [29688917112, 31140237456, 32410012902, 37549514772, 38214627198, 110653244640, 116457858936, 168216921288, 169184364774, 182124126432, 193854564150, 194096428848, 194096615472, 194096662128, 240050734488, 240052134168, 241018177974, 241019577654, 253957939632, 253959339312, 261758091492, 262423203918, 264479053896, 264480453576, 265688377350, 265689777030, 265930242048, 265930382016, 265930428672, 265931641728, 265931828352]),
  (1500, [42024016944, 50610193236, 128551094070, 128792958768, 237873959928, 244343817900, 256981248654, 257223113352, 274818769956, 276572289030, 276573408774, 276573688710, 276814153728, 276815273472, 276815553408]),
  (1525, [42749611128, 44200931472, 45470706918, 50610208788, 51275321214, 123713938656, 129518552952, 206915258166, 207157122864, 207157356144, 238599554112, 240050874456, 241018317942, 244343833452, 245008945878, 253958079600, 257948707536, 270041942670, 270283807368, 270283993992, 274818785508, 275483897934, 277539747912, 277540867656, 277541147592, 278749071366, 278750191110, 278750471046, 278990936064, 278991076032, 278992055808, 278992335744]),
  (1875, [15902636688, 68084919576, 144211834980, 145965354054, 146207218752, 316238100696, 327061546020, 327069944100, 328815065094, 328823463174, 329056929792, 329065327872]),
  (1900, [16628230872, 18079419024, 18079558992, 68810513760, 70261701912, 70261841880, 144211850532, 144876962958, 146932812936, 148142136390, 148384001088, 148384141056, 316963694880, 318414883032, 318415023000, 327061561572, 327069959652, 327726673998, 327735072078, 329782523976, 329790922056, 330991847430, 331000245510, 331233712128, 331233852096, 331242110208, 331242250176]),
  (2000, [16991028288, 28963501776, 30233277222, 68084935128, 69052378614, 106481125188, 108476508960, 145300226580, 147295610352, 222575999076, 222576232356, 224329518150, 224571382848, 224571616128, 316238116248, 317205559734, 328149937620, 328158335700, 330145321392, 330153719472, 340122240036, 340122426660, 340130638116, 341875759110, 341884157190, 342117623808, 342117810432, 342126021888]),
  (2025, [19167810624, 31140284112, 32410059558, 70261717464, 71229160950, 110653291296, 149472392688, 222576014628, 223241127054, 225296977032, 226506300486, 226748165184, 226748305152, 226748398464, 318414898584, 319382342070, 332322103728, 332330501808, 340122255588, 340130653668, 340787368014, 340795766094, 342843217992, 342851616072, 344052541446, 344060939526, 344294406144, 344294546112, 344294592768, 344302804224, 344302944192]),
  (2125, [22432984344, 42025136688, 50611312980, 68084942904, 74554800876, 128552213814, 128794078512, 152495701710, 152737566408, 300940163172, 302693682246, 302695081926, 302935546944, 302936946624, 316238124024, 322707981996, 335345412750, 335353810830, 335587277448, 335595675528, 353182934052, 353191332132, 354936453126, 354937572870, 354944851206, 355178317824, 355179437568, 355186715904]),
  (2150, [19167950592, 23158578528, 35493849432, 36763624878, 42750730872, 44202051216, 45471826662, 50611328532, 51276440958, 68810537088, 70261857432, 71229300918, 74554816428, 75219928854, 115006856616, 123715058400, 129519672696, 149472532656, 153463160592, 206916377910, 207158242608, 207158475888, 230859865806, 231101730504, 231101963784, 300940178724, 301605291150, 303661141128, 303662540808, 304870464582, 304871864262, 305112329280, 305112469248, 305113728960, 316963718208, 318415038552, 319382482038, 322707997548, 323373109974, 332322243696, 332330641776, 336312871632, 336321269712, 348406106766, 348414504846, 348647971464, 348648158088, 348656369544, 353182949604, 353191347684, 353848062030, 353856460110, 355903912008, 355905031752, 355912310088, 357113235462, 357114355206, 357121633542, 357122753286, 357355100160, 357355240128, 357356219904, 357363498240, 357363638208, 357364617984])]
def G2 : List (Nat × List Nat) := [(0, [15902605584, 81145608408, 91969053732, 93722572806, 93964437504, 93964453056, 93964460832, 93964468608]),
  (10, [16628199696, 16628759568, 18079387938, 81871202520, 81871762392, 83322390762, 92694647844, 93722596134, 94690031616, 94690591488, 95959821366, 96141219858]),
  (15, [16990996752, 16994355984, 28963299624, 82233999576, 93057444900, 93060804132, 93722603910, 95052828672, 95056187904, 105029747772, 106904199408, 107025131544]),
  (20, [17353793808, 82596796632, 82616952024, 93420241956, 93440397348, 93722611686, 95415625728, 95435781120, 159509772534, 170333217858, 172268136750, 172328601630]),
  (25, [16628199768, 18079387920, 18079527888, 81871202592, 83322390744, 83322530712, 91969069284, 92634181710, 94690031688, 94690055016, 94690062792, 95899355142, 95899495110, 96141219840, 96141235392, 96141250944, 96141359808, 96141375360, 96141390912]),
  (40, [19167779088, 19167919056, 19171138320, 23158546776, 23163585624, 29688893808, 31140081960, 31140221928, 43115744160, 84410781912, 84410921880, 88401549600, 92634212814, 93060835236, 95899386246, 97229611008, 97229750976, 97232970240, 101220378696, 101225417544, 105029763324, 105815808312, 107750725728, 109080981744, 109201913880, 109202053848, 119242658664, 121177576080]),
  (45, [19530576144, 19530716112, 25335329112, 84773578968, 84773718936, 84793734360, 90578331936, 90608565024, 92634220590, 93440436228, 95899394022, 97592408064, 97592548032, 97612563456, 103397161032, 103427394120, 160235366718, 161686554870, 161686694838, 170333233410, 171179745654, 173054195814, 174444919086, 174505383966, 174505523934, 239345280396, 250289659332, 252164109492]),
  (75, [22432952592, 22437991440, 42023993760, 87675955416, 91969084836, 100252919814, 100257958662, 100494784512, 100494800064, 100499823360, 118150908264, 119843960982, 120085825680]),
  (100, [24609734928, 89852737752, 89882970840, 91969092612, 102429702150, 102459935238, 102671566848, 102671582400, 102701799936, 237873936780, 248818315716, 250450901178, 250692765876]),
  (125, [16990997184, 28963299600, 28963486224, 81145623960, 82113067446, 93057445332, 95052829104, 95052852432, 95052860208, 105029747748, 105029934372, 106783266822, 106783453446, 107025131520, 107025147072, 107025154848, 107025318144, 107025333696, 107025341472]),
  (135, [19167779538, 23159107224, 29688893712, 29689080336, 29689453584, 31140081954, 31140268578, 43112385216, 43113504960, 81871785720, 82113090774, 83322406314, 84350316006, 88341643692, 97229611458, 101220939144, 105755341860, 105755528484, 106783290150, 107750725632, 107750912256, 107751285504, 109020515382, 109201913874, 109202100498, 119178833364, 121174217136, 121175336880]),
  (145, [30414487824, 30414674448, 69233773248, 82113106326, 82616990904, 106480935972, 106481122596, 106501091364, 106783305702, 108476319744, 108476506368, 108496475136, 145300221396, 145340532180, 147295605168, 147335915952, 159509788086, 160658631390, 171421609458, 173416993230, 183393911874, 183394098498, 185328830766, 185389295646, 185389482270, 317769912648, 328532890716, 330528274488]),
  (150, [19167779520, 29688893784, 31140081936, 31140221904, 31140268560, 83322406296, 84289849782, 97229611440, 97229642544, 105029763300, 105694875726, 107750725704, 107750749032, 108960049158, 108960189126, 108960235782, 109201913856, 109201929408, 109202053824, 109202069376, 109202100480, 109202116032]),
  (170, [32591270160, 32591410128, 32591456784, 38396023128, 71410555584, 84289888662, 84793773240, 105694914606, 106501130244, 108960088038, 110653102080, 110653242048, 110653288704, 110673257472, 116457855048, 116488088136, 149472387504, 149512698288, 161686570422, 162835413726, 175593775566, 183393927426, 184240439670, 186114889830, 187505613102, 187566077982, 187566217950, 187566264606, 263350353348, 265224803508, 319946694984, 332705056824]),
  (200, [23521344192, 23526383040, 29689080408, 35493646608, 35493833232, 35498685456, 43112385360, 44200776096, 44200916064, 87675970968, 88643414454, 93057476436, 101583176112, 101588214960, 105029949924, 105695062350, 107750912328, 113313613830, 113318652678, 113555478528, 113555494080, 113555665152, 113560517376, 118150923816, 119118367302, 121174217280, 122020743318, 122262608016, 122262747984]),
  (225, [25698126528, 37670428944, 37670615568, 89852753304, 89882986392, 90820196790, 90850429878, 93057484212, 103759958448, 103790191536, 105029786628, 105029973252, 115490396166, 115520629254, 115732260864, 115732276416, 115732447488, 115762493952, 115762680576, 237873952332, 238841395818, 249906707316, 251781157476, 261879009732, 261879196356, 263511595194, 263753459892, 263753646516]),
  (250, [22432953240, 42023993616, 42025113360, 81145631736, 87615489708, 100252920462, 100494785160, 100494800712, 100494816264, 118090441764, 118091561508, 119843960838, 119845080582, 120085825536, 120085841088, 120085848864, 120086945280, 120086960832, 120086968608]),
  (260, [23158547352, 42749587728, 42750147600, 42750707472, 44200775970, 81871225848, 88341083820, 101220379272, 118816035876, 119843984166, 120811419648, 120811979520, 120812539392, 122081209398, 122262607890]),
  (265, [23521344408, 23524703640, 29688893736, 29689453608, 35493647280, 43112384784, 43113504528, 43115744016, 44201895714, 82234022904, 88703880876, 100252951566, 101583176328, 101586535560, 105755341884, 106904222736, 107750725656, 107751285528, 113374080708, 113555479200, 119178832932, 119182192164, 119845103910, 121174216704, 121175336448, 121177575936, 122082329142, 122263727634]),
  (270, [23884141464, 43475181840, 43476301584, 82596819960, 82616975352, 89066677932, 89086833324, 100252959342, 101945973384, 101966128776, 119541629988, 119561785380, 119843999718, 119845119462, 121537013760, 121538133504, 121557169152, 121558288896, 159509795862, 165979653834, 178798484406, 178858949286, 196454605890, 198389524782, 198390644526, 198449989662, 198451109406]),
  (275, [19167919488, 23158547424, 35493647256, 35493833880, 42749587800, 42750707544, 44200775952, 44200915920, 44201895696, 44202035664, 81871225920, 83322546264, 84289989750, 87615505260, 88280617686, 97229751408, 97229782512, 101220379344, 101220410448, 113313614478, 113313801102, 113555479176, 113555494728, 113555665800, 113555681352, 118090457316, 118091577060, 118755569742, 118756689486, 120811419720, 120811443048, 120812539464, 120812562792, 122020743174, 122020883142, 122021862918, 122022002886, 122262607872, 122262623424, 122262747840, 122262763392, 122263727616, 122263743168, 122263867584, 122263883136]),
  (295, [36944835480, 36945022104, 45651964176, 45652104144, 45653083920, 45653223888, 51456717144, 51457836888, 71410695552, 75401323488, 84290028630, 84793913208, 88280656566, 89086872204, 90608603904, 113313653358, 115006667400, 115006854024, 115026822792, 118755608622, 119561824260, 122020782054, 122021901798, 123713796096, 123713936064, 123714915840, 123715055808, 123733951488, 123735071232, 129518549064, 129519668808, 129548782152, 149472527472, 149512838256, 153463155408, 153503466192, 160235390046, 161686710390, 162835553694, 165979669386, 166826181630, 175593915534, 179584543470, 191859178422, 191919643302, 191919829926, 196454621442, 197301133686, 199175583846, 199176703590, 200566307118, 200567426862, 200626771998, 200626911966, 200627891742, 239345303724, 245936095308, 258694457148, 276411047364, 278285497524, 278286617268, 319946834952, 325761525648, 332705196792, 338519887488]),
  (350, [50731122960, 50732242704, 74675729304, 87615528588, 89883009720, 118090480644, 128551090182, 128552209926, 128581323270, 128792954880, 128792970432, 128794074624, 128823187968, 152495696526, 152536007310, 152737561224, 152777872008, 237873960108, 244464751692, 256981248834, 257223113532, 274939703748, 276572289210, 276573408954, 276814153908, 276815273652, 325035931464, 337552428606, 337794293304]),
  (500, [68145381648, 81145647288, 144211829796, 144252140580, 145965348870, 146005659654, 146207213568, 146207229120, 146207236896, 146247524352, 316298569032, 327061547100, 328815066174, 329056930872]),
  (525, [68870975832, 70322163984, 70322303952, 81871241472, 83322429624, 83322569592, 144211845348, 144252156132, 144876957774, 144917268558, 146932807752, 146932831080, 146973118536, 148142131206, 148142271174, 148182441990, 148383995904, 148384011456, 148384135872, 148384151424, 148424306688, 148424446656, 317024163216, 318475351368, 318475491336, 327061562652, 327726675078, 329782525056, 330991848510, 331233713208, 331233853176]),
  (625, [15902621136, 17172396582, 82596799224, 93420244548, 95415628320, 95415651648, 159509772504, 159510005784, 170333217828, 170333451108, 172086736902, 172328601600, 172328617152, 172328624928, 172328632704, 172328834880, 172328858208]),
  (635, [16628782896, 17172419910, 18079403490, 19409645142, 25214959188, 84773581578, 90578895624, 97592410674, 103397724720, 160235366616, 160235599896, 160235926488, 161686554858, 161686788138, 171058811940, 171059045220, 172086760230, 173054195712, 173054428992, 173054755584, 174323985462, 174505383954, 174505617234, 239325127416, 239326527096, 250148572740, 252143956512, 252145356192]),
  (640, [16994387088, 17172427686, 28963315176, 30354023184, 69176669976, 106480938588, 108476322360, 145303585380, 147298969152, 160598163672, 160598396952, 171421608996, 171421842276, 171424968228, 172086768006, 173416992768, 173417226048, 173420352000, 183393911868, 183394145148, 185268363504, 185389295640, 185389528920, 317689291512, 328512736836, 328521134916, 330508120608, 330516518688]),
  (650, [18079403472, 19349178918, 84773581560, 97592410656, 160235366688, 161686554840, 161686694808, 161686788120, 170333233380, 170998345806, 173054195784, 173054219112, 173054226888, 174263519238, 174263659206, 174505383936, 174505399488, 174505415040, 174505523904, 174505539456, 174505555008, 174505617216]),
  (665, [19171169424, 19349210022, 31140097512, 32530805520, 71353452312, 110653104696, 149475751488, 162774946008, 162775085976, 162775179288, 166765713696, 170998376910, 171424999332, 174263550342, 175593775104, 175593915072, 175594008384, 175597134336, 179584542792, 179589581640, 183393927420, 184179972408, 186114889824, 187445145840, 187566077976, 187566217944, 187566311256, 197606822760, 199541740176, 319866073848, 332684902944, 332693301024]),
  (700, [22432968144, 22438006992, 23702743590, 23707782438, 42024009312, 43293784758, 89127146232, 93420275652, 101945975328, 101951014176, 119602099080, 121537016496, 166040119512, 166040352792, 170333248932, 170333482212, 178617083910, 178622122758, 178858948608, 178858964160, 178859181888, 178863987456, 178864220736, 196515072360, 196515305640, 198208125078, 198449989776, 198450223056]),
  (725, [24609750480, 25879525926, 91303928568, 91334161656, 93420283428, 104122757664, 104152990752, 160235599968, 168216901848, 168217135128, 168247134936, 170333466660, 170998579086, 173054429064, 180793866246, 180824099334, 181035730944, 181035746496, 181035964224, 181065964032, 239325127596, 240050719116, 240050859084, 248818331268, 250088106714, 252143956692, 252627683514, 252869548212, 252869688180]),
  (750, [28963315152, 30233090598, 106480938564, 108476322336, 108476345664, 159509788056, 160477231542, 171421609428, 173416993200, 173417016528, 173417024304, 183393911844, 183394098468, 183394145124, 185147430918, 185147617542, 185389295616, 185389311168, 185389318944, 185389482240, 185389497792, 185389505568, 185389528896, 185389552224]),
  (760, [29689476912, 30233113926, 31140097506, 32470339158, 38275653204, 110653104690, 116458418736, 160235949816, 160477254870, 161686570410, 162714480102, 166705807788, 175593775554, 179585103240, 184119505956, 184119692580, 184119739236, 185147454246, 186114889728, 186115076352, 186115123008, 186115449600, 187384679478, 187566077970, 187566264594, 187566311250, 197542997460, 199538381232, 199539500976, 263209266756, 265204650528, 265206050208]),
  (775, [31140097488, 32409872934, 110653104672, 161686570392, 162654013878, 175593775536, 175593806640, 183393927396, 184059039822, 186114889800, 186114913128, 187324213254, 187324353222, 187324399878, 187566077952, 187566093504, 187566217920, 187566233472, 187566264576, 187566280128, 187566311232]),
  (825, [35493662160, 35498701008, 36763437606, 36768476454, 44200791648, 45470567094, 115006669344, 115011708192, 123713798832, 166040135064, 167007578550, 171421640532, 179947340208, 179952379056, 183394114020, 184059226446, 186115076424, 191677777926, 191682816774, 191919642624, 191919658176, 191919829248, 191919875904, 191924681472, 191924914752, 196515087912, 197482531398, 199538381376, 200384907414, 200626772112, 200626912080, 200627005392]),
  (850, [37670444496, 38940219942, 106480977444, 117183451680, 117213684768, 168216917400, 168247150488, 169184360886, 169214593974, 182124122544, 182154355632, 183394160676, 184059273102, 186115123080, 193854560262, 193884793350, 194096424960, 194096440512, 194096611584, 194096658240, 194126658048, 194126844672, 240050734668, 241018178154, 253957939812, 261879025284, 263148800730, 265204650708, 265688377530, 265930242228, 265930382196, 265930428852]),
  (875, [22432968792, 23702744238, 42024009168, 42025128912, 43293784614, 43294904358, 82596822552, 89066680524, 101945975976, 119541632580, 121537016352, 121537039680, 121538136096, 159509795832, 159510029112, 165979653804, 165979887084, 178617084558, 178858949256, 178858964808, 178858980360, 178859182536, 196454605860, 196454839140, 196455725604, 198208124934, 198209244678, 198449989632, 198450005184, 198450012960, 198450222912, 198450246240, 198451109376, 198451124928, 198451132704, 198451342656]),
  (885, [42750170928, 43293807942, 44200791522, 45531033174, 51336347220, 123713798706, 129519112752, 160235389944, 160235623224, 166705247916, 166705481196, 179584543368, 179584776648, 197180199972, 197180433252, 198208148262, 199175583744, 199175817024, 199176143616, 199176703488, 199176936768, 200445373494, 200626771986, 200627005266, 239325150744, 245795008716, 258674304168, 276269960772, 278265344544, 278266464288, 278266744224]),
  (890, [23524734744, 23702775342, 29689476936, 30354046512, 35493662832, 36823904484, 38275653228, 43116887088, 43294927686, 44201911266, 45532152918, 51703063380, 69176693304, 75646551276, 115006670016, 116458418760, 123714918450, 129885828912, 153829316808, 160598187000, 160598420280, 167068044972, 167068278252, 178617115662, 179947340424, 179947573704, 179950699656, 184119505980, 184119739260, 185268386832, 186114889752, 186115123032, 186115449624, 191738244804, 191919643296, 191919876576, 197542997028, 197543230308, 197546356260, 197546589540, 198209268006, 199538380800, 199538614080, 199539500544, 199539733824, 199541740032, 199541973312, 200446493238, 200627891730, 200628125010, 263209266780, 265204650552, 265206050232, 302031913572, 304027297344, 304028697024, 317689314840, 324159172812, 337038468264, 337046866344, 354634124868, 354642522948, 356629508640, 356630628384, 356637906720]),
  (900, [35493662808, 36763438254, 44200791504, 44201911248, 45470566950, 45471686694, 115006669992, 123713798688, 123714918432, 160235390016, 161686710360, 162654153846, 165979669356, 166644781782, 175593915504, 175593946608, 179584543440, 179584574544, 191677778574, 191677965198, 191919643272, 191919658824, 191919829896, 191919845448, 191919876552, 196454621412, 196455741156, 197119733838, 197120853582, 199175583816, 199175607144, 199176703560, 199176726888, 200384907270, 200385047238, 200386027014, 200386166982, 200626771968, 200626787520, 200626911936, 200626927488, 200627005248, 200627891712, 200627907264, 200628031680, 200628047232, 200628124992]),
  (975, [50731138512, 50732258256, 52000913958, 52002033702, 74675744856, 75945520302, 89066719404, 91334200536, 119541671460, 130244145696, 130245265440, 130274378784, 154188752040, 154229062824, 160235623296, 165979902636, 166645015062, 168247383768, 169214827254, 179584776720, 182154588912, 196454854692, 197119967118, 199175817096, 199176936840, 206915254278, 206916374022, 206945487366, 206946607110, 207157118976, 207157134528, 207157352256, 207158238720, 207158472000, 207187352064, 207188471808, 230859860622, 230900171406, 231101725320, 231101958600, 231142036104, 239325150924, 240050874636, 241018318122, 244464767244, 245734542690, 253958079780, 258674304348, 270041942850, 270283807548, 270283994172, 274939719300, 276209494746, 278265344724, 278266464468, 278749071546, 278750191290, 278990936244, 278991076212, 278992055988, 325035947016, 326305722462, 339245484120, 350613122622, 350854987320, 350855173944]),
  (1125, [68145397200, 69415172646, 82596838104, 145663020612, 145703331396, 147658404384, 147658427712, 147698715168, 159510021336, 160477464822, 171421842708, 173417226480, 222575993892, 222576227172, 222616304676, 224329512966, 224369823750, 224571377664, 224571393216, 224571400992, 224571610944, 224571634272, 224611688448, 316298584584, 317568360030, 328512737916, 330508121688, 340122241116, 340122427740, 341875760190, 342117624888, 342117811512]),
  (1150, [70322179536, 71591954982, 84773620440, 149835186720, 149875497504, 161686803672, 162654247158, 175594008816, 222576009444, 222616320228, 223241121870, 223281432654, 225296971848, 225296995176, 225337282632, 226506295302, 226506435270, 226546606086, 226748160000, 226748175552, 226748299968, 226748315520, 226748393280, 226788470784, 226788610752, 318475366920, 319745142366, 332684904024, 340122256668, 340787369094, 342843219072, 344052542526, 344294407224, 344294547192, 344294593848]),
  (1250, [15902628912, 24488805204, 89852741640, 102429706038, 102671570736, 102671586288, 237873936600, 237875336280, 248697381924, 250450900998, 250452300678, 250692765696, 250692781248, 250692789024, 250692796800, 250694165376, 250694180928]),
  (1260, [16628223024, 25214399316, 90578335752, 103397164848, 238599530712, 238600090584, 238600930392, 240050718954, 249422976036, 250450924326, 251418359808, 251418919680, 251419759488, 252688149558, 252869548050]),
  (1265, [16991020080, 16994379312, 25577196372, 25580555604, 28963322952, 37549499244, 90941132808, 102429737142, 103759961904, 103763321136, 115611332640, 115732264776, 238962327768, 238963727448, 249785773092, 249789132324, 250450932102, 250452331782, 251781156864, 251782556544, 251784516096, 251785915776, 261758075964, 263632527600, 263633927280, 263753459736, 263754859416]),
  (1270, [17353817136, 25939993428, 91303929864, 91324085256, 102429744918, 104122758960, 104142914352, 160235366646, 160235926518, 168216905766, 171058811970, 172268160078, 173054195742, 173054755614, 180854336370, 181035734862, 239325124824, 239326524504, 239345280216, 240052118634, 250148570148, 250168725540, 250452324006, 252143953920, 252145353600, 252164109312, 252689549238, 252870947730]),
  (1275, [16628223096, 18079543440, 19349318886, 24488820756, 25153933182, 84773721528, 90578335824, 97592550624, 103397164920, 168216905736, 168217139016, 180793870134, 181035734832, 181035750384, 181035968112, 238599530784, 238600930464, 240050718936, 240050858904, 240052118616, 248697397476, 249362509902, 251418359880, 251418383208, 251418390984, 251419759560, 252627683334, 252627823302, 252629083014, 252869548032, 252869563584, 252869579136, 252869688000, 252869703552, 252869719104, 252870947712, 252870963264]),
  (1290, [19171309392, 19349349990, 23163616728, 25153964286, 25580586708, 29688917136, 31140237480, 32530945488, 37549514796, 38335559784, 43115767488, 51762410136, 71353592280, 75345899616, 110653244664, 116457858960, 129884709312, 149475891456, 153468198792, 169305296904, 169305530184, 180793901238, 182124126000, 182124359280, 182127485232, 193975496736, 194096428872, 194096662152, 241139110104, 241139250072, 241140509784, 241140649752, 245129877792, 245131277472, 249362541006, 249789163428, 252627714438, 252629114118, 253957939200, 253958079168, 253959338880, 253959478848, 253961298432, 253962698112, 257948706888, 257950106568, 257953745736, 261758091516, 262544136504, 264479053920, 264480453600, 265809309936, 265810709616, 265930242072, 265930382040, 265931641752, 275970986856, 277905904272, 277907303952, 319866213816, 325670828112, 332685042912, 332693440992, 338489657208, 338498055288]),
  (1325, [22438022544, 24488836308, 42024017088, 50670659736, 74620305432, 128551094214, 128792958912, 152500739910, 152742604608, 244404283608, 244405683288, 248697413028, 256981248006, 256982647686, 256986286854, 257223112704, 257223128256, 257224512384, 257228151552, 274879236456, 276572289174, 276573688854, 276814153872, 276815553552, 324945233928, 337522198326, 337530596406, 337764063024, 337772461104]),
  (1375, [16991020512, 25577196804, 28963322928, 28963509552, 37549499220, 37549685844, 89852757192, 90820200678, 103759962336, 115490400054, 115732264752, 115732280304, 115732451376, 237873952152, 237875351832, 238841395638, 238842795318, 249785773524, 251781157296, 251781180624, 251781188400, 251782556976, 261758075940, 261758262564, 263511595014, 263511781638, 263512994694, 263753459712, 263753475264, 263753483040, 263753646336, 263753661888, 263753669664, 263754859392, 263754874944, 263755046016]),
  (1385, [29688917040, 29689103664, 38275093332, 38275279956, 43112408544, 51698584836, 116457858864, 116458045488, 129881350368, 238600113912, 238841418966, 240050734506, 241078644198, 245069971884, 253957939650, 257949267336, 262483670052, 262483856676, 263511618342, 264479053824, 264479240448, 264479613696, 264480453504, 264480640128, 265748843574, 265930242066, 265930428690, 275907161556, 277902545328, 277903665072, 277903945008]),
  (1395, [30414511152, 30414697776, 39000687444, 39000874068, 69233796576, 77819972868, 90820239558, 91324124136, 115490438934, 117183452976, 117183639600, 117203608368, 156002738400, 156043049184, 160235949846, 160658654718, 166705807818, 168216921318, 169244831010, 179585103270, 182124126462, 184119505986, 184119692610, 185328854094, 186114889758, 186115076382, 186115449630, 193915030386, 194096428878, 194096615502, 197542997490, 199538381262, 199539501006, 238842818646, 239346703224, 240052134186, 241080043878, 245816561196, 253959339330, 258695856648, 263209264164, 263209450788, 263229419556, 263229606180, 263513018022, 265204647936, 265204834560, 265206047616, 265206234240, 265224803328, 265224989952, 265750243254, 265931641746, 265931828370, 302028549588, 302068860372, 304023933360, 304025333040, 304064244144, 317769935976, 326356112268, 339235407720, 354654278748, 356649662520, 356650782264]),
  (1400, [29688917112, 31140237456, 32410012902, 37549514772, 38214627198, 110653244640, 116457858936, 168216921288, 169184364774, 182124126432, 193854564150, 194096428848, 194096444400, 194096615472, 194096662128, 240050734488, 240052134168, 241018177974, 241019577654, 253957939632, 253957970736, 253959339312, 261758091492, 262423203918, 264479053896, 264479077224, 264480453576, 265688377350, 265688517318, 265688563974, 265689777030, 265930242048, 265930257600, 265930382016, 265930397568, 265930428672, 265930444224, 265931641728, 265931657280, 265931828352]),
  (1450, [23526414144, 25577227908, 29689103736, 35498887632, 36768663078, 37549701396, 38214813822, 43112408688, 44200931616, 45470707062, 50670675288, 51638118774, 74620320984, 75587764470, 115011894816, 116458045560, 123713938800, 129881350512, 153830996208, 206915258310, 207157123008, 207157356288, 230864904006, 231106768704, 231107001984, 244404299160, 244405698840, 245371742646, 245373142326, 249785804628, 258311504304, 258312903984, 258316543152, 261758278116, 262423390542, 264479240520, 264480640200, 270041942022, 270043341702, 270046980870, 270048380550, 270283806720, 270283822272, 270283993344, 270285206400, 270285393024, 270288845568, 270290245248, 274879252008, 275846695494, 277902545472, 277903945152, 278749071510, 278750471190, 278990936208, 278991076176, 278992335888, 324945249480, 325912692966, 338852454624, 338860852704, 350582892342, 350591290422, 350824757040, 350824943664, 350833155120]),
  (1500, [42024016944, 50610193236, 128551094070, 128792958768, 128792974320, 237873959928, 244343817900, 256981248654, 257223113352, 257223128904, 257223144456, 274818769956, 274819889700, 276572289030, 276573408774, 276573688710, 276814153728, 276814169280, 276814177056, 276815273472, 276815289024, 276815296800, 276815553408, 276815568960]),
  (1510, [42749611056, 51335787348, 129518552880, 238599554040, 245069412012, 257948707464, 275544364068, 276572312358, 277539747840, 277540307712, 277540867584, 277541147520, 278809537590, 278990936082]),
  (1515, [29688917064, 38275093356, 43112408112, 43115767344, 51698584404, 51701943636, 116457858888, 129881349936, 129884709168, 238962351096, 245432209068, 256981279758, 258311504520, 258314863752, 262483670076, 263632550928, 264479053848, 264479613720, 264480453528, 270102408900, 270283807392, 275907161124, 275910520356, 276573432102, 277902544896, 277903664640, 277903944576, 277905904128, 277907303808, 278810657334, 278992055826]),
  (1520, [43475205168, 52061381460, 128551132950, 130244146992, 130264302384, 160235389974, 166705247946, 179584543398, 197180200002, 198389548110, 199175583774, 199176143646, 199176703518, 206975724402, 207157122894, 239325148152, 239345303544, 245795006124, 245815161516, 258674301576, 258694456968, 276269958180, 276290113572, 276573712038, 278265341952, 278266461696, 278266741632, 278285497344, 278286617088, 278810937270, 278992335762]),
  (1525, [42749611128, 44200931472, 45470706918, 50610208788, 51275321214, 123713938656, 129518552952, 206915258166, 207157122864, 207157138416, 207157356144, 238599554112, 240050874456, 241018317942, 244343833452, 245008945878, 253958079600, 253958110704, 257948707536, 257948738640, 270041942670, 270042129294, 270283807368, 270283822920, 270283993992, 270284009544, 274818785508, 274819905252, 275483897934, 275485017678, 277539747912, 277539771240, 277540867656, 277540890984, 277541147592, 278749071366, 278749211334, 278750191110, 278750331078, 278750471046, 278990936064, 278990951616, 278991076032, 278991091584, 278992055808, 278992071360, 278992195776, 278992211328, 278992335744, 278992351296]),
  (1750, [68145404976, 76731581268, 89852780520, 154672482102, 154712792886, 154914346800, 154914362352, 154954657584, 237875359608, 244345217580, 256982648334, 257224513032, 300940157988, 300980468772, 302693677062, 302695076742, 302733987846, 302935541760, 302935557312, 302935565088, 302936941440, 302936956992, 302975852544, 316298592360, 324884768652, 337522199406, 337764064104, 353182935132, 354936454206, 354937573950, 355178318904, 355179438648]),
  (1775, [68870999160, 70322319504, 71592094950, 76731596820, 77396709246, 84773760408, 90578374704, 149835326688, 149875637472, 155639940984, 155680251768, 168217154568, 169184598054, 182124359712, 233036646198, 233076956982, 233278510896, 233278526448, 233278744176, 233318821680, 238600953792, 240052274136, 241019717622, 244345233132, 245010345558, 253959479280, 257950107216, 270043342350, 270285207048, 270285393672, 300940173540, 300980484324, 301605285966, 301645596750, 303661135944, 303661159272, 303662535624, 303701446728, 304870459398, 304870599366, 304871859078, 304910770182, 304912169862, 305112324096, 305112339648, 305112464064, 305112479616, 305113723776, 305113739328, 305152634880, 305152774848, 305154034560, 317024186544, 318475506888, 319745282334, 324884784204, 325549896630, 332685043992, 338489658288, 350582893422, 350824758120, 350824944744, 353182950684, 353848063110, 355903913088, 355905032832, 357113236542, 357114356286, 357355101240, 357355241208, 357356220984]),
  (1875, [15902636688, 68084919576, 144211834980, 145965354054, 146207218752, 146207234304, 316238100696, 327061546020, 327069944100, 328815065094, 328823463174, 329056929792, 329056945344, 329056953120, 329056960896, 329065327872, 329065343424]),
  (1885, [16628230800, 16628790672, 18079419042, 68810513688, 68811073560, 70261701930, 144937429092, 145965377382, 146932812864, 146933372736, 148202602614, 148384001106, 316963694808, 316964254680, 318414883050, 327787140132, 327795538212, 328815088422, 328823486502, 329782523904, 329783083776, 329790921984, 329791481856, 331052313654, 331060711734, 331233712146, 331242110226]),
  (1890, [16991027856, 69173310744, 145300226148, 147295609920, 317326491864, 328149937188, 328153296420, 328158335268, 328815096198, 330145320960, 330148680192, 330153719040, 340122240060, 341996691696, 342117623832]),
  (1895, [17353824912, 69536107800, 145663023204, 145683178596, 145965392934, 147658406976, 147678562368, 160598163702, 171421609026, 171424968258, 172268167854, 173416992798, 173420352030, 222575999106, 224450450742, 224571382878, 317689288920, 317709444312, 328512734244, 328521132324, 328532889636, 328823494278, 330508118016, 330516516096, 330528273408, 340130638140, 342005089776, 342126021912]),
  (1900, [16628230872, 18079419024, 18079558992, 68810513760, 70261701912, 70261841880, 144211850532, 144876962958, 146932812936, 148142136390, 148384001088, 148384016640, 148384141056, 316963694880, 318414883032, 318415023000, 327061561572, 327069959652, 327726673998, 327735072078, 329782523976, 329782547304, 329782555080, 329790922056, 330991847430, 330991987398, 331000245510, 331233712128, 331233727680, 331233743232, 331233852096, 331233867648, 331233883200, 331242110208, 331242125760, 331242250176]),
  (1915, [19167810192, 19167950160, 23158577880, 71350093080, 71350233048, 75340860768, 149472392256, 149472532224, 153463159944, 319503274200, 319503414168, 323494041888, 327726705102, 328153327524, 330991878534, 332322103296, 332322243264, 332325462528, 332330501376, 332330641344, 336312870984, 336317909832, 336321269064, 340122255612, 340908300600, 342843218016, 344173474032, 344294406168, 344294546136, 354335150952, 356270068368]),
  (1920, [19530607248, 19530747216, 25335360216, 71712890136, 71713030104, 77517643104, 144877001838, 145683217476, 148142175270, 149835189312, 149835329280, 149855344704, 155639942280, 155670175368, 162774946038, 162775086006, 166765713726, 171179776758, 171424999362, 174444950190, 175593775134, 175593915102, 175597134366, 179584542822, 179589581670, 197606822790, 199541740206, 222576014658, 223362059646, 225296977062, 226627233078, 226748165214, 226748305182, 245875627404, 250289690436, 258694456500, 258699495348, 302471973324, 304406890740, 319866071256, 319866211224, 319886226648, 319886366616, 325670824224, 325701057312, 327735103182, 328541318820, 331000276614, 332684900352, 332685040320, 332693298432, 332693438400, 332705055744, 332705195712, 338489653320, 338498051400, 338519886408, 340130653692, 340916698680, 342851616096, 344181872112, 344302804248, 344302944216, 354723142248, 356658059664]),
  (1950, [22432983696, 74615266584, 152495701062, 152737565760, 152737581312, 322768447704, 327061577124, 335345412102, 335350450950, 335353810182, 335587276800, 335587292352, 335592315648, 335595674880, 335595690432, 353243400552, 354936453270, 355178317968]),
  (1975, [24609766032, 76792048920, 144211873860, 154672483398, 154702716486, 154914348096, 154914363648, 154944581184, 244404283788, 248818346820, 256981248186, 256986287034, 257223112884, 257228151732, 301000629708, 302693682426, 302935547124, 324945230040, 324975463128, 327069975204, 337522194438, 337530592518, 337552427526, 337764059136, 337764074688, 337772457216, 337772472768, 337794292224, 353251798632, 354944851350, 355186716048]),
  (2000, [16991028288, 28963501776, 30233277222, 68084935128, 69052378614, 106481125188, 108476508960, 145300226580, 147295610352, 222575999076, 222576232356, 224329518150, 224571382848, 224571398400, 224571616128, 316238116248, 317205559734, 328149937620, 328158335700, 330145321392, 330145344720, 330145352496, 330153719472, 340122240036, 340122426660, 340130638116, 341875759110, 341875945734, 341884157190, 342117623808, 342117639360, 342117647136, 342117810432, 342117825984, 342117833760, 342126021888, 342126037440]),
  (2010, [19167810642, 23159138328, 29689663536, 30233300550, 31140284130, 32470525782, 38275839828, 43113528288, 51699704580, 68811096888, 69052401942, 70261717482, 71289627174, 75280954860, 110653291314, 116458605360, 129882470112, 149472392706, 153463720392, 223301593188, 223301826468, 224329541478, 225296976960, 225297210240, 225297536832, 226566766710, 226748165202, 226748398482, 263209453380, 265204837152, 265206236832, 302028554772, 304023938544, 304025338224, 316964278008, 317205583062, 318414898602, 319442808294, 323434135980, 332322103746, 332330501826, 336313431432, 336321829512, 340847834148, 340848020772, 340856232228, 340856418852, 341875782438, 341884180518, 342843217920, 342843404544, 342843777792, 342851616000, 342851802624, 342852175872, 344113007670, 344121405750, 344294406162, 344294592786, 344302804242, 354271325652, 354279723732, 356266709424, 356267829168, 356275107504]),
  (2025, [19167810624, 31140284112, 32410059558, 70261717464, 71229160950, 110653291296, 149472392688, 222576014628, 223241127054, 225296977032, 226506300486, 226748165184, 226748180736, 226748305152, 226748398464, 318414898584, 319382342070, 332322103728, 332322134832, 332330501808, 340122255588, 340130653668, 340787368014, 340795766094, 342843217992, 342843241320, 342851616072, 344052541446, 344052681414, 344052728070, 344060939526, 344294406144, 344294421696, 344294546112, 344294561664, 344294592768, 344294608320, 344302804224, 344302819776, 344302944192]),
  (2075, [23521375296, 35493848784, 36763624230, 74615282136, 75582725622, 115006855968, 153825957360, 230859865158, 231101729856, 231101745408, 231101963136, 322768463256, 323735906742, 328149968724, 336675668400, 336680707248, 336684066480, 340122442212, 340787554638, 342843404616, 348406106118, 348411144966, 348414504198, 348647970816, 348647986368, 348648157440, 348653009664, 348656368896, 348656384448, 353243416104, 354210859590, 356266709568, 357113235606, 357355100304, 357355240272]),
  (2100, [25698157632, 37670631120, 38940406566, 76792064472, 77759507958, 106481164068, 117183638304, 117213871392, 145300265460, 156002739696, 156032972784, 222576247908, 223241360334, 225297210312, 233036647494, 233066880582, 233278512192, 233278527744, 233278745472, 233308745280, 244404299340, 245371742826, 249906738420, 258311504484, 258316543332, 261879211908, 263148987354, 265204837332, 270041942202, 270046981050, 270283806900, 270283993524, 270288845748, 301000645260, 301968088746, 304023938724, 304870464762, 305112329460, 305112469428, 324945245592, 324975478680, 325912689078, 325942922166, 328158366804, 338852450736, 338860848816, 338882683824, 340130840292, 340795952718, 342851802696, 350582888454, 350591286534, 350613121542, 350621519622, 350824753152, 350824768704, 350824939776, 350833151232, 350833166784, 350854986240, 350855172864, 350863384320, 353251814184, 354219257670, 356275107648, 357121633686, 357363498384, 357363638352]),
  (2125, [22432984344, 42025136688, 50611312980, 68084942904, 74554800876, 128552213814, 128794078512, 152495701710, 152737566408, 300940163172, 302693682246, 302695081926, 302935546944, 302935562496, 302936946624, 316238124024, 322707981996, 335345412750, 335353810830, 335587277448, 335587293000, 335587308552, 335595675528, 353182934052, 353184053796, 353191332132, 354936453126, 354937572870, 354944851206, 355178317824, 355178333376, 355178341152, 355179437568, 355179453120, 355179460896, 355186715904, 355186731456]),
  (2135, [23158578456, 42750730800, 51336907092, 68810537016, 75280394988, 129519672624, 153463160520, 301665757284, 302693705574, 303661141056, 303661700928, 303662540736, 304930930806, 305112329298, 316963718136, 323433576108, 336312871560, 336321269640, 353908528164, 353916926244, 354936476454, 354944874534, 355903911936, 355904471808, 355905031680, 355912310016, 355912869888, 357173701686, 357182099766, 357355100178, 357363498258]),
  (2140, [23521375512, 43113527856, 51699704148, 69173334072, 75643192044, 129882469680, 153825957576, 302028554340, 304023938112, 304025337792, 317326515192, 323796373164, 335345443854, 336675668616, 336679027848, 336684066696, 340847834172, 341996715024, 342843217944, 342843777816, 348466572996, 348647971488, 354271325220, 354274684452, 354279723300, 354937596198, 356266708992, 356267828736, 356270068224, 356275107072, 357174821430, 357356219922]),
  (2145, [23884172568, 43476324912, 52062501204, 69536131128, 76005989100, 128552252694, 130245266736, 130265422128, 152495740590, 154188754632, 154208910024, 160598187030, 167068045002, 178798515510, 179947340454, 179950699686, 197542997058, 197546356290, 198390667854, 199538380830, 199539500574, 199541740062, 206976844146, 207158242638, 223301593218, 224450474070, 225296976990, 225297536862, 230920332042, 231101730534, 302391351396, 302411506788, 302695105254, 304386735168, 304388134848, 304406890560, 304932330486, 305113728978, 317689312248, 317709467640, 324159170220, 324179325612, 335353841934, 337038465672, 337046863752, 337058621064, 340856232252, 342005113104, 342851616024, 342852175896, 348474971076, 348656369568, 354634122276, 354642520356, 354654277668, 354662675748, 354945994278, 356629506048, 356630625792, 356637904128, 356649661440, 356650781184, 356658059520, 357183219510, 357364618002]),
  (2150, [19167950592, 23158578528, 35493849432, 36763624878, 42750730872, 44202051216, 45471826662, 50611328532, 51276440958, 68810537088, 70261857432, 71229300918, 74554816428, 75219928854, 115006856616, 123715058400, 129519672696, 149472532656, 153463160592, 206916377910, 207158242608, 207158475888, 230859865806, 231101730504, 231101963784, 300940178724, 301605291150, 303661141128, 303662540808, 304870464582, 304871864262, 305112329280, 305112344832, 305112469248, 305113728960, 316963718208, 318415038552, 319382482038, 322707997548, 323373109974, 332322243696, 332322274800, 332330641776, 336312871632, 336312902736, 336321269712, 348406106766, 348406293390, 348414504846, 348647971464, 348647987016, 348648158088, 348648173640, 348656369544, 353182949604, 353184069348, 353191347684, 353848062030, 353849181774, 353856460110, 355903912008, 355903935336, 355905031752, 355905055080, 355912310088, 357113235462, 357113375430, 357114355206, 357114495174, 357121633542, 357122753286, 357355100160, 357355115712, 357355240128, 357355255680, 357356219904, 357356235456, 357356359872, 357356375424, 357363498240, 357363513792, 357363638208, 357364617984])]
def lookG (t : Nat) : List (Nat × List Nat) → List Nat
  | [] => []
  | g :: l => cond (Nat.beq t g.1) g.2 (lookG t l)
def setP (t m p : Nat) : Nat := Nat.add (Nat.sub t (Nat.mul (parM t m) (Nat.pow 5 m))) (Nat.mul p (Nat.pow 5 m))
def goodM (G : List (Nat × List Nat)) (t L R U : Nat) : Bool := cond (hasM (packM L R U) (lookG t G)) (cond (Nat.beq (lM (packM L R U)) L) (cond (Nat.beq (rM (packM L R U)) R) (Nat.beq (uM (packM L R U)) U) false) false) false
def mv1 (t L R U m p : Nat) : Bool := cond (ancM t m p) true (cond (Nat.beq (gC L m) 0) false (goodM G2 (setP t m p) (sC L m 0) R (sC (sC U (Nat.pred (gC L m)) 0) m (Nat.succ p))))
def mvF (t L R U m : Nat) : Bool := cond (Nat.beq m 0) true (cond (expd R U) (cond (mv1 t L R U m 0) (cond (mv1 t L R U m 1) (cond (mv1 t L R U m 2) (cond (mv1 t L R U m 3) (mv1 t L R U m 4) false) false) false) false) true)
def mvM (t s : Nat) : Bool := mvF t (lM s) (rM s) (uM s) (tagM (uM s))
def mvG (t : Nat) (ss : List Nat) : Bool := allM (mvM t) ss
def addM (t : Nat) : Nat := sC (sC (sC (sC 0 1 (Nat.succ (parM t 1))) 2 (Nat.succ (parM t 2))) 3 (Nat.succ (parM t 3))) 4 (Nat.succ (parM t 4))
def treeM (a b c : Nat) : Nat := 25 * a + 125 * b + 625 * c
theorem ok1 : allG okG G1 = true := by decide +kernel
theorem ok2 : allG okG G2 = true := by decide +kernel
theorem okm : allG mvG G1 = true := by decide +kernel
theorem oki : ∀ a, a < 2 → ∀ b, b < 3 → ∀ c, c < 4 → goodM G1 (treeM a b c) 0 0 (addM (treeM a b c)) = true := by decide +kernel
theorem ca {a b : Bool} (h : cond a b false = true) : a = true ∧ b = true := by cases a <;> simp_all
theorem allG_mem {f : Nat → List Nat → Bool} : ∀ {G : List (Nat × List Nat)}, allG f G = true → ∀ {t : Nat} {ss : List Nat}, (t, ss) ∈ G → f t ss = true
  | [], _, _, _, m => by cases m
  | g :: l, h, t, ss, m => by
    obtain ⟨h1, h2⟩ := ca h
    rcases List.mem_cons.mp m with e | m
    · rw [← e] at h1; exact h1
    · exact allG_mem h2 m
theorem allM_has {f : Nat → Bool} {s : Nat} : ∀ {l : List Nat}, allM f l = true → hasM s l = true → f s = true
  | [], _, m => by cases m
  | a :: l, h, m => by
    obtain ⟨h1, h2⟩ := ca h
    cases he : Nat.beq s a with
    | true => rw [Nat.eq_of_beq_eq_true he]; exact h1
    | false => simp only [hasM, he, cond_false] at m; exact allM_has h2 m
theorem hasM_look {t s : Nat} : ∀ {G : List (Nat × List Nat)}, hasM s (lookG t G) = true → ∃ ss, (t, ss) ∈ G ∧ hasM s ss = true
  | [], m => by cases m
  | g :: l, m => by
    cases he : Nat.beq t g.1 with
    | true => simp only [lookG, he, cond_true] at m; exact ⟨g.2, by rw [Nat.eq_of_beq_eq_true he]; exact List.mem_cons_self .., m⟩
    | false => simp only [lookG, he, cond_false] at m; obtain ⟨ss, h1, h2⟩ := hasM_look m; exact ⟨ss, List.mem_cons_of_mem _ h1, h2⟩
def Gd (G : List (Nat × List Nat)) (t L R U : Nat) : Prop := (∃ ss, (t, ss) ∈ G ∧ hasM (packM L R U) ss = true) ∧ lM (packM L R U) = L ∧ rM (packM L R U) = R ∧ uM (packM L R U) = U
theorem Gd.of {G : List (Nat × List Nat)} {t L R U : Nat} (h : goodM G t L R U = true) : Gd G t L R U := by
  obtain ⟨h1, h⟩ := ca h
  obtain ⟨h2, h⟩ := ca h
  obtain ⟨h3, h4⟩ := ca h
  exact ⟨hasM_look h1, Nat.eq_of_beq_eq_true h2, Nat.eq_of_beq_eq_true h3, Nat.eq_of_beq_eq_true h4⟩
theorem five_of {t s b : Nat} {ss : List Nat} (h : fiveM t ss s = true) (hb : b < 5) : oneM t ss s b = true := by
  obtain ⟨h0, h⟩ := ca h
  obtain ⟨h1, h⟩ := ca h
  obtain ⟨h2, h⟩ := ca h
  obtain ⟨h3, h4⟩ := ca h
  match b, hb with
  | 0, _ => exact h0
  | 1, _ => exact h1
  | 2, _ => exact h2
  | 3, _ => exact h3
  | 4, _ => exact h4
theorem Gd.step {G : List (Nat × List Nat)} (ok : allG okG G = true) {t L R U b : Nat} (g : Gd G t L R U) (hb : b < 5) :
    ∃ L' R' U' c, expM L R U b = some (L', R', U', c) ∧ Gd G t L' R' U' ∧ tagM U' = b ∧ expd R' U' = true ∧ (expd R U = true → Nat.beq c (tagM U + 1) = ancM t (tagM U) b) := by
  obtain ⟨⟨ss, hm, hs⟩, e1, e2, e3⟩ := g
  have h2 := five_of (allM_has (allG_mem ok hm) hs) hb
  unfold oneM at h2
  rw [e1, e2, e3] at h2
  rcases he : expM L R U b with _ | ⟨L', R', U', c⟩
  · rw [he] at h2; cases h2
  · rw [he] at h2
    obtain ⟨a1, h2⟩ := ca h2
    obtain ⟨a2, h2⟩ := ca h2
    obtain ⟨a3, h2⟩ := ca h2
    obtain ⟨a4, h2⟩ := ca h2
    obtain ⟨a5, h2⟩ := ca h2
    obtain ⟨a6, h2⟩ := ca h2
    refine ⟨L', R', U', c, rfl, ⟨⟨ss, hm, a1⟩, Nat.eq_of_beq_eq_true a2, Nat.eq_of_beq_eq_true a3, Nat.eq_of_beq_eq_true a4⟩, Nat.eq_of_beq_eq_true a5, a6, fun hx => ?_⟩
    rw [hx] at h2
    cases ha : ancM t (tagM U) b with
    | true => rw [ha] at h2; exact h2
    | false =>
      rw [ha] at h2
      change Nat.beq c (Nat.succ (tagM U)) = false
      cases hc : Nat.beq c (Nat.succ (tagM U)) with
      | true => rw [hc] at h2; cases h2
      | false => rfl
/-- isSelfOrAncestor(a, b) -/
theorem Gd.query {G : List (Nat × List Nat)} (ok : allG okG G = true) {t L R U a b : Nat} (g : Gd G t L R U) (ha : a < 5) (hb : b < 5) :
    ∃ L1 R1 U1 c1 L2 R2 U2 c2, expM L R U a = some (L1, R1, U1, c1) ∧ expM L1 R1 U1 b = some (L2, R2, U2, c2) ∧ Gd G t L2 R2 U2 ∧ Nat.beq c2 (a + 1) = ancM t a b := by
  obtain ⟨L1, R1, U1, c1, q1, g1, t1, x1, -⟩ := g.step ok ha
  obtain ⟨L2, R2, U2, c2, q2, g2, t2, x2, r2⟩ := g1.step ok hb
  refine ⟨L1, R1, U1, c1, L2, R2, U2, c2, q1, q2, g2, ?_⟩
  have r := r2 x1
  rw [t1] at r
  exact r
theorem Gd.moved {t L R U m p : Nat} (g : Gd G1 t L R U) (h1 : 1 ≤ m) (hm : m < 5) (hp : p < 5) (ha : ancM t m p = false) :
    ∃ L1 R1 U1 c P, expM L R U m = some (L1, R1, U1, c) ∧ gC L1 m = P + 1 ∧ Gd G2 (setP t m p) (sC L1 m 0) R1 (sC (sC U1 P 0) m (p + 1)) := by
  obtain ⟨L1, R1, U1, c, q1, g1, t1, x1, -⟩ := g.step ok1 hm
  obtain ⟨⟨ss, hmm, hs⟩, e1, e2, e3⟩ := g1
  have h2 := allM_has (f := mvM t) (allG_mem (f := mvG) okm hmm) hs
  unfold mvM at h2
  rw [e1, e2, e3, t1] at h2
  have z : Nat.beq m 0 = false := by cases m with
    | zero => omega
    | succ n => rfl
  unfold mvF at h2
  rw [z, x1] at h2
  have h3 : mv1 t L1 R1 U1 m p = true := by
    obtain ⟨b0, h2⟩ := ca h2
    obtain ⟨b1, h2⟩ := ca h2
    obtain ⟨b2, h2⟩ := ca h2
    obtain ⟨b3, b4⟩ := ca h2
    match p, hp with
    | 0, _ => exact b0
    | 1, _ => exact b1
    | 2, _ => exact b2
    | 3, _ => exact b3
    | 4, _ => exact b4
  unfold mv1 at h3
  rw [ha] at h3
  cases hz : gC L1 m with
  | zero => rw [hz] at h3; cases h3
  | succ P =>
    rw [hz] at h3
    exact ⟨L1, R1, U1, c, P, q1, hz, Gd.of h3⟩
theorem Gd.init {a b c : Nat} (ha : a < 2) (hb : b < 3) (hc : c < 4) : Gd G1 (treeM a b c) 0 0 (addM (treeM a b c)) := Gd.of (oki a ha b hb c hc)
theorem parM_lt (t x : Nat) : parM t x < 5 := Nat.mod_lt _ (by decide)
theorem parM_tree {a b c : Nat} (ha : a < 2) (hb : b < 3) (hc : c < 4) : parM (treeM a b c) 0 = 0 ∧ parM (treeM a b c) 1 = 0 ∧ parM (treeM a b c) 2 = a ∧ parM (treeM a b c) 3 = b ∧ parM (treeM a b c) 4 = c := by
  refine ⟨?_, ?_, ?_, ?_, ?_⟩
  · show (25 * a + 125 * b + 625 * c) / 1 % 5 = 0; omega
  · show (25 * a + 125 * b + 625 * c) / 5 % 5 = 0; omega
  · show (25 * a + 125 * b + 625 * c) / 25 % 5 = a; omega
  · show (25 * a + 125 * b + 625 * c) / 125 % 5 = b; omega
  · show (25 * a + 125 * b + 625 * c) / 625 % 5 = c; omega
theorem lt5 {P : Nat → Prop} (h0 : P 0) (h1 : P 1) (h2 : P 2) (h3 : P 3) (h4 : P 4) : ∀ i, i < 5 → P i := by
  intro i hi
  match i, hi with
  | 0, _ => exact h0
  | 1, _ => exact h1
  | 2, _ => exact h2
  | 3, _ => exact h3
  | 4, _ => exact h4
theorem setP_same (t p : Nat) (hp : p < 5) : ∀ m, m < 5 → parM (setP t m p) m = p := by
  refine lt5 ?_ ?_ ?_ ?_ ?_
  · show (t - t / 1 % 5 * 1 + p * 1) / 1 % 5 = p; omega
  · show (t - t / 5 % 5 * 5 + p * 5) / 5 % 5 = p; omega
  · show (t - t / 25 % 5 * 25 + p * 25) / 25 % 5 = p; omega
  · show (t - t / 125 % 5 * 125 + p * 125) / 125 % 5 = p; omega
  · show (t - t / 625 % 5 * 625 + p * 625) / 625 % 5 = p; omega
theorem setP_ne (t p : Nat) (hp : p < 5) : ∀ m, m < 5 → ∀ i, i < 5 → ¬ i = m → parM (setP t m p) i = parM t i := by
  refine lt5 ?_ ?_ ?_ ?_ ?_ <;> refine lt5 ?_ ?_ ?_ ?_ ?_
  · exact fun h => absurd rfl h
  · intro; show (t - t / 1 % 5 * 1 + p * 1) / 5 % 5 = t / 5 % 5; omega
  · intro; show (t - t / 1 % 5 * 1 + p * 1) / 25 % 5 = t / 25 % 5; omega
  · intro; show (t - t / 1 % 5 * 1 + p * 1) / 125 % 5 = t / 125 % 5; omega
  · intro; show (t - t / 1 % 5 * 1 + p * 1) / 625 % 5 = t / 625 % 5; omega
  · intro; show (t - t / 5 % 5 * 5 + p * 5) / 1 % 5 = t / 1 % 5; omega
  · exact fun h => absurd rfl h
  · intro; show (t - t / 5 % 5 * 5 + p * 5) / 25 % 5 = t / 25 % 5; omega
  · intro; show (t - t / 5 % 5 * 5 + p * 5) / 125 % 5 = t / 125 % 5; omega
  · intro; show (t - t / 5 % 5 * 5 + p * 5) / 625 % 5 = t / 625 % 5; omega
  · intro; show (t - t / 25 % 5 * 25 + p * 25) / 1 % 5 = t / 1 % 5; omega
  · intro; show (t - t / 25 % 5 * 25 + p * 25) / 5 % 5 = t / 5 % 5; omega
  · exact fun h => absurd rfl h
  · intro; show (t - t / 25 % 5 * 25 + p * 25) / 125 % 5 = t / 125 % 5; omega
  · intro; show (t - t / 25 % 5 * 25 + p * 25) / 625 % 5 = t / 625 % 5; omega
  · intro; show (t - t / 125 % 5 * 125 + p * 125) / 1 % 5 = t / 1 % 5; omega
  · intro; show (t - t / 125 % 5 * 125 + p * 125) / 5 % 5 = t / 5 % 5; omega
  · intro; show (t - t / 125 % 5 * 125 + p * 125) / 25 % 5 = t / 25 % 5; omega
  · exact fun h => absurd rfl h
  · intro; show (t - t / 125 % 5 * 125 + p * 125) / 625 % 5 = t / 625 % 5; omega
  · intro; show (t - t / 625 % 5 * 625 + p * 625) / 1 % 5 = t / 1 % 5; omega
  · intro; show (t - t / 625 % 5 * 625 + p * 625) / 5 % 5 = t / 5 % 5; omega
  · intro; show (t - t / 625 % 5 * 625 + p * 625) / 25 % 5 = t / 25 % 5; omega
  · intro; show (t - t / 625 % 5 * 625 + p * 625) / 125 % 5 = t / 125 % 5; omega
  · exact fun h => absurd rfl h
theorem gs_same (t p : Nat) (hp : p < 6) : ∀ m, m < 5 → gC (sC t m p) m = p := by
  refine lt5 ?_ ?_ ?_ ?_ ?_
  · show (t - t / 1 % 6 * 1 + p * 1) / 1 % 6 = p; omega
  · show (t - t / 6 % 6 * 6 + p * 6) / 6 % 6 = p; omega
  · show (t - t / 36 % 6 * 36 + p * 36) / 36 % 6 = p; omega
  · show (t - t / 216 % 6 * 216 + p * 216) / 216 % 6 = p; omega
  · show (t - t / 1296 % 6 * 1296 + p * 1296) / 1296 % 6 = p; omega
theorem gs_ne (t p : Nat) (hp : p < 6) : ∀ m, m < 5 → ∀ i, i < 5 → ¬ i = m → gC (sC t m p) i = gC t i := by
  refine lt5 ?_ ?_ ?_ ?_ ?_ <;> refine lt5 ?_ ?_ ?_ ?_ ?_
  · exact fun h => absurd rfl h
  · intro; show (t - t / 1 % 6 * 1 + p * 1) / 6 % 6 = t / 6 % 6; omega
  · intro; show (t - t / 1 % 6 * 1 + p * 1) / 36 % 6 = t / 36 % 6; omega
  · intro; show (t - t / 1 % 6 * 1 + p * 1) / 216 % 6 = t / 216 % 6; omega
  · intro; show (t - t / 1 % 6 * 1 + p * 1) / 1296 % 6 = t / 1296 % 6; omega
  · intro; show (t - t / 6 % 6 * 6 + p * 6) / 1 % 6 = t / 1 % 6; omega
  · exact fun h => absurd rfl h
  · intro; show (t - t / 6 % 6 * 6 + p * 6) / 36 % 6 = t / 36 % 6; omega
  · intro; show (t - t / 6 % 6 * 6 + p * 6) / 216 % 6 = t / 216 % 6; omega
  · intro; show (t - t / 6 % 6 * 6 + p * 6) / 1296 % 6 = t / 1296 % 6; omega
  · intro; show (t - t / 36 % 6 * 36 + p * 36) / 1 % 6 = t / 1 % 6; omega
  · intro; show (t - t / 36 % 6 * 36 + p * 36) / 6 % 6 = t / 6 % 6; omega
  · exact fun h => absurd rfl h
  · intro; show (t - t / 36 % 6 * 36 + p * 36) / 216 % 6 = t / 216 % 6; omega
  · intro; show (t - t / 36 % 6 * 36 + p * 36) / 1296 % 6 = t / 1296 % 6; omega
  · intro; show (t - t / 216 % 6 * 216 + p * 216) / 1 % 6 = t / 1 % 6; omega
  · intro; show (t - t / 216 % 6 * 216 + p * 216) / 6 % 6 = t / 6 % 6; omega
  · intro; show (t - t / 216 % 6 * 216 + p * 216) / 36 % 6 = t / 36 % 6; omega
  · exact fun h => absurd rfl h
  · intro; show (t - t / 216 % 6 * 216 + p * 216) / 1296 % 6 = t / 1296 % 6; omega
  · intro; show (t - t / 1296 % 6 * 1296 + p * 1296) / 1 % 6 = t / 1 % 6; omega
  · intro; show (t - t / 1296 % 6 * 1296 + p * 1296) / 6 % 6 = t / 6 % 6; omega
  · intro; show (t - t / 1296 % 6 * 1296 + p * 1296) / 36 % 6 = t / 36 % 6; omega
  · intro; show (t - t / 1296 % 6 * 1296 + p * 1296) / 216 % 6 = t / 216 % 6; omega
  · exact fun h => absurd rfl h
theorem gC_lt (C i : Nat) : gC C i < 6 := Nat.mod_lt _ (by decide)
theorem gC_0 (i : Nat) : gC 0 i = 0 := by show 0 / 6 ^ i % 6 = 0; simp
theorem bt {a b : Nat} (h : a = b) : Nat.beq a b = true := by subst h; exact Nat.beq_refl a
theorem bf {a b : Nat} (h : ¬ a = b) : Nat.beq a b = false := by
  cases q : Nat.beq a b with
  | true => exact absurd (Nat.eq_of_beq_eq_true q) h
  | false => rfl
theorem anc_zero {t a : Nat} (h0 : parM t 0 = 0) (ha : ¬ a = 0) : ∀ k, ancR t a k 0 = false
  | 0 => bf (fun h => ha h.symm)
  | k + 1 => by
    have e : Nat.beq 0 a = false := bf (fun h => ha h.symm)
    simp only [ancR, e, cond_false, h0]; exact anc_zero h0 ha k
/-- the chain of the second law, on codes: 0 is none -/
def nxt (t y : Nat) : Nat := cond (Nat.beq y 0) 0 (cond (Nat.beq y 1) 0 (parM t (Nat.pred y) + 1))
def refR (t a : Nat) : Nat → Nat → Bool
  | 0, y => Nat.beq (a + 1) y
  | k + 1, y => cond (Nat.beq (a + 1) y) true (refR t a k (nxt t y))
theorem ref_none {t a : Nat} : ∀ k, refR t a k 0 = false
  | 0 => rfl
  | k + 1 => ref_none k
theorem beq_comm (a b : Nat) : Nat.beq a b = Nat.beq b a := by
  by_cases h : a = b
  · rw [bt h, bt h.symm]
  · rw [bf h, bf (fun q => h q.symm)]
theorem ref_anc {t a : Nat} (h0 : parM t 0 = 0) : ∀ k y, refR t a k (y + 1) = ancR t a k y
  | 0, y => by show Nat.beq a y = Nat.beq y a; exact beq_comm a y
  | k + 1, y => by
    have e : Nat.beq (a + 1) (y + 1) = Nat.beq y a := beq_comm a y
    simp only [refR, ancR, e]
    cases hb : Nat.beq y a with
    | true => rfl
    | false =>
      simp only [cond_false]
      cases y with
      | zero =>
        show refR t a k 0 = _
        have ha : ¬ a = 0 := fun h => by rw [h] at hb; cases hb
        rw [ref_none, h0, anc_zero h0 ha]
      | succ y => exact ref_anc h0 k _
theorem nxt_lt (t y : Nat) : nxt t y < 6 := by
  unfold nxt
  have q := parM_lt t (Nat.pred y)
  generalize parM t (Nat.pred y) = z at *
  cases Nat.beq y 0 <;> cases Nat.beq y 1 <;> simp only [cond_true, cond_false] <;> omega
theorem root_n {L R U x : Nat} (h : gC U x = 0) : rootM L R U x = true := by simp only [rootM, h, bt, cond_true]
theorem root_l {L R U x P : Nat} (h : gC U x = P + 1) (hl : gC L P = x + 1) : rootM L R U x = false := by simp only [rootM, h, bf (Nat.succ_ne_zero P), Nat.pred_succ, hl, bt, cond_true, cond_false, Nat.pred, Nat.succ_eq_add_one]
theorem root_r {L R U x P : Nat} (h : gC U x = P + 1) (hl : ¬ gC L P = x + 1) (hr : gC R P = x + 1) : rootM L R U x = false := by simp only [rootM, h, bf (Nat.succ_ne_zero P), Nat.pred, bf hl, hr, bt, cond_true, cond_false, Nat.succ_eq_add_one]
theorem root_o {L R U x P : Nat} (h : gC U x = P + 1) (hl : ¬ gC L P = x + 1) (hr : ¬ gC R P = x + 1) : rootM L R U x = true := by simp only [rootM, h, bf (Nat.succ_ne_zero P), Nat.pred, bf hl, bf hr, cond_true, cond_false, Nat.succ_eq_add_one]
theorem root_up {L R U x : Nat} (h : rootM L R U x = false) : ∃ P, gC U x = P + 1 := by
  cases hu : gC U x with
  | zero => rw [root_n hu] at h; cases h
  | succ P => exact ⟨P, rfl⟩
theorem spl_done {k L R U x Lf Rf Uf : Nat} (hr : rootM L R U x = true) (h : splM k L R U x = some (Lf, Rf, Uf)) : L = Lf ∧ R = Rf ∧ U = Uf := by
  cases k <;> (simp only [splM, hr, cond_true, Option.some.injEq, Prod.mk.injEq] at h; exact h)
theorem spl_step {k L R U x Lf Rf Uf : Nat} (hr : rootM L R U x = false) (h : splM k L R U x = some (Lf, Rf, Uf)) : ∃ k' P L1 R1 U1 P1 L2 R2 U2, k = k' + 1 ∧ gC U x = P + 1 ∧ s1M L R U x P = some (L1, R1, U1) ∧ gC U1 x = P1 + 1 ∧ rotM L1 R1 U1 x = some (L2, R2, U2) ∧ splM k' L2 R2 U2 x = some (Lf, Rf, Uf) := by
  cases k with
  | zero => simp only [splM, hr, cond_false] at h; cases h
  | succ k =>
    obtain ⟨P, hP⟩ := root_up hr
    simp only [splM, hr, cond_false, hP, Nat.pred] at h
    rcases e1 : s1M L R U x P with _ | ⟨L1, R1, U1⟩
    · rw [e1] at h; cases h
    · rw [e1] at h
      simp only [s2M] at h
      cases hu : gC U1 x with
      | zero => rw [hu] at h; cases h
      | succ P1 =>
        rw [hu] at h
        rcases e2 : rotM L1 R1 U1 x with _ | ⟨L2, R2, U2⟩
        · rw [e2] at h; cases h
        · rw [e2] at h
          exact ⟨k, P, L1, R1, U1, P1, L2, R2, U2, rfl, hP, e1, hu, e2, h⟩
theorem s1_t {L R U x P L1 R1 U1 : Nat} (hr : rootM L R U P = true) (h : s1M L R U x P = some (L1, R1, U1)) : L = L1 ∧ R = R1 ∧ U = U1 := by
  simp only [s1M, hr, cond_true, Option.some.injEq, Prod.mk.injEq] at h; exact h
theorem s1_P {L R U x P G L1 R1 U1 : Nat} (hr : rootM L R U P = false) (hg : gC U P = G + 1) (hs : (gC L G = P + 1 ∧ gC L P = x + 1) ∨ (¬ gC L G = P + 1 ∧ ¬ gC L P = x + 1)) (h : s1M L R U x P = some (L1, R1, U1)) : rotM L R U P = some (L1, R1, U1) := by
  rcases hs with ⟨a, b⟩ | ⟨a, b⟩
  · simpa only [s1M, hr, cond_false, strM, hg, Nat.pred, a, b, bt, cond_true, Nat.succ_eq_add_one] using h
  · simpa only [s1M, hr, cond_false, strM, hg, Nat.pred, bf a, bf b, Nat.succ_eq_add_one] using h
theorem s1_x {L R U x P G L1 R1 U1 : Nat} (hr : rootM L R U P = false) (hg : gC U P = G + 1) (hs : (gC L G = P + 1 ∧ ¬ gC L P = x + 1) ∨ (¬ gC L G = P + 1 ∧ gC L P = x + 1)) (h : s1M L R U x P = some (L1, R1, U1)) : rotM L R U x = some (L1, R1, U1) := by
  rcases hs with ⟨a, b⟩ | ⟨a, b⟩
  · simpa only [s1M, hr, cond_false, strM, hg, Nat.pred, a, bf b, bt, cond_true, Nat.succ_eq_add_one] using h
  · simpa only [s1M, hr, cond_false, strM, hg, Nat.pred, bf a, b, bt, cond_true, Nat.succ_eq_add_one] using h
theorem expL_done {k L R U b Lf Rf Uf bf : Nat} (h : expL k L R U 0 b = some (Lf, Rf, Uf, bf)) : L = Lf ∧ R = Rf ∧ U = Uf ∧ b = bf := by
  cases k <;> (simp only [expL, bt, cond_true, Option.some.injEq, Prod.mk.injEq] at h; exact h)
theorem expL_step {k L R U n b Lf Rf Uf bf : Nat} (h : expL k L R U (n + 1) b = some (Lf, Rf, Uf, bf)) : ∃ k' L1 R1 U1, k = k' + 1 ∧ splM 3 L R U n = some (L1, R1, U1) ∧ expL k' L1 (sC R1 n b) U1 (gC U1 n) (n + 1) = some (Lf, Rf, Uf, bf) := by
  have z : Nat.beq (n + 1) 0 = false := rfl
  cases k with
  | zero => simp only [expL, z, cond_false] at h; cases h
  | succ k =>
    simp only [expL, z, cond_false, Nat.pred] at h
    rcases e : splM 3 L R U n with _ | ⟨L1, R1, U1⟩
    · rw [e] at h; cases h
    · rw [e] at h; exact ⟨k, L1, R1, U1, rfl, rfl, h⟩
theorem exp_inv {L R U x L2 R2 U2 c : Nat} (h : expM L R U x = some (L2, R2, U2, c)) : ∃ La Ra Ua, expL 6 L R U (x + 1) 0 = some (La, Ra, Ua, c) ∧ splM 3 La Ra Ua x = some (L2, R2, U2) := by
  unfold expM at h
  rcases e : expL 6 L R U (Nat.succ x) 0 with _ | ⟨La, Ra, Ua, b⟩
  · rw [e] at h; cases h
  · rw [e] at h
    simp only [expE] at h
    rcases e2 : splM 3 La Ra Ua x with _ | ⟨A, B, C⟩
    · rw [e2] at h; cases h
    · rw [e2] at h
      simp only [Option.some.injEq, Prod.mk.injEq] at h
      obtain ⟨h1, h2, h3, h4⟩ := h
      subst h1 h2 h3 h4
      exact ⟨La, Ra, Ua, rfl, e2⟩
set_option maxRecDepth 512
theorem T3i {a b c a' b' c' : Nat} (h : (some (a, b, c) : T3) = some (a', b', c')) : a = a' ∧ b = b' ∧ c = c' := by simpa only [Option.some.injEq, Prod.mk.injEq] using h
/-- a local that holds no long -/
def Pl (x : Slot) : Prop := match x with | .second => False | .val old => old.category = 1 | .unset => True
theorem store_pl {l : Array Slot} {i : Nat} {x : Slot} {v : Value} (hx : l[i]? = some x) (hv : v.category = 1) (h : Pl x) : storeLocals l i v = some (l.setIfInBounds i (.val v)) := by
  cases x with
  | second => exact False.elim h
  | val old => exact storeLocals_cat1 hx hv h
  | unset => exact storeLocals_cat1 hx hv trivial
def bI (b : Bool) : Int32 := cond b 1 0
def dec (C i : Nat) : Int32 := Int32.ofInt ((gC C i : Int) - 1)
/-- the int v stands for the code c: 0 none, k + 1 the node k -/
def Cd (v : Int32) (c : Nat) : Prop := v.toInt = (c : Int) - 1 ∧ c < 6
theorem cd_dec (C i : Nat) : Cd (dec C i) (gC C i) := by
  have q := gC_lt C i
  refine ⟨?_, q⟩
  show (Int32.ofInt ((gC C i : Int) - 1)).toInt = _
  rw [Int32.toInt_ofInt_of_le] <;> omega
theorem Cd.ix {v : Int32} {k : Nat} (h : Cd v (k + 1)) : v.toInt = (k : Int) := by have := h.1; omega
theorem Cd.lt {v : Int32} {k : Nat} (h : Cd v (k + 1)) : k < 5 := by have := h.2; omega
theorem cd_m1 : Cd (-1 : Int32) 0 := ⟨rfl, by decide⟩
theorem Cd.eq {u v : Int32} {c d : Nat} (p : Cd u c) (q : Cd v d) (h : u.toInt = v.toInt) : c = d := by have := p.1; have := q.1; omega
theorem Cd.ne {u v : Int32} {c d : Nat} (p : Cd u c) (q : Cd v d) (h : ¬ u.toInt = v.toInt) : ¬ c = d := by have := p.1; have := q.1; omega
theorem Cd.pos {u v : Int32} {c : Nat} (p : Cd u c) (q : Cd v 0) (h : ¬ u.toInt = v.toInt) : ∃ k, c = k + 1 := by
  cases c with
  | zero => exact absurd (by rw [p.1, q.1]) h
  | succ k => exact ⟨k, rfl⟩
theorem Cd.of {v : Int32} {k : Nat} (h : v.toInt = (k : Int)) (hk : k < 5) : Cd v (k + 1) := ⟨by omega, by omega⟩
theorem upd_cd {C i : Nat} {v : Int32} {c : Nat} (hi : i < 5) (hv : Cd v c) : ∀ j, j < 5 → updF (dec C) i v j = dec (sC C i c) j := by
  intro j hj
  by_cases e : j = i
  · subst e
    rw [updF_same]
    have q := cd_dec (sC C j c) j
    rw [gs_same C c hv.2 j hi] at q
    exact Int32.toInt_inj.mp (hv.1.trans q.1.symm)
  · rw [updF_ne _ _ e]
    have q := cd_dec (sC C i c) j
    rw [gs_ne C c hv.2 i hi j hj e] at q
    exact Int32.toInt_inj.mp ((cd_dec C j).1.trans q.1.symm)
theorem fill_dec : ∀ j, j < 5 → (fun _ => (-1 : Int32)) j = dec 0 j := by
  intro j _
  have q := cd_dec 0 j
  rw [gC_0] at q
  exact Int32.toInt_inj.mp (cd_m1.1.trans q.1.symm)
abbrev AncO (Z : State) (h : Heap) (t l r u : Addr) : Prop := Exa Z h t "com/example/rostra/rostra/tree/Ancestry" ∧ Fld Z h t "com/example/rostra/rostra/tree/Ancestry" "left" "[I" (.ref l) ∧ Fld Z h t "com/example/rostra/rostra/tree/Ancestry" "right" "[I" (.ref r) ∧ Fld Z h t "com/example/rostra/rostra/tree/Ancestry" "up" "[I" (.ref u)
abbrev Tr (Z : State) (h : Heap) (l r u : Addr) (L R U : Nat) : Prop := AI Z h l .int 5 (dec L) ∧ AI Z h r .int 5 (dec R) ∧ AI Z h u .int 5 (dec U)
abbrev Sep (n0 : Nat) (t l r u : Addr) : Prop := (n0 ≤ l ∧ n0 ≤ r ∧ n0 ≤ u) ∧ t ≠ l ∧ t ≠ r ∧ t ≠ u ∧ l ≠ r ∧ l ≠ u ∧ r ≠ u
theorem rot_l0t {L R U x P : Nat} (hP : gC U x = P + 1) (hl : gC L P = x + 1) (hc : gC R x = 0) (hr : rootM L R U P = true) : rotM L R U x = some ((sC L P (gC R x)), (sC R x (P + 1)), (sC (sC U P (x + 1)) x (gC U P))) := by
  have b1 : Nat.beq (gC L P) (Nat.succ x) = true := bt hl
  have u1 : upM U (gC R x) (P + 1) = U := by unfold upM; rw [hc]; rfl
  unfold rotM; rw [hP]; show rotP L R U x (P + 1) P (gC U P) = _; unfold rotP; rw [b1, u1]
  show rotE (rootM L R U P) _ _ _ _ _ _ = _; rw [hr]; rfl
theorem rot_l0l {L R U x P G : Nat} (hP : gC U x = P + 1) (hl : gC L P = x + 1) (hc : gC R x = 0) (hr : rootM L R U P = false) (hG : gC U P = G + 1) (hg : gC (sC L P (gC R x)) G = P + 1) : rotM L R U x = some ((sC (sC L P (gC R x)) G (x + 1)), (sC R x (P + 1)), (sC (sC U P (x + 1)) x (gC U P))) := by
  have b1 : Nat.beq (gC L P) (Nat.succ x) = true := bt hl
  have u1 : upM U (gC R x) (P + 1) = U := by unfold upM; rw [hc]; rfl
  unfold rotM; rw [hP]; show rotP L R U x (P + 1) P (gC U P) = _; unfold rotP; rw [b1, u1]
  show rotE (rootM L R U P) _ _ _ _ _ _ = _; rw [hr]; unfold rotE; rw [show Nat.pred (gC U P) = G from by rw [hG]; rfl]
  show cond (Nat.beq (gC (sC L P (gC R x)) G) (P + 1)) _ _ = _; rw [bt hg]; rfl
theorem rot_l0r {L R U x P G : Nat} (hP : gC U x = P + 1) (hl : gC L P = x + 1) (hc : gC R x = 0) (hr : rootM L R U P = false) (hG : gC U P = G + 1) (hg : ¬ gC (sC L P (gC R x)) G = P + 1) : rotM L R U x = some ((sC L P (gC R x)), (sC (sC R x (P + 1)) G (x + 1)), (sC (sC U P (x + 1)) x (gC U P))) := by
  have b1 : Nat.beq (gC L P) (Nat.succ x) = true := bt hl
  have u1 : upM U (gC R x) (P + 1) = U := by unfold upM; rw [hc]; rfl
  unfold rotM; rw [hP]; show rotP L R U x (P + 1) P (gC U P) = _; unfold rotP; rw [b1, u1]
  show rotE (rootM L R U P) _ _ _ _ _ _ = _; rw [hr]; unfold rotE; rw [show Nat.pred (gC U P) = G from by rw [hG]; rfl]
  show cond (Nat.beq (gC (sC L P (gC R x)) G) (P + 1)) _ _ = _; rw [bf hg]; rfl
theorem rot_l1t {L R U x P c : Nat} (hP : gC U x = P + 1) (hl : gC L P = x + 1) (hc : gC R x = c + 1) (hr : rootM L R U P = true) : rotM L R U x = some ((sC L P (gC R x)), (sC R x (P + 1)), (sC (sC (sC U c (P + 1)) P (x + 1)) x (gC U P))) := by
  have b1 : Nat.beq (gC L P) (Nat.succ x) = true := bt hl
  have u1 : upM U (gC R x) (P + 1) = (sC U c (P + 1)) := by unfold upM; rw [hc]; rfl
  unfold rotM; rw [hP]; show rotP L R U x (P + 1) P (gC U P) = _; unfold rotP; rw [b1, u1]
  show rotE (rootM L R U P) _ _ _ _ _ _ = _; rw [hr]; rfl
theorem rot_l1l {L R U x P c G : Nat} (hP : gC U x = P + 1) (hl : gC L P = x + 1) (hc : gC R x = c + 1) (hr : rootM L R U P = false) (hG : gC U P = G + 1) (hg : gC (sC L P (gC R x)) G = P + 1) : rotM L R U x = some ((sC (sC L P (gC R x)) G (x + 1)), (sC R x (P + 1)), (sC (sC (sC U c (P + 1)) P (x + 1)) x (gC U P))) := by
  have b1 : Nat.beq (gC L P) (Nat.succ x) = true := bt hl
  have u1 : upM U (gC R x) (P + 1) = (sC U c (P + 1)) := by unfold upM; rw [hc]; rfl
  unfold rotM; rw [hP]; show rotP L R U x (P + 1) P (gC U P) = _; unfold rotP; rw [b1, u1]
  show rotE (rootM L R U P) _ _ _ _ _ _ = _; rw [hr]; unfold rotE; rw [show Nat.pred (gC U P) = G from by rw [hG]; rfl]
  show cond (Nat.beq (gC (sC L P (gC R x)) G) (P + 1)) _ _ = _; rw [bt hg]; rfl
theorem rot_l1r {L R U x P c G : Nat} (hP : gC U x = P + 1) (hl : gC L P = x + 1) (hc : gC R x = c + 1) (hr : rootM L R U P = false) (hG : gC U P = G + 1) (hg : ¬ gC (sC L P (gC R x)) G = P + 1) : rotM L R U x = some ((sC L P (gC R x)), (sC (sC R x (P + 1)) G (x + 1)), (sC (sC (sC U c (P + 1)) P (x + 1)) x (gC U P))) := by
  have b1 : Nat.beq (gC L P) (Nat.succ x) = true := bt hl
  have u1 : upM U (gC R x) (P + 1) = (sC U c (P + 1)) := by unfold upM; rw [hc]; rfl
  unfold rotM; rw [hP]; show rotP L R U x (P + 1) P (gC U P) = _; unfold rotP; rw [b1, u1]
  show rotE (rootM L R U P) _ _ _ _ _ _ = _; rw [hr]; unfold rotE; rw [show Nat.pred (gC U P) = G from by rw [hG]; rfl]
  show cond (Nat.beq (gC (sC L P (gC R x)) G) (P + 1)) _ _ = _; rw [bf hg]; rfl
theorem rot_r0t {L R U x P : Nat} (hP : gC U x = P + 1) (hl : ¬ gC L P = x + 1) (hc : gC L x = 0) (hr : rootM L R U P = true) : rotM L R U x = some ((sC L x (P + 1)), (sC R P (gC L x)), (sC (sC U P (x + 1)) x (gC U P))) := by
  have b1 : Nat.beq (gC L P) (Nat.succ x) = false := bf hl
  have u1 : upM U (gC L x) (P + 1) = U := by unfold upM; rw [hc]; rfl
  unfold rotM; rw [hP]; show rotP L R U x (P + 1) P (gC U P) = _; unfold rotP; rw [b1, u1]
  show rotE (rootM L R U P) _ _ _ _ _ _ = _; rw [hr]; rfl
theorem rot_r0l {L R U x P G : Nat} (hP : gC U x = P + 1) (hl : ¬ gC L P = x + 1) (hc : gC L x = 0) (hr : rootM L R U P = false) (hG : gC U P = G + 1) (hg : gC (sC L x (P + 1)) G = P + 1) : rotM L R U x = some ((sC (sC L x (P + 1)) G (x + 1)), (sC R P (gC L x)), (sC (sC U P (x + 1)) x (gC U P))) := by
  have b1 : Nat.beq (gC L P) (Nat.succ x) = false := bf hl
  have u1 : upM U (gC L x) (P + 1) = U := by unfold upM; rw [hc]; rfl
  unfold rotM; rw [hP]; show rotP L R U x (P + 1) P (gC U P) = _; unfold rotP; rw [b1, u1]
  show rotE (rootM L R U P) _ _ _ _ _ _ = _; rw [hr]; unfold rotE; rw [show Nat.pred (gC U P) = G from by rw [hG]; rfl]
  show cond (Nat.beq (gC (sC L x (P + 1)) G) (P + 1)) _ _ = _; rw [bt hg]; rfl
theorem rot_r0r {L R U x P G : Nat} (hP : gC U x = P + 1) (hl : ¬ gC L P = x + 1) (hc : gC L x = 0) (hr : rootM L R U P = false) (hG : gC U P = G + 1) (hg : ¬ gC (sC L x (P + 1)) G = P + 1) : rotM L R U x = some ((sC L x (P + 1)), (sC (sC R P (gC L x)) G (x + 1)), (sC (sC U P (x + 1)) x (gC U P))) := by
  have b1 : Nat.beq (gC L P) (Nat.succ x) = false := bf hl
  have u1 : upM U (gC L x) (P + 1) = U := by unfold upM; rw [hc]; rfl
  unfold rotM; rw [hP]; show rotP L R U x (P + 1) P (gC U P) = _; unfold rotP; rw [b1, u1]
  show rotE (rootM L R U P) _ _ _ _ _ _ = _; rw [hr]; unfold rotE; rw [show Nat.pred (gC U P) = G from by rw [hG]; rfl]
  show cond (Nat.beq (gC (sC L x (P + 1)) G) (P + 1)) _ _ = _; rw [bf hg]; rfl
theorem rot_r1t {L R U x P c : Nat} (hP : gC U x = P + 1) (hl : ¬ gC L P = x + 1) (hc : gC L x = c + 1) (hr : rootM L R U P = true) : rotM L R U x = some ((sC L x (P + 1)), (sC R P (gC L x)), (sC (sC (sC U c (P + 1)) P (x + 1)) x (gC U P))) := by
  have b1 : Nat.beq (gC L P) (Nat.succ x) = false := bf hl
  have u1 : upM U (gC L x) (P + 1) = (sC U c (P + 1)) := by unfold upM; rw [hc]; rfl
  unfold rotM; rw [hP]; show rotP L R U x (P + 1) P (gC U P) = _; unfold rotP; rw [b1, u1]
  show rotE (rootM L R U P) _ _ _ _ _ _ = _; rw [hr]; rfl
theorem rot_r1l {L R U x P c G : Nat} (hP : gC U x = P + 1) (hl : ¬ gC L P = x + 1) (hc : gC L x = c + 1) (hr : rootM L R U P = false) (hG : gC U P = G + 1) (hg : gC (sC L x (P + 1)) G = P + 1) : rotM L R U x = some ((sC (sC L x (P + 1)) G (x + 1)), (sC R P (gC L x)), (sC (sC (sC U c (P + 1)) P (x + 1)) x (gC U P))) := by
  have b1 : Nat.beq (gC L P) (Nat.succ x) = false := bf hl
  have u1 : upM U (gC L x) (P + 1) = (sC U c (P + 1)) := by unfold upM; rw [hc]; rfl
  unfold rotM; rw [hP]; show rotP L R U x (P + 1) P (gC U P) = _; unfold rotP; rw [b1, u1]
  show rotE (rootM L R U P) _ _ _ _ _ _ = _; rw [hr]; unfold rotE; rw [show Nat.pred (gC U P) = G from by rw [hG]; rfl]
  show cond (Nat.beq (gC (sC L x (P + 1)) G) (P + 1)) _ _ = _; rw [bt hg]; rfl
theorem rot_r1r {L R U x P c G : Nat} (hP : gC U x = P + 1) (hl : ¬ gC L P = x + 1) (hc : gC L x = c + 1) (hr : rootM L R U P = false) (hG : gC U P = G + 1) (hg : ¬ gC (sC L x (P + 1)) G = P + 1) : rotM L R U x = some ((sC L x (P + 1)), (sC (sC R P (gC L x)) G (x + 1)), (sC (sC (sC U c (P + 1)) P (x + 1)) x (gC U P))) := by
  have b1 : Nat.beq (gC L P) (Nat.succ x) = false := bf hl
  have u1 : upM U (gC L x) (P + 1) = (sC U c (P + 1)) := by unfold upM; rw [hc]; rfl
  unfold rotM; rw [hP]; show rotP L R U x (P + 1) P (gC U P) = _; unfold rotP; rw [b1, u1]
  show rotE (rootM L R U P) _ _ _ _ _ _ = _; rw [hr]; unfold rotE; rw [show Nat.pred (gC U P) = G from by rw [hG]; rfl]
  show cond (Nat.beq (gC (sC L x (P + 1)) G) (P + 1)) _ _ = _; rw [bf hg]; rfl
theorem AI.abs {Z : State} {h : Heap} {a : Addr} {n : Nat} {f : Nat → Int32} (A : AI Z h a .int n f) {P : (Nat → Int32) → Prop} (p : P f) : ∃ g, AI Z h a .int n g ∧ P g := ⟨f, A, p⟩
theorem par_cd {g : Nat → Int32} {t k : Nat} (hg : ∀ i, i < 5 → (g i).toInt = (parM t i : Int)) (hk : k < 5) : Cd (g k) (parM t k + 1) := Cd.of (hg k hk) (parM_lt t k)
theorem Cd.beqT {u v : Int32} {c d : Nat} (p : Cd u (c + 1)) (q : Cd v (d + 1)) (h : u.toInt = v.toInt) : Nat.beq c d = true := bt (by have := p.eq q h; omega)
theorem Cd.beqF {u v : Int32} {c d : Nat} (p : Cd u (c + 1)) (q : Cd v (d + 1)) (h : ¬ u.toInt = v.toInt) : Nat.beq c d = false := bf (by have := p.ne q h; omega)
theorem par_upd {g : Nat → Int32} {t m q : Nat} {v : Int32} (hg : ∀ i, i < 5 → (g i).toInt = (parM t i : Int)) (hm : m < 5) (hv : Cd v (q + 1)) : ∀ i, i < 5 → (updF g m v i).toInt = (parM (setP t m q) i : Int) := by
  intro i hi
  by_cases e : i = m
  · subst e; rw [updF_same, setP_same t q hv.lt _ hm]; exact hv.ix
  · rw [updF_ne _ _ e, setP_ne t q hv.lt m hm i hi e]; exact hg i hi
theorem nxt_cd {g : Nat → Int32} {t k : Nat} (hg : ∀ i, i < 5 → (g i).toInt = (nxt t (i + 1) : Int) - 1) (hk : k < 5) : Cd (g k) (nxt t (k + 1)) := ⟨hg k hk, nxt_lt t (k + 1)⟩
theorem nxt_upd {g : Nat → Int32} {t m q : Nat} {v : Int32} (hg : ∀ i, i < 5 → (g i).toInt = (nxt t (i + 1) : Int) - 1) (h1 : 1 ≤ m) (hm : m < 5) (hv : Cd v (q + 1)) : ∀ i, i < 5 → (updF g m v i).toInt = (nxt (setP t m q) (i + 1) : Int) - 1 := by
  intro i hi
  by_cases e : i = m
  · subst e
    rw [updF_same]
    have e2 : nxt (setP t i q) (i + 1) = q + 1 := by
      cases i with
      | zero => omega
      | succ j => show parM (setP t (j + 1) q) (j + 1) + 1 = _; rw [setP_same t q hv.lt _ hm]
    rw [e2]; have := hv.1; omega
  · rw [updF_ne _ _ e, hg i hi]
    cases i with
    | zero => rfl
    | succ j => show ((parM t (j + 1) + 1 : Nat) : Int) - 1 = ((parM (setP t m q) (j + 1) + 1 : Nat) : Int) - 1; rw [setP_ne t q hv.lt m hm _ hi e]
theorem nxt_par {t k : Nat} (h : 1 ≤ k) : nxt t (k + 1) = parM t k + 1 := by
  cases k with
  | zero => omega
  | succ j => rfl
theorem setP_0 {t m q : Nat} (h1 : 1 ≤ m) (hm : m < 5) (hq : q < 5) (h0 : parM t 0 = 0) : parM (setP t m q) 0 = 0 := by rw [setP_ne t q hq m hm 0 (by decide) (by omega)]; exact h0
/- the walk -/
theorem d10_0 : decode prog_17_method_8_code 0 = .ok (.aload_n 0, 1) := by decide +kernel
theorem d10_1 : decode prog_17_method_8_code 1 = .ok (.getfield 16, 3) := by decide +kernel
theorem d10_4 : decode prog_17_method_8_code 4 = .ok (.iload_n 1, 1) := by decide +kernel
theorem d10_5 : decode prog_17_method_8_code 5 = .ok (.iaload, 1) := by decide +kernel
theorem d10_6 : decode prog_17_method_8_code 6 = .ok (.istore_n 2, 1) := by decide +kernel
theorem d10_7 : decode prog_17_method_8_code 7 = .ok (.iload_n 2, 1) := by decide +kernel
theorem d10_8 : decode prog_17_method_8_code 8 = .ok (.iconst (-1), 1) := by decide +kernel
theorem d10_9 : decode prog_17_method_8_code 9 = .ok (.if_icmp .eq 23, 3) := by decide +kernel
theorem d10_12 : decode prog_17_method_8_code 12 = .ok (.aload_n 0, 1) := by decide +kernel
theorem d10_13 : decode prog_17_method_8_code 13 = .ok (.getfield 7, 3) := by decide +kernel
theorem d10_16 : decode prog_17_method_8_code 16 = .ok (.iload_n 2, 1) := by decide +kernel
theorem d10_17 : decode prog_17_method_8_code 17 = .ok (.iaload, 1) := by decide +kernel
theorem d10_18 : decode prog_17_method_8_code 18 = .ok (.iload_n 1, 1) := by decide +kernel
theorem d10_19 : decode prog_17_method_8_code 19 = .ok (.if_icmp .eq 17, 3) := by decide +kernel
theorem d10_22 : decode prog_17_method_8_code 22 = .ok (.aload_n 0, 1) := by decide +kernel
theorem d10_23 : decode prog_17_method_8_code 23 = .ok (.getfield 13, 3) := by decide +kernel
theorem d10_26 : decode prog_17_method_8_code 26 = .ok (.iload_n 2, 1) := by decide +kernel
theorem d10_27 : decode prog_17_method_8_code 27 = .ok (.iaload, 1) := by decide +kernel
theorem d10_28 : decode prog_17_method_8_code 28 = .ok (.iload_n 1, 1) := by decide +kernel
theorem d10_29 : decode prog_17_method_8_code 29 = .ok (.if_icmp .eq 7, 3) := by decide +kernel
theorem d10_32 : decode prog_17_method_8_code 32 = .ok (.iconst 1, 1) := by decide +kernel
theorem d10_33 : decode prog_17_method_8_code 33 = .ok (.goto 4, 3) := by decide +kernel
theorem d10_36 : decode prog_17_method_8_code 36 = .ok (.iconst 0, 1) := by decide +kernel
theorem d10_37 : decode prog_17_method_8_code 37 = .ok (.ireturn, 1) := by decide +kernel
theorem pn_10 : plainFor (⟨"com/example/rostra/rostra/tree/Ancestry", "isSplayRoot", "(I)Z"⟩ : MethodName) = true := plainFor_of_name (by first | (simp [plainName, overriddenIn]; done) | decide +kernel)
set_option maxRecDepth 65536 in
set_option maxHeartbeats 40000000 in
theorem c_root {Z : State} {a0 : Array Value} (hw : ∀ d ∈ tables_1, d.before a0 Z = true) {t l r u : Addr} {L R U x : Nat} {i : Int32} {h0 : Heap} {n0 : Nat} (Z0 : n0 ≤ h0.size) (sp : Sep n0 t l r u) (B0 : AncO Z h0 t l r u) (A0 : Tr Z h0 l r u L R U) (hi : Cd i (x + 1)) :
    Ctr Z n0 (⟨"com/example/rostra/rostra/tree/Ancestry", "isSplayRoot", "(I)Z"⟩ : MethodName) prog_17_method_8_code 3 (some .boolean) ({ frames := 0, cells := 0, slots := 0, locals := 0 } : Room) [(.ref t), (.int i)] h0 (fun v h => h = h0 ∧ v = some (.int (bI (rootM L R U x)))) := by
  refine Ctr.of (L := #[.val (.ref t), .val (.int i), .unset]) pn_10 Z0 (fun m => by first | (simp [entryFrame, mkF, argsToLocals, Value.category]; done) | rfl) ?_
  intro K T S0
  obtain ⟨⟨g_l, g_r, g_u⟩, n_tl, n_tr, n_tu, n_lr, n_lu, n_ru⟩ := sp
  obtain ⟨X_t, F_left_t, F_right_t, F_up_t⟩ := B0
  obtain ⟨A_l, A_r, A_u⟩ := A0
  have KK := Keep.refl h0 [l, r, u]
  refine px_aloadN S0 d10_0 rfl rfl rfl ?_
  refine px_getfield S0 (hw _ (List.mem_of_getElem? (i := 14) rfl)) F_up_t d10_1 rfl (fun T1 S1 => ?_)
  refine px_iloadN S1 d10_4 rfl rfl ?_
  refine px_iaload (v := (dec U x)) S1 A_u (i := x) hi.ix hi.lt rfl d10_5 rfl ?_
  refine px_istoreN S1 d10_6 rfl (L' := #[.val (.ref t), .val (.int i), .val (.int (dec U x))]) rfl ?_
  refine px_iloadN S1 d10_7 rfl rfl ?_
  refine px_iconst (v := (-1 : Int32)) S1 d10_8 rfl rfl ?_
  refine px_icmp S1 d10_9 (by decide) (pc' := 32) rfl rfl (fun (hc2 : (dec U x).toInt = (-1 : Int32).toInt) => ?_) (fun (hc2 : ¬ (dec U x).toInt = (-1 : Int32).toInt) => ?_)
  · refine px_iconst (v := (1 : Int32)) S1 d10_32 rfl rfl ?_
    refine px_goto S1 d10_33 (by decide) (pc' := 37) rfl ?_
    exact px_retN (t := .boolean) (z' := (1 : Int32)) S1 d10_37 rfl (by simp) rfl (by decide) (by decide) (⟨rfl, by rw [root_n ((cd_dec U x).eq cd_m1 hc2)]; rfl⟩)
  · refine px_aloadN S1 d10_12 rfl rfl rfl ?_
    refine px_getfield S1 (hw _ (List.mem_of_getElem? (i := 10) rfl)) F_left_t d10_13 rfl (fun T3 S3 => ?_)
    refine px_iloadN S3 d10_16 rfl rfl ?_
    obtain ⟨k4, ek4⟩ : ∃ k, (gC U x) = k + 1 := (cd_dec U x).pos cd_m1 hc2
    have ck4 : Cd (dec U x) (k4 + 1) := by rw [← ek4]; exact (cd_dec U x)
    refine px_iaload (v := (dec L k4)) S3 A_l (i := k4) ck4.ix ck4.lt rfl d10_17 rfl ?_
    refine px_iloadN S3 d10_18 rfl rfl ?_
    refine px_icmp S3 d10_19 (by decide) (pc' := 36) rfl rfl (fun (hc5 : (dec L k4).toInt = i.toInt) => ?_) (fun (hc5 : ¬ (dec L k4).toInt = i.toInt) => ?_)
    · refine px_iconst (v := (0 : Int32)) S3 d10_36 rfl rfl ?_
      exact px_retN (t := .boolean) (z' := (0 : Int32)) S3 d10_37 rfl (by simp) rfl (by decide) (by decide) (⟨rfl, by rw [root_l ek4 ((cd_dec L k4).eq hi hc5)]; rfl⟩)
    · refine px_aloadN S3 d10_22 rfl rfl rfl ?_
      refine px_getfield S3 (hw _ (List.mem_of_getElem? (i := 12) rfl)) F_right_t d10_23 rfl (fun T6 S6 => ?_)
      refine px_iloadN S6 d10_26 rfl rfl ?_
      refine px_iaload (v := (dec R k4)) S6 A_r (i := k4) ck4.ix ck4.lt rfl d10_27 rfl ?_
      refine px_iloadN S6 d10_28 rfl rfl ?_
      refine px_icmp S6 d10_29 (by decide) (pc' := 36) rfl rfl (fun (hc7 : (dec R k4).toInt = i.toInt) => ?_) (fun (hc7 : ¬ (dec R k4).toInt = i.toInt) => ?_)
      · refine px_iconst (v := (0 : Int32)) S6 d10_36 rfl rfl ?_
        exact px_retN (t := .boolean) (z' := (0 : Int32)) S6 d10_37 rfl (by simp) rfl (by decide) (by decide) (⟨rfl, by rw [root_r ek4 ((cd_dec L k4).ne hi hc5) ((cd_dec R k4).eq hi hc7)]; rfl⟩)
      · refine px_iconst (v := (1 : Int32)) S6 d10_32 rfl rfl ?_
        refine px_goto S6 d10_33 (by decide) (pc' := 37) rfl ?_
        exact px_retN (t := .boolean) (z' := (1 : Int32)) S6 d10_37 rfl (by simp) rfl (by decide) (by decide) (⟨rfl, by rw [root_o ek4 ((cd_dec L k4).ne hi hc5) ((cd_dec R k4).ne hi hc7)]; rfl⟩)
theorem d11_0 : decode prog_17_method_7_code 0 = .ok (.aload_n 0, 1) := by decide +kernel
theorem d11_1 : decode prog_17_method_7_code 1 = .ok (.getfield 16, 3) := by decide +kernel
theorem d11_4 : decode prog_17_method_7_code 4 = .ok (.iload_n 1, 1) := by decide +kernel
theorem d11_5 : decode prog_17_method_7_code 5 = .ok (.iaload, 1) := by decide +kernel
theorem d11_6 : decode prog_17_method_7_code 6 = .ok (.istore_n 2, 1) := by decide +kernel
theorem d11_7 : decode prog_17_method_7_code 7 = .ok (.aload_n 0, 1) := by decide +kernel
theorem d11_8 : decode prog_17_method_7_code 8 = .ok (.getfield 16, 3) := by decide +kernel
theorem d11_11 : decode prog_17_method_7_code 11 = .ok (.iload_n 2, 1) := by decide +kernel
theorem d11_12 : decode prog_17_method_7_code 12 = .ok (.iaload, 1) := by decide +kernel
theorem d11_13 : decode prog_17_method_7_code 13 = .ok (.istore_n 3, 1) := by decide +kernel
theorem d11_14 : decode prog_17_method_7_code 14 = .ok (.aload_n 0, 1) := by decide +kernel
theorem d11_15 : decode prog_17_method_7_code 15 = .ok (.iload_n 2, 1) := by decide +kernel
theorem d11_16 : decode prog_17_method_7_code 16 = .ok (.invokevirtual 33, 3) := by decide +kernel
theorem d11_19 : decode prog_17_method_7_code 19 = .ok (.istore 4, 2) := by decide +kernel
theorem d11_21 : decode prog_17_method_7_code 21 = .ok (.aload_n 0, 1) := by decide +kernel
theorem d11_22 : decode prog_17_method_7_code 22 = .ok (.getfield 7, 3) := by decide +kernel
theorem d11_25 : decode prog_17_method_7_code 25 = .ok (.iload_n 2, 1) := by decide +kernel
theorem d11_26 : decode prog_17_method_7_code 26 = .ok (.iaload, 1) := by decide +kernel
theorem d11_27 : decode prog_17_method_7_code 27 = .ok (.iload_n 1, 1) := by decide +kernel
theorem d11_28 : decode prog_17_method_7_code 28 = .ok (.if_icmp .ne 47, 3) := by decide +kernel
theorem d11_31 : decode prog_17_method_7_code 31 = .ok (.aload_n 0, 1) := by decide +kernel
theorem d11_32 : decode prog_17_method_7_code 32 = .ok (.getfield 7, 3) := by decide +kernel
theorem d11_35 : decode prog_17_method_7_code 35 = .ok (.iload_n 2, 1) := by decide +kernel
theorem d11_36 : decode prog_17_method_7_code 36 = .ok (.aload_n 0, 1) := by decide +kernel
theorem d11_37 : decode prog_17_method_7_code 37 = .ok (.getfield 13, 3) := by decide +kernel
theorem d11_40 : decode prog_17_method_7_code 40 = .ok (.iload_n 1, 1) := by decide +kernel
theorem d11_41 : decode prog_17_method_7_code 41 = .ok (.iaload, 1) := by decide +kernel
theorem d11_42 : decode prog_17_method_7_code 42 = .ok (.iastore, 1) := by decide +kernel
theorem d11_43 : decode prog_17_method_7_code 43 = .ok (.aload_n 0, 1) := by decide +kernel
theorem d11_44 : decode prog_17_method_7_code 44 = .ok (.getfield 13, 3) := by decide +kernel
theorem d11_47 : decode prog_17_method_7_code 47 = .ok (.iload_n 1, 1) := by decide +kernel
theorem d11_48 : decode prog_17_method_7_code 48 = .ok (.iaload, 1) := by decide +kernel
theorem d11_49 : decode prog_17_method_7_code 49 = .ok (.iconst (-1), 1) := by decide +kernel
theorem d11_50 : decode prog_17_method_7_code 50 = .ok (.if_icmp .eq 15, 3) := by decide +kernel
theorem d11_53 : decode prog_17_method_7_code 53 = .ok (.aload_n 0, 1) := by decide +kernel
theorem d11_54 : decode prog_17_method_7_code 54 = .ok (.getfield 16, 3) := by decide +kernel
theorem d11_57 : decode prog_17_method_7_code 57 = .ok (.aload_n 0, 1) := by decide +kernel
theorem d11_58 : decode prog_17_method_7_code 58 = .ok (.getfield 13, 3) := by decide +kernel
theorem d11_61 : decode prog_17_method_7_code 61 = .ok (.iload_n 1, 1) := by decide +kernel
theorem d11_62 : decode prog_17_method_7_code 62 = .ok (.iaload, 1) := by decide +kernel
theorem d11_63 : decode prog_17_method_7_code 63 = .ok (.iload_n 2, 1) := by decide +kernel
theorem d11_64 : decode prog_17_method_7_code 64 = .ok (.iastore, 1) := by decide +kernel
theorem d11_65 : decode prog_17_method_7_code 65 = .ok (.aload_n 0, 1) := by decide +kernel
theorem d11_66 : decode prog_17_method_7_code 66 = .ok (.getfield 13, 3) := by decide +kernel
theorem d11_69 : decode prog_17_method_7_code 69 = .ok (.iload_n 1, 1) := by decide +kernel
theorem d11_70 : decode prog_17_method_7_code 70 = .ok (.iload_n 2, 1) := by decide +kernel
theorem d11_71 : decode prog_17_method_7_code 71 = .ok (.iastore, 1) := by decide +kernel
theorem d11_72 : decode prog_17_method_7_code 72 = .ok (.goto 44, 3) := by decide +kernel
theorem d11_75 : decode prog_17_method_7_code 75 = .ok (.aload_n 0, 1) := by decide +kernel
theorem d11_76 : decode prog_17_method_7_code 76 = .ok (.getfield 13, 3) := by decide +kernel
theorem d11_79 : decode prog_17_method_7_code 79 = .ok (.iload_n 2, 1) := by decide +kernel
theorem d11_80 : decode prog_17_method_7_code 80 = .ok (.aload_n 0, 1) := by decide +kernel
theorem d11_81 : decode prog_17_method_7_code 81 = .ok (.getfield 7, 3) := by decide +kernel
theorem d11_84 : decode prog_17_method_7_code 84 = .ok (.iload_n 1, 1) := by decide +kernel
theorem d11_85 : decode prog_17_method_7_code 85 = .ok (.iaload, 1) := by decide +kernel
theorem d11_86 : decode prog_17_method_7_code 86 = .ok (.iastore, 1) := by decide +kernel
theorem d11_87 : decode prog_17_method_7_code 87 = .ok (.aload_n 0, 1) := by decide +kernel
theorem d11_88 : decode prog_17_method_7_code 88 = .ok (.getfield 7, 3) := by decide +kernel
theorem d11_91 : decode prog_17_method_7_code 91 = .ok (.iload_n 1, 1) := by decide +kernel
theorem d11_92 : decode prog_17_method_7_code 92 = .ok (.iaload, 1) := by decide +kernel
theorem d11_93 : decode prog_17_method_7_code 93 = .ok (.iconst (-1), 1) := by decide +kernel
theorem d11_94 : decode prog_17_method_7_code 94 = .ok (.if_icmp .eq 15, 3) := by decide +kernel
theorem d11_97 : decode prog_17_method_7_code 97 = .ok (.aload_n 0, 1) := by decide +kernel
theorem d11_98 : decode prog_17_method_7_code 98 = .ok (.getfield 16, 3) := by decide +kernel
theorem d11_101 : decode prog_17_method_7_code 101 = .ok (.aload_n 0, 1) := by decide +kernel
theorem d11_102 : decode prog_17_method_7_code 102 = .ok (.getfield 7, 3) := by decide +kernel
theorem d11_105 : decode prog_17_method_7_code 105 = .ok (.iload_n 1, 1) := by decide +kernel
theorem d11_106 : decode prog_17_method_7_code 106 = .ok (.iaload, 1) := by decide +kernel
theorem d11_107 : decode prog_17_method_7_code 107 = .ok (.iload_n 2, 1) := by decide +kernel
theorem d11_108 : decode prog_17_method_7_code 108 = .ok (.iastore, 1) := by decide +kernel
theorem d11_109 : decode prog_17_method_7_code 109 = .ok (.aload_n 0, 1) := by decide +kernel
theorem d11_110 : decode prog_17_method_7_code 110 = .ok (.getfield 7, 3) := by decide +kernel
theorem d11_113 : decode prog_17_method_7_code 113 = .ok (.iload_n 1, 1) := by decide +kernel
theorem d11_114 : decode prog_17_method_7_code 114 = .ok (.iload_n 2, 1) := by decide +kernel
theorem d11_115 : decode prog_17_method_7_code 115 = .ok (.iastore, 1) := by decide +kernel
theorem d11_116 : decode prog_17_method_7_code 116 = .ok (.aload_n 0, 1) := by decide +kernel
theorem d11_117 : decode prog_17_method_7_code 117 = .ok (.getfield 16, 3) := by decide +kernel
theorem d11_120 : decode prog_17_method_7_code 120 = .ok (.iload_n 2, 1) := by decide +kernel
theorem d11_121 : decode prog_17_method_7_code 121 = .ok (.iload_n 1, 1) := by decide +kernel
theorem d11_122 : decode prog_17_method_7_code 122 = .ok (.iastore, 1) := by decide +kernel
theorem d11_123 : decode prog_17_method_7_code 123 = .ok (.aload_n 0, 1) := by decide +kernel
theorem d11_124 : decode prog_17_method_7_code 124 = .ok (.getfield 16, 3) := by decide +kernel
theorem d11_127 : decode prog_17_method_7_code 127 = .ok (.iload_n 1, 1) := by decide +kernel
theorem d11_128 : decode prog_17_method_7_code 128 = .ok (.iload_n 3, 1) := by decide +kernel
theorem d11_129 : decode prog_17_method_7_code 129 = .ok (.iastore, 1) := by decide +kernel
theorem d11_130 : decode prog_17_method_7_code 130 = .ok (.iload 4, 2) := by decide +kernel
theorem d11_132 : decode prog_17_method_7_code 132 = .ok (.ifCond .ne 30, 3) := by decide +kernel
theorem d11_135 : decode prog_17_method_7_code 135 = .ok (.aload_n 0, 1) := by decide +kernel
theorem d11_136 : decode prog_17_method_7_code 136 = .ok (.getfield 7, 3) := by decide +kernel
theorem d11_139 : decode prog_17_method_7_code 139 = .ok (.iload_n 3, 1) := by decide +kernel
theorem d11_140 : decode prog_17_method_7_code 140 = .ok (.iaload, 1) := by decide +kernel
theorem d11_141 : decode prog_17_method_7_code 141 = .ok (.iload_n 2, 1) := by decide +kernel
theorem d11_142 : decode prog_17_method_7_code 142 = .ok (.if_icmp .ne 13, 3) := by decide +kernel
theorem d11_145 : decode prog_17_method_7_code 145 = .ok (.aload_n 0, 1) := by decide +kernel
theorem d11_146 : decode prog_17_method_7_code 146 = .ok (.getfield 7, 3) := by decide +kernel
theorem d11_149 : decode prog_17_method_7_code 149 = .ok (.iload_n 3, 1) := by decide +kernel
theorem d11_150 : decode prog_17_method_7_code 150 = .ok (.iload_n 1, 1) := by decide +kernel
theorem d11_151 : decode prog_17_method_7_code 151 = .ok (.iastore, 1) := by decide +kernel
theorem d11_152 : decode prog_17_method_7_code 152 = .ok (.goto 10, 3) := by decide +kernel
theorem d11_155 : decode prog_17_method_7_code 155 = .ok (.aload_n 0, 1) := by decide +kernel
theorem d11_156 : decode prog_17_method_7_code 156 = .ok (.getfield 13, 3) := by decide +kernel
theorem d11_159 : decode prog_17_method_7_code 159 = .ok (.iload_n 3, 1) := by decide +kernel
theorem d11_160 : decode prog_17_method_7_code 160 = .ok (.iload_n 1, 1) := by decide +kernel
theorem d11_161 : decode prog_17_method_7_code 161 = .ok (.iastore, 1) := by decide +kernel
theorem d11_162 : decode prog_17_method_7_code 162 = .ok (.return_, 1) := by decide +kernel
theorem pd_11_0 : parseMethodDescriptor "(I)Z" = some ⟨[.int], some .boolean⟩ := by decide +kernel
theorem pn_11 : plainFor (⟨"com/example/rostra/rostra/tree/Ancestry", "rotate", "(I)V"⟩ : MethodName) = true := plainFor_of_name (by first | (simp [plainName, overriddenIn]; done) | decide +kernel)
set_option maxRecDepth 65536 in
set_option maxHeartbeats 40000000 in
theorem c_rot {Z : State} {a0 : Array Value} (hw : ∀ d ∈ tables_1, d.before a0 Z = true) {t l r u : Addr} {L R U x : Nat} {i : Int32} {P L' R' U' : Nat} {h0 : Heap} {n0 : Nat} (Z0 : n0 ≤ h0.size) (sp : Sep n0 t l r u) (B0 : AncO Z h0 t l r u) (A0 : Tr Z h0 l r u L R U) (hi : Cd i (x + 1)) (hP : gC U x = P + 1) (hm : rotM L R U x = some (L', R', U')) :
    Ctr Z n0 (⟨"com/example/rostra/rostra/tree/Ancestry", "rotate", "(I)V"⟩ : MethodName) prog_17_method_7_code 5 none ({ frames := 1, cells := 0, slots := 0, locals := 14 } : Room) [(.ref t), (.int i)] h0 (fun v h => v = none ∧ Keep h0 h [l, r, u] ∧ AncO Z h t l r u ∧ Tr Z h l r u L' R' U') := by
  refine Ctr.of (L := #[.val (.ref t), .val (.int i), .unset, .unset, .unset]) pn_11 Z0 (fun m => by first | (simp [entryFrame, mkF, argsToLocals, Value.category]; done) | rfl) ?_
  intro K T S0
  obtain ⟨⟨g_l, g_r, g_u⟩, n_tl, n_tr, n_tu, n_lr, n_lu, n_ru⟩ := sp
  obtain ⟨X_t, F_left_t, F_right_t, F_up_t⟩ := B0
  obtain ⟨A_l, A_r, A_u⟩ := A0
  have KK := Keep.refl h0 [l, r, u]
  have cP : Cd (dec U x) (P + 1) := by rw [← hP]; exact cd_dec U x
  refine px_aloadN S0 d11_0 rfl rfl rfl ?_
  refine px_getfield S0 (hw _ (List.mem_of_getElem? (i := 14) rfl)) F_up_t d11_1 rfl (fun T1 S1 => ?_)
  refine px_iloadN S1 d11_4 rfl rfl ?_
  refine px_iaload (v := (dec U x)) S1 A_u (i := x) hi.ix hi.lt rfl d11_5 rfl ?_
  refine px_istoreN S1 d11_6 rfl (L' := #[.val (.ref t), .val (.int i), .val (.int (dec U x)), .unset, .unset]) rfl ?_
  refine px_aloadN S1 d11_7 rfl rfl rfl ?_
  refine px_getfield S1 (hw _ (List.mem_of_getElem? (i := 14) rfl)) F_up_t d11_8 rfl (fun T2 S2 => ?_)
  refine px_iloadN S2 d11_11 rfl rfl ?_
  refine px_iaload (v := (dec U P)) S2 A_u (i := P) cP.ix cP.lt rfl d11_12 rfl ?_
  refine px_istoreN S2 d11_13 rfl (L' := #[.val (.ref t), .val (.int i), .val (.int (dec U x)), .val (.int (dec U P)), .unset]) rfl ?_
  refine px_aloadN S2 d11_14 rfl rfl rfl ?_
  refine px_iloadN S2 d11_15 rfl rfl ?_
  refine px_callP (Cn := "com/example/rostra/rostra/tree/Ancestry") (yp := ({ cls := "com/example/rostra/rostra/tree/Ancestry", name := "add", desc := "(II)V" } : Jvm.MethodName)) (as' := [(.int (dec U x))]) (st := []) (W := 0) S2 (c_root (L := L) (R := R) (U := U) (x := P) hw S2.size ⟨⟨g_l, g_r, g_u⟩, n_tl, n_tr, n_tu, n_lr, n_lu, n_ru⟩ ⟨X_t, F_left_t, F_right_t, F_up_t⟩ ⟨A_l, A_r, A_u⟩ cP) X_t (hw _ (List.mem_of_getElem? (i := 45) rfl)) (hw _ (List.mem_of_getElem? (i := 46) rfl)) (hw _ (List.mem_of_getElem? (i := 47) rfl)) (hw _ (List.mem_of_getElem? (i := 23) rfl)) rfl (hw _ (List.mem_of_getElem? (i := 3) rfl)) (hw _ (List.mem_of_getElem? (i := 48) rfl)) (by decide) pd_11_0 rfl rfl (by decide) rfl (by decide) (by decide) (by decide) d11_16 rfl rfl (fun T3 h3 v3 S3 q3 => ?_)
  obtain ⟨rfl, q3⟩ := q3
  rcases Bool.eq_false_or_eq_true (rootM L R U P) with hr3 | hr3
  · rw [hr3] at q3
    obtain rfl := q3
    show Go _ _ _ _ _ _ _ [(.int (1 : Int32))]
    refine px_istore S3 d11_19 rfl (L' := #[.val (.ref t), .val (.int i), .val (.int (dec U x)), .val (.int (dec U P)), .val (.int (1 : Int32))]) rfl ?_
    refine px_aloadN S3 d11_21 rfl rfl rfl ?_
    refine px_getfield S3 (hw _ (List.mem_of_getElem? (i := 10) rfl)) F_left_t d11_22 rfl (fun T4 S4 => ?_)
    refine px_iloadN S4 d11_25 rfl rfl ?_
    refine px_iaload (v := (dec L P)) S4 A_l (i := P) cP.ix cP.lt rfl d11_26 rfl ?_
    refine px_iloadN S4 d11_27 rfl rfl ?_
    refine px_icmp S4 d11_28 (by decide) (pc' := 75) rfl rfl (fun (hc5 : ¬ (dec L P).toInt = i.toInt) => ?_) (fun (hc5 : (dec L P).toInt = i.toInt) => ?_)
    · refine px_aloadN S4 d11_75 rfl rfl rfl ?_
      refine px_getfield S4 (hw _ (List.mem_of_getElem? (i := 12) rfl)) F_right_t d11_76 rfl (fun T6 S6 => ?_)
      refine px_iloadN S6 d11_79 rfl rfl ?_
      refine px_aloadN S6 d11_80 rfl rfl rfl ?_
      refine px_getfield S6 (hw _ (List.mem_of_getElem? (i := 10) rfl)) F_left_t d11_81 rfl (fun T7 S7 => ?_)
      refine px_iloadN S7 d11_84 rfl rfl ?_
      refine px_iaload (v := (dec L x)) S7 A_l (i := x) hi.ix hi.lt rfl d11_85 rfl ?_
      refine px_iastore (v := (dec L x)) S7 A_r g_r (i := P) cP.ix cP.lt rfl d11_86 rfl (fun T8 h8 S8 W8 A_r => ?_)
      replace X_t := X_t.wr W8
      replace F_left_t := F_left_t.other W8 (Or.inl n_tr)
      replace F_right_t := F_right_t.other W8 (Or.inl n_tr)
      replace F_up_t := F_up_t.other W8 (Or.inl n_tr)
      replace A_l := A_l.other W8 n_lr
      replace A_u := A_u.other W8 (Ne.symm n_ru)
      replace A_r := A_r.congr (upd_cd (cP.lt) (cd_dec L x))
      replace KK := KK.wr W8 (Or.inl (by simp))
      refine px_aloadN S8 d11_87 rfl rfl rfl ?_
      refine px_getfield S8 (hw _ (List.mem_of_getElem? (i := 10) rfl)) F_left_t d11_88 rfl (fun T9 S9 => ?_)
      refine px_iloadN S9 d11_91 rfl rfl ?_
      refine px_iaload (v := (dec L x)) S9 A_l (i := x) hi.ix hi.lt rfl d11_92 rfl ?_
      refine px_iconst (v := (-1 : Int32)) S9 d11_93 rfl rfl ?_
      refine px_icmp S9 d11_94 (by decide) (pc' := 109) rfl rfl (fun (hc10 : (dec L x).toInt = (-1 : Int32).toInt) => ?_) (fun (hc10 : ¬ (dec L x).toInt = (-1 : Int32).toInt) => ?_)
      · refine px_aloadN S9 d11_109 rfl rfl rfl ?_
        refine px_getfield S9 (hw _ (List.mem_of_getElem? (i := 10) rfl)) F_left_t d11_110 rfl (fun T11 S11 => ?_)
        refine px_iloadN S11 d11_113 rfl rfl ?_
        refine px_iloadN S11 d11_114 rfl rfl ?_
        refine px_iastore (v := (dec U x)) S11 A_l g_l (i := x) hi.ix hi.lt rfl d11_115 rfl (fun T12 h12 S12 W12 A_l => ?_)
        replace X_t := X_t.wr W12
        replace F_left_t := F_left_t.other W12 (Or.inl n_tl)
        replace F_right_t := F_right_t.other W12 (Or.inl n_tl)
        replace F_up_t := F_up_t.other W12 (Or.inl n_tl)
        replace A_r := A_r.other W12 (Ne.symm n_lr)
        replace A_u := A_u.other W12 (Ne.symm n_lu)
        replace A_l := A_l.congr (upd_cd (hi.lt) cP)
        replace KK := KK.wr W12 (Or.inl (by simp))
        refine px_aloadN S12 d11_116 rfl rfl rfl ?_
        refine px_getfield S12 (hw _ (List.mem_of_getElem? (i := 14) rfl)) F_up_t d11_117 rfl (fun T13 S13 => ?_)
        refine px_iloadN S13 d11_120 rfl rfl ?_
        refine px_iloadN S13 d11_121 rfl rfl ?_
        refine px_iastore (v := i) S13 A_u g_u (i := P) cP.ix cP.lt rfl d11_122 rfl (fun T14 h14 S14 W14 A_u => ?_)
        replace X_t := X_t.wr W14
        replace F_left_t := F_left_t.other W14 (Or.inl n_tu)
        replace F_right_t := F_right_t.other W14 (Or.inl n_tu)
        replace F_up_t := F_up_t.other W14 (Or.inl n_tu)
        replace A_l := A_l.other W14 n_lu
        replace A_r := A_r.other W14 n_ru
        replace A_u := A_u.congr (upd_cd (cP.lt) hi)
        replace KK := KK.wr W14 (Or.inl (by simp))
        refine px_aloadN S14 d11_123 rfl rfl rfl ?_
        refine px_getfield S14 (hw _ (List.mem_of_getElem? (i := 14) rfl)) F_up_t d11_124 rfl (fun T15 S15 => ?_)
        refine px_iloadN S15 d11_127 rfl rfl ?_
        refine px_iloadN S15 d11_128 rfl rfl ?_
        refine px_iastore (v := (dec U P)) S15 A_u g_u (i := x) hi.ix hi.lt rfl d11_129 rfl (fun T16 h16 S16 W16 A_u => ?_)
        replace X_t := X_t.wr W16
        replace F_left_t := F_left_t.other W16 (Or.inl n_tu)
        replace F_right_t := F_right_t.other W16 (Or.inl n_tu)
        replace F_up_t := F_up_t.other W16 (Or.inl n_tu)
        replace A_l := A_l.other W16 n_lu
        replace A_r := A_r.other W16 n_ru
        replace A_u := A_u.congr (upd_cd (hi.lt) (cd_dec U P))
        replace KK := KK.wr W16 (Or.inl (by simp))
        refine px_iload S16 d11_130 rfl rfl ?_
        refine px_if0 S16 d11_132 (by decide) (pc' := 162) rfl rfl (fun (hc17 : ¬ (1 : Int32).toInt = 0) => ?_) (fun (hc17 : (1 : Int32).toInt = 0) => by exfalso; revert hc17; decide)
        obtain ⟨rfl, rfl, rfl⟩ := T3i ((rot_r0t hP ((cd_dec L P).ne hi hc5) ((cd_dec L x).eq cd_m1 hc10) hr3).symm.trans hm)
        exact px_return S16 d11_162 rfl (by decide) (by decide) (⟨rfl, KK, ⟨X_t, F_left_t, F_right_t, F_up_t⟩, ⟨A_l, A_r, A_u⟩⟩)
      · refine px_aloadN S9 d11_97 rfl rfl rfl ?_
        refine px_getfield S9 (hw _ (List.mem_of_getElem? (i := 14) rfl)) F_up_t d11_98 rfl (fun T18 S18 => ?_)
        refine px_aloadN S18 d11_101 rfl rfl rfl ?_
        refine px_getfield S18 (hw _ (List.mem_of_getElem? (i := 10) rfl)) F_left_t d11_102 rfl (fun T19 S19 => ?_)
        refine px_iloadN S19 d11_105 rfl rfl ?_
        refine px_iaload (v := (dec L x)) S19 A_l (i := x) hi.ix hi.lt rfl d11_106 rfl ?_
        refine px_iloadN S19 d11_107 rfl rfl ?_
        obtain ⟨k20, ek20⟩ : ∃ k, (gC L x) = k + 1 := (cd_dec L x).pos cd_m1 hc10
        have ck20 : Cd (dec L x) (k20 + 1) := by rw [← ek20]; exact (cd_dec L x)
        refine px_iastore (v := (dec U x)) S19 A_u g_u (i := k20) ck20.ix ck20.lt rfl d11_108 rfl (fun T21 h21 S21 W21 A_u => ?_)
        replace X_t := X_t.wr W21
        replace F_left_t := F_left_t.other W21 (Or.inl n_tu)
        replace F_right_t := F_right_t.other W21 (Or.inl n_tu)
        replace F_up_t := F_up_t.other W21 (Or.inl n_tu)
        replace A_l := A_l.other W21 n_lu
        replace A_r := A_r.other W21 n_ru
        replace A_u := A_u.congr (upd_cd (ck20.lt) cP)
        replace KK := KK.wr W21 (Or.inl (by simp))
        refine px_aloadN S21 d11_109 rfl rfl rfl ?_
        refine px_getfield S21 (hw _ (List.mem_of_getElem? (i := 10) rfl)) F_left_t d11_110 rfl (fun T22 S22 => ?_)
        refine px_iloadN S22 d11_113 rfl rfl ?_
        refine px_iloadN S22 d11_114 rfl rfl ?_
        refine px_iastore (v := (dec U x)) S22 A_l g_l (i := x) hi.ix hi.lt rfl d11_115 rfl (fun T23 h23 S23 W23 A_l => ?_)
        replace X_t := X_t.wr W23
        replace F_left_t := F_left_t.other W23 (Or.inl n_tl)
        replace F_right_t := F_right_t.other W23 (Or.inl n_tl)
        replace F_up_t := F_up_t.other W23 (Or.inl n_tl)
        replace A_r := A_r.other W23 (Ne.symm n_lr)
        replace A_u := A_u.other W23 (Ne.symm n_lu)
        replace A_l := A_l.congr (upd_cd (hi.lt) cP)
        replace KK := KK.wr W23 (Or.inl (by simp))
        refine px_aloadN S23 d11_116 rfl rfl rfl ?_
        refine px_getfield S23 (hw _ (List.mem_of_getElem? (i := 14) rfl)) F_up_t d11_117 rfl (fun T24 S24 => ?_)
        refine px_iloadN S24 d11_120 rfl rfl ?_
        refine px_iloadN S24 d11_121 rfl rfl ?_
        refine px_iastore (v := i) S24 A_u g_u (i := P) cP.ix cP.lt rfl d11_122 rfl (fun T25 h25 S25 W25 A_u => ?_)
        replace X_t := X_t.wr W25
        replace F_left_t := F_left_t.other W25 (Or.inl n_tu)
        replace F_right_t := F_right_t.other W25 (Or.inl n_tu)
        replace F_up_t := F_up_t.other W25 (Or.inl n_tu)
        replace A_l := A_l.other W25 n_lu
        replace A_r := A_r.other W25 n_ru
        replace A_u := A_u.congr (upd_cd (cP.lt) hi)
        replace KK := KK.wr W25 (Or.inl (by simp))
        refine px_aloadN S25 d11_123 rfl rfl rfl ?_
        refine px_getfield S25 (hw _ (List.mem_of_getElem? (i := 14) rfl)) F_up_t d11_124 rfl (fun T26 S26 => ?_)
        refine px_iloadN S26 d11_127 rfl rfl ?_
        refine px_iloadN S26 d11_128 rfl rfl ?_
        refine px_iastore (v := (dec U P)) S26 A_u g_u (i := x) hi.ix hi.lt rfl d11_129 rfl (fun T27 h27 S27 W27 A_u => ?_)
        replace X_t := X_t.wr W27
        replace F_left_t := F_left_t.other W27 (Or.inl n_tu)
        replace F_right_t := F_right_t.other W27 (Or.inl n_tu)
        replace F_up_t := F_up_t.other W27 (Or.inl n_tu)
        replace A_l := A_l.other W27 n_lu
        replace A_r := A_r.other W27 n_ru
        replace A_u := A_u.congr (upd_cd (hi.lt) (cd_dec U P))
        replace KK := KK.wr W27 (Or.inl (by simp))
        refine px_iload S27 d11_130 rfl rfl ?_
        refine px_if0 S27 d11_132 (by decide) (pc' := 162) rfl rfl (fun (hc28 : ¬ (1 : Int32).toInt = 0) => ?_) (fun (hc28 : (1 : Int32).toInt = 0) => by exfalso; revert hc28; decide)
        obtain ⟨rfl, rfl, rfl⟩ := T3i ((rot_r1t hP ((cd_dec L P).ne hi hc5) ek20 hr3).symm.trans hm)
        exact px_return S27 d11_162 rfl (by decide) (by decide) (⟨rfl, KK, ⟨X_t, F_left_t, F_right_t, F_up_t⟩, ⟨A_l, A_r, A_u⟩⟩)
    · refine px_aloadN S4 d11_31 rfl rfl rfl ?_
      refine px_getfield S4 (hw _ (List.mem_of_getElem? (i := 10) rfl)) F_left_t d11_32 rfl (fun T29 S29 => ?_)
      refine px_iloadN S29 d11_35 rfl rfl ?_
      refine px_aloadN S29 d11_36 rfl rfl rfl ?_
      refine px_getfield S29 (hw _ (List.mem_of_getElem? (i := 12) rfl)) F_right_t d11_37 rfl (fun T30 S30 => ?_)
      refine px_iloadN S30 d11_40 rfl rfl ?_
      refine px_iaload (v := (dec R x)) S30 A_r (i := x) hi.ix hi.lt rfl d11_41 rfl ?_
      refine px_iastore (v := (dec R x)) S30 A_l g_l (i := P) cP.ix cP.lt rfl d11_42 rfl (fun T31 h31 S31 W31 A_l => ?_)
      replace X_t := X_t.wr W31
      replace F_left_t := F_left_t.other W31 (Or.inl n_tl)
      replace F_right_t := F_right_t.other W31 (Or.inl n_tl)
      replace F_up_t := F_up_t.other W31 (Or.inl n_tl)
      replace A_r := A_r.other W31 (Ne.symm n_lr)
      replace A_u := A_u.other W31 (Ne.symm n_lu)
      replace A_l := A_l.congr (upd_cd (cP.lt) (cd_dec R x))
      replace KK := KK.wr W31 (Or.inl (by simp))
      refine px_aloadN S31 d11_43 rfl rfl rfl ?_
      refine px_getfield S31 (hw _ (List.mem_of_getElem? (i := 12) rfl)) F_right_t d11_44 rfl (fun T32 S32 => ?_)
      refine px_iloadN S32 d11_47 rfl rfl ?_
      refine px_iaload (v := (dec R x)) S32 A_r (i := x) hi.ix hi.lt rfl d11_48 rfl ?_
      refine px_iconst (v := (-1 : Int32)) S32 d11_49 rfl rfl ?_
      refine px_icmp S32 d11_50 (by decide) (pc' := 65) rfl rfl (fun (hc33 : (dec R x).toInt = (-1 : Int32).toInt) => ?_) (fun (hc33 : ¬ (dec R x).toInt = (-1 : Int32).toInt) => ?_)
      · refine px_aloadN S32 d11_65 rfl rfl rfl ?_
        refine px_getfield S32 (hw _ (List.mem_of_getElem? (i := 12) rfl)) F_right_t d11_66 rfl (fun T34 S34 => ?_)
        refine px_iloadN S34 d11_69 rfl rfl ?_
        refine px_iloadN S34 d11_70 rfl rfl ?_
        refine px_iastore (v := (dec U x)) S34 A_r g_r (i := x) hi.ix hi.lt rfl d11_71 rfl (fun T35 h35 S35 W35 A_r => ?_)
        replace X_t := X_t.wr W35
        replace F_left_t := F_left_t.other W35 (Or.inl n_tr)
        replace F_right_t := F_right_t.other W35 (Or.inl n_tr)
        replace F_up_t := F_up_t.other W35 (Or.inl n_tr)
        replace A_l := A_l.other W35 n_lr
        replace A_u := A_u.other W35 (Ne.symm n_ru)
        replace A_r := A_r.congr (upd_cd (hi.lt) cP)
        replace KK := KK.wr W35 (Or.inl (by simp))
        refine px_goto S35 d11_72 (by decide) (pc' := 116) rfl ?_
        refine px_aloadN S35 d11_116 rfl rfl rfl ?_
        refine px_getfield S35 (hw _ (List.mem_of_getElem? (i := 14) rfl)) F_up_t d11_117 rfl (fun T36 S36 => ?_)
        refine px_iloadN S36 d11_120 rfl rfl ?_
        refine px_iloadN S36 d11_121 rfl rfl ?_
        refine px_iastore (v := i) S36 A_u g_u (i := P) cP.ix cP.lt rfl d11_122 rfl (fun T37 h37 S37 W37 A_u => ?_)
        replace X_t := X_t.wr W37
        replace F_left_t := F_left_t.other W37 (Or.inl n_tu)
        replace F_right_t := F_right_t.other W37 (Or.inl n_tu)
        replace F_up_t := F_up_t.other W37 (Or.inl n_tu)
        replace A_l := A_l.other W37 n_lu
        replace A_r := A_r.other W37 n_ru
        replace A_u := A_u.congr (upd_cd (cP.lt) hi)
        replace KK := KK.wr W37 (Or.inl (by simp))
        refine px_aloadN S37 d11_123 rfl rfl rfl ?_
        refine px_getfield S37 (hw _ (List.mem_of_getElem? (i := 14) rfl)) F_up_t d11_124 rfl (fun T38 S38 => ?_)
        refine px_iloadN S38 d11_127 rfl rfl ?_
        refine px_iloadN S38 d11_128 rfl rfl ?_
        refine px_iastore (v := (dec U P)) S38 A_u g_u (i := x) hi.ix hi.lt rfl d11_129 rfl (fun T39 h39 S39 W39 A_u => ?_)
        replace X_t := X_t.wr W39
        replace F_left_t := F_left_t.other W39 (Or.inl n_tu)
        replace F_right_t := F_right_t.other W39 (Or.inl n_tu)
        replace F_up_t := F_up_t.other W39 (Or.inl n_tu)
        replace A_l := A_l.other W39 n_lu
        replace A_r := A_r.other W39 n_ru
        replace A_u := A_u.congr (upd_cd (hi.lt) (cd_dec U P))
        replace KK := KK.wr W39 (Or.inl (by simp))
        refine px_iload S39 d11_130 rfl rfl ?_
        refine px_if0 S39 d11_132 (by decide) (pc' := 162) rfl rfl (fun (hc40 : ¬ (1 : Int32).toInt = 0) => ?_) (fun (hc40 : (1 : Int32).toInt = 0) => by exfalso; revert hc40; decide)
        obtain ⟨rfl, rfl, rfl⟩ := T3i ((rot_l0t hP ((cd_dec L P).eq hi hc5) ((cd_dec R x).eq cd_m1 hc33) hr3).symm.trans hm)
        exact px_return S39 d11_162 rfl (by decide) (by decide) (⟨rfl, KK, ⟨X_t, F_left_t, F_right_t, F_up_t⟩, ⟨A_l, A_r, A_u⟩⟩)
      · refine px_aloadN S32 d11_53 rfl rfl rfl ?_
        refine px_getfield S32 (hw _ (List.mem_of_getElem? (i := 14) rfl)) F_up_t d11_54 rfl (fun T41 S41 => ?_)
        refine px_aloadN S41 d11_57 rfl rfl rfl ?_
        refine px_getfield S41 (hw _ (List.mem_of_getElem? (i := 12) rfl)) F_right_t d11_58 rfl (fun T42 S42 => ?_)
        refine px_iloadN S42 d11_61 rfl rfl ?_
        refine px_iaload (v := (dec R x)) S42 A_r (i := x) hi.ix hi.lt rfl d11_62 rfl ?_
        refine px_iloadN S42 d11_63 rfl rfl ?_
        obtain ⟨k43, ek43⟩ : ∃ k, (gC R x) = k + 1 := (cd_dec R x).pos cd_m1 hc33
        have ck43 : Cd (dec R x) (k43 + 1) := by rw [← ek43]; exact (cd_dec R x)
        refine px_iastore (v := (dec U x)) S42 A_u g_u (i := k43) ck43.ix ck43.lt rfl d11_64 rfl (fun T44 h44 S44 W44 A_u => ?_)
        replace X_t := X_t.wr W44
        replace F_left_t := F_left_t.other W44 (Or.inl n_tu)
        replace F_right_t := F_right_t.other W44 (Or.inl n_tu)
        replace F_up_t := F_up_t.other W44 (Or.inl n_tu)
        replace A_l := A_l.other W44 n_lu
        replace A_r := A_r.other W44 n_ru
        replace A_u := A_u.congr (upd_cd (ck43.lt) cP)
        replace KK := KK.wr W44 (Or.inl (by simp))
        refine px_aloadN S44 d11_65 rfl rfl rfl ?_
        refine px_getfield S44 (hw _ (List.mem_of_getElem? (i := 12) rfl)) F_right_t d11_66 rfl (fun T45 S45 => ?_)
        refine px_iloadN S45 d11_69 rfl rfl ?_
        refine px_iloadN S45 d11_70 rfl rfl ?_
        refine px_iastore (v := (dec U x)) S45 A_r g_r (i := x) hi.ix hi.lt rfl d11_71 rfl (fun T46 h46 S46 W46 A_r => ?_)
        replace X_t := X_t.wr W46
        replace F_left_t := F_left_t.other W46 (Or.inl n_tr)
        replace F_right_t := F_right_t.other W46 (Or.inl n_tr)
        replace F_up_t := F_up_t.other W46 (Or.inl n_tr)
        replace A_l := A_l.other W46 n_lr
        replace A_u := A_u.other W46 (Ne.symm n_ru)
        replace A_r := A_r.congr (upd_cd (hi.lt) cP)
        replace KK := KK.wr W46 (Or.inl (by simp))
        refine px_goto S46 d11_72 (by decide) (pc' := 116) rfl ?_
        refine px_aloadN S46 d11_116 rfl rfl rfl ?_
        refine px_getfield S46 (hw _ (List.mem_of_getElem? (i := 14) rfl)) F_up_t d11_117 rfl (fun T47 S47 => ?_)
        refine px_iloadN S47 d11_120 rfl rfl ?_
        refine px_iloadN S47 d11_121 rfl rfl ?_
        refine px_iastore (v := i) S47 A_u g_u (i := P) cP.ix cP.lt rfl d11_122 rfl (fun T48 h48 S48 W48 A_u => ?_)
        replace X_t := X_t.wr W48
        replace F_left_t := F_left_t.other W48 (Or.inl n_tu)
        replace F_right_t := F_right_t.other W48 (Or.inl n_tu)
        replace F_up_t := F_up_t.other W48 (Or.inl n_tu)
        replace A_l := A_l.other W48 n_lu
        replace A_r := A_r.other W48 n_ru
        replace A_u := A_u.congr (upd_cd (cP.lt) hi)
        replace KK := KK.wr W48 (Or.inl (by simp))
        refine px_aloadN S48 d11_123 rfl rfl rfl ?_
        refine px_getfield S48 (hw _ (List.mem_of_getElem? (i := 14) rfl)) F_up_t d11_124 rfl (fun T49 S49 => ?_)
        refine px_iloadN S49 d11_127 rfl rfl ?_
        refine px_iloadN S49 d11_128 rfl rfl ?_
        refine px_iastore (v := (dec U P)) S49 A_u g_u (i := x) hi.ix hi.lt rfl d11_129 rfl (fun T50 h50 S50 W50 A_u => ?_)
        replace X_t := X_t.wr W50
        replace F_left_t := F_left_t.other W50 (Or.inl n_tu)
        replace F_right_t := F_right_t.other W50 (Or.inl n_tu)
        replace F_up_t := F_up_t.other W50 (Or.inl n_tu)
        replace A_l := A_l.other W50 n_lu
        replace A_r := A_r.other W50 n_ru
        replace A_u := A_u.congr (upd_cd (hi.lt) (cd_dec U P))
        replace KK := KK.wr W50 (Or.inl (by simp))
        refine px_iload S50 d11_130 rfl rfl ?_
        refine px_if0 S50 d11_132 (by decide) (pc' := 162) rfl rfl (fun (hc51 : ¬ (1 : Int32).toInt = 0) => ?_) (fun (hc51 : (1 : Int32).toInt = 0) => by exfalso; revert hc51; decide)
        obtain ⟨rfl, rfl, rfl⟩ := T3i ((rot_l1t hP ((cd_dec L P).eq hi hc5) ek43 hr3).symm.trans hm)
        exact px_return S50 d11_162 rfl (by decide) (by decide) (⟨rfl, KK, ⟨X_t, F_left_t, F_right_t, F_up_t⟩, ⟨A_l, A_r, A_u⟩⟩)
  · rw [hr3] at q3
    obtain rfl := q3
    show Go _ _ _ _ _ _ _ [(.int (0 : Int32))]
    refine px_istore S3 d11_19 rfl (L' := #[.val (.ref t), .val (.int i), .val (.int (dec U x)), .val (.int (dec U P)), .val (.int (0 : Int32))]) rfl ?_
    refine px_aloadN S3 d11_21 rfl rfl rfl ?_
    refine px_getfield S3 (hw _ (List.mem_of_getElem? (i := 10) rfl)) F_left_t d11_22 rfl (fun T52 S52 => ?_)
    refine px_iloadN S52 d11_25 rfl rfl ?_
    refine px_iaload (v := (dec L P)) S52 A_l (i := P) cP.ix cP.lt rfl d11_26 rfl ?_
    refine px_iloadN S52 d11_27 rfl rfl ?_
    refine px_icmp S52 d11_28 (by decide) (pc' := 75) rfl rfl (fun (hc53 : ¬ (dec L P).toInt = i.toInt) => ?_) (fun (hc53 : (dec L P).toInt = i.toInt) => ?_)
    · refine px_aloadN S52 d11_75 rfl rfl rfl ?_
      refine px_getfield S52 (hw _ (List.mem_of_getElem? (i := 12) rfl)) F_right_t d11_76 rfl (fun T54 S54 => ?_)
      refine px_iloadN S54 d11_79 rfl rfl ?_
      refine px_aloadN S54 d11_80 rfl rfl rfl ?_
      refine px_getfield S54 (hw _ (List.mem_of_getElem? (i := 10) rfl)) F_left_t d11_81 rfl (fun T55 S55 => ?_)
      refine px_iloadN S55 d11_84 rfl rfl ?_
      refine px_iaload (v := (dec L x)) S55 A_l (i := x) hi.ix hi.lt rfl d11_85 rfl ?_
      refine px_iastore (v := (dec L x)) S55 A_r g_r (i := P) cP.ix cP.lt rfl d11_86 rfl (fun T56 h56 S56 W56 A_r => ?_)
      replace X_t := X_t.wr W56
      replace F_left_t := F_left_t.other W56 (Or.inl n_tr)
      replace F_right_t := F_right_t.other W56 (Or.inl n_tr)
      replace F_up_t := F_up_t.other W56 (Or.inl n_tr)
      replace A_l := A_l.other W56 n_lr
      replace A_u := A_u.other W56 (Ne.symm n_ru)
      replace A_r := A_r.congr (upd_cd (cP.lt) (cd_dec L x))
      replace KK := KK.wr W56 (Or.inl (by simp))
      refine px_aloadN S56 d11_87 rfl rfl rfl ?_
      refine px_getfield S56 (hw _ (List.mem_of_getElem? (i := 10) rfl)) F_left_t d11_88 rfl (fun T57 S57 => ?_)
      refine px_iloadN S57 d11_91 rfl rfl ?_
      refine px_iaload (v := (dec L x)) S57 A_l (i := x) hi.ix hi.lt rfl d11_92 rfl ?_
      refine px_iconst (v := (-1 : Int32)) S57 d11_93 rfl rfl ?_
      refine px_icmp S57 d11_94 (by decide) (pc' := 109) rfl rfl (fun (hc58 : (dec L x).toInt = (-1 : Int32).toInt) => ?_) (fun (hc58 : ¬ (dec L x).toInt = (-1 : Int32).toInt) => ?_)
      · refine px_aloadN S57 d11_109 rfl rfl rfl ?_
        refine px_getfield S57 (hw _ (List.mem_of_getElem? (i := 10) rfl)) F_left_t d11_110 rfl (fun T59 S59 => ?_)
        refine px_iloadN S59 d11_113 rfl rfl ?_
        refine px_iloadN S59 d11_114 rfl rfl ?_
        refine px_iastore (v := (dec U x)) S59 A_l g_l (i := x) hi.ix hi.lt rfl d11_115 rfl (fun T60 h60 S60 W60 A_l => ?_)
        replace X_t := X_t.wr W60
        replace F_left_t := F_left_t.other W60 (Or.inl n_tl)
        replace F_right_t := F_right_t.other W60 (Or.inl n_tl)
        replace F_up_t := F_up_t.other W60 (Or.inl n_tl)
        replace A_r := A_r.other W60 (Ne.symm n_lr)
        replace A_u := A_u.other W60 (Ne.symm n_lu)
        replace A_l := A_l.congr (upd_cd (hi.lt) cP)
        replace KK := KK.wr W60 (Or.inl (by simp))
        refine px_aloadN S60 d11_116 rfl rfl rfl ?_
        refine px_getfield S60 (hw _ (List.mem_of_getElem? (i := 14) rfl)) F_up_t d11_117 rfl (fun T61 S61 => ?_)
        refine px_iloadN S61 d11_120 rfl rfl ?_
        refine px_iloadN S61 d11_121 rfl rfl ?_
        refine px_iastore (v := i) S61 A_u g_u (i := P) cP.ix cP.lt rfl d11_122 rfl (fun T62 h62 S62 W62 A_u => ?_)
        replace X_t := X_t.wr W62
        replace F_left_t := F_left_t.other W62 (Or.inl n_tu)
        replace F_right_t := F_right_t.other W62 (Or.inl n_tu)
        replace F_up_t := F_up_t.other W62 (Or.inl n_tu)
        replace A_l := A_l.other W62 n_lu
        replace A_r := A_r.other W62 n_ru
        replace A_u := A_u.congr (upd_cd (cP.lt) hi)
        replace KK := KK.wr W62 (Or.inl (by simp))
        refine px_aloadN S62 d11_123 rfl rfl rfl ?_
        refine px_getfield S62 (hw _ (List.mem_of_getElem? (i := 14) rfl)) F_up_t d11_124 rfl (fun T63 S63 => ?_)
        refine px_iloadN S63 d11_127 rfl rfl ?_
        refine px_iloadN S63 d11_128 rfl rfl ?_
        refine px_iastore (v := (dec U P)) S63 A_u g_u (i := x) hi.ix hi.lt rfl d11_129 rfl (fun T64 h64 S64 W64 A_u => ?_)
        replace X_t := X_t.wr W64
        replace F_left_t := F_left_t.other W64 (Or.inl n_tu)
        replace F_right_t := F_right_t.other W64 (Or.inl n_tu)
        replace F_up_t := F_up_t.other W64 (Or.inl n_tu)
        replace A_l := A_l.other W64 n_lu
        replace A_r := A_r.other W64 n_ru
        replace A_u := A_u.congr (upd_cd (hi.lt) (cd_dec U P))
        replace KK := KK.wr W64 (Or.inl (by simp))
        refine px_iload S64 d11_130 rfl rfl ?_
        refine px_if0 S64 d11_132 (by decide) (pc' := 162) rfl rfl (fun (hc65 : ¬ (0 : Int32).toInt = 0) => by exfalso; revert hc65; decide) (fun (hc65 : (0 : Int32).toInt = 0) => ?_)
        obtain ⟨k66, ek66⟩ : ∃ k, (gC U P) = k + 1 := root_up hr3
        have ck66 : Cd (dec U P) (k66 + 1) := by rw [← ek66]; exact (cd_dec U P)
        refine px_aloadN S64 d11_135 rfl rfl rfl ?_
        refine px_getfield S64 (hw _ (List.mem_of_getElem? (i := 10) rfl)) F_left_t d11_136 rfl (fun T67 S67 => ?_)
        refine px_iloadN S67 d11_139 rfl rfl ?_
        refine px_iaload (v := (dec (sC L x (P + 1)) k66)) S67 A_l (i := k66) ck66.ix ck66.lt rfl d11_140 rfl ?_
        refine px_iloadN S67 d11_141 rfl rfl ?_
        refine px_icmp S67 d11_142 (by decide) (pc' := 155) rfl rfl (fun (hc68 : ¬ (dec (sC L x (P + 1)) k66).toInt = (dec U x).toInt) => ?_) (fun (hc68 : (dec (sC L x (P + 1)) k66).toInt = (dec U x).toInt) => ?_)
        · refine px_aloadN S67 d11_155 rfl rfl rfl ?_
          refine px_getfield S67 (hw _ (List.mem_of_getElem? (i := 12) rfl)) F_right_t d11_156 rfl (fun T69 S69 => ?_)
          refine px_iloadN S69 d11_159 rfl rfl ?_
          refine px_iloadN S69 d11_160 rfl rfl ?_
          refine px_iastore (v := i) S69 A_r g_r (i := k66) ck66.ix ck66.lt rfl d11_161 rfl (fun T70 h70 S70 W70 A_r => ?_)
          replace X_t := X_t.wr W70
          replace F_left_t := F_left_t.other W70 (Or.inl n_tr)
          replace F_right_t := F_right_t.other W70 (Or.inl n_tr)
          replace F_up_t := F_up_t.other W70 (Or.inl n_tr)
          replace A_l := A_l.other W70 n_lr
          replace A_u := A_u.other W70 (Ne.symm n_ru)
          replace A_r := A_r.congr (upd_cd (ck66.lt) hi)
          replace KK := KK.wr W70 (Or.inl (by simp))
          obtain ⟨rfl, rfl, rfl⟩ := T3i ((rot_r0r hP ((cd_dec L P).ne hi hc53) ((cd_dec L x).eq cd_m1 hc58) hr3 ek66 ((cd_dec (sC L x (P + 1)) k66).ne cP hc68)).symm.trans hm)
          exact px_return S70 d11_162 rfl (by decide) (by decide) (⟨rfl, KK, ⟨X_t, F_left_t, F_right_t, F_up_t⟩, ⟨A_l, A_r, A_u⟩⟩)
        · refine px_aloadN S67 d11_145 rfl rfl rfl ?_
          refine px_getfield S67 (hw _ (List.mem_of_getElem? (i := 10) rfl)) F_left_t d11_146 rfl (fun T71 S71 => ?_)
          refine px_iloadN S71 d11_149 rfl rfl ?_
          refine px_iloadN S71 d11_150 rfl rfl ?_
          refine px_iastore (v := i) S71 A_l g_l (i := k66) ck66.ix ck66.lt rfl d11_151 rfl (fun T72 h72 S72 W72 A_l => ?_)
          replace X_t := X_t.wr W72
          replace F_left_t := F_left_t.other W72 (Or.inl n_tl)
          replace F_right_t := F_right_t.other W72 (Or.inl n_tl)
          replace F_up_t := F_up_t.other W72 (Or.inl n_tl)
          replace A_r := A_r.other W72 (Ne.symm n_lr)
          replace A_u := A_u.other W72 (Ne.symm n_lu)
          replace A_l := A_l.congr (upd_cd (ck66.lt) hi)
          replace KK := KK.wr W72 (Or.inl (by simp))
          refine px_goto S72 d11_152 (by decide) (pc' := 162) rfl ?_
          obtain ⟨rfl, rfl, rfl⟩ := T3i ((rot_r0l hP ((cd_dec L P).ne hi hc53) ((cd_dec L x).eq cd_m1 hc58) hr3 ek66 ((cd_dec (sC L x (P + 1)) k66).eq cP hc68)).symm.trans hm)
          exact px_return S72 d11_162 rfl (by decide) (by decide) (⟨rfl, KK, ⟨X_t, F_left_t, F_right_t, F_up_t⟩, ⟨A_l, A_r, A_u⟩⟩)
      · refine px_aloadN S57 d11_97 rfl rfl rfl ?_
        refine px_getfield S57 (hw _ (List.mem_of_getElem? (i := 14) rfl)) F_up_t d11_98 rfl (fun T73 S73 => ?_)
        refine px_aloadN S73 d11_101 rfl rfl rfl ?_
        refine px_getfield S73 (hw _ (List.mem_of_getElem? (i := 10) rfl)) F_left_t d11_102 rfl (fun T74 S74 => ?_)
        refine px_iloadN S74 d11_105 rfl rfl ?_
        refine px_iaload (v := (dec L x)) S74 A_l (i := x) hi.ix hi.lt rfl d11_106 rfl ?_
        refine px_iloadN S74 d11_107 rfl rfl ?_
        obtain ⟨k75, ek75⟩ : ∃ k, (gC L x) = k + 1 := (cd_dec L x).pos cd_m1 hc58
        have ck75 : Cd (dec L x) (k75 + 1) := by rw [← ek75]; exact (cd_dec L x)
        refine px_iastore (v := (dec U x)) S74 A_u g_u (i := k75) ck75.ix ck75.lt rfl d11_108 rfl (fun T76 h76 S76 W76 A_u => ?_)
        replace X_t := X_t.wr W76
        replace F_left_t := F_left_t.other W76 (Or.inl n_tu)
        replace F_right_t := F_right_t.other W76 (Or.inl n_tu)
        replace F_up_t := F_up_t.other W76 (Or.inl n_tu)
        replace A_l := A_l.other W76 n_lu
        replace A_r := A_r.other W76 n_ru
        replace A_u := A_u.congr (upd_cd (ck75.lt) cP)
        replace KK := KK.wr W76 (Or.inl (by simp))
        refine px_aloadN S76 d11_109 rfl rfl rfl ?_
        refine px_getfield S76 (hw _ (List.mem_of_getElem? (i := 10) rfl)) F_left_t d11_110 rfl (fun T77 S77 => ?_)
        refine px_iloadN S77 d11_113 rfl rfl ?_
        refine px_iloadN S77 d11_114 rfl rfl ?_
        refine px_iastore (v := (dec U x)) S77 A_l g_l (i := x) hi.ix hi.lt rfl d11_115 rfl (fun T78 h78 S78 W78 A_l => ?_)
        replace X_t := X_t.wr W78
        replace F_left_t := F_left_t.other W78 (Or.inl n_tl)
        replace F_right_t := F_right_t.other W78 (Or.inl n_tl)
        replace F_up_t := F_up_t.other W78 (Or.inl n_tl)
        replace A_r := A_r.other W78 (Ne.symm n_lr)
        replace A_u := A_u.other W78 (Ne.symm n_lu)
        replace A_l := A_l.congr (upd_cd (hi.lt) cP)
        replace KK := KK.wr W78 (Or.inl (by simp))
        refine px_aloadN S78 d11_116 rfl rfl rfl ?_
        refine px_getfield S78 (hw _ (List.mem_of_getElem? (i := 14) rfl)) F_up_t d11_117 rfl (fun T79 S79 => ?_)
        refine px_iloadN S79 d11_120 rfl rfl ?_
        refine px_iloadN S79 d11_121 rfl rfl ?_
        refine px_iastore (v := i) S79 A_u g_u (i := P) cP.ix cP.lt rfl d11_122 rfl (fun T80 h80 S80 W80 A_u => ?_)
        replace X_t := X_t.wr W80
        replace F_left_t := F_left_t.other W80 (Or.inl n_tu)
        replace F_right_t := F_right_t.other W80 (Or.inl n_tu)
        replace F_up_t := F_up_t.other W80 (Or.inl n_tu)
        replace A_l := A_l.other W80 n_lu
        replace A_r := A_r.other W80 n_ru
        replace A_u := A_u.congr (upd_cd (cP.lt) hi)
        replace KK := KK.wr W80 (Or.inl (by simp))
        refine px_aloadN S80 d11_123 rfl rfl rfl ?_
        refine px_getfield S80 (hw _ (List.mem_of_getElem? (i := 14) rfl)) F_up_t d11_124 rfl (fun T81 S81 => ?_)
        refine px_iloadN S81 d11_127 rfl rfl ?_
        refine px_iloadN S81 d11_128 rfl rfl ?_
        refine px_iastore (v := (dec U P)) S81 A_u g_u (i := x) hi.ix hi.lt rfl d11_129 rfl (fun T82 h82 S82 W82 A_u => ?_)
        replace X_t := X_t.wr W82
        replace F_left_t := F_left_t.other W82 (Or.inl n_tu)
        replace F_right_t := F_right_t.other W82 (Or.inl n_tu)
        replace F_up_t := F_up_t.other W82 (Or.inl n_tu)
        replace A_l := A_l.other W82 n_lu
        replace A_r := A_r.other W82 n_ru
        replace A_u := A_u.congr (upd_cd (hi.lt) (cd_dec U P))
        replace KK := KK.wr W82 (Or.inl (by simp))
        refine px_iload S82 d11_130 rfl rfl ?_
        refine px_if0 S82 d11_132 (by decide) (pc' := 162) rfl rfl (fun (hc83 : ¬ (0 : Int32).toInt = 0) => by exfalso; revert hc83; decide) (fun (hc83 : (0 : Int32).toInt = 0) => ?_)
        obtain ⟨k84, ek84⟩ : ∃ k, (gC U P) = k + 1 := root_up hr3
        have ck84 : Cd (dec U P) (k84 + 1) := by rw [← ek84]; exact (cd_dec U P)
        refine px_aloadN S82 d11_135 rfl rfl rfl ?_
        refine px_getfield S82 (hw _ (List.mem_of_getElem? (i := 10) rfl)) F_left_t d11_136 rfl (fun T85 S85 => ?_)
        refine px_iloadN S85 d11_139 rfl rfl ?_
        refine px_iaload (v := (dec (sC L x (P + 1)) k84)) S85 A_l (i := k84) ck84.ix ck84.lt rfl d11_140 rfl ?_
        refine px_iloadN S85 d11_141 rfl rfl ?_
        refine px_icmp S85 d11_142 (by decide) (pc' := 155) rfl rfl (fun (hc86 : ¬ (dec (sC L x (P + 1)) k84).toInt = (dec U x).toInt) => ?_) (fun (hc86 : (dec (sC L x (P + 1)) k84).toInt = (dec U x).toInt) => ?_)
        · refine px_aloadN S85 d11_155 rfl rfl rfl ?_
          refine px_getfield S85 (hw _ (List.mem_of_getElem? (i := 12) rfl)) F_right_t d11_156 rfl (fun T87 S87 => ?_)
          refine px_iloadN S87 d11_159 rfl rfl ?_
          refine px_iloadN S87 d11_160 rfl rfl ?_
          refine px_iastore (v := i) S87 A_r g_r (i := k84) ck84.ix ck84.lt rfl d11_161 rfl (fun T88 h88 S88 W88 A_r => ?_)
          replace X_t := X_t.wr W88
          replace F_left_t := F_left_t.other W88 (Or.inl n_tr)
          replace F_right_t := F_right_t.other W88 (Or.inl n_tr)
          replace F_up_t := F_up_t.other W88 (Or.inl n_tr)
          replace A_l := A_l.other W88 n_lr
          replace A_u := A_u.other W88 (Ne.symm n_ru)
          replace A_r := A_r.congr (upd_cd (ck84.lt) hi)
          replace KK := KK.wr W88 (Or.inl (by simp))
          obtain ⟨rfl, rfl, rfl⟩ := T3i ((rot_r1r hP ((cd_dec L P).ne hi hc53) ek75 hr3 ek84 ((cd_dec (sC L x (P + 1)) k84).ne cP hc86)).symm.trans hm)
          exact px_return S88 d11_162 rfl (by decide) (by decide) (⟨rfl, KK, ⟨X_t, F_left_t, F_right_t, F_up_t⟩, ⟨A_l, A_r, A_u⟩⟩)
        · refine px_aloadN S85 d11_145 rfl rfl rfl ?_
          refine px_getfield S85 (hw _ (List.mem_of_getElem? (i := 10) rfl)) F_left_t d11_146 rfl (fun T89 S89 => ?_)
          refine px_iloadN S89 d11_149 rfl rfl ?_
          refine px_iloadN S89 d11_150 rfl rfl ?_
          refine px_iastore (v := i) S89 A_l g_l (i := k84) ck84.ix ck84.lt rfl d11_151 rfl (fun T90 h90 S90 W90 A_l => ?_)
          replace X_t := X_t.wr W90
          replace F_left_t := F_left_t.other W90 (Or.inl n_tl)
          replace F_right_t := F_right_t.other W90 (Or.inl n_tl)
          replace F_up_t := F_up_t.other W90 (Or.inl n_tl)
          replace A_r := A_r.other W90 (Ne.symm n_lr)
          replace A_u := A_u.other W90 (Ne.symm n_lu)
          replace A_l := A_l.congr (upd_cd (ck84.lt) hi)
          replace KK := KK.wr W90 (Or.inl (by simp))
          refine px_goto S90 d11_152 (by decide) (pc' := 162) rfl ?_
          obtain ⟨rfl, rfl, rfl⟩ := T3i ((rot_r1l hP ((cd_dec L P).ne hi hc53) ek75 hr3 ek84 ((cd_dec (sC L x (P + 1)) k84).eq cP hc86)).symm.trans hm)
          exact px_return S90 d11_162 rfl (by decide) (by decide) (⟨rfl, KK, ⟨X_t, F_left_t, F_right_t, F_up_t⟩, ⟨A_l, A_r, A_u⟩⟩)
    · refine px_aloadN S52 d11_31 rfl rfl rfl ?_
      refine px_getfield S52 (hw _ (List.mem_of_getElem? (i := 10) rfl)) F_left_t d11_32 rfl (fun T91 S91 => ?_)
      refine px_iloadN S91 d11_35 rfl rfl ?_
      refine px_aloadN S91 d11_36 rfl rfl rfl ?_
      refine px_getfield S91 (hw _ (List.mem_of_getElem? (i := 12) rfl)) F_right_t d11_37 rfl (fun T92 S92 => ?_)
      refine px_iloadN S92 d11_40 rfl rfl ?_
      refine px_iaload (v := (dec R x)) S92 A_r (i := x) hi.ix hi.lt rfl d11_41 rfl ?_
      refine px_iastore (v := (dec R x)) S92 A_l g_l (i := P) cP.ix cP.lt rfl d11_42 rfl (fun T93 h93 S93 W93 A_l => ?_)
      replace X_t := X_t.wr W93
      replace F_left_t := F_left_t.other W93 (Or.inl n_tl)
      replace F_right_t := F_right_t.other W93 (Or.inl n_tl)
      replace F_up_t := F_up_t.other W93 (Or.inl n_tl)
      replace A_r := A_r.other W93 (Ne.symm n_lr)
      replace A_u := A_u.other W93 (Ne.symm n_lu)
      replace A_l := A_l.congr (upd_cd (cP.lt) (cd_dec R x))
      replace KK := KK.wr W93 (Or.inl (by simp))
      refine px_aloadN S93 d11_43 rfl rfl rfl ?_
      refine px_getfield S93 (hw _ (List.mem_of_getElem? (i := 12) rfl)) F_right_t d11_44 rfl (fun T94 S94 => ?_)
      refine px_iloadN S94 d11_47 rfl rfl ?_
      refine px_iaload (v := (dec R x)) S94 A_r (i := x) hi.ix hi.lt rfl d11_48 rfl ?_
      refine px_iconst (v := (-1 : Int32)) S94 d11_49 rfl rfl ?_
      refine px_icmp S94 d11_50 (by decide) (pc' := 65) rfl rfl (fun (hc95 : (dec R x).toInt = (-1 : Int32).toInt) => ?_) (fun (hc95 : ¬ (dec R x).toInt = (-1 : Int32).toInt) => ?_)
      · refine px_aloadN S94 d11_65 rfl rfl rfl ?_
        refine px_getfield S94 (hw _ (List.mem_of_getElem? (i := 12) rfl)) F_right_t d11_66 rfl (fun T96 S96 => ?_)
        refine px_iloadN S96 d11_69 rfl rfl ?_
        refine px_iloadN S96 d11_70 rfl rfl ?_
        refine px_iastore (v := (dec U x)) S96 A_r g_r (i := x) hi.ix hi.lt rfl d11_71 rfl (fun T97 h97 S97 W97 A_r => ?_)
        replace X_t := X_t.wr W97
        replace F_left_t := F_left_t.other W97 (Or.inl n_tr)
        replace F_right_t := F_right_t.other W97 (Or.inl n_tr)
        replace F_up_t := F_up_t.other W97 (Or.inl n_tr)
        replace A_l := A_l.other W97 n_lr
        replace A_u := A_u.other W97 (Ne.symm n_ru)
        replace A_r := A_r.congr (upd_cd (hi.lt) cP)
        replace KK := KK.wr W97 (Or.inl (by simp))
        refine px_goto S97 d11_72 (by decide) (pc' := 116) rfl ?_
        refine px_aloadN S97 d11_116 rfl rfl rfl ?_
        refine px_getfield S97 (hw _ (List.mem_of_getElem? (i := 14) rfl)) F_up_t d11_117 rfl (fun T98 S98 => ?_)
        refine px_iloadN S98 d11_120 rfl rfl ?_
        refine px_iloadN S98 d11_121 rfl rfl ?_
        refine px_iastore (v := i) S98 A_u g_u (i := P) cP.ix cP.lt rfl d11_122 rfl (fun T99 h99 S99 W99 A_u => ?_)
        replace X_t := X_t.wr W99
        replace F_left_t := F_left_t.other W99 (Or.inl n_tu)
        replace F_right_t := F_right_t.other W99 (Or.inl n_tu)
        replace F_up_t := F_up_t.other W99 (Or.inl n_tu)
        replace A_l := A_l.other W99 n_lu
        replace A_r := A_r.other W99 n_ru
        replace A_u := A_u.congr (upd_cd (cP.lt) hi)
        replace KK := KK.wr W99 (Or.inl (by simp))
        refine px_aloadN S99 d11_123 rfl rfl rfl ?_
        refine px_getfield S99 (hw _ (List.mem_of_getElem? (i := 14) rfl)) F_up_t d11_124 rfl (fun T100 S100 => ?_)
        refine px_iloadN S100 d11_127 rfl rfl ?_
        refine px_iloadN S100 d11_128 rfl rfl ?_
        refine px_iastore (v := (dec U P)) S100 A_u g_u (i := x) hi.ix hi.lt rfl d11_129 rfl (fun T101 h101 S101 W101 A_u => ?_)
        replace X_t := X_t.wr W101
        replace F_left_t := F_left_t.other W101 (Or.inl n_tu)
        replace F_right_t := F_right_t.other W101 (Or.inl n_tu)
        replace F_up_t := F_up_t.other W101 (Or.inl n_tu)
        replace A_l := A_l.other W101 n_lu
        replace A_r := A_r.other W101 n_ru
        replace A_u := A_u.congr (upd_cd (hi.lt) (cd_dec U P))
        replace KK := KK.wr W101 (Or.inl (by simp))
        refine px_iload S101 d11_130 rfl rfl ?_
        refine px_if0 S101 d11_132 (by decide) (pc' := 162) rfl rfl (fun (hc102 : ¬ (0 : Int32).toInt = 0) => by exfalso; revert hc102; decide) (fun (hc102 : (0 : Int32).toInt = 0) => ?_)
        obtain ⟨k103, ek103⟩ : ∃ k, (gC U P) = k + 1 := root_up hr3
        have ck103 : Cd (dec U P) (k103 + 1) := by rw [← ek103]; exact (cd_dec U P)
        refine px_aloadN S101 d11_135 rfl rfl rfl ?_
        refine px_getfield S101 (hw _ (List.mem_of_getElem? (i := 10) rfl)) F_left_t d11_136 rfl (fun T104 S104 => ?_)
        refine px_iloadN S104 d11_139 rfl rfl ?_
        refine px_iaload (v := (dec (sC L P (gC R x)) k103)) S104 A_l (i := k103) ck103.ix ck103.lt rfl d11_140 rfl ?_
        refine px_iloadN S104 d11_141 rfl rfl ?_
        refine px_icmp S104 d11_142 (by decide) (pc' := 155) rfl rfl (fun (hc105 : ¬ (dec (sC L P (gC R x)) k103).toInt = (dec U x).toInt) => ?_) (fun (hc105 : (dec (sC L P (gC R x)) k103).toInt = (dec U x).toInt) => ?_)
        · refine px_aloadN S104 d11_155 rfl rfl rfl ?_
          refine px_getfield S104 (hw _ (List.mem_of_getElem? (i := 12) rfl)) F_right_t d11_156 rfl (fun T106 S106 => ?_)
          refine px_iloadN S106 d11_159 rfl rfl ?_
          refine px_iloadN S106 d11_160 rfl rfl ?_
          refine px_iastore (v := i) S106 A_r g_r (i := k103) ck103.ix ck103.lt rfl d11_161 rfl (fun T107 h107 S107 W107 A_r => ?_)
          replace X_t := X_t.wr W107
          replace F_left_t := F_left_t.other W107 (Or.inl n_tr)
          replace F_right_t := F_right_t.other W107 (Or.inl n_tr)
          replace F_up_t := F_up_t.other W107 (Or.inl n_tr)
          replace A_l := A_l.other W107 n_lr
          replace A_u := A_u.other W107 (Ne.symm n_ru)
          replace A_r := A_r.congr (upd_cd (ck103.lt) hi)
          replace KK := KK.wr W107 (Or.inl (by simp))
          obtain ⟨rfl, rfl, rfl⟩ := T3i ((rot_l0r hP ((cd_dec L P).eq hi hc53) ((cd_dec R x).eq cd_m1 hc95) hr3 ek103 ((cd_dec (sC L P (gC R x)) k103).ne cP hc105)).symm.trans hm)
          exact px_return S107 d11_162 rfl (by decide) (by decide) (⟨rfl, KK, ⟨X_t, F_left_t, F_right_t, F_up_t⟩, ⟨A_l, A_r, A_u⟩⟩)
        · refine px_aloadN S104 d11_145 rfl rfl rfl ?_
          refine px_getfield S104 (hw _ (List.mem_of_getElem? (i := 10) rfl)) F_left_t d11_146 rfl (fun T108 S108 => ?_)
          refine px_iloadN S108 d11_149 rfl rfl ?_
          refine px_iloadN S108 d11_150 rfl rfl ?_
          refine px_iastore (v := i) S108 A_l g_l (i := k103) ck103.ix ck103.lt rfl d11_151 rfl (fun T109 h109 S109 W109 A_l => ?_)
          replace X_t := X_t.wr W109
          replace F_left_t := F_left_t.other W109 (Or.inl n_tl)
          replace F_right_t := F_right_t.other W109 (Or.inl n_tl)
          replace F_up_t := F_up_t.other W109 (Or.inl n_tl)
          replace A_r := A_r.other W109 (Ne.symm n_lr)
          replace A_u := A_u.other W109 (Ne.symm n_lu)
          replace A_l := A_l.congr (upd_cd (ck103.lt) hi)
          replace KK := KK.wr W109 (Or.inl (by simp))
          refine px_goto S109 d11_152 (by decide) (pc' := 162) rfl ?_
          obtain ⟨rfl, rfl, rfl⟩ := T3i ((rot_l0l hP ((cd_dec L P).eq hi hc53) ((cd_dec R x).eq cd_m1 hc95) hr3 ek103 ((cd_dec (sC L P (gC R x)) k103).eq cP hc105)).symm.trans hm)
          exact px_return S109 d11_162 rfl (by decide) (by decide) (⟨rfl, KK, ⟨X_t, F_left_t, F_right_t, F_up_t⟩, ⟨A_l, A_r, A_u⟩⟩)
      · refine px_aloadN S94 d11_53 rfl rfl rfl ?_
        refine px_getfield S94 (hw _ (List.mem_of_getElem? (i := 14) rfl)) F_up_t d11_54 rfl (fun T110 S110 => ?_)
        refine px_aloadN S110 d11_57 rfl rfl rfl ?_
        refine px_getfield S110 (hw _ (List.mem_of_getElem? (i := 12) rfl)) F_right_t d11_58 rfl (fun T111 S111 => ?_)
        refine px_iloadN S111 d11_61 rfl rfl ?_
        refine px_iaload (v := (dec R x)) S111 A_r (i := x) hi.ix hi.lt rfl d11_62 rfl ?_
        refine px_iloadN S111 d11_63 rfl rfl ?_
        obtain ⟨k112, ek112⟩ : ∃ k, (gC R x) = k + 1 := (cd_dec R x).pos cd_m1 hc95
        have ck112 : Cd (dec R x) (k112 + 1) := by rw [← ek112]; exact (cd_dec R x)
        refine px_iastore (v := (dec U x)) S111 A_u g_u (i := k112) ck112.ix ck112.lt rfl d11_64 rfl (fun T113 h113 S113 W113 A_u => ?_)
        replace X_t := X_t.wr W113
        replace F_left_t := F_left_t.other W113 (Or.inl n_tu)
        replace F_right_t := F_right_t.other W113 (Or.inl n_tu)
        replace F_up_t := F_up_t.other W113 (Or.inl n_tu)
        replace A_l := A_l.other W113 n_lu
        replace A_r := A_r.other W113 n_ru
        replace A_u := A_u.congr (upd_cd (ck112.lt) cP)
        replace KK := KK.wr W113 (Or.inl (by simp))
        refine px_aloadN S113 d11_65 rfl rfl rfl ?_
        refine px_getfield S113 (hw _ (List.mem_of_getElem? (i := 12) rfl)) F_right_t d11_66 rfl (fun T114 S114 => ?_)
        refine px_iloadN S114 d11_69 rfl rfl ?_
        refine px_iloadN S114 d11_70 rfl rfl ?_
        refine px_iastore (v := (dec U x)) S114 A_r g_r (i := x) hi.ix hi.lt rfl d11_71 rfl (fun T115 h115 S115 W115 A_r => ?_)
        replace X_t := X_t.wr W115
        replace F_left_t := F_left_t.other W115 (Or.inl n_tr)
        replace F_right_t := F_right_t.other W115 (Or.inl n_tr)
        replace F_up_t := F_up_t.other W115 (Or.inl n_tr)
        replace A_l := A_l.other W115 n_lr
        replace A_u := A_u.other W115 (Ne.symm n_ru)
        replace A_r := A_r.congr (upd_cd (hi.lt) cP)
        replace KK := KK.wr W115 (Or.inl (by simp))
        refine px_goto S115 d11_72 (by decide) (pc' := 116) rfl ?_
        refine px_aloadN S115 d11_116 rfl rfl rfl ?_
        refine px_getfield S115 (hw _ (List.mem_of_getElem? (i := 14) rfl)) F_up_t d11_117 rfl (fun T116 S116 => ?_)
        refine px_iloadN S116 d11_120 rfl rfl ?_
        refine px_iloadN S116 d11_121 rfl rfl ?_
        refine px_iastore (v := i) S116 A_u g_u (i := P) cP.ix cP.lt rfl d11_122 rfl (fun T117 h117 S117 W117 A_u => ?_)
        replace X_t := X_t.wr W117
        replace F_left_t := F_left_t.other W117 (Or.inl n_tu)
        replace F_right_t := F_right_t.other W117 (Or.inl n_tu)
        replace F_up_t := F_up_t.other W117 (Or.inl n_tu)
        replace A_l := A_l.other W117 n_lu
        replace A_r := A_r.other W117 n_ru
        replace A_u := A_u.congr (upd_cd (cP.lt) hi)
        replace KK := KK.wr W117 (Or.inl (by simp))
        refine px_aloadN S117 d11_123 rfl rfl rfl ?_
        refine px_getfield S117 (hw _ (List.mem_of_getElem? (i := 14) rfl)) F_up_t d11_124 rfl (fun T118 S118 => ?_)
        refine px_iloadN S118 d11_127 rfl rfl ?_
        refine px_iloadN S118 d11_128 rfl rfl ?_
        refine px_iastore (v := (dec U P)) S118 A_u g_u (i := x) hi.ix hi.lt rfl d11_129 rfl (fun T119 h119 S119 W119 A_u => ?_)
        replace X_t := X_t.wr W119
        replace F_left_t := F_left_t.other W119 (Or.inl n_tu)
        replace F_right_t := F_right_t.other W119 (Or.inl n_tu)
        replace F_up_t := F_up_t.other W119 (Or.inl n_tu)
        replace A_l := A_l.other W119 n_lu
        replace A_r := A_r.other W119 n_ru
        replace A_u := A_u.congr (upd_cd (hi.lt) (cd_dec U P))
        replace KK := KK.wr W119 (Or.inl (by simp))
        refine px_iload S119 d11_130 rfl rfl ?_
        refine px_if0 S119 d11_132 (by decide) (pc' := 162) rfl rfl (fun (hc120 : ¬ (0 : Int32).toInt = 0) => by exfalso; revert hc120; decide) (fun (hc120 : (0 : Int32).toInt = 0) => ?_)
        obtain ⟨k121, ek121⟩ : ∃ k, (gC U P) = k + 1 := root_up hr3
        have ck121 : Cd (dec U P) (k121 + 1) := by rw [← ek121]; exact (cd_dec U P)
        refine px_aloadN S119 d11_135 rfl rfl rfl ?_
        refine px_getfield S119 (hw _ (List.mem_of_getElem? (i := 10) rfl)) F_left_t d11_136 rfl (fun T122 S122 => ?_)
        refine px_iloadN S122 d11_139 rfl rfl ?_
        refine px_iaload (v := (dec (sC L P (gC R x)) k121)) S122 A_l (i := k121) ck121.ix ck121.lt rfl d11_140 rfl ?_
        refine px_iloadN S122 d11_141 rfl rfl ?_
        refine px_icmp S122 d11_142 (by decide) (pc' := 155) rfl rfl (fun (hc123 : ¬ (dec (sC L P (gC R x)) k121).toInt = (dec U x).toInt) => ?_) (fun (hc123 : (dec (sC L P (gC R x)) k121).toInt = (dec U x).toInt) => ?_)
        · refine px_aloadN S122 d11_155 rfl rfl rfl ?_
          refine px_getfield S122 (hw _ (List.mem_of_getElem? (i := 12) rfl)) F_right_t d11_156 rfl (fun T124 S124 => ?_)
          refine px_iloadN S124 d11_159 rfl rfl ?_
          refine px_iloadN S124 d11_160 rfl rfl ?_
          refine px_iastore (v := i) S124 A_r g_r (i := k121) ck121.ix ck121.lt rfl d11_161 rfl (fun T125 h125 S125 W125 A_r => ?_)
          replace X_t := X_t.wr W125
          replace F_left_t := F_left_t.other W125 (Or.inl n_tr)
          replace F_right_t := F_right_t.other W125 (Or.inl n_tr)
          replace F_up_t := F_up_t.other W125 (Or.inl n_tr)
          replace A_l := A_l.other W125 n_lr
          replace A_u := A_u.other W125 (Ne.symm n_ru)
          replace A_r := A_r.congr (upd_cd (ck121.lt) hi)
          replace KK := KK.wr W125 (Or.inl (by simp))
          obtain ⟨rfl, rfl, rfl⟩ := T3i ((rot_l1r hP ((cd_dec L P).eq hi hc53) ek112 hr3 ek121 ((cd_dec (sC L P (gC R x)) k121).ne cP hc123)).symm.trans hm)
          exact px_return S125 d11_162 rfl (by decide) (by decide) (⟨rfl, KK, ⟨X_t, F_left_t, F_right_t, F_up_t⟩, ⟨A_l, A_r, A_u⟩⟩)
        · refine px_aloadN S122 d11_145 rfl rfl rfl ?_
          refine px_getfield S122 (hw _ (List.mem_of_getElem? (i := 10) rfl)) F_left_t d11_146 rfl (fun T126 S126 => ?_)
          refine px_iloadN S126 d11_149 rfl rfl ?_
          refine px_iloadN S126 d11_150 rfl rfl ?_
          refine px_iastore (v := i) S126 A_l g_l (i := k121) ck121.ix ck121.lt rfl d11_151 rfl (fun T127 h127 S127 W127 A_l => ?_)
          replace X_t := X_t.wr W127
          replace F_left_t := F_left_t.other W127 (Or.inl n_tl)
          replace F_right_t := F_right_t.other W127 (Or.inl n_tl)
          replace F_up_t := F_up_t.other W127 (Or.inl n_tl)
          replace A_r := A_r.other W127 (Ne.symm n_lr)
          replace A_u := A_u.other W127 (Ne.symm n_lu)
          replace A_l := A_l.congr (upd_cd (ck121.lt) hi)
          replace KK := KK.wr W127 (Or.inl (by simp))
          refine px_goto S127 d11_152 (by decide) (pc' := 162) rfl ?_
          obtain ⟨rfl, rfl, rfl⟩ := T3i ((rot_l1l hP ((cd_dec L P).eq hi hc53) ek112 hr3 ek121 ((cd_dec (sC L P (gC R x)) k121).eq cP hc123)).symm.trans hm)
          exact px_return S127 d11_162 rfl (by decide) (by decide) (⟨rfl, KK, ⟨X_t, F_left_t, F_right_t, F_up_t⟩, ⟨A_l, A_r, A_u⟩⟩)
theorem d9_0 : decode prog_17_method_6_code 0 = .ok (.aload_n 0, 1) := by decide +kernel
theorem d9_1 : decode prog_17_method_6_code 1 = .ok (.iload_n 1, 1) := by decide +kernel
theorem d9_2 : decode prog_17_method_6_code 2 = .ok (.invokevirtual 33, 3) := by decide +kernel
theorem d9_5 : decode prog_17_method_6_code 5 = .ok (.ifCond .ne 87, 3) := by decide +kernel
theorem d9_8 : decode prog_17_method_6_code 8 = .ok (.aload_n 0, 1) := by decide +kernel
theorem d9_9 : decode prog_17_method_6_code 9 = .ok (.getfield 16, 3) := by decide +kernel
theorem d9_12 : decode prog_17_method_6_code 12 = .ok (.iload_n 1, 1) := by decide +kernel
theorem d9_13 : decode prog_17_method_6_code 13 = .ok (.iaload, 1) := by decide +kernel
theorem d9_14 : decode prog_17_method_6_code 14 = .ok (.istore_n 2, 1) := by decide +kernel
theorem d9_15 : decode prog_17_method_6_code 15 = .ok (.aload_n 0, 1) := by decide +kernel
theorem d9_16 : decode prog_17_method_6_code 16 = .ok (.iload_n 2, 1) := by decide +kernel
theorem d9_17 : decode prog_17_method_6_code 17 = .ok (.invokevirtual 33, 3) := by decide +kernel
theorem d9_20 : decode prog_17_method_6_code 20 = .ok (.ifCond .ne 64, 3) := by decide +kernel
theorem d9_23 : decode prog_17_method_6_code 23 = .ok (.aload_n 0, 1) := by decide +kernel
theorem d9_24 : decode prog_17_method_6_code 24 = .ok (.getfield 16, 3) := by decide +kernel
theorem d9_27 : decode prog_17_method_6_code 27 = .ok (.iload_n 2, 1) := by decide +kernel
theorem d9_28 : decode prog_17_method_6_code 28 = .ok (.iaload, 1) := by decide +kernel
theorem d9_29 : decode prog_17_method_6_code 29 = .ok (.istore_n 3, 1) := by decide +kernel
theorem d9_30 : decode prog_17_method_6_code 30 = .ok (.aload_n 0, 1) := by decide +kernel
theorem d9_31 : decode prog_17_method_6_code 31 = .ok (.getfield 7, 3) := by decide +kernel
theorem d9_34 : decode prog_17_method_6_code 34 = .ok (.iload_n 3, 1) := by decide +kernel
theorem d9_35 : decode prog_17_method_6_code 35 = .ok (.iaload, 1) := by decide +kernel
theorem d9_36 : decode prog_17_method_6_code 36 = .ok (.iload_n 2, 1) := by decide +kernel
theorem d9_37 : decode prog_17_method_6_code 37 = .ok (.if_icmp .ne 7, 3) := by decide +kernel
theorem d9_40 : decode prog_17_method_6_code 40 = .ok (.iconst 1, 1) := by decide +kernel
theorem d9_41 : decode prog_17_method_6_code 41 = .ok (.goto 4, 3) := by decide +kernel
theorem d9_44 : decode prog_17_method_6_code 44 = .ok (.iconst 0, 1) := by decide +kernel
theorem d9_45 : decode prog_17_method_6_code 45 = .ok (.aload_n 0, 1) := by decide +kernel
theorem d9_46 : decode prog_17_method_6_code 46 = .ok (.getfield 7, 3) := by decide +kernel
theorem d9_49 : decode prog_17_method_6_code 49 = .ok (.iload_n 2, 1) := by decide +kernel
theorem d9_50 : decode prog_17_method_6_code 50 = .ok (.iaload, 1) := by decide +kernel
theorem d9_51 : decode prog_17_method_6_code 51 = .ok (.iload_n 1, 1) := by decide +kernel
theorem d9_52 : decode prog_17_method_6_code 52 = .ok (.if_icmp .ne 7, 3) := by decide +kernel
theorem d9_55 : decode prog_17_method_6_code 55 = .ok (.iconst 1, 1) := by decide +kernel
theorem d9_56 : decode prog_17_method_6_code 56 = .ok (.goto 4, 3) := by decide +kernel
theorem d9_59 : decode prog_17_method_6_code 59 = .ok (.iconst 0, 1) := by decide +kernel
theorem d9_60 : decode prog_17_method_6_code 60 = .ok (.if_icmp .ne 7, 3) := by decide +kernel
theorem d9_63 : decode prog_17_method_6_code 63 = .ok (.iconst 1, 1) := by decide +kernel
theorem d9_64 : decode prog_17_method_6_code 64 = .ok (.goto 4, 3) := by decide +kernel
theorem d9_67 : decode prog_17_method_6_code 67 = .ok (.iconst 0, 1) := by decide +kernel
theorem d9_68 : decode prog_17_method_6_code 68 = .ok (.istore 4, 2) := by decide +kernel
theorem d9_70 : decode prog_17_method_6_code 70 = .ok (.aload_n 0, 1) := by decide +kernel
theorem d9_71 : decode prog_17_method_6_code 71 = .ok (.iload 4, 2) := by decide +kernel
theorem d9_73 : decode prog_17_method_6_code 73 = .ok (.ifCond .eq 7, 3) := by decide +kernel
theorem d9_76 : decode prog_17_method_6_code 76 = .ok (.iload_n 2, 1) := by decide +kernel
theorem d9_77 : decode prog_17_method_6_code 77 = .ok (.goto 4, 3) := by decide +kernel
theorem d9_80 : decode prog_17_method_6_code 80 = .ok (.iload_n 1, 1) := by decide +kernel
theorem d9_81 : decode prog_17_method_6_code 81 = .ok (.invokevirtual 37, 3) := by decide +kernel
theorem d9_84 : decode prog_17_method_6_code 84 = .ok (.aload_n 0, 1) := by decide +kernel
theorem d9_85 : decode prog_17_method_6_code 85 = .ok (.iload_n 1, 1) := by decide +kernel
theorem d9_86 : decode prog_17_method_6_code 86 = .ok (.invokevirtual 37, 3) := by decide +kernel
theorem d9_89 : decode prog_17_method_6_code 89 = .ok (.goto (-89), 3) := by decide +kernel
theorem d9_92 : decode prog_17_method_6_code 92 = .ok (.return_, 1) := by decide +kernel
theorem pd_9_0 : parseMethodDescriptor "(I)Z" = some ⟨[.int], some .boolean⟩ := by decide +kernel
theorem pd_9_1 : parseMethodDescriptor "(I)V" = some ⟨[.int], none⟩ := by decide +kernel
theorem pn_9 : plainFor (⟨"com/example/rostra/rostra/tree/Ancestry", "splay", "(I)V"⟩ : MethodName) = true := plainFor_of_name (by first | (simp [plainName, overriddenIn]; done) | decide +kernel)
set_option maxRecDepth 65536 in
set_option maxHeartbeats 40000000 in
theorem c_spl {Z : State} {a0 : Array Value} (hw : ∀ d ∈ tables_1, d.before a0 Z = true) {t l r u : Addr} {L R U x : Nat} {i : Int32} {kk L' R' U' : Nat} {h0 : Heap} {n0 : Nat} (Z0 : n0 ≤ h0.size) (sp : Sep n0 t l r u) (B0 : AncO Z h0 t l r u) (A0 : Tr Z h0 l r u L R U) (hi : Cd i (x + 1)) (hm : splM kk L R U x = some (L', R', U')) :
    Ctr Z n0 (⟨"com/example/rostra/rostra/tree/Ancestry", "splay", "(I)V"⟩ : MethodName) prog_17_method_6_code 5 none ({ frames := 2, cells := 0, slots := 0, locals := 30 } : Room) [(.ref t), (.int i)] h0 (fun v h => v = none ∧ Keep h0 h [l, r, u] ∧ AncO Z h t l r u ∧ Tr Z h l r u L' R' U') := by
  refine Ctr.of (L := #[.val (.ref t), .val (.int i), .unset, .unset, .unset]) pn_9 Z0 (fun m => by first | (simp [entryFrame, mkF, argsToLocals, Value.category]; done) | rfl) ?_
  intro K T S0
  obtain ⟨⟨g_l, g_r, g_u⟩, n_tl, n_tr, n_tu, n_lr, n_lu, n_ru⟩ := sp
  obtain ⟨X_t, F_left_t, F_right_t, F_up_t⟩ := B0
  obtain ⟨A_l, A_r, A_u⟩ := A0
  have KK := Keep.refl h0 [l, r, u]
  refine Go.loopH (α := (Nat) × (Nat) × (Nat) × (Slot) × (Slot) × (Slot)) (Inv := fun k xx h => Keep h0 h [l, r, u] ∧ AncO Z h t l r u ∧ Tr Z h l r u xx.1 xx.2.1 xx.2.2.1 ∧ splM k xx.1 xx.2.1 xx.2.2.1 x = some (L', R', U') ∧ Pl xx.2.2.2.1 ∧ Pl xx.2.2.2.2.1 ∧ Pl xx.2.2.2.2.2) (pcj := 0) (cl' := 0) (sl' := 0) (Lj := fun xx => #[.val (.ref t), .val (.int i), xx.2.2.2.1, xx.2.2.2.2.1, xx.2.2.2.2.2]) (stj := fun xx => []) S0 (fun k IHJ1 xx T2 h2 S2 p2 => ?_) (fun J1 => ?_)
  · obtain ⟨La, Ra, Ua, s2, s3, s4⟩ := xx
    try dsimp only at p2
    obtain ⟨KK, ⟨X_t, F_left_t, F_right_t, F_up_t⟩, ⟨A_l, A_r, A_u⟩, hk, p_s2, p_s3, p_s4⟩ := p2
    show Go _ _ _ _ _ 0 #[.val (.ref t), .val (.int i), s2, s3, s4] []
    refine px_aloadN S2 d9_0 rfl rfl rfl ?_
    refine px_iloadN S2 d9_1 rfl rfl ?_
    refine px_callP (Cn := "com/example/rostra/rostra/tree/Ancestry") (yp := ({ cls := "com/example/rostra/rostra/tree/Ancestry", name := "add", desc := "(II)V" } : Jvm.MethodName)) (as' := [(.int i)]) (st := []) (W := 0) S2 (c_root (L := La) (R := Ra) (U := Ua) (x := x) hw S2.size ⟨⟨g_l, g_r, g_u⟩, n_tl, n_tr, n_tu, n_lr, n_lu, n_ru⟩ ⟨X_t, F_left_t, F_right_t, F_up_t⟩ ⟨A_l, A_r, A_u⟩ hi) X_t (hw _ (List.mem_of_getElem? (i := 45) rfl)) (hw _ (List.mem_of_getElem? (i := 46) rfl)) (hw _ (List.mem_of_getElem? (i := 47) rfl)) (hw _ (List.mem_of_getElem? (i := 23) rfl)) rfl (hw _ (List.mem_of_getElem? (i := 3) rfl)) (hw _ (List.mem_of_getElem? (i := 48) rfl)) (by decide) pd_9_0 rfl rfl (by decide) rfl (by decide) (by decide) (by decide) d9_2 rfl rfl (fun T3 h3 v3 S3 q3 => ?_)
    obtain ⟨rfl, q3⟩ := q3
    rcases Bool.eq_false_or_eq_true (rootM La Ra Ua x) with hr3 | hr3
    · rw [hr3] at q3
      obtain rfl := q3
      show Go _ _ _ _ _ _ _ [(.int (1 : Int32))]
      obtain ⟨rfl, rfl, rfl⟩ := spl_done hr3 hk
      refine px_if0 S3 d9_5 (by decide) (pc' := 92) rfl rfl (fun (hc4 : ¬ (1 : Int32).toInt = 0) => ?_) (fun (hc4 : (1 : Int32).toInt = 0) => by exfalso; revert hc4; decide)
      exact px_return S3 d9_92 rfl (by decide) (by decide) (⟨rfl, KK, ⟨X_t, F_left_t, F_right_t, F_up_t⟩, ⟨A_l, A_r, A_u⟩⟩)
    · rw [hr3] at q3
      obtain rfl := q3
      show Go _ _ _ _ _ _ _ [(.int (0 : Int32))]
      obtain ⟨k', P, L1, R1, U1, P1, L2, R2, U2, rfl, hP, hs1, hP1, hm2, hk'⟩ := spl_step hr3 hk
      have cP : Cd (dec Ua x) (P + 1) := by rw [← hP]; exact cd_dec Ua x
      refine px_if0 S3 d9_5 (by decide) (pc' := 92) rfl rfl (fun (hc5 : ¬ (0 : Int32).toInt = 0) => by exfalso; revert hc5; decide) (fun (hc5 : (0 : Int32).toInt = 0) => ?_)
      refine px_aloadN S3 d9_8 rfl rfl rfl ?_
      refine px_getfield S3 (hw _ (List.mem_of_getElem? (i := 14) rfl)) F_up_t d9_9 rfl (fun T6 S6 => ?_)
      refine px_iloadN S6 d9_12 rfl rfl ?_
      refine px_iaload (v := (dec Ua x)) S6 A_u (i := x) hi.ix hi.lt rfl d9_13 rfl ?_
      refine px_istoreN S6 d9_14 rfl (L' := #[.val (.ref t), .val (.int i), .val (.int (dec Ua x)), s3, s4]) (store_pl (x := s2) rfl rfl p_s2) ?_
      refine px_aloadN S6 d9_15 rfl rfl rfl ?_
      refine px_iloadN S6 d9_16 rfl rfl ?_
      refine px_callP (Cn := "com/example/rostra/rostra/tree/Ancestry") (yp := ({ cls := "com/example/rostra/rostra/tree/Ancestry", name := "add", desc := "(II)V" } : Jvm.MethodName)) (as' := [(.int (dec Ua x))]) (st := []) (W := 0) S6 (c_root (L := La) (R := Ra) (U := Ua) (x := P) hw S6.size ⟨⟨g_l, g_r, g_u⟩, n_tl, n_tr, n_tu, n_lr, n_lu, n_ru⟩ ⟨X_t, F_left_t, F_right_t, F_up_t⟩ ⟨A_l, A_r, A_u⟩ cP) X_t (hw _ (List.mem_of_getElem? (i := 45) rfl)) (hw _ (List.mem_of_getElem? (i := 46) rfl)) (hw _ (List.mem_of_getElem? (i := 47) rfl)) (hw _ (List.mem_of_getElem? (i := 23) rfl)) rfl (hw _ (List.mem_of_getElem? (i := 3) rfl)) (hw _ (List.mem_of_getElem? (i := 48) rfl)) (by decide) pd_9_0 rfl rfl (by decide) rfl (by decide) (by decide) (by decide) d9_17 rfl rfl (fun T7 h7 v7 S7 q7 => ?_)
      obtain ⟨rfl, q7⟩ := q7
      rcases Bool.eq_false_or_eq_true (rootM La Ra Ua P) with hr7 | hr7
      · rw [hr7] at q7
        obtain rfl := q7
        show Go _ _ _ _ _ _ _ [(.int (1 : Int32))]
        obtain ⟨rfl, rfl, rfl⟩ := s1_t hr7 hs1
        refine px_if0 S7 d9_20 (by decide) (pc' := 84) rfl rfl (fun (hc8 : ¬ (1 : Int32).toInt = 0) => ?_) (fun (hc8 : (1 : Int32).toInt = 0) => by exfalso; revert hc8; decide)
        refine px_aloadN S7 d9_84 rfl rfl rfl ?_
        refine px_iloadN S7 d9_85 rfl rfl ?_
        refine px_callP (Cn := "com/example/rostra/rostra/tree/Ancestry") (yp := ({ cls := "com/example/rostra/rostra/tree/Ancestry", name := "add", desc := "(II)V" } : Jvm.MethodName)) (as' := [(.int i)]) (st := []) (W := 0) S7 (c_rot (L := La) (R := Ra) (U := Ua) (x := x) (L' := L2) (R' := R2) (U' := U2) hw S7.size ⟨⟨g_l, g_r, g_u⟩, n_tl, n_tr, n_tu, n_lr, n_lu, n_ru⟩ ⟨X_t, F_left_t, F_right_t, F_up_t⟩ ⟨A_l, A_r, A_u⟩ hi hP1 hm2) X_t (hw _ (List.mem_of_getElem? (i := 49) rfl)) (hw _ (List.mem_of_getElem? (i := 50) rfl)) (hw _ (List.mem_of_getElem? (i := 51) rfl)) (hw _ (List.mem_of_getElem? (i := 23) rfl)) rfl (hw _ (List.mem_of_getElem? (i := 3) rfl)) (hw _ (List.mem_of_getElem? (i := 52) rfl)) (by decide) pd_9_1 rfl rfl (by decide) rfl (by decide) (by decide) (by decide) d9_86 rfl rfl (fun T9 h9 v9 S9 q9 => ?_)
        obtain ⟨rfl, K9, ⟨X_t, F_left_t, F_right_t, F_up_t⟩, A_l, A_r, A_u⟩ := q9
        replace KK := KK.trans K9 (fun z hz => Or.inl hz)
        show Go _ _ _ _ _ _ _ []
        refine px_goto S9 d9_89 (by decide) (pc' := 0) rfl ?_
        exact IHJ1 k' (by omega) (L2, R2, U2, (.val (.int (dec Ua x))), s3, s4) _ _ S9 ⟨KK, ⟨X_t, F_left_t, F_right_t, F_up_t⟩, ⟨A_l, A_r, A_u⟩, hk', rfl, p_s3, p_s4⟩
      · rw [hr7] at q7
        obtain rfl := q7
        show Go _ _ _ _ _ _ _ [(.int (0 : Int32))]
        obtain ⟨G, hG⟩ := root_up hr7
        have cG : Cd (dec Ua P) (G + 1) := by rw [← hG]; exact cd_dec Ua P
        refine px_if0 S7 d9_20 (by decide) (pc' := 84) rfl rfl (fun (hc10 : ¬ (0 : Int32).toInt = 0) => by exfalso; revert hc10; decide) (fun (hc10 : (0 : Int32).toInt = 0) => ?_)
        refine px_aloadN S7 d9_23 rfl rfl rfl ?_
        refine px_getfield S7 (hw _ (List.mem_of_getElem? (i := 14) rfl)) F_up_t d9_24 rfl (fun T11 S11 => ?_)
        refine px_iloadN S11 d9_27 rfl rfl ?_
        refine px_iaload (v := (dec Ua P)) S11 A_u (i := P) cP.ix cP.lt rfl d9_28 rfl ?_
        refine px_istoreN S11 d9_29 rfl (L' := #[.val (.ref t), .val (.int i), .val (.int (dec Ua x)), .val (.int (dec Ua P)), s4]) (store_pl (x := s3) rfl rfl p_s3) ?_
        refine px_aloadN S11 d9_30 rfl rfl rfl ?_
        refine px_getfield S11 (hw _ (List.mem_of_getElem? (i := 10) rfl)) F_left_t d9_31 rfl (fun T12 S12 => ?_)
        refine px_iloadN S12 d9_34 rfl rfl ?_
        refine px_iaload (v := (dec La G)) S12 A_l (i := G) cG.ix cG.lt rfl d9_35 rfl ?_
        refine px_iloadN S12 d9_36 rfl rfl ?_
        refine px_icmp S12 d9_37 (by decide) (pc' := 44) rfl rfl (fun (hc13 : ¬ (dec La G).toInt = (dec Ua x).toInt) => ?_) (fun (hc13 : (dec La G).toInt = (dec Ua x).toInt) => ?_)
        · refine px_iconst (v := (0 : Int32)) S12 d9_44 rfl rfl ?_
          refine px_aloadN S12 d9_45 rfl rfl rfl ?_
          refine px_getfield S12 (hw _ (List.mem_of_getElem? (i := 10) rfl)) F_left_t d9_46 rfl (fun T14 S14 => ?_)
          refine px_iloadN S14 d9_49 rfl rfl ?_
          refine px_iaload (v := (dec La P)) S14 A_l (i := P) cP.ix cP.lt rfl d9_50 rfl ?_
          refine px_iloadN S14 d9_51 rfl rfl ?_
          refine px_icmp S14 d9_52 (by decide) (pc' := 59) rfl rfl (fun (hc15 : ¬ (dec La P).toInt = i.toInt) => ?_) (fun (hc15 : (dec La P).toInt = i.toInt) => ?_)
          · refine px_iconst (v := (0 : Int32)) S14 d9_59 rfl rfl ?_
            refine px_icmp S14 d9_60 (by decide) (pc' := 67) rfl rfl (fun (hc16 : ¬ (0 : Int32).toInt = (0 : Int32).toInt) => absurd rfl hc16) (fun (hc16 : (0 : Int32).toInt = (0 : Int32).toInt) => ?_)
            refine px_iconst (v := (1 : Int32)) S14 d9_63 rfl rfl ?_
            refine px_goto S14 d9_64 (by decide) (pc' := 68) rfl ?_
            refine px_istore S14 d9_68 rfl (L' := #[.val (.ref t), .val (.int i), .val (.int (dec Ua x)), .val (.int (dec Ua P)), .val (.int (1 : Int32))]) (store_pl (x := s4) rfl rfl p_s4) ?_
            refine px_aloadN S14 d9_70 rfl rfl rfl ?_
            refine px_iload S14 d9_71 rfl rfl ?_
            refine px_if0 S14 d9_73 (by decide) (pc' := 80) rfl rfl (fun (hc17 : (1 : Int32).toInt = 0) => by exfalso; revert hc17; decide) (fun (hc17 : ¬ (1 : Int32).toInt = 0) => ?_)
            refine px_iloadN S14 d9_76 rfl rfl ?_
            refine px_goto S14 d9_77 (by decide) (pc' := 81) rfl ?_
            refine px_callP (Cn := "com/example/rostra/rostra/tree/Ancestry") (yp := ({ cls := "com/example/rostra/rostra/tree/Ancestry", name := "add", desc := "(II)V" } : Jvm.MethodName)) (as' := [(.int (dec Ua x))]) (st := []) (W := 0) S14 (c_rot (L := La) (R := Ra) (U := Ua) (x := P) (L' := L1) (R' := R1) (U' := U1) hw S14.size ⟨⟨g_l, g_r, g_u⟩, n_tl, n_tr, n_tu, n_lr, n_lu, n_ru⟩ ⟨X_t, F_left_t, F_right_t, F_up_t⟩ ⟨A_l, A_r, A_u⟩ cP hG (s1_P hr7 hG (Or.inr ⟨(cd_dec La G).ne cP hc13, (cd_dec La P).ne hi hc15⟩) hs1)) X_t (hw _ (List.mem_of_getElem? (i := 49) rfl)) (hw _ (List.mem_of_getElem? (i := 50) rfl)) (hw _ (List.mem_of_getElem? (i := 51) rfl)) (hw _ (List.mem_of_getElem? (i := 23) rfl)) rfl (hw _ (List.mem_of_getElem? (i := 3) rfl)) (hw _ (List.mem_of_getElem? (i := 52) rfl)) (by decide) pd_9_1 rfl rfl (by decide) rfl (by decide) (by decide) (by decide) d9_81 rfl rfl (fun T18 h18 v18 S18 q18 => ?_)
            obtain ⟨rfl, K18, ⟨X_t, F_left_t, F_right_t, F_up_t⟩, A_l, A_r, A_u⟩ := q18
            replace KK := KK.trans K18 (fun z hz => Or.inl hz)
            show Go _ _ _ _ _ _ _ []
            refine px_aloadN S18 d9_84 rfl rfl rfl ?_
            refine px_iloadN S18 d9_85 rfl rfl ?_
            refine px_callP (Cn := "com/example/rostra/rostra/tree/Ancestry") (yp := ({ cls := "com/example/rostra/rostra/tree/Ancestry", name := "add", desc := "(II)V" } : Jvm.MethodName)) (as' := [(.int i)]) (st := []) (W := 0) S18 (c_rot (L := L1) (R := R1) (U := U1) (x := x) (L' := L2) (R' := R2) (U' := U2) hw S18.size ⟨⟨g_l, g_r, g_u⟩, n_tl, n_tr, n_tu, n_lr, n_lu, n_ru⟩ ⟨X_t, F_left_t, F_right_t, F_up_t⟩ ⟨A_l, A_r, A_u⟩ hi hP1 hm2) X_t (hw _ (List.mem_of_getElem? (i := 49) rfl)) (hw _ (List.mem_of_getElem? (i := 50) rfl)) (hw _ (List.mem_of_getElem? (i := 51) rfl)) (hw _ (List.mem_of_getElem? (i := 23) rfl)) rfl (hw _ (List.mem_of_getElem? (i := 3) rfl)) (hw _ (List.mem_of_getElem? (i := 52) rfl)) (by decide) pd_9_1 rfl rfl (by decide) rfl (by decide) (by decide) (by decide) d9_86 rfl rfl (fun T19 h19 v19 S19 q19 => ?_)
            obtain ⟨rfl, K19, ⟨X_t, F_left_t, F_right_t, F_up_t⟩, A_l, A_r, A_u⟩ := q19
            replace KK := KK.trans K19 (fun z hz => Or.inl hz)
            show Go _ _ _ _ _ _ _ []
            refine px_goto S19 d9_89 (by decide) (pc' := 0) rfl ?_
            exact IHJ1 k' (by omega) (L2, R2, U2, (.val (.int (dec Ua x))), (.val (.int (dec Ua P))), (.val (.int (1 : Int32)))) _ _ S19 ⟨KK, ⟨X_t, F_left_t, F_right_t, F_up_t⟩, ⟨A_l, A_r, A_u⟩, hk', rfl, rfl, rfl⟩
          · refine px_iconst (v := (1 : Int32)) S14 d9_55 rfl rfl ?_
            refine px_goto S14 d9_56 (by decide) (pc' := 60) rfl ?_
            refine px_icmp S14 d9_60 (by decide) (pc' := 67) rfl rfl (fun (hc20 : ¬ (0 : Int32).toInt = (1 : Int32).toInt) => ?_) (fun (hc20 : (0 : Int32).toInt = (1 : Int32).toInt) => by exfalso; revert hc20; decide)
            refine px_iconst (v := (0 : Int32)) S14 d9_67 rfl rfl ?_
            refine px_istore S14 d9_68 rfl (L' := #[.val (.ref t), .val (.int i), .val (.int (dec Ua x)), .val (.int (dec Ua P)), .val (.int (0 : Int32))]) (store_pl (x := s4) rfl rfl p_s4) ?_
            refine px_aloadN S14 d9_70 rfl rfl rfl ?_
            refine px_iload S14 d9_71 rfl rfl ?_
            refine px_if0 S14 d9_73 (by decide) (pc' := 80) rfl rfl (fun (hc21 : (0 : Int32).toInt = 0) => ?_) (fun (hc21 : ¬ (0 : Int32).toInt = 0) => by exfalso; revert hc21; decide)
            refine px_iloadN S14 d9_80 rfl rfl ?_
            refine px_callP (Cn := "com/example/rostra/rostra/tree/Ancestry") (yp := ({ cls := "com/example/rostra/rostra/tree/Ancestry", name := "add", desc := "(II)V" } : Jvm.MethodName)) (as' := [(.int i)]) (st := []) (W := 0) S14 (c_rot (L := La) (R := Ra) (U := Ua) (x := x) (L' := L1) (R' := R1) (U' := U1) hw S14.size ⟨⟨g_l, g_r, g_u⟩, n_tl, n_tr, n_tu, n_lr, n_lu, n_ru⟩ ⟨X_t, F_left_t, F_right_t, F_up_t⟩ ⟨A_l, A_r, A_u⟩ hi hP (s1_x hr7 hG (Or.inr ⟨(cd_dec La G).ne cP hc13, (cd_dec La P).eq hi hc15⟩) hs1)) X_t (hw _ (List.mem_of_getElem? (i := 49) rfl)) (hw _ (List.mem_of_getElem? (i := 50) rfl)) (hw _ (List.mem_of_getElem? (i := 51) rfl)) (hw _ (List.mem_of_getElem? (i := 23) rfl)) rfl (hw _ (List.mem_of_getElem? (i := 3) rfl)) (hw _ (List.mem_of_getElem? (i := 52) rfl)) (by decide) pd_9_1 rfl rfl (by decide) rfl (by decide) (by decide) (by decide) d9_81 rfl rfl (fun T22 h22 v22 S22 q22 => ?_)
            obtain ⟨rfl, K22, ⟨X_t, F_left_t, F_right_t, F_up_t⟩, A_l, A_r, A_u⟩ := q22
            replace KK := KK.trans K22 (fun z hz => Or.inl hz)
            show Go _ _ _ _ _ _ _ []
            refine px_aloadN S22 d9_84 rfl rfl rfl ?_
            refine px_iloadN S22 d9_85 rfl rfl ?_
            refine px_callP (Cn := "com/example/rostra/rostra/tree/Ancestry") (yp := ({ cls := "com/example/rostra/rostra/tree/Ancestry", name := "add", desc := "(II)V" } : Jvm.MethodName)) (as' := [(.int i)]) (st := []) (W := 0) S22 (c_rot (L := L1) (R := R1) (U := U1) (x := x) (L' := L2) (R' := R2) (U' := U2) hw S22.size ⟨⟨g_l, g_r, g_u⟩, n_tl, n_tr, n_tu, n_lr, n_lu, n_ru⟩ ⟨X_t, F_left_t, F_right_t, F_up_t⟩ ⟨A_l, A_r, A_u⟩ hi hP1 hm2) X_t (hw _ (List.mem_of_getElem? (i := 49) rfl)) (hw _ (List.mem_of_getElem? (i := 50) rfl)) (hw _ (List.mem_of_getElem? (i := 51) rfl)) (hw _ (List.mem_of_getElem? (i := 23) rfl)) rfl (hw _ (List.mem_of_getElem? (i := 3) rfl)) (hw _ (List.mem_of_getElem? (i := 52) rfl)) (by decide) pd_9_1 rfl rfl (by decide) rfl (by decide) (by decide) (by decide) d9_86 rfl rfl (fun T23 h23 v23 S23 q23 => ?_)
            obtain ⟨rfl, K23, ⟨X_t, F_left_t, F_right_t, F_up_t⟩, A_l, A_r, A_u⟩ := q23
            replace KK := KK.trans K23 (fun z hz => Or.inl hz)
            show Go _ _ _ _ _ _ _ []
            refine px_goto S23 d9_89 (by decide) (pc' := 0) rfl ?_
            exact IHJ1 k' (by omega) (L2, R2, U2, (.val (.int (dec Ua x))), (.val (.int (dec Ua P))), (.val (.int (0 : Int32)))) _ _ S23 ⟨KK, ⟨X_t, F_left_t, F_right_t, F_up_t⟩, ⟨A_l, A_r, A_u⟩, hk', rfl, rfl, rfl⟩
        · refine px_iconst (v := (1 : Int32)) S12 d9_40 rfl rfl ?_
          refine px_goto S12 d9_41 (by decide) (pc' := 45) rfl ?_
          refine px_aloadN S12 d9_45 rfl rfl rfl ?_
          refine px_getfield S12 (hw _ (List.mem_of_getElem? (i := 10) rfl)) F_left_t d9_46 rfl (fun T24 S24 => ?_)
          refine px_iloadN S24 d9_49 rfl rfl ?_
          refine px_iaload (v := (dec La P)) S24 A_l (i := P) cP.ix cP.lt rfl d9_50 rfl ?_
          refine px_iloadN S24 d9_51 rfl rfl ?_
          refine px_icmp S24 d9_52 (by decide) (pc' := 59) rfl rfl (fun (hc25 : ¬ (dec La P).toInt = i.toInt) => ?_) (fun (hc25 : (dec La P).toInt = i.toInt) => ?_)
          · refine px_iconst (v := (0 : Int32)) S24 d9_59 rfl rfl ?_
            refine px_icmp S24 d9_60 (by decide) (pc' := 67) rfl rfl (fun (hc26 : ¬ (1 : Int32).toInt = (0 : Int32).toInt) => ?_) (fun (hc26 : (1 : Int32).toInt = (0 : Int32).toInt) => by exfalso; revert hc26; decide)
            refine px_iconst (v := (0 : Int32)) S24 d9_67 rfl rfl ?_
            refine px_istore S24 d9_68 rfl (L' := #[.val (.ref t), .val (.int i), .val (.int (dec Ua x)), .val (.int (dec Ua P)), .val (.int (0 : Int32))]) (store_pl (x := s4) rfl rfl p_s4) ?_
            refine px_aloadN S24 d9_70 rfl rfl rfl ?_
            refine px_iload S24 d9_71 rfl rfl ?_
            refine px_if0 S24 d9_73 (by decide) (pc' := 80) rfl rfl (fun (hc27 : (0 : Int32).toInt = 0) => ?_) (fun (hc27 : ¬ (0 : Int32).toInt = 0) => by exfalso; revert hc27; decide)
            refine px_iloadN S24 d9_80 rfl rfl ?_
            refine px_callP (Cn := "com/example/rostra/rostra/tree/Ancestry") (yp := ({ cls := "com/example/rostra/rostra/tree/Ancestry", name := "add", desc := "(II)V" } : Jvm.MethodName)) (as' := [(.int i)]) (st := []) (W := 0) S24 (c_rot (L := La) (R := Ra) (U := Ua) (x := x) (L' := L1) (R' := R1) (U' := U1) hw S24.size ⟨⟨g_l, g_r, g_u⟩, n_tl, n_tr, n_tu, n_lr, n_lu, n_ru⟩ ⟨X_t, F_left_t, F_right_t, F_up_t⟩ ⟨A_l, A_r, A_u⟩ hi hP (s1_x hr7 hG (Or.inl ⟨(cd_dec La G).eq cP hc13, (cd_dec La P).ne hi hc25⟩) hs1)) X_t (hw _ (List.mem_of_getElem? (i := 49) rfl)) (hw _ (List.mem_of_getElem? (i := 50) rfl)) (hw _ (List.mem_of_getElem? (i := 51) rfl)) (hw _ (List.mem_of_getElem? (i := 23) rfl)) rfl (hw _ (List.mem_of_getElem? (i := 3) rfl)) (hw _ (List.mem_of_getElem? (i := 52) rfl)) (by decide) pd_9_1 rfl rfl (by decide) rfl (by decide) (by decide) (by decide) d9_81 rfl rfl (fun T28 h28 v28 S28 q28 => ?_)
            obtain ⟨rfl, K28, ⟨X_t, F_left_t, F_right_t, F_up_t⟩, A_l, A_r, A_u⟩ := q28
            replace KK := KK.trans K28 (fun z hz => Or.inl hz)
            show Go _ _ _ _ _ _ _ []
            refine px_aloadN S28 d9_84 rfl rfl rfl ?_
            refine px_iloadN S28 d9_85 rfl rfl ?_
            refine px_callP (Cn := "com/example/rostra/rostra/tree/Ancestry") (yp := ({ cls := "com/example/rostra/rostra/tree/Ancestry", name := "add", desc := "(II)V" } : Jvm.MethodName)) (as' := [(.int i)]) (st := []) (W := 0) S28 (c_rot (L := L1) (R := R1) (U := U1) (x := x) (L' := L2) (R' := R2) (U' := U2) hw S28.size ⟨⟨g_l, g_r, g_u⟩, n_tl, n_tr, n_tu, n_lr, n_lu, n_ru⟩ ⟨X_t, F_left_t, F_right_t, F_up_t⟩ ⟨A_l, A_r, A_u⟩ hi hP1 hm2) X_t (hw _ (List.mem_of_getElem? (i := 49) rfl)) (hw _ (List.mem_of_getElem? (i := 50) rfl)) (hw _ (List.mem_of_getElem? (i := 51) rfl)) (hw _ (List.mem_of_getElem? (i := 23) rfl)) rfl (hw _ (List.mem_of_getElem? (i := 3) rfl)) (hw _ (List.mem_of_getElem? (i := 52) rfl)) (by decide) pd_9_1 rfl rfl (by decide) rfl (by decide) (by decide) (by decide) d9_86 rfl rfl (fun T29 h29 v29 S29 q29 => ?_)
            obtain ⟨rfl, K29, ⟨X_t, F_left_t, F_right_t, F_up_t⟩, A_l, A_r, A_u⟩ := q29
            replace KK := KK.trans K29 (fun z hz => Or.inl hz)
            show Go _ _ _ _ _ _ _ []
            refine px_goto S29 d9_89 (by decide) (pc' := 0) rfl ?_
            exact IHJ1 k' (by omega) (L2, R2, U2, (.val (.int (dec Ua x))), (.val (.int (dec Ua P))), (.val (.int (0 : Int32)))) _ _ S29 ⟨KK, ⟨X_t, F_left_t, F_right_t, F_up_t⟩, ⟨A_l, A_r, A_u⟩, hk', rfl, rfl, rfl⟩
          · refine px_iconst (v := (1 : Int32)) S24 d9_55 rfl rfl ?_
            refine px_goto S24 d9_56 (by decide) (pc' := 60) rfl ?_
            refine px_icmp S24 d9_60 (by decide) (pc' := 67) rfl rfl (fun (hc30 : ¬ (1 : Int32).toInt = (1 : Int32).toInt) => absurd rfl hc30) (fun (hc30 : (1 : Int32).toInt = (1 : Int32).toInt) => ?_)
            refine px_iconst (v := (1 : Int32)) S24 d9_63 rfl rfl ?_
            refine px_goto S24 d9_64 (by decide) (pc' := 68) rfl ?_
            refine px_istore S24 d9_68 rfl (L' := #[.val (.ref t), .val (.int i), .val (.int (dec Ua x)), .val (.int (dec Ua P)), .val (.int (1 : Int32))]) (store_pl (x := s4) rfl rfl p_s4) ?_
            refine px_aloadN S24 d9_70 rfl rfl rfl ?_
            refine px_iload S24 d9_71 rfl rfl ?_
            refine px_if0 S24 d9_73 (by decide) (pc' := 80) rfl rfl (fun (hc31 : (1 : Int32).toInt = 0) => by exfalso; revert hc31; decide) (fun (hc31 : ¬ (1 : Int32).toInt = 0) => ?_)
            refine px_iloadN S24 d9_76 rfl rfl ?_
            refine px_goto S24 d9_77 (by decide) (pc' := 81) rfl ?_
            refine px_callP (Cn := "com/example/rostra/rostra/tree/Ancestry") (yp := ({ cls := "com/example/rostra/rostra/tree/Ancestry", name := "add", desc := "(II)V" } : Jvm.MethodName)) (as' := [(.int (dec Ua x))]) (st := []) (W := 0) S24 (c_rot (L := La) (R := Ra) (U := Ua) (x := P) (L' := L1) (R' := R1) (U' := U1) hw S24.size ⟨⟨g_l, g_r, g_u⟩, n_tl, n_tr, n_tu, n_lr, n_lu, n_ru⟩ ⟨X_t, F_left_t, F_right_t, F_up_t⟩ ⟨A_l, A_r, A_u⟩ cP hG (s1_P hr7 hG (Or.inl ⟨(cd_dec La G).eq cP hc13, (cd_dec La P).eq hi hc25⟩) hs1)) X_t (hw _ (List.mem_of_getElem? (i := 49) rfl)) (hw _ (List.mem_of_getElem? (i := 50) rfl)) (hw _ (List.mem_of_getElem? (i := 51) rfl)) (hw _ (List.mem_of_getElem? (i := 23) rfl)) rfl (hw _ (List.mem_of_getElem? (i := 3) rfl)) (hw _ (List.mem_of_getElem? (i := 52) rfl)) (by decide) pd_9_1 rfl rfl (by decide) rfl (by decide) (by decide) (by decide) d9_81 rfl rfl (fun T32 h32 v32 S32 q32 => ?_)
            obtain ⟨rfl, K32, ⟨X_t, F_left_t, F_right_t, F_up_t⟩, A_l, A_r, A_u⟩ := q32
            replace KK := KK.trans K32 (fun z hz => Or.inl hz)
            show Go _ _ _ _ _ _ _ []
            refine px_aloadN S32 d9_84 rfl rfl rfl ?_
            refine px_iloadN S32 d9_85 rfl rfl ?_
            refine px_callP (Cn := "com/example/rostra/rostra/tree/Ancestry") (yp := ({ cls := "com/example/rostra/rostra/tree/Ancestry", name := "add", desc := "(II)V" } : Jvm.MethodName)) (as' := [(.int i)]) (st := []) (W := 0) S32 (c_rot (L := L1) (R := R1) (U := U1) (x := x) (L' := L2) (R' := R2) (U' := U2) hw S32.size ⟨⟨g_l, g_r, g_u⟩, n_tl, n_tr, n_tu, n_lr, n_lu, n_ru⟩ ⟨X_t, F_left_t, F_right_t, F_up_t⟩ ⟨A_l, A_r, A_u⟩ hi hP1 hm2) X_t (hw _ (List.mem_of_getElem? (i := 49) rfl)) (hw _ (List.mem_of_getElem? (i := 50) rfl)) (hw _ (List.mem_of_getElem? (i := 51) rfl)) (hw _ (List.mem_of_getElem? (i := 23) rfl)) rfl (hw _ (List.mem_of_getElem? (i := 3) rfl)) (hw _ (List.mem_of_getElem? (i := 52) rfl)) (by decide) pd_9_1 rfl rfl (by decide) rfl (by decide) (by decide) (by decide) d9_86 rfl rfl (fun T33 h33 v33 S33 q33 => ?_)
            obtain ⟨rfl, K33, ⟨X_t, F_left_t, F_right_t, F_up_t⟩, A_l, A_r, A_u⟩ := q33
            replace KK := KK.trans K33 (fun z hz => Or.inl hz)
            show Go _ _ _ _ _ _ _ []
            refine px_goto S33 d9_89 (by decide) (pc' := 0) rfl ?_
            exact IHJ1 k' (by omega) (L2, R2, U2, (.val (.int (dec Ua x))), (.val (.int (dec Ua P))), (.val (.int (1 : Int32)))) _ _ S33 ⟨KK, ⟨X_t, F_left_t, F_right_t, F_up_t⟩, ⟨A_l, A_r, A_u⟩, hk', rfl, rfl, rfl⟩
  · exact J1 kk (L, R, U, .unset, .unset, .unset) _ _ S0 ⟨KK, ⟨X_t, F_left_t, F_right_t, F_up_t⟩, ⟨A_l, A_r, A_u⟩, hm, trivial, trivial, trivial⟩
theorem d8_0 : decode prog_17_method_5_code 0 = .ok (.iconst (-1), 1) := by decide +kernel
theorem d8_1 : decode prog_17_method_5_code 1 = .ok (.istore_n 2, 1) := by decide +kernel
theorem d8_2 : decode prog_17_method_5_code 2 = .ok (.iload_n 1, 1) := by decide +kernel
theorem d8_3 : decode prog_17_method_5_code 3 = .ok (.istore_n 3, 1) := by decide +kernel
theorem d8_4 : decode prog_17_method_5_code 4 = .ok (.iload_n 3, 1) := by decide +kernel
theorem d8_5 : decode prog_17_method_5_code 5 = .ok (.iconst (-1), 1) := by decide +kernel
theorem d8_6 : decode prog_17_method_5_code 6 = .ok (.if_icmp .eq 27, 3) := by decide +kernel
theorem d8_9 : decode prog_17_method_5_code 9 = .ok (.aload_n 0, 1) := by decide +kernel
theorem d8_10 : decode prog_17_method_5_code 10 = .ok (.iload_n 3, 1) := by decide +kernel
theorem d8_11 : decode prog_17_method_5_code 11 = .ok (.invokevirtual 29, 3) := by decide +kernel
theorem d8_14 : decode prog_17_method_5_code 14 = .ok (.aload_n 0, 1) := by decide +kernel
theorem d8_15 : decode prog_17_method_5_code 15 = .ok (.getfield 13, 3) := by decide +kernel
theorem d8_18 : decode prog_17_method_5_code 18 = .ok (.iload_n 3, 1) := by decide +kernel
theorem d8_19 : decode prog_17_method_5_code 19 = .ok (.iload_n 2, 1) := by decide +kernel
theorem d8_20 : decode prog_17_method_5_code 20 = .ok (.iastore, 1) := by decide +kernel
theorem d8_21 : decode prog_17_method_5_code 21 = .ok (.iload_n 3, 1) := by decide +kernel
theorem d8_22 : decode prog_17_method_5_code 22 = .ok (.istore_n 2, 1) := by decide +kernel
theorem d8_23 : decode prog_17_method_5_code 23 = .ok (.aload_n 0, 1) := by decide +kernel
theorem d8_24 : decode prog_17_method_5_code 24 = .ok (.getfield 16, 3) := by decide +kernel
theorem d8_27 : decode prog_17_method_5_code 27 = .ok (.iload_n 3, 1) := by decide +kernel
theorem d8_28 : decode prog_17_method_5_code 28 = .ok (.iaload, 1) := by decide +kernel
theorem d8_29 : decode prog_17_method_5_code 29 = .ok (.istore_n 3, 1) := by decide +kernel
theorem d8_30 : decode prog_17_method_5_code 30 = .ok (.goto (-26), 3) := by decide +kernel
theorem d8_33 : decode prog_17_method_5_code 33 = .ok (.aload_n 0, 1) := by decide +kernel
theorem d8_34 : decode prog_17_method_5_code 34 = .ok (.iload_n 1, 1) := by decide +kernel
theorem d8_35 : decode prog_17_method_5_code 35 = .ok (.invokevirtual 29, 3) := by decide +kernel
theorem d8_38 : decode prog_17_method_5_code 38 = .ok (.iload_n 2, 1) := by decide +kernel
theorem d8_39 : decode prog_17_method_5_code 39 = .ok (.ireturn, 1) := by decide +kernel
theorem pd_8_0 : parseMethodDescriptor "(I)V" = some ⟨[.int], none⟩ := by decide +kernel
theorem pn_8 : plainFor (⟨"com/example/rostra/rostra/tree/Ancestry", "expose", "(I)I"⟩ : MethodName) = true := plainFor_of_name (by first | (simp [plainName, overriddenIn]; done) | decide +kernel)
set_option maxRecDepth 65536 in
set_option maxHeartbeats 40000000 in
theorem c_exp {Z : State} {a0 : Array Value} (hw : ∀ d ∈ tables_1, d.before a0 Z = true) {t l r u : Addr} {L R U x : Nat} {i : Int32} {L' R' U' c : Nat} {h0 : Heap} {n0 : Nat} (Z0 : n0 ≤ h0.size) (sp : Sep n0 t l r u) (B0 : AncO Z h0 t l r u) (A0 : Tr Z h0 l r u L R U) (hi : Cd i (x + 1)) (hm : expM L R U x = some (L', R', U', c)) :
    Ctr Z n0 (⟨"com/example/rostra/rostra/tree/Ancestry", "expose", "(I)I"⟩ : MethodName) prog_17_method_5_code 4 (some .int) ({ frames := 3, cells := 0, slots := 0, locals := 46 } : Room) [(.ref t), (.int i)] h0 (fun v h => (∃ z : Int32, v = some (.int z) ∧ Cd z c) ∧ Keep h0 h [l, r, u] ∧ AncO Z h t l r u ∧ Tr Z h l r u L' R' U') := by
  refine Ctr.of (L := #[.val (.ref t), .val (.int i), .unset, .unset]) pn_8 Z0 (fun m => by first | (simp [entryFrame, mkF, argsToLocals, Value.category]; done) | rfl) ?_
  intro K T S0
  obtain ⟨Lz, Rz, Uz, hx6, hsp⟩ := exp_inv hm
  obtain ⟨⟨g_l, g_r, g_u⟩, n_tl, n_tr, n_tu, n_lr, n_lu, n_ru⟩ := sp
  obtain ⟨X_t, F_left_t, F_right_t, F_up_t⟩ := B0
  obtain ⟨A_l, A_r, A_u⟩ := A0
  have KK := Keep.refl h0 [l, r, u]
  refine px_iconst (v := (-1 : Int32)) S0 d8_0 rfl rfl ?_
  refine px_istoreN S0 d8_1 rfl (L' := #[.val (.ref t), .val (.int i), .val (.int (-1 : Int32)), .unset]) rfl ?_
  refine px_iloadN S0 d8_2 rfl rfl ?_
  refine px_istoreN S0 d8_3 rfl (L' := #[.val (.ref t), .val (.int i), .val (.int (-1 : Int32)), .val (.int i)]) rfl ?_
  refine Go.loopH (α := (Nat) × (Nat) × (Nat) × (Nat) × (Nat) × (Int32) × (Int32)) (Inv := fun k xx h => Keep h0 h [l, r, u] ∧ AncO Z h t l r u ∧ Tr Z h l r u xx.1 xx.2.1 xx.2.2.1 ∧ Cd xx.2.2.2.2.2.2 xx.2.2.2.1 ∧ Cd xx.2.2.2.2.2.1 xx.2.2.2.2.1 ∧ expL k xx.1 xx.2.1 xx.2.2.1 xx.2.2.2.1 xx.2.2.2.2.1 = some (Lz, Rz, Uz, c)) (pcj := 4) (cl' := 0) (sl' := 0) (Lj := fun xx => #[.val (.ref t), .val (.int i), .val (.int xx.2.2.2.2.2.1), .val (.int xx.2.2.2.2.2.2)]) (stj := fun xx => []) S0 (fun k IHJ1 xx T2 h2 S2 p2 => ?_) (fun J1 => ?_)
  · obtain ⟨La, Ra, Ua, tc, bc, vb, vt⟩ := xx
    try dsimp only at p2
    obtain ⟨KK, ⟨X_t, F_left_t, F_right_t, F_up_t⟩, ⟨A_l, A_r, A_u⟩, ht, hb, hk⟩ := p2
    show Go _ _ _ _ _ 4 #[.val (.ref t), .val (.int i), .val (.int vb), .val (.int vt)] []
    refine px_iloadN S2 d8_4 rfl rfl ?_
    refine px_iconst (v := (-1 : Int32)) S2 d8_5 rfl rfl ?_
    refine px_icmp S2 d8_6 (by decide) (pc' := 33) rfl rfl (fun (hc3 : vt.toInt = (-1 : Int32).toInt) => ?_) (fun (hc3 : ¬ vt.toInt = (-1 : Int32).toInt) => ?_)
    · obtain rfl := ht.eq cd_m1 hc3
      obtain ⟨rfl, rfl, rfl, rfl⟩ := expL_done hk
      refine px_aloadN S2 d8_33 rfl rfl rfl ?_
      refine px_iloadN S2 d8_34 rfl rfl ?_
      refine px_callP (Cn := "com/example/rostra/rostra/tree/Ancestry") (yp := ({ cls := "com/example/rostra/rostra/tree/Ancestry", name := "add", desc := "(II)V" } : Jvm.MethodName)) (as' := [(.int i)]) (st := []) (W := 0) S2 (c_spl (L := La) (R := Ra) (U := Ua) (x := x) (kk := 3) (L' := L') (R' := R') (U' := U') hw S2.size ⟨⟨g_l, g_r, g_u⟩, n_tl, n_tr, n_tu, n_lr, n_lu, n_ru⟩ ⟨X_t, F_left_t, F_right_t, F_up_t⟩ ⟨A_l, A_r, A_u⟩ hi hsp) X_t (hw _ (List.mem_of_getElem? (i := 41) rfl)) (hw _ (List.mem_of_getElem? (i := 42) rfl)) (hw _ (List.mem_of_getElem? (i := 43) rfl)) (hw _ (List.mem_of_getElem? (i := 23) rfl)) rfl (hw _ (List.mem_of_getElem? (i := 3) rfl)) (hw _ (List.mem_of_getElem? (i := 44) rfl)) (by decide) pd_8_0 rfl rfl (by decide) rfl (by decide) (by decide) (by decide) d8_35 rfl rfl (fun T4 h4 v4 S4 q4 => ?_)
      obtain ⟨rfl, K4, ⟨X_t, F_left_t, F_right_t, F_up_t⟩, A_l, A_r, A_u⟩ := q4
      replace KK := KK.trans K4 (fun z hz => Or.inl hz)
      show Go _ _ _ _ _ _ _ []
      refine px_iloadN S4 d8_38 rfl rfl ?_
      exact px_retI S4 d8_39 rfl (by decide) (by decide) (⟨⟨vb, rfl, hb⟩, KK, ⟨X_t, F_left_t, F_right_t, F_up_t⟩, ⟨A_l, A_r, A_u⟩⟩)
    · obtain ⟨n, rfl⟩ := ht.pos cd_m1 hc3
      obtain ⟨k', L1, R1, U1, rfl, hm1, hk'⟩ := expL_step hk
      refine px_aloadN S2 d8_9 rfl rfl rfl ?_
      refine px_iloadN S2 d8_10 rfl rfl ?_
      refine px_callP (Cn := "com/example/rostra/rostra/tree/Ancestry") (yp := ({ cls := "com/example/rostra/rostra/tree/Ancestry", name := "add", desc := "(II)V" } : Jvm.MethodName)) (as' := [(.int vt)]) (st := []) (W := 0) S2 (c_spl (L := La) (R := Ra) (U := Ua) (x := n) (kk := 3) (L' := L1) (R' := R1) (U' := U1) hw S2.size ⟨⟨g_l, g_r, g_u⟩, n_tl, n_tr, n_tu, n_lr, n_lu, n_ru⟩ ⟨X_t, F_left_t, F_right_t, F_up_t⟩ ⟨A_l, A_r, A_u⟩ ht hm1) X_t (hw _ (List.mem_of_getElem? (i := 41) rfl)) (hw _ (List.mem_of_getElem? (i := 42) rfl)) (hw _ (List.mem_of_getElem? (i := 43) rfl)) (hw _ (List.mem_of_getElem? (i := 23) rfl)) rfl (hw _ (List.mem_of_getElem? (i := 3) rfl)) (hw _ (List.mem_of_getElem? (i := 44) rfl)) (by decide) pd_8_0 rfl rfl (by decide) rfl (by decide) (by decide) (by decide) d8_11 rfl rfl (fun T5 h5 v5 S5 q5 => ?_)
      obtain ⟨rfl, K5, ⟨X_t, F_left_t, F_right_t, F_up_t⟩, A_l, A_r, A_u⟩ := q5
      replace KK := KK.trans K5 (fun z hz => Or.inl hz)
      show Go _ _ _ _ _ _ _ []
      refine px_aloadN S5 d8_14 rfl rfl rfl ?_
      refine px_getfield S5 (hw _ (List.mem_of_getElem? (i := 12) rfl)) F_right_t d8_15 rfl (fun T6 S6 => ?_)
      refine px_iloadN S6 d8_18 rfl rfl ?_
      refine px_iloadN S6 d8_19 rfl rfl ?_
      refine px_iastore (v := vb) S6 A_r g_r (i := n) ht.ix ht.lt rfl d8_20 rfl (fun T7 h7 S7 W7 A_r => ?_)
      replace X_t := X_t.wr W7
      replace F_left_t := F_left_t.other W7 (Or.inl n_tr)
      replace F_right_t := F_right_t.other W7 (Or.inl n_tr)
      replace F_up_t := F_up_t.other W7 (Or.inl n_tr)
      replace A_l := A_l.other W7 n_lr
      replace A_u := A_u.other W7 (Ne.symm n_ru)
      replace A_r := A_r.congr (upd_cd (ht.lt) hb)
      replace KK := KK.wr W7 (Or.inl (by simp))
      refine px_iloadN S7 d8_21 rfl rfl ?_
      refine px_istoreN S7 d8_22 rfl (L' := #[.val (.ref t), .val (.int i), .val (.int vt), .val (.int vt)]) rfl ?_
      refine px_aloadN S7 d8_23 rfl rfl rfl ?_
      refine px_getfield S7 (hw _ (List.mem_of_getElem? (i := 14) rfl)) F_up_t d8_24 rfl (fun T8 S8 => ?_)
      refine px_iloadN S8 d8_27 rfl rfl ?_
      refine px_iaload (v := (dec U1 n)) S8 A_u (i := n) ht.ix ht.lt rfl d8_28 rfl ?_
      refine px_istoreN S8 d8_29 rfl (L' := #[.val (.ref t), .val (.int i), .val (.int vt), .val (.int (dec U1 n))]) rfl ?_
      refine px_goto S8 d8_30 (by decide) (pc' := 4) rfl ?_
      exact IHJ1 k' (by omega) (L1, (sC R1 n bc), U1, (gC U1 n), (n + 1), vt, (dec U1 n)) _ _ S8 ⟨KK, ⟨X_t, F_left_t, F_right_t, F_up_t⟩, ⟨A_l, A_r, A_u⟩, (cd_dec U1 n), ht, hk'⟩
  · exact J1 6 (L, R, U, (x + 1), 0, (-1 : Int32), i) _ _ S0 ⟨KK, ⟨X_t, F_left_t, F_right_t, F_up_t⟩, ⟨A_l, A_r, A_u⟩, hi, cd_m1, hx6⟩
theorem d7_0 : decode prog_17_method_3_code 0 = .ok (.aload_n 0, 1) := by decide +kernel
theorem d7_1 : decode prog_17_method_3_code 1 = .ok (.iload_n 1, 1) := by decide +kernel
theorem d7_2 : decode prog_17_method_3_code 2 = .ok (.invokevirtual 25, 3) := by decide +kernel
theorem d7_5 : decode prog_17_method_3_code 5 = .ok (.pop, 1) := by decide +kernel
theorem d7_6 : decode prog_17_method_3_code 6 = .ok (.aload_n 0, 1) := by decide +kernel
theorem d7_7 : decode prog_17_method_3_code 7 = .ok (.iload_n 2, 1) := by decide +kernel
theorem d7_8 : decode prog_17_method_3_code 8 = .ok (.invokevirtual 25, 3) := by decide +kernel
theorem d7_11 : decode prog_17_method_3_code 11 = .ok (.iload_n 1, 1) := by decide +kernel
theorem d7_12 : decode prog_17_method_3_code 12 = .ok (.if_icmp .ne 7, 3) := by decide +kernel
theorem d7_15 : decode prog_17_method_3_code 15 = .ok (.iconst 1, 1) := by decide +kernel
theorem d7_16 : decode prog_17_method_3_code 16 = .ok (.goto 4, 3) := by decide +kernel
theorem d7_19 : decode prog_17_method_3_code 19 = .ok (.iconst 0, 1) := by decide +kernel
theorem d7_20 : decode prog_17_method_3_code 20 = .ok (.ireturn, 1) := by decide +kernel
theorem pd_7_0 : parseMethodDescriptor "(I)I" = some ⟨[.int], some .int⟩ := by decide +kernel
theorem pn_7 : plainFor (⟨"com/example/rostra/rostra/tree/Ancestry", "isSelfOrAncestor", "(II)Z"⟩ : MethodName) = true := plainFor_of_name (by first | (simp [plainName, overriddenIn]; done) | decide +kernel)
set_option maxRecDepth 65536 in
set_option maxHeartbeats 40000000 in
theorem c_isa {Z : State} {a0 : Array Value} (hw : ∀ d ∈ tables_1, d.before a0 Z = true) {t l r u : Addr} {L R U x y L1 R1 U1 c1 L2 R2 U2 c2 : Nat} {i j : Int32} {h0 : Heap} {n0 : Nat} (Z0 : n0 ≤ h0.size) (sp : Sep n0 t l r u) (B0 : AncO Z h0 t l r u) (A0 : Tr Z h0 l r u L R U) (hi : Cd i (x + 1)) (hj : Cd j (y + 1)) (hm1 : expM L R U x = some (L1, R1, U1, c1)) (hm2 : expM L1 R1 U1 y = some (L2, R2, U2, c2)) :
    Ctr Z n0 (⟨"com/example/rostra/rostra/tree/Ancestry", "isSelfOrAncestor", "(II)Z"⟩ : MethodName) prog_17_method_3_code 3 (some .boolean) ({ frames := 4, cells := 0, slots := 0, locals := 61 } : Room) [(.ref t), (.int i), (.int j)] h0 (fun v h => v = some (.int (bI (Nat.beq c2 (x + 1)))) ∧ Keep h0 h [l, r, u] ∧ AncO Z h t l r u ∧ Tr Z h l r u L2 R2 U2) := by
  refine Ctr.of (L := #[.val (.ref t), .val (.int i), .val (.int j)]) pn_7 Z0 (fun m => by first | (simp [entryFrame, mkF, argsToLocals, Value.category]; done) | rfl) ?_
  intro K T S0
  obtain ⟨⟨g_l, g_r, g_u⟩, n_tl, n_tr, n_tu, n_lr, n_lu, n_ru⟩ := sp
  obtain ⟨X_t, F_left_t, F_right_t, F_up_t⟩ := B0
  obtain ⟨A_l, A_r, A_u⟩ := A0
  have KK := Keep.refl h0 [l, r, u]
  refine px_aloadN S0 d7_0 rfl rfl rfl ?_
  refine px_iloadN S0 d7_1 rfl rfl ?_
  refine px_callP (Cn := "com/example/rostra/rostra/tree/Ancestry") (yp := ({ cls := "com/example/rostra/rostra/tree/Ancestry", name := "add", desc := "(II)V" } : Jvm.MethodName)) (as' := [(.int i)]) (st := []) (W := 0) S0 (c_exp (L := L) (R := R) (U := U) (x := x) (L' := L1) (R' := R1) (U' := U1) (c := c1) hw S0.size ⟨⟨g_l, g_r, g_u⟩, n_tl, n_tr, n_tu, n_lr, n_lu, n_ru⟩ ⟨X_t, F_left_t, F_right_t, F_up_t⟩ ⟨A_l, A_r, A_u⟩ hi hm1) X_t (hw _ (List.mem_of_getElem? (i := 37) rfl)) (hw _ (List.mem_of_getElem? (i := 38) rfl)) (hw _ (List.mem_of_getElem? (i := 39) rfl)) (hw _ (List.mem_of_getElem? (i := 23) rfl)) rfl (hw _ (List.mem_of_getElem? (i := 3) rfl)) (hw _ (List.mem_of_getElem? (i := 40) rfl)) (by decide) pd_7_0 rfl rfl (by decide) rfl (by decide) (by decide) (by decide) d7_2 rfl rfl (fun T1 h1 v1 S1 q1 => ?_)
  obtain ⟨⟨z1, rfl, cz1⟩, K1, ⟨X_t, F_left_t, F_right_t, F_up_t⟩, A_l, A_r, A_u⟩ := q1
  replace KK := KK.trans K1 (fun z hz => Or.inl hz)
  show Go _ _ _ _ _ _ _ [(.int z1)]
  refine px_pop S1 d7_5 rfl rfl ?_
  refine px_aloadN S1 d7_6 rfl rfl rfl ?_
  refine px_iloadN S1 d7_7 rfl rfl ?_
  refine px_callP (Cn := "com/example/rostra/rostra/tree/Ancestry") (yp := ({ cls := "com/example/rostra/rostra/tree/Ancestry", name := "add", desc := "(II)V" } : Jvm.MethodName)) (as' := [(.int j)]) (st := []) (W := 0) S1 (c_exp (L := L1) (R := R1) (U := U1) (x := y) (L' := L2) (R' := R2) (U' := U2) (c := c2) hw S1.size ⟨⟨g_l, g_r, g_u⟩, n_tl, n_tr, n_tu, n_lr, n_lu, n_ru⟩ ⟨X_t, F_left_t, F_right_t, F_up_t⟩ ⟨A_l, A_r, A_u⟩ hj hm2) X_t (hw _ (List.mem_of_getElem? (i := 37) rfl)) (hw _ (List.mem_of_getElem? (i := 38) rfl)) (hw _ (List.mem_of_getElem? (i := 39) rfl)) (hw _ (List.mem_of_getElem? (i := 23) rfl)) rfl (hw _ (List.mem_of_getElem? (i := 3) rfl)) (hw _ (List.mem_of_getElem? (i := 40) rfl)) (by decide) pd_7_0 rfl rfl (by decide) rfl (by decide) (by decide) (by decide) d7_8 rfl rfl (fun T2 h2 v2 S2 q2 => ?_)
  obtain ⟨⟨z2, rfl, cz2⟩, K2, ⟨X_t, F_left_t, F_right_t, F_up_t⟩, A_l, A_r, A_u⟩ := q2
  replace KK := KK.trans K2 (fun z hz => Or.inl hz)
  show Go _ _ _ _ _ _ _ [(.int z2)]
  refine px_iloadN S2 d7_11 rfl rfl ?_
  refine px_icmp S2 d7_12 (by decide) (pc' := 19) rfl rfl (fun (hc3 : ¬ z2.toInt = i.toInt) => ?_) (fun (hc3 : z2.toInt = i.toInt) => ?_)
  · refine px_iconst (v := (0 : Int32)) S2 d7_19 rfl rfl ?_
    exact px_retN (t := .boolean) (z' := (0 : Int32)) S2 d7_20 rfl (by simp) rfl (by decide) (by decide) (⟨by rw [bf ((cz2).ne hi hc3)]; rfl, KK, ⟨X_t, F_left_t, F_right_t, F_up_t⟩, ⟨A_l, A_r, A_u⟩⟩)
  · refine px_iconst (v := (1 : Int32)) S2 d7_15 rfl rfl ?_
    refine px_goto S2 d7_16 (by decide) (pc' := 20) rfl ?_
    exact px_retN (t := .boolean) (z' := (1 : Int32)) S2 d7_20 rfl (by simp) rfl (by decide) (by decide) (⟨by rw [bt ((cz2).eq hi hc3)]; rfl, KK, ⟨X_t, F_left_t, F_right_t, F_up_t⟩, ⟨A_l, A_r, A_u⟩⟩)
theorem d14_0 : decode prog_17_method_4_code 0 = .ok (.aload_n 0, 1) := by decide +kernel
theorem d14_1 : decode prog_17_method_4_code 1 = .ok (.iload_n 1, 1) := by decide +kernel
theorem d14_2 : decode prog_17_method_4_code 2 = .ok (.invokevirtual 25, 3) := by decide +kernel
theorem d14_5 : decode prog_17_method_4_code 5 = .ok (.pop, 1) := by decide +kernel
theorem d14_6 : decode prog_17_method_4_code 6 = .ok (.aload_n 0, 1) := by decide +kernel
theorem d14_7 : decode prog_17_method_4_code 7 = .ok (.getfield 16, 3) := by decide +kernel
theorem d14_10 : decode prog_17_method_4_code 10 = .ok (.aload_n 0, 1) := by decide +kernel
theorem d14_11 : decode prog_17_method_4_code 11 = .ok (.getfield 7, 3) := by decide +kernel
theorem d14_14 : decode prog_17_method_4_code 14 = .ok (.iload_n 1, 1) := by decide +kernel
theorem d14_15 : decode prog_17_method_4_code 15 = .ok (.iaload, 1) := by decide +kernel
theorem d14_16 : decode prog_17_method_4_code 16 = .ok (.iconst (-1), 1) := by decide +kernel
theorem d14_17 : decode prog_17_method_4_code 17 = .ok (.iastore, 1) := by decide +kernel
theorem d14_18 : decode prog_17_method_4_code 18 = .ok (.aload_n 0, 1) := by decide +kernel
theorem d14_19 : decode prog_17_method_4_code 19 = .ok (.getfield 7, 3) := by decide +kernel
theorem d14_22 : decode prog_17_method_4_code 22 = .ok (.iload_n 1, 1) := by decide +kernel
theorem d14_23 : decode prog_17_method_4_code 23 = .ok (.iconst (-1), 1) := by decide +kernel
theorem d14_24 : decode prog_17_method_4_code 24 = .ok (.iastore, 1) := by decide +kernel
theorem d14_25 : decode prog_17_method_4_code 25 = .ok (.aload_n 0, 1) := by decide +kernel
theorem d14_26 : decode prog_17_method_4_code 26 = .ok (.getfield 16, 3) := by decide +kernel
theorem d14_29 : decode prog_17_method_4_code 29 = .ok (.iload_n 1, 1) := by decide +kernel
theorem d14_30 : decode prog_17_method_4_code 30 = .ok (.iload_n 2, 1) := by decide +kernel
theorem d14_31 : decode prog_17_method_4_code 31 = .ok (.iastore, 1) := by decide +kernel
theorem d14_32 : decode prog_17_method_4_code 32 = .ok (.return_, 1) := by decide +kernel
theorem pd_14_0 : parseMethodDescriptor "(I)I" = some ⟨[.int], some .int⟩ := by decide +kernel
theorem pn_14 : plainFor (⟨"com/example/rostra/rostra/tree/Ancestry", "move", "(II)V"⟩ : MethodName) = true := plainFor_of_name (by first | (simp [plainName, overriddenIn]; done) | decide +kernel)
set_option maxRecDepth 65536 in
set_option maxHeartbeats 40000000 in
theorem c_move {Z : State} {a0 : Array Value} (hw : ∀ d ∈ tables_1, d.before a0 Z = true) {t l r u : Addr} {L R U x q L1 R1 U1 c1 P : Nat} {i j : Int32} {h0 : Heap} {n0 : Nat} (Z0 : n0 ≤ h0.size) (sp : Sep n0 t l r u) (B0 : AncO Z h0 t l r u) (A0 : Tr Z h0 l r u L R U) (hi : Cd i (x + 1)) (hj : Cd j q) (hm : expM L R U x = some (L1, R1, U1, c1)) (hP : gC L1 x = P + 1) :
    Ctr Z n0 (⟨"com/example/rostra/rostra/tree/Ancestry", "move", "(II)V"⟩ : MethodName) prog_17_method_4_code 3 none ({ frames := 4, cells := 0, slots := 0, locals := 61 } : Room) [(.ref t), (.int i), (.int j)] h0 (fun v h => v = none ∧ Keep h0 h [l, r, u] ∧ AncO Z h t l r u ∧ Tr Z h l r u (sC L1 x 0) R1 (sC (sC U1 P 0) x q)) := by
  refine Ctr.of (L := #[.val (.ref t), .val (.int i), .val (.int j)]) pn_14 Z0 (fun m => by first | (simp [entryFrame, mkF, argsToLocals, Value.category]; done) | rfl) ?_
  intro K T S0
  obtain ⟨⟨g_l, g_r, g_u⟩, n_tl, n_tr, n_tu, n_lr, n_lu, n_ru⟩ := sp
  obtain ⟨X_t, F_left_t, F_right_t, F_up_t⟩ := B0
  obtain ⟨A_l, A_r, A_u⟩ := A0
  have KK := Keep.refl h0 [l, r, u]
  refine px_aloadN S0 d14_0 rfl rfl rfl ?_
  refine px_iloadN S0 d14_1 rfl rfl ?_
  refine px_callP (Cn := "com/example/rostra/rostra/tree/Ancestry") (yp := ({ cls := "com/example/rostra/rostra/tree/Ancestry", name := "add", desc := "(II)V" } : Jvm.MethodName)) (as' := [(.int i)]) (st := []) (W := 0) S0 (c_exp (L := L) (R := R) (U := U) (x := x) (L' := L1) (R' := R1) (U' := U1) (c := c1) hw S0.size ⟨⟨g_l, g_r, g_u⟩, n_tl, n_tr, n_tu, n_lr, n_lu, n_ru⟩ ⟨X_t, F_left_t, F_right_t, F_up_t⟩ ⟨A_l, A_r, A_u⟩ hi hm) X_t (hw _ (List.mem_of_getElem? (i := 37) rfl)) (hw _ (List.mem_of_getElem? (i := 38) rfl)) (hw _ (List.mem_of_getElem? (i := 39) rfl)) (hw _ (List.mem_of_getElem? (i := 23) rfl)) rfl (hw _ (List.mem_of_getElem? (i := 3) rfl)) (hw _ (List.mem_of_getElem? (i := 40) rfl)) (by decide) pd_14_0 rfl rfl (by decide) rfl (by decide) (by decide) (by decide) d14_2 rfl rfl (fun T1 h1 v1 S1 q1 => ?_)
  obtain ⟨⟨z1, rfl, cz1⟩, K1, ⟨X_t, F_left_t, F_right_t, F_up_t⟩, A_l, A_r, A_u⟩ := q1
  replace KK := KK.trans K1 (fun z hz => Or.inl hz)
  show Go _ _ _ _ _ _ _ [(.int z1)]
  refine px_pop S1 d14_5 rfl rfl ?_
  have cP : Cd (dec L1 x) (P + 1) := by rw [← hP]; exact cd_dec L1 x
  refine px_aloadN S1 d14_6 rfl rfl rfl ?_
  refine px_getfield S1 (hw _ (List.mem_of_getElem? (i := 14) rfl)) F_up_t d14_7 rfl (fun T2 S2 => ?_)
  refine px_aloadN S2 d14_10 rfl rfl rfl ?_
  refine px_getfield S2 (hw _ (List.mem_of_getElem? (i := 10) rfl)) F_left_t d14_11 rfl (fun T3 S3 => ?_)
  refine px_iloadN S3 d14_14 rfl rfl ?_
  refine px_iaload (v := (dec L1 x)) S3 A_l (i := x) hi.ix hi.lt rfl d14_15 rfl ?_
  refine px_iconst (v := (-1 : Int32)) S3 d14_16 rfl rfl ?_
  refine px_iastore (v := (-1 : Int32)) S3 A_u g_u (i := P) cP.ix cP.lt rfl d14_17 rfl (fun T4 h4 S4 W4 A_u => ?_)
  replace X_t := X_t.wr W4
  replace F_left_t := F_left_t.other W4 (Or.inl n_tu)
  replace F_right_t := F_right_t.other W4 (Or.inl n_tu)
  replace F_up_t := F_up_t.other W4 (Or.inl n_tu)
  replace A_l := A_l.other W4 n_lu
  replace A_r := A_r.other W4 n_ru
  replace A_u := A_u.congr (upd_cd (cP.lt) cd_m1)
  replace KK := KK.wr W4 (Or.inl (by simp))
  refine px_aloadN S4 d14_18 rfl rfl rfl ?_
  refine px_getfield S4 (hw _ (List.mem_of_getElem? (i := 10) rfl)) F_left_t d14_19 rfl (fun T5 S5 => ?_)
  refine px_iloadN S5 d14_22 rfl rfl ?_
  refine px_iconst (v := (-1 : Int32)) S5 d14_23 rfl rfl ?_
  refine px_iastore (v := (-1 : Int32)) S5 A_l g_l (i := x) hi.ix hi.lt rfl d14_24 rfl (fun T6 h6 S6 W6 A_l => ?_)
  replace X_t := X_t.wr W6
  replace F_left_t := F_left_t.other W6 (Or.inl n_tl)
  replace F_right_t := F_right_t.other W6 (Or.inl n_tl)
  replace F_up_t := F_up_t.other W6 (Or.inl n_tl)
  replace A_r := A_r.other W6 (Ne.symm n_lr)
  replace A_u := A_u.other W6 (Ne.symm n_lu)
  replace A_l := A_l.congr (upd_cd (hi.lt) cd_m1)
  replace KK := KK.wr W6 (Or.inl (by simp))
  refine px_aloadN S6 d14_25 rfl rfl rfl ?_
  refine px_getfield S6 (hw _ (List.mem_of_getElem? (i := 14) rfl)) F_up_t d14_26 rfl (fun T7 S7 => ?_)
  refine px_iloadN S7 d14_29 rfl rfl ?_
  refine px_iloadN S7 d14_30 rfl rfl ?_
  refine px_iastore (v := j) S7 A_u g_u (i := x) hi.ix hi.lt rfl d14_31 rfl (fun T8 h8 S8 W8 A_u => ?_)
  replace X_t := X_t.wr W8
  replace F_left_t := F_left_t.other W8 (Or.inl n_tu)
  replace F_right_t := F_right_t.other W8 (Or.inl n_tu)
  replace F_up_t := F_up_t.other W8 (Or.inl n_tu)
  replace A_l := A_l.other W8 n_lu
  replace A_r := A_r.other W8 n_ru
  replace A_u := A_u.congr (upd_cd (hi.lt) hj)
  replace KK := KK.wr W8 (Or.inl (by simp))
  exact px_return S8 d14_32 rfl (by decide) (by decide) (⟨rfl, KK, ⟨X_t, F_left_t, F_right_t, F_up_t⟩, ⟨A_l, A_r, A_u⟩⟩)
theorem d4_0 : decode prog_17_method_2_code 0 = .ok (.aload_n 0, 1) := by decide +kernel
theorem d4_1 : decode prog_17_method_2_code 1 = .ok (.getfield 16, 3) := by decide +kernel
theorem d4_4 : decode prog_17_method_2_code 4 = .ok (.iload_n 1, 1) := by decide +kernel
theorem d4_5 : decode prog_17_method_2_code 5 = .ok (.iload_n 2, 1) := by decide +kernel
theorem d4_6 : decode prog_17_method_2_code 6 = .ok (.iastore, 1) := by decide +kernel
theorem d4_7 : decode prog_17_method_2_code 7 = .ok (.return_, 1) := by decide +kernel
theorem pn_4 : plainFor (⟨"com/example/rostra/rostra/tree/Ancestry", "add", "(II)V"⟩ : MethodName) = true := plainFor_of_name (by first | (simp [plainName, overriddenIn]; done) | decide +kernel)
set_option maxRecDepth 65536 in
set_option maxHeartbeats 40000000 in
theorem c_add {Z : State} {a0 : Array Value} (hw : ∀ d ∈ tables_1, d.before a0 Z = true) {t l r u : Addr} {L R U x q : Nat} {i j : Int32} {h0 : Heap} {n0 : Nat} (Z0 : n0 ≤ h0.size) (sp : Sep n0 t l r u) (B0 : AncO Z h0 t l r u) (A0 : Tr Z h0 l r u L R U) (hi : Cd i (x + 1)) (hj : Cd j q) :
    Ctr Z n0 (⟨"com/example/rostra/rostra/tree/Ancestry", "add", "(II)V"⟩ : MethodName) prog_17_method_2_code 3 none ({ frames := 0, cells := 0, slots := 0, locals := 0 } : Room) [(.ref t), (.int i), (.int j)] h0 (fun v h => v = none ∧ Keep h0 h [l, r, u] ∧ AncO Z h t l r u ∧ Tr Z h l r u L R (sC U x q)) := by
  refine Ctr.of (L := #[.val (.ref t), .val (.int i), .val (.int j)]) pn_4 Z0 (fun m => by first | (simp [entryFrame, mkF, argsToLocals, Value.category]; done) | rfl) ?_
  intro K T S0
  obtain ⟨⟨g_l, g_r, g_u⟩, n_tl, n_tr, n_tu, n_lr, n_lu, n_ru⟩ := sp
  obtain ⟨X_t, F_left_t, F_right_t, F_up_t⟩ := B0
  obtain ⟨A_l, A_r, A_u⟩ := A0
  have KK := Keep.refl h0 [l, r, u]
  refine px_aloadN S0 d4_0 rfl rfl rfl ?_
  refine px_getfield S0 (hw _ (List.mem_of_getElem? (i := 14) rfl)) F_up_t d4_1 rfl (fun T1 S1 => ?_)
  refine px_iloadN S1 d4_4 rfl rfl ?_
  refine px_iloadN S1 d4_5 rfl rfl ?_
  refine px_iastore (v := j) S1 A_u g_u (i := x) hi.ix hi.lt rfl d4_6 rfl (fun T2 h2 S2 W2 A_u => ?_)
  replace X_t := X_t.wr W2
  replace F_left_t := F_left_t.other W2 (Or.inl n_tu)
  replace F_right_t := F_right_t.other W2 (Or.inl n_tu)
  replace F_up_t := F_up_t.other W2 (Or.inl n_tu)
  replace A_l := A_l.other W2 n_lu
  replace A_r := A_r.other W2 n_ru
  replace A_u := A_u.congr (upd_cd (hi.lt) hj)
  replace KK := KK.wr W2 (Or.inl (by simp))
  exact px_return S2 d4_7 rfl (by decide) (by decide) (⟨rfl, KK, ⟨X_t, F_left_t, F_right_t, F_up_t⟩, ⟨A_l, A_r, A_u⟩⟩)
theorem d3_0 : decode jdk_65_method_103_code 0 = .ok (.iconst 0, 1) := by decide +kernel
theorem d3_1 : decode jdk_65_method_103_code 1 = .ok (.istore_n 2, 1) := by decide +kernel
theorem d3_2 : decode jdk_65_method_103_code 2 = .ok (.aload_n 0, 1) := by decide +kernel
theorem d3_3 : decode jdk_65_method_103_code 3 = .ok (.arraylength, 1) := by decide +kernel
theorem d3_4 : decode jdk_65_method_103_code 4 = .ok (.istore_n 3, 1) := by decide +kernel
theorem d3_5 : decode jdk_65_method_103_code 5 = .ok (.iload_n 2, 1) := by decide +kernel
theorem d3_6 : decode jdk_65_method_103_code 6 = .ok (.iload_n 3, 1) := by decide +kernel
theorem d3_7 : decode jdk_65_method_103_code 7 = .ok (.if_icmp .ge 13, 3) := by decide +kernel
theorem d3_10 : decode jdk_65_method_103_code 10 = .ok (.aload_n 0, 1) := by decide +kernel
theorem d3_11 : decode jdk_65_method_103_code 11 = .ok (.iload_n 2, 1) := by decide +kernel
theorem d3_12 : decode jdk_65_method_103_code 12 = .ok (.iload_n 1, 1) := by decide +kernel
theorem d3_13 : decode jdk_65_method_103_code 13 = .ok (.iastore, 1) := by decide +kernel
theorem d3_14 : decode jdk_65_method_103_code 14 = .ok (.iinc 2 1, 3) := by decide +kernel
theorem d3_17 : decode jdk_65_method_103_code 17 = .ok (.goto (-12), 3) := by decide +kernel
theorem d3_20 : decode jdk_65_method_103_code 20 = .ok (.return_, 1) := by decide +kernel
theorem pn_3 : plainFor (⟨"java/util/Arrays", "fill", "([II)V"⟩ : MethodName) = true := plainFor_of_name (by first | (simp [plainName, overriddenIn]; done) | decide +kernel)
set_option maxRecDepth 65536 in
set_option maxHeartbeats 40000000 in
theorem c_fill {Z : State} {a0 : Array Value} (hw : ∀ d ∈ tables_1, d.before a0 Z = true) {a : Addr} {x : Int32} {f : Nat → Int32} {h0 : Heap} {n0 : Nat} (Z0 : n0 ≤ h0.size) (ga : n0 ≤ a) (A0 : AI Z h0 a .int 5 f) :
    Ctr Z n0 (⟨"java/util/Arrays", "fill", "([II)V"⟩ : MethodName) jdk_65_method_103_code 4 none ({ frames := 0, cells := 0, slots := 0, locals := 0 } : Room) [(.ref a), (.int x)] h0 (fun v h => v = none ∧ Keep h0 h [a] ∧ AI Z h a .int 5 (fun _ => x)) := by
  refine Ctr.of (L := #[.val (.ref a), .val (.int x), .unset, .unset]) pn_3 Z0 (fun m => by first | (simp [entryFrame, mkF, argsToLocals, Value.category]; done) | rfl) ?_
  intro K T S0
  have KK := Keep.refl h0 [a]
  refine px_iconst (v := (0 : Int32)) S0 d3_0 rfl rfl ?_
  refine px_istoreN S0 d3_1 rfl (L' := #[.val (.ref a), .val (.int x), .val (.int (0 : Int32)), .unset]) rfl ?_
  refine px_aloadN S0 d3_2 rfl rfl rfl ?_
  refine px_alenI (v := (5 : Int32)) S0 A0 rfl d3_3 rfl ?_
  refine px_istoreN S0 d3_4 rfl (L' := #[.val (.ref a), .val (.int x), .val (.int (0 : Int32)), .val (.int (5 : Int32))]) rfl ?_
  refine Go.loopH (α := (Nat) × (Int32) × (Nat → Int32)) (Inv := fun k xx h => Keep h0 h [a] ∧ AI Z h a .int 5 xx.2.2 ∧ xx.2.1.toInt = (xx.1 : Int) ∧ xx.1 + k = 5 ∧ ∀ q, q < xx.1 → xx.2.2 q = x) (pcj := 5) (cl' := 0) (sl' := 0) (Lj := fun xx => #[.val (.ref a), .val (.int x), .val (.int xx.2.1), .val (.int (5 : Int32))]) (stj := fun xx => []) S0 (fun k IHJ1 xx T2 h2 S2 p2 => ?_) (fun J1 => ?_)
  · obtain ⟨p, i, g⟩ := xx
    try dsimp only at p2
    obtain ⟨KK, A0, hi, hp, hg⟩ := p2
    show Go _ _ _ _ _ 5 #[.val (.ref a), .val (.int x), .val (.int i), .val (.int (5 : Int32))] []
    refine px_iloadN S2 d3_5 rfl rfl ?_
    refine px_iloadN S2 d3_6 rfl rfl ?_
    refine px_icmp S2 d3_7 (by decide) (pc' := 20) rfl rfl (fun (hc3 : i.toInt ≥ (5 : Int32).toInt) => ?_) (fun (hc3 : i.toInt < (5 : Int32).toInt) => ?_)
    · exact px_return S2 d3_20 rfl (by decide) (by decide) (⟨rfl, KK, A0.congr (fun q hq => hg q (by have l5 : (5 : Int32).toInt = 5 := rfl; omega))⟩)
    · have l5 : (5 : Int32).toInt = 5 := rfl
      refine px_aloadN S2 d3_10 rfl rfl rfl ?_
      refine px_iloadN S2 d3_11 rfl rfl ?_
      refine px_iloadN S2 d3_12 rfl rfl ?_
      refine px_iastore (v := x) S2 A0 ga (i := p) hi (by omega) rfl d3_13 rfl (fun T4 h4 S4 W4 A0 => ?_)
      replace KK := KK.wr W4 (Or.inl (by simp))
      refine px_iinc (v := (1 : Int32)) (r := (i + (1 : Int32))) S4 d3_14 rfl rfl rfl rfl (L' := #[.val (.ref a), .val (.int x), .val (.int (i + (1 : Int32))), .val (.int (5 : Int32))]) rfl ?_
      generalize h_v5 : (i + (1 : Int32)) = v5
      refine px_goto S4 d3_17 (by decide) (pc' := 5) rfl ?_
      exact IHJ1 (k - 1) (by omega) (p + 1, v5, updF g p x) _ _ S4 ⟨KK, A0, by (try dsimp only); have q0 := rng32 v5; have q1 := congrArg Int32.toInt h_v5; have q2 := c_iadd i (1 : Int32); have q3 := rng32 (i + (1 : Int32)); have q4 := rng32 i; have q5 := (show (1 : Int32).toInt = 1 from rfl); have q6 := (show (5 : Int32).toInt = 5 from rfl); omega, by (try dsimp only); omega, fun q hq => by (try dsimp only at hq ⊢); by_cases e : q = p; (· rw [e, updF_same]); (· rw [updF_ne _ _ e]; exact hg q (by omega))⟩
  · exact J1 5 (0, (0 : Int32), _) _ _ S0 ⟨KK, A0, rfl, rfl, fun q hq => absurd hq (Nat.not_lt_zero q)⟩
theorem d1_0 : decode prog_17_method_1_code 0 = .ok (.aload_n 0, 1) := by decide +kernel
theorem d1_1 : decode prog_17_method_1_code 1 = .ok (.invokespecial 1, 3) := by decide +kernel
theorem d1_4 : decode prog_17_method_1_code 4 = .ok (.aload_n 0, 1) := by decide +kernel
theorem d1_5 : decode prog_17_method_1_code 5 = .ok (.iload_n 1, 1) := by decide +kernel
theorem d1_6 : decode prog_17_method_1_code 6 = .ok (.newarray .int, 2) := by decide +kernel
theorem d1_8 : decode prog_17_method_1_code 8 = .ok (.putfield 7, 3) := by decide +kernel
theorem d1_11 : decode prog_17_method_1_code 11 = .ok (.aload_n 0, 1) := by decide +kernel
theorem d1_12 : decode prog_17_method_1_code 12 = .ok (.iload_n 1, 1) := by decide +kernel
theorem d1_13 : decode prog_17_method_1_code 13 = .ok (.newarray .int, 2) := by decide +kernel
theorem d1_15 : decode prog_17_method_1_code 15 = .ok (.putfield 13, 3) := by decide +kernel
theorem d1_18 : decode prog_17_method_1_code 18 = .ok (.aload_n 0, 1) := by decide +kernel
theorem d1_19 : decode prog_17_method_1_code 19 = .ok (.iload_n 1, 1) := by decide +kernel
theorem d1_20 : decode prog_17_method_1_code 20 = .ok (.newarray .int, 2) := by decide +kernel
theorem d1_22 : decode prog_17_method_1_code 22 = .ok (.putfield 16, 3) := by decide +kernel
theorem d1_25 : decode prog_17_method_1_code 25 = .ok (.aload_n 0, 1) := by decide +kernel
theorem d1_26 : decode prog_17_method_1_code 26 = .ok (.getfield 7, 3) := by decide +kernel
theorem d1_29 : decode prog_17_method_1_code 29 = .ok (.iconst (-1), 1) := by decide +kernel
theorem d1_30 : decode prog_17_method_1_code 30 = .ok (.invokestatic 19, 3) := by decide +kernel
theorem d1_33 : decode prog_17_method_1_code 33 = .ok (.aload_n 0, 1) := by decide +kernel
theorem d1_34 : decode prog_17_method_1_code 34 = .ok (.getfield 13, 3) := by decide +kernel
theorem d1_37 : decode prog_17_method_1_code 37 = .ok (.iconst (-1), 1) := by decide +kernel
theorem d1_38 : decode prog_17_method_1_code 38 = .ok (.invokestatic 19, 3) := by decide +kernel
theorem d1_41 : decode prog_17_method_1_code 41 = .ok (.aload_n 0, 1) := by decide +kernel
theorem d1_42 : decode prog_17_method_1_code 42 = .ok (.getfield 16, 3) := by decide +kernel
theorem d1_45 : decode prog_17_method_1_code 45 = .ok (.iconst (-1), 1) := by decide +kernel
theorem d1_46 : decode prog_17_method_1_code 46 = .ok (.invokestatic 19, 3) := by decide +kernel
theorem d1_49 : decode prog_17_method_1_code 49 = .ok (.return_, 1) := by decide +kernel
theorem pd_1_0 : parseMethodDescriptor "([II)V" = some ⟨[(.array .int), .int], none⟩ := by decide +kernel
theorem pn_1 : plainFor (⟨"com/example/rostra/rostra/tree/Ancestry", "<init>", "(I)V"⟩ : MethodName) = true := plainFor_of_name (by first | (simp [plainName, overriddenIn]; done) | decide +kernel)
set_option maxRecDepth 65536 in
set_option maxHeartbeats 40000000 in
theorem c_init {Z : State} {a0 : Array Value} (hw : ∀ d ∈ tables_1, d.before a0 Z = true) {t : Addr} {h0 : Heap} {n0 : Nat} (Z0 : n0 ≤ h0.size) (g_t : n0 ≤ t) (X_t : Exa Z h0 t "com/example/rostra/rostra/tree/Ancestry") (F_left_t : Fld Z h0 t "com/example/rostra/rostra/tree/Ancestry" "left" "[I" .null) (F_right_t : Fld Z h0 t "com/example/rostra/rostra/tree/Ancestry" "right" "[I" .null) (F_up_t : Fld Z h0 t "com/example/rostra/rostra/tree/Ancestry" "up" "[I" .null) :
    Ctr Z n0 (⟨"com/example/rostra/rostra/tree/Ancestry", "<init>", "(I)V"⟩ : MethodName) prog_17_method_1_code 2 none ({ frames := 1, cells := 3, slots := 15, locals := 15 } : Room) [(.ref t), (.int (5 : Int32))] h0 (fun v h => v = none ∧ Keep h0 h [t] ∧ ∃ l r u : Addr, (h0.size ≤ l ∧ h0.size ≤ r ∧ h0.size ≤ u) ∧ Sep n0 t l r u ∧ AncO Z h t l r u ∧ Tr Z h l r u 0 0 0) := by
  refine Ctr.of (L := #[.val (.ref t), .val (.int (5 : Int32))]) pn_1 Z0 (fun m => by first | (simp [entryFrame, mkF, argsToLocals, Value.category]; done) | rfl) ?_
  intro K T S0
  have KK := Keep.refl h0 [t]
  refine px_aloadN S0 d1_0 rfl rfl rfl ?_
  refine px_initO (W := 0) S0 (hw _ (List.mem_of_getElem? (i := 7) rfl)) (hw _ (List.mem_of_getElem? (i := 8) rfl)) (hw _ (List.mem_of_getElem? (i := 9) rfl)) rfl (by decide) rfl (by decide) d1_1 rfl (fun T1 S1 => ?_)
  refine px_aloadN S1 d1_4 rfl rfl rfl ?_
  refine px_iloadN S1 d1_5 rfl rfl ?_
  refine px_newarr (aty := .int) (cap := 5) S1 (hw _ (List.mem_of_getElem? (i := 0) rfl)) rfl (n := 5) rfl (by decide) (by decide) (by decide) (by decide) d1_6 rfl (fun T2 h2 b2 z2 g_b2 S2 E2 A_b2 => ?_)
  have sz_b2 : h0.size ≤ b2 := by rw [z2]; exact (KK).1
  have ne_t_b2 : t ≠ b2 := ne_new z2 X_t.lt
  replace X_t := X_t.ext E2
  replace F_left_t := F_left_t.ext E2
  replace F_right_t := F_right_t.ext E2
  replace F_up_t := F_up_t.ext E2
  refine px_putfield (ty := (.array .int)) S2 (hw _ (List.mem_of_getElem? (i := 10) rfl)) F_left_t X_t g_t (Or.inr ⟨(hw _ (List.mem_of_getElem? (i := 11) rfl)), rfl, rfl⟩) (hw _ (List.mem_of_getElem? (i := 2) rfl)) (by decide) rfl rfl d1_8 rfl (fun T3 h3 S3 W3 F_left_t X_t => ?_)
  replace F_right_t := F_right_t.other W3 (Or.inr (slot_ne (Or.inr (hw _ (List.mem_of_getElem? (i := 13) rfl))) (Or.inr (hw _ (List.mem_of_getElem? (i := 11) rfl))) (by decide) (t := (.array .int)) (t' := (.array .int)) (by decide) (by decide)))
  replace F_up_t := F_up_t.other W3 (Or.inr (slot_ne (Or.inr (hw _ (List.mem_of_getElem? (i := 15) rfl))) (Or.inr (hw _ (List.mem_of_getElem? (i := 11) rfl))) (by decide) (t := (.array .int)) (t' := (.array .int)) (by decide) (by decide)))
  replace A_b2 := A_b2.other W3 (Ne.symm ne_t_b2)
  refine px_aloadN S3 d1_11 rfl rfl rfl ?_
  refine px_iloadN S3 d1_12 rfl rfl ?_
  refine px_newarr (aty := .int) (cap := 5) S3 (hw _ (List.mem_of_getElem? (i := 0) rfl)) rfl (n := 5) rfl (by decide) (by decide) (by decide) (by decide) d1_13 rfl (fun T4 h4 b4 z4 g_b4 S4 E4 A_b4 => ?_)
  have sz_b4 : h0.size ≤ b4 := by rw [z4]; exact (((KK.ext E2).wr W3 (Or.inl (by simp)))).1
  have ne_t_b4 : t ≠ b4 := ne_new z4 X_t.lt
  have ne_b2_b4 : b2 ≠ b4 := ne_new z4 A_b2.lt
  replace X_t := X_t.ext E4
  replace F_left_t := F_left_t.ext E4
  replace F_right_t := F_right_t.ext E4
  replace F_up_t := F_up_t.ext E4
  replace A_b2 := A_b2.ext E4
  refine px_putfield (ty := (.array .int)) S4 (hw _ (List.mem_of_getElem? (i := 12) rfl)) F_right_t X_t g_t (Or.inr ⟨(hw _ (List.mem_of_getElem? (i := 13) rfl)), rfl, rfl⟩) (hw _ (List.mem_of_getElem? (i := 2) rfl)) (by decide) rfl rfl d1_15 rfl (fun T5 h5 S5 W5 F_right_t X_t => ?_)
  replace F_left_t := F_left_t.other W5 (Or.inr (slot_ne (Or.inr (hw _ (List.mem_of_getElem? (i := 11) rfl))) (Or.inr (hw _ (List.mem_of_getElem? (i := 13) rfl))) (by decide) (t := (.array .int)) (t' := (.array .int)) (by decide) (by decide)))
  replace F_up_t := F_up_t.other W5 (Or.inr (slot_ne (Or.inr (hw _ (List.mem_of_getElem? (i := 15) rfl))) (Or.inr (hw _ (List.mem_of_getElem? (i := 13) rfl))) (by decide) (t := (.array .int)) (t' := (.array .int)) (by decide) (by decide)))
  replace A_b2 := A_b2.other W5 (Ne.symm ne_t_b2)
  replace A_b4 := A_b4.other W5 (Ne.symm ne_t_b4)
  refine px_aloadN S5 d1_18 rfl rfl rfl ?_
  refine px_iloadN S5 d1_19 rfl rfl ?_
  refine px_newarr (aty := .int) (cap := 5) S5 (hw _ (List.mem_of_getElem? (i := 0) rfl)) rfl (n := 5) rfl (by decide) (by decide) (by decide) (by decide) d1_20 rfl (fun T6 h6 b6 z6 g_b6 S6 E6 A_b6 => ?_)
  have sz_b6 : h0.size ≤ b6 := by rw [z6]; exact (((((KK.ext E2).wr W3 (Or.inl (by simp))).ext E4).wr W5 (Or.inl (by simp)))).1
  have ne_t_b6 : t ≠ b6 := ne_new z6 X_t.lt
  have ne_b2_b6 : b2 ≠ b6 := ne_new z6 A_b2.lt
  have ne_b4_b6 : b4 ≠ b6 := ne_new z6 A_b4.lt
  replace X_t := X_t.ext E6
  replace F_left_t := F_left_t.ext E6
  replace F_right_t := F_right_t.ext E6
  replace F_up_t := F_up_t.ext E6
  replace A_b2 := A_b2.ext E6
  replace A_b4 := A_b4.ext E6
  refine px_putfield (ty := (.array .int)) S6 (hw _ (List.mem_of_getElem? (i := 14) rfl)) F_up_t X_t g_t (Or.inr ⟨(hw _ (List.mem_of_getElem? (i := 15) rfl)), rfl, rfl⟩) (hw _ (List.mem_of_getElem? (i := 2) rfl)) (by decide) rfl rfl d1_22 rfl (fun T7 h7 S7 W7 F_up_t X_t => ?_)
  replace F_left_t := F_left_t.other W7 (Or.inr (slot_ne (Or.inr (hw _ (List.mem_of_getElem? (i := 11) rfl))) (Or.inr (hw _ (List.mem_of_getElem? (i := 15) rfl))) (by decide) (t := (.array .int)) (t' := (.array .int)) (by decide) (by decide)))
  replace F_right_t := F_right_t.other W7 (Or.inr (slot_ne (Or.inr (hw _ (List.mem_of_getElem? (i := 13) rfl))) (Or.inr (hw _ (List.mem_of_getElem? (i := 15) rfl))) (by decide) (t := (.array .int)) (t' := (.array .int)) (by decide) (by decide)))
  replace A_b2 := A_b2.other W7 (Ne.symm ne_t_b2)
  replace A_b4 := A_b4.other W7 (Ne.symm ne_t_b4)
  replace A_b6 := A_b6.other W7 (Ne.symm ne_t_b6)
  refine px_aloadN S7 d1_25 rfl rfl rfl ?_
  refine px_getfield S7 (hw _ (List.mem_of_getElem? (i := 10) rfl)) F_left_t d1_26 rfl (fun T8 S8 => ?_)
  refine px_iconst (v := (-1 : Int32)) S8 d1_29 rfl rfl ?_
  refine px_callS (as' := [(.ref b2), (.int (-1 : Int32))]) (st := []) (W := 0) S8 (c_fill hw S8.size g_b2 A_b2) (hw _ (List.mem_of_getElem? (i := 16) rfl)) (hw _ (List.mem_of_getElem? (i := 17) rfl)) (hw _ (List.mem_of_getElem? (i := 18) rfl)) (hw _ (List.mem_of_getElem? (i := 19) rfl)) (by decide) pd_1_0 rfl rfl (by decide) rfl (by decide) (by decide) (by decide) d1_30 rfl rfl (fun T9 h9 v9 S9 q9 => ?_)
  obtain ⟨rfl, K9, A_b2⟩ := q9
  replace X_t := X_t.keep K9
  replace F_left_t := F_left_t.keep K9 (ninS ne_t_b2 nin0)
  replace F_right_t := F_right_t.keep K9 (ninS ne_t_b2 nin0)
  replace F_up_t := F_up_t.keep K9 (ninS ne_t_b2 nin0)
  replace A_b4 := A_b4.keep K9 (ninS (Ne.symm ne_b2_b4) nin0)
  replace A_b6 := A_b6.keep K9 (ninS (Ne.symm ne_b2_b6) nin0)
  show Go _ _ _ _ _ _ _ []
  refine px_aloadN S9 d1_33 rfl rfl rfl ?_
  refine px_getfield S9 (hw _ (List.mem_of_getElem? (i := 12) rfl)) F_right_t d1_34 rfl (fun T10 S10 => ?_)
  refine px_iconst (v := (-1 : Int32)) S10 d1_37 rfl rfl ?_
  refine px_callS (as' := [(.ref b4), (.int (-1 : Int32))]) (st := []) (W := 0) S10 (c_fill hw S10.size g_b4 A_b4) (hw _ (List.mem_of_getElem? (i := 16) rfl)) (hw _ (List.mem_of_getElem? (i := 17) rfl)) (hw _ (List.mem_of_getElem? (i := 18) rfl)) (hw _ (List.mem_of_getElem? (i := 19) rfl)) (by decide) pd_1_0 rfl rfl (by decide) rfl (by decide) (by decide) (by decide) d1_38 rfl rfl (fun T11 h11 v11 S11 q11 => ?_)
  obtain ⟨rfl, K11, A_b4⟩ := q11
  replace X_t := X_t.keep K11
  replace F_left_t := F_left_t.keep K11 (ninS ne_t_b4 nin0)
  replace F_right_t := F_right_t.keep K11 (ninS ne_t_b4 nin0)
  replace F_up_t := F_up_t.keep K11 (ninS ne_t_b4 nin0)
  replace A_b2 := A_b2.keep K11 (ninS ne_b2_b4 nin0)
  replace A_b6 := A_b6.keep K11 (ninS (Ne.symm ne_b4_b6) nin0)
  show Go _ _ _ _ _ _ _ []
  refine px_aloadN S11 d1_41 rfl rfl rfl ?_
  refine px_getfield S11 (hw _ (List.mem_of_getElem? (i := 14) rfl)) F_up_t d1_42 rfl (fun T12 S12 => ?_)
  refine px_iconst (v := (-1 : Int32)) S12 d1_45 rfl rfl ?_
  refine px_callS (as' := [(.ref b6), (.int (-1 : Int32))]) (st := []) (W := 0) S12 (c_fill hw S12.size g_b6 A_b6) (hw _ (List.mem_of_getElem? (i := 16) rfl)) (hw _ (List.mem_of_getElem? (i := 17) rfl)) (hw _ (List.mem_of_getElem? (i := 18) rfl)) (hw _ (List.mem_of_getElem? (i := 19) rfl)) (by decide) pd_1_0 rfl rfl (by decide) rfl (by decide) (by decide) (by decide) d1_46 rfl rfl (fun T13 h13 v13 S13 q13 => ?_)
  obtain ⟨rfl, K13, A_b6⟩ := q13
  replace X_t := X_t.keep K13
  replace F_left_t := F_left_t.keep K13 (ninS ne_t_b6 nin0)
  replace F_right_t := F_right_t.keep K13 (ninS ne_t_b6 nin0)
  replace F_up_t := F_up_t.keep K13 (ninS ne_t_b6 nin0)
  replace A_b2 := A_b2.keep K13 (ninS ne_b2_b6 nin0)
  replace A_b4 := A_b4.keep K13 (ninS ne_b4_b6 nin0)
  show Go _ _ _ _ _ _ _ []
  have Kn := ((((((KK.ext E2).wr W3 (Or.inl (by simp))).ext E4).wr W5 (Or.inl (by simp))).ext E6).wr W7 (Or.inl (by simp)))
  replace Kn := Kn.trans K9 (allS (Or.inr (sz_b2)) all0)
  replace Kn := Kn.trans K11 (allS (Or.inr (sz_b4)) all0)
  replace Kn := Kn.trans K13 (allS (Or.inr (sz_b6)) all0)
  exact px_return S13 d1_49 rfl (by decide) (by decide) (⟨rfl, Kn, b2, b4, b6, ⟨sz_b2, sz_b4, sz_b6⟩, ⟨⟨g_b2, g_b4, g_b6⟩, ne_t_b2, ne_t_b4, ne_t_b6, ne_b2_b4, ne_b2_b6, ne_b4_b6⟩, ⟨X_t, F_left_t, F_right_t, F_up_t⟩, A_b2.congr fill_dec, A_b4.congr fill_dec, A_b6.congr fill_dec⟩)
theorem d5_0 : decode method_4_code 0 = .ok (.iload_n 0, 1) := by decide +kernel
theorem d5_1 : decode method_4_code 1 = .ok (.sipush 255, 3) := by decide +kernel
theorem d5_4 : decode method_4_code 4 = .ok (.iand, 1) := by decide +kernel
theorem d5_5 : decode method_4_code 5 = .ok (.iconst 5, 1) := by decide +kernel
theorem d5_6 : decode method_4_code 6 = .ok (.irem, 1) := by decide +kernel
theorem d5_7 : decode method_4_code 7 = .ok (.ireturn, 1) := by decide +kernel
theorem pn_5 : plainFor (⟨"com/example/rostra/rostra/tree/AncestryIsSelfOrAncestorPinLaw", "first", "(I)I"⟩ : MethodName) = true := plainFor_of_name (by first | (simp [plainName, overriddenIn]; done) | decide +kernel)
set_option maxRecDepth 65536 in
set_option maxHeartbeats 40000000 in
theorem c_first {Z : State} {a0 : Array Value} (hw : ∀ d ∈ tables_1, d.before a0 Z = true) {i : Int32} {h0 : Heap} {n0 : Nat} (Z0 : n0 ≤ h0.size) :
    Ctr Z n0 (⟨"com/example/rostra/rostra/tree/AncestryIsSelfOrAncestorPinLaw", "first", "(I)I"⟩ : MethodName) method_4_code 1 (some .int) ({ frames := 0, cells := 0, slots := 0, locals := 0 } : Room) [(.int i)] h0 (fun v h => h = h0 ∧ ∃ z : Int32, v = some (.int z) ∧ (0 ≤ z.toInt ∧ z.toInt < 5)) := by
  refine Ctr.of (L := #[.val (.int i)]) pn_5 Z0 (fun m => by first | (simp [entryFrame, mkF, argsToLocals, Value.category]; done) | rfl) ?_
  intro K T S0
  refine px_iloadN S0 d5_0 rfl rfl ?_
  refine px_sipush (v := (255 : Int32)) S0 d5_1 rfl rfl ?_
  refine px_iand S0 d5_4 rfl ?_
  refine px_iconst (v := (5 : Int32)) S0 d5_5 rfl rfl ?_
  refine px_irem S0 d5_6 rfl (by decide) ?_
  exact px_retI S0 d5_7 rfl (by decide) (by decide) (⟨rfl, _, rfl, by have q0 := f_irem (i &&& (255 : Int32)) (5 : Int32) 5 rfl; have q1 := rng32 ((i &&& (255 : Int32)) % (5 : Int32)); have q2 := f_imask i (255 : Int32) 8 256 (by decide) (by decide) (by decide); have q3 := rng32 i; have q4 := (show (255 : Int32).toInt = 255 from rfl); have q5 := (show (5 : Int32).toInt = 5 from rfl); omega⟩)
theorem d6_0 : decode method_5_code 0 = .ok (.iload_n 0, 1) := by decide +kernel
theorem d6_1 : decode method_5_code 1 = .ok (.bipush 8, 2) := by decide +kernel
theorem d6_3 : decode method_5_code 3 = .ok (.iushr, 1) := by decide +kernel
theorem d6_4 : decode method_5_code 4 = .ok (.sipush 255, 3) := by decide +kernel
theorem d6_7 : decode method_5_code 7 = .ok (.iand, 1) := by decide +kernel
theorem d6_8 : decode method_5_code 8 = .ok (.iconst 5, 1) := by decide +kernel
theorem d6_9 : decode method_5_code 9 = .ok (.irem, 1) := by decide +kernel
theorem d6_10 : decode method_5_code 10 = .ok (.ireturn, 1) := by decide +kernel
theorem pn_6 : plainFor (⟨"com/example/rostra/rostra/tree/AncestryIsSelfOrAncestorPinLaw", "second", "(I)I"⟩ : MethodName) = true := plainFor_of_name (by first | (simp [plainName, overriddenIn]; done) | decide +kernel)
set_option maxRecDepth 65536 in
set_option maxHeartbeats 40000000 in
theorem c_second {Z : State} {a0 : Array Value} (hw : ∀ d ∈ tables_1, d.before a0 Z = true) {i : Int32} {h0 : Heap} {n0 : Nat} (Z0 : n0 ≤ h0.size) :
    Ctr Z n0 (⟨"com/example/rostra/rostra/tree/AncestryIsSelfOrAncestorPinLaw", "second", "(I)I"⟩ : MethodName) method_5_code 1 (some .int) ({ frames := 0, cells := 0, slots := 0, locals := 0 } : Room) [(.int i)] h0 (fun v h => h = h0 ∧ ∃ z : Int32, v = some (.int z) ∧ (0 ≤ z.toInt ∧ z.toInt < 5)) := by
  refine Ctr.of (L := #[.val (.int i)]) pn_6 Z0 (fun m => by first | (simp [entryFrame, mkF, argsToLocals, Value.category]; done) | rfl) ?_
  intro K T S0
  refine px_iloadN S0 d6_0 rfl rfl ?_
  refine px_bipush (v := (8 : Int32)) S0 d6_1 rfl rfl ?_
  refine px_iushr S0 d6_3 rfl ?_
  refine px_sipush (v := (255 : Int32)) S0 d6_4 rfl rfl ?_
  refine px_iand S0 d6_7 rfl ?_
  refine px_iconst (v := (5 : Int32)) S0 d6_8 rfl rfl ?_
  refine px_irem S0 d6_9 rfl (by decide) ?_
  exact px_retI S0 d6_10 rfl (by decide) (by decide) (⟨rfl, _, rfl, by have q0 := f_irem ((ushr i (8 : Int32)) &&& (255 : Int32)) (5 : Int32) 5 rfl; have q1 := rng32 (((ushr i (8 : Int32)) &&& (255 : Int32)) % (5 : Int32)); have q2 := f_imask (ushr i (8 : Int32)) (255 : Int32) 8 256 (by decide) (by decide) (by decide); have q3 := f_iushr i (8 : Int32) 8 256 (by decide) (by decide) (by decide); have q4 := rng32 (ushr i (8 : Int32)); have q5 := rng32 i; have q6 := (show (8 : Int32).toInt = 8 from rfl); have q7 := (show (255 : Int32).toInt = 255 from rfl); have q8 := (show (5 : Int32).toInt = 5 from rfl); omega⟩)
theorem d13_0 : decode method_2_code 0 = .ok (.iload_n 1, 1) := by decide +kernel
theorem d13_1 : decode method_2_code 1 = .ok (.ifCond .ge 7, 3) := by decide +kernel
theorem d13_4 : decode method_2_code 4 = .ok (.iconst (-1), 1) := by decide +kernel
theorem d13_5 : decode method_2_code 5 = .ok (.goto 6, 3) := by decide +kernel
theorem d13_8 : decode method_2_code 8 = .ok (.aload_n 0, 1) := by decide +kernel
theorem d13_9 : decode method_2_code 9 = .ok (.iload_n 1, 1) := by decide +kernel
theorem d13_10 : decode method_2_code 10 = .ok (.iaload, 1) := by decide +kernel
theorem d13_11 : decode method_2_code 11 = .ok (.ireturn, 1) := by decide +kernel
theorem pn_13 : plainFor (⟨"com/example/rostra/rostra/tree/AncestryIsSelfOrAncestorPinLaw", "par", "([II)I"⟩ : MethodName) = true := plainFor_of_name (by first | (simp [plainName, overriddenIn]; done) | decide +kernel)
set_option maxRecDepth 65536 in
set_option maxHeartbeats 40000000 in
theorem c_par {Z : State} {a0 : Array Value} (hw : ∀ d ∈ tables_1, d.before a0 Z = true) {a : Addr} {t c : Nat} {g : Nat → Int32} {i : Int32} {h0 : Heap} {n0 : Nat} (Z0 : n0 ≤ h0.size) (A0 : AI Z h0 a .int 5 g) (hg : ∀ i, i < 5 → (g i).toInt = (nxt t (i + 1) : Int) - 1) (hi : Cd i c) :
    Ctr Z n0 (⟨"com/example/rostra/rostra/tree/AncestryIsSelfOrAncestorPinLaw", "par", "([II)I"⟩ : MethodName) method_2_code 2 (some .int) ({ frames := 0, cells := 0, slots := 0, locals := 0 } : Room) [(.ref a), (.int i)] h0 (fun v h => h = h0 ∧ ∃ z : Int32, v = some (.int z) ∧ Cd z (nxt t c)) := by
  refine Ctr.of (L := #[.val (.ref a), .val (.int i)]) pn_13 Z0 (fun m => by first | (simp [entryFrame, mkF, argsToLocals, Value.category]; done) | rfl) ?_
  intro K T S0
  refine px_iloadN S0 d13_0 rfl rfl ?_
  refine px_if0 S0 d13_1 (by decide) (pc' := 8) rfl rfl (fun (hc1 : i.toInt ≥ 0) => ?_) (fun (hc1 : i.toInt < 0) => ?_)
  · obtain ⟨k, rfl⟩ : ∃ k, c = k + 1 := ⟨c - 1, by have q := hi.1; omega⟩
    refine px_aloadN S0 d13_8 rfl rfl rfl ?_
    refine px_iloadN S0 d13_9 rfl rfl ?_
    refine px_iaload (v := (g k)) S0 A0 (i := k) hi.ix hi.lt rfl d13_10 rfl ?_
    exact px_retI S0 d13_11 rfl (by decide) (by decide) (⟨rfl, _, rfl, (nxt_cd hg (k := k) (hi.lt))⟩)
  · refine px_iconst (v := (-1 : Int32)) S0 d13_4 rfl rfl ?_
    refine px_goto S0 d13_5 (by decide) (pc' := 11) rfl ?_
    obtain rfl : c = 0 := by have q := hi.1; omega
    exact px_retI S0 d13_11 rfl (by decide) (by decide) (⟨rfl, _, rfl, cd_m1⟩)
theorem d12_0 : decode method_3_code 0 = .ok (.aload_n 0, 1) := by decide +kernel
theorem d12_1 : decode method_3_code 1 = .ok (.iload_n 2, 1) := by decide +kernel
theorem d12_2 : decode method_3_code 2 = .ok (.invokestatic 7, 3) := by decide +kernel
theorem d12_5 : decode method_3_code 5 = .ok (.istore_n 3, 1) := by decide +kernel
theorem d12_6 : decode method_3_code 6 = .ok (.aload_n 0, 1) := by decide +kernel
theorem d12_7 : decode method_3_code 7 = .ok (.iload_n 3, 1) := by decide +kernel
theorem d12_8 : decode method_3_code 8 = .ok (.invokestatic 7, 3) := by decide +kernel
theorem d12_11 : decode method_3_code 11 = .ok (.istore 4, 2) := by decide +kernel
theorem d12_13 : decode method_3_code 13 = .ok (.aload_n 0, 1) := by decide +kernel
theorem d12_14 : decode method_3_code 14 = .ok (.iload 4, 2) := by decide +kernel
theorem d12_16 : decode method_3_code 16 = .ok (.invokestatic 7, 3) := by decide +kernel
theorem d12_19 : decode method_3_code 19 = .ok (.istore 5, 2) := by decide +kernel
theorem d12_21 : decode method_3_code 21 = .ok (.aload_n 0, 1) := by decide +kernel
theorem d12_22 : decode method_3_code 22 = .ok (.iload 5, 2) := by decide +kernel
theorem d12_24 : decode method_3_code 24 = .ok (.invokestatic 7, 3) := by decide +kernel
theorem d12_27 : decode method_3_code 27 = .ok (.istore 6, 2) := by decide +kernel
theorem d12_29 : decode method_3_code 29 = .ok (.iload_n 1, 1) := by decide +kernel
theorem d12_30 : decode method_3_code 30 = .ok (.iload_n 2, 1) := by decide +kernel
theorem d12_31 : decode method_3_code 31 = .ok (.if_icmp .eq 26, 3) := by decide +kernel
theorem d12_34 : decode method_3_code 34 = .ok (.iload_n 1, 1) := by decide +kernel
theorem d12_35 : decode method_3_code 35 = .ok (.iload_n 3, 1) := by decide +kernel
theorem d12_36 : decode method_3_code 36 = .ok (.if_icmp .eq 21, 3) := by decide +kernel
theorem d12_39 : decode method_3_code 39 = .ok (.iload_n 1, 1) := by decide +kernel
theorem d12_40 : decode method_3_code 40 = .ok (.iload 4, 2) := by decide +kernel
theorem d12_42 : decode method_3_code 42 = .ok (.if_icmp .eq 15, 3) := by decide +kernel
theorem d12_45 : decode method_3_code 45 = .ok (.iload_n 1, 1) := by decide +kernel
theorem d12_46 : decode method_3_code 46 = .ok (.iload 5, 2) := by decide +kernel
theorem d12_48 : decode method_3_code 48 = .ok (.if_icmp .eq 9, 3) := by decide +kernel
theorem d12_51 : decode method_3_code 51 = .ok (.iload_n 1, 1) := by decide +kernel
theorem d12_52 : decode method_3_code 52 = .ok (.iload 6, 2) := by decide +kernel
theorem d12_54 : decode method_3_code 54 = .ok (.if_icmp .ne 7, 3) := by decide +kernel
theorem d12_57 : decode method_3_code 57 = .ok (.iconst 1, 1) := by decide +kernel
theorem d12_58 : decode method_3_code 58 = .ok (.goto 4, 3) := by decide +kernel
theorem d12_61 : decode method_3_code 61 = .ok (.iconst 0, 1) := by decide +kernel
theorem d12_62 : decode method_3_code 62 = .ok (.ireturn, 1) := by decide +kernel
theorem pd_12_0 : parseMethodDescriptor "([II)I" = some ⟨[(.array .int), .int], some .int⟩ := by decide +kernel
theorem pn_12 : plainFor (⟨"com/example/rostra/rostra/tree/AncestryIsSelfOrAncestorPinLaw", "ref", "([III)Z"⟩ : MethodName) = true := plainFor_of_name (by first | (simp [plainName, overriddenIn]; done) | decide +kernel)
set_option maxRecDepth 65536 in
set_option maxHeartbeats 40000000 in
theorem c_ref {Z : State} {a0 : Array Value} (hw : ∀ d ∈ tables_1, d.before a0 Z = true) {a : Addr} {t x y : Nat} {g : Nat → Int32} {i j : Int32} {h0 : Heap} {n0 : Nat} (Z0 : n0 ≤ h0.size) (A0 : AI Z h0 a .int 5 g) (hg : ∀ i, i < 5 → (g i).toInt = (nxt t (i + 1) : Int) - 1) (hi : Cd i (x + 1)) (hj : Cd j (y + 1)) (hp0 : parM t 0 = 0) :
    Ctr Z n0 (⟨"com/example/rostra/rostra/tree/AncestryIsSelfOrAncestorPinLaw", "ref", "([III)Z"⟩ : MethodName) method_3_code 7 (some .boolean) ({ frames := 1, cells := 0, slots := 0, locals := 13 } : Room) [(.ref a), (.int i), (.int j)] h0 (fun v h => h = h0 ∧ v = some (.int (bI (ancM t x y)))) := by
  refine Ctr.of (L := #[.val (.ref a), .val (.int i), .val (.int j), .unset, .unset, .unset, .unset]) pn_12 Z0 (fun m => by first | (simp [entryFrame, mkF, argsToLocals, Value.category]; done) | rfl) ?_
  intro K T S0
  refine px_aloadN S0 d12_0 rfl rfl rfl ?_
  refine px_iloadN S0 d12_1 rfl rfl ?_
  refine px_callS (as' := [(.ref a), (.int j)]) (st := []) (W := 0) S0 (c_par (t := t) (c := (y + 1)) hw S0.size A0 hg hj) (hw _ (List.mem_of_getElem? (i := 56) rfl)) (hw _ (List.mem_of_getElem? (i := 57) rfl)) (hw _ (List.mem_of_getElem? (i := 27) rfl)) (hw _ (List.mem_of_getElem? (i := 58) rfl)) (by decide) pd_12_0 rfl rfl (by decide) rfl (by decide) (by decide) (by decide) d12_2 rfl rfl (fun T1 h1 v1 S1 q1 => ?_)
  obtain ⟨rfl, y1, rfl, cy1⟩ := q1
  show Go _ _ _ _ _ _ _ [(.int y1)]
  refine px_istoreN S1 d12_5 rfl (L' := #[.val (.ref a), .val (.int i), .val (.int j), .val (.int y1), .unset, .unset, .unset]) rfl ?_
  refine px_aloadN S1 d12_6 rfl rfl rfl ?_
  refine px_iloadN S1 d12_7 rfl rfl ?_
  refine px_callS (as' := [(.ref a), (.int y1)]) (st := []) (W := 0) S1 (c_par (t := t) (c := (nxt t (y + 1))) hw S1.size A0 hg cy1) (hw _ (List.mem_of_getElem? (i := 56) rfl)) (hw _ (List.mem_of_getElem? (i := 57) rfl)) (hw _ (List.mem_of_getElem? (i := 27) rfl)) (hw _ (List.mem_of_getElem? (i := 58) rfl)) (by decide) pd_12_0 rfl rfl (by decide) rfl (by decide) (by decide) (by decide) d12_8 rfl rfl (fun T2 h2 v2 S2 q2 => ?_)
  obtain ⟨rfl, y2, rfl, cy2⟩ := q2
  show Go _ _ _ _ _ _ _ [(.int y2)]
  refine px_istore S2 d12_11 rfl (L' := #[.val (.ref a), .val (.int i), .val (.int j), .val (.int y1), .val (.int y2), .unset, .unset]) rfl ?_
  refine px_aloadN S2 d12_13 rfl rfl rfl ?_
  refine px_iload S2 d12_14 rfl rfl ?_
  refine px_callS (as' := [(.ref a), (.int y2)]) (st := []) (W := 0) S2 (c_par (t := t) (c := (nxt t (nxt t (y + 1)))) hw S2.size A0 hg cy2) (hw _ (List.mem_of_getElem? (i := 56) rfl)) (hw _ (List.mem_of_getElem? (i := 57) rfl)) (hw _ (List.mem_of_getElem? (i := 27) rfl)) (hw _ (List.mem_of_getElem? (i := 58) rfl)) (by decide) pd_12_0 rfl rfl (by decide) rfl (by decide) (by decide) (by decide) d12_16 rfl rfl (fun T3 h3 v3 S3 q3 => ?_)
  obtain ⟨rfl, y3, rfl, cy3⟩ := q3
  show Go _ _ _ _ _ _ _ [(.int y3)]
  refine px_istore S3 d12_19 rfl (L' := #[.val (.ref a), .val (.int i), .val (.int j), .val (.int y1), .val (.int y2), .val (.int y3), .unset]) rfl ?_
  refine px_aloadN S3 d12_21 rfl rfl rfl ?_
  refine px_iload S3 d12_22 rfl rfl ?_
  refine px_callS (as' := [(.ref a), (.int y3)]) (st := []) (W := 0) S3 (c_par (t := t) (c := (nxt t (nxt t (nxt t (y + 1))))) hw S3.size A0 hg cy3) (hw _ (List.mem_of_getElem? (i := 56) rfl)) (hw _ (List.mem_of_getElem? (i := 57) rfl)) (hw _ (List.mem_of_getElem? (i := 27) rfl)) (hw _ (List.mem_of_getElem? (i := 58) rfl)) (by decide) pd_12_0 rfl rfl (by decide) rfl (by decide) (by decide) (by decide) d12_24 rfl rfl (fun T4 h4 v4 S4 q4 => ?_)
  obtain ⟨rfl, y4, rfl, cy4⟩ := q4
  show Go _ _ _ _ _ _ _ [(.int y4)]
  refine px_istore S4 d12_27 rfl (L' := #[.val (.ref a), .val (.int i), .val (.int j), .val (.int y1), .val (.int y2), .val (.int y3), .val (.int y4)]) rfl ?_
  refine px_iloadN S4 d12_29 rfl rfl ?_
  refine px_iloadN S4 d12_30 rfl rfl ?_
  refine px_icmp S4 d12_31 (by decide) (pc' := 57) rfl rfl (fun (hc5 : i.toInt = j.toInt) => ?_) (fun (hc5 : ¬ i.toInt = j.toInt) => ?_)
  · refine px_iconst (v := (1 : Int32)) S4 d12_57 rfl rfl ?_
    refine px_goto S4 d12_58 (by decide) (pc' := 62) rfl ?_
    exact px_retN (t := .boolean) (z' := (1 : Int32)) S4 d12_62 rfl (by simp) rfl (by decide) (by decide) (⟨rfl, by show _ = some (Value.int (bI (ancR t x 4 y))); rw [← ref_anc hp0 4 y]; simp only [refR, bt (hi.eq hj hc5), cond_true, cond_false]; rfl⟩)
  · refine px_iloadN S4 d12_34 rfl rfl ?_
    refine px_iloadN S4 d12_35 rfl rfl ?_
    refine px_icmp S4 d12_36 (by decide) (pc' := 57) rfl rfl (fun (hc6 : i.toInt = y1.toInt) => ?_) (fun (hc6 : ¬ i.toInt = y1.toInt) => ?_)
    · refine px_iconst (v := (1 : Int32)) S4 d12_57 rfl rfl ?_
      refine px_goto S4 d12_58 (by decide) (pc' := 62) rfl ?_
      exact px_retN (t := .boolean) (z' := (1 : Int32)) S4 d12_62 rfl (by simp) rfl (by decide) (by decide) (⟨rfl, by show _ = some (Value.int (bI (ancR t x 4 y))); rw [← ref_anc hp0 4 y]; simp only [refR, bf (hi.ne hj hc5), bt (hi.eq cy1 hc6), cond_true, cond_false]; rfl⟩)
    · refine px_iloadN S4 d12_39 rfl rfl ?_
      refine px_iload S4 d12_40 rfl rfl ?_
      refine px_icmp S4 d12_42 (by decide) (pc' := 57) rfl rfl (fun (hc7 : i.toInt = y2.toInt) => ?_) (fun (hc7 : ¬ i.toInt = y2.toInt) => ?_)
      · refine px_iconst (v := (1 : Int32)) S4 d12_57 rfl rfl ?_
        refine px_goto S4 d12_58 (by decide) (pc' := 62) rfl ?_
        exact px_retN (t := .boolean) (z' := (1 : Int32)) S4 d12_62 rfl (by simp) rfl (by decide) (by decide) (⟨rfl, by show _ = some (Value.int (bI (ancR t x 4 y))); rw [← ref_anc hp0 4 y]; simp only [refR, bf (hi.ne hj hc5), bf (hi.ne cy1 hc6), bt (hi.eq cy2 hc7), cond_true, cond_false]; rfl⟩)
      · refine px_iloadN S4 d12_45 rfl rfl ?_
        refine px_iload S4 d12_46 rfl rfl ?_
        refine px_icmp S4 d12_48 (by decide) (pc' := 57) rfl rfl (fun (hc8 : i.toInt = y3.toInt) => ?_) (fun (hc8 : ¬ i.toInt = y3.toInt) => ?_)
        · refine px_iconst (v := (1 : Int32)) S4 d12_57 rfl rfl ?_
          refine px_goto S4 d12_58 (by decide) (pc' := 62) rfl ?_
          exact px_retN (t := .boolean) (z' := (1 : Int32)) S4 d12_62 rfl (by simp) rfl (by decide) (by decide) (⟨rfl, by show _ = some (Value.int (bI (ancR t x 4 y))); rw [← ref_anc hp0 4 y]; simp only [refR, bf (hi.ne hj hc5), bf (hi.ne cy1 hc6), bf (hi.ne cy2 hc7), bt (hi.eq cy3 hc8), cond_true, cond_false]; rfl⟩)
        · refine px_iloadN S4 d12_51 rfl rfl ?_
          refine px_iload S4 d12_52 rfl rfl ?_
          refine px_icmp S4 d12_54 (by decide) (pc' := 61) rfl rfl (fun (hc9 : ¬ i.toInt = y4.toInt) => ?_) (fun (hc9 : i.toInt = y4.toInt) => ?_)
          · refine px_iconst (v := (0 : Int32)) S4 d12_61 rfl rfl ?_
            exact px_retN (t := .boolean) (z' := (0 : Int32)) S4 d12_62 rfl (by simp) rfl (by decide) (by decide) (⟨rfl, by show _ = some (Value.int (bI (ancR t x 4 y))); rw [← ref_anc hp0 4 y]; simp only [refR, bf (hi.ne hj hc5), bf (hi.ne cy1 hc6), bf (hi.ne cy2 hc7), bf (hi.ne cy3 hc8), bf (hi.ne cy4 hc9), cond_true, cond_false]; rfl⟩)
          · refine px_iconst (v := (1 : Int32)) S4 d12_57 rfl rfl ?_
            refine px_goto S4 d12_58 (by decide) (pc' := 62) rfl ?_
            exact px_retN (t := .boolean) (z' := (1 : Int32)) S4 d12_62 rfl (by simp) rfl (by decide) (by decide) (⟨rfl, by show _ = some (Value.int (bI (ancR t x 4 y))); rw [← ref_anc hp0 4 y]; simp only [refR, bf (hi.ne hj hc5), bf (hi.ne cy1 hc6), bf (hi.ne cy2 hc7), bf (hi.ne cy3 hc8), bt (hi.eq cy4 hc9), cond_true, cond_false]; rfl⟩)
theorem pd_0_0 : parseMethodDescriptor "(I)V" = some ⟨[.int], none⟩ := by decide +kernel
theorem pd_0_1 : parseMethodDescriptor "(II)V" = some ⟨[.int, .int], none⟩ := by decide +kernel
theorem pd_0_2 : parseMethodDescriptor "(I)I" = some ⟨[.int], some .int⟩ := by decide +kernel
theorem pd_0_3 : parseMethodDescriptor "(II)Z" = some ⟨[.int, .int], some .boolean⟩ := by decide +kernel
theorem pd_0_4 : parseMethodDescriptor "([III)Z" = some ⟨[(.array .int), .int, .int], some .boolean⟩ := by decide +kernel
theorem pn_0 : plainFor x = true := plainFor_of_name (by first | (simp [plainName, overriddenIn]; done) | decide +kernel)
set_option maxRecDepth 65536 in
set_option maxHeartbeats 40000000 in
theorem law_ctr {Z : State} {a0 : Array Value} (hw : ∀ d ∈ tables_1, d.before a0 Z = true) (i0 i1 i2 i3 i4 i5 : Int32) {h0 : Heap} {n0 : Nat} (Z0 : n0 ≤ h0.size) :
    Ctr Z n0 x code maxLocals ret room_1 [(.int i0), (.int i1), (.int i2), (.int i3), (.int i4), (.int i5)] h0 (fun v h => v = some (.int 1)) := by
  refine Ctr.of (L := #[.val (.int i0), .val (.int i1), .val (.int i2), .val (.int i3), .val (.int i4), .val (.int i5), .unset, .unset, .unset, .unset, .unset, .unset, .unset, .unset, .unset, .unset, .unset, .unset, .unset, .unset, .unset, .unset, .unset]) pn_0 Z0 (fun m => by first | (simp [entryFrame, mkF, argsToLocals, Value.category, maxLocals]; done) | rfl) ?_
  intro K T S0
  refine px_iconst (v := (5 : Int32)) S0 at_0 rfl rfl ?_
  refine px_newarr (aty := .int) (cap := 5) S0 (hw _ (List.mem_of_getElem? (i := 0) rfl)) rfl (n := 5) rfl (by decide) (by decide) (by decide) (by decide) at_1 rfl (fun T1 h1 b1 z1 g_b1 S1 E1 A_b1 => ?_)
  refine px_astore S1 at_3 rfl rfl (L' := #[.val (.int i0), .val (.int i1), .val (.int i2), .val (.int i3), .val (.int i4), .val (.int i5), .val (.ref b1), .unset, .unset, .unset, .unset, .unset, .unset, .unset, .unset, .unset, .unset, .unset, .unset, .unset, .unset, .unset, .unset]) rfl ?_
  refine px_aload S1 at_5 rfl rfl rfl ?_
  refine px_iconst (v := (0 : Int32)) S1 at_7 rfl rfl ?_
  refine px_iconst (v := (-1 : Int32)) S1 at_8 rfl rfl ?_
  refine px_iastore (v := (-1 : Int32)) S1 A_b1 g_b1 (i := 0) rfl (by decide) rfl at_9 rfl (fun T2 h2 S2 W2 A_b1 => ?_)
  refine px_aload S2 at_10 rfl rfl rfl ?_
  refine px_iconst (v := (1 : Int32)) S2 at_12 rfl rfl ?_
  refine px_iconst (v := (0 : Int32)) S2 at_13 rfl rfl ?_
  refine px_iastore (v := (0 : Int32)) S2 A_b1 g_b1 (i := 1) rfl (by decide) rfl at_14 rfl (fun T3 h3 S3 W3 A_b1 => ?_)
  refine px_aload S3 at_15 rfl rfl rfl ?_
  refine px_iconst (v := (2 : Int32)) S3 at_17 rfl rfl ?_
  refine px_iloadN S3 at_18 rfl rfl ?_
  refine px_sipush (v := (255 : Int32)) S3 at_19 rfl rfl ?_
  refine px_iand S3 at_22 rfl ?_
  refine px_iconst (v := (2 : Int32)) S3 at_23 rfl rfl ?_
  refine px_irem S3 at_24 rfl (by decide) ?_
  refine px_iastore (v := ((i0 &&& (255 : Int32)) % (2 : Int32))) S3 A_b1 g_b1 (i := 2) rfl (by decide) rfl at_25 rfl (fun T4 h4 S4 W4 A_b1 => ?_)
  refine px_aload S4 at_26 rfl rfl rfl ?_
  refine px_iconst (v := (3 : Int32)) S4 at_28 rfl rfl ?_
  refine px_iloadN S4 at_29 rfl rfl ?_
  refine px_bipush (v := (8 : Int32)) S4 at_30 rfl rfl ?_
  refine px_iushr S4 at_32 rfl ?_
  refine px_sipush (v := (255 : Int32)) S4 at_33 rfl rfl ?_
  refine px_iand S4 at_36 rfl ?_
  refine px_iconst (v := (3 : Int32)) S4 at_37 rfl rfl ?_
  refine px_irem S4 at_38 rfl (by decide) ?_
  refine px_iastore (v := (((ushr i0 (8 : Int32)) &&& (255 : Int32)) % (3 : Int32))) S4 A_b1 g_b1 (i := 3) rfl (by decide) rfl at_39 rfl (fun T5 h5 S5 W5 A_b1 => ?_)
  refine px_aload S5 at_40 rfl rfl rfl ?_
  refine px_iconst (v := (4 : Int32)) S5 at_42 rfl rfl ?_
  refine px_iloadN S5 at_43 rfl rfl ?_
  refine px_bipush (v := (16 : Int32)) S5 at_44 rfl rfl ?_
  refine px_iushr S5 at_46 rfl ?_
  refine px_sipush (v := (255 : Int32)) S5 at_47 rfl rfl ?_
  refine px_iand S5 at_50 rfl ?_
  refine px_iconst (v := (4 : Int32)) S5 at_51 rfl rfl ?_
  refine px_irem S5 at_52 rfl (by decide) ?_
  refine px_iastore (v := (((ushr i0 (16 : Int32)) &&& (255 : Int32)) % (4 : Int32))) S5 A_b1 g_b1 (i := 4) rfl (by decide) rfl at_53 rfl (fun T6 h6 S6 W6 A_b1 => ?_)
  obtain ⟨a, ha, ea⟩ : ∃ k : Nat, k < 2 ∧ ((i0 &&& (255 : Int32)) % (2 : Int32)).toInt = (k : Int) := ⟨((i0 &&& (255 : Int32)) % (2 : Int32)).toInt.toNat, by have q0 := f_irem (i0 &&& (255 : Int32)) (2 : Int32) 2 rfl; have q1 := rng32 ((i0 &&& (255 : Int32)) % (2 : Int32)); have q2 := f_imask i0 (255 : Int32) 8 256 (by decide) (by decide) (by decide); have q3 := rng32 i0; have q4 := (show (255 : Int32).toInt = 255 from rfl); have q5 := (show (2 : Int32).toInt = 2 from rfl); omega, by have q0 := f_irem (i0 &&& (255 : Int32)) (2 : Int32) 2 rfl; have q1 := rng32 ((i0 &&& (255 : Int32)) % (2 : Int32)); have q2 := f_imask i0 (255 : Int32) 8 256 (by decide) (by decide) (by decide); have q3 := rng32 i0; have q4 := (show (255 : Int32).toInt = 255 from rfl); have q5 := (show (2 : Int32).toInt = 2 from rfl); omega⟩
  obtain ⟨b, hb, eb⟩ : ∃ k : Nat, k < 3 ∧ (((ushr i0 (8 : Int32)) &&& (255 : Int32)) % (3 : Int32)).toInt = (k : Int) := ⟨(((ushr i0 (8 : Int32)) &&& (255 : Int32)) % (3 : Int32)).toInt.toNat, by have q0 := f_irem ((ushr i0 (8 : Int32)) &&& (255 : Int32)) (3 : Int32) 3 rfl; have q1 := rng32 (((ushr i0 (8 : Int32)) &&& (255 : Int32)) % (3 : Int32)); have q2 := f_imask (ushr i0 (8 : Int32)) (255 : Int32) 8 256 (by decide) (by decide) (by decide); have q3 := f_iushr i0 (8 : Int32) 8 256 (by decide) (by decide) (by decide); have q4 := rng32 (ushr i0 (8 : Int32)); have q5 := rng32 i0; have q6 := (show (8 : Int32).toInt = 8 from rfl); have q7 := (show (255 : Int32).toInt = 255 from rfl); have q8 := (show (3 : Int32).toInt = 3 from rfl); omega, by have q0 := f_irem ((ushr i0 (8 : Int32)) &&& (255 : Int32)) (3 : Int32) 3 rfl; have q1 := rng32 (((ushr i0 (8 : Int32)) &&& (255 : Int32)) % (3 : Int32)); have q2 := f_imask (ushr i0 (8 : Int32)) (255 : Int32) 8 256 (by decide) (by decide) (by decide); have q3 := f_iushr i0 (8 : Int32) 8 256 (by decide) (by decide) (by decide); have q4 := rng32 (ushr i0 (8 : Int32)); have q5 := rng32 i0; have q6 := (show (8 : Int32).toInt = 8 from rfl); have q7 := (show (255 : Int32).toInt = 255 from rfl); have q8 := (show (3 : Int32).toInt = 3 from rfl); omega⟩
  obtain ⟨c, hc, ec⟩ : ∃ k : Nat, k < 4 ∧ (((ushr i0 (16 : Int32)) &&& (255 : Int32)) % (4 : Int32)).toInt = (k : Int) := ⟨(((ushr i0 (16 : Int32)) &&& (255 : Int32)) % (4 : Int32)).toInt.toNat, by have q0 := f_irem ((ushr i0 (16 : Int32)) &&& (255 : Int32)) (4 : Int32) 4 rfl; have q1 := rng32 (((ushr i0 (16 : Int32)) &&& (255 : Int32)) % (4 : Int32)); have q2 := f_imask (ushr i0 (16 : Int32)) (255 : Int32) 8 256 (by decide) (by decide) (by decide); have q3 := f_iushr i0 (16 : Int32) 16 65536 (by decide) (by decide) (by decide); have q4 := rng32 (ushr i0 (16 : Int32)); have q5 := rng32 i0; have q6 := (show (16 : Int32).toInt = 16 from rfl); have q7 := (show (255 : Int32).toInt = 255 from rfl); have q8 := (show (4 : Int32).toInt = 4 from rfl); omega, by have q0 := f_irem ((ushr i0 (16 : Int32)) &&& (255 : Int32)) (4 : Int32) 4 rfl; have q1 := rng32 (((ushr i0 (16 : Int32)) &&& (255 : Int32)) % (4 : Int32)); have q2 := f_imask (ushr i0 (16 : Int32)) (255 : Int32) 8 256 (by decide) (by decide) (by decide); have q3 := f_iushr i0 (16 : Int32) 16 65536 (by decide) (by decide) (by decide); have q4 := rng32 (ushr i0 (16 : Int32)); have q5 := rng32 i0; have q6 := (show (16 : Int32).toInt = 16 from rfl); have q7 := (show (255 : Int32).toInt = 255 from rfl); have q8 := (show (4 : Int32).toInt = 4 from rfl); omega⟩
  obtain ⟨t0, t1, t2, t3, t4⟩ := parM_tree ha hb hc
  have hG := Gd.init ha hb hc
  generalize treeM a b c = tr at *
  obtain ⟨g, A_p, hg⟩ := AI.abs A_b1 (P := fun g => ∀ i, i < 5 → (g i).toInt = (nxt tr (i + 1) : Int) - 1) (lt5 rfl (by rw [nxt_par (by decide), t1]; rfl) (by rw [nxt_par (by decide), t2]; exact ea.trans (by omega)) (by rw [nxt_par (by decide), t3]; exact eb.trans (by omega)) (by rw [nxt_par (by decide), t4]; exact ec.trans (by omega)))
  refine px_new S6 (hw _ (List.mem_of_getElem? (i := 1) rfl)) (hw _ (List.mem_of_getElem? (i := 2) rfl)) (hw _ (List.mem_of_getElem? (i := 3) rfl)) (by decide) (by decide) at_54 rfl (fun T7 h7 b7 z7 g_b7 S7 E7 X_b7 D7 => ?_)
  have ne_b1_b7 : b1 ≠ b7 := ne_new z7 A_p.lt
  replace A_p := A_p.ext E7
  have F_left_b7 : Fld Z h7 b7 "com/example/rostra/rostra/tree/Ancestry" "left" "[I" .null := D7 (Or.inr (hw _ (List.mem_of_getElem? (i := 11) rfl))) (ty := (.array .int)) (by decide)
  have F_right_b7 : Fld Z h7 b7 "com/example/rostra/rostra/tree/Ancestry" "right" "[I" .null := D7 (Or.inr (hw _ (List.mem_of_getElem? (i := 13) rfl))) (ty := (.array .int)) (by decide)
  have F_up_b7 : Fld Z h7 b7 "com/example/rostra/rostra/tree/Ancestry" "up" "[I" .null := D7 (Or.inr (hw _ (List.mem_of_getElem? (i := 15) rfl))) (ty := (.array .int)) (by decide)
  refine px_dup S7 at_57 rfl rfl ?_
  refine px_iconst (v := (5 : Int32)) S7 at_58 rfl rfl ?_
  have lt_p := A_p.lt
  refine px_callC (as' := [(.int (5 : Int32))]) (st := [(.ref b7)]) (W := 1) S7 (c_init hw S7.size g_b7 X_b7 F_left_b7 F_right_b7 F_up_b7) rfl (hw _ (List.mem_of_getElem? (i := 4) rfl)) (hw _ (List.mem_of_getElem? (i := 5) rfl)) (hw _ (List.mem_of_getElem? (i := 3) rfl)) (hw _ (List.mem_of_getElem? (i := 6) rfl)) (by decide) pd_0_0 rfl rfl (by decide) rfl (by decide) (by decide) (by decide) at_59 rfl rfl (fun T8 h8 v8 S8 q8 => ?_)
  obtain ⟨rfl, K8, l, r, u, ⟨z_l, z_r, z_u⟩, ⟨⟨g_l, g_r, g_u⟩, n_tl, n_tr, n_tu, n_lr, n_lu, n_ru⟩, ⟨X_t, F_left_t, F_right_t, F_up_t⟩, A_l, A_r, A_u⟩ := q8
  replace A_p := A_p.keep K8 (ninS ne_b1_b7 nin0)
  have n_b1l : b1 ≠ l := Nat.ne_of_lt (Nat.lt_of_lt_of_le lt_p z_l)
  have n_b1r : b1 ≠ r := Nat.ne_of_lt (Nat.lt_of_lt_of_le lt_p z_r)
  have n_b1u : b1 ≠ u := Nat.ne_of_lt (Nat.lt_of_lt_of_le lt_p z_u)
  show Go _ _ _ _ _ _ _ [(.ref b7)]
  refine px_astore S8 at_62 rfl rfl (L' := #[.val (.int i0), .val (.int i1), .val (.int i2), .val (.int i3), .val (.int i4), .val (.int i5), .val (.ref b1), .val (.ref b7), .unset, .unset, .unset, .unset, .unset, .unset, .unset, .unset, .unset, .unset, .unset, .unset, .unset, .unset, .unset]) rfl ?_
  refine px_aload S8 at_64 rfl rfl rfl ?_
  refine px_iconst (v := (1 : Int32)) S8 at_66 rfl rfl ?_
  refine px_aload S8 at_67 rfl rfl rfl ?_
  refine px_iconst (v := (1 : Int32)) S8 at_69 rfl rfl ?_
  refine px_iaload (v := (g 1)) S8 A_p (i := 1) (Cd.of (v := (1 : Int32)) (k := 1) rfl (by decide)).ix (Cd.of (v := (1 : Int32)) (k := 1) rfl (by decide)).lt rfl at_70 rfl ?_
  refine px_callV (Cn := "com/example/rostra/rostra/tree/Ancestry") (as' := [(.int (1 : Int32)), (.int (g 1))]) (st := []) (W := 0) S8 (c_add (L := 0) (R := 0) (U := 0) (x := 1) (q := (parM tr 1 + 1)) hw S8.size ⟨⟨g_l, g_r, g_u⟩, n_tl, n_tr, n_tu, n_lr, n_lu, n_ru⟩ ⟨X_t, F_left_t, F_right_t, F_up_t⟩ ⟨A_l, A_r, A_u⟩ (Cd.of (v := (1 : Int32)) (k := 1) rfl (by decide)) (show Cd (g 1) (parM tr 1 + 1) from nxt_cd hg (k := 1) ((Cd.of (v := (1 : Int32)) (k := 1) rfl (by decide)).lt))) X_t (hw _ (List.mem_of_getElem? (i := 20) rfl)) (hw _ (List.mem_of_getElem? (i := 21) rfl)) (hw _ (List.mem_of_getElem? (i := 23) rfl)) (hw _ (List.mem_of_getElem? (i := 22) rfl)) (hw _ (List.mem_of_getElem? (i := 3) rfl)) (hw _ (List.mem_of_getElem? (i := 24) rfl)) (S8.nf (hw _ (List.mem_of_getElem? (i := 23) rfl))) (by decide) pd_0_1 rfl rfl (by decide) rfl (by decide) (by decide) (by decide) at_71 rfl rfl (fun T9 h9 v9 S9 q9 => ?_)
  obtain ⟨rfl, K9, ⟨X_t, F_left_t, F_right_t, F_up_t⟩, A_l, A_r, A_u⟩ := q9
  replace A_p := A_p.keep K9 (ninS n_b1l (ninS n_b1r (ninS n_b1u nin0)))
  show Go _ _ _ _ _ _ _ []
  refine px_aload S9 at_74 rfl rfl rfl ?_
  refine px_iconst (v := (2 : Int32)) S9 at_76 rfl rfl ?_
  refine px_aload S9 at_77 rfl rfl rfl ?_
  refine px_iconst (v := (2 : Int32)) S9 at_79 rfl rfl ?_
  refine px_iaload (v := (g 2)) S9 A_p (i := 2) (Cd.of (v := (2 : Int32)) (k := 2) rfl (by decide)).ix (Cd.of (v := (2 : Int32)) (k := 2) rfl (by decide)).lt rfl at_80 rfl ?_
  refine px_callV (Cn := "com/example/rostra/rostra/tree/Ancestry") (as' := [(.int (2 : Int32)), (.int (g 2))]) (st := []) (W := 0) S9 (c_add (L := 0) (R := 0) (U := (sC 0 1 (parM tr 1 + 1))) (x := 2) (q := (parM tr 2 + 1)) hw S9.size ⟨⟨g_l, g_r, g_u⟩, n_tl, n_tr, n_tu, n_lr, n_lu, n_ru⟩ ⟨X_t, F_left_t, F_right_t, F_up_t⟩ ⟨A_l, A_r, A_u⟩ (Cd.of (v := (2 : Int32)) (k := 2) rfl (by decide)) (show Cd (g 2) (parM tr 2 + 1) from nxt_cd hg (k := 2) ((Cd.of (v := (2 : Int32)) (k := 2) rfl (by decide)).lt))) X_t (hw _ (List.mem_of_getElem? (i := 20) rfl)) (hw _ (List.mem_of_getElem? (i := 21) rfl)) (hw _ (List.mem_of_getElem? (i := 23) rfl)) (hw _ (List.mem_of_getElem? (i := 22) rfl)) (hw _ (List.mem_of_getElem? (i := 3) rfl)) (hw _ (List.mem_of_getElem? (i := 24) rfl)) (S9.nf (hw _ (List.mem_of_getElem? (i := 23) rfl))) (by decide) pd_0_1 rfl rfl (by decide) rfl (by decide) (by decide) (by decide) at_81 rfl rfl (fun T10 h10 v10 S10 q10 => ?_)
  obtain ⟨rfl, K10, ⟨X_t, F_left_t, F_right_t, F_up_t⟩, A_l, A_r, A_u⟩ := q10
  replace A_p := A_p.keep K10 (ninS n_b1l (ninS n_b1r (ninS n_b1u nin0)))
  show Go _ _ _ _ _ _ _ []
  refine px_aload S10 at_84 rfl rfl rfl ?_
  refine px_iconst (v := (3 : Int32)) S10 at_86 rfl rfl ?_
  refine px_aload S10 at_87 rfl rfl rfl ?_
  refine px_iconst (v := (3 : Int32)) S10 at_89 rfl rfl ?_
  refine px_iaload (v := (g 3)) S10 A_p (i := 3) (Cd.of (v := (3 : Int32)) (k := 3) rfl (by decide)).ix (Cd.of (v := (3 : Int32)) (k := 3) rfl (by decide)).lt rfl at_90 rfl ?_
  refine px_callV (Cn := "com/example/rostra/rostra/tree/Ancestry") (as' := [(.int (3 : Int32)), (.int (g 3))]) (st := []) (W := 0) S10 (c_add (L := 0) (R := 0) (U := (sC (sC 0 1 (parM tr 1 + 1)) 2 (parM tr 2 + 1))) (x := 3) (q := (parM tr 3 + 1)) hw S10.size ⟨⟨g_l, g_r, g_u⟩, n_tl, n_tr, n_tu, n_lr, n_lu, n_ru⟩ ⟨X_t, F_left_t, F_right_t, F_up_t⟩ ⟨A_l, A_r, A_u⟩ (Cd.of (v := (3 : Int32)) (k := 3) rfl (by decide)) (show Cd (g 3) (parM tr 3 + 1) from nxt_cd hg (k := 3) ((Cd.of (v := (3 : Int32)) (k := 3) rfl (by decide)).lt))) X_t (hw _ (List.mem_of_getElem? (i := 20) rfl)) (hw _ (List.mem_of_getElem? (i := 21) rfl)) (hw _ (List.mem_of_getElem? (i := 23) rfl)) (hw _ (List.mem_of_getElem? (i := 22) rfl)) (hw _ (List.mem_of_getElem? (i := 3) rfl)) (hw _ (List.mem_of_getElem? (i := 24) rfl)) (S10.nf (hw _ (List.mem_of_getElem? (i := 23) rfl))) (by decide) pd_0_1 rfl rfl (by decide) rfl (by decide) (by decide) (by decide) at_91 rfl rfl (fun T11 h11 v11 S11 q11 => ?_)
  obtain ⟨rfl, K11, ⟨X_t, F_left_t, F_right_t, F_up_t⟩, A_l, A_r, A_u⟩ := q11
  replace A_p := A_p.keep K11 (ninS n_b1l (ninS n_b1r (ninS n_b1u nin0)))
  show Go _ _ _ _ _ _ _ []
  refine px_aload S11 at_94 rfl rfl rfl ?_
  refine px_iconst (v := (4 : Int32)) S11 at_96 rfl rfl ?_
  refine px_aload S11 at_97 rfl rfl rfl ?_
  refine px_iconst (v := (4 : Int32)) S11 at_99 rfl rfl ?_
  refine px_iaload (v := (g 4)) S11 A_p (i := 4) (Cd.of (v := (4 : Int32)) (k := 4) rfl (by decide)).ix (Cd.of (v := (4 : Int32)) (k := 4) rfl (by decide)).lt rfl at_100 rfl ?_
  refine px_callV (Cn := "com/example/rostra/rostra/tree/Ancestry") (as' := [(.int (4 : Int32)), (.int (g 4))]) (st := []) (W := 0) S11 (c_add (L := 0) (R := 0) (U := (sC (sC (sC 0 1 (parM tr 1 + 1)) 2 (parM tr 2 + 1)) 3 (parM tr 3 + 1))) (x := 4) (q := (parM tr 4 + 1)) hw S11.size ⟨⟨g_l, g_r, g_u⟩, n_tl, n_tr, n_tu, n_lr, n_lu, n_ru⟩ ⟨X_t, F_left_t, F_right_t, F_up_t⟩ ⟨A_l, A_r, A_u⟩ (Cd.of (v := (4 : Int32)) (k := 4) rfl (by decide)) (show Cd (g 4) (parM tr 4 + 1) from nxt_cd hg (k := 4) ((Cd.of (v := (4 : Int32)) (k := 4) rfl (by decide)).lt))) X_t (hw _ (List.mem_of_getElem? (i := 20) rfl)) (hw _ (List.mem_of_getElem? (i := 21) rfl)) (hw _ (List.mem_of_getElem? (i := 23) rfl)) (hw _ (List.mem_of_getElem? (i := 22) rfl)) (hw _ (List.mem_of_getElem? (i := 3) rfl)) (hw _ (List.mem_of_getElem? (i := 24) rfl)) (S11.nf (hw _ (List.mem_of_getElem? (i := 23) rfl))) (by decide) pd_0_1 rfl rfl (by decide) rfl (by decide) (by decide) (by decide) at_101 rfl rfl (fun T12 h12 v12 S12 q12 => ?_)
  obtain ⟨rfl, K12, ⟨X_t, F_left_t, F_right_t, F_up_t⟩, A_l, A_r, A_u⟩ := q12
  replace A_p := A_p.keep K12 (ninS n_b1l (ninS n_b1r (ninS n_b1u nin0)))
  replace hG : Gd G1 tr 0 0 (sC (sC (sC (sC 0 1 (parM tr 1 + 1)) 2 (parM tr 2 + 1)) 3 (parM tr 3 + 1)) 4 (parM tr 4 + 1)) := hG
  show Go _ _ _ _ _ _ _ []
  refine px_iconst (v := (1 : Int32)) S12 at_104 rfl rfl ?_
  refine px_istore S12 at_105 rfl (L' := #[.val (.int i0), .val (.int i1), .val (.int i2), .val (.int i3), .val (.int i4), .val (.int i5), .val (.ref b1), .val (.ref b7), .val (.int (1 : Int32)), .unset, .unset, .unset, .unset, .unset, .unset, .unset, .unset, .unset, .unset, .unset, .unset, .unset, .unset]) rfl ?_
  refine px_iloadN S12 at_107 rfl rfl ?_
  refine px_callS (as' := [(.int i1)]) (st := []) (W := 0) S12 (c_first hw S12.size) (hw _ (List.mem_of_getElem? (i := 25) rfl)) (hw _ (List.mem_of_getElem? (i := 26) rfl)) (hw _ (List.mem_of_getElem? (i := 27) rfl)) (hw _ (List.mem_of_getElem? (i := 28) rfl)) (by decide) pd_0_2 rfl rfl (by decide) rfl (by decide) (by decide) (by decide) at_108 rfl rfl (fun T13 h13 v13 S13 q13 => ?_)
  obtain ⟨rfl, z13, rfl, l_z13⟩ := q13
  obtain ⟨p13, hp13, ep13⟩ : ∃ k : Nat, k < 5 ∧ z13.toInt = (k : Int) := ⟨z13.toInt.toNat, by omega, by omega⟩
  have cp13 : Cd z13 (p13 + 1) := Cd.of ep13 hp13
  show Go _ _ _ _ _ _ _ [(.int z13)]
  refine px_istore S13 at_111 rfl (L' := #[.val (.int i0), .val (.int i1), .val (.int i2), .val (.int i3), .val (.int i4), .val (.int i5), .val (.ref b1), .val (.ref b7), .val (.int (1 : Int32)), .val (.int z13), .unset, .unset, .unset, .unset, .unset, .unset, .unset, .unset, .unset, .unset, .unset, .unset, .unset]) rfl ?_
  refine px_iloadN S13 at_113 rfl rfl ?_
  refine px_callS (as' := [(.int i1)]) (st := []) (W := 0) S13 (c_second hw S13.size) (hw _ (List.mem_of_getElem? (i := 29) rfl)) (hw _ (List.mem_of_getElem? (i := 30) rfl)) (hw _ (List.mem_of_getElem? (i := 27) rfl)) (hw _ (List.mem_of_getElem? (i := 31) rfl)) (by decide) pd_0_2 rfl rfl (by decide) rfl (by decide) (by decide) (by decide) at_114 rfl rfl (fun T14 h14 v14 S14 q14 => ?_)
  obtain ⟨rfl, z14, rfl, l_z14⟩ := q14
  obtain ⟨p14, hp14, ep14⟩ : ∃ k : Nat, k < 5 ∧ z14.toInt = (k : Int) := ⟨z14.toInt.toNat, by omega, by omega⟩
  have cp14 : Cd z14 (p14 + 1) := Cd.of ep14 hp14
  show Go _ _ _ _ _ _ _ [(.int z14)]
  refine px_istore S14 at_117 rfl (L' := #[.val (.int i0), .val (.int i1), .val (.int i2), .val (.int i3), .val (.int i4), .val (.int i5), .val (.ref b1), .val (.ref b7), .val (.int (1 : Int32)), .val (.int z13), .val (.int z14), .unset, .unset, .unset, .unset, .unset, .unset, .unset, .unset, .unset, .unset, .unset, .unset]) rfl ?_
  refine px_aload S14 at_119 rfl rfl rfl ?_
  refine px_iload S14 at_121 rfl rfl ?_
  refine px_iload S14 at_123 rfl rfl ?_
  obtain ⟨L1_15, R1_15, U1_15, c1_15, L2_15, R2_15, U2_15, c2_15, e1_15, e2_15, hG_, eq_15⟩ := hG.query ok1 cp13.lt cp14.lt
  refine px_callV (Cn := "com/example/rostra/rostra/tree/Ancestry") (as' := [(.int z13), (.int z14)]) (st := []) (W := 0) S14 (c_isa (L := 0) (R := 0) (U := (sC (sC (sC (sC 0 1 (parM tr 1 + 1)) 2 (parM tr 2 + 1)) 3 (parM tr 3 + 1)) 4 (parM tr 4 + 1))) (x := p13) (y := p14) hw S14.size ⟨⟨g_l, g_r, g_u⟩, n_tl, n_tr, n_tu, n_lr, n_lu, n_ru⟩ ⟨X_t, F_left_t, F_right_t, F_up_t⟩ ⟨A_l, A_r, A_u⟩ cp13 cp14 e1_15 e2_15) X_t (hw _ (List.mem_of_getElem? (i := 32) rfl)) (hw _ (List.mem_of_getElem? (i := 33) rfl)) (hw _ (List.mem_of_getElem? (i := 35) rfl)) (hw _ (List.mem_of_getElem? (i := 34) rfl)) (hw _ (List.mem_of_getElem? (i := 3) rfl)) (hw _ (List.mem_of_getElem? (i := 36) rfl)) (S14.nf (hw _ (List.mem_of_getElem? (i := 35) rfl))) (by decide) pd_0_3 rfl rfl (by decide) rfl (by decide) (by decide) (by decide) at_125 rfl rfl (fun T16 h16 v16 S16 q16 => ?_)
  obtain ⟨r_16, K16, ⟨X_t, F_left_t, F_right_t, F_up_t⟩, A_l, A_r, A_u⟩ := q16
  replace A_p := A_p.keep K16 (ninS n_b1l (ninS n_b1r (ninS n_b1u nin0)))
  clear hG; have hG := hG_; clear hG_
  rw [eq_15] at r_16
  obtain rfl := r_16
  show Go _ _ _ _ _ _ _ [(.int (bI (ancM tr p13 p14)))]
  refine px_istore S16 at_128 rfl (L' := #[.val (.int i0), .val (.int i1), .val (.int i2), .val (.int i3), .val (.int i4), .val (.int i5), .val (.ref b1), .val (.ref b7), .val (.int (1 : Int32)), .val (.int z13), .val (.int z14), .val (.int (bI (ancM tr p13 p14))), .unset, .unset, .unset, .unset, .unset, .unset, .unset, .unset, .unset, .unset, .unset]) rfl ?_
  refine px_iload S16 at_130 rfl rfl ?_
  refine px_if0 S16 at_132 (by decide) (pc' := 153) rfl rfl (fun (hc17 : (1 : Int32).toInt = 0) => by exfalso; revert hc17; decide) (fun (hc17 : ¬ (1 : Int32).toInt = 0) => ?_)
  refine px_iload S16 at_135 rfl rfl ?_
  refine px_aload S16 at_137 rfl rfl rfl ?_
  refine px_iload S16 at_139 rfl rfl ?_
  refine px_iload S16 at_141 rfl rfl ?_
  refine px_callS (as' := [(.ref b1), (.int z13), (.int z14)]) (st := [(.int (bI (ancM tr p13 p14)))]) (W := 1) S16 (c_ref (t := tr) hw S16.size A_p hg cp13 cp14 t0) (hw _ (List.mem_of_getElem? (i := 53) rfl)) (hw _ (List.mem_of_getElem? (i := 54) rfl)) (hw _ (List.mem_of_getElem? (i := 27) rfl)) (hw _ (List.mem_of_getElem? (i := 55) rfl)) (by decide) pd_0_4 rfl rfl (by decide) rfl (by decide) (by decide) (by decide) at_143 rfl rfl (fun T18 h18 v18 S18 q18 => ?_)
  obtain ⟨rfl, q18⟩ := q18
  obtain rfl := q18
  show Go _ _ _ _ _ _ _ [(.int (bI (ancM tr p13 p14))), (.int (bI (ancM tr p13 p14)))]
  refine px_icmp S18 at_146 (by decide) (pc' := 153) rfl rfl (fun (hc19 : ¬ (bI (ancM tr p13 p14)).toInt = (bI (ancM tr p13 p14)).toInt) => absurd rfl hc19) (fun (hc19 : (bI (ancM tr p13 p14)).toInt = (bI (ancM tr p13 p14)).toInt) => ?_)
  refine px_iconst (v := (1 : Int32)) S18 at_149 rfl rfl ?_
  refine px_goto S18 at_150 (by decide) (pc' := 154) rfl ?_
  refine px_istore S18 at_154 rfl (L' := #[.val (.int i0), .val (.int i1), .val (.int i2), .val (.int i3), .val (.int i4), .val (.int i5), .val (.ref b1), .val (.ref b7), .val (.int (1 : Int32)), .val (.int z13), .val (.int z14), .val (.int (bI (ancM tr p13 p14))), .unset, .unset, .unset, .unset, .unset, .unset, .unset, .unset, .unset, .unset, .unset]) rfl ?_
  refine px_iloadN S18 at_156 rfl rfl ?_
  refine px_callS (as' := [(.int i2)]) (st := []) (W := 0) S18 (c_first hw S18.size) (hw _ (List.mem_of_getElem? (i := 25) rfl)) (hw _ (List.mem_of_getElem? (i := 26) rfl)) (hw _ (List.mem_of_getElem? (i := 27) rfl)) (hw _ (List.mem_of_getElem? (i := 28) rfl)) (by decide) pd_0_2 rfl rfl (by decide) rfl (by decide) (by decide) (by decide) at_157 rfl rfl (fun T20 h20 v20 S20 q20 => ?_)
  obtain ⟨rfl, z20, rfl, l_z20⟩ := q20
  obtain ⟨p20, hp20, ep20⟩ : ∃ k : Nat, k < 5 ∧ z20.toInt = (k : Int) := ⟨z20.toInt.toNat, by omega, by omega⟩
  have cp20 : Cd z20 (p20 + 1) := Cd.of ep20 hp20
  show Go _ _ _ _ _ _ _ [(.int z20)]
  refine px_istore S20 at_160 rfl (L' := #[.val (.int i0), .val (.int i1), .val (.int i2), .val (.int i3), .val (.int i4), .val (.int i5), .val (.ref b1), .val (.ref b7), .val (.int (1 : Int32)), .val (.int z13), .val (.int z14), .val (.int (bI (ancM tr p13 p14))), .val (.int z20), .unset, .unset, .unset, .unset, .unset, .unset, .unset, .unset, .unset, .unset]) rfl ?_
  refine px_iloadN S20 at_162 rfl rfl ?_
  refine px_callS (as' := [(.int i2)]) (st := []) (W := 0) S20 (c_second hw S20.size) (hw _ (List.mem_of_getElem? (i := 29) rfl)) (hw _ (List.mem_of_getElem? (i := 30) rfl)) (hw _ (List.mem_of_getElem? (i := 27) rfl)) (hw _ (List.mem_of_getElem? (i := 31) rfl)) (by decide) pd_0_2 rfl rfl (by decide) rfl (by decide) (by decide) (by decide) at_163 rfl rfl (fun T21 h21 v21 S21 q21 => ?_)
  obtain ⟨rfl, z21, rfl, l_z21⟩ := q21
  obtain ⟨p21, hp21, ep21⟩ : ∃ k : Nat, k < 5 ∧ z21.toInt = (k : Int) := ⟨z21.toInt.toNat, by omega, by omega⟩
  have cp21 : Cd z21 (p21 + 1) := Cd.of ep21 hp21
  show Go _ _ _ _ _ _ _ [(.int z21)]
  refine px_istore S21 at_166 rfl (L' := #[.val (.int i0), .val (.int i1), .val (.int i2), .val (.int i3), .val (.int i4), .val (.int i5), .val (.ref b1), .val (.ref b7), .val (.int (1 : Int32)), .val (.int z13), .val (.int z14), .val (.int (bI (ancM tr p13 p14))), .val (.int z20), .val (.int z21), .unset, .unset, .unset, .unset, .unset, .unset, .unset, .unset, .unset]) rfl ?_
  refine px_aload S21 at_168 rfl rfl rfl ?_
  refine px_iload S21 at_170 rfl rfl ?_
  refine px_iload S21 at_172 rfl rfl ?_
  obtain ⟨L1_22, R1_22, U1_22, c1_22, L2_22, R2_22, U2_22, c2_22, e1_22, e2_22, hG_, eq_22⟩ := hG.query ok1 cp20.lt cp21.lt
  refine px_callV (Cn := "com/example/rostra/rostra/tree/Ancestry") (as' := [(.int z20), (.int z21)]) (st := []) (W := 0) S21 (c_isa (L := L2_15) (R := R2_15) (U := U2_15) (x := p20) (y := p21) hw S21.size ⟨⟨g_l, g_r, g_u⟩, n_tl, n_tr, n_tu, n_lr, n_lu, n_ru⟩ ⟨X_t, F_left_t, F_right_t, F_up_t⟩ ⟨A_l, A_r, A_u⟩ cp20 cp21 e1_22 e2_22) X_t (hw _ (List.mem_of_getElem? (i := 32) rfl)) (hw _ (List.mem_of_getElem? (i := 33) rfl)) (hw _ (List.mem_of_getElem? (i := 35) rfl)) (hw _ (List.mem_of_getElem? (i := 34) rfl)) (hw _ (List.mem_of_getElem? (i := 3) rfl)) (hw _ (List.mem_of_getElem? (i := 36) rfl)) (S21.nf (hw _ (List.mem_of_getElem? (i := 35) rfl))) (by decide) pd_0_3 rfl rfl (by decide) rfl (by decide) (by decide) (by decide) at_174 rfl rfl (fun T23 h23 v23 S23 q23 => ?_)
  obtain ⟨r_23, K23, ⟨X_t, F_left_t, F_right_t, F_up_t⟩, A_l, A_r, A_u⟩ := q23
  replace A_p := A_p.keep K23 (ninS n_b1l (ninS n_b1r (ninS n_b1u nin0)))
  clear hG; have hG := hG_; clear hG_
  rw [eq_22] at r_23
  obtain rfl := r_23
  show Go _ _ _ _ _ _ _ [(.int (bI (ancM tr p20 p21)))]
  refine px_istore S23 at_177 rfl (L' := #[.val (.int i0), .val (.int i1), .val (.int i2), .val (.int i3), .val (.int i4), .val (.int i5), .val (.ref b1), .val (.ref b7), .val (.int (1 : Int32)), .val (.int z13), .val (.int z14), .val (.int (bI (ancM tr p13 p14))), .val (.int z20), .val (.int z21), .val (.int (bI (ancM tr p20 p21))), .unset, .unset, .unset, .unset, .unset, .unset, .unset, .unset]) rfl ?_
  refine px_iload S23 at_179 rfl rfl ?_
  refine px_if0 S23 at_181 (by decide) (pc' := 202) rfl rfl (fun (hc24 : (1 : Int32).toInt = 0) => by exfalso; revert hc24; decide) (fun (hc24 : ¬ (1 : Int32).toInt = 0) => ?_)
  refine px_iload S23 at_184 rfl rfl ?_
  refine px_aload S23 at_186 rfl rfl rfl ?_
  refine px_iload S23 at_188 rfl rfl ?_
  refine px_iload S23 at_190 rfl rfl ?_
  refine px_callS (as' := [(.ref b1), (.int z20), (.int z21)]) (st := [(.int (bI (ancM tr p20 p21)))]) (W := 1) S23 (c_ref (t := tr) hw S23.size A_p hg cp20 cp21 t0) (hw _ (List.mem_of_getElem? (i := 53) rfl)) (hw _ (List.mem_of_getElem? (i := 54) rfl)) (hw _ (List.mem_of_getElem? (i := 27) rfl)) (hw _ (List.mem_of_getElem? (i := 55) rfl)) (by decide) pd_0_4 rfl rfl (by decide) rfl (by decide) (by decide) (by decide) at_192 rfl rfl (fun T25 h25 v25 S25 q25 => ?_)
  obtain ⟨rfl, q25⟩ := q25
  obtain rfl := q25
  show Go _ _ _ _ _ _ _ [(.int (bI (ancM tr p20 p21))), (.int (bI (ancM tr p20 p21)))]
  refine px_icmp S25 at_195 (by decide) (pc' := 202) rfl rfl (fun (hc26 : ¬ (bI (ancM tr p20 p21)).toInt = (bI (ancM tr p20 p21)).toInt) => absurd rfl hc26) (fun (hc26 : (bI (ancM tr p20 p21)).toInt = (bI (ancM tr p20 p21)).toInt) => ?_)
  refine px_iconst (v := (1 : Int32)) S25 at_198 rfl rfl ?_
  refine px_goto S25 at_199 (by decide) (pc' := 203) rfl ?_
  refine px_istore S25 at_203 rfl (L' := #[.val (.int i0), .val (.int i1), .val (.int i2), .val (.int i3), .val (.int i4), .val (.int i5), .val (.ref b1), .val (.ref b7), .val (.int (1 : Int32)), .val (.int z13), .val (.int z14), .val (.int (bI (ancM tr p13 p14))), .val (.int z20), .val (.int z21), .val (.int (bI (ancM tr p20 p21))), .unset, .unset, .unset, .unset, .unset, .unset, .unset, .unset]) rfl ?_
  refine px_iconst (v := (1 : Int32)) S25 at_205 rfl rfl ?_
  refine px_iloadN S25 at_206 rfl rfl ?_
  refine px_sipush (v := (255 : Int32)) S25 at_207 rfl rfl ?_
  refine px_iand S25 at_210 rfl ?_
  refine px_iconst (v := (4 : Int32)) S25 at_211 rfl rfl ?_
  refine px_irem S25 at_212 rfl (by decide) ?_
  refine px_iadd S25 at_213 rfl ?_
  generalize h_v27 : ((1 : Int32) + ((i3 &&& (255 : Int32)) % (4 : Int32))) = v27
  refine px_istore S25 at_214 rfl (L' := #[.val (.int i0), .val (.int i1), .val (.int i2), .val (.int i3), .val (.int i4), .val (.int i5), .val (.ref b1), .val (.ref b7), .val (.int (1 : Int32)), .val (.int z13), .val (.int z14), .val (.int (bI (ancM tr p13 p14))), .val (.int z20), .val (.int z21), .val (.int (bI (ancM tr p20 p21))), .val (.int v27), .unset, .unset, .unset, .unset, .unset, .unset, .unset]) rfl ?_
  refine px_iloadN S25 at_216 rfl rfl ?_
  refine px_bipush (v := (8 : Int32)) S25 at_217 rfl rfl ?_
  refine px_iushr S25 at_219 rfl ?_
  refine px_sipush (v := (255 : Int32)) S25 at_220 rfl rfl ?_
  refine px_iand S25 at_223 rfl ?_
  refine px_iconst (v := (5 : Int32)) S25 at_224 rfl rfl ?_
  refine px_irem S25 at_225 rfl (by decide) ?_
  generalize h_v28 : (((ushr i3 (8 : Int32)) &&& (255 : Int32)) % (5 : Int32)) = v28
  refine px_istore S25 at_226 rfl (L' := #[.val (.int i0), .val (.int i1), .val (.int i2), .val (.int i3), .val (.int i4), .val (.int i5), .val (.ref b1), .val (.ref b7), .val (.int (1 : Int32)), .val (.int z13), .val (.int z14), .val (.int (bI (ancM tr p13 p14))), .val (.int z20), .val (.int z21), .val (.int (bI (ancM tr p20 p21))), .val (.int v27), .val (.int v28), .unset, .unset, .unset, .unset, .unset, .unset]) rfl ?_
  obtain ⟨p29, lp29, hp29, ep29⟩ : ∃ k : Nat, 1 ≤ k ∧ k < 5 ∧ v27.toInt = (k : Int) := ⟨v27.toInt.toNat, by have q0 := rng32 v27; have q1 := congrArg Int32.toInt h_v27; have q2 := c_iadd (1 : Int32) ((i3 &&& (255 : Int32)) % (4 : Int32)); have q3 := rng32 ((1 : Int32) + ((i3 &&& (255 : Int32)) % (4 : Int32))); have q4 := (show (1 : Int32).toInt = 1 from rfl); have q5 := f_irem (i3 &&& (255 : Int32)) (4 : Int32) 4 rfl; have q6 := rng32 ((i3 &&& (255 : Int32)) % (4 : Int32)); have q7 := f_imask i3 (255 : Int32) 8 256 (by decide) (by decide) (by decide); have q8 := rng32 i3; have q9 := (show (255 : Int32).toInt = 255 from rfl); have q10 := (show (4 : Int32).toInt = 4 from rfl); have q11 := rng32 (bI (ancM tr p13 p14)); have q12 := rng32 (bI (ancM tr p20 p21)); omega, by have q0 := rng32 v27; have q1 := congrArg Int32.toInt h_v27; have q2 := c_iadd (1 : Int32) ((i3 &&& (255 : Int32)) % (4 : Int32)); have q3 := rng32 ((1 : Int32) + ((i3 &&& (255 : Int32)) % (4 : Int32))); have q4 := (show (1 : Int32).toInt = 1 from rfl); have q5 := f_irem (i3 &&& (255 : Int32)) (4 : Int32) 4 rfl; have q6 := rng32 ((i3 &&& (255 : Int32)) % (4 : Int32)); have q7 := f_imask i3 (255 : Int32) 8 256 (by decide) (by decide) (by decide); have q8 := rng32 i3; have q9 := (show (255 : Int32).toInt = 255 from rfl); have q10 := (show (4 : Int32).toInt = 4 from rfl); have q11 := rng32 (bI (ancM tr p13 p14)); have q12 := rng32 (bI (ancM tr p20 p21)); omega, by have q0 := rng32 v27; have q1 := congrArg Int32.toInt h_v27; have q2 := c_iadd (1 : Int32) ((i3 &&& (255 : Int32)) % (4 : Int32)); have q3 := rng32 ((1 : Int32) + ((i3 &&& (255 : Int32)) % (4 : Int32))); have q4 := (show (1 : Int32).toInt = 1 from rfl); have q5 := f_irem (i3 &&& (255 : Int32)) (4 : Int32) 4 rfl; have q6 := rng32 ((i3 &&& (255 : Int32)) % (4 : Int32)); have q7 := f_imask i3 (255 : Int32) 8 256 (by decide) (by decide) (by decide); have q8 := rng32 i3; have q9 := (show (255 : Int32).toInt = 255 from rfl); have q10 := (show (4 : Int32).toInt = 4 from rfl); have q11 := rng32 (bI (ancM tr p13 p14)); have q12 := rng32 (bI (ancM tr p20 p21)); omega⟩
  have cp29 : Cd v27 (p29 + 1) := Cd.of ep29 hp29
  obtain ⟨p30, lp30, hp30, ep30⟩ : ∃ k : Nat, 0 ≤ k ∧ k < 5 ∧ v28.toInt = (k : Int) := ⟨v28.toInt.toNat, by have q0 := rng32 v28; have q1 := congrArg Int32.toInt h_v28; have q2 := f_irem ((ushr i3 (8 : Int32)) &&& (255 : Int32)) (5 : Int32) 5 rfl; have q3 := rng32 (((ushr i3 (8 : Int32)) &&& (255 : Int32)) % (5 : Int32)); have q4 := f_imask (ushr i3 (8 : Int32)) (255 : Int32) 8 256 (by decide) (by decide) (by decide); have q5 := f_iushr i3 (8 : Int32) 8 256 (by decide) (by decide) (by decide); have q6 := rng32 (ushr i3 (8 : Int32)); have q7 := rng32 i3; have q8 := (show (8 : Int32).toInt = 8 from rfl); have q9 := (show (255 : Int32).toInt = 255 from rfl); have q10 := (show (5 : Int32).toInt = 5 from rfl); have q11 := rng32 (bI (ancM tr p13 p14)); have q12 := rng32 (bI (ancM tr p20 p21)); omega, by have q0 := rng32 v28; have q1 := congrArg Int32.toInt h_v28; have q2 := f_irem ((ushr i3 (8 : Int32)) &&& (255 : Int32)) (5 : Int32) 5 rfl; have q3 := rng32 (((ushr i3 (8 : Int32)) &&& (255 : Int32)) % (5 : Int32)); have q4 := f_imask (ushr i3 (8 : Int32)) (255 : Int32) 8 256 (by decide) (by decide) (by decide); have q5 := f_iushr i3 (8 : Int32) 8 256 (by decide) (by decide) (by decide); have q6 := rng32 (ushr i3 (8 : Int32)); have q7 := rng32 i3; have q8 := (show (8 : Int32).toInt = 8 from rfl); have q9 := (show (255 : Int32).toInt = 255 from rfl); have q10 := (show (5 : Int32).toInt = 5 from rfl); have q11 := rng32 (bI (ancM tr p13 p14)); have q12 := rng32 (bI (ancM tr p20 p21)); omega, by have q0 := rng32 v28; have q1 := congrArg Int32.toInt h_v28; have q2 := f_irem ((ushr i3 (8 : Int32)) &&& (255 : Int32)) (5 : Int32) 5 rfl; have q3 := rng32 (((ushr i3 (8 : Int32)) &&& (255 : Int32)) % (5 : Int32)); have q4 := f_imask (ushr i3 (8 : Int32)) (255 : Int32) 8 256 (by decide) (by decide) (by decide); have q5 := f_iushr i3 (8 : Int32) 8 256 (by decide) (by decide) (by decide); have q6 := rng32 (ushr i3 (8 : Int32)); have q7 := rng32 i3; have q8 := (show (8 : Int32).toInt = 8 from rfl); have q9 := (show (255 : Int32).toInt = 255 from rfl); have q10 := (show (5 : Int32).toInt = 5 from rfl); have q11 := rng32 (bI (ancM tr p13 p14)); have q12 := rng32 (bI (ancM tr p20 p21)); omega⟩
  have cp30 : Cd v28 (p30 + 1) := Cd.of ep30 hp30
  refine px_aload S25 at_228 rfl rfl rfl ?_
  refine px_iload S25 at_230 rfl rfl ?_
  refine px_iload S25 at_232 rfl rfl ?_
  refine px_callS (as' := [(.ref b1), (.int v27), (.int v28)]) (st := []) (W := 0) S25 (c_ref (t := tr) hw S25.size A_p hg cp29 cp30 t0) (hw _ (List.mem_of_getElem? (i := 53) rfl)) (hw _ (List.mem_of_getElem? (i := 54) rfl)) (hw _ (List.mem_of_getElem? (i := 27) rfl)) (hw _ (List.mem_of_getElem? (i := 55) rfl)) (by decide) pd_0_4 rfl rfl (by decide) rfl (by decide) (by decide) (by decide) at_234 rfl rfl (fun T31 h31 v31 S31 q31 => ?_)
  obtain ⟨rfl, q31⟩ := q31
  rcases Bool.eq_false_or_eq_true (ancM tr p29 p30) with hr31 | hr31
  · rw [hr31] at q31
    obtain rfl := q31
    show Go _ _ _ _ _ _ _ [(.int (1 : Int32))]
    refine px_if0 S31 at_237 (by decide) (pc' := 243) rfl rfl (fun (hc32 : (1 : Int32).toInt = 0) => by exfalso; revert hc32; decide) (fun (hc32 : ¬ (1 : Int32).toInt = 0) => ?_)
    refine px_iconst (v := (0 : Int32)) S31 at_240 rfl rfl ?_
    refine px_istore S31 at_241 rfl (L' := #[.val (.int i0), .val (.int i1), .val (.int i2), .val (.int i3), .val (.int i4), .val (.int i5), .val (.ref b1), .val (.ref b7), .val (.int (1 : Int32)), .val (.int z13), .val (.int z14), .val (.int (bI (ancM tr p13 p14))), .val (.int z20), .val (.int z21), .val (.int (bI (ancM tr p20 p21))), .val (.int v27), .val (.int (0 : Int32)), .unset, .unset, .unset, .unset, .unset, .unset]) rfl ?_
    have hr0 : ancM tr p29 0 = false := anc_zero t0 (by omega) 4
    refine px_aload S31 at_243 rfl rfl rfl ?_
    refine px_iload S31 at_245 rfl rfl ?_
    refine px_iload S31 at_247 rfl rfl ?_
    obtain ⟨L1_33, R1_33, U1_33, c1_33, P_33, e1_33, hP_33, hG_⟩ := hG.moved lp29 cp29.lt (Cd.of (v := (0 : Int32)) (k := 0) rfl (by decide)).lt hr0
    refine px_callV (Cn := "com/example/rostra/rostra/tree/Ancestry") (as' := [(.int v27), (.int (0 : Int32))]) (st := []) (W := 0) S31 (c_move (L := L2_22) (R := R2_22) (U := U2_22) (x := p29) (q := 0 + 1) hw S31.size ⟨⟨g_l, g_r, g_u⟩, n_tl, n_tr, n_tu, n_lr, n_lu, n_ru⟩ ⟨X_t, F_left_t, F_right_t, F_up_t⟩ ⟨A_l, A_r, A_u⟩ cp29 (Cd.of (v := (0 : Int32)) (k := 0) rfl (by decide)) e1_33 hP_33) X_t (hw _ (List.mem_of_getElem? (i := 59) rfl)) (hw _ (List.mem_of_getElem? (i := 60) rfl)) (hw _ (List.mem_of_getElem? (i := 62) rfl)) (hw _ (List.mem_of_getElem? (i := 61) rfl)) (hw _ (List.mem_of_getElem? (i := 3) rfl)) (hw _ (List.mem_of_getElem? (i := 63) rfl)) (S31.nf (hw _ (List.mem_of_getElem? (i := 62) rfl))) (by decide) pd_0_1 rfl rfl (by decide) rfl (by decide) (by decide) (by decide) at_249 rfl rfl (fun T34 h34 v34 S34 q34 => ?_)
    obtain ⟨rfl, K34, ⟨X_t, F_left_t, F_right_t, F_up_t⟩, A_l, A_r, A_u⟩ := q34
    replace A_p := A_p.keep K34 (ninS n_b1l (ninS n_b1r (ninS n_b1u nin0)))
    clear hG; have hG := hG_; clear hG_
    show Go _ _ _ _ _ _ _ []
    refine px_aload S34 at_252 rfl rfl rfl ?_
    refine px_iload S34 at_254 rfl rfl ?_
    refine px_iload S34 at_256 rfl rfl ?_
    refine px_iastore (v := (0 : Int32)) S34 A_p g_b1 (i := p29) cp29.ix cp29.lt rfl at_258 rfl (fun T35 h35 S35 W35 A_p => ?_)
    replace X_t := X_t.wr W35
    replace F_left_t := F_left_t.other W35 (Or.inl (Ne.symm ne_b1_b7))
    replace F_right_t := F_right_t.other W35 (Or.inl (Ne.symm ne_b1_b7))
    replace F_up_t := F_up_t.other W35 (Or.inl (Ne.symm ne_b1_b7))
    replace A_l := A_l.other W35 (Ne.symm n_b1l)
    replace A_r := A_r.other W35 (Ne.symm n_b1r)
    replace A_u := A_u.other W35 (Ne.symm n_b1u)
    obtain ⟨g36, A_p, hg36⟩ := AI.abs A_p (P := fun g => ∀ i, i < 5 → (g i).toInt = (nxt (setP tr p29 0) (i + 1) : Int) - 1) (nxt_upd hg lp29 cp29.lt (Cd.of (v := (0 : Int32)) (k := 0) rfl (by decide)))
    have t0' := setP_0 lp29 hp29 ((Cd.of (v := (0 : Int32)) (k := 0) rfl (by decide)).lt) t0
    refine px_iload S35 at_259 rfl rfl ?_
    refine px_callS (as' := [(.int i4)]) (st := []) (W := 0) S35 (c_first hw S35.size) (hw _ (List.mem_of_getElem? (i := 25) rfl)) (hw _ (List.mem_of_getElem? (i := 26) rfl)) (hw _ (List.mem_of_getElem? (i := 27) rfl)) (hw _ (List.mem_of_getElem? (i := 28) rfl)) (by decide) pd_0_2 rfl rfl (by decide) rfl (by decide) (by decide) (by decide) at_261 rfl rfl (fun T37 h37 v37 S37 q37 => ?_)
    obtain ⟨rfl, z37, rfl, l_z37⟩ := q37
    obtain ⟨p37, hp37, ep37⟩ : ∃ k : Nat, k < 5 ∧ z37.toInt = (k : Int) := ⟨z37.toInt.toNat, by omega, by omega⟩
    have cp37 : Cd z37 (p37 + 1) := Cd.of ep37 hp37
    show Go _ _ _ _ _ _ _ [(.int z37)]
    refine px_istore S37 at_264 rfl (L' := #[.val (.int i0), .val (.int i1), .val (.int i2), .val (.int i3), .val (.int i4), .val (.int i5), .val (.ref b1), .val (.ref b7), .val (.int (1 : Int32)), .val (.int z13), .val (.int z14), .val (.int (bI (ancM tr p13 p14))), .val (.int z20), .val (.int z21), .val (.int (bI (ancM tr p20 p21))), .val (.int v27), .val (.int (0 : Int32)), .val (.int z37), .unset, .unset, .unset, .unset, .unset]) rfl ?_
    refine px_iload S37 at_266 rfl rfl ?_
    refine px_callS (as' := [(.int i4)]) (st := []) (W := 0) S37 (c_second hw S37.size) (hw _ (List.mem_of_getElem? (i := 29) rfl)) (hw _ (List.mem_of_getElem? (i := 30) rfl)) (hw _ (List.mem_of_getElem? (i := 27) rfl)) (hw _ (List.mem_of_getElem? (i := 31) rfl)) (by decide) pd_0_2 rfl rfl (by decide) rfl (by decide) (by decide) (by decide) at_268 rfl rfl (fun T38 h38 v38 S38 q38 => ?_)
    obtain ⟨rfl, z38, rfl, l_z38⟩ := q38
    obtain ⟨p38, hp38, ep38⟩ : ∃ k : Nat, k < 5 ∧ z38.toInt = (k : Int) := ⟨z38.toInt.toNat, by omega, by omega⟩
    have cp38 : Cd z38 (p38 + 1) := Cd.of ep38 hp38
    show Go _ _ _ _ _ _ _ [(.int z38)]
    refine px_istore S38 at_271 rfl (L' := #[.val (.int i0), .val (.int i1), .val (.int i2), .val (.int i3), .val (.int i4), .val (.int i5), .val (.ref b1), .val (.ref b7), .val (.int (1 : Int32)), .val (.int z13), .val (.int z14), .val (.int (bI (ancM tr p13 p14))), .val (.int z20), .val (.int z21), .val (.int (bI (ancM tr p20 p21))), .val (.int v27), .val (.int (0 : Int32)), .val (.int z37), .val (.int z38), .unset, .unset, .unset, .unset]) rfl ?_
    refine px_aload S38 at_273 rfl rfl rfl ?_
    refine px_iload S38 at_275 rfl rfl ?_
    refine px_iload S38 at_277 rfl rfl ?_
    obtain ⟨L1_39, R1_39, U1_39, c1_39, L2_39, R2_39, U2_39, c2_39, e1_39, e2_39, hG_, eq_39⟩ := hG.query ok2 cp37.lt cp38.lt
    refine px_callV (Cn := "com/example/rostra/rostra/tree/Ancestry") (as' := [(.int z37), (.int z38)]) (st := []) (W := 0) S38 (c_isa (L := (sC L1_33 p29 0)) (R := R1_33) (U := (sC (sC U1_33 P_33 0) p29 (0 + 1))) (x := p37) (y := p38) hw S38.size ⟨⟨g_l, g_r, g_u⟩, n_tl, n_tr, n_tu, n_lr, n_lu, n_ru⟩ ⟨X_t, F_left_t, F_right_t, F_up_t⟩ ⟨A_l, A_r, A_u⟩ cp37 cp38 e1_39 e2_39) X_t (hw _ (List.mem_of_getElem? (i := 32) rfl)) (hw _ (List.mem_of_getElem? (i := 33) rfl)) (hw _ (List.mem_of_getElem? (i := 35) rfl)) (hw _ (List.mem_of_getElem? (i := 34) rfl)) (hw _ (List.mem_of_getElem? (i := 3) rfl)) (hw _ (List.mem_of_getElem? (i := 36) rfl)) (S38.nf (hw _ (List.mem_of_getElem? (i := 35) rfl))) (by decide) pd_0_3 rfl rfl (by decide) rfl (by decide) (by decide) (by decide) at_279 rfl rfl (fun T40 h40 v40 S40 q40 => ?_)
    obtain ⟨r_40, K40, ⟨X_t, F_left_t, F_right_t, F_up_t⟩, A_l, A_r, A_u⟩ := q40
    replace A_p := A_p.keep K40 (ninS n_b1l (ninS n_b1r (ninS n_b1u nin0)))
    clear hG; have hG := hG_; clear hG_
    rw [eq_39] at r_40
    obtain rfl := r_40
    show Go _ _ _ _ _ _ _ [(.int (bI (ancM (setP tr p29 0) p37 p38)))]
    refine px_istore S40 at_282 rfl (L' := #[.val (.int i0), .val (.int i1), .val (.int i2), .val (.int i3), .val (.int i4), .val (.int i5), .val (.ref b1), .val (.ref b7), .val (.int (1 : Int32)), .val (.int z13), .val (.int z14), .val (.int (bI (ancM tr p13 p14))), .val (.int z20), .val (.int z21), .val (.int (bI (ancM tr p20 p21))), .val (.int v27), .val (.int (0 : Int32)), .val (.int z37), .val (.int z38), .val (.int (bI (ancM (setP tr p29 0) p37 p38))), .unset, .unset, .unset]) rfl ?_
    refine px_iload S40 at_284 rfl rfl ?_
    refine px_if0 S40 at_286 (by decide) (pc' := 307) rfl rfl (fun (hc41 : (1 : Int32).toInt = 0) => by exfalso; revert hc41; decide) (fun (hc41 : ¬ (1 : Int32).toInt = 0) => ?_)
    refine px_iload S40 at_289 rfl rfl ?_
    refine px_aload S40 at_291 rfl rfl rfl ?_
    refine px_iload S40 at_293 rfl rfl ?_
    refine px_iload S40 at_295 rfl rfl ?_
    refine px_callS (as' := [(.ref b1), (.int z37), (.int z38)]) (st := [(.int (bI (ancM (setP tr p29 0) p37 p38)))]) (W := 1) S40 (c_ref (t := (setP tr p29 0)) hw S40.size A_p hg36 cp37 cp38 t0') (hw _ (List.mem_of_getElem? (i := 53) rfl)) (hw _ (List.mem_of_getElem? (i := 54) rfl)) (hw _ (List.mem_of_getElem? (i := 27) rfl)) (hw _ (List.mem_of_getElem? (i := 55) rfl)) (by decide) pd_0_4 rfl rfl (by decide) rfl (by decide) (by decide) (by decide) at_297 rfl rfl (fun T42 h42 v42 S42 q42 => ?_)
    obtain ⟨rfl, q42⟩ := q42
    obtain rfl := q42
    show Go _ _ _ _ _ _ _ [(.int (bI (ancM (setP tr p29 0) p37 p38))), (.int (bI (ancM (setP tr p29 0) p37 p38)))]
    refine px_icmp S42 at_300 (by decide) (pc' := 307) rfl rfl (fun (hc43 : ¬ (bI (ancM (setP tr p29 0) p37 p38)).toInt = (bI (ancM (setP tr p29 0) p37 p38)).toInt) => absurd rfl hc43) (fun (hc43 : (bI (ancM (setP tr p29 0) p37 p38)).toInt = (bI (ancM (setP tr p29 0) p37 p38)).toInt) => ?_)
    refine px_iconst (v := (1 : Int32)) S42 at_303 rfl rfl ?_
    refine px_goto S42 at_304 (by decide) (pc' := 308) rfl ?_
    refine px_istore S42 at_308 rfl (L' := #[.val (.int i0), .val (.int i1), .val (.int i2), .val (.int i3), .val (.int i4), .val (.int i5), .val (.ref b1), .val (.ref b7), .val (.int (1 : Int32)), .val (.int z13), .val (.int z14), .val (.int (bI (ancM tr p13 p14))), .val (.int z20), .val (.int z21), .val (.int (bI (ancM tr p20 p21))), .val (.int v27), .val (.int (0 : Int32)), .val (.int z37), .val (.int z38), .val (.int (bI (ancM (setP tr p29 0) p37 p38))), .unset, .unset, .unset]) rfl ?_
    refine px_iload S42 at_310 rfl rfl ?_
    refine px_callS (as' := [(.int i5)]) (st := []) (W := 0) S42 (c_first hw S42.size) (hw _ (List.mem_of_getElem? (i := 25) rfl)) (hw _ (List.mem_of_getElem? (i := 26) rfl)) (hw _ (List.mem_of_getElem? (i := 27) rfl)) (hw _ (List.mem_of_getElem? (i := 28) rfl)) (by decide) pd_0_2 rfl rfl (by decide) rfl (by decide) (by decide) (by decide) at_312 rfl rfl (fun T44 h44 v44 S44 q44 => ?_)
    obtain ⟨rfl, z44, rfl, l_z44⟩ := q44
    obtain ⟨p44, hp44, ep44⟩ : ∃ k : Nat, k < 5 ∧ z44.toInt = (k : Int) := ⟨z44.toInt.toNat, by omega, by omega⟩
    have cp44 : Cd z44 (p44 + 1) := Cd.of ep44 hp44
    show Go _ _ _ _ _ _ _ [(.int z44)]
    refine px_istore S44 at_315 rfl (L' := #[.val (.int i0), .val (.int i1), .val (.int i2), .val (.int i3), .val (.int i4), .val (.int i5), .val (.ref b1), .val (.ref b7), .val (.int (1 : Int32)), .val (.int z13), .val (.int z14), .val (.int (bI (ancM tr p13 p14))), .val (.int z20), .val (.int z21), .val (.int (bI (ancM tr p20 p21))), .val (.int v27), .val (.int (0 : Int32)), .val (.int z37), .val (.int z38), .val (.int (bI (ancM (setP tr p29 0) p37 p38))), .val (.int z44), .unset, .unset]) rfl ?_
    refine px_iload S44 at_317 rfl rfl ?_
    refine px_callS (as' := [(.int i5)]) (st := []) (W := 0) S44 (c_second hw S44.size) (hw _ (List.mem_of_getElem? (i := 29) rfl)) (hw _ (List.mem_of_getElem? (i := 30) rfl)) (hw _ (List.mem_of_getElem? (i := 27) rfl)) (hw _ (List.mem_of_getElem? (i := 31) rfl)) (by decide) pd_0_2 rfl rfl (by decide) rfl (by decide) (by decide) (by decide) at_319 rfl rfl (fun T45 h45 v45 S45 q45 => ?_)
    obtain ⟨rfl, z45, rfl, l_z45⟩ := q45
    obtain ⟨p45, hp45, ep45⟩ : ∃ k : Nat, k < 5 ∧ z45.toInt = (k : Int) := ⟨z45.toInt.toNat, by omega, by omega⟩
    have cp45 : Cd z45 (p45 + 1) := Cd.of ep45 hp45
    show Go _ _ _ _ _ _ _ [(.int z45)]
    refine px_istore S45 at_322 rfl (L' := #[.val (.int i0), .val (.int i1), .val (.int i2), .val (.int i3), .val (.int i4), .val (.int i5), .val (.ref b1), .val (.ref b7), .val (.int (1 : Int32)), .val (.int z13), .val (.int z14), .val (.int (bI (ancM tr p13 p14))), .val (.int z20), .val (.int z21), .val (.int (bI (ancM tr p20 p21))), .val (.int v27), .val (.int (0 : Int32)), .val (.int z37), .val (.int z38), .val (.int (bI (ancM (setP tr p29 0) p37 p38))), .val (.int z44), .val (.int z45), .unset]) rfl ?_
    refine px_aload S45 at_324 rfl rfl rfl ?_
    refine px_iload S45 at_326 rfl rfl ?_
    refine px_iload S45 at_328 rfl rfl ?_
    obtain ⟨L1_46, R1_46, U1_46, c1_46, L2_46, R2_46, U2_46, c2_46, e1_46, e2_46, hG_, eq_46⟩ := hG.query ok2 cp44.lt cp45.lt
    refine px_callV (Cn := "com/example/rostra/rostra/tree/Ancestry") (as' := [(.int z44), (.int z45)]) (st := []) (W := 0) S45 (c_isa (L := L2_39) (R := R2_39) (U := U2_39) (x := p44) (y := p45) hw S45.size ⟨⟨g_l, g_r, g_u⟩, n_tl, n_tr, n_tu, n_lr, n_lu, n_ru⟩ ⟨X_t, F_left_t, F_right_t, F_up_t⟩ ⟨A_l, A_r, A_u⟩ cp44 cp45 e1_46 e2_46) X_t (hw _ (List.mem_of_getElem? (i := 32) rfl)) (hw _ (List.mem_of_getElem? (i := 33) rfl)) (hw _ (List.mem_of_getElem? (i := 35) rfl)) (hw _ (List.mem_of_getElem? (i := 34) rfl)) (hw _ (List.mem_of_getElem? (i := 3) rfl)) (hw _ (List.mem_of_getElem? (i := 36) rfl)) (S45.nf (hw _ (List.mem_of_getElem? (i := 35) rfl))) (by decide) pd_0_3 rfl rfl (by decide) rfl (by decide) (by decide) (by decide) at_330 rfl rfl (fun T47 h47 v47 S47 q47 => ?_)
    obtain ⟨r_47, K47, ⟨X_t, F_left_t, F_right_t, F_up_t⟩, A_l, A_r, A_u⟩ := q47
    replace A_p := A_p.keep K47 (ninS n_b1l (ninS n_b1r (ninS n_b1u nin0)))
    clear hG; have hG := hG_; clear hG_
    rw [eq_46] at r_47
    obtain rfl := r_47
    show Go _ _ _ _ _ _ _ [(.int (bI (ancM (setP tr p29 0) p44 p45)))]
    refine px_istore S47 at_333 rfl (L' := #[.val (.int i0), .val (.int i1), .val (.int i2), .val (.int i3), .val (.int i4), .val (.int i5), .val (.ref b1), .val (.ref b7), .val (.int (1 : Int32)), .val (.int z13), .val (.int z14), .val (.int (bI (ancM tr p13 p14))), .val (.int z20), .val (.int z21), .val (.int (bI (ancM tr p20 p21))), .val (.int v27), .val (.int (0 : Int32)), .val (.int z37), .val (.int z38), .val (.int (bI (ancM (setP tr p29 0) p37 p38))), .val (.int z44), .val (.int z45), .val (.int (bI (ancM (setP tr p29 0) p44 p45)))]) rfl ?_
    refine px_iload S47 at_335 rfl rfl ?_
    refine px_if0 S47 at_337 (by decide) (pc' := 358) rfl rfl (fun (hc48 : (1 : Int32).toInt = 0) => by exfalso; revert hc48; decide) (fun (hc48 : ¬ (1 : Int32).toInt = 0) => ?_)
    refine px_iload S47 at_340 rfl rfl ?_
    refine px_aload S47 at_342 rfl rfl rfl ?_
    refine px_iload S47 at_344 rfl rfl ?_
    refine px_iload S47 at_346 rfl rfl ?_
    refine px_callS (as' := [(.ref b1), (.int z44), (.int z45)]) (st := [(.int (bI (ancM (setP tr p29 0) p44 p45)))]) (W := 1) S47 (c_ref (t := (setP tr p29 0)) hw S47.size A_p hg36 cp44 cp45 t0') (hw _ (List.mem_of_getElem? (i := 53) rfl)) (hw _ (List.mem_of_getElem? (i := 54) rfl)) (hw _ (List.mem_of_getElem? (i := 27) rfl)) (hw _ (List.mem_of_getElem? (i := 55) rfl)) (by decide) pd_0_4 rfl rfl (by decide) rfl (by decide) (by decide) (by decide) at_348 rfl rfl (fun T49 h49 v49 S49 q49 => ?_)
    obtain ⟨rfl, q49⟩ := q49
    obtain rfl := q49
    show Go _ _ _ _ _ _ _ [(.int (bI (ancM (setP tr p29 0) p44 p45))), (.int (bI (ancM (setP tr p29 0) p44 p45)))]
    refine px_icmp S49 at_351 (by decide) (pc' := 358) rfl rfl (fun (hc50 : ¬ (bI (ancM (setP tr p29 0) p44 p45)).toInt = (bI (ancM (setP tr p29 0) p44 p45)).toInt) => absurd rfl hc50) (fun (hc50 : (bI (ancM (setP tr p29 0) p44 p45)).toInt = (bI (ancM (setP tr p29 0) p44 p45)).toInt) => ?_)
    refine px_iconst (v := (1 : Int32)) S49 at_354 rfl rfl ?_
    refine px_goto S49 at_355 (by decide) (pc' := 359) rfl ?_
    refine px_istore S49 at_359 rfl (L' := #[.val (.int i0), .val (.int i1), .val (.int i2), .val (.int i3), .val (.int i4), .val (.int i5), .val (.ref b1), .val (.ref b7), .val (.int (1 : Int32)), .val (.int z13), .val (.int z14), .val (.int (bI (ancM tr p13 p14))), .val (.int z20), .val (.int z21), .val (.int (bI (ancM tr p20 p21))), .val (.int v27), .val (.int (0 : Int32)), .val (.int z37), .val (.int z38), .val (.int (bI (ancM (setP tr p29 0) p37 p38))), .val (.int z44), .val (.int z45), .val (.int (bI (ancM (setP tr p29 0) p44 p45)))]) rfl ?_
    refine px_iload S49 at_361 rfl rfl ?_
    exact px_retN (t := .boolean) (z' := (1 : Int32)) S49 at_363 rfl (by simp) rfl (by decide) (by decide) (rfl)
  · rw [hr31] at q31
    obtain rfl := q31
    show Go _ _ _ _ _ _ _ [(.int (0 : Int32))]
    refine px_if0 S31 at_237 (by decide) (pc' := 243) rfl rfl (fun (hc51 : (0 : Int32).toInt = 0) => ?_) (fun (hc51 : ¬ (0 : Int32).toInt = 0) => by exfalso; revert hc51; decide)
    refine px_aload S31 at_243 rfl rfl rfl ?_
    refine px_iload S31 at_245 rfl rfl ?_
    refine px_iload S31 at_247 rfl rfl ?_
    obtain ⟨L1_52, R1_52, U1_52, c1_52, P_52, e1_52, hP_52, hG_⟩ := hG.moved lp29 cp29.lt cp30.lt hr31
    refine px_callV (Cn := "com/example/rostra/rostra/tree/Ancestry") (as' := [(.int v27), (.int v28)]) (st := []) (W := 0) S31 (c_move (L := L2_22) (R := R2_22) (U := U2_22) (x := p29) (q := p30 + 1) hw S31.size ⟨⟨g_l, g_r, g_u⟩, n_tl, n_tr, n_tu, n_lr, n_lu, n_ru⟩ ⟨X_t, F_left_t, F_right_t, F_up_t⟩ ⟨A_l, A_r, A_u⟩ cp29 cp30 e1_52 hP_52) X_t (hw _ (List.mem_of_getElem? (i := 59) rfl)) (hw _ (List.mem_of_getElem? (i := 60) rfl)) (hw _ (List.mem_of_getElem? (i := 62) rfl)) (hw _ (List.mem_of_getElem? (i := 61) rfl)) (hw _ (List.mem_of_getElem? (i := 3) rfl)) (hw _ (List.mem_of_getElem? (i := 63) rfl)) (S31.nf (hw _ (List.mem_of_getElem? (i := 62) rfl))) (by decide) pd_0_1 rfl rfl (by decide) rfl (by decide) (by decide) (by decide) at_249 rfl rfl (fun T53 h53 v53 S53 q53 => ?_)
    obtain ⟨rfl, K53, ⟨X_t, F_left_t, F_right_t, F_up_t⟩, A_l, A_r, A_u⟩ := q53
    replace A_p := A_p.keep K53 (ninS n_b1l (ninS n_b1r (ninS n_b1u nin0)))
    clear hG; have hG := hG_; clear hG_
    show Go _ _ _ _ _ _ _ []
    refine px_aload S53 at_252 rfl rfl rfl ?_
    refine px_iload S53 at_254 rfl rfl ?_
    refine px_iload S53 at_256 rfl rfl ?_
    refine px_iastore (v := v28) S53 A_p g_b1 (i := p29) cp29.ix cp29.lt rfl at_258 rfl (fun T54 h54 S54 W54 A_p => ?_)
    replace X_t := X_t.wr W54
    replace F_left_t := F_left_t.other W54 (Or.inl (Ne.symm ne_b1_b7))
    replace F_right_t := F_right_t.other W54 (Or.inl (Ne.symm ne_b1_b7))
    replace F_up_t := F_up_t.other W54 (Or.inl (Ne.symm ne_b1_b7))
    replace A_l := A_l.other W54 (Ne.symm n_b1l)
    replace A_r := A_r.other W54 (Ne.symm n_b1r)
    replace A_u := A_u.other W54 (Ne.symm n_b1u)
    obtain ⟨g55, A_p, hg55⟩ := AI.abs A_p (P := fun g => ∀ i, i < 5 → (g i).toInt = (nxt (setP tr p29 p30) (i + 1) : Int) - 1) (nxt_upd hg lp29 cp29.lt cp30)
    have t0' := setP_0 lp29 hp29 (cp30.lt) t0
    refine px_iload S54 at_259 rfl rfl ?_
    refine px_callS (as' := [(.int i4)]) (st := []) (W := 0) S54 (c_first hw S54.size) (hw _ (List.mem_of_getElem? (i := 25) rfl)) (hw _ (List.mem_of_getElem? (i := 26) rfl)) (hw _ (List.mem_of_getElem? (i := 27) rfl)) (hw _ (List.mem_of_getElem? (i := 28) rfl)) (by decide) pd_0_2 rfl rfl (by decide) rfl (by decide) (by decide) (by decide) at_261 rfl rfl (fun T56 h56 v56 S56 q56 => ?_)
    obtain ⟨rfl, z56, rfl, l_z56⟩ := q56
    obtain ⟨p56, hp56, ep56⟩ : ∃ k : Nat, k < 5 ∧ z56.toInt = (k : Int) := ⟨z56.toInt.toNat, by omega, by omega⟩
    have cp56 : Cd z56 (p56 + 1) := Cd.of ep56 hp56
    show Go _ _ _ _ _ _ _ [(.int z56)]
    refine px_istore S56 at_264 rfl (L' := #[.val (.int i0), .val (.int i1), .val (.int i2), .val (.int i3), .val (.int i4), .val (.int i5), .val (.ref b1), .val (.ref b7), .val (.int (1 : Int32)), .val (.int z13), .val (.int z14), .val (.int (bI (ancM tr p13 p14))), .val (.int z20), .val (.int z21), .val (.int (bI (ancM tr p20 p21))), .val (.int v27), .val (.int v28), .val (.int z56), .unset, .unset, .unset, .unset, .unset]) rfl ?_
    refine px_iload S56 at_266 rfl rfl ?_
    refine px_callS (as' := [(.int i4)]) (st := []) (W := 0) S56 (c_second hw S56.size) (hw _ (List.mem_of_getElem? (i := 29) rfl)) (hw _ (List.mem_of_getElem? (i := 30) rfl)) (hw _ (List.mem_of_getElem? (i := 27) rfl)) (hw _ (List.mem_of_getElem? (i := 31) rfl)) (by decide) pd_0_2 rfl rfl (by decide) rfl (by decide) (by decide) (by decide) at_268 rfl rfl (fun T57 h57 v57 S57 q57 => ?_)
    obtain ⟨rfl, z57, rfl, l_z57⟩ := q57
    obtain ⟨p57, hp57, ep57⟩ : ∃ k : Nat, k < 5 ∧ z57.toInt = (k : Int) := ⟨z57.toInt.toNat, by omega, by omega⟩
    have cp57 : Cd z57 (p57 + 1) := Cd.of ep57 hp57
    show Go _ _ _ _ _ _ _ [(.int z57)]
    refine px_istore S57 at_271 rfl (L' := #[.val (.int i0), .val (.int i1), .val (.int i2), .val (.int i3), .val (.int i4), .val (.int i5), .val (.ref b1), .val (.ref b7), .val (.int (1 : Int32)), .val (.int z13), .val (.int z14), .val (.int (bI (ancM tr p13 p14))), .val (.int z20), .val (.int z21), .val (.int (bI (ancM tr p20 p21))), .val (.int v27), .val (.int v28), .val (.int z56), .val (.int z57), .unset, .unset, .unset, .unset]) rfl ?_
    refine px_aload S57 at_273 rfl rfl rfl ?_
    refine px_iload S57 at_275 rfl rfl ?_
    refine px_iload S57 at_277 rfl rfl ?_
    obtain ⟨L1_58, R1_58, U1_58, c1_58, L2_58, R2_58, U2_58, c2_58, e1_58, e2_58, hG_, eq_58⟩ := hG.query ok2 cp56.lt cp57.lt
    refine px_callV (Cn := "com/example/rostra/rostra/tree/Ancestry") (as' := [(.int z56), (.int z57)]) (st := []) (W := 0) S57 (c_isa (L := (sC L1_52 p29 0)) (R := R1_52) (U := (sC (sC U1_52 P_52 0) p29 (p30 + 1))) (x := p56) (y := p57) hw S57.size ⟨⟨g_l, g_r, g_u⟩, n_tl, n_tr, n_tu, n_lr, n_lu, n_ru⟩ ⟨X_t, F_left_t, F_right_t, F_up_t⟩ ⟨A_l, A_r, A_u⟩ cp56 cp57 e1_58 e2_58) X_t (hw _ (List.mem_of_getElem? (i := 32) rfl)) (hw _ (List.mem_of_getElem? (i := 33) rfl)) (hw _ (List.mem_of_getElem? (i := 35) rfl)) (hw _ (List.mem_of_getElem? (i := 34) rfl)) (hw _ (List.mem_of_getElem? (i := 3) rfl)) (hw _ (List.mem_of_getElem? (i := 36) rfl)) (S57.nf (hw _ (List.mem_of_getElem? (i := 35) rfl))) (by decide) pd_0_3 rfl rfl (by decide) rfl (by decide) (by decide) (by decide) at_279 rfl rfl (fun T59 h59 v59 S59 q59 => ?_)
    obtain ⟨r_59, K59, ⟨X_t, F_left_t, F_right_t, F_up_t⟩, A_l, A_r, A_u⟩ := q59
    replace A_p := A_p.keep K59 (ninS n_b1l (ninS n_b1r (ninS n_b1u nin0)))
    clear hG; have hG := hG_; clear hG_
    rw [eq_58] at r_59
    obtain rfl := r_59
    show Go _ _ _ _ _ _ _ [(.int (bI (ancM (setP tr p29 p30) p56 p57)))]
    refine px_istore S59 at_282 rfl (L' := #[.val (.int i0), .val (.int i1), .val (.int i2), .val (.int i3), .val (.int i4), .val (.int i5), .val (.ref b1), .val (.ref b7), .val (.int (1 : Int32)), .val (.int z13), .val (.int z14), .val (.int (bI (ancM tr p13 p14))), .val (.int z20), .val (.int z21), .val (.int (bI (ancM tr p20 p21))), .val (.int v27), .val (.int v28), .val (.int z56), .val (.int z57), .val (.int (bI (ancM (setP tr p29 p30) p56 p57))), .unset, .unset, .unset]) rfl ?_
    refine px_iload S59 at_284 rfl rfl ?_
    refine px_if0 S59 at_286 (by decide) (pc' := 307) rfl rfl (fun (hc60 : (1 : Int32).toInt = 0) => by exfalso; revert hc60; decide) (fun (hc60 : ¬ (1 : Int32).toInt = 0) => ?_)
    refine px_iload S59 at_289 rfl rfl ?_
    refine px_aload S59 at_291 rfl rfl rfl ?_
    refine px_iload S59 at_293 rfl rfl ?_
    refine px_iload S59 at_295 rfl rfl ?_
    refine px_callS (as' := [(.ref b1), (.int z56), (.int z57)]) (st := [(.int (bI (ancM (setP tr p29 p30) p56 p57)))]) (W := 1) S59 (c_ref (t := (setP tr p29 p30)) hw S59.size A_p hg55 cp56 cp57 t0') (hw _ (List.mem_of_getElem? (i := 53) rfl)) (hw _ (List.mem_of_getElem? (i := 54) rfl)) (hw _ (List.mem_of_getElem? (i := 27) rfl)) (hw _ (List.mem_of_getElem? (i := 55) rfl)) (by decide) pd_0_4 rfl rfl (by decide) rfl (by decide) (by decide) (by decide) at_297 rfl rfl (fun T61 h61 v61 S61 q61 => ?_)
    obtain ⟨rfl, q61⟩ := q61
    obtain rfl := q61
    show Go _ _ _ _ _ _ _ [(.int (bI (ancM (setP tr p29 p30) p56 p57))), (.int (bI (ancM (setP tr p29 p30) p56 p57)))]
    refine px_icmp S61 at_300 (by decide) (pc' := 307) rfl rfl (fun (hc62 : ¬ (bI (ancM (setP tr p29 p30) p56 p57)).toInt = (bI (ancM (setP tr p29 p30) p56 p57)).toInt) => absurd rfl hc62) (fun (hc62 : (bI (ancM (setP tr p29 p30) p56 p57)).toInt = (bI (ancM (setP tr p29 p30) p56 p57)).toInt) => ?_)
    refine px_iconst (v := (1 : Int32)) S61 at_303 rfl rfl ?_
    refine px_goto S61 at_304 (by decide) (pc' := 308) rfl ?_
    refine px_istore S61 at_308 rfl (L' := #[.val (.int i0), .val (.int i1), .val (.int i2), .val (.int i3), .val (.int i4), .val (.int i5), .val (.ref b1), .val (.ref b7), .val (.int (1 : Int32)), .val (.int z13), .val (.int z14), .val (.int (bI (ancM tr p13 p14))), .val (.int z20), .val (.int z21), .val (.int (bI (ancM tr p20 p21))), .val (.int v27), .val (.int v28), .val (.int z56), .val (.int z57), .val (.int (bI (ancM (setP tr p29 p30) p56 p57))), .unset, .unset, .unset]) rfl ?_
    refine px_iload S61 at_310 rfl rfl ?_
    refine px_callS (as' := [(.int i5)]) (st := []) (W := 0) S61 (c_first hw S61.size) (hw _ (List.mem_of_getElem? (i := 25) rfl)) (hw _ (List.mem_of_getElem? (i := 26) rfl)) (hw _ (List.mem_of_getElem? (i := 27) rfl)) (hw _ (List.mem_of_getElem? (i := 28) rfl)) (by decide) pd_0_2 rfl rfl (by decide) rfl (by decide) (by decide) (by decide) at_312 rfl rfl (fun T63 h63 v63 S63 q63 => ?_)
    obtain ⟨rfl, z63, rfl, l_z63⟩ := q63
    obtain ⟨p63, hp63, ep63⟩ : ∃ k : Nat, k < 5 ∧ z63.toInt = (k : Int) := ⟨z63.toInt.toNat, by omega, by omega⟩
    have cp63 : Cd z63 (p63 + 1) := Cd.of ep63 hp63
    show Go _ _ _ _ _ _ _ [(.int z63)]
    refine px_istore S63 at_315 rfl (L' := #[.val (.int i0), .val (.int i1), .val (.int i2), .val (.int i3), .val (.int i4), .val (.int i5), .val (.ref b1), .val (.ref b7), .val (.int (1 : Int32)), .val (.int z13), .val (.int z14), .val (.int (bI (ancM tr p13 p14))), .val (.int z20), .val (.int z21), .val (.int (bI (ancM tr p20 p21))), .val (.int v27), .val (.int v28), .val (.int z56), .val (.int z57), .val (.int (bI (ancM (setP tr p29 p30) p56 p57))), .val (.int z63), .unset, .unset]) rfl ?_
    refine px_iload S63 at_317 rfl rfl ?_
    refine px_callS (as' := [(.int i5)]) (st := []) (W := 0) S63 (c_second hw S63.size) (hw _ (List.mem_of_getElem? (i := 29) rfl)) (hw _ (List.mem_of_getElem? (i := 30) rfl)) (hw _ (List.mem_of_getElem? (i := 27) rfl)) (hw _ (List.mem_of_getElem? (i := 31) rfl)) (by decide) pd_0_2 rfl rfl (by decide) rfl (by decide) (by decide) (by decide) at_319 rfl rfl (fun T64 h64 v64 S64 q64 => ?_)
    obtain ⟨rfl, z64, rfl, l_z64⟩ := q64
    obtain ⟨p64, hp64, ep64⟩ : ∃ k : Nat, k < 5 ∧ z64.toInt = (k : Int) := ⟨z64.toInt.toNat, by omega, by omega⟩
    have cp64 : Cd z64 (p64 + 1) := Cd.of ep64 hp64
    show Go _ _ _ _ _ _ _ [(.int z64)]
    refine px_istore S64 at_322 rfl (L' := #[.val (.int i0), .val (.int i1), .val (.int i2), .val (.int i3), .val (.int i4), .val (.int i5), .val (.ref b1), .val (.ref b7), .val (.int (1 : Int32)), .val (.int z13), .val (.int z14), .val (.int (bI (ancM tr p13 p14))), .val (.int z20), .val (.int z21), .val (.int (bI (ancM tr p20 p21))), .val (.int v27), .val (.int v28), .val (.int z56), .val (.int z57), .val (.int (bI (ancM (setP tr p29 p30) p56 p57))), .val (.int z63), .val (.int z64), .unset]) rfl ?_
    refine px_aload S64 at_324 rfl rfl rfl ?_
    refine px_iload S64 at_326 rfl rfl ?_
    refine px_iload S64 at_328 rfl rfl ?_
    obtain ⟨L1_65, R1_65, U1_65, c1_65, L2_65, R2_65, U2_65, c2_65, e1_65, e2_65, hG_, eq_65⟩ := hG.query ok2 cp63.lt cp64.lt
    refine px_callV (Cn := "com/example/rostra/rostra/tree/Ancestry") (as' := [(.int z63), (.int z64)]) (st := []) (W := 0) S64 (c_isa (L := L2_58) (R := R2_58) (U := U2_58) (x := p63) (y := p64) hw S64.size ⟨⟨g_l, g_r, g_u⟩, n_tl, n_tr, n_tu, n_lr, n_lu, n_ru⟩ ⟨X_t, F_left_t, F_right_t, F_up_t⟩ ⟨A_l, A_r, A_u⟩ cp63 cp64 e1_65 e2_65) X_t (hw _ (List.mem_of_getElem? (i := 32) rfl)) (hw _ (List.mem_of_getElem? (i := 33) rfl)) (hw _ (List.mem_of_getElem? (i := 35) rfl)) (hw _ (List.mem_of_getElem? (i := 34) rfl)) (hw _ (List.mem_of_getElem? (i := 3) rfl)) (hw _ (List.mem_of_getElem? (i := 36) rfl)) (S64.nf (hw _ (List.mem_of_getElem? (i := 35) rfl))) (by decide) pd_0_3 rfl rfl (by decide) rfl (by decide) (by decide) (by decide) at_330 rfl rfl (fun T66 h66 v66 S66 q66 => ?_)
    obtain ⟨r_66, K66, ⟨X_t, F_left_t, F_right_t, F_up_t⟩, A_l, A_r, A_u⟩ := q66
    replace A_p := A_p.keep K66 (ninS n_b1l (ninS n_b1r (ninS n_b1u nin0)))
    clear hG; have hG := hG_; clear hG_
    rw [eq_65] at r_66
    obtain rfl := r_66
    show Go _ _ _ _ _ _ _ [(.int (bI (ancM (setP tr p29 p30) p63 p64)))]
    refine px_istore S66 at_333 rfl (L' := #[.val (.int i0), .val (.int i1), .val (.int i2), .val (.int i3), .val (.int i4), .val (.int i5), .val (.ref b1), .val (.ref b7), .val (.int (1 : Int32)), .val (.int z13), .val (.int z14), .val (.int (bI (ancM tr p13 p14))), .val (.int z20), .val (.int z21), .val (.int (bI (ancM tr p20 p21))), .val (.int v27), .val (.int v28), .val (.int z56), .val (.int z57), .val (.int (bI (ancM (setP tr p29 p30) p56 p57))), .val (.int z63), .val (.int z64), .val (.int (bI (ancM (setP tr p29 p30) p63 p64)))]) rfl ?_
    refine px_iload S66 at_335 rfl rfl ?_
    refine px_if0 S66 at_337 (by decide) (pc' := 358) rfl rfl (fun (hc67 : (1 : Int32).toInt = 0) => by exfalso; revert hc67; decide) (fun (hc67 : ¬ (1 : Int32).toInt = 0) => ?_)
    refine px_iload S66 at_340 rfl rfl ?_
    refine px_aload S66 at_342 rfl rfl rfl ?_
    refine px_iload S66 at_344 rfl rfl ?_
    refine px_iload S66 at_346 rfl rfl ?_
    refine px_callS (as' := [(.ref b1), (.int z63), (.int z64)]) (st := [(.int (bI (ancM (setP tr p29 p30) p63 p64)))]) (W := 1) S66 (c_ref (t := (setP tr p29 p30)) hw S66.size A_p hg55 cp63 cp64 t0') (hw _ (List.mem_of_getElem? (i := 53) rfl)) (hw _ (List.mem_of_getElem? (i := 54) rfl)) (hw _ (List.mem_of_getElem? (i := 27) rfl)) (hw _ (List.mem_of_getElem? (i := 55) rfl)) (by decide) pd_0_4 rfl rfl (by decide) rfl (by decide) (by decide) (by decide) at_348 rfl rfl (fun T68 h68 v68 S68 q68 => ?_)
    obtain ⟨rfl, q68⟩ := q68
    obtain rfl := q68
    show Go _ _ _ _ _ _ _ [(.int (bI (ancM (setP tr p29 p30) p63 p64))), (.int (bI (ancM (setP tr p29 p30) p63 p64)))]
    refine px_icmp S68 at_351 (by decide) (pc' := 358) rfl rfl (fun (hc69 : ¬ (bI (ancM (setP tr p29 p30) p63 p64)).toInt = (bI (ancM (setP tr p29 p30) p63 p64)).toInt) => absurd rfl hc69) (fun (hc69 : (bI (ancM (setP tr p29 p30) p63 p64)).toInt = (bI (ancM (setP tr p29 p30) p63 p64)).toInt) => ?_)
    refine px_iconst (v := (1 : Int32)) S68 at_354 rfl rfl ?_
    refine px_goto S68 at_355 (by decide) (pc' := 359) rfl ?_
    refine px_istore S68 at_359 rfl (L' := #[.val (.int i0), .val (.int i1), .val (.int i2), .val (.int i3), .val (.int i4), .val (.int i5), .val (.ref b1), .val (.ref b7), .val (.int (1 : Int32)), .val (.int z13), .val (.int z14), .val (.int (bI (ancM tr p13 p14))), .val (.int z20), .val (.int z21), .val (.int (bI (ancM tr p20 p21))), .val (.int v27), .val (.int v28), .val (.int z56), .val (.int z57), .val (.int (bI (ancM (setP tr p29 p30) p56 p57))), .val (.int z63), .val (.int z64), .val (.int (bI (ancM (setP tr p29 p30) p63 p64)))]) rfl ?_
    refine px_iload S68 at_361 rfl rfl ?_
    exact px_retN (t := .boolean) (z' := (1 : Int32)) S68 at_363 rfl (by simp) rfl (by decide) (by decide) (rfl)
set_option maxRecDepth 65536 in
set_option maxHeartbeats 40000000 in
theorem comes_1 {Post : Tables → Env → Array Value → State → Outcome → State → Prop} (hpost : ∀ tb e args s v u, (limb_1_1.after args s (.returned v) u = true ∧ limb_1_2.after args s (.returned v) u = true ∧ True) → FrameEnd s (.returned v) u (Jvm.fieldLocs frame_1_writes args s ++ Jvm.arrayLocs frame_1_arrays args s ++ Jvm.staticLocs frame_1_statics s) 24 128 → Post tb e args s (.returned v) u) :
    ArmFor flags0 classFile x code maxLocals ret World_1 tables_1 room_1 Calls_1 rest_1 Pre_1 Post := by
  intro l hfl _ _ p e ha hc hk s m args below hf hA hF happ hP
  obtain ⟨hcalls, hrest, hpre⟩ := hP
  obtain ⟨-, -, -, hnamed, -, -, -, hat⟩ := (Spec.applies_iff hf).mp happ
  obtain ⟨hg, hn⟩ := and_e (Cond.before_iff.mp (show (Jvm.Cond.and given_1 narrow_1).before args s = true from hpre))
  obtain ⟨hcount, hg0⟩ := and_e hg
  obtain ⟨ha0, hg1⟩ := and_e hg0
  obtain ⟨ha1, hg2⟩ := and_e hg1
  obtain ⟨ha2, hg3⟩ := and_e hg2
  obtain ⟨ha3, hg4⟩ := and_e hg3
  obtain ⟨ha4, hg5⟩ := and_e hg4
  obtain ⟨w0, w1, w2, w3, w4, w5, rfl⟩ : ∃ w0 w1 w2 w3 w4 w5 : Value, args = #[w0, w1, w2, w3, w4, w5] := by
    have hs : args.size = 6 := by simpa [Cond.value, given_1] using hcount
    obtain ⟨L⟩ := args
    match L, hs with
    | [w0, w1, w2, w3, w4, w5], _ => exact ⟨w0, w1, w2, w3, w4, w5, rfl⟩
  have hw := fun d (hd : d ∈ tables_1) => atoms_spec (ws := Jvm.Cond.code x code maxLocals ret :: tables_1) hat d (List.mem_cons_of_mem _ hd)
  obtain ⟨i0, ei0⟩ := is_v ha0
  obtain rfl : w0 = (.int i0) := Option.some.inj ei0
  obtain ⟨i1, ei1⟩ := is_v ha1
  obtain rfl : w1 = (.int i1) := Option.some.inj ei1
  obtain ⟨i2, ei2⟩ := is_v ha2
  obtain rfl : w2 = (.int i2) := Option.some.inj ei2
  obtain ⟨i3, ei3⟩ := is_v ha3
  obtain rfl : w3 = (.int i3) := Option.some.inj ei3
  obtain ⟨i4, ei4⟩ := is_v ha4
  obtain rfl : w4 = (.int i4) := Option.some.inj ei4
  obtain ⟨i5, ei5⟩ := is_v hg5
  obtain rfl : w5 = (.int i5) := Option.some.inj ei5
  obtain ⟨n, o, h1, h2, h3, _, L, rfl, ⟨rfl, N⟩, hq⟩ := law_ctr (Z := s) hw i0 i1 i2 i3 i4 i5 (Nat.le_refl _) l tables_1 p e ha hc hk s m _ below hf ((Spec.applies_iff_loose hf).mp happ).1 ⟨rfl, State.Warmed39.refl s, rfl⟩ trivial
  refine ⟨n, _, h1, h2, h3, hpost _ _ _ _ _ _ ⟨Cond.after_iff.mpr rfl, Cond.after_iff.mpr (eq_i res_at (Term.int_eval (1)) rfl), trivial⟩ ⟨hq.1, hq.2.1, (hq.2.2.sift fun y hy => Or.inr (N y hy)).mono (Nat.le_refl _) (Nat.le_refl _)⟩⟩
theorem main_1_1 : Claimed_1_1 := comes_1 fun _ _ _ _ _ _ h hF => ⟨h.1, hF⟩
theorem main_1_2 : Claimed_1_2 := comes_1 fun _ _ _ _ _ _ h hF => ⟨h.2.1, hF⟩
end Jvm.Pilot.@@N@@
namespace Jvm.Pilot.@@N@@
open Jvm Jvm.ClassFile Sem Op Lib Jvm.Free Jvm.Stand Jvm.Pilot.@@N@@.Jvm.D
/-! MADE BY PROGRAM (witnessworld.py) out of the Statement's table words and the real class files: 10 classes; the members and pool entries that the words name. The judged class is class 1, her method 5. -/
namespace start1
open Jvm.ClassFile
def u (s : String) : CpInfo := .utf8 (stringToUtf16 s)
/-- a pool by its gaps: so many unusable entries, then the entry; so many at the end -/
def gap : Nat → List CpInfo → List CpInfo
  | 0, r => r
  | n + 1, r => .unusable :: gap n r
def poolList (es : List (Nat × CpInfo)) (last : Nat) : List CpInfo := es.foldr (fun e r => gap e.1 (e.2 :: r)) (gap last [])
def pool (es : List (Nat × CpInfo)) (last : Nat) : Array CpInfo := ⟨poolList es last⟩
def fileOf (pool : Array CpInfo) (this : Nat) (attrs : Array Attribute := #[]) (ms : Array MethodInfo := #[]) (fl : Nat := 33) (sup : Nat := 0) (ifs : Array Nat := #[]) (fds : Array FieldInfo := #[]) : ClassFile where
  minorVersion := 0
  majorVersion := 65
  constantPool := pool
  accessFlags := fl
  thisClass := this
  superClass := sup
  interfaces := ifs
  fields := fds
  methods := ms
  attributes := attrs
def plain (name : String) (sup : Option ClassId) : Class where
  name := name
  kind := .ordinary
  loader := none
  accessFlags := 33
  super := sup
  interfaces := #[]
  cf := none
  fields := #[]
  methods := #[]
  instanceTypes := #[]
  staticTypes := #[]
  resolved := #[]
  callSites := []
  init := .initialized
  statics := none
  mirror := none

def pool0 : Array CpInfo := pool [(5, u "<init>"), (0, u "()V"), (1, .class_ 10), (1, u "java/lang/Object")] 113

def k0c0 : Code := { maxStack := 0, maxLocals := 1, code := object_method_1_code, exceptionTable := #[], attributes := #[] }
def k0m0 : Method := { name := "<init>", desc := "()V", sig := { parameters := [], returnType := none }, accessFlags := 1, code := some k0c0 }
/-- java/lang/Object -/
def k0 : Class := { plain "java/lang/Object" none with
  accessFlags := 33
  interfaces := #[]
  cf := some (fileOf pool0 8 #[] #[{ accessFlags := 1, nameIndex := 5, descriptorIndex := 6, attributes := #[] }] 33 0 #[] #[])
  fields := #[]
  methods := #[k0m0]
  instanceTypes := #[]
  staticTypes := #[]
  resolved := Array.replicate 124 none
  statics := none }

def pool1 : Array CpInfo := pool [(2, .class_ 4), (1, u "java/lang/Object"), (0, u "<init>"), (0, u "()V"), (0, .methodref 8 9), (0, .class_ 10), (0, .nameAndType 11 12), (0, u "com/example/rostra/rostra/tree/AncestryIsSelfOrAncestorPinLaw"), (0, u "par"), (0, u "([II)I"), (0, .class_ 14), (0, u "com/example/rostra/rostra/tree/Ancestry"), (0, .methodref 13 16), (0, .nameAndType 5 17), (0, u "(I)V"), (0, .methodref 13 19), (0, .nameAndType 20 21), (0, u "add"), (0, u "(II)V"), (0, .methodref 8 23), (0, .nameAndType 24 25), (0, u "first"), (0, u "(I)I"), (0, .methodref 8 27), (0, .nameAndType 28 25), (0, u "second"), (0, .methodref 13 30), (0, .nameAndType 31 32), (0, u "isSelfOrAncestor"), (0, u "(II)Z"), (0, .methodref 8 34), (0, .nameAndType 35 36), (0, u "ref"), (0, u "([III)Z"), (0, .methodref 13 38), (0, .nameAndType 39 21), (0, u "move"), (5, u "law"), (0, u "(IIIIII)Z")] 2

def k1m0 : Method := { name := "<init>", desc := "()V", sig := { parameters := [], returnType := none }, accessFlags := 1, code := none }
def k1c1 : Code := { maxStack := 2, maxLocals := 2, code := method_2_code, exceptionTable := #[], attributes := #[] }
def k1m1 : Method := { name := "par", desc := "([II)I", sig := { parameters := [(.array .int), .int], returnType := some .int }, accessFlags := 10, code := some k1c1 }
def k1c2 : Code := { maxStack := 2, maxLocals := 7, code := method_3_code, exceptionTable := #[], attributes := #[] }
def k1m2 : Method := { name := "ref", desc := "([III)Z", sig := { parameters := [(.array .int), .int, .int], returnType := some .boolean }, accessFlags := 10, code := some k1c2 }
def k1c3 : Code := { maxStack := 2, maxLocals := 1, code := method_4_code, exceptionTable := #[], attributes := #[] }
def k1m3 : Method := { name := "first", desc := "(I)I", sig := { parameters := [.int], returnType := some .int }, accessFlags := 10, code := some k1c3 }
def k1c4 : Code := { maxStack := 2, maxLocals := 1, code := method_5_code, exceptionTable := #[], attributes := #[] }
def k1m4 : Method := { name := "second", desc := "(I)I", sig := { parameters := [.int], returnType := some .int }, accessFlags := 10, code := some k1c4 }
def k1c5 : Code := { maxStack := 4, maxLocals := 23, code := code, exceptionTable := #[], attributes := #[] }
def k1m5 : Method := { name := "law", desc := "(IIIIII)Z", sig := { parameters := [.int, .int, .int, .int, .int, .int], returnType := some .boolean }, accessFlags := 9, code := some k1c5 }
/-- com/example/rostra/rostra/tree/AncestryIsSelfOrAncestorPinLaw -/
def k1 : Class := { plain "com/example/rostra/rostra/tree/AncestryIsSelfOrAncestorPinLaw" (some 0) with
  accessFlags := 49
  interfaces := #[]
  cf := some (fileOf pool1 8 #[] #[{ accessFlags := 1, nameIndex := 5, descriptorIndex := 6, attributes := #[] }, { accessFlags := 10, nameIndex := 11, descriptorIndex := 12, attributes := #[] }, { accessFlags := 10, nameIndex := 35, descriptorIndex := 36, attributes := #[] }, { accessFlags := 10, nameIndex := 24, descriptorIndex := 25, attributes := #[] }, { accessFlags := 10, nameIndex := 28, descriptorIndex := 25, attributes := #[] }, { accessFlags := 9, nameIndex := 45, descriptorIndex := 46, attributes := #[] }] 49 2 #[] #[])
  fields := #[]
  methods := #[k1m0, k1m1, k1m2, k1m3, k1m4, k1m5]
  instanceTypes := #[]
  staticTypes := #[]
  resolved := Array.replicate 49 none
  statics := none }

def pool2 : Array CpInfo := pool [(1, .methodref 2 3), (0, .class_ 4), (0, .nameAndType 5 6), (0, u "java/lang/Object"), (0, u "<init>"), (0, u "()V"), (0, .fieldref 8 9), (0, .class_ 10), (0, .nameAndType 11 12), (0, u "com/example/rostra/rostra/tree/Ancestry"), (0, u "left"), (0, u "[I"), (0, .fieldref 8 14), (0, .nameAndType 15 12), (0, u "right"), (0, .fieldref 8 17), (0, .nameAndType 18 12), (0, u "up"), (0, .methodref 20 21), (0, .class_ 22), (0, .nameAndType 23 24), (0, u "java/util/Arrays"), (0, u "fill"), (0, u "([II)V"), (0, .methodref 8 26), (0, .nameAndType 27 28), (0, u "expose"), (0, u "(I)I"), (0, .methodref 8 30), (0, .nameAndType 31 32), (0, u "splay"), (0, u "(I)V"), (0, .methodref 8 34), (0, .nameAndType 35 36), (0, u "isSplayRoot"), (0, u "(I)Z"), (0, .methodref 8 38), (0, .nameAndType 39 32), (0, u "rotate"), (0, u "ROOT"), (0, u "I"), (2, u "NONE"), (3, u "add"), (0, u "(II)V"), (0, u "isSelfOrAncestor"), (0, u "(II)Z"), (1, u "move")] 2

def k2c0 : Code := { maxStack := 2, maxLocals := 2, code := prog_17_method_1_code, exceptionTable := #[], attributes := #[] }
def k2m0 : Method := { name := "<init>", desc := "(I)V", sig := { parameters := [.int], returnType := none }, accessFlags := 0, code := some k2c0 }
def k2c1 : Code := { maxStack := 3, maxLocals := 3, code := prog_17_method_2_code, exceptionTable := #[], attributes := #[] }
def k2m1 : Method := { name := "add", desc := "(II)V", sig := { parameters := [.int, .int], returnType := none }, accessFlags := 0, code := some k2c1 }
def k2c2 : Code := { maxStack := 2, maxLocals := 3, code := prog_17_method_3_code, exceptionTable := #[], attributes := #[] }
def k2m2 : Method := { name := "isSelfOrAncestor", desc := "(II)Z", sig := { parameters := [.int, .int], returnType := some .boolean }, accessFlags := 0, code := some k2c2 }
def k2c3 : Code := { maxStack := 3, maxLocals := 3, code := prog_17_method_4_code, exceptionTable := #[], attributes := #[] }
def k2m3 : Method := { name := "move", desc := "(II)V", sig := { parameters := [.int, .int], returnType := none }, accessFlags := 0, code := some k2c3 }
def k2c4 : Code := { maxStack := 3, maxLocals := 4, code := prog_17_method_5_code, exceptionTable := #[], attributes := #[] }
def k2m4 : Method := { name := "expose", desc := "(I)I", sig := { parameters := [.int], returnType := some .int }, accessFlags := 2, code := some k2c4 }
def k2c5 : Code := { maxStack := 3, maxLocals := 5, code := prog_17_method_6_code, exceptionTable := #[], attributes := #[] }
def k2m5 : Method := { name := "splay", desc := "(I)V", sig := { parameters := [.int], returnType := none }, accessFlags := 2, code := some k2c5 }
def k2c6 : Code := { maxStack := 4, maxLocals := 5, code := prog_17_method_7_code, exceptionTable := #[], attributes := #[] }
def k2m6 : Method := { name := "rotate", desc := "(I)V", sig := { parameters := [.int], returnType := none }, accessFlags := 2, code := some k2c6 }
def k2c7 : Code := { maxStack := 2, maxLocals := 3, code := prog_17_method_8_code, exceptionTable := #[], attributes := #[] }
def k2m7 : Method := { name := "isSplayRoot", desc := "(I)Z", sig := { parameters := [.int], returnType := some .boolean }, accessFlags := 2, code := some k2c7 }
/-- com/example/rostra/rostra/tree/Ancestry -/
def k2 : Class := { plain "com/example/rostra/rostra/tree/Ancestry" (some 0) with
  accessFlags := 49
  interfaces := #[]
  cf := some (fileOf pool2 8 #[] #[{ accessFlags := 0, nameIndex := 5, descriptorIndex := 32, attributes := #[] }, { accessFlags := 0, nameIndex := 48, descriptorIndex := 49, attributes := #[] }, { accessFlags := 0, nameIndex := 50, descriptorIndex := 51, attributes := #[] }, { accessFlags := 0, nameIndex := 53, descriptorIndex := 49, attributes := #[] }, { accessFlags := 2, nameIndex := 27, descriptorIndex := 28, attributes := #[] }, { accessFlags := 2, nameIndex := 31, descriptorIndex := 32, attributes := #[] }, { accessFlags := 2, nameIndex := 39, descriptorIndex := 32, attributes := #[] }, { accessFlags := 2, nameIndex := 35, descriptorIndex := 36, attributes := #[] }] 49 2 #[] #[{ accessFlags := 25, nameIndex := 40, descriptorIndex := 41, attributes := #[] }, { accessFlags := 26, nameIndex := 44, descriptorIndex := 41, attributes := #[] }, { accessFlags := 18, nameIndex := 11, descriptorIndex := 12, attributes := #[] }, { accessFlags := 18, nameIndex := 15, descriptorIndex := 12, attributes := #[] }, { accessFlags := 18, nameIndex := 18, descriptorIndex := 12, attributes := #[] }])
  fields := #[{ name := "ROOT", type := .int, accessFlags := 25, slot := 0, constantValue := 0 }, { name := "NONE", type := .int, accessFlags := 26, slot := 1, constantValue := 0 }, { name := "left", type := (.array .int), accessFlags := 18, slot := 0, constantValue := 0 }, { name := "right", type := (.array .int), accessFlags := 18, slot := 1, constantValue := 0 }, { name := "up", type := (.array .int), accessFlags := 18, slot := 2, constantValue := 0 }]
  methods := #[k2m0, k2m1, k2m2, k2m3, k2m4, k2m5, k2m6, k2m7]
  instanceTypes := #[(.array .int), (.array .int), (.array .int)]
  staticTypes := #[.int, .int]
  resolved := Array.replicate 56 none
  statics := none }

def pool3 : Array CpInfo := pool [(2, .class_ 4), (1, u "java/lang/Object"), (0, u "<init>"), (0, u "()V"), (7, .class_ 16), (1, u "java/util/Arrays"), (57, .class_ 76), (1, u "java/util/Arrays$NaturalOrder"), (36, .class_ 115), (1, u "java/util/Arrays$LegacyMergeSort"), (1, u "Z"), (257, .class_ 376), (0, u "java/util/Arrays$ArrayList"), (68, u "$assertionsDisabled"), (269, u "MIN_ARRAY_SORT_GRAN"), (0, u "I"), (2, u "INSERTIONSORT_THRESHOLD"), (120, u "fill"), (4, u "([II)V"), (129, .class_ 976), (0, u "java/util/Arrays$ArrayItr")] 52

def k3m0 : Method := { name := "<init>", desc := "()V", sig := { parameters := [], returnType := none }, accessFlags := 2, code := none }
def k3c1 : Code := { maxStack := 3, maxLocals := 4, code := jdk_65_method_103_code, exceptionTable := #[], attributes := #[] }
def k3m1 : Method := { name := "fill", desc := "([II)V", sig := { parameters := [(.array .int), .int], returnType := none }, accessFlags := 9, code := some k3c1 }
/-- java/util/Arrays -/
def k3 : Class := { plain "java/util/Arrays" (some 0) with
  accessFlags := 49
  interfaces := #[]
  cf := some (fileOf pool3 14 #[.nestMembers #[975, 375, 113, 74]] #[{ accessFlags := 2, nameIndex := 5, descriptorIndex := 6, attributes := #[] }, { accessFlags := 9, nameIndex := 840, descriptorIndex := 845, attributes := #[] }] 49 2 #[] #[{ accessFlags := 26, nameIndex := 715, descriptorIndex := 716, attributes := #[] }, { accessFlags := 26, nameIndex := 719, descriptorIndex := 716, attributes := #[] }, { accessFlags := 4120, nameIndex := 445, descriptorIndex := 117, attributes := #[] }])
  fields := #[{ name := "MIN_ARRAY_SORT_GRAN", type := .int, accessFlags := 26, slot := 0, constantValue := 0 }, { name := "INSERTIONSORT_THRESHOLD", type := .int, accessFlags := 26, slot := 1, constantValue := 0 }, { name := "$assertionsDisabled", type := .boolean, accessFlags := 4120, slot := 2, constantValue := 0 }]
  methods := #[k3m0, k3m1]
  instanceTypes := #[]
  staticTypes := #[.int, .int, .boolean]
  resolved := Array.replicate 1029 none
  statics := none }

def pool4 : Array CpInfo := pool [(1, u "java/lang/Cloneable"), (0, .class_ 1), (0, u "java/lang/Object"), (0, .class_ 3)] 3

/-- java/lang/Cloneable -/
def k4 : Class := { plain "java/lang/Cloneable" (some 0) with
  accessFlags := 1537
  interfaces := #[]
  cf := some (fileOf pool4 2 #[] #[] 1537 4 #[] #[])
  fields := #[]
  methods := #[]
  instanceTypes := #[]
  staticTypes := #[]
  resolved := Array.replicate 8 none
  statics := none }

def pool5 : Array CpInfo := pool [(1, u "java/io/Serializable"), (0, .class_ 1), (0, u "java/lang/Object"), (0, .class_ 3)] 3

/-- java/io/Serializable -/
def k5 : Class := { plain "java/io/Serializable" (some 0) with
  accessFlags := 1537
  interfaces := #[]
  cf := some (fileOf pool5 2 #[] #[] 1537 4 #[] #[])
  fields := #[]
  methods := #[]
  instanceTypes := #[]
  staticTypes := #[]
  resolved := Array.replicate 8 none
  statics := none }

/-- the primitive byte -/
def k6 : Class := { plain "byte" none with kind := .primitive 'B', accessFlags := 0x411 }
/-- [B -/
def k7 : Class := { plain "[B" (some 0) with kind := .array 6 .byte, interfaces := #[4, 5], accessFlags := 1041 }

/-- the primitive int -/
def k8 : Class := { plain "int" none with kind := .primitive 'I', accessFlags := 0x411 }
/-- [I -/
def k9 : Class := { plain "[I" (some 0) with kind := .array 8 .int, interfaces := #[4, 5], accessFlags := 1041 }

def heap : Heap := #[]
def classes : Array Class := #[k0, k1, k2, k3, k4, k5, k6, k7, k8, k9]
def interned : List (Array UInt16 × Addr) := []
def slotsUsed : Nat := 0
def theMethod : MethodId := ⟨1, 5⟩
def args0 : Array Value := #[.int 5, .int 1, .int 1, .int 1, .int 0, .int 4]
def aboutOver (below : List Frame) : State where
  vm := { classes := classes, interned := interned.toArray }
  heap := heap
  slotsUsed := slotsUsed
  threads := #[{ frames := .invoking theMethod args0 :: below }]
def below0 : List Frame := [.native { method := ⟨0, 0⟩, args := #[] }]
def about1 : State := aboutOver below0
def p0 : Program := .bare "" "" ""
def e0 : Env := launch0.env 0 0 0
theorem w_frames : about1.frames = Frame.invoking theMethod args0 :: below0 := rfl
set_option maxRecDepth 65536 in
theorem w_args : argsFit about1.vm theMethod args0 = true := by decide +kernel
set_option maxRecDepth 65536 in
theorem w_heap : heapFits about1 = true := by decide +kernel
set_option maxRecDepth 65536 in
theorem w_runnable : about1.curStatus? = some .runnable := by decide +kernel
set_option maxRecDepth 65536 in
theorem w_alone : about1.alone = true := by decide +kernel
set_option maxRecDepth 65536 in
theorem w_named : about1.methodNamed? x = some theMethod := by decide +kernel
set_option maxRecDepth 65536 in
theorem w_hears : about1.hears theMethod below0 = true := by decide +kernel
set_option maxRecDepth 65536 in
theorem w_ripe : about1.ripe theMethod args0 below0 = true := by decide +kernel
theorem w_running : about1.status = .running := rfl
set_option maxRecDepth 65536 in
theorem w_room : about1.hasRoom e0.platform room_1 = true :=
  launch0.hasRoom_least _ room_1 (by decide +kernel) (by decide +kernel) (by decide +kernel) (by decide +kernel) (by decide +kernel) (by decide +kernel)
theorem allAtoms_all (ts : List Jvm.Cond) (a : Array Jvm.Value) (st : Jvm.State) : (allAtoms ts).before a st = ts.all (fun c => c.before a st) := by
  induction ts with
  | nil => rfl
  | cons c t ih =>
    show (Jvm.Cond.and c (allAtoms t)).before a st = _
    rw [Jvm.Cond.before_and, ih, List.all_cons]
def words1 : List Jvm.Cond := Jvm.Cond.code x code maxLocals ret :: tables_1
/-- a 'code' word, met by the world's own term for the bytes: nothing is compared byte by byte -/
theorem code_word {y : MethodName} {bytes : ByteArray} {mx : Nat} {rt : Option FieldType} {a : Array Value} {s : State} {m : MethodId} {meth : Method} {c : Code} (h1 : s.methodNamed? y = some m) (h2 : s.vm.method? m = some meth) (h3 : meth.code = some c) (h4 : c.code = bytes)
    (h5 : (c.maxLocals == mx && c.exceptionTable.isEmpty && decide (c.maxStack ≤ mostOperands) && decide (meth.sig.returnType = rt) && !meth.locks && decide (parseMethodDescriptor y.desc = some meth.sig)) = true) : (Jvm.Cond.code y bytes mx rt).before a s = true := by
  simp only [Bool.and_eq_true, beq_iff_eq, Bool.not_eq_true', decide_eq_true_eq] at h5
  obtain ⟨⟨⟨⟨⟨g1, g2⟩, g3⟩, g4⟩, g5⟩, g6⟩ := h5
  simp [Cond.before, Cond.holds, Cond.value, h1, h2, h3, h4, g1, g2, g3, g4, g5, g6]
def isCode : Jvm.Cond → Bool
  | .code _ _ _ _ => true
  | _ => false
theorem all_split {L : List Jvm.Cond} {P : Jvm.Cond → Bool} (h1 : L.all (fun c => isCode c || P c) = true) (h2 : ∀ c ∈ L.filter isCode, P c = true) : L.all P = true := by
  refine List.all_eq_true.mpr fun c hc => ?_
  have h := List.all_eq_true.mp h1 c hc
  rcases Bool.eq_false_or_eq_true (isCode c) with hi | hi
  · exact h2 c (List.mem_filter.mpr ⟨hc, hi⟩)
  · simpa [hi] using h
set_option maxRecDepth 65536 in
theorem w_c0 : (Jvm.Cond.code x code maxLocals ret).before args0 about1 = true := code_word (m := ⟨1, 5⟩) (meth := k1m5) (c := k1c5) (by decide +kernel) rfl rfl rfl (by decide +kernel)
set_option maxRecDepth 65536 in
theorem w_c1 : (Jvm.Cond.code ({ cls := "com/example/rostra/rostra/tree/Ancestry", name := "<init>", desc := "(I)V" } : Jvm.MethodName) prog_17_method_1_code (2 : Nat) (Option.none : Option Jvm.ClassFile.FieldType)).before args0 about1 = true := code_word (m := ⟨2, 0⟩) (meth := k2m0) (c := k2c0) (by decide +kernel) rfl rfl rfl (by decide +kernel)
set_option maxRecDepth 65536 in
theorem w_c2 : (Jvm.Cond.code ({ cls := "java/lang/Object", name := "<init>", desc := "()V" } : Jvm.MethodName) object_method_1_code (1 : Nat) (Option.none : Option Jvm.ClassFile.FieldType)).before args0 about1 = true := code_word (m := ⟨0, 0⟩) (meth := k0m0) (c := k0c0) (by decide +kernel) rfl rfl rfl (by decide +kernel)
set_option maxRecDepth 65536 in
theorem w_c3 : (Jvm.Cond.code ({ cls := "java/util/Arrays", name := "fill", desc := "([II)V" } : Jvm.MethodName) jdk_65_method_103_code (4 : Nat) (Option.none : Option Jvm.ClassFile.FieldType)).before args0 about1 = true := code_word (m := ⟨3, 1⟩) (meth := k3m1) (c := k3c1) (by decide +kernel) rfl rfl rfl (by decide +kernel)
set_option maxRecDepth 65536 in
theorem w_c4 : (Jvm.Cond.code ({ cls := "com/example/rostra/rostra/tree/Ancestry", name := "add", desc := "(II)V" } : Jvm.MethodName) prog_17_method_2_code (3 : Nat) (Option.none : Option Jvm.ClassFile.FieldType)).before args0 about1 = true := code_word (m := ⟨2, 1⟩) (meth := k2m1) (c := k2c1) (by decide +kernel) rfl rfl rfl (by decide +kernel)
set_option maxRecDepth 65536 in
theorem w_c5 : (Jvm.Cond.code ({ cls := "com/example/rostra/rostra/tree/AncestryIsSelfOrAncestorPinLaw", name := "first", desc := "(I)I" } : Jvm.MethodName) method_4_code (1 : Nat) (Option.some Jvm.ClassFile.FieldType.int)).before args0 about1 = true := code_word (m := ⟨1, 3⟩) (meth := k1m3) (c := k1c3) (by decide +kernel) rfl rfl rfl (by decide +kernel)
set_option maxRecDepth 65536 in
theorem w_c6 : (Jvm.Cond.code ({ cls := "com/example/rostra/rostra/tree/AncestryIsSelfOrAncestorPinLaw", name := "second", desc := "(I)I" } : Jvm.MethodName) method_5_code (1 : Nat) (Option.some Jvm.ClassFile.FieldType.int)).before args0 about1 = true := code_word (m := ⟨1, 4⟩) (meth := k1m4) (c := k1c4) (by decide +kernel) rfl rfl rfl (by decide +kernel)
set_option maxRecDepth 65536 in
theorem w_c7 : (Jvm.Cond.code ({ cls := "com/example/rostra/rostra/tree/Ancestry", name := "isSelfOrAncestor", desc := "(II)Z" } : Jvm.MethodName) prog_17_method_3_code (3 : Nat) (Option.some Jvm.ClassFile.FieldType.boolean)).before args0 about1 = true := code_word (m := ⟨2, 2⟩) (meth := k2m2) (c := k2c2) (by decide +kernel) rfl rfl rfl (by decide +kernel)
set_option maxRecDepth 65536 in
theorem w_c8 : (Jvm.Cond.code ({ cls := "com/example/rostra/rostra/tree/Ancestry", name := "expose", desc := "(I)I" } : Jvm.MethodName) prog_17_method_5_code (4 : Nat) (Option.some Jvm.ClassFile.FieldType.int)).before args0 about1 = true := code_word (m := ⟨2, 4⟩) (meth := k2m4) (c := k2c4) (by decide +kernel) rfl rfl rfl (by decide +kernel)
set_option maxRecDepth 65536 in
theorem w_c9 : (Jvm.Cond.code ({ cls := "com/example/rostra/rostra/tree/Ancestry", name := "splay", desc := "(I)V" } : Jvm.MethodName) prog_17_method_6_code (5 : Nat) (Option.none : Option Jvm.ClassFile.FieldType)).before args0 about1 = true := code_word (m := ⟨2, 5⟩) (meth := k2m5) (c := k2c5) (by decide +kernel) rfl rfl rfl (by decide +kernel)
set_option maxRecDepth 65536 in
theorem w_c10 : (Jvm.Cond.code ({ cls := "com/example/rostra/rostra/tree/Ancestry", name := "isSplayRoot", desc := "(I)Z" } : Jvm.MethodName) prog_17_method_8_code (3 : Nat) (Option.some Jvm.ClassFile.FieldType.boolean)).before args0 about1 = true := code_word (m := ⟨2, 7⟩) (meth := k2m7) (c := k2c7) (by decide +kernel) rfl rfl rfl (by decide +kernel)
set_option maxRecDepth 65536 in
theorem w_c11 : (Jvm.Cond.code ({ cls := "com/example/rostra/rostra/tree/Ancestry", name := "rotate", desc := "(I)V" } : Jvm.MethodName) prog_17_method_7_code (5 : Nat) (Option.none : Option Jvm.ClassFile.FieldType)).before args0 about1 = true := code_word (m := ⟨2, 6⟩) (meth := k2m6) (c := k2c6) (by decide +kernel) rfl rfl rfl (by decide +kernel)
set_option maxRecDepth 65536 in
theorem w_c12 : (Jvm.Cond.code ({ cls := "com/example/rostra/rostra/tree/AncestryIsSelfOrAncestorPinLaw", name := "ref", desc := "([III)Z" } : Jvm.MethodName) method_3_code (7 : Nat) (Option.some Jvm.ClassFile.FieldType.boolean)).before args0 about1 = true := code_word (m := ⟨1, 2⟩) (meth := k1m2) (c := k1c2) (by decide +kernel) rfl rfl rfl (by decide +kernel)
set_option maxRecDepth 65536 in
theorem w_c13 : (Jvm.Cond.code ({ cls := "com/example/rostra/rostra/tree/AncestryIsSelfOrAncestorPinLaw", name := "par", desc := "([II)I" } : Jvm.MethodName) method_2_code (2 : Nat) (Option.some Jvm.ClassFile.FieldType.int)).before args0 about1 = true := code_word (m := ⟨1, 1⟩) (meth := k1m1) (c := k1c1) (by decide +kernel) rfl rfl rfl (by decide +kernel)
set_option maxRecDepth 65536 in
theorem w_c14 : (Jvm.Cond.code ({ cls := "com/example/rostra/rostra/tree/Ancestry", name := "move", desc := "(II)V" } : Jvm.MethodName) prog_17_method_4_code (3 : Nat) (Option.none : Option Jvm.ClassFile.FieldType)).before args0 about1 = true := code_word (m := ⟨2, 3⟩) (meth := k2m3) (c := k2c3) (by decide +kernel) rfl rfl rfl (by decide +kernel)
def codes1 : List Jvm.Cond := [Jvm.Cond.code x code maxLocals ret, Jvm.Cond.code ({ cls := "com/example/rostra/rostra/tree/Ancestry", name := "<init>", desc := "(I)V" } : Jvm.MethodName) prog_17_method_1_code (2 : Nat) (Option.none : Option Jvm.ClassFile.FieldType), Jvm.Cond.code ({ cls := "java/lang/Object", name := "<init>", desc := "()V" } : Jvm.MethodName) object_method_1_code (1 : Nat) (Option.none : Option Jvm.ClassFile.FieldType), Jvm.Cond.code ({ cls := "java/util/Arrays", name := "fill", desc := "([II)V" } : Jvm.MethodName) jdk_65_method_103_code (4 : Nat) (Option.none : Option Jvm.ClassFile.FieldType), Jvm.Cond.code ({ cls := "com/example/rostra/rostra/tree/Ancestry", name := "add", desc := "(II)V" } : Jvm.MethodName) prog_17_method_2_code (3 : Nat) (Option.none : Option Jvm.ClassFile.FieldType), Jvm.Cond.code ({ cls := "com/example/rostra/rostra/tree/AncestryIsSelfOrAncestorPinLaw", name := "first", desc := "(I)I" } : Jvm.MethodName) method_4_code (1 : Nat) (Option.some Jvm.ClassFile.FieldType.int), Jvm.Cond.code ({ cls := "com/example/rostra/rostra/tree/AncestryIsSelfOrAncestorPinLaw", name := "second", desc := "(I)I" } : Jvm.MethodName) method_5_code (1 : Nat) (Option.some Jvm.ClassFile.FieldType.int), Jvm.Cond.code ({ cls := "com/example/rostra/rostra/tree/Ancestry", name := "isSelfOrAncestor", desc := "(II)Z" } : Jvm.MethodName) prog_17_method_3_code (3 : Nat) (Option.some Jvm.ClassFile.FieldType.boolean), Jvm.Cond.code ({ cls := "com/example/rostra/rostra/tree/Ancestry", name := "expose", desc := "(I)I" } : Jvm.MethodName) prog_17_method_5_code (4 : Nat) (Option.some Jvm.ClassFile.FieldType.int), Jvm.Cond.code ({ cls := "com/example/rostra/rostra/tree/Ancestry", name := "splay", desc := "(I)V" } : Jvm.MethodName) prog_17_method_6_code (5 : Nat) (Option.none : Option Jvm.ClassFile.FieldType), Jvm.Cond.code ({ cls := "com/example/rostra/rostra/tree/Ancestry", name := "isSplayRoot", desc := "(I)Z" } : Jvm.MethodName) prog_17_method_8_code (3 : Nat) (Option.some Jvm.ClassFile.FieldType.boolean), Jvm.Cond.code ({ cls := "com/example/rostra/rostra/tree/Ancestry", name := "rotate", desc := "(I)V" } : Jvm.MethodName) prog_17_method_7_code (5 : Nat) (Option.none : Option Jvm.ClassFile.FieldType), Jvm.Cond.code ({ cls := "com/example/rostra/rostra/tree/AncestryIsSelfOrAncestorPinLaw", name := "ref", desc := "([III)Z" } : Jvm.MethodName) method_3_code (7 : Nat) (Option.some Jvm.ClassFile.FieldType.boolean), Jvm.Cond.code ({ cls := "com/example/rostra/rostra/tree/AncestryIsSelfOrAncestorPinLaw", name := "par", desc := "([II)I" } : Jvm.MethodName) method_2_code (2 : Nat) (Option.some Jvm.ClassFile.FieldType.int), Jvm.Cond.code ({ cls := "com/example/rostra/rostra/tree/Ancestry", name := "move", desc := "(II)V" } : Jvm.MethodName) prog_17_method_4_code (3 : Nat) (Option.none : Option Jvm.ClassFile.FieldType)]
set_option maxRecDepth 65536 in
theorem codes_eq : words1.filter isCode = codes1 := rfl
theorem w_codes : ∀ c ∈ words1.filter isCode, c.before args0 about1 = true := by
  rw [codes_eq]
  intro c hc
  simp only [codes1, List.mem_cons, List.not_mem_nil, or_false] at hc
  rcases hc with rfl | rfl | rfl | rfl | rfl | rfl | rfl | rfl | rfl | rfl | rfl | rfl | rfl | rfl | rfl
  · exact w_c0
  · exact w_c1
  · exact w_c2
  · exact w_c3
  · exact w_c4
  · exact w_c5
  · exact w_c6
  · exact w_c7
  · exact w_c8
  · exact w_c9
  · exact w_c10
  · exact w_c11
  · exact w_c12
  · exact w_c13
  · exact w_c14
set_option maxRecDepth 65536 in
theorem w_t1 : (words1.take 24).all (fun c => isCode c || c.before args0 about1) = true := by decide +kernel
set_option maxRecDepth 65536 in
theorem w_t2 : ((words1.drop 24).take 24).all (fun c => isCode c || c.before args0 about1) = true := by decide +kernel
set_option maxRecDepth 65536 in
theorem w_t3 : ((words1.drop 24).drop 24).all (fun c => isCode c || c.before args0 about1) = true := by decide +kernel
theorem w_tables : (allAtoms (Jvm.Cond.code x code maxLocals ret :: tables_1)).before args0 about1 = true := by
  rw [allAtoms_all]
  show words1.all (fun c => c.before args0 about1) = true
  refine all_split ?_ w_codes
  rw [← List.take_append_drop 24 words1, List.all_append, w_t1, ← List.take_append_drop 24 (words1.drop 24), List.all_append, w_t2, w_t3]
  rfl
set_option maxRecDepth 65536 in
theorem w_case : (Jvm.Cond.and given_1 narrow_1).before args0 about1 = true := by decide +kernel
theorem w_applies : (headSpec (Jvm.Cond.code x code maxLocals ret :: tables_1) room_1).applies x e0.platform about1 = true :=
  (Spec.applies_iff w_frames).mpr ⟨w_running, w_runnable, w_alone, w_named, w_hears, w_ripe, w_room, w_tables⟩
theorem atStart : AtStart classFile x code maxLocals ret World_1 tables_1 room_1 Calls_1 rest_1 Pre_1 launch0 p0 e0 about1 theMethod args0 below0 :=
  ⟨lists_1, trivial, launch0.admits_env _ _ _, launch0.least_env, fairChoices_fair.cas, fairChoices_fair.clock, w_frames, w_args, w_heap, w_applies, trivial, trivial, w_case⟩
end start1
theorem witness_1 : WitnessClaimed_1 := ⟨start1.p0, start1.e0, start1.about1, start1.theMethod, start1.args0, start1.below0, start1.atStart⟩
end Jvm.Pilot.@@N@@
