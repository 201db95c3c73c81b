import JvmDerived
import JvmDerived.Pilot.@@N@@Statement
import JvmDerived.Pilot.@@N@@Code
set_option linter.unusedVariables false
set_option linter.unusedSimpArgs false
namespace Jvm.RoadKit
open Sem ClassFile Op Lib Jvm.Stand Jvm.Free Jvm.LawKit
section New
variable {p : Program} {l : Launch} {e : Env} {R : Room} {s : State} {m : MethodId} {args : Array Value} {below : List Frame} {meth : Method} {c : Code} {T : State} {locs : List Loc} {cells slots : Nat}
theorem retI (X : Stand p l e R s m args below meth c T locs cells slots) (hx : p.tables.exec = Jvm.exec) {pc : Nat} {Ls : Array Slot} {z : Int32} {rest : List Value} (hret : meth.sig.returnType = some .int) (hd : decode c.code pc = .ok (.ireturn, 1)) {fs : List Frame}
    (hl : ∀ (f : JFrame) (acts : List Action), f.method = m → f.locked = none → f.entered = [] → (doReturn e (T.setTop f) acts (some (.int z))).1 = T.setFrames fs) : Steps p.tables e below (T.setTop (mkF m pc Ls (.int z :: rest))) (T.setFrames fs) := by
  have hm' : T.vm.method? m = some meth := X.method'
  have hn : narrow .int (.int z) = .int z := rfl
  show Steps p.tables e below (T.setTop { method := m, pc := pc, locals := Ls, stack := _ :: rest, locked := none }) _
  jvm_step X.here [X.here.top, hx, hd, hm', hret, hn]
  first | (intro acts; rw [hl _ acts rfl rfl rfl]) | rw [hl _ _ rfl rfl rfl]
  exact Steps.refl _
end New
end Jvm.RoadKit
namespace Jvm.Pilot.@@N@@
open Jvm Jvm.ClassFile Sem Op Lib Jvm.Free Jvm.Stand Jvm.LawKit Jvm.RoadKit Bundle Jvm.Pilot.@@N@@.Jvm.D
section Own
variable {p : Program} {l : Launch} {e : Env} {R : Room} {s : State} {m : MethodId} {args : Array Value} {below : List Frame} {meth : Method} {c : Code} {T T' : State} {locs : List Loc} {cells slots : Nat} {Q : Option Value → Heap → List Loc → Prop} {kc ks : Nat} {pc pc' : Nat} {ls : Array Slot} {st : List Value}
/-- from T with the frame g on top the run comes to its end, as Q asks -/
def own_Ends (p : Program) (e : Env) (below : List Frame) (s : State) (Q : Option Value → Heap → List Loc → Prop) (kc ks : Nat) (T : State) (g : JFrame) : Prop :=
  ∃ s₂ o, Steps p.tables e below (T.setTop g) s₂ ∧ s₂.status = .running ∧ Ended s₂ below o ∧ ∃ v L, o = .returned v ∧ Q v s₂.heap L ∧ FrameEnd s o s₂ L kc ks
theorem own_go {g g' : JFrame} (h : ∀ t, Steps p.tables e below (T'.setTop g') t → Steps p.tables e below (T.setTop g) t) (K : own_Ends p e below s Q kc ks T' g') : own_Ends p e below s Q kc ks T g := by
  obtain ⟨s2, o, h1, r⟩ := K
  exact ⟨s2, o, h _ h1, r⟩
theorem own_cast {g g' : JFrame} (q : g = g') (K : own_Ends p e below s Q kc ks T g') : own_Ends p e below s Q kc ks T g := q ▸ K
theorem own_leave {v : Option Value} {g : JFrame} (X : Stand p l e R s m args below meth c T locs cells slots) (hlk : meth.locks = false) (hv : meth.sig.returnType = none → v = none)
    (hs : ∀ fs, (∀ (f : JFrame) (acts : List Action), f.method = m → f.locked = none → f.entered = [] → (doReturn e (T.setTop f) acts v).1 = T.setFrames fs) → Steps p.tables e below (T.setTop g) (T.setFrames fs)) (hc : cells ≤ kc) (hn : slots ≤ ks) (hQ : Q v T.heap locs) : own_Ends p e below s Q kc ks T g := by
  obtain ⟨fs, hr, hrun, hended, hW, hsame⟩ := X.leave (v := v) hv hlk
  exact ⟨_, _, hs fs hr, hrun, hended, _, _, rfl, hQ, ⟨_, rfl⟩, hW, hsame.mono hc hn⟩
theorem own_retI (X : Stand p l e R s m args below meth c T locs cells slots) (hx : p.tables.exec = Jvm.exec) (hlk : meth.locks = false) {z : Int32} (hret : meth.sig.returnType = some .int) (hd : decode c.code pc = .ok (.ireturn, 1)) (hc : cells ≤ kc) (hn : slots ≤ ks) (hQ : Q (some (.int z)) T.heap locs) : own_Ends p e below s Q kc ks T (mkF m pc ls (.int z :: st)) :=
  own_leave X hlk (fun h => by rw [hret] at h; cases h) (fun fs hr => retI X hx hret hd hr) hc hn hQ
theorem own_retN (X : Stand p l e R s m args below meth c T locs cells slots) (hx : p.tables.exec = Jvm.exec) (hlk : meth.locks = false) {z : Int32} {ty : FieldType} (hret : meth.sig.returnType = some ty) (ht : ty = .boolean ∨ ty = .byte ∨ ty = .char ∨ ty = .short) (hd : decode c.code pc = .ok (.ireturn, 1)) (hc : cells ≤ kc) (hn : slots ≤ ks) (hQ : Q (some (.int (nar ty z))) T.heap locs) : own_Ends p e below s Q kc ks T (mkF m pc ls (.int z :: st)) :=
  own_leave X hlk (fun h => by rw [hret] at h; cases h) (fun fs hr => retN X hx (t := ty) hret ht hd hr) hc hn hQ
theorem own_retL (X : Stand p l e R s m args below meth c T locs cells slots) (hx : p.tables.exec = Jvm.exec) (hlk : meth.locks = false) {z : Int64} (hret : meth.sig.returnType = some .long) (hd : decode c.code pc = .ok (.lreturn, 1)) (hc : cells ≤ kc) (hn : slots ≤ ks) (hQ : Q (some (.long z)) T.heap locs) : own_Ends p e below s Q kc ks T (mkF m pc ls [.long z]) :=
  own_leave X hlk (fun h => by rw [hret] at h; cases h) (fun fs hr => retOut X hx (t := .long) hret rfl (Or.inr (Or.inl ⟨rfl, rfl, _, rfl⟩)) hd hr) hc hn hQ
theorem own_retD (X : Stand p l e R s m args below meth c T locs cells slots) (hx : p.tables.exec = Jvm.exec) (hlk : meth.locks = false) {z : UInt64} (hret : meth.sig.returnType = some .double) (hd : decode c.code pc = .ok (.dreturn, 1)) (hc : cells ≤ kc) (hn : slots ≤ ks) (hQ : Q (some (.double z)) T.heap locs) : own_Ends p e below s Q kc ks T (mkF m pc ls [.double z]) :=
  own_leave X hlk (fun h => by rw [hret] at h; cases h) (fun fs hr => retOut X hx (t := .double) hret rfl (Or.inr (Or.inr (Or.inl ⟨rfl, rfl, _, rfl⟩))) hd hr) hc hn hQ
theorem own_retA (X : Stand p l e R s m args below meth c T locs cells slots) (hx : p.tables.exec = Jvm.exec) (hlk : meth.locks = false) {w : Value} {ty : FieldType} (hret : meth.sig.returnType = some ty) (ht : ty.isReference = true) (hw : w.isRef = true) (hn1 : narrow ty w = w) (hd : decode c.code pc = .ok (.areturn, 1)) (hc : cells ≤ kc) (hn : slots ≤ ks) (hQ : Q (some w) T.heap locs) : own_Ends p e below s Q kc ks T (mkF m pc ls (w :: st)) :=
  own_leave X hlk (fun h => by rw [hret] at h; cases h) (fun fs hr => retOut X hx (t := ty) hret hn1 (Or.inr (Or.inr (Or.inr (Or.inr ⟨rfl, ht, hw⟩)))) hd hr) hc hn hQ
theorem own_retV (X : Stand p l e R s m args below meth c T locs cells slots) (hx : p.tables.exec = Jvm.exec) (hlk : meth.locks = false) (hret : meth.sig.returnType = none) (hd : decode c.code pc = .ok (.return_, 1)) (hc : cells ≤ kc) (hn : slots ≤ ks) (hQ : Q none T.heap locs) : own_Ends p e below s Q kc ks T (mkF m pc ls []) :=
  own_leave X hlk (fun _ => rfl) (fun fs hr => X.returnOut hx hret hd hr) hc hn hQ
theorem own_iloadN (X : Stand p l e R s m args below meth c T locs cells slots) (hx : p.tables.exec = Jvm.exec) {k : Fin 4} {v : Int32} (hd : decode c.code pc = .ok (.iload_n k, 1)) (hp : pc + 1 = pc') (hl : ls[k.val]? = some (.val (.int v))) (K : own_Ends p e below s Q kc ks T (mkF m pc' ls (.int v :: st))) : own_Ends p e below s Q kc ks T (mkF m pc ls st) := by
  subst hp
  exact own_go (fun t k => XS.iloadN X.here hx rfl hd hl k) K
theorem own_iload (X : Stand p l e R s m args below meth c T locs cells slots) (hx : p.tables.exec = Jvm.exec) {k : Nat} {v : Int32} (hd : decode c.code pc = .ok (.iload k, 2)) (hp : pc + 2 = pc') (hl : ls[k]? = some (.val (.int v))) (K : own_Ends p e below s Q kc ks T (mkF m pc' ls (.int v :: st))) : own_Ends p e below s Q kc ks T (mkF m pc ls st) := by
  subst hp
  exact own_go (fun t k => XS.iload X.here hx rfl hd hl k) K
theorem own_istoreN (X : Stand p l e R s m args below meth c T locs cells slots) (hx : p.tables.exec = Jvm.exec) {k : Fin 4} {v : Int32} {l' : Array Slot} (hd : decode c.code pc = .ok (.istore_n k, 1)) (hp : pc + 1 = pc') (hl : storeLocals ls k.val (.int v) = some l') (K : own_Ends p e below s Q kc ks T (mkF m pc' l' st)) : own_Ends p e below s Q kc ks T (mkF m pc ls (.int v :: st)) := by
  subst hp
  exact own_go (fun t k => XS.istoreN X.here hx rfl hd rfl hl k) K
theorem own_istore (X : Stand p l e R s m args below meth c T locs cells slots) (hx : p.tables.exec = Jvm.exec) {k : Nat} {v : Int32} {l' : Array Slot} (hd : decode c.code pc = .ok (.istore k, 2)) (hp : pc + 2 = pc') (hl : storeLocals ls k (.int v) = some l') (K : own_Ends p e below s Q kc ks T (mkF m pc' l' st)) : own_Ends p e below s Q kc ks T (mkF m pc ls (.int v :: st)) := by
  subst hp
  exact own_go (fun t k => XS.istore X.here hx rfl hd rfl hl k) K
theorem own_lloadN (X : Stand p l e R s m args below meth c T locs cells slots) (hx : p.tables.exec = Jvm.exec) {k : Fin 4} {v : Int64} (hd : decode c.code pc = .ok (.lload_n k, 1)) (hp : pc + 1 = pc') (hl : ls[k.val]? = some (.val (.long v))) (K : own_Ends p e below s Q kc ks T (mkF m pc' ls (.long v :: st))) : own_Ends p e below s Q kc ks T (mkF m pc ls st) := by
  subst hp
  exact own_go (fun t k => XS.lloadN X.here hx rfl hd hl k) K
theorem own_lload (X : Stand p l e R s m args below meth c T locs cells slots) (hx : p.tables.exec = Jvm.exec) {k : Nat} {v : Int64} (hd : decode c.code pc = .ok (.lload k, 2)) (hp : pc + 2 = pc') (hl : ls[k]? = some (.val (.long v))) (K : own_Ends p e below s Q kc ks T (mkF m pc' ls (.long v :: st))) : own_Ends p e below s Q kc ks T (mkF m pc ls st) := by
  subst hp
  exact own_go (fun t k => XS.lload X.here hx rfl hd hl k) K
theorem own_lstoreN (X : Stand p l e R s m args below meth c T locs cells slots) (hx : p.tables.exec = Jvm.exec) {k : Fin 4} {v : Int64} {l' : Array Slot} (hd : decode c.code pc = .ok (.lstore_n k, 1)) (hp : pc + 1 = pc') (hl : storeLocals ls k.val (.long v) = some l') (K : own_Ends p e below s Q kc ks T (mkF m pc' l' st)) : own_Ends p e below s Q kc ks T (mkF m pc ls (.long v :: st)) := by
  subst hp
  exact own_go (fun t k => XS.lstoreN X.here hx rfl hd rfl hl k) K
theorem own_lstore (X : Stand p l e R s m args below meth c T locs cells slots) (hx : p.tables.exec = Jvm.exec) {k : Nat} {v : Int64} {l' : Array Slot} (hd : decode c.code pc = .ok (.lstore k, 2)) (hp : pc + 2 = pc') (hl : storeLocals ls k (.long v) = some l') (K : own_Ends p e below s Q kc ks T (mkF m pc' l' st)) : own_Ends p e below s Q kc ks T (mkF m pc ls (.long v :: st)) := by
  subst hp
  exact own_go (fun t k => XS.lstore X.here hx rfl hd rfl hl k) K
theorem own_dloadN (X : Stand p l e R s m args below meth c T locs cells slots) (hx : p.tables.exec = Jvm.exec) {k : Fin 4} {v : UInt64} (hd : decode c.code pc = .ok (.dload_n k, 1)) (hp : pc + 1 = pc') (hl : ls[k.val]? = some (.val (.double v))) (K : own_Ends p e below s Q kc ks T (mkF m pc' ls (.double v :: st))) : own_Ends p e below s Q kc ks T (mkF m pc ls st) := by
  subst hp
  exact own_go (fun t k => XS.dloadN X.here hx rfl hd hl k) K
theorem own_dload (X : Stand p l e R s m args below meth c T locs cells slots) (hx : p.tables.exec = Jvm.exec) {k : Nat} {v : UInt64} (hd : decode c.code pc = .ok (.dload k, 2)) (hp : pc + 2 = pc') (hl : ls[k]? = some (.val (.double v))) (K : own_Ends p e below s Q kc ks T (mkF m pc' ls (.double v :: st))) : own_Ends p e below s Q kc ks T (mkF m pc ls st) := by
  subst hp
  exact own_go (fun t k => XS.dload X.here hx rfl hd hl k) K
theorem own_dstoreN (X : Stand p l e R s m args below meth c T locs cells slots) (hx : p.tables.exec = Jvm.exec) {k : Fin 4} {v : UInt64} {l' : Array Slot} (hd : decode c.code pc = .ok (.dstore_n k, 1)) (hp : pc + 1 = pc') (hl : storeLocals ls k.val (.double v) = some l') (K : own_Ends p e below s Q kc ks T (mkF m pc' l' st)) : own_Ends p e below s Q kc ks T (mkF m pc ls (.double v :: st)) := by
  subst hp
  exact own_go (fun t k => XS.dstoreN X.here hx rfl hd rfl hl k) K
theorem own_dstore (X : Stand p l e R s m args below meth c T locs cells slots) (hx : p.tables.exec = Jvm.exec) {k : Nat} {v : UInt64} {l' : Array Slot} (hd : decode c.code pc = .ok (.dstore k, 2)) (hp : pc + 2 = pc') (hl : storeLocals ls k (.double v) = some l') (K : own_Ends p e below s Q kc ks T (mkF m pc' l' st)) : own_Ends p e below s Q kc ks T (mkF m pc ls (.double v :: st)) := by
  subst hp
  exact own_go (fun t k => XS.dstore X.here hx rfl hd rfl hl k) K
theorem own_aloadN (X : Stand p l e R s m args below meth c T locs cells slots) (hx : p.tables.exec = Jvm.exec) {k : Fin 4} {v : Value} (hd : decode c.code pc = .ok (.aload_n k, 1)) (hp : pc + 1 = pc') (hl : ls[k.val]? = some (.val v)) (hv : v.isRef = true) (K : own_Ends p e below s Q kc ks T (mkF m pc' ls (v :: st))) : own_Ends p e below s Q kc ks T (mkF m pc ls st) := by
  subst hp
  exact own_go (fun t k => XS.aloadN X.here hx rfl hd hl hv k) K
theorem own_aload (X : Stand p l e R s m args below meth c T locs cells slots) (hx : p.tables.exec = Jvm.exec) {k : Nat} {v : Value} (hd : decode c.code pc = .ok (.aload k, 2)) (hp : pc + 2 = pc') (hl : ls[k]? = some (.val v)) (hv : v.isRef = true) (K : own_Ends p e below s Q kc ks T (mkF m pc' ls (v :: st))) : own_Ends p e below s Q kc ks T (mkF m pc ls st) := by
  subst hp
  exact own_go (fun t k => XS.aload X.here hx rfl hd hl hv k) K
theorem own_astoreN (X : Stand p l e R s m args below meth c T locs cells slots) (hx : p.tables.exec = Jvm.exec) {k : Fin 4} {v : Value} {l' : Array Slot} (hd : decode c.code pc = .ok (.astore_n k, 1)) (hp : pc + 1 = pc') (hv : v.isRef = true) (hl : storeLocals ls k.val v = some l') (K : own_Ends p e below s Q kc ks T (mkF m pc' l' st)) : own_Ends p e below s Q kc ks T (mkF m pc ls (v :: st)) := by
  subst hp
  exact own_go (fun t k => XS.astoreN X.here hx rfl hd rfl hv hl k) K
theorem own_astore (X : Stand p l e R s m args below meth c T locs cells slots) (hx : p.tables.exec = Jvm.exec) {k : Nat} {v : Value} {l' : Array Slot} (hd : decode c.code pc = .ok (.astore k, 2)) (hp : pc + 2 = pc') (hv : v.isRef = true) (hl : storeLocals ls k v = some l') (K : own_Ends p e below s Q kc ks T (mkF m pc' l' st)) : own_Ends p e below s Q kc ks T (mkF m pc ls (v :: st)) := by
  subst hp
  exact own_go (fun t k => XS.astore X.here hx rfl hd rfl hv hl k) K
theorem own_iconst (X : Stand p l e R s m args below meth c T locs cells slots) (hx : p.tables.exec = Jvm.exec) {i : Int} {z : Int32} (hd : decode c.code pc = .ok (.iconst i, 1)) (hp : pc + 1 = pc') (hz : Int32.ofInt i = z) (K : own_Ends p e below s Q kc ks T (mkF m pc' ls (.int z :: st))) : own_Ends p e below s Q kc ks T (mkF m pc ls st) := by
  subst hp hz
  exact own_go (fun t k => XS.iconst X.here hx rfl hd k) K
theorem own_bipush (X : Stand p l e R s m args below meth c T locs cells slots) (hx : p.tables.exec = Jvm.exec) {i : Int} {z : Int32} (hd : decode c.code pc = .ok (.bipush i, 2)) (hp : pc + 2 = pc') (hz : (Int8.ofInt i).toInt32 = z) (K : own_Ends p e below s Q kc ks T (mkF m pc' ls (.int z :: st))) : own_Ends p e below s Q kc ks T (mkF m pc ls st) := by
  subst hp hz
  exact own_go (fun t k => XS.bipush X.here hx rfl hd k) K
theorem own_sipush (X : Stand p l e R s m args below meth c T locs cells slots) (hx : p.tables.exec = Jvm.exec) {i : Int} {z : Int32} (hd : decode c.code pc = .ok (.sipush i, 3)) (hp : pc + 3 = pc') (hz : (Int16.ofInt i).toInt32 = z) (K : own_Ends p e below s Q kc ks T (mkF m pc' ls (.int z :: st))) : own_Ends p e below s Q kc ks T (mkF m pc ls st) := by
  subst hp hz
  exact own_go (fun t k => XS.sipush X.here hx rfl hd k) K
theorem own_lconst (X : Stand p l e R s m args below meth c T locs cells slots) (hx : p.tables.exec = Jvm.exec) {k : Fin 2} {z : Int64} (hd : decode c.code pc = .ok (.lconst k, 1)) (hp : pc + 1 = pc') (hz : Int64.ofNat k = z) (K : own_Ends p e below s Q kc ks T (mkF m pc' ls (.long z :: st))) : own_Ends p e below s Q kc ks T (mkF m pc ls st) := by
  subst hp hz
  exact own_go (fun t k => XS.lconst X.here hx rfl hd k) K
theorem own_anull (X : Stand p l e R s m args below meth c T locs cells slots) (hx : p.tables.exec = Jvm.exec) (hd : decode c.code pc = .ok (.aconst_null, 1)) (hp : pc + 1 = pc')  (K : own_Ends p e below s Q kc ks T (mkF m pc' ls (.null :: st))) : own_Ends p e below s Q kc ks T (mkF m pc ls st) := by
  subst hp
  exact own_go (fun t k => XS.aconstNull X.here hx rfl hd k) K
theorem own_iadd (X : Stand p l e R s m args below meth c T locs cells slots) (hx : p.tables.exec = Jvm.exec) {x y z : Int32} (hd : decode c.code pc = .ok (.iadd, 1)) (hp : pc + 1 = pc') (hz : x + y = z) (K : own_Ends p e below s Q kc ks T (mkF m pc' ls (.int z :: st))) : own_Ends p e below s Q kc ks T (mkF m pc ls (.int y :: .int x :: st)) := by
  subst hp hz
  exact own_go (fun t k => XS.iadd X.here hx rfl hd rfl k) K
theorem own_ladd (X : Stand p l e R s m args below meth c T locs cells slots) (hx : p.tables.exec = Jvm.exec) {x y z : Int64} (hd : decode c.code pc = .ok (.ladd, 1)) (hp : pc + 1 = pc') (hz : x + y = z) (K : own_Ends p e below s Q kc ks T (mkF m pc' ls (.long z :: st))) : own_Ends p e below s Q kc ks T (mkF m pc ls (.long y :: .long x :: st)) := by
  subst hp hz
  exact own_go (fun t k => XS.ladd X.here hx rfl hd rfl k) K
theorem own_isub (X : Stand p l e R s m args below meth c T locs cells slots) (hx : p.tables.exec = Jvm.exec) {x y z : Int32} (hd : decode c.code pc = .ok (.isub, 1)) (hp : pc + 1 = pc') (hz : x - y = z) (K : own_Ends p e below s Q kc ks T (mkF m pc' ls (.int z :: st))) : own_Ends p e below s Q kc ks T (mkF m pc ls (.int y :: .int x :: st)) := by
  subst hp hz
  exact own_go (fun t k => XS.isub X.here hx rfl hd rfl k) K
theorem own_lsub (X : Stand p l e R s m args below meth c T locs cells slots) (hx : p.tables.exec = Jvm.exec) {x y z : Int64} (hd : decode c.code pc = .ok (.lsub, 1)) (hp : pc + 1 = pc') (hz : x - y = z) (K : own_Ends p e below s Q kc ks T (mkF m pc' ls (.long z :: st))) : own_Ends p e below s Q kc ks T (mkF m pc ls (.long y :: .long x :: st)) := by
  subst hp hz
  exact own_go (fun t k => XS.lsub X.here hx rfl hd rfl k) K
theorem own_imul (X : Stand p l e R s m args below meth c T locs cells slots) (hx : p.tables.exec = Jvm.exec) {x y z : Int32} (hd : decode c.code pc = .ok (.imul, 1)) (hp : pc + 1 = pc') (hz : x * y = z) (K : own_Ends p e below s Q kc ks T (mkF m pc' ls (.int z :: st))) : own_Ends p e below s Q kc ks T (mkF m pc ls (.int y :: .int x :: st)) := by
  subst hp hz
  exact own_go (fun t k => XS.imul X.here hx rfl hd rfl k) K
theorem own_lmul (X : Stand p l e R s m args below meth c T locs cells slots) (hx : p.tables.exec = Jvm.exec) {x y z : Int64} (hd : decode c.code pc = .ok (.lmul, 1)) (hp : pc + 1 = pc') (hz : x * y = z) (K : own_Ends p e below s Q kc ks T (mkF m pc' ls (.long z :: st))) : own_Ends p e below s Q kc ks T (mkF m pc ls (.long y :: .long x :: st)) := by
  subst hp hz
  exact own_go (fun t k => XS.lmul X.here hx rfl hd rfl k) K
theorem own_iand (X : Stand p l e R s m args below meth c T locs cells slots) (hx : p.tables.exec = Jvm.exec) {x y z : Int32} (hd : decode c.code pc = .ok (.iand, 1)) (hp : pc + 1 = pc') (hz : x &&& y = z) (K : own_Ends p e below s Q kc ks T (mkF m pc' ls (.int z :: st))) : own_Ends p e below s Q kc ks T (mkF m pc ls (.int y :: .int x :: st)) := by
  subst hp hz
  exact own_go (fun t k => XS.iand X.here hx rfl hd rfl k) K
theorem own_land (X : Stand p l e R s m args below meth c T locs cells slots) (hx : p.tables.exec = Jvm.exec) {x y z : Int64} (hd : decode c.code pc = .ok (.land, 1)) (hp : pc + 1 = pc') (hz : x &&& y = z) (K : own_Ends p e below s Q kc ks T (mkF m pc' ls (.long z :: st))) : own_Ends p e below s Q kc ks T (mkF m pc ls (.long y :: .long x :: st)) := by
  subst hp hz
  exact own_go (fun t k => XS.land X.here hx rfl hd rfl k) K
theorem own_ior (X : Stand p l e R s m args below meth c T locs cells slots) (hx : p.tables.exec = Jvm.exec) {x y z : Int32} (hd : decode c.code pc = .ok (.ior, 1)) (hp : pc + 1 = pc') (hz : x ||| y = z) (K : own_Ends p e below s Q kc ks T (mkF m pc' ls (.int z :: st))) : own_Ends p e below s Q kc ks T (mkF m pc ls (.int y :: .int x :: st)) := by
  subst hp hz
  exact own_go (fun t k => XS.ior X.here hx rfl hd rfl k) K
theorem own_lor (X : Stand p l e R s m args below meth c T locs cells slots) (hx : p.tables.exec = Jvm.exec) {x y z : Int64} (hd : decode c.code pc = .ok (.lor, 1)) (hp : pc + 1 = pc') (hz : x ||| y = z) (K : own_Ends p e below s Q kc ks T (mkF m pc' ls (.long z :: st))) : own_Ends p e below s Q kc ks T (mkF m pc ls (.long y :: .long x :: st)) := by
  subst hp hz
  exact own_go (fun t k => XS.lor X.here hx rfl hd rfl k) K
theorem own_ixor (X : Stand p l e R s m args below meth c T locs cells slots) (hx : p.tables.exec = Jvm.exec) {x y z : Int32} (hd : decode c.code pc = .ok (.ixor, 1)) (hp : pc + 1 = pc') (hz : x ^^^ y = z) (K : own_Ends p e below s Q kc ks T (mkF m pc' ls (.int z :: st))) : own_Ends p e below s Q kc ks T (mkF m pc ls (.int y :: .int x :: st)) := by
  subst hp hz
  exact own_go (fun t k => XS.ixor X.here hx rfl hd rfl k) K
theorem own_lxor (X : Stand p l e R s m args below meth c T locs cells slots) (hx : p.tables.exec = Jvm.exec) {x y z : Int64} (hd : decode c.code pc = .ok (.lxor, 1)) (hp : pc + 1 = pc') (hz : x ^^^ y = z) (K : own_Ends p e below s Q kc ks T (mkF m pc' ls (.long z :: st))) : own_Ends p e below s Q kc ks T (mkF m pc ls (.long y :: .long x :: st)) := by
  subst hp hz
  exact own_go (fun t k => XS.lxor X.here hx rfl hd rfl k) K
theorem own_ishl (X : Stand p l e R s m args below meth c T locs cells slots) (hx : p.tables.exec = Jvm.exec) {x y z : Int32} (hd : decode c.code pc = .ok (.ishl, 1)) (hp : pc + 1 = pc') (hz : x <<< (y &&& 31) = z) (K : own_Ends p e below s Q kc ks T (mkF m pc' ls (.int z :: st))) : own_Ends p e below s Q kc ks T (mkF m pc ls (.int y :: .int x :: st)) := by
  subst hp hz
  exact own_go (fun t k => XS.ishl X.here hx rfl hd rfl k) K
theorem own_ishr (X : Stand p l e R s m args below meth c T locs cells slots) (hx : p.tables.exec = Jvm.exec) {x y z : Int32} (hd : decode c.code pc = .ok (.ishr, 1)) (hp : pc + 1 = pc') (hz : x >>> (y &&& 31) = z) (K : own_Ends p e below s Q kc ks T (mkF m pc' ls (.int z :: st))) : own_Ends p e below s Q kc ks T (mkF m pc ls (.int y :: .int x :: st)) := by
  subst hp hz
  exact own_go (fun t k => XS.ishr X.here hx rfl hd rfl k) K
theorem own_iushr (X : Stand p l e R s m args below meth c T locs cells slots) (hx : p.tables.exec = Jvm.exec) {x y z : Int32} (hd : decode c.code pc = .ok (.iushr, 1)) (hp : pc + 1 = pc') (hz : (x.toUInt32 >>> (y &&& 31).toUInt32).toInt32 = z) (K : own_Ends p e below s Q kc ks T (mkF m pc' ls (.int z :: st))) : own_Ends p e below s Q kc ks T (mkF m pc ls (.int y :: .int x :: st)) := by
  subst hp hz
  exact own_go (fun t k => XS.iushr X.here hx rfl hd rfl k) K
theorem own_lshl (X : Stand p l e R s m args below meth c T locs cells slots) (hx : p.tables.exec = Jvm.exec) {x z : Int64} {y : Int32} (hd : decode c.code pc = .ok (.lshl, 1)) (hp : pc + 1 = pc') (hz : x <<< (y &&& 0x3f).toInt64 = z) (K : own_Ends p e below s Q kc ks T (mkF m pc' ls (.long z :: st))) : own_Ends p e below s Q kc ks T (mkF m pc ls (.int y :: .long x :: st)) := by
  subst hp hz
  exact own_go (fun t k => XS.lshl X.here hx rfl hd rfl k) K
theorem own_lshr (X : Stand p l e R s m args below meth c T locs cells slots) (hx : p.tables.exec = Jvm.exec) {x z : Int64} {y : Int32} (hd : decode c.code pc = .ok (.lshr, 1)) (hp : pc + 1 = pc') (hz : x >>> (y &&& 0x3f).toInt64 = z) (K : own_Ends p e below s Q kc ks T (mkF m pc' ls (.long z :: st))) : own_Ends p e below s Q kc ks T (mkF m pc ls (.int y :: .long x :: st)) := by
  subst hp hz
  exact own_go (fun t k => XS.lshr X.here hx rfl hd rfl k) K
theorem own_lushr (X : Stand p l e R s m args below meth c T locs cells slots) (hx : p.tables.exec = Jvm.exec) {x z : Int64} {y : Int32} (hd : decode c.code pc = .ok (.lushr, 1)) (hp : pc + 1 = pc') (hz : (x.toUInt64 >>> (y &&& 0x3f).toInt64.toUInt64).toInt64 = z) (K : own_Ends p e below s Q kc ks T (mkF m pc' ls (.long z :: st))) : own_Ends p e below s Q kc ks T (mkF m pc ls (.int y :: .long x :: st)) := by
  subst hp hz
  exact own_go (fun t k => XS.lushr X.here hx rfl hd rfl k) K
theorem own_idiv (X : Stand p l e R s m args below meth c T locs cells slots) (hx : p.tables.exec = Jvm.exec) {x y z : Int32} (hd : decode c.code pc = .ok (.idiv, 1)) (hp : pc + 1 = pc') (hy : y ≠ 0) (hz : x / y = z) (K : own_Ends p e below s Q kc ks T (mkF m pc' ls (.int z :: st))) : own_Ends p e below s Q kc ks T (mkF m pc ls (.int y :: .int x :: st)) := by
  subst hp hz
  exact own_go (fun t k => XS.idiv X.here hx rfl hd rfl hy k) K
theorem own_irem (X : Stand p l e R s m args below meth c T locs cells slots) (hx : p.tables.exec = Jvm.exec) {x y z : Int32} (hd : decode c.code pc = .ok (.irem, 1)) (hp : pc + 1 = pc') (hy : y ≠ 0) (hz : x % y = z) (K : own_Ends p e below s Q kc ks T (mkF m pc' ls (.int z :: st))) : own_Ends p e below s Q kc ks T (mkF m pc ls (.int y :: .int x :: st)) := by
  subst hp hz
  exact own_go (fun t k => iremM (g := mkF m pc ls (.int y :: .int x :: st)) X hx rfl hd rfl hy k) K
theorem own_ldiv (X : Stand p l e R s m args below meth c T locs cells slots) (hx : p.tables.exec = Jvm.exec) {x y z : Int64} (hd : decode c.code pc = .ok (.ldiv, 1)) (hp : pc + 1 = pc') (hy : y ≠ 0) (hz : x / y = z) (K : own_Ends p e below s Q kc ks T (mkF m pc' ls (.long z :: st))) : own_Ends p e below s Q kc ks T (mkF m pc ls (.long y :: .long x :: st)) := by
  subst hp hz
  exact own_go (fun t k => XS.ldiv X.here hx rfl hd rfl hy k) K
theorem own_lrem (X : Stand p l e R s m args below meth c T locs cells slots) (hx : p.tables.exec = Jvm.exec) {x y z : Int64} (hd : decode c.code pc = .ok (.lrem, 1)) (hp : pc + 1 = pc') (hy : y ≠ 0) (hz : x - (x / y) * y = z) (K : own_Ends p e below s Q kc ks T (mkF m pc' ls (.long z :: st))) : own_Ends p e below s Q kc ks T (mkF m pc ls (.long y :: .long x :: st)) := by
  subst hp hz
  exact own_go (fun t k => XS.lrem X.here hx rfl hd rfl hy k) K
theorem own_ineg (X : Stand p l e R s m args below meth c T locs cells slots) (hx : p.tables.exec = Jvm.exec) {x : Int32} {z : Int32} (hd : decode c.code pc = .ok (.ineg, 1)) (hp : pc + 1 = pc') (hz : -x = z) (K : own_Ends p e below s Q kc ks T (mkF m pc' ls (.int z :: st))) : own_Ends p e below s Q kc ks T (mkF m pc ls (.int x :: st)) := by
  subst hp hz
  exact own_go (fun t k => XS.ineg X.here hx rfl hd rfl k) K
theorem own_lneg (X : Stand p l e R s m args below meth c T locs cells slots) (hx : p.tables.exec = Jvm.exec) {x : Int64} {z : Int64} (hd : decode c.code pc = .ok (.lneg, 1)) (hp : pc + 1 = pc') (hz : -x = z) (K : own_Ends p e below s Q kc ks T (mkF m pc' ls (.long z :: st))) : own_Ends p e below s Q kc ks T (mkF m pc ls (.long x :: st)) := by
  subst hp hz
  exact own_go (fun t k => XS.lneg X.here hx rfl hd rfl k) K
theorem own_i2l (X : Stand p l e R s m args below meth c T locs cells slots) (hx : p.tables.exec = Jvm.exec) {x : Int32} {z : Int64} (hd : decode c.code pc = .ok (.i2l, 1)) (hp : pc + 1 = pc') (hz : x.toInt64 = z) (K : own_Ends p e below s Q kc ks T (mkF m pc' ls (.long z :: st))) : own_Ends p e below s Q kc ks T (mkF m pc ls (.int x :: st)) := by
  subst hp hz
  exact own_go (fun t k => XS.i2l X.here hx rfl hd rfl k) K
theorem own_l2i (X : Stand p l e R s m args below meth c T locs cells slots) (hx : p.tables.exec = Jvm.exec) {x : Int64} {z : Int32} (hd : decode c.code pc = .ok (.l2i, 1)) (hp : pc + 1 = pc') (hz : x.toInt32 = z) (K : own_Ends p e below s Q kc ks T (mkF m pc' ls (.int z :: st))) : own_Ends p e below s Q kc ks T (mkF m pc ls (.long x :: st)) := by
  subst hp hz
  exact own_go (fun t k => XS.l2i X.here hx rfl hd rfl k) K
theorem own_i2b (X : Stand p l e R s m args below meth c T locs cells slots) (hx : p.tables.exec = Jvm.exec) {x : Int32} {z : Int32} (hd : decode c.code pc = .ok (.i2b, 1)) (hp : pc + 1 = pc') (hz : x.toInt8.toInt32 = z) (K : own_Ends p e below s Q kc ks T (mkF m pc' ls (.int z :: st))) : own_Ends p e below s Q kc ks T (mkF m pc ls (.int x :: st)) := by
  subst hp hz
  exact own_go (fun t k => XS.i2b X.here hx rfl hd rfl k) K
theorem own_i2s (X : Stand p l e R s m args below meth c T locs cells slots) (hx : p.tables.exec = Jvm.exec) {x : Int32} {z : Int32} (hd : decode c.code pc = .ok (.i2s, 1)) (hp : pc + 1 = pc') (hz : x.toInt16.toInt32 = z) (K : own_Ends p e below s Q kc ks T (mkF m pc' ls (.int z :: st))) : own_Ends p e below s Q kc ks T (mkF m pc ls (.int x :: st)) := by
  subst hp hz
  exact own_go (fun t k => XS.i2s X.here hx rfl hd rfl k) K
theorem own_i2c (X : Stand p l e R s m args below meth c T locs cells slots) (hx : p.tables.exec = Jvm.exec) {x : Int32} {z : Int32} (hd : decode c.code pc = .ok (.i2c, 1)) (hp : pc + 1 = pc') (hz : x.toUInt32.toUInt16.toUInt32.toInt32 = z) (K : own_Ends p e below s Q kc ks T (mkF m pc' ls (.int z :: st))) : own_Ends p e below s Q kc ks T (mkF m pc ls (.int x :: st)) := by
  subst hp hz
  exact own_go (fun t k => XS.i2c X.here hx rfl hd rfl k) K
theorem own_i2d (X : Stand p l e R s m args below meth c T locs cells slots) (hx : p.tables.exec = Jvm.exec) {x : Int32} {z : UInt64} (hd : decode c.code pc = .ok (.i2d, 1)) (hp : pc + 1 = pc') (hz : FP.i2d x = z) (K : own_Ends p e below s Q kc ks T (mkF m pc' ls (.double z :: st))) : own_Ends p e below s Q kc ks T (mkF m pc ls (.int x :: st)) := by
  subst hp hz
  exact own_go (fun t k => XS.i2dS (g := mkF m pc ls (.int x :: st)) X.here hx rfl hd rfl rfl k) K
theorem own_dadd (X : Stand p l e R s m args below meth c T locs cells slots) (hx : p.tables.exec = Jvm.exec) {x y z : UInt64} (hd : decode c.code pc = .ok (.dadd, 1)) (hp : pc + 1 = pc') (hn : Jvm.Free.Fl.NoNaN64 (FP.dadd x y)) (hz : FP.dadd x y = z) (K : own_Ends p e below s Q kc ks T (mkF m pc' ls (.double z :: st))) : own_Ends p e below s Q kc ks T (mkF m pc ls (.double y :: .double x :: st)) := by
  subst hp hz
  exact own_go (fun t k => XS.daddS (g := mkF m pc ls (.double y :: .double x :: st)) X.here hx rfl hd rfl hn rfl k) K
theorem own_dmul (X : Stand p l e R s m args below meth c T locs cells slots) (hx : p.tables.exec = Jvm.exec) {x y z : UInt64} (hd : decode c.code pc = .ok (.dmul, 1)) (hp : pc + 1 = pc') (hn : Jvm.Free.Fl.NoNaN64 (FP.dmul x y)) (hz : FP.dmul x y = z) (K : own_Ends p e below s Q kc ks T (mkF m pc' ls (.double z :: st))) : own_Ends p e below s Q kc ks T (mkF m pc ls (.double y :: .double x :: st)) := by
  subst hp hz
  exact own_go (fun t k => XS.dmulS (g := mkF m pc ls (.double y :: .double x :: st)) X.here hx rfl hd rfl hn rfl k) K
theorem own_dcmp (X : Stand p l e R s m args below meth c T locs cells slots) (hx : p.tables.exec = Jvm.exec) {o : CmpOp} {x y : UInt64} {z : Int32} (hd : decode c.code pc = .ok (.dcmp o, 1)) (hp : pc + 1 = pc') (hz : cmpValue (FP.dcmp x y) o = z) (K : own_Ends p e below s Q kc ks T (mkF m pc' ls (.int z :: st))) : own_Ends p e below s Q kc ks T (mkF m pc ls (.double y :: .double x :: st)) := by
  subst hp hz
  exact own_go (fun t k => XS.dcmpS (g := mkF m pc ls (.double y :: .double x :: st)) X.here hx rfl hd rfl rfl k) K
theorem own_lcmp (X : Stand p l e R s m args below meth c T locs cells slots) (hx : p.tables.exec = Jvm.exec) {x y : Int64} {z : Int32} (hd : decode c.code pc = .ok (.lcmp, 1)) (hp : pc + 1 = pc') (hz : lcmpW x y = z) (K : own_Ends p e below s Q kc ks T (mkF m pc' ls (.int z :: st))) : own_Ends p e below s Q kc ks T (mkF m pc ls (.long y :: .long x :: st)) := by
  subst hp hz
  exact own_go (fun t k => XS.lcmp X.here hx rfl hd rfl k) K
theorem own_pop (X : Stand p l e R s m args below meth c T locs cells slots) (hx : p.tables.exec = Jvm.exec) {v : Value} (hd : decode c.code pc = .ok (.pop, 1)) (hp : pc + 1 = pc') (hc : v.category = 1) (K : own_Ends p e below s Q kc ks T (mkF m pc' ls st)) : own_Ends p e below s Q kc ks T (mkF m pc ls (v :: st)) := by
  subst hp
  exact own_go (fun t k => XS.pop X.here hx rfl hd rfl hc k) K
theorem own_dup (X : Stand p l e R s m args below meth c T locs cells slots) (hx : p.tables.exec = Jvm.exec) {v : Value} (hd : decode c.code pc = .ok (.dup, 1)) (hp : pc + 1 = pc') (hc : v.category = 1) (K : own_Ends p e below s Q kc ks T (mkF m pc' ls (v :: v :: st))) : own_Ends p e below s Q kc ks T (mkF m pc ls (v :: st)) := by
  subst hp
  exact own_go (fun t k => XS.dup X.here hx rfl hd rfl hc k) K
theorem own_dupX1 (X : Stand p l e R s m args below meth c T locs cells slots) (hx : p.tables.exec = Jvm.exec) {v w : Value} (hd : decode c.code pc = .ok (.dup_x1, 1)) (hp : pc + 1 = pc') (hc : v.category = 1) (hc' : w.category = 1) (K : own_Ends p e below s Q kc ks T (mkF m pc' ls (v :: w :: v :: st))) : own_Ends p e below s Q kc ks T (mkF m pc ls (v :: w :: st)) := by
  subst hp
  exact own_go (fun t k => XS.dupX1 X.here hx rfl hd rfl hc hc' k) K
theorem own_dup2 (X : Stand p l e R s m args below meth c T locs cells slots) (hx : p.tables.exec = Jvm.exec) {v w : Value} (hd : decode c.code pc = .ok (.dup2, 1)) (hp : pc + 1 = pc') (hc : v.category = 1) (hc' : w.category = 1) (K : own_Ends p e below s Q kc ks T (mkF m pc' ls (v :: w :: v :: w :: st))) : own_Ends p e below s Q kc ks T (mkF m pc ls (v :: w :: st)) := by
  subst hp
  exact own_go (fun t k => XT.dup2 X.here hx rfl hd rfl hc hc' k) K
theorem own_dup2L (X : Stand p l e R s m args below meth c T locs cells slots) (hx : p.tables.exec = Jvm.exec) {x : Int64} (hd : decode c.code pc = .ok (.dup2, 1)) (hp : pc + 1 = pc')  (K : own_Ends p e below s Q kc ks T (mkF m pc' ls (.long x :: .long x :: st))) : own_Ends p e below s Q kc ks T (mkF m pc ls (.long x :: st)) := by
  subst hp
  exact own_go (fun t k => XT.dup2L X.here hx rfl hd rfl k) K
theorem own_iinc (X : Stand p l e R s m args below meth c T locs cells slots) (hx : p.tables.exec = Jvm.exec) {k : Nat} {i : Int} {x z : Int32} {l' : Array Slot} (hd : decode c.code pc = .ok (.iinc k i, 3)) (hp : pc + 3 = pc') (hl : ls[k]? = some (.val (.int x))) (hz : x + Int32.ofInt i = z) (hl' : storeLocals ls k (.int z) = some l') (K : own_Ends p e below s Q kc ks T (mkF m pc' l' st)) : own_Ends p e below s Q kc ks T (mkF m pc ls st) := by
  subst hp hz
  exact own_go (fun t k => XS.iinc X.here hx rfl hd hl hl' k) K
theorem own_goto (X : Stand p l e R s m args below meth c T locs cells slots) (hx : p.tables.exec = Jvm.exec) {o : Int} (hd : decode c.code pc = .ok (.goto o, 3)) (ho : 0 ≤ (pc : Int) + o) (hp : ((pc : Int) + o).toNat = pc') (K : own_Ends p e below s Q kc ks T (mkF m pc' ls st)) : own_Ends p e below s Q kc ks T (mkF m pc ls st) :=
  own_go (fun t k => XS.goto X.here hx rfl rfl hd ho hp k) K
theorem own_ifYes (X : Stand p l e R s m args below meth c T locs cells slots) (hx : p.tables.exec = Jvm.exec) {o : Int} {cd : ClassFile.Cond} {x : Int32} (hd : decode c.code pc = .ok (.ifCond cd o, 3)) (hc : if_icmp.holds cd x 0 = true) (ho : 0 ≤ (pc : Int) + o) (hp : ((pc : Int) + o).toNat = pc') (K : own_Ends p e below s Q kc ks T (mkF m pc' ls st)) : own_Ends p e below s Q kc ks T (mkF m pc ls (.int x :: st)) :=
  own_go (fun t k => XS.ifYes X.here hx rfl rfl hd rfl ((if0 _ _).trans hc) ho hp k) K
theorem own_ifNo (X : Stand p l e R s m args below meth c T locs cells slots) (hx : p.tables.exec = Jvm.exec) {o : Int} {cd : ClassFile.Cond} {x : Int32} (hd : decode c.code pc = .ok (.ifCond cd o, 3)) (hp : pc + 3 = pc') (hc : if_icmp.holds cd x 0 = false) (K : own_Ends p e below s Q kc ks T (mkF m pc' ls st)) : own_Ends p e below s Q kc ks T (mkF m pc ls (.int x :: st)) := by
  subst hp
  exact own_go (fun t k => XS.ifNo X.here hx rfl hd rfl ((if0 _ _).trans hc) k) K
theorem own_icmpYes (X : Stand p l e R s m args below meth c T locs cells slots) (hx : p.tables.exec = Jvm.exec) {o : Int} {cd : ClassFile.Cond} {x y : Int32} (hd : decode c.code pc = .ok (.if_icmp cd o, 3)) (hc : if_icmp.holds cd x y = true) (ho : 0 ≤ (pc : Int) + o) (hp : ((pc : Int) + o).toNat = pc') (K : own_Ends p e below s Q kc ks T (mkF m pc' ls st)) : own_Ends p e below s Q kc ks T (mkF m pc ls (.int y :: .int x :: st)) :=
  own_go (fun t k => XS.icmpYes X.here hx rfl rfl hd rfl hc ho hp k) K
theorem own_icmpNo (X : Stand p l e R s m args below meth c T locs cells slots) (hx : p.tables.exec = Jvm.exec) {o : Int} {cd : ClassFile.Cond} {x y : Int32} (hd : decode c.code pc = .ok (.if_icmp cd o, 3)) (hp : pc + 3 = pc') (hc : if_icmp.holds cd x y = false) (K : own_Ends p e below s Q kc ks T (mkF m pc' ls st)) : own_Ends p e below s Q kc ks T (mkF m pc ls (.int y :: .int x :: st)) := by
  subst hp
  exact own_go (fun t k => XS.icmpNo X.here hx rfl hd rfl hc k) K
theorem own_ifnullYes (X : Stand p l e R s m args below meth c T locs cells slots) (hx : p.tables.exec = Jvm.exec) {o : Int} (hd : decode c.code pc = .ok (.ifnull o, 3)) (ho : 0 ≤ (pc : Int) + o) (hp : ((pc : Int) + o).toNat = pc') (K : own_Ends p e below s Q kc ks T (mkF m pc' ls st)) : own_Ends p e below s Q kc ks T (mkF m pc ls (.null :: st)) :=
  own_go (fun t k => XS.ifnullYes X.here hx rfl rfl hd rfl ho hp k) K
theorem own_ifnullNo (X : Stand p l e R s m args below meth c T locs cells slots) (hx : p.tables.exec = Jvm.exec) {o : Int} {b : Addr} (hd : decode c.code pc = .ok (.ifnull o, 3)) (hp : pc + 3 = pc')  (K : own_Ends p e below s Q kc ks T (mkF m pc' ls st)) : own_Ends p e below s Q kc ks T (mkF m pc ls (.ref b :: st)) := by
  subst hp
  exact own_go (fun t k => XS.ifnullNo X.here hx rfl hd rfl k) K
theorem own_ifnonnullYes (X : Stand p l e R s m args below meth c T locs cells slots) (hx : p.tables.exec = Jvm.exec) {o : Int} {b : Addr} (hd : decode c.code pc = .ok (.ifnonnull o, 3)) (ho : 0 ≤ (pc : Int) + o) (hp : ((pc : Int) + o).toNat = pc') (K : own_Ends p e below s Q kc ks T (mkF m pc' ls st)) : own_Ends p e below s Q kc ks T (mkF m pc ls (.ref b :: st)) :=
  own_go (fun t k => XS.ifnonnullYes X.here hx rfl rfl hd rfl ho hp k) K
theorem own_ifnonnullNo (X : Stand p l e R s m args below meth c T locs cells slots) (hx : p.tables.exec = Jvm.exec) {o : Int} (hd : decode c.code pc = .ok (.ifnonnull o, 3)) (hp : pc + 3 = pc')  (K : own_Ends p e below s Q kc ks T (mkF m pc' ls st)) : own_Ends p e below s Q kc ks T (mkF m pc ls (.null :: st)) := by
  subst hp
  exact own_go (fun t k => XS.ifnonnullNo X.here hx rfl hd rfl k) K
theorem own_acmpYes (X : Stand p l e R s m args below meth c T locs cells slots) (hx : p.tables.exec = Jvm.exec) {o : Int} {cd : ACond} {v w : Value} (hd : decode c.code pc = .ok (.if_acmp cd o, 3)) (h1 : v.isRef = true) (h2 : w.isRef = true) (hc : XT.acmp cd v w = true) (ho : 0 ≤ (pc : Int) + o) (hp : ((pc : Int) + o).toNat = pc') (K : own_Ends p e below s Q kc ks T (mkF m pc' ls st)) : own_Ends p e below s Q kc ks T (mkF m pc ls (w :: v :: st)) :=
  own_go (fun t k => XT.acmpYes X.here hx rfl rfl hd rfl h1 h2 hc ho hp k) K
theorem own_acmpNo (X : Stand p l e R s m args below meth c T locs cells slots) (hx : p.tables.exec = Jvm.exec) {o : Int} {cd : ACond} {v w : Value} (hd : decode c.code pc = .ok (.if_acmp cd o, 3)) (hp : pc + 3 = pc') (h1 : v.isRef = true) (h2 : w.isRef = true) (hc : XT.acmp cd v w = false) (K : own_Ends p e below s Q kc ks T (mkF m pc' ls st)) : own_Ends p e below s Q kc ks T (mkF m pc ls (w :: v :: st)) := by
  subst hp
  exact own_go (fun t k => XT.acmpNo X.here hx rfl hd rfl h1 h2 hc k) K
theorem own_ldcI (X : Stand p l e R s m args below meth c T locs cells slots) (hx : p.tables.exec = Jvm.exec) {own : String} {ix : Nat} {v : Int32} {Z : State} {a0 : Array Value} (hZ : Z.Warmed39 s.vm) (hown : s.vm.findClass own = some m.cls) (w : (Jvm.Cond.constant own ix v).before a0 Z = true) (hd : decode c.code pc = .ok (.ldc ix, 2)) (hp : pc + 2 = pc')  (K : own_Ends p e below s Q kc ks T (mkF m pc' ls (.int v :: st))) : own_Ends p e below s Q kc ks T (mkF m pc ls st) := by
  subst hp
  exact own_go (fun t k => X.ldcInt hx hown (mvT hZ w) (g := mkF m pc ls st) rfl hd t k) K
theorem own_ldcwI (X : Stand p l e R s m args below meth c T locs cells slots) (hx : p.tables.exec = Jvm.exec) {own : String} {ix : Nat} {v : Int32} {Z : State} {a0 : Array Value} (hZ : Z.Warmed39 s.vm) (hown : s.vm.findClass own = some m.cls) (w : (Jvm.Cond.constant own ix v).before a0 Z = true) (hd : decode c.code pc = .ok (.ldc_w ix, 3)) (hp : pc + 3 = pc')  (K : own_Ends p e below s Q kc ks T (mkF m pc' ls (.int v :: st))) : own_Ends p e below s Q kc ks T (mkF m pc ls st) := by
  subst hp
  exact own_go (fun t k => X.ldcwInt hx hown (mvT hZ w) (g := mkF m pc ls st) rfl hd t k) K
theorem own_ldc2J (X : Stand p l e R s m args below meth c T locs cells slots) (hx : p.tables.exec = Jvm.exec) {own : String} {ix : Nat} {v : Int64} {Z : State} {a0 : Array Value} (hZ : Z.Warmed39 s.vm) (hown : s.vm.findClass own = some m.cls) (w : (Jvm.Cond.constantLong own ix v).before a0 Z = true) (hd : decode c.code pc = .ok (.ldc2_w ix, 3)) (hp : pc + 3 = pc')  (K : own_Ends p e below s Q kc ks T (mkF m pc' ls (.long v :: st))) : own_Ends p e below s Q kc ks T (mkF m pc ls st) := by
  subst hp
  exact own_go (fun t k => X.ldc2Long hx hown (mvT hZ w) (g := mkF m pc ls st) rfl hd t k) K
theorem own_iaload (X : Stand p l e R s m args below meth c T locs cells slots) (hx : p.tables.exec = Jvm.exec) {Z : State} {h : Heap} {a : Addr} {k : ClassId} {n j : Int32} {vs : List Value} {d v : Value} (hZ : Z.Warmed39 s.vm) (eT : T.heap = h) (V : Arv Z h a k .int n vs d) (hd : decode c.code pc = .ok (.iaload, 1)) (hp : pc + 1 = pc') (hj : ¬ j < 0 ∧ j < n) (hv : vs.getD j.toNatClampNeg d = v) (K : own_Ends p e below s Q kc ks T (mkF m pc' ls (v :: st))) : own_Ends p e below s Q kc ks T (mkF m pc ls (.int j :: .ref a :: st)) := by
  subst hp
  obtain ⟨cl, A, q1, S, q2, H, G⟩ := V
  have hin := inb_of S hj
  exact own_go (fun t k => X.iaload hx (by rw [eT]; exact A.1) (State.isArrayOf_alike hZ.alike A.2.1) A.2.2 hin (H.at hin hv) (g := mkF m pc ls (.int j :: .ref a :: st)) rfl rfl hd t k) K
theorem own_laload (X : Stand p l e R s m args below meth c T locs cells slots) (hx : p.tables.exec = Jvm.exec) {Z : State} {h : Heap} {a : Addr} {k : ClassId} {n j : Int32} {vs : List Value} {d v : Value} (hZ : Z.Warmed39 s.vm) (eT : T.heap = h) (V : Arv Z h a k .long n vs d) (hd : decode c.code pc = .ok (.laload, 1)) (hp : pc + 1 = pc') (hj : ¬ j < 0 ∧ j < n) (hv : vs.getD j.toNatClampNeg d = v) (K : own_Ends p e below s Q kc ks T (mkF m pc' ls (v :: st))) : own_Ends p e below s Q kc ks T (mkF m pc ls (.int j :: .ref a :: st)) := by
  subst hp
  obtain ⟨cl, A, q1, S, q2, H, G⟩ := V
  have hin := inb_of S hj
  exact own_go (fun t k => X.laload hx (by rw [eT]; exact A.1) (State.isArrayOf_alike hZ.alike A.2.1) A.2.2 hin (H.at hin hv) (g := mkF m pc ls (.int j :: .ref a :: st)) rfl rfl hd t k) K
theorem own_caload (X : Stand p l e R s m args below meth c T locs cells slots) (hx : p.tables.exec = Jvm.exec) {Z : State} {h : Heap} {a : Addr} {k : ClassId} {n j : Int32} {vs : List Value} {d v : Value} (hZ : Z.Warmed39 s.vm) (eT : T.heap = h) (V : Arv Z h a k .char n vs d) (hd : decode c.code pc = .ok (.caload, 1)) (hp : pc + 1 = pc') (hj : ¬ j < 0 ∧ j < n) (hv : vs.getD j.toNatClampNeg d = v) (K : own_Ends p e below s Q kc ks T (mkF m pc' ls (v :: st))) : own_Ends p e below s Q kc ks T (mkF m pc ls (.int j :: .ref a :: st)) := by
  subst hp
  obtain ⟨cl, A, q1, S, q2, H, G⟩ := V
  have hin := inb_of S hj
  exact own_go (fun t k => X.caload hx (by rw [eT]; exact A.1) (State.isArrayOf_alike hZ.alike A.2.1) A.2.2 hin (H.at hin hv) (g := mkF m pc ls (.int j :: .ref a :: st)) rfl rfl hd t k) K
theorem own_baload (X : Stand p l e R s m args below meth c T locs cells slots) (hx : p.tables.exec = Jvm.exec) {Z : State} {h : Heap} {a : Addr} {k : ClassId} {n j : Int32} {vs : List Value} {d v : Value} (hZ : Z.Warmed39 s.vm) (eT : T.heap = h) (V : Arv Z h a k .byte n vs d) (hd : decode c.code pc = .ok (.baload, 1)) (hp : pc + 1 = pc') (hj : ¬ j < 0 ∧ j < n) (hv : vs.getD j.toNatClampNeg d = v) (K : own_Ends p e below s Q kc ks T (mkF m pc' ls (v :: st))) : own_Ends p e below s Q kc ks T (mkF m pc ls (.int j :: .ref a :: st)) := by
  subst hp
  obtain ⟨cl, A, q1, S, q2, H, G⟩ := V
  have hin := inb_of S hj
  exact own_go (fun t k => X.baloadBytes hx (by rw [eT]; exact A.1) (State.isArrayOf_alike hZ.alike A.2.1) A.2.2 hin (H.at hin hv) (g := mkF m pc ls (.int j :: .ref a :: st)) rfl rfl hd t k) K
theorem own_zaload (X : Stand p l e R s m args below meth c T locs cells slots) (hx : p.tables.exec = Jvm.exec) {Z : State} {h : Heap} {a : Addr} {k : ClassId} {n j : Int32} {vs : List Value} {d v : Value} (hZ : Z.Warmed39 s.vm) (eT : T.heap = h) (V : Arv Z h a k .boolean n vs d) (hd : decode c.code pc = .ok (.baload, 1)) (hp : pc + 1 = pc') (hj : ¬ j < 0 ∧ j < n) (hv : vs.getD j.toNatClampNeg d = v) (K : own_Ends p e below s Q kc ks T (mkF m pc' ls (v :: st))) : own_Ends p e below s Q kc ks T (mkF m pc ls (.int j :: .ref a :: st)) := by
  subst hp
  obtain ⟨cl, A, q1, S, q2, H, G⟩ := V
  have hin := inb_of S hj
  exact own_go (fun t k => X.baloadBooleans hx (by rw [eT]; exact A.1) (State.isArrayOf_alike hZ.alike A.2.1) A.2.2 hin (H.at hin hv) (g := mkF m pc ls (.int j :: .ref a :: st)) rfl rfl hd t k) K
theorem own_daload (X : Stand p l e R s m args below meth c T locs cells slots) (hx : p.tables.exec = Jvm.exec) {Z : State} {h : Heap} {a : Addr} {k : ClassId} {n j : Int32} {vs : List Value} {d v : Value} (hZ : Z.Warmed39 s.vm) (eT : T.heap = h) (V : Arv Z h a k .double n vs d) (hd : decode c.code pc = .ok (.daload, 1)) (hp : pc + 1 = pc') (hj : ¬ j < 0 ∧ j < n) (hv : vs.getD j.toNatClampNeg d = v) (K : own_Ends p e below s Q kc ks T (mkF m pc' ls (v :: st))) : own_Ends p e below s Q kc ks T (mkF m pc ls (.int j :: .ref a :: st)) := by
  subst hp
  obtain ⟨cl, A, q1, S, q2, H, G⟩ := V
  have hin := inb_of S hj
  exact own_go (fun t k => X.daload hx (by rw [eT]; exact A.1) (State.isArrayOf_alike hZ.alike A.2.1) A.2.2 hin (H.at hin hv) (g := mkF m pc ls (.int j :: .ref a :: st)) rfl rfl hd t k) K
theorem own_alen (X : Stand p l e R s m args below meth c T locs cells slots) (hx : p.tables.exec = Jvm.exec) {Z : State} {h : Heap} {a : Addr} {k : ClassId} {ty : FieldType} {n : Int32} {vs : List Value} {d : Value} (hZ : Z.Warmed39 s.vm) (eT : T.heap = h) (V : Arv Z h a k ty n vs d) (hd : decode c.code pc = .ok (.arraylength, 1)) (hp : pc + 1 = pc')  (K : own_Ends p e below s Q kc ks T (mkF m pc' ls (.int n :: st))) : own_Ends p e below s Q kc ks T (mkF m pc ls (.ref a :: st)) := by
  subst hp
  obtain ⟨cl, A, q1, S, q2, H, G⟩ := V
  rw [← len_of S q2] at K
  exact own_go (fun t k => X.arraylength hx (by rw [eT]; exact A.1) (State.isArrayOf_alike hZ.alike A.2.1) (g := mkF m pc ls (.ref a :: st)) rfl rfl hd t k) K
theorem own_iastore (X : Stand p l e R s m args below meth c T locs cells slots) (hx : p.tables.exec = Jvm.exec) {Z : State} {h : Heap} {a : Addr} {k : ClassId} {n j : Int32} {vs : List Value} {d : Value} {x : Int32} (hZ : Z.Warmed39 s.vm) (eT : T.heap = h) (V : Arv Z h a k .int n vs d) (hd : decode c.code pc = .ok (.iastore, 1)) (hp : pc + 1 = pc') (hj : ¬ j < 0 ∧ j < n) (i : Nat) (hi : j.toNatClampNeg = i) (hl : i < vs.length) {n0 : Nat} (N : Fr n0 locs) (ge : n0 ≤ a)
    (K : ∀ T' h' L, Stand p l e R s m args below meth c T' L cells slots → T'.heap = h' → Fr n0 L → Wr h h' a j.toNatClampNeg (.int x) → Arv Z h' a k .int n (vs.set i (.int x)) d → own_Ends p e below s Q kc ks T' (mkF m pc' ls st)) : own_Ends p e below s Q kc ks T (mkF m pc ls (.int x :: .int j :: .ref a :: st)) := by
  subst hp
  obtain ⟨cl, A, q1, S, q2, H, G⟩ := V
  have hin := inb_of S hj
  obtain ⟨T1, h1, X1, e1, W1, st1⟩ := stI X hx hZ eT A (j := j) hin (g := mkF m pc ls (.int x :: .int j :: .ref a :: st)) rfl rfl hd
  exact own_go st1 (K T1 h1 _ X1 e1 (Fr.snoc X1 N ge) W1 (Arv.set A q1 S q2 H G rfl W1 i hi hl))
theorem own_lastore (X : Stand p l e R s m args below meth c T locs cells slots) (hx : p.tables.exec = Jvm.exec) {Z : State} {h : Heap} {a : Addr} {k : ClassId} {n j : Int32} {vs : List Value} {d : Value} {x : Int64} (hZ : Z.Warmed39 s.vm) (eT : T.heap = h) (V : Arv Z h a k .long n vs d) (hd : decode c.code pc = .ok (.lastore, 1)) (hp : pc + 1 = pc') (hj : ¬ j < 0 ∧ j < n) (i : Nat) (hi : j.toNatClampNeg = i) (hl : i < vs.length) {n0 : Nat} (N : Fr n0 locs) (ge : n0 ≤ a)
    (K : ∀ T' h' L, Stand p l e R s m args below meth c T' L cells slots → T'.heap = h' → Fr n0 L → Wr h h' a j.toNatClampNeg (.long x) → Arv Z h' a k .long n (vs.set i (.long x)) d → own_Ends p e below s Q kc ks T' (mkF m pc' ls st)) : own_Ends p e below s Q kc ks T (mkF m pc ls (.long x :: .int j :: .ref a :: st)) := by
  subst hp
  obtain ⟨cl, A, q1, S, q2, H, G⟩ := V
  have hin := inb_of S hj
  obtain ⟨T1, h1, X1, e1, W1, st1⟩ := stJ X hx hZ eT A (j := j) hin (g := mkF m pc ls (.long x :: .int j :: .ref a :: st)) rfl rfl hd
  exact own_go st1 (K T1 h1 _ X1 e1 (Fr.snoc X1 N ge) W1 (Arv.set A q1 S q2 H G rfl W1 i hi hl))
theorem own_dastore (X : Stand p l e R s m args below meth c T locs cells slots) (hx : p.tables.exec = Jvm.exec) {Z : State} {h : Heap} {a : Addr} {k : ClassId} {n j : Int32} {vs : List Value} {d : Value} {x : UInt64} (hZ : Z.Warmed39 s.vm) (eT : T.heap = h) (V : Arv Z h a k .double n vs d) (hd : decode c.code pc = .ok (.dastore, 1)) (hp : pc + 1 = pc') (hj : ¬ j < 0 ∧ j < n) (i : Nat) (hi : j.toNatClampNeg = i) (hl : i < vs.length) {n0 : Nat} (N : Fr n0 locs) (ge : n0 ≤ a)
    (K : ∀ T' h' L, Stand p l e R s m args below meth c T' L cells slots → T'.heap = h' → Fr n0 L → Wr h h' a j.toNatClampNeg (.double x) → Arv Z h' a k .double n (vs.set i (.double x)) d → own_Ends p e below s Q kc ks T' (mkF m pc' ls st)) : own_Ends p e below s Q kc ks T (mkF m pc ls (.double x :: .int j :: .ref a :: st)) := by
  subst hp
  obtain ⟨cl, A, q1, S, q2, H, G⟩ := V
  have hin := inb_of S hj
  obtain ⟨T1, h1, X1, e1, W1, st1⟩ := stD X hx hZ eT A (j := j) hin (g := mkF m pc ls (.double x :: .int j :: .ref a :: st)) rfl rfl hd
  exact own_go st1 (K T1 h1 _ X1 e1 (Fr.snoc X1 N ge) W1 (Arv.set A q1 S q2 H G rfl W1 i hi hl))
theorem own_castore (X : Stand p l e R s m args below meth c T locs cells slots) (hx : p.tables.exec = Jvm.exec) {Z : State} {h : Heap} {a : Addr} {k : ClassId} {n j : Int32} {vs : List Value} {d : Value} {x : Int32} (hZ : Z.Warmed39 s.vm) (eT : T.heap = h) (V : Arv Z h a k .char n vs d) (hd : decode c.code pc = .ok (.castore, 1)) (hp : pc + 1 = pc') (hj : ¬ j < 0 ∧ j < n) (i : Nat) (hi : j.toNatClampNeg = i) (hl : i < vs.length) {n0 : Nat} (N : Fr n0 locs) (ge : n0 ≤ a)
    (K : ∀ T' h' L, Stand p l e R s m args below meth c T' L cells slots → T'.heap = h' → Fr n0 L → Wr h h' a j.toNatClampNeg (.int (nar .char x)) → Arv Z h' a k .char n (vs.set i (.int (nar .char x))) d → own_Ends p e below s Q kc ks T' (mkF m pc' ls st)) : own_Ends p e below s Q kc ks T (mkF m pc ls (.int x :: .int j :: .ref a :: st)) := by
  subst hp
  obtain ⟨cl, A, q1, S, q2, H, G⟩ := V
  have hin := inb_of S hj
  obtain ⟨T1, h1, X1, e1, W1, st1⟩ := stC X hx hZ eT A (j := j) hin (g := mkF m pc ls (.int x :: .int j :: .ref a :: st)) rfl rfl hd
  exact own_go st1 (K T1 h1 _ X1 e1 (Fr.snoc X1 N ge) W1 (Arv.set A q1 S q2 H G (fits_nar_char _) W1 i hi hl))
theorem own_bastore (X : Stand p l e R s m args below meth c T locs cells slots) (hx : p.tables.exec = Jvm.exec) {Z : State} {h : Heap} {a : Addr} {k : ClassId} {n j : Int32} {vs : List Value} {d : Value} {x : Int32} (hZ : Z.Warmed39 s.vm) (eT : T.heap = h) (V : Arv Z h a k .byte n vs d) (hd : decode c.code pc = .ok (.bastore, 1)) (hp : pc + 1 = pc') (hj : ¬ j < 0 ∧ j < n) (i : Nat) (hi : j.toNatClampNeg = i) (hl : i < vs.length) {n0 : Nat} (N : Fr n0 locs) (ge : n0 ≤ a)
    (K : ∀ T' h' L, Stand p l e R s m args below meth c T' L cells slots → T'.heap = h' → Fr n0 L → Wr h h' a j.toNatClampNeg (.int (nar .byte x)) → Arv Z h' a k .byte n (vs.set i (.int (nar .byte x))) d → own_Ends p e below s Q kc ks T' (mkF m pc' ls st)) : own_Ends p e below s Q kc ks T (mkF m pc ls (.int x :: .int j :: .ref a :: st)) := by
  subst hp
  obtain ⟨cl, A, q1, S, q2, H, G⟩ := V
  have hin := inb_of S hj
  obtain ⟨T1, h1, X1, e1, W1, st1⟩ := stB X hx hZ eT A (j := j) hin (g := mkF m pc ls (.int x :: .int j :: .ref a :: st)) rfl rfl hd
  exact own_go st1 (K T1 h1 _ X1 e1 (Fr.snoc X1 N ge) W1 (Arv.set A q1 S q2 H G (fits_nar_byte _) W1 i hi hl))
theorem own_zastore (X : Stand p l e R s m args below meth c T locs cells slots) (hx : p.tables.exec = Jvm.exec) {Z : State} {h : Heap} {a : Addr} {k : ClassId} {n j : Int32} {vs : List Value} {d : Value} {x : Int32} (hZ : Z.Warmed39 s.vm) (eT : T.heap = h) (V : Arv Z h a k .boolean n vs d) (hd : decode c.code pc = .ok (.bastore, 1)) (hp : pc + 1 = pc') (hj : ¬ j < 0 ∧ j < n) (i : Nat) (hi : j.toNatClampNeg = i) (hl : i < vs.length) {n0 : Nat} (N : Fr n0 locs) (ge : n0 ≤ a)
    (K : ∀ T' h' L, Stand p l e R s m args below meth c T' L cells slots → T'.heap = h' → Fr n0 L → Wr h h' a j.toNatClampNeg (.int (nar .boolean x)) → Arv Z h' a k .boolean n (vs.set i (.int (nar .boolean x))) d → own_Ends p e below s Q kc ks T' (mkF m pc' ls st)) : own_Ends p e below s Q kc ks T (mkF m pc ls (.int x :: .int j :: .ref a :: st)) := by
  subst hp
  obtain ⟨cl, A, q1, S, q2, H, G⟩ := V
  have hin := inb_of S hj
  obtain ⟨T1, h1, X1, e1, W1, st1⟩ := stZ X hx hZ eT A (j := j) hin (g := mkF m pc ls (.int x :: .int j :: .ref a :: st)) rfl rfl hd
  exact own_go st1 (K T1 h1 _ X1 e1 (Fr.snoc X1 N ge) W1 (Arv.set A q1 S q2 H G (fits_nar_bool _) W1 i hi hl))
theorem own_newarr (X : Stand p l e R s m args below meth c T locs cells slots) (hx : p.tables.exec = Jvm.exec) {Z : State} {a0 : Array Value} {h : Heap} {aty : ArrayType} (hZ : Z.Warmed39 s.vm) (w : (Jvm.Cond.arrayClass (newarray.typeOf aty)).before a0 Z = true) (eT : T.heap = h) (hd : decode c.code pc = .ok (.newarray aty, 2)) (hp : pc + 2 = pc') {n : Int32} (hn : ¬ n < 0) (cap q : Nat) (hcap : n.toNatClampNeg ≤ cap) (hb : cap * 8 ≤ 536870912) (hc : cells + 1 ≤ R.cells) (hl : slots + cap ≤ R.slots)
    (K : ∀ T' h' a k, Stand p l e R s m args below meth c T' locs (cells + 1) (slots + cap) → T'.heap = h' → Ext h h' → a = h.size → Arv Z h' a k (newarray.typeOf aty) n (List.replicate q (defaultValue (newarray.typeOf aty))) (defaultValue (newarray.typeOf aty)) → own_Ends p e below s Q kc ks T' (mkF m pc' ls (.ref a :: st))) : own_Ends p e below s Q kc ks T (mkF m pc ls (.int n :: st)) := by
  subst hp
  obtain ⟨T1, h1, k1, X1, e1, E1, A1, st1⟩ := newP X hx hZ w eT (g := mkF m pc ls (.int n :: st)) rfl hd rfl hn (cap := cap) hcap hb hc hl
  exact own_go st1 (K T1 h1 _ k1 X1 e1 E1 rfl ((Arv.new A1 hn).pad (pad_rep [] _ q)))
theorem own_newarrE (X : Stand p l e R s m args below meth c T locs cells slots) (hx : p.tables.exec = Jvm.exec) {Z : State} {a0 : Array Value} {h : Heap} {aty : ArrayType} (hZ : Z.Warmed39 s.vm) (w : (Jvm.Cond.arrayClass (newarray.typeOf aty)).before a0 Z = true) (eT : T.heap = h) (hd : decode c.code pc = .ok (.newarray aty, 2)) (hp : pc + 2 = pc') {n : Int32} (hn : ¬ n < 0) (cap q : Nat) (hcap : n.toNatClampNeg ≤ cap) (hb : cap * 8 ≤ 536870912) (hc : cells + 1 ≤ R.cells) (hl : slots + cap ≤ R.slots) {ad : String} (had : "[" ++ (newarray.typeOf aty).toString = ad)
    (K : ∀ T' h' a k, Stand p l e R s m args below meth c T' locs (cells + 1) (slots + cap) → T'.heap = h' → Ext h h' → a = h.size → Arv Z h' a k (newarray.typeOf aty) n (List.replicate q (defaultValue (newarray.typeOf aty))) (defaultValue (newarray.typeOf aty)) → Exa Z h' a ad → own_Ends p e below s Q kc ks T' (mkF m pc' ls (.ref a :: st))) : own_Ends p e below s Q kc ks T (mkF m pc ls (.int n :: st)) := by
  subst hp
  obtain ⟨T1, h1, k1, X1, e1, E1, A1, Z1, st1⟩ := newPE X hx hZ w eT (g := mkF m pc ls (.int n :: st)) rfl hd rfl hn (cap := cap) hcap hb hc hl had
  exact own_go st1 (K T1 h1 _ k1 X1 e1 E1 rfl ((Arv.new A1 hn).pad (pad_rep [] _ q)) Z1)
theorem own_callS (X : Stand p l e R s m args below meth c T locs cells slots) (hx : p.tables.exec = Jvm.exec) {Z : State} {a0 : Array Value} {h : Heap} {own : String} {ix : Nat} {y : MethodName} {bytes : ByteArray} {maxL W : Nat} {ret : Option FieldType} {rm : Room} {Qc : Option Value → Heap → List Loc → Prop} {argsL rest : List Value} (hZ : Z.Warmed39 s.vm) (eT : T.heap = h) (hown : s.vm.findClass own = some m.cls) (hsz : ls.size = c.maxLocals) (wl : (Jvm.Cond.methodLink own ix y).before a0 Z = true) (ws : (Jvm.Cond.static y).before a0 Z = true) (wi : (Jvm.Cond.initialized y.cls).before a0 Z = true) (wc : (Jvm.Cond.code y bytes maxL ret).before a0 Z = true) (hy : y.cls ≠ "java/lang/invoke/MethodHandle" ∧ y.cls ≠ "java/lang/invoke/VarHandle") (hM : MetFree l y (head1 [Jvm.Cond.code y bytes maxL ret] rm) (fun a U => a = argsL.toArray ∧ Z.Warmed39 U.vm ∧ U.heap = h) (fun _ _ _ _ _ => True) (fun _ U o U' => ∃ v L, o = .returned v ∧ Qc v U'.heap L ∧ FrameEnd U o U' L rm.cells rm.slots)) (hf : rm.frames + 1 ≤ R.frames) (hlo : W + (maxL + 11) + rm.locals ≤ R.locals) (hcl : cells + rm.cells ≤ R.cells) (hsl : slots + rm.slots ≤ R.slots)
    (hlen : ∀ sig, parseMethodDescriptor y.desc = some sig → argsL.length = sig.parameters.length) (hst : st = argsL.reverse ++ rest) (hW : 2 * 0 + (rest.map fun v => v.category).sum ≤ W) (hd : decode c.code pc = .ok (.invokestatic ix, 3)) (hp : pc + 3 = pc') (K : ∀ T' L v, Stand p l e R s m args below meth c T' (locs ++ L) (cells + rm.cells) (slots + rm.slots) → Qc v T'.heap L → own_Ends p e below s Q kc ks T' (mkF m pc' ls (v.toList ++ rest))) : own_Ends p e below s Q kc ks T (mkF m pc ls st) := by
  subst hp
  obtain ⟨v, _, ⟨T1, L1, k1, n1⟩, -, X1, ⟨Lc, hQ, r1, r2, r3⟩, st1⟩ := Jvm.LawKit.callS X hx (y := y) hown (mvT hZ wl) (mvT hZ ws) (mvT hZ wi) (mvT hZ wc) hy (backOf (W := W) hM hZ wc wi hf hlo) (g := mkF m pc ls st) rfl hsz (argsL := argsL) (rest := rest) hlen hst hW hd (fun _ _ => ⟨rfl, eT, hcl, hsl⟩)
  dsimp only [Pt.U, Pt.locs, Pt.cells, Pt.slots] at X1 r1 r2 r3 st1 hQ
  subst r1 r2 r3
  exact own_go (st1) (K T1 Lc v X1 hQ)
theorem own_callC (X : Stand p l e R s m args below meth c T locs cells slots) (hx : p.tables.exec = Jvm.exec) {b : Addr} {Z : State} {a0 : Array Value} {h : Heap} {own : String} {ix : Nat} {y : MethodName} {bytes : ByteArray} {maxL W : Nat} {ret : Option FieldType} {rm : Room} {Qc : Option Value → Heap → List Loc → Prop} {argsL rest : List Value} (hZ : Z.Warmed39 s.vm) (eT : T.heap = h) (hown : s.vm.findClass own = some m.cls) (hsz : ls.size = c.maxLocals) (hret : ret = none) (hinit : y.name = "<init>") (wl : (Jvm.Cond.methodLink own ix y).before a0 Z = true) (wm : (Jvm.Cond.instanceMethod y).before a0 Z = true) (wi : (Jvm.Cond.initialized y.cls).before a0 Z = true) (wc : (Jvm.Cond.code y bytes maxL ret).before a0 Z = true) (hy : y.cls ≠ "java/lang/invoke/MethodHandle" ∧ y.cls ≠ "java/lang/invoke/VarHandle") (hM : MetFree l y (head1 [Jvm.Cond.code y bytes maxL ret] rm) (fun a U => a = (Value.ref b :: argsL).toArray ∧ Z.Warmed39 U.vm ∧ U.heap = h) (fun _ _ _ _ _ => True) (fun _ U o U' => ∃ v L, o = .returned v ∧ Qc v U'.heap L ∧ FrameEnd U o U' L rm.cells rm.slots)) (hf : rm.frames + 1 ≤ R.frames) (hlo : W + (maxL + 11) + rm.locals ≤ R.locals) (hcl : cells + rm.cells ≤ R.cells) (hsl : slots + rm.slots ≤ R.slots)
    (hlen : ∀ sig, parseMethodDescriptor y.desc = some sig → argsL.length = sig.parameters.length) (hst : st = argsL.reverse ++ .ref b :: rest) (hW : 2 * 0 + (rest.map fun v => v.category).sum ≤ W) (hd : decode c.code pc = .ok (.invokespecial ix, 3)) (hp : pc + 3 = pc') (K : ∀ T' L v, Stand p l e R s m args below meth c T' (locs ++ L) (cells + rm.cells) (slots + rm.slots) → Qc v T'.heap L → own_Ends p e below s Q kc ks T' (mkF m pc' ls (v.toList ++ rest))) : own_Ends p e below s Q kc ks T (mkF m pc ls st) := by
  subst hp hret
  obtain ⟨v, _, ⟨T1, L1, k1, n1⟩, -, X1, ⟨Lc, hQ, r1, r2, r3⟩, st1⟩ := X.specialBack hx (y := y) hinit hown (mvT hZ wl) (mvT hZ wm) (mvT hZ wc) hy (backOf (W := W) hM hZ wc wi hf hlo) (g := mkF m pc ls st) rfl hsz (Steps.refl _) (a := b) (argsL := argsL) (rest := rest) hlen hst hW hd (fun _ _ => ⟨rfl, eT, hcl, hsl⟩)
  dsimp only [Pt.U, Pt.locs, Pt.cells, Pt.slots] at X1 r1 r2 r3 st1 hQ
  subst r1 r2 r3
  exact own_go (fun t k => st1.trans k) (K T1 Lc v X1 hQ)
theorem own_callV (X : Stand p l e R s m args below meth c T locs cells slots) (hx : p.tables.exec = Jvm.exec) {b : Addr} {C : String} {Z : State} {a0 : Array Value} {h : Heap} {own : String} {ix : Nat} {y : MethodName} {bytes : ByteArray} {maxL W : Nat} {ret : Option FieldType} {rm : Room} {Qc : Option Value → Heap → List Loc → Prop} {argsL rest : List Value} (hZ : Z.Warmed39 s.vm) (eT : T.heap = h) (hown : s.vm.findClass own = some m.cls) (hsz : ls.size = c.maxLocals) (E : Exa Z h b C) (wl : (Jvm.Cond.methodLink own ix y).before a0 Z = true) (wd : (Jvm.Cond.declares y).before a0 Z = true) (wsel : (Jvm.Cond.selects C y y).before a0 Z = true) (wm : (Jvm.Cond.instanceMethod y).before a0 Z = true) (wi : (Jvm.Cond.initialized y.cls).before a0 Z = true) (wc : (Jvm.Cond.code y bytes maxL ret).before a0 Z = true) (hy : y.cls ≠ "java/lang/invoke/MethodHandle" ∧ y.cls ≠ "java/lang/invoke/VarHandle") (hM : MetFree l y (head1 [Jvm.Cond.code y bytes maxL ret] rm) (fun a U => a = (Value.ref b :: argsL).toArray ∧ Z.Warmed39 U.vm ∧ U.heap = h) (fun _ _ _ _ _ => True) (fun _ U o U' => ∃ v L, o = .returned v ∧ Qc v U'.heap L ∧ FrameEnd U o U' L rm.cells rm.slots)) (hf : rm.frames + 1 ≤ R.frames) (hlo : W + (maxL + 11) + rm.locals ≤ R.locals) (hcl : cells + rm.cells ≤ R.cells) (hsl : slots + rm.slots ≤ R.slots)
    (hlen : ∀ sig, parseMethodDescriptor y.desc = some sig → argsL.length = sig.parameters.length) (hst : st = argsL.reverse ++ .ref b :: rest) (hW : 2 * 0 + (rest.map fun v => v.category).sum ≤ W) (hd : decode c.code pc = .ok (.invokevirtual ix, 3)) (hp : pc + 3 = pc') (K : ∀ T' L v, Stand p l e R s m args below meth c T' (locs ++ L) (cells + rm.cells) (slots + rm.slots) → Qc v T'.heap L → own_Ends p e below s Q kc ks T' (mkF m pc' ls (v.toList ++ rest))) : own_Ends p e below s Q kc ks T (mkF m pc ls st) := by
  subst hp
  obtain ⟨cq, kq, qa, qb, qc⟩ := isOf hZ eT E
  obtain ⟨v, _, ⟨T1, L1, k1, n1⟩, -, X1, ⟨Lc, hQ, r1, r2, r3⟩, st1⟩ := X.virtualBack hx (y := y) (z := y) hown (mvT hZ wl) (mvT hZ wd) (notFace_of_selects (args := #[]) (mvT hZ wsel)) (mvT hZ wsel) (mvT hZ wm) hy (backOf (W := W) hM hZ wc wi hf hlo) qa qc (g := mkF m pc ls st) rfl hsz (Steps.refl _) (argsL := argsL) (rest := rest) hlen hst hW hd (fun _ _ => ⟨rfl, eT, hcl, hsl⟩)
  dsimp only [Pt.U, Pt.locs, Pt.cells, Pt.slots] at X1 r1 r2 r3 st1 hQ
  subst r1 r2 r3
  exact own_go (fun t k => st1.trans k) (K T1 Lc v X1 hQ)
theorem own_callP (X : Stand p l e R s m args below meth c T locs cells slots) (hx : p.tables.exec = Jvm.exec) {b : Addr} {C : String} {Z : State} {a0 : Array Value} {h : Heap} {own : String} {ix : Nat} {y : MethodName} {bytes : ByteArray} {maxL W : Nat} {ret : Option FieldType} {rm : Room} {Qc : Option Value → Heap → List Loc → Prop} {argsL rest : List Value} (hZ : Z.Warmed39 s.vm) (eT : T.heap = h) (hown : s.vm.findClass own = some m.cls) (hsz : ls.size = c.maxLocals) (E : Exa Z h b C) (wl : (Jvm.Cond.methodLink own ix y).before a0 Z = true) (wsel : (Jvm.Cond.selects y.cls y y).before a0 Z = true) (wp : (Jvm.Cond.privateMethod y).before a0 Z = true) (wm : (Jvm.Cond.instanceMethod y).before a0 Z = true) (wi : (Jvm.Cond.initialized y.cls).before a0 Z = true) (wc : (Jvm.Cond.code y bytes maxL ret).before a0 Z = true) (hy : y.cls ≠ "java/lang/invoke/MethodHandle" ∧ y.cls ≠ "java/lang/invoke/VarHandle") (hM : MetFree l y (head1 [Jvm.Cond.code y bytes maxL ret] rm) (fun a U => a = (Value.ref b :: argsL).toArray ∧ Z.Warmed39 U.vm ∧ U.heap = h) (fun _ _ _ _ _ => True) (fun _ U o U' => ∃ v L, o = .returned v ∧ Qc v U'.heap L ∧ FrameEnd U o U' L rm.cells rm.slots)) (hf : rm.frames + 1 ≤ R.frames) (hlo : W + (maxL + 11) + rm.locals ≤ R.locals) (hcl : cells + rm.cells ≤ R.cells) (hsl : slots + rm.slots ≤ R.slots)
    (hlen : ∀ sig, parseMethodDescriptor y.desc = some sig → argsL.length = sig.parameters.length) (hst : st = argsL.reverse ++ .ref b :: rest) (hW : 2 * 0 + (rest.map fun v => v.category).sum ≤ W) (hd : decode c.code pc = .ok (.invokevirtual ix, 3)) (hp : pc + 3 = pc') (K : ∀ T' L v, Stand p l e R s m args below meth c T' (locs ++ L) (cells + rm.cells) (slots + rm.slots) → Qc v T'.heap L → own_Ends p e below s Q kc ks T' (mkF m pc' ls (v.toList ++ rest))) : own_Ends p e below s Q kc ks T (mkF m pc ls st) := by
  subst hp
  obtain ⟨cq, qa, qb⟩ := E.cell
  obtain ⟨v, _, ⟨T1, L1, k1, n1⟩, -, X1, ⟨Lc, hQ, r1, r2, r3⟩, st1⟩ := X.privateBack hx (y := y) hown (mvT hZ wl) (mvT hZ wm) (mvT hZ wsel) (Jvm.Cond.privateMethod_at (mvP hZ wp (args := #[]))) (mvT hZ wc) hy (backOf (W := W) hM hZ wc wi hf hlo) (g := mkF m pc ls st) rfl hsz (Steps.refl _) (a := b) (by rw [eT]; exact qa) qb (argsL := argsL) (rest := rest) hlen hst hW hd (fun _ _ => ⟨rfl, eT, hcl, hsl⟩)
  dsimp only [Pt.U, Pt.locs, Pt.cells, Pt.slots] at X1 r1 r2 r3 st1 hQ
  subst r1 r2 r3
  exact own_go (fun t k => st1.trans k) (K T1 Lc v X1 hQ)
theorem own_mvM {Z : State} {a0 args : Array Value} {own host : String} {ix : Nat} {y : MethodName} (hZ : Z.Warmed39 s.vm) (w : (Jvm.Cond.methodLinkNest own ix y host).before a0 Z = true) : (Jvm.Cond.methodLinkNest own ix y host).before args s = true := (Jvm.Cond.methodLinkNest_wide hZ w :)
theorem own_callN (X : Stand p l e R s m args below meth c T locs cells slots) (hx : p.tables.exec = Jvm.exec) {b : Addr} {host : String} {Z : State} {a0 : Array Value} {h : Heap} {own : String} {ix : Nat} {y : MethodName} {bytes : ByteArray} {maxL W : Nat} {ret : Option FieldType} {rm : Room} {Qc : Option Value → Heap → List Loc → Prop} {argsL rest : List Value} (hZ : Z.Warmed39 s.vm) (eT : T.heap = h) (hown : s.vm.findClass own = some m.cls) (hsz : ls.size = c.maxLocals) (hret : ret = none) (hinit : y.name = "<init>") (wl : (Jvm.Cond.methodLinkNest own ix y host).before a0 Z = true) (wm : (Jvm.Cond.instanceMethod y).before a0 Z = true) (wi : (Jvm.Cond.initialized y.cls).before a0 Z = true) (wc : (Jvm.Cond.code y bytes maxL ret).before a0 Z = true) (hy : y.cls ≠ "java/lang/invoke/MethodHandle" ∧ y.cls ≠ "java/lang/invoke/VarHandle") (hM : MetFree l y (head1 [Jvm.Cond.code y bytes maxL ret] rm) (fun a U => a = (Value.ref b :: argsL).toArray ∧ Z.Warmed39 U.vm ∧ U.heap = h) (fun _ _ _ _ _ => True) (fun _ U o U' => ∃ v L, o = .returned v ∧ Qc v U'.heap L ∧ FrameEnd U o U' L rm.cells rm.slots)) (hf : rm.frames + 1 ≤ R.frames) (hlo : W + (maxL + 11) + rm.locals ≤ R.locals) (hcl : cells + rm.cells ≤ R.cells) (hsl : slots + rm.slots ≤ R.slots)
    (hlen : ∀ sig, parseMethodDescriptor y.desc = some sig → argsL.length = sig.parameters.length) (hst : st = argsL.reverse ++ .ref b :: rest) (hW : 2 * 0 + (rest.map fun v => v.category).sum ≤ W) (hd : decode c.code pc = .ok (.invokespecial ix, 3)) (hp : pc + 3 = pc') (K : ∀ T' L v, Stand p l e R s m args below meth c T' (locs ++ L) (cells + rm.cells) (slots + rm.slots) → Qc v T'.heap L → own_Ends p e below s Q kc ks T' (mkF m pc' ls (v.toList ++ rest))) : own_Ends p e below s Q kc ks T (mkF m pc ls st) := by
  subst hp hret
  obtain ⟨v, _, ⟨T1, L1, k1, n1⟩, -, X1, ⟨Lc, hQ, r1, r2, r3⟩, st1⟩ := X.specialBackNest hx (y := y) hinit hown (own_mvM hZ wl) (mvT hZ wm) (mvT hZ wc) hy (backOf (W := W) hM hZ wc wi hf hlo) (g := mkF m pc ls st) rfl hsz (Steps.refl _) (a := b) (argsL := argsL) (rest := rest) hlen hst hW hd (fun _ _ => ⟨rfl, eT, hcl, hsl⟩)
  dsimp only [Pt.U, Pt.locs, Pt.cells, Pt.slots] at X1 r1 r2 r3 st1 hQ
  subst r1 r2 r3
  exact own_go (fun t k => st1.trans k) (K T1 Lc v X1 hQ)
theorem own_anewarr (X : Stand p l e R s m args below meth c T locs cells slots) (hx : p.tables.exec = Jvm.exec) {Z : State} {a0 : Array Value} {h : Heap} {own C : String} {ix : Nat} (hZ : Z.Warmed39 s.vm) (hown : s.vm.findClass own = some m.cls) (w1 : (Jvm.Cond.classLink own ix C).before a0 Z = true) (w2 : (Jvm.Cond.arrayOver (.object C)).before a0 Z = true) (eT : T.heap = h) (hd : decode c.code pc = .ok (.anewarray ix, 3)) (hp : pc + 3 = pc') {n : Int32} (hn : ¬ n < 0) (cap q : Nat) (hcap : n.toNatClampNeg ≤ cap) (hb : cap * 8 ≤ 536870912) (hc : cells + 1 ≤ R.cells) (hl : slots + cap ≤ R.slots) {ad : String} (had : "[" ++ (FieldType.object C).toString = ad)
    (K : ∀ T' h' a k, Stand p l e R s m args below meth c T' locs (cells + 1) (slots + cap) → T'.heap = h' → Ext h h' → a = h.size → Arv Z h' a k (.object C) n (List.replicate q .null) .null → Exa Z h' a ad → Ovr Z k C → own_Ends p e below s Q kc ks T' (mkF m pc' ls (.ref a :: st))) : own_Ends p e below s Q kc ks T (mkF m pc ls (.int n :: st)) := by
  subst hp
  obtain ⟨T1, h1, k1, X1, e1, E1, A1, Z1, O1, st1⟩ := newRE X hx hZ hown w1 w2 eT (g := mkF m pc ls (.int n :: st)) rfl hd rfl hn (cap := cap) hcap hb hc hl had
  exact own_go st1 (K T1 h1 _ k1 X1 e1 E1 rfl ((Arv.new A1 hn).pad (pad_rep [] _ q)) Z1 O1)
theorem own_aastore (X : Stand p l e R s m args below meth c T locs cells slots) (hx : p.tables.exec = Jvm.exec) {Z : State} {h : Heap} {a b : Addr} {k : ClassId} {C D : String} {n j : Int32} {vs : List Value} {d : Value} (hZ : Z.Warmed39 s.vm) (eT : T.heap = h) (V : Arv Z h a k (.object D) n vs d) (O : Ovr Z k C) (I : Ins Z h b C true) (hd : decode c.code pc = .ok (.aastore, 1)) (hp : pc + 1 = pc') (hj : ¬ j < 0 ∧ j < n) (i : Nat) (hi : j.toNatClampNeg = i) (hl : i < vs.length) {n0 : Nat} (N : Fr n0 locs) (ge : n0 ≤ a)
    (K : ∀ T' h' L, Stand p l e R s m args below meth c T' L cells slots → T'.heap = h' → Fr n0 L → Wr h h' a j.toNatClampNeg (.ref b) → Arv Z h' a k (.object D) n (vs.set i (.ref b)) d → own_Ends p e below s Q kc ks T' (mkF m pc' ls st)) : own_Ends p e below s Q kc ks T (mkF m pc ls (.ref b :: .int j :: .ref a :: st)) := by
  subst hp
  obtain ⟨cl, A, q1, S, q2, H, G⟩ := V
  have hin := inb_of S hj
  obtain ⟨T1, h1, X1, e1, W1, st1⟩ := stR X hx hZ eT A (j := j) hin rfl (Sto.ofV A q1 O I) (g := mkF m pc ls (.ref b :: .int j :: .ref a :: st)) rfl rfl hd
  exact own_go st1 (K T1 h1 _ X1 e1 (Fr.snoc X1 N ge) W1 (Arv.set A q1 S q2 H G rfl W1 i hi hl))
theorem own_tswIn (X : Stand p l e R s m args below meth c T locs cells slots) (hx : p.tables.exec = Jvm.exec) {d lo hi o : Int} {offs : Array Int} {len : Nat} {i : Int32} (hd : decode c.code pc = .ok (.tableswitch d lo hi offs, len)) (hin : ¬ (i.toInt < lo ∨ i.toInt > hi)) (hoff : offs[(i.toInt - lo).toNat]? = some o) (ho : 0 ≤ (pc : Int) + o) (hp : ((pc : Int) + o).toNat = pc') (K : own_Ends p e below s Q kc ks T (mkF m pc' ls st)) : own_Ends p e below s Q kc ks T (mkF m pc ls (.int i :: st)) :=
  own_go (fun t k => XS.tswIn X.here hx rfl rfl hd rfl hin hoff ho hp k) K
theorem own_tswOut (X : Stand p l e R s m args below meth c T locs cells slots) (hx : p.tables.exec = Jvm.exec) {d lo hi : Int} {offs : Array Int} {len : Nat} {i : Int32} (hd : decode c.code pc = .ok (.tableswitch d lo hi offs, len)) (hout : i.toInt < lo ∨ i.toInt > hi) (ho : 0 ≤ (pc : Int) + d) (hp : ((pc : Int) + d).toNat = pc') (K : own_Ends p e below s Q kc ks T (mkF m pc' ls st)) : own_Ends p e below s Q kc ks T (mkF m pc ls (.int i :: st)) :=
  own_go (fun t k => XS.tswOut X.here hx rfl rfl hd rfl hout ho hp k) K
theorem own_ext {h h' : Heap} (K : Keep h h' []) : Ext h h' := ⟨K.1, fun a c q => K.2.1 a c q nin0⟩
theorem own_stak {Z : State} {h h' : Heap} {ws : List Addr} {C n d : String} {v : Value} (F : Sta Z h C n d v) (K : Keep h h' ws) (q : ∀ x ∈ ws, ∃ c : Cell, h[x]? = some c ∧ c.vm.isStatics = false) : Sta Z h' C n d v := by
  obtain ⟨cf, i, k, f, st, cell, h1, h2, h3, h4, h5, h6, h7⟩ := F
  refine ⟨cf, i, k, f, st, cell, h1, h2, h3, h4, K.2.1 st cell h5 (fun z => ?_), h6, h7⟩
  obtain ⟨c, q1, q2⟩ := q st z
  cases h5.symm.trans q1
  rw [h6] at q2; cases q2
theorem own_exac {Z : State} {h : Heap} {a : Addr} {C : String} (F : Exa Z h a C) : ∃ c : Cell, h[a]? = some c ∧ c.vm.isStatics = false := by
  obtain ⟨c, _, h1, -, -, h4, -⟩ := F; exact ⟨c, h1, h4⟩
theorem own_arvc {Z : State} {h : Heap} {a : Addr} {k : ClassId} {ty : FieldType} {n : Int32} {vs : List Value} {d : Value} (F : Arv Z h a k ty n vs d) : ∃ c : Cell, h[a]? = some c ∧ c.vm.isStatics = false := by
  obtain ⟨c, A, -⟩ := F; exact ⟨c, A.1, A.plain⟩
end Own
theorem own_w0 {Z : State} {a0 : Array Value} (hw : ∀ d ∈ tables_1, d.before a0 Z = true) : (Jvm.Cond.constant "com/example/closure_crew/closurecrew/engine/CrewAnyOfPinLaw" (7 : Nat) (2147483647 : Int32)).before a0 Z = true := hw _ (List.mem_of_getElem? (i := 0) rfl)
theorem own_w1 {Z : State} {a0 : Array Value} (hw : ∀ d ∈ tables_1, d.before a0 Z = true) : (Jvm.Cond.arrayClass Jvm.ClassFile.FieldType.boolean).before a0 Z = true := hw _ (List.mem_of_getElem? (i := 1) rfl)
theorem own_w2 {Z : State} {a0 : Array Value} (hw : ∀ d ∈ tables_1, d.before a0 Z = true) : (Jvm.Cond.methodLink "com/example/closure_crew/closurecrew/engine/CrewAnyOfPinLaw" (8 : Nat) ({ cls := "com/example/closure_crew/closurecrew/engine/Crew", name := "anyOf", desc := "([Z)Z" } : Jvm.MethodName)).before a0 Z = true := hw _ (List.mem_of_getElem? (i := 2) rfl)
theorem own_w3 {Z : State} {a0 : Array Value} (hw : ∀ d ∈ tables_1, d.before a0 Z = true) : (Jvm.Cond.static ({ cls := "com/example/closure_crew/closurecrew/engine/Crew", name := "anyOf", desc := "([Z)Z" } : Jvm.MethodName)).before a0 Z = true := hw _ (List.mem_of_getElem? (i := 3) rfl)
theorem own_w4 {Z : State} {a0 : Array Value} (hw : ∀ d ∈ tables_1, d.before a0 Z = true) : (Jvm.Cond.initialized "com/example/closure_crew/closurecrew/engine/Crew").before a0 Z = true := hw _ (List.mem_of_getElem? (i := 4) rfl)
theorem own_w5 {Z : State} {a0 : Array Value} (hw : ∀ d ∈ tables_1, d.before a0 Z = true) : (Jvm.Cond.code ({ cls := "com/example/closure_crew/closurecrew/engine/Crew", name := "anyOf", desc := "([Z)Z" } : Jvm.MethodName) prog_17_method_7_code (5 : Nat) (Option.some Jvm.ClassFile.FieldType.boolean)).before a0 Z = true := hw _ (List.mem_of_getElem? (i := 5) rfl)
theorem own_pd0 : parseMethodDescriptor "([Z)Z" = some ⟨[(.array .boolean)], some .boolean⟩ := by decide +kernel
theorem own_pn0 : plainName "com/example/closure_crew/closurecrew/engine/Crew" = true := by first | (simp [plainName, overriddenIn]; done) | decide +kernel
theorem own_pn1 : plainName "com/example/closure_crew/closurecrew/engine/CrewAnyOfPinLaw" = true := by first | (simp [plainName, overriddenIn]; done) | decide +kernel
theorem own_arrat {s : State} {a : Addr} {c : Cell} (h : s.arrayAt? a = some c) : s.heap[a]? = some c := by
  unfold State.arrayAt? at h
  cases q : s.heap[a]? with
  | none => simp [q] at h
  | some d =>
    simp [q] at h
    obtain ⟨k, -, h2⟩ := Option.bind_eq_some_iff.mp h
    split at h2
    · cases h2
    · split at h2
      · exact h2
      · cases h2
theorem own_b1 {x a b : Int32} (h : x < a) (q : ¬ b < a) : x < b := by rw [Int32.lt_iff_toInt_lt] at *; omega
theorem own_b2 {x a b : Int32} (h : ¬ x < a) (q : ¬ a < b) : ¬ x < b := by rw [Int32.lt_iff_toInt_lt] at *; omega
theorem own_b3 {x a b : Int32} (h : a < x) (q : ¬ a < b) : b < x := by rw [Int32.lt_iff_toInt_lt] at *; omega
theorem own_b4 {x a b : Int32} (h : ¬ a < x) (q : ¬ b < a) : ¬ b < x := by rw [Int32.lt_iff_toInt_lt] at *; omega
theorem own_b5 {x a b : Int32} (h : x < a) (q : ¬ b < a - 1 ∧ a - 1 < a) : ¬ b < x := by
  obtain ⟨q1, q2⟩ := q
  have := c_isub a 1; have := rng32 a; have := rng32 (a - 1); have e1 : (1 : Int32).toInt = 1 := rfl
  rw [Int32.lt_iff_toInt_lt] at *; omega
theorem own_b6 {x a b : Int32} (h : ¬ x < a) (q : b < a) : b < x := by rw [Int32.lt_iff_toInt_lt] at *; omega
theorem own_b7 {x a b : Int32} (h : a < x) (q : ¬ a + 1 < b ∧ a < a + 1) : ¬ x < b := by
  obtain ⟨q1, q2⟩ := q
  have := c_iadd a 1; have := rng32 a; have := rng32 (a + 1); have e1 : (1 : Int32).toInt = 1 := rfl
  rw [Int32.lt_iff_toInt_lt] at *; omega
theorem own_b8 {x a b : Int32} (h : ¬ a < x) (q : a < b) : x < b := by rw [Int32.lt_iff_toInt_lt] at *; omega
theorem own_n1 {x b : Int32} (h : x < b) : ¬ x = b := fun q => by subst q; rw [Int32.lt_iff_toInt_lt] at h; omega
theorem own_n2 {x b : Int32} (h : b < x) : ¬ x = b := fun q => by subst q; rw [Int32.lt_iff_toInt_lt] at h; omega
theorem own_i1 {x y : Int32} (h : x < y) : x.toInt < y.toInt := Int32.lt_iff_toInt_lt.mp h
theorem own_i2 {x y : Int32} (h : ¬ x < y) : y.toInt ≤ x.toInt := Int.not_lt.mp fun q => h (Int32.lt_iff_toInt_lt.mpr q)
theorem own_i3 {x y : Int32} (h : x = y) : x.toInt = y.toInt := congrArg Int32.toInt h
theorem own_i4 {x y : Int32} (h : ¬ x = y) : ¬ x.toInt = y.toInt := fun q => h (Int32.toInt_inj.mp q)
theorem own_some {x y : Int32} (h : x = y) : some (Value.int x) = some (Value.int y) := congrArg (fun z => some (Value.int z)) h
theorem own_ae1 {a b : Addr} (h : a = b) : XT.acmp .eq (.ref a) (.ref b) = true ∧ XT.acmp .ne (.ref a) (.ref b) = false := ⟨decide_eq_true (congrArg Value.ref h), decide_eq_false fun q => q (congrArg Value.ref h)⟩
theorem own_ae0 {a b : Addr} (h : ¬ a = b) : XT.acmp .eq (.ref a) (.ref b) = false ∧ XT.acmp .ne (.ref a) (.ref b) = true := ⟨decide_eq_false fun q => h (Value.ref.inj q), decide_eq_true fun q => h (Value.ref.inj q)⟩
theorem own_ann : XT.acmp .eq .null .null = true ∧ XT.acmp .ne .null .null = false := ⟨rfl, rfl⟩
theorem own_anr (b : Addr) : XT.acmp .eq .null (.ref b) = false ∧ XT.acmp .ne .null (.ref b) = true := by constructor <;> first | rfl | (simp [XT.acmp]; done) | decide
theorem own_arn (b : Addr) : XT.acmp .eq (.ref b) .null = false ∧ XT.acmp .ne (.ref b) .null = true := by constructor <;> first | rfl | (simp [XT.acmp]; done) | decide
theorem own_eqi {args : Array Value} {s : State} {t : Term} {k : Int32} (h : (Jvm.Cond.eq t (Term.int k)).value args s none s [] = some true) : t.eval args s none [] s = some (.int k) := by
  obtain ⟨x, y, e1, e2, k1, k2⟩ := cmp_v (Or.inl h)
  obtain rfl : Value.int k = y := Option.some.inj ((Term.int_eval k).symm.trans e2)
  obtain ⟨z, rfl⟩ : ∃ z, x = .int z := k2
  have q : z = k := gotT (Cond.eq_ints e1 (Term.int_eval k)) h
  rw [e1, q]
theorem own_eql {args : Array Value} {s : State} {t : Term} {k : Int64} (h : (Jvm.Cond.eq t (Term.long k)).value args s none s [] = some true) : t.eval args s none [] s = some (.long k) := by
  obtain ⟨x, y, e1, e2, k1, k2⟩ := cmp_v (Or.inl h)
  obtain rfl : Value.long k = y := Option.some.inj ((show (Term.long k).eval args s none [] s = some (.long k) from rfl).symm.trans e2)
  obtain ⟨z, rfl⟩ : ∃ z, x = .long z := k2
  have q : z = k := gotT (eq_L e1 (show (Term.long k).eval args s none [] s = some (.long k) from rfl)) h
  rw [e1, q]
theorem own_len {args : Array Value} {s : State} {t : Term} {k : Int32} {a : Addr} {c : Cell} (h : (Term.length t).eval args s none [] s = some (.int k)) (ht : t.eval args s none [] s = some (.ref a)) (hc : s.heap[a]? = some c) : c.slots.size.toInt32 = k ∧ c.slots.size < 2 ^ 31 := by
  obtain ⟨a', cell, e1, e2, e3⟩ := Term.length_spec h
  cases ht.symm.trans e1
  have e4 : s.heap[a]? = some cell := own_arrat e2
  cases hc.symm.trans e4
  refine ⟨(Value.int.inj e3).symm, ?_⟩
  by_cases q : c.slots.size < 2 ^ 31
  · exact q
  · simp [Term.eval, ht, e2, q] at h
theorem own_nb0 : nar .boolean 0 = 0 := by decide
theorem own_nb1 : nar .boolean 1 = 1 := by decide
def own_ushr (x y : Int32) : Int32 := (x.toUInt32 >>> (y &&& 31).toUInt32).toInt32
def own_ushrL (x : Int64) (y : Int32) : Int64 := (x.toUInt64 >>> (y &&& 0x3f).toInt64.toUInt64).toInt64
theorem own_d1_0 : decode prog_17_method_7_code 0 = .ok (.aload_n 0, 1) := by decide +kernel
theorem own_d1_1 : decode prog_17_method_7_code 1 = .ok (.astore_n 1, 1) := by decide +kernel
theorem own_d1_2 : decode prog_17_method_7_code 2 = .ok (.aload_n 1, 1) := by decide +kernel
theorem own_d1_3 : decode prog_17_method_7_code 3 = .ok (.arraylength, 1) := by decide +kernel
theorem own_d1_4 : decode prog_17_method_7_code 4 = .ok (.istore_n 2, 1) := by decide +kernel
theorem own_d1_5 : decode prog_17_method_7_code 5 = .ok (.iconst 0, 1) := by decide +kernel
theorem own_d1_6 : decode prog_17_method_7_code 6 = .ok (.istore_n 3, 1) := by decide +kernel
theorem own_d1_7 : decode prog_17_method_7_code 7 = .ok (.iload_n 3, 1) := by decide +kernel
theorem own_d1_8 : decode prog_17_method_7_code 8 = .ok (.iload_n 2, 1) := by decide +kernel
theorem own_d1_9 : decode prog_17_method_7_code 9 = .ok (.if_icmp .ge 21, 3) := by decide +kernel
theorem own_d1_12 : decode prog_17_method_7_code 12 = .ok (.aload_n 1, 1) := by decide +kernel
theorem own_d1_13 : decode prog_17_method_7_code 13 = .ok (.iload_n 3, 1) := by decide +kernel
theorem own_d1_14 : decode prog_17_method_7_code 14 = .ok (.baload, 1) := by decide +kernel
theorem own_d1_15 : decode prog_17_method_7_code 15 = .ok (.istore 4, 2) := by decide +kernel
theorem own_d1_17 : decode prog_17_method_7_code 17 = .ok (.iload 4, 2) := by decide +kernel
theorem own_d1_19 : decode prog_17_method_7_code 19 = .ok (.ifCond .eq 5, 3) := by decide +kernel
theorem own_d1_22 : decode prog_17_method_7_code 22 = .ok (.iconst 1, 1) := by decide +kernel
theorem own_d1_23 : decode prog_17_method_7_code 23 = .ok (.ireturn, 1) := by decide +kernel
theorem own_d1_24 : decode prog_17_method_7_code 24 = .ok (.iinc 3 1, 3) := by decide +kernel
theorem own_d1_27 : decode prog_17_method_7_code 27 = .ok (.goto (-20), 3) := by decide +kernel
theorem own_d1_30 : decode prog_17_method_7_code 30 = .ok (.iconst 0, 1) := by decide +kernel
theorem own_d1_31 : decode prog_17_method_7_code 31 = .ok (.ireturn, 1) := by decide +kernel

def own_bit (x m : Int32) : Int32 := if x &&& m = 0 then 0 else 1
def own_anyL (l : List Int32) : Int32 := if l.all (fun b => b = 0) then 0 else 1
theorem own_or0 (x y : Int32) : x ||| y = 0 ↔ x = 0 ∧ y = 0 := by
  rw [← Int32.toBitVec_inj, ← Int32.toBitVec_inj, ← Int32.toBitVec_inj]
  exact BitVec.or_eq_zero_iff
theorem own_and_or (x a b : Int32) : x &&& (a ||| b) = (x &&& a) ||| (x &&& b) := by
  apply Int32.toBitVec_inj.mp
  simp only [Int32.toBitVec_and, Int32.toBitVec_or]
  apply BitVec.eq_of_getLsbD_eq
  intro i hi
  simp only [BitVec.getLsbD_and, BitVec.getLsbD_or]
  cases x.toBitVec.getLsbD i <;> simp
theorem own_bit0 (x m : Int32) : own_bit x m = 0 ↔ x &&& m = 0 := by unfold own_bit; split <;> simp_all
theorem own_bitor (x a b : Int32) : own_bit x (a ||| b) = 0 ↔ own_bit x a = 0 ∧ own_bit x b = 0 := by
  rw [own_bit0, own_bit0, own_bit0, own_and_or, own_or0]
theorem own_bit01 (x m : Int32) : own_bit x m = 0 ∨ own_bit x m = 1 := by unfold own_bit; split <;> simp
theorem own_anyeq {l : List Int32} {b : Int32} (hb : b = 0 ∨ b = 1) (h : b = 0 ↔ l.all (fun b => b = 0) = true) : own_anyL l = b := by
  unfold own_anyL
  rcases hb with rfl | rfl
  · rw [if_pos (h.mp rfl)]
  · rw [if_neg (fun q => by have := h.mpr q; revert this; decide)]
theorem own_nbit {x m b : Int32} (h : b = own_bit x m) : nar .boolean b = b := by
  rcases own_bit01 x m with q | q <;> rw [h, q] <;> decide
theorem own_r7 {p n : Int32} (h : (p &&& 2147483647) % 7 = n) : n = 0 ∨ n = 1 ∨ n = 2 ∨ n = 3 ∨ n = 4 ∨ n = 5 ∨ n = 6 := by
  have h1 := c_mask p 2147483647 31 (by decide) (by decide)
  have h2 := (c_irem (p &&& 2147483647) 7 7 rfl).1 (by rw [h1]; omega)
  rw [h] at h2
  have : n.toInt = 0 ∨ n.toInt = 1 ∨ n.toInt = 2 ∨ n.toInt = 3 ∨ n.toInt = 4 ∨ n.toInt = 5 ∨ n.toInt = 6 := by omega
  rcases this with q | q | q | q | q | q | q
  · exact Or.inl (Int32.toInt_inj.mp q)
  · exact Or.inr (Or.inl (Int32.toInt_inj.mp q))
  · exact Or.inr (Or.inr (Or.inl (Int32.toInt_inj.mp q)))
  · exact Or.inr (Or.inr (Or.inr (Or.inl (Int32.toInt_inj.mp q))))
  · exact Or.inr (Or.inr (Or.inr (Or.inr (Or.inl (Int32.toInt_inj.mp q)))))
  · exact Or.inr (Or.inr (Or.inr (Or.inr (Or.inr (Or.inl (Int32.toInt_inj.mp q))))))
  · exact Or.inr (Or.inr (Or.inr (Or.inr (Or.inr (Or.inr (Int32.toInt_inj.mp q))))))
theorem own_any0 (p : Int32) : own_anyL [] = own_bit p 0 := by
  refine own_anyeq (own_bit01 _ _) ?_
  rw [own_bit0]; simp
theorem own_any1 (p : Int32) : own_anyL [own_bit p 1] = own_bit p 1 := by
  refine own_anyeq (own_bit01 _ _) ?_
  rw [show (1 : Int32) = 1 from by decide]
  simp only [own_bitor, List.all_cons, List.all_nil, Bool.and_eq_true, decide_eq_true_eq, and_true]
theorem own_any2 (p : Int32) : own_anyL [own_bit p 1, own_bit p 2] = own_bit p 3 := by
  refine own_anyeq (own_bit01 _ _) ?_
  rw [show (3 : Int32) = 1 ||| (2) from by decide]
  simp only [own_bitor, List.all_cons, List.all_nil, Bool.and_eq_true, decide_eq_true_eq, and_true]
theorem own_any3 (p : Int32) : own_anyL [own_bit p 1, own_bit p 2, own_bit p 4] = own_bit p 7 := by
  refine own_anyeq (own_bit01 _ _) ?_
  rw [show (7 : Int32) = 1 ||| (2 ||| (4)) from by decide]
  simp only [own_bitor, List.all_cons, List.all_nil, Bool.and_eq_true, decide_eq_true_eq, and_true]
theorem own_any4 (p : Int32) : own_anyL [own_bit p 1, own_bit p 2, own_bit p 4, own_bit p 8] = own_bit p 15 := by
  refine own_anyeq (own_bit01 _ _) ?_
  rw [show (15 : Int32) = 1 ||| (2 ||| (4 ||| (8))) from by decide]
  simp only [own_bitor, List.all_cons, List.all_nil, Bool.and_eq_true, decide_eq_true_eq, and_true]
theorem own_any5 (p : Int32) : own_anyL [own_bit p 1, own_bit p 2, own_bit p 4, own_bit p 8, own_bit p 16] = own_bit p 31 := by
  refine own_anyeq (own_bit01 _ _) ?_
  rw [show (31 : Int32) = 1 ||| (2 ||| (4 ||| (8 ||| (16)))) from by decide]
  simp only [own_bitor, List.all_cons, List.all_nil, Bool.and_eq_true, decide_eq_true_eq, and_true]
theorem own_any6 (p : Int32) : own_anyL [own_bit p 1, own_bit p 2, own_bit p 4, own_bit p 8, own_bit p 16, own_bit p 32] = own_bit p 63 := by
  refine own_anyeq (own_bit01 _ _) ?_
  rw [show (63 : Int32) = 1 ||| (2 ||| (4 ||| (8 ||| (16 ||| (32))))) from by decide]
  simp only [own_bitor, List.all_cons, List.all_nil, Bool.and_eq_true, decide_eq_true_eq, and_true]
def own_room1_0 : Room := { frames := 0, cells := 0, slots := 0, locals := 0 }
def own_Q1_0 (Z : State) (r : Addr) (k : ClassId) (h0 : Heap) (n0 : Nat) (v : Option Value) (h : Heap) (L : List Loc) : Prop := v = some (.int (own_anyL [])) ∧ Fr n0 L ∧ h = h0
theorem own_ef_rm1_0 (m : MethodId) (x0 : Addr) : entryFrame m #[(.ref x0)] 5 = mkF m 0 #[.val (.ref x0), .unset, .unset, .unset, .unset] [] := by first | (simp [entryFrame, mkF, argsToLocals, Value.category]; done) | rfl
set_option maxRecDepth 65536 in
set_option maxHeartbeats 40000000 in
theorem own_rm1_0 (l : Launch) (Z : State) (a0 : Array Value) (hw : ∀ d ∈ tables_1, d.before a0 Z = true) (ws : List Jvm.Cond) (r : Addr) (k : ClassId) (h0 : Heap) (n0 : Nat) (V0 : Arv Z h0 r k .boolean (0 : Int32) [] (.int (0 : Int32))) :
    MetFree l (⟨"com/example/closure_crew/closurecrew/engine/Crew", "anyOf", "([Z)Z"⟩ : MethodName) (head1 (Jvm.Cond.code (⟨"com/example/closure_crew/closurecrew/engine/Crew", "anyOf", "([Z)Z"⟩ : MethodName) prog_17_method_7_code 5 (some .boolean) :: ws) own_room1_0) (fun zz U => zz = #[(.ref r)] ∧ Z.Warmed39 U.vm ∧ U.heap = h0) (fun _ _ _ _ _ => True) (fun _ U o U' => ∃ v L, o = .returned v ∧ own_Q1_0 Z r k h0 n0 v U'.heap L ∧ FrameEnd U o U' L own_room1_0.cells own_room1_0.slots) := by
  refine MetFree.of_bodySF (plainFor_of_name own_pn0) hisR ?_
  intro p e s m args below meth c s₁ Bd hml0 hP hK
  obtain ⟨rfl, hZ, hh⟩ := hP
  have hx := Bd.exec
  have hby := Bd.bytes
  have hml : c.maxLocals = 5 := hml0
  have hown : s.vm.findClass "com/example/closure_crew/closurecrew/engine/Crew" = some m.cls := findClass_of_methodNamed Bd.named
  have hnm := (name_of_methodNamed Bd.named Bd.method).1
  have hlk : meth.locks = false := BodyLoose.notSynchronized Bd
  have hret := Bd.returns
  have X0 : Stand p l e own_room1_0 s m #[(.ref r)] below meth c s₁ [] 0 0 := Stand.of_body Bd
  have e0 : s₁.heap = h0 := by rw [← hh, Bd.state]; rfl
  have N0 := Fr.nil n0
  show own_Ends p e below s (own_Q1_0 Z r k h0 n0) own_room1_0.cells own_room1_0.slots s₁ (entryFrame m #[(.ref r)] 5)
  refine own_cast (own_ef_rm1_0 m r) ?_
  refine own_aloadN (pc' := 1) X0 hx (hb hby own_d1_0) rfl rfl rfl ?_
  refine own_astoreN (pc' := 2) (l' := #[.val (.ref r), .val (.ref r), .unset, .unset, .unset]) X0 hx (hb hby own_d1_1) rfl rfl rfl ?_
  refine own_aloadN (pc' := 3) X0 hx (hb hby own_d1_2) rfl rfl rfl ?_
  refine own_alen (pc' := 4) X0 hx hZ e0 V0 (hb hby own_d1_3) rfl ?_
  refine own_istoreN (pc' := 5) (l' := #[.val (.ref r), .val (.ref r), .val (.int (0 : Int32)), .unset, .unset]) X0 hx (hb hby own_d1_4) rfl rfl ?_
  refine own_iconst (pc' := 6) (z := (0 : Int32)) X0 hx (hb hby own_d1_5) rfl rfl ?_
  refine own_istoreN (pc' := 7) (l' := #[.val (.ref r), .val (.ref r), .val (.int (0 : Int32)), .val (.int (0 : Int32)), .unset]) X0 hx (hb hby own_d1_6) rfl rfl ?_
  refine own_iloadN (pc' := 8) X0 hx (hb hby own_d1_7) rfl rfl ?_
  refine own_iloadN (pc' := 9) X0 hx (hb hby own_d1_8) rfl rfl ?_
  refine own_icmpYes (pc' := 30) X0 hx (hb hby own_d1_9) (flt (by decide)).2.1 (by decide) (by decide) ?_
  refine own_iconst (pc' := 31) (z := (0 : Int32)) X0 hx (hb hby own_d1_30) rfl rfl ?_
  refine own_retN X0 hx hlk hret (by simp) (hb hby own_d1_31) (by decide) (by decide) ?_
  exact ⟨own_some (by rw [own_nb0]; simp [own_anyL, List.all_nil]), N0, e0⟩
def own_room1_1 : Room := { frames := 0, cells := 0, slots := 0, locals := 0 }
def own_Q1_1 (Z : State) (r : Addr) (k : ClassId) (b0 : Int32) (h0 : Heap) (n0 : Nat) (v : Option Value) (h : Heap) (L : List Loc) : Prop := v = some (.int (own_anyL [b0])) ∧ Fr n0 L ∧ h = h0
theorem own_ef_rm1_1 (m : MethodId) (x0 : Addr) : entryFrame m #[(.ref x0)] 5 = mkF m 0 #[.val (.ref x0), .unset, .unset, .unset, .unset] [] := by first | (simp [entryFrame, mkF, argsToLocals, Value.category]; done) | rfl
set_option maxRecDepth 65536 in
set_option maxHeartbeats 40000000 in
theorem own_rm1_1 (l : Launch) (Z : State) (a0 : Array Value) (hw : ∀ d ∈ tables_1, d.before a0 Z = true) (ws : List Jvm.Cond) (r : Addr) (k : ClassId) (b0 : Int32) (h0 : Heap) (n0 : Nat) (V0 : Arv Z h0 r k .boolean (1 : Int32) [(.int b0)] (.int (0 : Int32))) :
    MetFree l (⟨"com/example/closure_crew/closurecrew/engine/Crew", "anyOf", "([Z)Z"⟩ : MethodName) (head1 (Jvm.Cond.code (⟨"com/example/closure_crew/closurecrew/engine/Crew", "anyOf", "([Z)Z"⟩ : MethodName) prog_17_method_7_code 5 (some .boolean) :: ws) own_room1_1) (fun zz U => zz = #[(.ref r)] ∧ Z.Warmed39 U.vm ∧ U.heap = h0) (fun _ _ _ _ _ => True) (fun _ U o U' => ∃ v L, o = .returned v ∧ own_Q1_1 Z r k b0 h0 n0 v U'.heap L ∧ FrameEnd U o U' L own_room1_1.cells own_room1_1.slots) := by
  refine MetFree.of_bodySF (plainFor_of_name own_pn0) hisR ?_
  intro p e s m args below meth c s₁ Bd hml0 hP hK
  obtain ⟨rfl, hZ, hh⟩ := hP
  have hx := Bd.exec
  have hby := Bd.bytes
  have hml : c.maxLocals = 5 := hml0
  have hown : s.vm.findClass "com/example/closure_crew/closurecrew/engine/Crew" = some m.cls := findClass_of_methodNamed Bd.named
  have hnm := (name_of_methodNamed Bd.named Bd.method).1
  have hlk : meth.locks = false := BodyLoose.notSynchronized Bd
  have hret := Bd.returns
  have X0 : Stand p l e own_room1_1 s m #[(.ref r)] below meth c s₁ [] 0 0 := Stand.of_body Bd
  have e0 : s₁.heap = h0 := by rw [← hh, Bd.state]; rfl
  have N0 := Fr.nil n0
  show own_Ends p e below s (own_Q1_1 Z r k b0 h0 n0) own_room1_1.cells own_room1_1.slots s₁ (entryFrame m #[(.ref r)] 5)
  refine own_cast (own_ef_rm1_1 m r) ?_
  refine own_aloadN (pc' := 1) X0 hx (hb hby own_d1_0) rfl rfl rfl ?_
  refine own_astoreN (pc' := 2) (l' := #[.val (.ref r), .val (.ref r), .unset, .unset, .unset]) X0 hx (hb hby own_d1_1) rfl rfl rfl ?_
  refine own_aloadN (pc' := 3) X0 hx (hb hby own_d1_2) rfl rfl rfl ?_
  refine own_alen (pc' := 4) X0 hx hZ e0 V0 (hb hby own_d1_3) rfl ?_
  refine own_istoreN (pc' := 5) (l' := #[.val (.ref r), .val (.ref r), .val (.int (1 : Int32)), .unset, .unset]) X0 hx (hb hby own_d1_4) rfl rfl ?_
  refine own_iconst (pc' := 6) (z := (0 : Int32)) X0 hx (hb hby own_d1_5) rfl rfl ?_
  refine own_istoreN (pc' := 7) (l' := #[.val (.ref r), .val (.ref r), .val (.int (1 : Int32)), .val (.int (0 : Int32)), .unset]) X0 hx (hb hby own_d1_6) rfl rfl ?_
  refine own_iloadN (pc' := 8) X0 hx (hb hby own_d1_7) rfl rfl ?_
  refine own_iloadN (pc' := 9) X0 hx (hb hby own_d1_8) rfl rfl ?_
  refine own_icmpNo (pc' := 12) X0 hx (hb hby own_d1_9) rfl (tlt (by decide)).2.1 ?_
  refine own_aloadN (pc' := 13) X0 hx (hb hby own_d1_12) rfl rfl rfl ?_
  refine own_iloadN (pc' := 14) X0 hx (hb hby own_d1_13) rfl rfl ?_
  refine own_zaload (pc' := 15) X0 hx hZ e0 V0 (hb hby own_d1_14) rfl (by decide) rfl ?_
  refine own_istore (pc' := 17) (l' := #[.val (.ref r), .val (.ref r), .val (.int (1 : Int32)), .val (.int (0 : Int32)), .val (.int b0)]) X0 hx (hb hby own_d1_15) rfl rfl ?_
  refine own_iload (pc' := 19) X0 hx (hb hby own_d1_17) rfl rfl ?_
  by_cases hc19_31 : b0 = (0 : Int32)
  · refine own_ifYes (pc' := 24) X0 hx (hb hby own_d1_19) (teq hc19_31).1 (by decide) (by decide) ?_
    refine own_iinc (pc' := 27) (z := (1 : Int32)) (l' := #[.val (.ref r), .val (.ref r), .val (.int (1 : Int32)), .val (.int (1 : Int32)), .val (.int b0)]) X0 hx (hb hby own_d1_24) rfl rfl (by decide) rfl ?_
    refine own_goto (pc' := 7) X0 hx (hb hby own_d1_27) (by decide) (by decide) ?_
    refine own_iloadN (pc' := 8) X0 hx (hb hby own_d1_7) rfl rfl ?_
    refine own_iloadN (pc' := 9) X0 hx (hb hby own_d1_8) rfl rfl ?_
    refine own_icmpYes (pc' := 30) X0 hx (hb hby own_d1_9) (flt (by decide)).2.1 (by decide) (by decide) ?_
    refine own_iconst (pc' := 31) (z := (0 : Int32)) X0 hx (hb hby own_d1_30) rfl rfl ?_
    refine own_retN X0 hx hlk hret (by simp) (hb hby own_d1_31) (by decide) (by decide) ?_
    exact ⟨own_some (by rw [own_nb0]; simp [own_anyL, hc19_31]), N0, e0⟩
  · refine own_ifNo (pc' := 22) X0 hx (hb hby own_d1_19) rfl (feq hc19_31).1 ?_
    refine own_iconst (pc' := 23) (z := (1 : Int32)) X0 hx (hb hby own_d1_22) rfl rfl ?_
    refine own_retN X0 hx hlk hret (by simp) (hb hby own_d1_23) (by decide) (by decide) ?_
    exact ⟨own_some (by rw [own_nb1]; simp [own_anyL, hc19_31]), N0, e0⟩
def own_room1_2 : Room := { frames := 0, cells := 0, slots := 0, locals := 0 }
def own_Q1_2 (Z : State) (r : Addr) (k : ClassId) (b0 : Int32) (b1 : Int32) (h0 : Heap) (n0 : Nat) (v : Option Value) (h : Heap) (L : List Loc) : Prop := v = some (.int (own_anyL [b0, b1])) ∧ Fr n0 L ∧ h = h0
theorem own_ef_rm1_2 (m : MethodId) (x0 : Addr) : entryFrame m #[(.ref x0)] 5 = mkF m 0 #[.val (.ref x0), .unset, .unset, .unset, .unset] [] := by first | (simp [entryFrame, mkF, argsToLocals, Value.category]; done) | rfl
set_option maxRecDepth 65536 in
set_option maxHeartbeats 40000000 in
theorem own_rm1_2 (l : Launch) (Z : State) (a0 : Array Value) (hw : ∀ d ∈ tables_1, d.before a0 Z = true) (ws : List Jvm.Cond) (r : Addr) (k : ClassId) (b0 : Int32) (b1 : Int32) (h0 : Heap) (n0 : Nat) (V0 : Arv Z h0 r k .boolean (2 : Int32) [(.int b0), (.int b1)] (.int (0 : Int32))) :
    MetFree l (⟨"com/example/closure_crew/closurecrew/engine/Crew", "anyOf", "([Z)Z"⟩ : MethodName) (head1 (Jvm.Cond.code (⟨"com/example/closure_crew/closurecrew/engine/Crew", "anyOf", "([Z)Z"⟩ : MethodName) prog_17_method_7_code 5 (some .boolean) :: ws) own_room1_2) (fun zz U => zz = #[(.ref r)] ∧ Z.Warmed39 U.vm ∧ U.heap = h0) (fun _ _ _ _ _ => True) (fun _ U o U' => ∃ v L, o = .returned v ∧ own_Q1_2 Z r k b0 b1 h0 n0 v U'.heap L ∧ FrameEnd U o U' L own_room1_2.cells own_room1_2.slots) := by
  refine MetFree.of_bodySF (plainFor_of_name own_pn0) hisR ?_
  intro p e s m args below meth c s₁ Bd hml0 hP hK
  obtain ⟨rfl, hZ, hh⟩ := hP
  have hx := Bd.exec
  have hby := Bd.bytes
  have hml : c.maxLocals = 5 := hml0
  have hown : s.vm.findClass "com/example/closure_crew/closurecrew/engine/Crew" = some m.cls := findClass_of_methodNamed Bd.named
  have hnm := (name_of_methodNamed Bd.named Bd.method).1
  have hlk : meth.locks = false := BodyLoose.notSynchronized Bd
  have hret := Bd.returns
  have X0 : Stand p l e own_room1_2 s m #[(.ref r)] below meth c s₁ [] 0 0 := Stand.of_body Bd
  have e0 : s₁.heap = h0 := by rw [← hh, Bd.state]; rfl
  have N0 := Fr.nil n0
  show own_Ends p e below s (own_Q1_2 Z r k b0 b1 h0 n0) own_room1_2.cells own_room1_2.slots s₁ (entryFrame m #[(.ref r)] 5)
  refine own_cast (own_ef_rm1_2 m r) ?_
  refine own_aloadN (pc' := 1) X0 hx (hb hby own_d1_0) rfl rfl rfl ?_
  refine own_astoreN (pc' := 2) (l' := #[.val (.ref r), .val (.ref r), .unset, .unset, .unset]) X0 hx (hb hby own_d1_1) rfl rfl rfl ?_
  refine own_aloadN (pc' := 3) X0 hx (hb hby own_d1_2) rfl rfl rfl ?_
  refine own_alen (pc' := 4) X0 hx hZ e0 V0 (hb hby own_d1_3) rfl ?_
  refine own_istoreN (pc' := 5) (l' := #[.val (.ref r), .val (.ref r), .val (.int (2 : Int32)), .unset, .unset]) X0 hx (hb hby own_d1_4) rfl rfl ?_
  refine own_iconst (pc' := 6) (z := (0 : Int32)) X0 hx (hb hby own_d1_5) rfl rfl ?_
  refine own_istoreN (pc' := 7) (l' := #[.val (.ref r), .val (.ref r), .val (.int (2 : Int32)), .val (.int (0 : Int32)), .unset]) X0 hx (hb hby own_d1_6) rfl rfl ?_
  refine own_iloadN (pc' := 8) X0 hx (hb hby own_d1_7) rfl rfl ?_
  refine own_iloadN (pc' := 9) X0 hx (hb hby own_d1_8) rfl rfl ?_
  refine own_icmpNo (pc' := 12) X0 hx (hb hby own_d1_9) rfl (tlt (by decide)).2.1 ?_
  refine own_aloadN (pc' := 13) X0 hx (hb hby own_d1_12) rfl rfl rfl ?_
  refine own_iloadN (pc' := 14) X0 hx (hb hby own_d1_13) rfl rfl ?_
  refine own_zaload (pc' := 15) X0 hx hZ e0 V0 (hb hby own_d1_14) rfl (by decide) rfl ?_
  refine own_istore (pc' := 17) (l' := #[.val (.ref r), .val (.ref r), .val (.int (2 : Int32)), .val (.int (0 : Int32)), .val (.int b0)]) X0 hx (hb hby own_d1_15) rfl rfl ?_
  refine own_iload (pc' := 19) X0 hx (hb hby own_d1_17) rfl rfl ?_
  by_cases hc19_31 : b0 = (0 : Int32)
  · refine own_ifYes (pc' := 24) X0 hx (hb hby own_d1_19) (teq hc19_31).1 (by decide) (by decide) ?_
    refine own_iinc (pc' := 27) (z := (1 : Int32)) (l' := #[.val (.ref r), .val (.ref r), .val (.int (2 : Int32)), .val (.int (1 : Int32)), .val (.int b0)]) X0 hx (hb hby own_d1_24) rfl rfl (by decide) rfl ?_
    refine own_goto (pc' := 7) X0 hx (hb hby own_d1_27) (by decide) (by decide) ?_
    refine own_iloadN (pc' := 8) X0 hx (hb hby own_d1_7) rfl rfl ?_
    refine own_iloadN (pc' := 9) X0 hx (hb hby own_d1_8) rfl rfl ?_
    refine own_icmpNo (pc' := 12) X0 hx (hb hby own_d1_9) rfl (tlt (by decide)).2.1 ?_
    refine own_aloadN (pc' := 13) X0 hx (hb hby own_d1_12) rfl rfl rfl ?_
    refine own_iloadN (pc' := 14) X0 hx (hb hby own_d1_13) rfl rfl ?_
    refine own_zaload (pc' := 15) X0 hx hZ e0 V0 (hb hby own_d1_14) rfl (by decide) rfl ?_
    refine own_istore (pc' := 17) (l' := #[.val (.ref r), .val (.ref r), .val (.int (2 : Int32)), .val (.int (1 : Int32)), .val (.int b1)]) X0 hx (hb hby own_d1_15) rfl rfl ?_
    refine own_iload (pc' := 19) X0 hx (hb hby own_d1_17) rfl rfl ?_
    by_cases hc19_32 : b1 = (0 : Int32)
    · refine own_ifYes (pc' := 24) X0 hx (hb hby own_d1_19) (teq hc19_32).1 (by decide) (by decide) ?_
      refine own_iinc (pc' := 27) (z := (2 : Int32)) (l' := #[.val (.ref r), .val (.ref r), .val (.int (2 : Int32)), .val (.int (2 : Int32)), .val (.int b1)]) X0 hx (hb hby own_d1_24) rfl rfl (by decide) rfl ?_
      refine own_goto (pc' := 7) X0 hx (hb hby own_d1_27) (by decide) (by decide) ?_
      refine own_iloadN (pc' := 8) X0 hx (hb hby own_d1_7) rfl rfl ?_
      refine own_iloadN (pc' := 9) X0 hx (hb hby own_d1_8) rfl rfl ?_
      refine own_icmpYes (pc' := 30) X0 hx (hb hby own_d1_9) (flt (by decide)).2.1 (by decide) (by decide) ?_
      refine own_iconst (pc' := 31) (z := (0 : Int32)) X0 hx (hb hby own_d1_30) rfl rfl ?_
      refine own_retN X0 hx hlk hret (by simp) (hb hby own_d1_31) (by decide) (by decide) ?_
      exact ⟨own_some (by rw [own_nb0]; simp [own_anyL, hc19_31, hc19_32]), N0, e0⟩
    · refine own_ifNo (pc' := 22) X0 hx (hb hby own_d1_19) rfl (feq hc19_32).1 ?_
      refine own_iconst (pc' := 23) (z := (1 : Int32)) X0 hx (hb hby own_d1_22) rfl rfl ?_
      refine own_retN X0 hx hlk hret (by simp) (hb hby own_d1_23) (by decide) (by decide) ?_
      exact ⟨own_some (by rw [own_nb1]; simp [own_anyL, hc19_31, hc19_32]), N0, e0⟩
  · refine own_ifNo (pc' := 22) X0 hx (hb hby own_d1_19) rfl (feq hc19_31).1 ?_
    refine own_iconst (pc' := 23) (z := (1 : Int32)) X0 hx (hb hby own_d1_22) rfl rfl ?_
    refine own_retN X0 hx hlk hret (by simp) (hb hby own_d1_23) (by decide) (by decide) ?_
    exact ⟨own_some (by rw [own_nb1]; simp [own_anyL, hc19_31]), N0, e0⟩
def own_room1_3 : Room := { frames := 0, cells := 0, slots := 0, locals := 0 }
def own_Q1_3 (Z : State) (r : Addr) (k : ClassId) (b0 : Int32) (b1 : Int32) (b2 : Int32) (h0 : Heap) (n0 : Nat) (v : Option Value) (h : Heap) (L : List Loc) : Prop := v = some (.int (own_anyL [b0, b1, b2])) ∧ Fr n0 L ∧ h = h0
theorem own_ef_rm1_3 (m : MethodId) (x0 : Addr) : entryFrame m #[(.ref x0)] 5 = mkF m 0 #[.val (.ref x0), .unset, .unset, .unset, .unset] [] := by first | (simp [entryFrame, mkF, argsToLocals, Value.category]; done) | rfl
set_option maxRecDepth 65536 in
set_option maxHeartbeats 40000000 in
theorem own_rm1_3 (l : Launch) (Z : State) (a0 : Array Value) (hw : ∀ d ∈ tables_1, d.before a0 Z = true) (ws : List Jvm.Cond) (r : Addr) (k : ClassId) (b0 : Int32) (b1 : Int32) (b2 : Int32) (h0 : Heap) (n0 : Nat) (V0 : Arv Z h0 r k .boolean (3 : Int32) [(.int b0), (.int b1), (.int b2)] (.int (0 : Int32))) :
    MetFree l (⟨"com/example/closure_crew/closurecrew/engine/Crew", "anyOf", "([Z)Z"⟩ : MethodName) (head1 (Jvm.Cond.code (⟨"com/example/closure_crew/closurecrew/engine/Crew", "anyOf", "([Z)Z"⟩ : MethodName) prog_17_method_7_code 5 (some .boolean) :: ws) own_room1_3) (fun zz U => zz = #[(.ref r)] ∧ Z.Warmed39 U.vm ∧ U.heap = h0) (fun _ _ _ _ _ => True) (fun _ U o U' => ∃ v L, o = .returned v ∧ own_Q1_3 Z r k b0 b1 b2 h0 n0 v U'.heap L ∧ FrameEnd U o U' L own_room1_3.cells own_room1_3.slots) := by
  refine MetFree.of_bodySF (plainFor_of_name own_pn0) hisR ?_
  intro p e s m args below meth c s₁ Bd hml0 hP hK
  obtain ⟨rfl, hZ, hh⟩ := hP
  have hx := Bd.exec
  have hby := Bd.bytes
  have hml : c.maxLocals = 5 := hml0
  have hown : s.vm.findClass "com/example/closure_crew/closurecrew/engine/Crew" = some m.cls := findClass_of_methodNamed Bd.named
  have hnm := (name_of_methodNamed Bd.named Bd.method).1
  have hlk : meth.locks = false := BodyLoose.notSynchronized Bd
  have hret := Bd.returns
  have X0 : Stand p l e own_room1_3 s m #[(.ref r)] below meth c s₁ [] 0 0 := Stand.of_body Bd
  have e0 : s₁.heap = h0 := by rw [← hh, Bd.state]; rfl
  have N0 := Fr.nil n0
  show own_Ends p e below s (own_Q1_3 Z r k b0 b1 b2 h0 n0) own_room1_3.cells own_room1_3.slots s₁ (entryFrame m #[(.ref r)] 5)
  refine own_cast (own_ef_rm1_3 m r) ?_
  refine own_aloadN (pc' := 1) X0 hx (hb hby own_d1_0) rfl rfl rfl ?_
  refine own_astoreN (pc' := 2) (l' := #[.val (.ref r), .val (.ref r), .unset, .unset, .unset]) X0 hx (hb hby own_d1_1) rfl rfl rfl ?_
  refine own_aloadN (pc' := 3) X0 hx (hb hby own_d1_2) rfl rfl rfl ?_
  refine own_alen (pc' := 4) X0 hx hZ e0 V0 (hb hby own_d1_3) rfl ?_
  refine own_istoreN (pc' := 5) (l' := #[.val (.ref r), .val (.ref r), .val (.int (3 : Int32)), .unset, .unset]) X0 hx (hb hby own_d1_4) rfl rfl ?_
  refine own_iconst (pc' := 6) (z := (0 : Int32)) X0 hx (hb hby own_d1_5) rfl rfl ?_
  refine own_istoreN (pc' := 7) (l' := #[.val (.ref r), .val (.ref r), .val (.int (3 : Int32)), .val (.int (0 : Int32)), .unset]) X0 hx (hb hby own_d1_6) rfl rfl ?_
  refine own_iloadN (pc' := 8) X0 hx (hb hby own_d1_7) rfl rfl ?_
  refine own_iloadN (pc' := 9) X0 hx (hb hby own_d1_8) rfl rfl ?_
  refine own_icmpNo (pc' := 12) X0 hx (hb hby own_d1_9) rfl (tlt (by decide)).2.1 ?_
  refine own_aloadN (pc' := 13) X0 hx (hb hby own_d1_12) rfl rfl rfl ?_
  refine own_iloadN (pc' := 14) X0 hx (hb hby own_d1_13) rfl rfl ?_
  refine own_zaload (pc' := 15) X0 hx hZ e0 V0 (hb hby own_d1_14) rfl (by decide) rfl ?_
  refine own_istore (pc' := 17) (l' := #[.val (.ref r), .val (.ref r), .val (.int (3 : Int32)), .val (.int (0 : Int32)), .val (.int b0)]) X0 hx (hb hby own_d1_15) rfl rfl ?_
  refine own_iload (pc' := 19) X0 hx (hb hby own_d1_17) rfl rfl ?_
  by_cases hc19_31 : b0 = (0 : Int32)
  · refine own_ifYes (pc' := 24) X0 hx (hb hby own_d1_19) (teq hc19_31).1 (by decide) (by decide) ?_
    refine own_iinc (pc' := 27) (z := (1 : Int32)) (l' := #[.val (.ref r), .val (.ref r), .val (.int (3 : Int32)), .val (.int (1 : Int32)), .val (.int b0)]) X0 hx (hb hby own_d1_24) rfl rfl (by decide) rfl ?_
    refine own_goto (pc' := 7) X0 hx (hb hby own_d1_27) (by decide) (by decide) ?_
    refine own_iloadN (pc' := 8) X0 hx (hb hby own_d1_7) rfl rfl ?_
    refine own_iloadN (pc' := 9) X0 hx (hb hby own_d1_8) rfl rfl ?_
    refine own_icmpNo (pc' := 12) X0 hx (hb hby own_d1_9) rfl (tlt (by decide)).2.1 ?_
    refine own_aloadN (pc' := 13) X0 hx (hb hby own_d1_12) rfl rfl rfl ?_
    refine own_iloadN (pc' := 14) X0 hx (hb hby own_d1_13) rfl rfl ?_
    refine own_zaload (pc' := 15) X0 hx hZ e0 V0 (hb hby own_d1_14) rfl (by decide) rfl ?_
    refine own_istore (pc' := 17) (l' := #[.val (.ref r), .val (.ref r), .val (.int (3 : Int32)), .val (.int (1 : Int32)), .val (.int b1)]) X0 hx (hb hby own_d1_15) rfl rfl ?_
    refine own_iload (pc' := 19) X0 hx (hb hby own_d1_17) rfl rfl ?_
    by_cases hc19_32 : b1 = (0 : Int32)
    · refine own_ifYes (pc' := 24) X0 hx (hb hby own_d1_19) (teq hc19_32).1 (by decide) (by decide) ?_
      refine own_iinc (pc' := 27) (z := (2 : Int32)) (l' := #[.val (.ref r), .val (.ref r), .val (.int (3 : Int32)), .val (.int (2 : Int32)), .val (.int b1)]) X0 hx (hb hby own_d1_24) rfl rfl (by decide) rfl ?_
      refine own_goto (pc' := 7) X0 hx (hb hby own_d1_27) (by decide) (by decide) ?_
      refine own_iloadN (pc' := 8) X0 hx (hb hby own_d1_7) rfl rfl ?_
      refine own_iloadN (pc' := 9) X0 hx (hb hby own_d1_8) rfl rfl ?_
      refine own_icmpNo (pc' := 12) X0 hx (hb hby own_d1_9) rfl (tlt (by decide)).2.1 ?_
      refine own_aloadN (pc' := 13) X0 hx (hb hby own_d1_12) rfl rfl rfl ?_
      refine own_iloadN (pc' := 14) X0 hx (hb hby own_d1_13) rfl rfl ?_
      refine own_zaload (pc' := 15) X0 hx hZ e0 V0 (hb hby own_d1_14) rfl (by decide) rfl ?_
      refine own_istore (pc' := 17) (l' := #[.val (.ref r), .val (.ref r), .val (.int (3 : Int32)), .val (.int (2 : Int32)), .val (.int b2)]) X0 hx (hb hby own_d1_15) rfl rfl ?_
      refine own_iload (pc' := 19) X0 hx (hb hby own_d1_17) rfl rfl ?_
      by_cases hc19_33 : b2 = (0 : Int32)
      · refine own_ifYes (pc' := 24) X0 hx (hb hby own_d1_19) (teq hc19_33).1 (by decide) (by decide) ?_
        refine own_iinc (pc' := 27) (z := (3 : Int32)) (l' := #[.val (.ref r), .val (.ref r), .val (.int (3 : Int32)), .val (.int (3 : Int32)), .val (.int b2)]) X0 hx (hb hby own_d1_24) rfl rfl (by decide) rfl ?_
        refine own_goto (pc' := 7) X0 hx (hb hby own_d1_27) (by decide) (by decide) ?_
        refine own_iloadN (pc' := 8) X0 hx (hb hby own_d1_7) rfl rfl ?_
        refine own_iloadN (pc' := 9) X0 hx (hb hby own_d1_8) rfl rfl ?_
        refine own_icmpYes (pc' := 30) X0 hx (hb hby own_d1_9) (flt (by decide)).2.1 (by decide) (by decide) ?_
        refine own_iconst (pc' := 31) (z := (0 : Int32)) X0 hx (hb hby own_d1_30) rfl rfl ?_
        refine own_retN X0 hx hlk hret (by simp) (hb hby own_d1_31) (by decide) (by decide) ?_
        exact ⟨own_some (by rw [own_nb0]; simp [own_anyL, hc19_31, hc19_32, hc19_33]), N0, e0⟩
      · refine own_ifNo (pc' := 22) X0 hx (hb hby own_d1_19) rfl (feq hc19_33).1 ?_
        refine own_iconst (pc' := 23) (z := (1 : Int32)) X0 hx (hb hby own_d1_22) rfl rfl ?_
        refine own_retN X0 hx hlk hret (by simp) (hb hby own_d1_23) (by decide) (by decide) ?_
        exact ⟨own_some (by rw [own_nb1]; simp [own_anyL, hc19_31, hc19_32, hc19_33]), N0, e0⟩
    · refine own_ifNo (pc' := 22) X0 hx (hb hby own_d1_19) rfl (feq hc19_32).1 ?_
      refine own_iconst (pc' := 23) (z := (1 : Int32)) X0 hx (hb hby own_d1_22) rfl rfl ?_
      refine own_retN X0 hx hlk hret (by simp) (hb hby own_d1_23) (by decide) (by decide) ?_
      exact ⟨own_some (by rw [own_nb1]; simp [own_anyL, hc19_31, hc19_32]), N0, e0⟩
  · refine own_ifNo (pc' := 22) X0 hx (hb hby own_d1_19) rfl (feq hc19_31).1 ?_
    refine own_iconst (pc' := 23) (z := (1 : Int32)) X0 hx (hb hby own_d1_22) rfl rfl ?_
    refine own_retN X0 hx hlk hret (by simp) (hb hby own_d1_23) (by decide) (by decide) ?_
    exact ⟨own_some (by rw [own_nb1]; simp [own_anyL, hc19_31]), N0, e0⟩
def own_room1_4 : Room := { frames := 0, cells := 0, slots := 0, locals := 0 }
def own_Q1_4 (Z : State) (r : Addr) (k : ClassId) (b0 : Int32) (b1 : Int32) (b2 : Int32) (b3 : Int32) (h0 : Heap) (n0 : Nat) (v : Option Value) (h : Heap) (L : List Loc) : Prop := v = some (.int (own_anyL [b0, b1, b2, b3])) ∧ Fr n0 L ∧ h = h0
theorem own_ef_rm1_4 (m : MethodId) (x0 : Addr) : entryFrame m #[(.ref x0)] 5 = mkF m 0 #[.val (.ref x0), .unset, .unset, .unset, .unset] [] := by first | (simp [entryFrame, mkF, argsToLocals, Value.category]; done) | rfl
set_option maxRecDepth 65536 in
set_option maxHeartbeats 40000000 in
theorem own_rm1_4 (l : Launch) (Z : State) (a0 : Array Value) (hw : ∀ d ∈ tables_1, d.before a0 Z = true) (ws : List Jvm.Cond) (r : Addr) (k : ClassId) (b0 : Int32) (b1 : Int32) (b2 : Int32) (b3 : Int32) (h0 : Heap) (n0 : Nat) (V0 : Arv Z h0 r k .boolean (4 : Int32) [(.int b0), (.int b1), (.int b2), (.int b3)] (.int (0 : Int32))) :
    MetFree l (⟨"com/example/closure_crew/closurecrew/engine/Crew", "anyOf", "([Z)Z"⟩ : MethodName) (head1 (Jvm.Cond.code (⟨"com/example/closure_crew/closurecrew/engine/Crew", "anyOf", "([Z)Z"⟩ : MethodName) prog_17_method_7_code 5 (some .boolean) :: ws) own_room1_4) (fun zz U => zz = #[(.ref r)] ∧ Z.Warmed39 U.vm ∧ U.heap = h0) (fun _ _ _ _ _ => True) (fun _ U o U' => ∃ v L, o = .returned v ∧ own_Q1_4 Z r k b0 b1 b2 b3 h0 n0 v U'.heap L ∧ FrameEnd U o U' L own_room1_4.cells own_room1_4.slots) := by
  refine MetFree.of_bodySF (plainFor_of_name own_pn0) hisR ?_
  intro p e s m args below meth c s₁ Bd hml0 hP hK
  obtain ⟨rfl, hZ, hh⟩ := hP
  have hx := Bd.exec
  have hby := Bd.bytes
  have hml : c.maxLocals = 5 := hml0
  have hown : s.vm.findClass "com/example/closure_crew/closurecrew/engine/Crew" = some m.cls := findClass_of_methodNamed Bd.named
  have hnm := (name_of_methodNamed Bd.named Bd.method).1
  have hlk : meth.locks = false := BodyLoose.notSynchronized Bd
  have hret := Bd.returns
  have X0 : Stand p l e own_room1_4 s m #[(.ref r)] below meth c s₁ [] 0 0 := Stand.of_body Bd
  have e0 : s₁.heap = h0 := by rw [← hh, Bd.state]; rfl
  have N0 := Fr.nil n0
  show own_Ends p e below s (own_Q1_4 Z r k b0 b1 b2 b3 h0 n0) own_room1_4.cells own_room1_4.slots s₁ (entryFrame m #[(.ref r)] 5)
  refine own_cast (own_ef_rm1_4 m r) ?_
  refine own_aloadN (pc' := 1) X0 hx (hb hby own_d1_0) rfl rfl rfl ?_
  refine own_astoreN (pc' := 2) (l' := #[.val (.ref r), .val (.ref r), .unset, .unset, .unset]) X0 hx (hb hby own_d1_1) rfl rfl rfl ?_
  refine own_aloadN (pc' := 3) X0 hx (hb hby own_d1_2) rfl rfl rfl ?_
  refine own_alen (pc' := 4) X0 hx hZ e0 V0 (hb hby own_d1_3) rfl ?_
  refine own_istoreN (pc' := 5) (l' := #[.val (.ref r), .val (.ref r), .val (.int (4 : Int32)), .unset, .unset]) X0 hx (hb hby own_d1_4) rfl rfl ?_
  refine own_iconst (pc' := 6) (z := (0 : Int32)) X0 hx (hb hby own_d1_5) rfl rfl ?_
  refine own_istoreN (pc' := 7) (l' := #[.val (.ref r), .val (.ref r), .val (.int (4 : Int32)), .val (.int (0 : Int32)), .unset]) X0 hx (hb hby own_d1_6) rfl rfl ?_
  refine own_iloadN (pc' := 8) X0 hx (hb hby own_d1_7) rfl rfl ?_
  refine own_iloadN (pc' := 9) X0 hx (hb hby own_d1_8) rfl rfl ?_
  refine own_icmpNo (pc' := 12) X0 hx (hb hby own_d1_9) rfl (tlt (by decide)).2.1 ?_
  refine own_aloadN (pc' := 13) X0 hx (hb hby own_d1_12) rfl rfl rfl ?_
  refine own_iloadN (pc' := 14) X0 hx (hb hby own_d1_13) rfl rfl ?_
  refine own_zaload (pc' := 15) X0 hx hZ e0 V0 (hb hby own_d1_14) rfl (by decide) rfl ?_
  refine own_istore (pc' := 17) (l' := #[.val (.ref r), .val (.ref r), .val (.int (4 : Int32)), .val (.int (0 : Int32)), .val (.int b0)]) X0 hx (hb hby own_d1_15) rfl rfl ?_
  refine own_iload (pc' := 19) X0 hx (hb hby own_d1_17) rfl rfl ?_
  by_cases hc19_31 : b0 = (0 : Int32)
  · refine own_ifYes (pc' := 24) X0 hx (hb hby own_d1_19) (teq hc19_31).1 (by decide) (by decide) ?_
    refine own_iinc (pc' := 27) (z := (1 : Int32)) (l' := #[.val (.ref r), .val (.ref r), .val (.int (4 : Int32)), .val (.int (1 : Int32)), .val (.int b0)]) X0 hx (hb hby own_d1_24) rfl rfl (by decide) rfl ?_
    refine own_goto (pc' := 7) X0 hx (hb hby own_d1_27) (by decide) (by decide) ?_
    refine own_iloadN (pc' := 8) X0 hx (hb hby own_d1_7) rfl rfl ?_
    refine own_iloadN (pc' := 9) X0 hx (hb hby own_d1_8) rfl rfl ?_
    refine own_icmpNo (pc' := 12) X0 hx (hb hby own_d1_9) rfl (tlt (by decide)).2.1 ?_
    refine own_aloadN (pc' := 13) X0 hx (hb hby own_d1_12) rfl rfl rfl ?_
    refine own_iloadN (pc' := 14) X0 hx (hb hby own_d1_13) rfl rfl ?_
    refine own_zaload (pc' := 15) X0 hx hZ e0 V0 (hb hby own_d1_14) rfl (by decide) rfl ?_
    refine own_istore (pc' := 17) (l' := #[.val (.ref r), .val (.ref r), .val (.int (4 : Int32)), .val (.int (1 : Int32)), .val (.int b1)]) X0 hx (hb hby own_d1_15) rfl rfl ?_
    refine own_iload (pc' := 19) X0 hx (hb hby own_d1_17) rfl rfl ?_
    by_cases hc19_32 : b1 = (0 : Int32)
    · refine own_ifYes (pc' := 24) X0 hx (hb hby own_d1_19) (teq hc19_32).1 (by decide) (by decide) ?_
      refine own_iinc (pc' := 27) (z := (2 : Int32)) (l' := #[.val (.ref r), .val (.ref r), .val (.int (4 : Int32)), .val (.int (2 : Int32)), .val (.int b1)]) X0 hx (hb hby own_d1_24) rfl rfl (by decide) rfl ?_
      refine own_goto (pc' := 7) X0 hx (hb hby own_d1_27) (by decide) (by decide) ?_
      refine own_iloadN (pc' := 8) X0 hx (hb hby own_d1_7) rfl rfl ?_
      refine own_iloadN (pc' := 9) X0 hx (hb hby own_d1_8) rfl rfl ?_
      refine own_icmpNo (pc' := 12) X0 hx (hb hby own_d1_9) rfl (tlt (by decide)).2.1 ?_
      refine own_aloadN (pc' := 13) X0 hx (hb hby own_d1_12) rfl rfl rfl ?_
      refine own_iloadN (pc' := 14) X0 hx (hb hby own_d1_13) rfl rfl ?_
      refine own_zaload (pc' := 15) X0 hx hZ e0 V0 (hb hby own_d1_14) rfl (by decide) rfl ?_
      refine own_istore (pc' := 17) (l' := #[.val (.ref r), .val (.ref r), .val (.int (4 : Int32)), .val (.int (2 : Int32)), .val (.int b2)]) X0 hx (hb hby own_d1_15) rfl rfl ?_
      refine own_iload (pc' := 19) X0 hx (hb hby own_d1_17) rfl rfl ?_
      by_cases hc19_33 : b2 = (0 : Int32)
      · refine own_ifYes (pc' := 24) X0 hx (hb hby own_d1_19) (teq hc19_33).1 (by decide) (by decide) ?_
        refine own_iinc (pc' := 27) (z := (3 : Int32)) (l' := #[.val (.ref r), .val (.ref r), .val (.int (4 : Int32)), .val (.int (3 : Int32)), .val (.int b2)]) X0 hx (hb hby own_d1_24) rfl rfl (by decide) rfl ?_
        refine own_goto (pc' := 7) X0 hx (hb hby own_d1_27) (by decide) (by decide) ?_
        refine own_iloadN (pc' := 8) X0 hx (hb hby own_d1_7) rfl rfl ?_
        refine own_iloadN (pc' := 9) X0 hx (hb hby own_d1_8) rfl rfl ?_
        refine own_icmpNo (pc' := 12) X0 hx (hb hby own_d1_9) rfl (tlt (by decide)).2.1 ?_
        refine own_aloadN (pc' := 13) X0 hx (hb hby own_d1_12) rfl rfl rfl ?_
        refine own_iloadN (pc' := 14) X0 hx (hb hby own_d1_13) rfl rfl ?_
        refine own_zaload (pc' := 15) X0 hx hZ e0 V0 (hb hby own_d1_14) rfl (by decide) rfl ?_
        refine own_istore (pc' := 17) (l' := #[.val (.ref r), .val (.ref r), .val (.int (4 : Int32)), .val (.int (3 : Int32)), .val (.int b3)]) X0 hx (hb hby own_d1_15) rfl rfl ?_
        refine own_iload (pc' := 19) X0 hx (hb hby own_d1_17) rfl rfl ?_
        by_cases hc19_34 : b3 = (0 : Int32)
        · refine own_ifYes (pc' := 24) X0 hx (hb hby own_d1_19) (teq hc19_34).1 (by decide) (by decide) ?_
          refine own_iinc (pc' := 27) (z := (4 : Int32)) (l' := #[.val (.ref r), .val (.ref r), .val (.int (4 : Int32)), .val (.int (4 : Int32)), .val (.int b3)]) X0 hx (hb hby own_d1_24) rfl rfl (by decide) rfl ?_
          refine own_goto (pc' := 7) X0 hx (hb hby own_d1_27) (by decide) (by decide) ?_
          refine own_iloadN (pc' := 8) X0 hx (hb hby own_d1_7) rfl rfl ?_
          refine own_iloadN (pc' := 9) X0 hx (hb hby own_d1_8) rfl rfl ?_
          refine own_icmpYes (pc' := 30) X0 hx (hb hby own_d1_9) (flt (by decide)).2.1 (by decide) (by decide) ?_
          refine own_iconst (pc' := 31) (z := (0 : Int32)) X0 hx (hb hby own_d1_30) rfl rfl ?_
          refine own_retN X0 hx hlk hret (by simp) (hb hby own_d1_31) (by decide) (by decide) ?_
          exact ⟨own_some (by rw [own_nb0]; simp [own_anyL, hc19_31, hc19_32, hc19_33, hc19_34]), N0, e0⟩
        · refine own_ifNo (pc' := 22) X0 hx (hb hby own_d1_19) rfl (feq hc19_34).1 ?_
          refine own_iconst (pc' := 23) (z := (1 : Int32)) X0 hx (hb hby own_d1_22) rfl rfl ?_
          refine own_retN X0 hx hlk hret (by simp) (hb hby own_d1_23) (by decide) (by decide) ?_
          exact ⟨own_some (by rw [own_nb1]; simp [own_anyL, hc19_31, hc19_32, hc19_33, hc19_34]), N0, e0⟩
      · refine own_ifNo (pc' := 22) X0 hx (hb hby own_d1_19) rfl (feq hc19_33).1 ?_
        refine own_iconst (pc' := 23) (z := (1 : Int32)) X0 hx (hb hby own_d1_22) rfl rfl ?_
        refine own_retN X0 hx hlk hret (by simp) (hb hby own_d1_23) (by decide) (by decide) ?_
        exact ⟨own_some (by rw [own_nb1]; simp [own_anyL, hc19_31, hc19_32, hc19_33]), N0, e0⟩
    · refine own_ifNo (pc' := 22) X0 hx (hb hby own_d1_19) rfl (feq hc19_32).1 ?_
      refine own_iconst (pc' := 23) (z := (1 : Int32)) X0 hx (hb hby own_d1_22) rfl rfl ?_
      refine own_retN X0 hx hlk hret (by simp) (hb hby own_d1_23) (by decide) (by decide) ?_
      exact ⟨own_some (by rw [own_nb1]; simp [own_anyL, hc19_31, hc19_32]), N0, e0⟩
  · refine own_ifNo (pc' := 22) X0 hx (hb hby own_d1_19) rfl (feq hc19_31).1 ?_
    refine own_iconst (pc' := 23) (z := (1 : Int32)) X0 hx (hb hby own_d1_22) rfl rfl ?_
    refine own_retN X0 hx hlk hret (by simp) (hb hby own_d1_23) (by decide) (by decide) ?_
    exact ⟨own_some (by rw [own_nb1]; simp [own_anyL, hc19_31]), N0, e0⟩
def own_room1_5 : Room := { frames := 0, cells := 0, slots := 0, locals := 0 }
def own_Q1_5 (Z : State) (r : Addr) (k : ClassId) (b0 : Int32) (b1 : Int32) (b2 : Int32) (b3 : Int32) (b4 : Int32) (h0 : Heap) (n0 : Nat) (v : Option Value) (h : Heap) (L : List Loc) : Prop := v = some (.int (own_anyL [b0, b1, b2, b3, b4])) ∧ Fr n0 L ∧ h = h0
theorem own_ef_rm1_5 (m : MethodId) (x0 : Addr) : entryFrame m #[(.ref x0)] 5 = mkF m 0 #[.val (.ref x0), .unset, .unset, .unset, .unset] [] := by first | (simp [entryFrame, mkF, argsToLocals, Value.category]; done) | rfl
set_option maxRecDepth 65536 in
set_option maxHeartbeats 40000000 in
theorem own_rm1_5 (l : Launch) (Z : State) (a0 : Array Value) (hw : ∀ d ∈ tables_1, d.before a0 Z = true) (ws : List Jvm.Cond) (r : Addr) (k : ClassId) (b0 : Int32) (b1 : Int32) (b2 : Int32) (b3 : Int32) (b4 : Int32) (h0 : Heap) (n0 : Nat) (V0 : Arv Z h0 r k .boolean (5 : Int32) [(.int b0), (.int b1), (.int b2), (.int b3), (.int b4)] (.int (0 : Int32))) :
    MetFree l (⟨"com/example/closure_crew/closurecrew/engine/Crew", "anyOf", "([Z)Z"⟩ : MethodName) (head1 (Jvm.Cond.code (⟨"com/example/closure_crew/closurecrew/engine/Crew", "anyOf", "([Z)Z"⟩ : MethodName) prog_17_method_7_code 5 (some .boolean) :: ws) own_room1_5) (fun zz U => zz = #[(.ref r)] ∧ Z.Warmed39 U.vm ∧ U.heap = h0) (fun _ _ _ _ _ => True) (fun _ U o U' => ∃ v L, o = .returned v ∧ own_Q1_5 Z r k b0 b1 b2 b3 b4 h0 n0 v U'.heap L ∧ FrameEnd U o U' L own_room1_5.cells own_room1_5.slots) := by
  refine MetFree.of_bodySF (plainFor_of_name own_pn0) hisR ?_
  intro p e s m args below meth c s₁ Bd hml0 hP hK
  obtain ⟨rfl, hZ, hh⟩ := hP
  have hx := Bd.exec
  have hby := Bd.bytes
  have hml : c.maxLocals = 5 := hml0
  have hown : s.vm.findClass "com/example/closure_crew/closurecrew/engine/Crew" = some m.cls := findClass_of_methodNamed Bd.named
  have hnm := (name_of_methodNamed Bd.named Bd.method).1
  have hlk : meth.locks = false := BodyLoose.notSynchronized Bd
  have hret := Bd.returns
  have X0 : Stand p l e own_room1_5 s m #[(.ref r)] below meth c s₁ [] 0 0 := Stand.of_body Bd
  have e0 : s₁.heap = h0 := by rw [← hh, Bd.state]; rfl
  have N0 := Fr.nil n0
  show own_Ends p e below s (own_Q1_5 Z r k b0 b1 b2 b3 b4 h0 n0) own_room1_5.cells own_room1_5.slots s₁ (entryFrame m #[(.ref r)] 5)
  refine own_cast (own_ef_rm1_5 m r) ?_
  refine own_aloadN (pc' := 1) X0 hx (hb hby own_d1_0) rfl rfl rfl ?_
  refine own_astoreN (pc' := 2) (l' := #[.val (.ref r), .val (.ref r), .unset, .unset, .unset]) X0 hx (hb hby own_d1_1) rfl rfl rfl ?_
  refine own_aloadN (pc' := 3) X0 hx (hb hby own_d1_2) rfl rfl rfl ?_
  refine own_alen (pc' := 4) X0 hx hZ e0 V0 (hb hby own_d1_3) rfl ?_
  refine own_istoreN (pc' := 5) (l' := #[.val (.ref r), .val (.ref r), .val (.int (5 : Int32)), .unset, .unset]) X0 hx (hb hby own_d1_4) rfl rfl ?_
  refine own_iconst (pc' := 6) (z := (0 : Int32)) X0 hx (hb hby own_d1_5) rfl rfl ?_
  refine own_istoreN (pc' := 7) (l' := #[.val (.ref r), .val (.ref r), .val (.int (5 : Int32)), .val (.int (0 : Int32)), .unset]) X0 hx (hb hby own_d1_6) rfl rfl ?_
  refine own_iloadN (pc' := 8) X0 hx (hb hby own_d1_7) rfl rfl ?_
  refine own_iloadN (pc' := 9) X0 hx (hb hby own_d1_8) rfl rfl ?_
  refine own_icmpNo (pc' := 12) X0 hx (hb hby own_d1_9) rfl (tlt (by decide)).2.1 ?_
  refine own_aloadN (pc' := 13) X0 hx (hb hby own_d1_12) rfl rfl rfl ?_
  refine own_iloadN (pc' := 14) X0 hx (hb hby own_d1_13) rfl rfl ?_
  refine own_zaload (pc' := 15) X0 hx hZ e0 V0 (hb hby own_d1_14) rfl (by decide) rfl ?_
  refine own_istore (pc' := 17) (l' := #[.val (.ref r), .val (.ref r), .val (.int (5 : Int32)), .val (.int (0 : Int32)), .val (.int b0)]) X0 hx (hb hby own_d1_15) rfl rfl ?_
  refine own_iload (pc' := 19) X0 hx (hb hby own_d1_17) rfl rfl ?_
  by_cases hc19_31 : b0 = (0 : Int32)
  · refine own_ifYes (pc' := 24) X0 hx (hb hby own_d1_19) (teq hc19_31).1 (by decide) (by decide) ?_
    refine own_iinc (pc' := 27) (z := (1 : Int32)) (l' := #[.val (.ref r), .val (.ref r), .val (.int (5 : Int32)), .val (.int (1 : Int32)), .val (.int b0)]) X0 hx (hb hby own_d1_24) rfl rfl (by decide) rfl ?_
    refine own_goto (pc' := 7) X0 hx (hb hby own_d1_27) (by decide) (by decide) ?_
    refine own_iloadN (pc' := 8) X0 hx (hb hby own_d1_7) rfl rfl ?_
    refine own_iloadN (pc' := 9) X0 hx (hb hby own_d1_8) rfl rfl ?_
    refine own_icmpNo (pc' := 12) X0 hx (hb hby own_d1_9) rfl (tlt (by decide)).2.1 ?_
    refine own_aloadN (pc' := 13) X0 hx (hb hby own_d1_12) rfl rfl rfl ?_
    refine own_iloadN (pc' := 14) X0 hx (hb hby own_d1_13) rfl rfl ?_
    refine own_zaload (pc' := 15) X0 hx hZ e0 V0 (hb hby own_d1_14) rfl (by decide) rfl ?_
    refine own_istore (pc' := 17) (l' := #[.val (.ref r), .val (.ref r), .val (.int (5 : Int32)), .val (.int (1 : Int32)), .val (.int b1)]) X0 hx (hb hby own_d1_15) rfl rfl ?_
    refine own_iload (pc' := 19) X0 hx (hb hby own_d1_17) rfl rfl ?_
    by_cases hc19_32 : b1 = (0 : Int32)
    · refine own_ifYes (pc' := 24) X0 hx (hb hby own_d1_19) (teq hc19_32).1 (by decide) (by decide) ?_
      refine own_iinc (pc' := 27) (z := (2 : Int32)) (l' := #[.val (.ref r), .val (.ref r), .val (.int (5 : Int32)), .val (.int (2 : Int32)), .val (.int b1)]) X0 hx (hb hby own_d1_24) rfl rfl (by decide) rfl ?_
      refine own_goto (pc' := 7) X0 hx (hb hby own_d1_27) (by decide) (by decide) ?_
      refine own_iloadN (pc' := 8) X0 hx (hb hby own_d1_7) rfl rfl ?_
      refine own_iloadN (pc' := 9) X0 hx (hb hby own_d1_8) rfl rfl ?_
      refine own_icmpNo (pc' := 12) X0 hx (hb hby own_d1_9) rfl (tlt (by decide)).2.1 ?_
      refine own_aloadN (pc' := 13) X0 hx (hb hby own_d1_12) rfl rfl rfl ?_
      refine own_iloadN (pc' := 14) X0 hx (hb hby own_d1_13) rfl rfl ?_
      refine own_zaload (pc' := 15) X0 hx hZ e0 V0 (hb hby own_d1_14) rfl (by decide) rfl ?_
      refine own_istore (pc' := 17) (l' := #[.val (.ref r), .val (.ref r), .val (.int (5 : Int32)), .val (.int (2 : Int32)), .val (.int b2)]) X0 hx (hb hby own_d1_15) rfl rfl ?_
      refine own_iload (pc' := 19) X0 hx (hb hby own_d1_17) rfl rfl ?_
      by_cases hc19_33 : b2 = (0 : Int32)
      · refine own_ifYes (pc' := 24) X0 hx (hb hby own_d1_19) (teq hc19_33).1 (by decide) (by decide) ?_
        refine own_iinc (pc' := 27) (z := (3 : Int32)) (l' := #[.val (.ref r), .val (.ref r), .val (.int (5 : Int32)), .val (.int (3 : Int32)), .val (.int b2)]) X0 hx (hb hby own_d1_24) rfl rfl (by decide) rfl ?_
        refine own_goto (pc' := 7) X0 hx (hb hby own_d1_27) (by decide) (by decide) ?_
        refine own_iloadN (pc' := 8) X0 hx (hb hby own_d1_7) rfl rfl ?_
        refine own_iloadN (pc' := 9) X0 hx (hb hby own_d1_8) rfl rfl ?_
        refine own_icmpNo (pc' := 12) X0 hx (hb hby own_d1_9) rfl (tlt (by decide)).2.1 ?_
        refine own_aloadN (pc' := 13) X0 hx (hb hby own_d1_12) rfl rfl rfl ?_
        refine own_iloadN (pc' := 14) X0 hx (hb hby own_d1_13) rfl rfl ?_
        refine own_zaload (pc' := 15) X0 hx hZ e0 V0 (hb hby own_d1_14) rfl (by decide) rfl ?_
        refine own_istore (pc' := 17) (l' := #[.val (.ref r), .val (.ref r), .val (.int (5 : Int32)), .val (.int (3 : Int32)), .val (.int b3)]) X0 hx (hb hby own_d1_15) rfl rfl ?_
        refine own_iload (pc' := 19) X0 hx (hb hby own_d1_17) rfl rfl ?_
        by_cases hc19_34 : b3 = (0 : Int32)
        · refine own_ifYes (pc' := 24) X0 hx (hb hby own_d1_19) (teq hc19_34).1 (by decide) (by decide) ?_
          refine own_iinc (pc' := 27) (z := (4 : Int32)) (l' := #[.val (.ref r), .val (.ref r), .val (.int (5 : Int32)), .val (.int (4 : Int32)), .val (.int b3)]) X0 hx (hb hby own_d1_24) rfl rfl (by decide) rfl ?_
          refine own_goto (pc' := 7) X0 hx (hb hby own_d1_27) (by decide) (by decide) ?_
          refine own_iloadN (pc' := 8) X0 hx (hb hby own_d1_7) rfl rfl ?_
          refine own_iloadN (pc' := 9) X0 hx (hb hby own_d1_8) rfl rfl ?_
          refine own_icmpNo (pc' := 12) X0 hx (hb hby own_d1_9) rfl (tlt (by decide)).2.1 ?_
          refine own_aloadN (pc' := 13) X0 hx (hb hby own_d1_12) rfl rfl rfl ?_
          refine own_iloadN (pc' := 14) X0 hx (hb hby own_d1_13) rfl rfl ?_
          refine own_zaload (pc' := 15) X0 hx hZ e0 V0 (hb hby own_d1_14) rfl (by decide) rfl ?_
          refine own_istore (pc' := 17) (l' := #[.val (.ref r), .val (.ref r), .val (.int (5 : Int32)), .val (.int (4 : Int32)), .val (.int b4)]) X0 hx (hb hby own_d1_15) rfl rfl ?_
          refine own_iload (pc' := 19) X0 hx (hb hby own_d1_17) rfl rfl ?_
          by_cases hc19_35 : b4 = (0 : Int32)
          · refine own_ifYes (pc' := 24) X0 hx (hb hby own_d1_19) (teq hc19_35).1 (by decide) (by decide) ?_
            refine own_iinc (pc' := 27) (z := (5 : Int32)) (l' := #[.val (.ref r), .val (.ref r), .val (.int (5 : Int32)), .val (.int (5 : Int32)), .val (.int b4)]) X0 hx (hb hby own_d1_24) rfl rfl (by decide) rfl ?_
            refine own_goto (pc' := 7) X0 hx (hb hby own_d1_27) (by decide) (by decide) ?_
            refine own_iloadN (pc' := 8) X0 hx (hb hby own_d1_7) rfl rfl ?_
            refine own_iloadN (pc' := 9) X0 hx (hb hby own_d1_8) rfl rfl ?_
            refine own_icmpYes (pc' := 30) X0 hx (hb hby own_d1_9) (flt (by decide)).2.1 (by decide) (by decide) ?_
            refine own_iconst (pc' := 31) (z := (0 : Int32)) X0 hx (hb hby own_d1_30) rfl rfl ?_
            refine own_retN X0 hx hlk hret (by simp) (hb hby own_d1_31) (by decide) (by decide) ?_
            exact ⟨own_some (by rw [own_nb0]; simp [own_anyL, hc19_31, hc19_32, hc19_33, hc19_34, hc19_35]), N0, e0⟩
          · refine own_ifNo (pc' := 22) X0 hx (hb hby own_d1_19) rfl (feq hc19_35).1 ?_
            refine own_iconst (pc' := 23) (z := (1 : Int32)) X0 hx (hb hby own_d1_22) rfl rfl ?_
            refine own_retN X0 hx hlk hret (by simp) (hb hby own_d1_23) (by decide) (by decide) ?_
            exact ⟨own_some (by rw [own_nb1]; simp [own_anyL, hc19_31, hc19_32, hc19_33, hc19_34, hc19_35]), N0, e0⟩
        · refine own_ifNo (pc' := 22) X0 hx (hb hby own_d1_19) rfl (feq hc19_34).1 ?_
          refine own_iconst (pc' := 23) (z := (1 : Int32)) X0 hx (hb hby own_d1_22) rfl rfl ?_
          refine own_retN X0 hx hlk hret (by simp) (hb hby own_d1_23) (by decide) (by decide) ?_
          exact ⟨own_some (by rw [own_nb1]; simp [own_anyL, hc19_31, hc19_32, hc19_33, hc19_34]), N0, e0⟩
      · refine own_ifNo (pc' := 22) X0 hx (hb hby own_d1_19) rfl (feq hc19_33).1 ?_
        refine own_iconst (pc' := 23) (z := (1 : Int32)) X0 hx (hb hby own_d1_22) rfl rfl ?_
        refine own_retN X0 hx hlk hret (by simp) (hb hby own_d1_23) (by decide) (by decide) ?_
        exact ⟨own_some (by rw [own_nb1]; simp [own_anyL, hc19_31, hc19_32, hc19_33]), N0, e0⟩
    · refine own_ifNo (pc' := 22) X0 hx (hb hby own_d1_19) rfl (feq hc19_32).1 ?_
      refine own_iconst (pc' := 23) (z := (1 : Int32)) X0 hx (hb hby own_d1_22) rfl rfl ?_
      refine own_retN X0 hx hlk hret (by simp) (hb hby own_d1_23) (by decide) (by decide) ?_
      exact ⟨own_some (by rw [own_nb1]; simp [own_anyL, hc19_31, hc19_32]), N0, e0⟩
  · refine own_ifNo (pc' := 22) X0 hx (hb hby own_d1_19) rfl (feq hc19_31).1 ?_
    refine own_iconst (pc' := 23) (z := (1 : Int32)) X0 hx (hb hby own_d1_22) rfl rfl ?_
    refine own_retN X0 hx hlk hret (by simp) (hb hby own_d1_23) (by decide) (by decide) ?_
    exact ⟨own_some (by rw [own_nb1]; simp [own_anyL, hc19_31]), N0, e0⟩
def own_room1_6 : Room := { frames := 0, cells := 0, slots := 0, locals := 0 }
def own_Q1_6 (Z : State) (r : Addr) (k : ClassId) (b0 : Int32) (b1 : Int32) (b2 : Int32) (b3 : Int32) (b4 : Int32) (b5 : Int32) (h0 : Heap) (n0 : Nat) (v : Option Value) (h : Heap) (L : List Loc) : Prop := v = some (.int (own_anyL [b0, b1, b2, b3, b4, b5])) ∧ Fr n0 L ∧ h = h0
theorem own_ef_rm1_6 (m : MethodId) (x0 : Addr) : entryFrame m #[(.ref x0)] 5 = mkF m 0 #[.val (.ref x0), .unset, .unset, .unset, .unset] [] := by first | (simp [entryFrame, mkF, argsToLocals, Value.category]; done) | rfl
set_option maxRecDepth 65536 in
set_option maxHeartbeats 40000000 in
theorem own_rm1_6 (l : Launch) (Z : State) (a0 : Array Value) (hw : ∀ d ∈ tables_1, d.before a0 Z = true) (ws : List Jvm.Cond) (r : Addr) (k : ClassId) (b0 : Int32) (b1 : Int32) (b2 : Int32) (b3 : Int32) (b4 : Int32) (b5 : Int32) (h0 : Heap) (n0 : Nat) (V0 : Arv Z h0 r k .boolean (6 : Int32) [(.int b0), (.int b1), (.int b2), (.int b3), (.int b4), (.int b5)] (.int (0 : Int32))) :
    MetFree l (⟨"com/example/closure_crew/closurecrew/engine/Crew", "anyOf", "([Z)Z"⟩ : MethodName) (head1 (Jvm.Cond.code (⟨"com/example/closure_crew/closurecrew/engine/Crew", "anyOf", "([Z)Z"⟩ : MethodName) prog_17_method_7_code 5 (some .boolean) :: ws) own_room1_6) (fun zz U => zz = #[(.ref r)] ∧ Z.Warmed39 U.vm ∧ U.heap = h0) (fun _ _ _ _ _ => True) (fun _ U o U' => ∃ v L, o = .returned v ∧ own_Q1_6 Z r k b0 b1 b2 b3 b4 b5 h0 n0 v U'.heap L ∧ FrameEnd U o U' L own_room1_6.cells own_room1_6.slots) := by
  refine MetFree.of_bodySF (plainFor_of_name own_pn0) hisR ?_
  intro p e s m args below meth c s₁ Bd hml0 hP hK
  obtain ⟨rfl, hZ, hh⟩ := hP
  have hx := Bd.exec
  have hby := Bd.bytes
  have hml : c.maxLocals = 5 := hml0
  have hown : s.vm.findClass "com/example/closure_crew/closurecrew/engine/Crew" = some m.cls := findClass_of_methodNamed Bd.named
  have hnm := (name_of_methodNamed Bd.named Bd.method).1
  have hlk : meth.locks = false := BodyLoose.notSynchronized Bd
  have hret := Bd.returns
  have X0 : Stand p l e own_room1_6 s m #[(.ref r)] below meth c s₁ [] 0 0 := Stand.of_body Bd
  have e0 : s₁.heap = h0 := by rw [← hh, Bd.state]; rfl
  have N0 := Fr.nil n0
  show own_Ends p e below s (own_Q1_6 Z r k b0 b1 b2 b3 b4 b5 h0 n0) own_room1_6.cells own_room1_6.slots s₁ (entryFrame m #[(.ref r)] 5)
  refine own_cast (own_ef_rm1_6 m r) ?_
  refine own_aloadN (pc' := 1) X0 hx (hb hby own_d1_0) rfl rfl rfl ?_
  refine own_astoreN (pc' := 2) (l' := #[.val (.ref r), .val (.ref r), .unset, .unset, .unset]) X0 hx (hb hby own_d1_1) rfl rfl rfl ?_
  refine own_aloadN (pc' := 3) X0 hx (hb hby own_d1_2) rfl rfl rfl ?_
  refine own_alen (pc' := 4) X0 hx hZ e0 V0 (hb hby own_d1_3) rfl ?_
  refine own_istoreN (pc' := 5) (l' := #[.val (.ref r), .val (.ref r), .val (.int (6 : Int32)), .unset, .unset]) X0 hx (hb hby own_d1_4) rfl rfl ?_
  refine own_iconst (pc' := 6) (z := (0 : Int32)) X0 hx (hb hby own_d1_5) rfl rfl ?_
  refine own_istoreN (pc' := 7) (l' := #[.val (.ref r), .val (.ref r), .val (.int (6 : Int32)), .val (.int (0 : Int32)), .unset]) X0 hx (hb hby own_d1_6) rfl rfl ?_
  refine own_iloadN (pc' := 8) X0 hx (hb hby own_d1_7) rfl rfl ?_
  refine own_iloadN (pc' := 9) X0 hx (hb hby own_d1_8) rfl rfl ?_
  refine own_icmpNo (pc' := 12) X0 hx (hb hby own_d1_9) rfl (tlt (by decide)).2.1 ?_
  refine own_aloadN (pc' := 13) X0 hx (hb hby own_d1_12) rfl rfl rfl ?_
  refine own_iloadN (pc' := 14) X0 hx (hb hby own_d1_13) rfl rfl ?_
  refine own_zaload (pc' := 15) X0 hx hZ e0 V0 (hb hby own_d1_14) rfl (by decide) rfl ?_
  refine own_istore (pc' := 17) (l' := #[.val (.ref r), .val (.ref r), .val (.int (6 : Int32)), .val (.int (0 : Int32)), .val (.int b0)]) X0 hx (hb hby own_d1_15) rfl rfl ?_
  refine own_iload (pc' := 19) X0 hx (hb hby own_d1_17) rfl rfl ?_
  by_cases hc19_31 : b0 = (0 : Int32)
  · refine own_ifYes (pc' := 24) X0 hx (hb hby own_d1_19) (teq hc19_31).1 (by decide) (by decide) ?_
    refine own_iinc (pc' := 27) (z := (1 : Int32)) (l' := #[.val (.ref r), .val (.ref r), .val (.int (6 : Int32)), .val (.int (1 : Int32)), .val (.int b0)]) X0 hx (hb hby own_d1_24) rfl rfl (by decide) rfl ?_
    refine own_goto (pc' := 7) X0 hx (hb hby own_d1_27) (by decide) (by decide) ?_
    refine own_iloadN (pc' := 8) X0 hx (hb hby own_d1_7) rfl rfl ?_
    refine own_iloadN (pc' := 9) X0 hx (hb hby own_d1_8) rfl rfl ?_
    refine own_icmpNo (pc' := 12) X0 hx (hb hby own_d1_9) rfl (tlt (by decide)).2.1 ?_
    refine own_aloadN (pc' := 13) X0 hx (hb hby own_d1_12) rfl rfl rfl ?_
    refine own_iloadN (pc' := 14) X0 hx (hb hby own_d1_13) rfl rfl ?_
    refine own_zaload (pc' := 15) X0 hx hZ e0 V0 (hb hby own_d1_14) rfl (by decide) rfl ?_
    refine own_istore (pc' := 17) (l' := #[.val (.ref r), .val (.ref r), .val (.int (6 : Int32)), .val (.int (1 : Int32)), .val (.int b1)]) X0 hx (hb hby own_d1_15) rfl rfl ?_
    refine own_iload (pc' := 19) X0 hx (hb hby own_d1_17) rfl rfl ?_
    by_cases hc19_32 : b1 = (0 : Int32)
    · refine own_ifYes (pc' := 24) X0 hx (hb hby own_d1_19) (teq hc19_32).1 (by decide) (by decide) ?_
      refine own_iinc (pc' := 27) (z := (2 : Int32)) (l' := #[.val (.ref r), .val (.ref r), .val (.int (6 : Int32)), .val (.int (2 : Int32)), .val (.int b1)]) X0 hx (hb hby own_d1_24) rfl rfl (by decide) rfl ?_
      refine own_goto (pc' := 7) X0 hx (hb hby own_d1_27) (by decide) (by decide) ?_
      refine own_iloadN (pc' := 8) X0 hx (hb hby own_d1_7) rfl rfl ?_
      refine own_iloadN (pc' := 9) X0 hx (hb hby own_d1_8) rfl rfl ?_
      refine own_icmpNo (pc' := 12) X0 hx (hb hby own_d1_9) rfl (tlt (by decide)).2.1 ?_
      refine own_aloadN (pc' := 13) X0 hx (hb hby own_d1_12) rfl rfl rfl ?_
      refine own_iloadN (pc' := 14) X0 hx (hb hby own_d1_13) rfl rfl ?_
      refine own_zaload (pc' := 15) X0 hx hZ e0 V0 (hb hby own_d1_14) rfl (by decide) rfl ?_
      refine own_istore (pc' := 17) (l' := #[.val (.ref r), .val (.ref r), .val (.int (6 : Int32)), .val (.int (2 : Int32)), .val (.int b2)]) X0 hx (hb hby own_d1_15) rfl rfl ?_
      refine own_iload (pc' := 19) X0 hx (hb hby own_d1_17) rfl rfl ?_
      by_cases hc19_33 : b2 = (0 : Int32)
      · refine own_ifYes (pc' := 24) X0 hx (hb hby own_d1_19) (teq hc19_33).1 (by decide) (by decide) ?_
        refine own_iinc (pc' := 27) (z := (3 : Int32)) (l' := #[.val (.ref r), .val (.ref r), .val (.int (6 : Int32)), .val (.int (3 : Int32)), .val (.int b2)]) X0 hx (hb hby own_d1_24) rfl rfl (by decide) rfl ?_
        refine own_goto (pc' := 7) X0 hx (hb hby own_d1_27) (by decide) (by decide) ?_
        refine own_iloadN (pc' := 8) X0 hx (hb hby own_d1_7) rfl rfl ?_
        refine own_iloadN (pc' := 9) X0 hx (hb hby own_d1_8) rfl rfl ?_
        refine own_icmpNo (pc' := 12) X0 hx (hb hby own_d1_9) rfl (tlt (by decide)).2.1 ?_
        refine own_aloadN (pc' := 13) X0 hx (hb hby own_d1_12) rfl rfl rfl ?_
        refine own_iloadN (pc' := 14) X0 hx (hb hby own_d1_13) rfl rfl ?_
        refine own_zaload (pc' := 15) X0 hx hZ e0 V0 (hb hby own_d1_14) rfl (by decide) rfl ?_
        refine own_istore (pc' := 17) (l' := #[.val (.ref r), .val (.ref r), .val (.int (6 : Int32)), .val (.int (3 : Int32)), .val (.int b3)]) X0 hx (hb hby own_d1_15) rfl rfl ?_
        refine own_iload (pc' := 19) X0 hx (hb hby own_d1_17) rfl rfl ?_
        by_cases hc19_34 : b3 = (0 : Int32)
        · refine own_ifYes (pc' := 24) X0 hx (hb hby own_d1_19) (teq hc19_34).1 (by decide) (by decide) ?_
          refine own_iinc (pc' := 27) (z := (4 : Int32)) (l' := #[.val (.ref r), .val (.ref r), .val (.int (6 : Int32)), .val (.int (4 : Int32)), .val (.int b3)]) X0 hx (hb hby own_d1_24) rfl rfl (by decide) rfl ?_
          refine own_goto (pc' := 7) X0 hx (hb hby own_d1_27) (by decide) (by decide) ?_
          refine own_iloadN (pc' := 8) X0 hx (hb hby own_d1_7) rfl rfl ?_
          refine own_iloadN (pc' := 9) X0 hx (hb hby own_d1_8) rfl rfl ?_
          refine own_icmpNo (pc' := 12) X0 hx (hb hby own_d1_9) rfl (tlt (by decide)).2.1 ?_
          refine own_aloadN (pc' := 13) X0 hx (hb hby own_d1_12) rfl rfl rfl ?_
          refine own_iloadN (pc' := 14) X0 hx (hb hby own_d1_13) rfl rfl ?_
          refine own_zaload (pc' := 15) X0 hx hZ e0 V0 (hb hby own_d1_14) rfl (by decide) rfl ?_
          refine own_istore (pc' := 17) (l' := #[.val (.ref r), .val (.ref r), .val (.int (6 : Int32)), .val (.int (4 : Int32)), .val (.int b4)]) X0 hx (hb hby own_d1_15) rfl rfl ?_
          refine own_iload (pc' := 19) X0 hx (hb hby own_d1_17) rfl rfl ?_
          by_cases hc19_35 : b4 = (0 : Int32)
          · refine own_ifYes (pc' := 24) X0 hx (hb hby own_d1_19) (teq hc19_35).1 (by decide) (by decide) ?_
            refine own_iinc (pc' := 27) (z := (5 : Int32)) (l' := #[.val (.ref r), .val (.ref r), .val (.int (6 : Int32)), .val (.int (5 : Int32)), .val (.int b4)]) X0 hx (hb hby own_d1_24) rfl rfl (by decide) rfl ?_
            refine own_goto (pc' := 7) X0 hx (hb hby own_d1_27) (by decide) (by decide) ?_
            refine own_iloadN (pc' := 8) X0 hx (hb hby own_d1_7) rfl rfl ?_
            refine own_iloadN (pc' := 9) X0 hx (hb hby own_d1_8) rfl rfl ?_
            refine own_icmpNo (pc' := 12) X0 hx (hb hby own_d1_9) rfl (tlt (by decide)).2.1 ?_
            refine own_aloadN (pc' := 13) X0 hx (hb hby own_d1_12) rfl rfl rfl ?_
            refine own_iloadN (pc' := 14) X0 hx (hb hby own_d1_13) rfl rfl ?_
            refine own_zaload (pc' := 15) X0 hx hZ e0 V0 (hb hby own_d1_14) rfl (by decide) rfl ?_
            refine own_istore (pc' := 17) (l' := #[.val (.ref r), .val (.ref r), .val (.int (6 : Int32)), .val (.int (5 : Int32)), .val (.int b5)]) X0 hx (hb hby own_d1_15) rfl rfl ?_
            refine own_iload (pc' := 19) X0 hx (hb hby own_d1_17) rfl rfl ?_
            by_cases hc19_36 : b5 = (0 : Int32)
            · refine own_ifYes (pc' := 24) X0 hx (hb hby own_d1_19) (teq hc19_36).1 (by decide) (by decide) ?_
              refine own_iinc (pc' := 27) (z := (6 : Int32)) (l' := #[.val (.ref r), .val (.ref r), .val (.int (6 : Int32)), .val (.int (6 : Int32)), .val (.int b5)]) X0 hx (hb hby own_d1_24) rfl rfl (by decide) rfl ?_
              refine own_goto (pc' := 7) X0 hx (hb hby own_d1_27) (by decide) (by decide) ?_
              refine own_iloadN (pc' := 8) X0 hx (hb hby own_d1_7) rfl rfl ?_
              refine own_iloadN (pc' := 9) X0 hx (hb hby own_d1_8) rfl rfl ?_
              refine own_icmpYes (pc' := 30) X0 hx (hb hby own_d1_9) (flt (by decide)).2.1 (by decide) (by decide) ?_
              refine own_iconst (pc' := 31) (z := (0 : Int32)) X0 hx (hb hby own_d1_30) rfl rfl ?_
              refine own_retN X0 hx hlk hret (by simp) (hb hby own_d1_31) (by decide) (by decide) ?_
              exact ⟨own_some (by rw [own_nb0]; simp [own_anyL, hc19_31, hc19_32, hc19_33, hc19_34, hc19_35, hc19_36]), N0, e0⟩
            · refine own_ifNo (pc' := 22) X0 hx (hb hby own_d1_19) rfl (feq hc19_36).1 ?_
              refine own_iconst (pc' := 23) (z := (1 : Int32)) X0 hx (hb hby own_d1_22) rfl rfl ?_
              refine own_retN X0 hx hlk hret (by simp) (hb hby own_d1_23) (by decide) (by decide) ?_
              exact ⟨own_some (by rw [own_nb1]; simp [own_anyL, hc19_31, hc19_32, hc19_33, hc19_34, hc19_35, hc19_36]), N0, e0⟩
          · refine own_ifNo (pc' := 22) X0 hx (hb hby own_d1_19) rfl (feq hc19_35).1 ?_
            refine own_iconst (pc' := 23) (z := (1 : Int32)) X0 hx (hb hby own_d1_22) rfl rfl ?_
            refine own_retN X0 hx hlk hret (by simp) (hb hby own_d1_23) (by decide) (by decide) ?_
            exact ⟨own_some (by rw [own_nb1]; simp [own_anyL, hc19_31, hc19_32, hc19_33, hc19_34, hc19_35]), N0, e0⟩
        · refine own_ifNo (pc' := 22) X0 hx (hb hby own_d1_19) rfl (feq hc19_34).1 ?_
          refine own_iconst (pc' := 23) (z := (1 : Int32)) X0 hx (hb hby own_d1_22) rfl rfl ?_
          refine own_retN X0 hx hlk hret (by simp) (hb hby own_d1_23) (by decide) (by decide) ?_
          exact ⟨own_some (by rw [own_nb1]; simp [own_anyL, hc19_31, hc19_32, hc19_33, hc19_34]), N0, e0⟩
      · refine own_ifNo (pc' := 22) X0 hx (hb hby own_d1_19) rfl (feq hc19_33).1 ?_
        refine own_iconst (pc' := 23) (z := (1 : Int32)) X0 hx (hb hby own_d1_22) rfl rfl ?_
        refine own_retN X0 hx hlk hret (by simp) (hb hby own_d1_23) (by decide) (by decide) ?_
        exact ⟨own_some (by rw [own_nb1]; simp [own_anyL, hc19_31, hc19_32, hc19_33]), N0, e0⟩
    · refine own_ifNo (pc' := 22) X0 hx (hb hby own_d1_19) rfl (feq hc19_32).1 ?_
      refine own_iconst (pc' := 23) (z := (1 : Int32)) X0 hx (hb hby own_d1_22) rfl rfl ?_
      refine own_retN X0 hx hlk hret (by simp) (hb hby own_d1_23) (by decide) (by decide) ?_
      exact ⟨own_some (by rw [own_nb1]; simp [own_anyL, hc19_31, hc19_32]), N0, e0⟩
  · refine own_ifNo (pc' := 22) X0 hx (hb hby own_d1_19) rfl (feq hc19_31).1 ?_
    refine own_iconst (pc' := 23) (z := (1 : Int32)) X0 hx (hb hby own_d1_22) rfl rfl ?_
    refine own_retN X0 hx hlk hret (by simp) (hb hby own_d1_23) (by decide) (by decide) ?_
    exact ⟨own_some (by rw [own_nb1]; simp [own_anyL, hc19_31]), N0, e0⟩
def own_Q0 (Z : State) (p0 : Int32) (p1 : Int32) (h0 : Heap) (n0 : Nat) (v : Option Value) (h : Heap) (L : List Loc) : Prop := v = some (.int 1) ∧ Fr n0 L
theorem own_ef_rm0 (m : MethodId) (x0 : Int32) (x1 : Int32) : entryFrame m #[(.int x0), (.int x1)] maxLocals = mkF m 0 #[.val (.int x0), .val (.int x1), .unset, .unset, .unset] [] := by first | (simp [entryFrame, mkF, argsToLocals, Value.category, maxLocals]; done) | rfl
set_option maxRecDepth 65536 in
set_option maxHeartbeats 40000000 in
theorem own_rm0 (l : Launch) (Z : State) (a0 : Array Value) (hw : ∀ d ∈ tables_1, d.before a0 Z = true) (ws : List Jvm.Cond) (p0 : Int32) (p1 : Int32) (h0 : Heap) (n0 : Nat) (Z0 : n0 ≤ h0.size) :
    MetFree l x (head1 (Jvm.Cond.code x code maxLocals ret :: ws) room_1) (fun zz U => zz = #[(.int p0), (.int p1)] ∧ Z.Warmed39 U.vm ∧ U.heap = h0) (fun _ _ _ _ _ => True) (fun _ U o U' => ∃ v L, o = .returned v ∧ own_Q0 Z p0 p1 h0 n0 v U'.heap L ∧ FrameEnd U o U' L 16 128) := by
  refine MetFree.of_bodySF (plainFor_of_name own_pn1) hisR ?_
  intro p e s m args below meth c s₁ Bd hml0 hP hK
  obtain ⟨rfl, hZ, hh⟩ := hP
  have hx := Bd.exec
  have hby := Bd.bytes
  have hml : c.maxLocals = 5 := hml0
  have hown : s.vm.findClass "com/example/closure_crew/closurecrew/engine/CrewAnyOfPinLaw" = some m.cls := findClass_of_methodNamed Bd.named
  have hnm := (name_of_methodNamed Bd.named Bd.method).1
  have hlk : meth.locks = false := BodyLoose.notSynchronized Bd
  have hret := Bd.returns
  have X0 : Stand p l e room_1 s m #[(.int p0), (.int p1)] below meth c s₁ [] 0 0 := Stand.of_body Bd
  have e0 : s₁.heap = h0 := by rw [← hh, Bd.state]; rfl
  have N0 := Fr.nil n0
  show own_Ends p e below s (own_Q0 Z p0 p1 h0 n0) 16 128 s₁ (entryFrame m #[(.int p0), (.int p1)] maxLocals)
  refine own_cast (own_ef_rm0 m p0 p1) ?_
  refine own_iloadN (pc' := 1) X0 hx (hb hby at_0) rfl rfl ?_
  refine own_ldcI (pc' := 3) X0 hx hZ hown (own_w0 hw) (hb hby at_1) rfl ?_
  refine own_iand (pc' := 4) (z := (p0 &&& (2147483647 : Int32))) X0 hx (hb hby at_3) rfl rfl ?_
  refine own_bipush (pc' := 6) (z := (7 : Int32)) X0 hx (hb hby at_4) rfl rfl ?_
  obtain ⟨n31, hn31⟩ : ∃ z, ((p0 &&& (2147483647 : Int32)) % (7 : Int32)) = z := ⟨_, rfl⟩
  refine own_irem (pc' := 7) (z := n31) X0 hx (hb hby at_6) rfl (by decide) hn31 ?_
  rcases own_r7 hn31 with rfl | rfl | rfl | rfl | rfl | rfl | rfl
  · refine own_istoreN (pc' := 8) (l' := #[.val (.int p0), .val (.int p1), .val (.int (0 : Int32)), .unset, .unset]) X0 hx (hb hby at_7) rfl rfl ?_
    refine own_iloadN (pc' := 9) X0 hx (hb hby at_8) rfl rfl ?_
    refine own_newarr (pc' := 11) (aty := .boolean) X0 hx hZ (own_w1 hw) e0 (hb hby at_9) rfl (by decide) 0 0 (by decide) (by decide) (by decide) (by decide) ?_
    intro T32 h32 a32 k32 X32 e32 E32 g32 V32
    replace V32 : Arv Z h32 a32 k32 .boolean (0 : Int32) [] (.int (0 : Int32)) := V32
    have ge33 : n0 ≤ a32 := by rw [g32]; exact Z0
    show own_Ends p e below s _ _ _ T32 (mkF m 11 #[.val (.int p0), .val (.int p1), .val (.int (0 : Int32)), .unset, .unset] [(.ref a32)])
    refine own_astoreN (pc' := 12) (l' := #[.val (.int p0), .val (.int p1), .val (.int (0 : Int32)), .val (.ref a32), .unset]) X32 hx (hb hby at_11) rfl rfl rfl ?_
    refine own_iloadN (pc' := 13) X32 hx (hb hby at_12) rfl rfl ?_
    refine own_ifYes (pc' := 30) X32 hx (hb hby at_13) (flt (by decide)).2.2.2 (by decide) (by decide) ?_
    refine own_iloadN (pc' := 31) X32 hx (hb hby at_30) rfl rfl ?_
    refine own_iconst (pc' := 32) (z := (1 : Int32)) X32 hx (hb hby at_31) rfl rfl ?_
    refine own_icmpYes (pc' := 49) X32 hx (hb hby at_32) (flt (by decide)).2.2.2 (by decide) (by decide) ?_
    refine own_iloadN (pc' := 50) X32 hx (hb hby at_49) rfl rfl ?_
    refine own_iconst (pc' := 51) (z := (2 : Int32)) X32 hx (hb hby at_50) rfl rfl ?_
    refine own_icmpYes (pc' := 68) X32 hx (hb hby at_51) (flt (by decide)).2.2.2 (by decide) (by decide) ?_
    refine own_iloadN (pc' := 69) X32 hx (hb hby at_68) rfl rfl ?_
    refine own_iconst (pc' := 70) (z := (3 : Int32)) X32 hx (hb hby at_69) rfl rfl ?_
    refine own_icmpYes (pc' := 88) X32 hx (hb hby at_70) (flt (by decide)).2.2.2 (by decide) (by decide) ?_
    refine own_iloadN (pc' := 89) X32 hx (hb hby at_88) rfl rfl ?_
    refine own_iconst (pc' := 90) (z := (4 : Int32)) X32 hx (hb hby at_89) rfl rfl ?_
    refine own_icmpYes (pc' := 108) X32 hx (hb hby at_90) (flt (by decide)).2.2.2 (by decide) (by decide) ?_
    refine own_iloadN (pc' := 109) X32 hx (hb hby at_108) rfl rfl ?_
    refine own_iconst (pc' := 110) (z := (5 : Int32)) X32 hx (hb hby at_109) rfl rfl ?_
    refine own_icmpYes (pc' := 128) X32 hx (hb hby at_110) (flt (by decide)).2.2.2 (by decide) (by decide) ?_
    refine own_iloadN (pc' := 129) X32 hx (hb hby at_128) rfl rfl ?_
    refine own_iconst (pc' := 130) (z := (1 : Int32)) X32 hx (hb hby at_129) rfl rfl ?_
    refine own_iloadN (pc' := 131) X32 hx (hb hby at_130) rfl rfl ?_
    refine own_ishl (pc' := 132) (z := (1 : Int32)) X32 hx (hb hby at_131) rfl (by decide) ?_
    refine own_iconst (pc' := 133) (z := (1 : Int32)) X32 hx (hb hby at_132) rfl rfl ?_
    refine own_isub (pc' := 134) (z := (0 : Int32)) X32 hx (hb hby at_133) rfl (by decide) ?_
    refine own_iand (pc' := 135) (z := (p1 &&& (0 : Int32))) X32 hx (hb hby at_134) rfl rfl ?_
    have K35 : ∀ (b34 : Int32) (hb34 : b34 = own_bit p1 0), own_Ends p e below s (own_Q0 Z p0 p1 h0 n0) 16 128 T32 (mkF m 143 #[.val (.int p0), .val (.int p1), .val (.int (0 : Int32)), .val (.ref a32), .unset] [(.int b34)]) := by
      intro b34 hb34
      refine own_istore (pc' := 145) (l' := #[.val (.int p0), .val (.int p1), .val (.int (0 : Int32)), .val (.ref a32), .val (.int b34)]) X32 hx (hb hby at_143) rfl rfl ?_
      refine own_aloadN (pc' := 146) X32 hx (hb hby at_145) rfl rfl rfl ?_
      refine own_callS (pc' := 149) (y := (⟨"com/example/closure_crew/closurecrew/engine/Crew", "anyOf", "([Z)Z"⟩ : MethodName)) (W := 0) (rm := own_room1_0) (argsL := [(.ref a32)]) (rest := []) X32 hx hZ e32 hown (by rw [hml]; rfl) (own_w2 hw) (own_w3 hw) (own_w4 hw) (own_w5 hw) (by decide) (own_rm1_0 l Z a0 hw [] a32 k32  h32 n0 V32) (by decide) (by decide) (by decide) (by decide) (lenOf own_pd0 rfl) rfl (by exact Nat.le_of_eq rfl) (hb hby at_146) rfl ?_
      intro T36 Lc36 v36 X36 hQ36
      obtain ⟨rfl, Nq37, eq38⟩ := hQ36
      have N39 := Fr.app N0 Nq37
      show own_Ends p e below s _ _ _ T36 (mkF m 149 #[.val (.int p0), .val (.int p1), .val (.int (0 : Int32)), .val (.ref a32), .val (.int b34)] [(.int (own_anyL []))])
      refine own_iload (pc' := 151) X36 hx (hb hby at_149) rfl rfl ?_
      refine own_icmpNo (pc' := 154) X36 hx (hb hby at_151) rfl (teq (by rw [hb34]; exact own_any0 p1)).2 ?_
      refine own_iconst (pc' := 155) (z := (1 : Int32)) X36 hx (hb hby at_154) rfl rfl ?_
      refine own_goto (pc' := 159) X36 hx (hb hby at_155) (by decide) (by decide) ?_
      refine own_retN X36 hx hlk hret (by simp) (hb hby at_159) (by decide) (by decide) ?_
      exact ⟨rfl, N39⟩
    by_cases hc135_40 : (p1 &&& (0 : Int32)) = (0 : Int32)
    · refine own_ifYes (pc' := 142) X32 hx (hb hby at_135) (teq hc135_40).1 (by decide) (by decide) ?_
      refine own_iconst (pc' := 143) (z := (0 : Int32)) X32 hx (hb hby at_142) rfl rfl ?_
      exact K35 _ (by first | (simp [own_bit, hc135_40]; done) | (exact absurd (by simp) hc135_40))
    · refine own_ifNo (pc' := 138) X32 hx (hb hby at_135) rfl (feq hc135_40).1 ?_
      refine own_iconst (pc' := 139) (z := (1 : Int32)) X32 hx (hb hby at_138) rfl rfl ?_
      refine own_goto (pc' := 143) X32 hx (hb hby at_139) (by decide) (by decide) ?_
      exact K35 _ (by first | (simp [own_bit, hc135_40]; done) | (exact absurd (by simp) hc135_40))
  · refine own_istoreN (pc' := 8) (l' := #[.val (.int p0), .val (.int p1), .val (.int (1 : Int32)), .unset, .unset]) X0 hx (hb hby at_7) rfl rfl ?_
    refine own_iloadN (pc' := 9) X0 hx (hb hby at_8) rfl rfl ?_
    refine own_newarr (pc' := 11) (aty := .boolean) X0 hx hZ (own_w1 hw) e0 (hb hby at_9) rfl (by decide) 1 1 (by decide) (by decide) (by decide) (by decide) ?_
    intro T41 h41 a41 k41 X41 e41 E41 g41 V41
    replace V41 : Arv Z h41 a41 k41 .boolean (1 : Int32) [(.int (0 : Int32))] (.int (0 : Int32)) := V41
    have ge42 : n0 ≤ a41 := by rw [g41]; exact Z0
    show own_Ends p e below s _ _ _ T41 (mkF m 11 #[.val (.int p0), .val (.int p1), .val (.int (1 : Int32)), .unset, .unset] [(.ref a41)])
    refine own_astoreN (pc' := 12) (l' := #[.val (.int p0), .val (.int p1), .val (.int (1 : Int32)), .val (.ref a41), .unset]) X41 hx (hb hby at_11) rfl rfl rfl ?_
    refine own_iloadN (pc' := 13) X41 hx (hb hby at_12) rfl rfl ?_
    refine own_ifNo (pc' := 16) X41 hx (hb hby at_13) rfl (tlt (by decide)).2.2.2 ?_
    refine own_aloadN (pc' := 17) X41 hx (hb hby at_16) rfl rfl rfl ?_
    refine own_iconst (pc' := 18) (z := (0 : Int32)) X41 hx (hb hby at_17) rfl rfl ?_
    refine own_iloadN (pc' := 19) X41 hx (hb hby at_18) rfl rfl ?_
    refine own_iconst (pc' := 20) (z := (1 : Int32)) X41 hx (hb hby at_19) rfl rfl ?_
    refine own_iand (pc' := 21) (z := (p1 &&& (1 : Int32))) X41 hx (hb hby at_20) rfl rfl ?_
    have K44 : ∀ (b43 : Int32) (hb43 : b43 = own_bit p1 1), own_Ends p e below s (own_Q0 Z p0 p1 h0 n0) 16 128 T41 (mkF m 29 #[.val (.int p0), .val (.int p1), .val (.int (1 : Int32)), .val (.ref a41), .unset] [(.int b43), (.int (0 : Int32)), (.ref a41)]) := by
      intro b43 hb43
      refine own_zastore (pc' := 30) X41 hx hZ e41 V41 (hb hby at_29) rfl (by decide) 0 rfl (by simp) N0 ge42 ?_
      intro T45 h45 L45 X45 e45 N45 W45 V45
      rw [show nar .boolean b43 = b43 from own_nbit hb43] at V45
      replace V45 : Arv Z h45 a41 k41 .boolean (1 : Int32) [(.int b43)] (.int (0 : Int32)) := V45
      show own_Ends p e below s _ _ _ T45 (mkF m 30 #[.val (.int p0), .val (.int p1), .val (.int (1 : Int32)), .val (.ref a41), .unset] [])
      refine own_iloadN (pc' := 31) X45 hx (hb hby at_30) rfl rfl ?_
      refine own_iconst (pc' := 32) (z := (1 : Int32)) X45 hx (hb hby at_31) rfl rfl ?_
      refine own_icmpYes (pc' := 49) X45 hx (hb hby at_32) (flt (by decide)).2.2.2 (by decide) (by decide) ?_
      refine own_iloadN (pc' := 50) X45 hx (hb hby at_49) rfl rfl ?_
      refine own_iconst (pc' := 51) (z := (2 : Int32)) X45 hx (hb hby at_50) rfl rfl ?_
      refine own_icmpYes (pc' := 68) X45 hx (hb hby at_51) (flt (by decide)).2.2.2 (by decide) (by decide) ?_
      refine own_iloadN (pc' := 69) X45 hx (hb hby at_68) rfl rfl ?_
      refine own_iconst (pc' := 70) (z := (3 : Int32)) X45 hx (hb hby at_69) rfl rfl ?_
      refine own_icmpYes (pc' := 88) X45 hx (hb hby at_70) (flt (by decide)).2.2.2 (by decide) (by decide) ?_
      refine own_iloadN (pc' := 89) X45 hx (hb hby at_88) rfl rfl ?_
      refine own_iconst (pc' := 90) (z := (4 : Int32)) X45 hx (hb hby at_89) rfl rfl ?_
      refine own_icmpYes (pc' := 108) X45 hx (hb hby at_90) (flt (by decide)).2.2.2 (by decide) (by decide) ?_
      refine own_iloadN (pc' := 109) X45 hx (hb hby at_108) rfl rfl ?_
      refine own_iconst (pc' := 110) (z := (5 : Int32)) X45 hx (hb hby at_109) rfl rfl ?_
      refine own_icmpYes (pc' := 128) X45 hx (hb hby at_110) (flt (by decide)).2.2.2 (by decide) (by decide) ?_
      refine own_iloadN (pc' := 129) X45 hx (hb hby at_128) rfl rfl ?_
      refine own_iconst (pc' := 130) (z := (1 : Int32)) X45 hx (hb hby at_129) rfl rfl ?_
      refine own_iloadN (pc' := 131) X45 hx (hb hby at_130) rfl rfl ?_
      refine own_ishl (pc' := 132) (z := (2 : Int32)) X45 hx (hb hby at_131) rfl (by decide) ?_
      refine own_iconst (pc' := 133) (z := (1 : Int32)) X45 hx (hb hby at_132) rfl rfl ?_
      refine own_isub (pc' := 134) (z := (1 : Int32)) X45 hx (hb hby at_133) rfl (by decide) ?_
      refine own_iand (pc' := 135) (z := (p1 &&& (1 : Int32))) X45 hx (hb hby at_134) rfl rfl ?_
      have K47 : ∀ (b46 : Int32) (hb46 : b46 = own_bit p1 1), own_Ends p e below s (own_Q0 Z p0 p1 h0 n0) 16 128 T45 (mkF m 143 #[.val (.int p0), .val (.int p1), .val (.int (1 : Int32)), .val (.ref a41), .unset] [(.int b46)]) := by
        intro b46 hb46
        refine own_istore (pc' := 145) (l' := #[.val (.int p0), .val (.int p1), .val (.int (1 : Int32)), .val (.ref a41), .val (.int b46)]) X45 hx (hb hby at_143) rfl rfl ?_
        refine own_aloadN (pc' := 146) X45 hx (hb hby at_145) rfl rfl rfl ?_
        refine own_callS (pc' := 149) (y := (⟨"com/example/closure_crew/closurecrew/engine/Crew", "anyOf", "([Z)Z"⟩ : MethodName)) (W := 0) (rm := own_room1_1) (argsL := [(.ref a41)]) (rest := []) X45 hx hZ e45 hown (by rw [hml]; rfl) (own_w2 hw) (own_w3 hw) (own_w4 hw) (own_w5 hw) (by decide) (own_rm1_1 l Z a0 hw [] a41 k41 b43 h45 n0 V45) (by decide) (by decide) (by decide) (by decide) (lenOf own_pd0 rfl) rfl (by exact Nat.le_of_eq rfl) (hb hby at_146) rfl ?_
        intro T48 Lc48 v48 X48 hQ48
        obtain ⟨rfl, Nq49, eq50⟩ := hQ48
        have N51 := Fr.app N45 Nq49
        show own_Ends p e below s _ _ _ T48 (mkF m 149 #[.val (.int p0), .val (.int p1), .val (.int (1 : Int32)), .val (.ref a41), .val (.int b46)] [(.int (own_anyL [b43]))])
        refine own_iload (pc' := 151) X48 hx (hb hby at_149) rfl rfl ?_
        refine own_icmpNo (pc' := 154) X48 hx (hb hby at_151) rfl (teq (by rw [hb43, hb46]; exact own_any1 p1)).2 ?_
        refine own_iconst (pc' := 155) (z := (1 : Int32)) X48 hx (hb hby at_154) rfl rfl ?_
        refine own_goto (pc' := 159) X48 hx (hb hby at_155) (by decide) (by decide) ?_
        refine own_retN X48 hx hlk hret (by simp) (hb hby at_159) (by decide) (by decide) ?_
        exact ⟨rfl, N51⟩
      by_cases hc135_52 : (p1 &&& (1 : Int32)) = (0 : Int32)
      · refine own_ifYes (pc' := 142) X45 hx (hb hby at_135) (teq hc135_52).1 (by decide) (by decide) ?_
        refine own_iconst (pc' := 143) (z := (0 : Int32)) X45 hx (hb hby at_142) rfl rfl ?_
        exact K47 _ (by first | (simp [own_bit, hc135_52]; done) | (exact absurd (by simp) hc135_52))
      · refine own_ifNo (pc' := 138) X45 hx (hb hby at_135) rfl (feq hc135_52).1 ?_
        refine own_iconst (pc' := 139) (z := (1 : Int32)) X45 hx (hb hby at_138) rfl rfl ?_
        refine own_goto (pc' := 143) X45 hx (hb hby at_139) (by decide) (by decide) ?_
        exact K47 _ (by first | (simp [own_bit, hc135_52]; done) | (exact absurd (by simp) hc135_52))
    by_cases hc21_53 : (p1 &&& (1 : Int32)) = (0 : Int32)
    · refine own_ifYes (pc' := 28) X41 hx (hb hby at_21) (teq hc21_53).1 (by decide) (by decide) ?_
      refine own_iconst (pc' := 29) (z := (0 : Int32)) X41 hx (hb hby at_28) rfl rfl ?_
      exact K44 _ (by first | (simp [own_bit, hc21_53]; done) | (exact absurd (by simp) hc21_53))
    · refine own_ifNo (pc' := 24) X41 hx (hb hby at_21) rfl (feq hc21_53).1 ?_
      refine own_iconst (pc' := 25) (z := (1 : Int32)) X41 hx (hb hby at_24) rfl rfl ?_
      refine own_goto (pc' := 29) X41 hx (hb hby at_25) (by decide) (by decide) ?_
      exact K44 _ (by first | (simp [own_bit, hc21_53]; done) | (exact absurd (by simp) hc21_53))
  · refine own_istoreN (pc' := 8) (l' := #[.val (.int p0), .val (.int p1), .val (.int (2 : Int32)), .unset, .unset]) X0 hx (hb hby at_7) rfl rfl ?_
    refine own_iloadN (pc' := 9) X0 hx (hb hby at_8) rfl rfl ?_
    refine own_newarr (pc' := 11) (aty := .boolean) X0 hx hZ (own_w1 hw) e0 (hb hby at_9) rfl (by decide) 2 2 (by decide) (by decide) (by decide) (by decide) ?_
    intro T54 h54 a54 k54 X54 e54 E54 g54 V54
    replace V54 : Arv Z h54 a54 k54 .boolean (2 : Int32) [(.int (0 : Int32)), (.int (0 : Int32))] (.int (0 : Int32)) := V54
    have ge55 : n0 ≤ a54 := by rw [g54]; exact Z0
    show own_Ends p e below s _ _ _ T54 (mkF m 11 #[.val (.int p0), .val (.int p1), .val (.int (2 : Int32)), .unset, .unset] [(.ref a54)])
    refine own_astoreN (pc' := 12) (l' := #[.val (.int p0), .val (.int p1), .val (.int (2 : Int32)), .val (.ref a54), .unset]) X54 hx (hb hby at_11) rfl rfl rfl ?_
    refine own_iloadN (pc' := 13) X54 hx (hb hby at_12) rfl rfl ?_
    refine own_ifNo (pc' := 16) X54 hx (hb hby at_13) rfl (tlt (by decide)).2.2.2 ?_
    refine own_aloadN (pc' := 17) X54 hx (hb hby at_16) rfl rfl rfl ?_
    refine own_iconst (pc' := 18) (z := (0 : Int32)) X54 hx (hb hby at_17) rfl rfl ?_
    refine own_iloadN (pc' := 19) X54 hx (hb hby at_18) rfl rfl ?_
    refine own_iconst (pc' := 20) (z := (1 : Int32)) X54 hx (hb hby at_19) rfl rfl ?_
    refine own_iand (pc' := 21) (z := (p1 &&& (1 : Int32))) X54 hx (hb hby at_20) rfl rfl ?_
    have K57 : ∀ (b56 : Int32) (hb56 : b56 = own_bit p1 1), own_Ends p e below s (own_Q0 Z p0 p1 h0 n0) 16 128 T54 (mkF m 29 #[.val (.int p0), .val (.int p1), .val (.int (2 : Int32)), .val (.ref a54), .unset] [(.int b56), (.int (0 : Int32)), (.ref a54)]) := by
      intro b56 hb56
      refine own_zastore (pc' := 30) X54 hx hZ e54 V54 (hb hby at_29) rfl (by decide) 0 rfl (by simp) N0 ge55 ?_
      intro T58 h58 L58 X58 e58 N58 W58 V58
      rw [show nar .boolean b56 = b56 from own_nbit hb56] at V58
      replace V58 : Arv Z h58 a54 k54 .boolean (2 : Int32) [(.int b56), (.int (0 : Int32))] (.int (0 : Int32)) := V58
      show own_Ends p e below s _ _ _ T58 (mkF m 30 #[.val (.int p0), .val (.int p1), .val (.int (2 : Int32)), .val (.ref a54), .unset] [])
      refine own_iloadN (pc' := 31) X58 hx (hb hby at_30) rfl rfl ?_
      refine own_iconst (pc' := 32) (z := (1 : Int32)) X58 hx (hb hby at_31) rfl rfl ?_
      refine own_icmpNo (pc' := 35) X58 hx (hb hby at_32) rfl (tlt (by decide)).2.2.2 ?_
      refine own_aloadN (pc' := 36) X58 hx (hb hby at_35) rfl rfl rfl ?_
      refine own_iconst (pc' := 37) (z := (1 : Int32)) X58 hx (hb hby at_36) rfl rfl ?_
      refine own_iloadN (pc' := 38) X58 hx (hb hby at_37) rfl rfl ?_
      refine own_iconst (pc' := 39) (z := (2 : Int32)) X58 hx (hb hby at_38) rfl rfl ?_
      refine own_iand (pc' := 40) (z := (p1 &&& (2 : Int32))) X58 hx (hb hby at_39) rfl rfl ?_
      have K60 : ∀ (b59 : Int32) (hb59 : b59 = own_bit p1 2), own_Ends p e below s (own_Q0 Z p0 p1 h0 n0) 16 128 T58 (mkF m 48 #[.val (.int p0), .val (.int p1), .val (.int (2 : Int32)), .val (.ref a54), .unset] [(.int b59), (.int (1 : Int32)), (.ref a54)]) := by
        intro b59 hb59
        refine own_zastore (pc' := 49) X58 hx hZ e58 V58 (hb hby at_48) rfl (by decide) 1 rfl (by simp) N58 ge55 ?_
        intro T61 h61 L61 X61 e61 N61 W61 V61
        rw [show nar .boolean b59 = b59 from own_nbit hb59] at V61
        replace V61 : Arv Z h61 a54 k54 .boolean (2 : Int32) [(.int b56), (.int b59)] (.int (0 : Int32)) := V61
        show own_Ends p e below s _ _ _ T61 (mkF m 49 #[.val (.int p0), .val (.int p1), .val (.int (2 : Int32)), .val (.ref a54), .unset] [])
        refine own_iloadN (pc' := 50) X61 hx (hb hby at_49) rfl rfl ?_
        refine own_iconst (pc' := 51) (z := (2 : Int32)) X61 hx (hb hby at_50) rfl rfl ?_
        refine own_icmpYes (pc' := 68) X61 hx (hb hby at_51) (flt (by decide)).2.2.2 (by decide) (by decide) ?_
        refine own_iloadN (pc' := 69) X61 hx (hb hby at_68) rfl rfl ?_
        refine own_iconst (pc' := 70) (z := (3 : Int32)) X61 hx (hb hby at_69) rfl rfl ?_
        refine own_icmpYes (pc' := 88) X61 hx (hb hby at_70) (flt (by decide)).2.2.2 (by decide) (by decide) ?_
        refine own_iloadN (pc' := 89) X61 hx (hb hby at_88) rfl rfl ?_
        refine own_iconst (pc' := 90) (z := (4 : Int32)) X61 hx (hb hby at_89) rfl rfl ?_
        refine own_icmpYes (pc' := 108) X61 hx (hb hby at_90) (flt (by decide)).2.2.2 (by decide) (by decide) ?_
        refine own_iloadN (pc' := 109) X61 hx (hb hby at_108) rfl rfl ?_
        refine own_iconst (pc' := 110) (z := (5 : Int32)) X61 hx (hb hby at_109) rfl rfl ?_
        refine own_icmpYes (pc' := 128) X61 hx (hb hby at_110) (flt (by decide)).2.2.2 (by decide) (by decide) ?_
        refine own_iloadN (pc' := 129) X61 hx (hb hby at_128) rfl rfl ?_
        refine own_iconst (pc' := 130) (z := (1 : Int32)) X61 hx (hb hby at_129) rfl rfl ?_
        refine own_iloadN (pc' := 131) X61 hx (hb hby at_130) rfl rfl ?_
        refine own_ishl (pc' := 132) (z := (4 : Int32)) X61 hx (hb hby at_131) rfl (by decide) ?_
        refine own_iconst (pc' := 133) (z := (1 : Int32)) X61 hx (hb hby at_132) rfl rfl ?_
        refine own_isub (pc' := 134) (z := (3 : Int32)) X61 hx (hb hby at_133) rfl (by decide) ?_
        refine own_iand (pc' := 135) (z := (p1 &&& (3 : Int32))) X61 hx (hb hby at_134) rfl rfl ?_
        have K63 : ∀ (b62 : Int32) (hb62 : b62 = own_bit p1 3), own_Ends p e below s (own_Q0 Z p0 p1 h0 n0) 16 128 T61 (mkF m 143 #[.val (.int p0), .val (.int p1), .val (.int (2 : Int32)), .val (.ref a54), .unset] [(.int b62)]) := by
          intro b62 hb62
          refine own_istore (pc' := 145) (l' := #[.val (.int p0), .val (.int p1), .val (.int (2 : Int32)), .val (.ref a54), .val (.int b62)]) X61 hx (hb hby at_143) rfl rfl ?_
          refine own_aloadN (pc' := 146) X61 hx (hb hby at_145) rfl rfl rfl ?_
          refine own_callS (pc' := 149) (y := (⟨"com/example/closure_crew/closurecrew/engine/Crew", "anyOf", "([Z)Z"⟩ : MethodName)) (W := 0) (rm := own_room1_2) (argsL := [(.ref a54)]) (rest := []) X61 hx hZ e61 hown (by rw [hml]; rfl) (own_w2 hw) (own_w3 hw) (own_w4 hw) (own_w5 hw) (by decide) (own_rm1_2 l Z a0 hw [] a54 k54 b56 b59 h61 n0 V61) (by decide) (by decide) (by decide) (by decide) (lenOf own_pd0 rfl) rfl (by exact Nat.le_of_eq rfl) (hb hby at_146) rfl ?_
          intro T64 Lc64 v64 X64 hQ64
          obtain ⟨rfl, Nq65, eq66⟩ := hQ64
          have N67 := Fr.app N61 Nq65
          show own_Ends p e below s _ _ _ T64 (mkF m 149 #[.val (.int p0), .val (.int p1), .val (.int (2 : Int32)), .val (.ref a54), .val (.int b62)] [(.int (own_anyL [b56, b59]))])
          refine own_iload (pc' := 151) X64 hx (hb hby at_149) rfl rfl ?_
          refine own_icmpNo (pc' := 154) X64 hx (hb hby at_151) rfl (teq (by rw [hb56, hb59, hb62]; exact own_any2 p1)).2 ?_
          refine own_iconst (pc' := 155) (z := (1 : Int32)) X64 hx (hb hby at_154) rfl rfl ?_
          refine own_goto (pc' := 159) X64 hx (hb hby at_155) (by decide) (by decide) ?_
          refine own_retN X64 hx hlk hret (by simp) (hb hby at_159) (by decide) (by decide) ?_
          exact ⟨rfl, N67⟩
        by_cases hc135_68 : (p1 &&& (3 : Int32)) = (0 : Int32)
        · refine own_ifYes (pc' := 142) X61 hx (hb hby at_135) (teq hc135_68).1 (by decide) (by decide) ?_
          refine own_iconst (pc' := 143) (z := (0 : Int32)) X61 hx (hb hby at_142) rfl rfl ?_
          exact K63 _ (by first | (simp [own_bit, hc135_68]; done) | (exact absurd (by simp) hc135_68))
        · refine own_ifNo (pc' := 138) X61 hx (hb hby at_135) rfl (feq hc135_68).1 ?_
          refine own_iconst (pc' := 139) (z := (1 : Int32)) X61 hx (hb hby at_138) rfl rfl ?_
          refine own_goto (pc' := 143) X61 hx (hb hby at_139) (by decide) (by decide) ?_
          exact K63 _ (by first | (simp [own_bit, hc135_68]; done) | (exact absurd (by simp) hc135_68))
      by_cases hc40_69 : (p1 &&& (2 : Int32)) = (0 : Int32)
      · refine own_ifYes (pc' := 47) X58 hx (hb hby at_40) (teq hc40_69).1 (by decide) (by decide) ?_
        refine own_iconst (pc' := 48) (z := (0 : Int32)) X58 hx (hb hby at_47) rfl rfl ?_
        exact K60 _ (by first | (simp [own_bit, hc40_69]; done) | (exact absurd (by simp) hc40_69))
      · refine own_ifNo (pc' := 43) X58 hx (hb hby at_40) rfl (feq hc40_69).1 ?_
        refine own_iconst (pc' := 44) (z := (1 : Int32)) X58 hx (hb hby at_43) rfl rfl ?_
        refine own_goto (pc' := 48) X58 hx (hb hby at_44) (by decide) (by decide) ?_
        exact K60 _ (by first | (simp [own_bit, hc40_69]; done) | (exact absurd (by simp) hc40_69))
    by_cases hc21_70 : (p1 &&& (1 : Int32)) = (0 : Int32)
    · refine own_ifYes (pc' := 28) X54 hx (hb hby at_21) (teq hc21_70).1 (by decide) (by decide) ?_
      refine own_iconst (pc' := 29) (z := (0 : Int32)) X54 hx (hb hby at_28) rfl rfl ?_
      exact K57 _ (by first | (simp [own_bit, hc21_70]; done) | (exact absurd (by simp) hc21_70))
    · refine own_ifNo (pc' := 24) X54 hx (hb hby at_21) rfl (feq hc21_70).1 ?_
      refine own_iconst (pc' := 25) (z := (1 : Int32)) X54 hx (hb hby at_24) rfl rfl ?_
      refine own_goto (pc' := 29) X54 hx (hb hby at_25) (by decide) (by decide) ?_
      exact K57 _ (by first | (simp [own_bit, hc21_70]; done) | (exact absurd (by simp) hc21_70))
  · refine own_istoreN (pc' := 8) (l' := #[.val (.int p0), .val (.int p1), .val (.int (3 : Int32)), .unset, .unset]) X0 hx (hb hby at_7) rfl rfl ?_
    refine own_iloadN (pc' := 9) X0 hx (hb hby at_8) rfl rfl ?_
    refine own_newarr (pc' := 11) (aty := .boolean) X0 hx hZ (own_w1 hw) e0 (hb hby at_9) rfl (by decide) 3 3 (by decide) (by decide) (by decide) (by decide) ?_
    intro T71 h71 a71 k71 X71 e71 E71 g71 V71
    replace V71 : Arv Z h71 a71 k71 .boolean (3 : Int32) [(.int (0 : Int32)), (.int (0 : Int32)), (.int (0 : Int32))] (.int (0 : Int32)) := V71
    have ge72 : n0 ≤ a71 := by rw [g71]; exact Z0
    show own_Ends p e below s _ _ _ T71 (mkF m 11 #[.val (.int p0), .val (.int p1), .val (.int (3 : Int32)), .unset, .unset] [(.ref a71)])
    refine own_astoreN (pc' := 12) (l' := #[.val (.int p0), .val (.int p1), .val (.int (3 : Int32)), .val (.ref a71), .unset]) X71 hx (hb hby at_11) rfl rfl rfl ?_
    refine own_iloadN (pc' := 13) X71 hx (hb hby at_12) rfl rfl ?_
    refine own_ifNo (pc' := 16) X71 hx (hb hby at_13) rfl (tlt (by decide)).2.2.2 ?_
    refine own_aloadN (pc' := 17) X71 hx (hb hby at_16) rfl rfl rfl ?_
    refine own_iconst (pc' := 18) (z := (0 : Int32)) X71 hx (hb hby at_17) rfl rfl ?_
    refine own_iloadN (pc' := 19) X71 hx (hb hby at_18) rfl rfl ?_
    refine own_iconst (pc' := 20) (z := (1 : Int32)) X71 hx (hb hby at_19) rfl rfl ?_
    refine own_iand (pc' := 21) (z := (p1 &&& (1 : Int32))) X71 hx (hb hby at_20) rfl rfl ?_
    have K74 : ∀ (b73 : Int32) (hb73 : b73 = own_bit p1 1), own_Ends p e below s (own_Q0 Z p0 p1 h0 n0) 16 128 T71 (mkF m 29 #[.val (.int p0), .val (.int p1), .val (.int (3 : Int32)), .val (.ref a71), .unset] [(.int b73), (.int (0 : Int32)), (.ref a71)]) := by
      intro b73 hb73
      refine own_zastore (pc' := 30) X71 hx hZ e71 V71 (hb hby at_29) rfl (by decide) 0 rfl (by simp) N0 ge72 ?_
      intro T75 h75 L75 X75 e75 N75 W75 V75
      rw [show nar .boolean b73 = b73 from own_nbit hb73] at V75
      replace V75 : Arv Z h75 a71 k71 .boolean (3 : Int32) [(.int b73), (.int (0 : Int32)), (.int (0 : Int32))] (.int (0 : Int32)) := V75
      show own_Ends p e below s _ _ _ T75 (mkF m 30 #[.val (.int p0), .val (.int p1), .val (.int (3 : Int32)), .val (.ref a71), .unset] [])
      refine own_iloadN (pc' := 31) X75 hx (hb hby at_30) rfl rfl ?_
      refine own_iconst (pc' := 32) (z := (1 : Int32)) X75 hx (hb hby at_31) rfl rfl ?_
      refine own_icmpNo (pc' := 35) X75 hx (hb hby at_32) rfl (tlt (by decide)).2.2.2 ?_
      refine own_aloadN (pc' := 36) X75 hx (hb hby at_35) rfl rfl rfl ?_
      refine own_iconst (pc' := 37) (z := (1 : Int32)) X75 hx (hb hby at_36) rfl rfl ?_
      refine own_iloadN (pc' := 38) X75 hx (hb hby at_37) rfl rfl ?_
      refine own_iconst (pc' := 39) (z := (2 : Int32)) X75 hx (hb hby at_38) rfl rfl ?_
      refine own_iand (pc' := 40) (z := (p1 &&& (2 : Int32))) X75 hx (hb hby at_39) rfl rfl ?_
      have K77 : ∀ (b76 : Int32) (hb76 : b76 = own_bit p1 2), own_Ends p e below s (own_Q0 Z p0 p1 h0 n0) 16 128 T75 (mkF m 48 #[.val (.int p0), .val (.int p1), .val (.int (3 : Int32)), .val (.ref a71), .unset] [(.int b76), (.int (1 : Int32)), (.ref a71)]) := by
        intro b76 hb76
        refine own_zastore (pc' := 49) X75 hx hZ e75 V75 (hb hby at_48) rfl (by decide) 1 rfl (by simp) N75 ge72 ?_
        intro T78 h78 L78 X78 e78 N78 W78 V78
        rw [show nar .boolean b76 = b76 from own_nbit hb76] at V78
        replace V78 : Arv Z h78 a71 k71 .boolean (3 : Int32) [(.int b73), (.int b76), (.int (0 : Int32))] (.int (0 : Int32)) := V78
        show own_Ends p e below s _ _ _ T78 (mkF m 49 #[.val (.int p0), .val (.int p1), .val (.int (3 : Int32)), .val (.ref a71), .unset] [])
        refine own_iloadN (pc' := 50) X78 hx (hb hby at_49) rfl rfl ?_
        refine own_iconst (pc' := 51) (z := (2 : Int32)) X78 hx (hb hby at_50) rfl rfl ?_
        refine own_icmpNo (pc' := 54) X78 hx (hb hby at_51) rfl (tlt (by decide)).2.2.2 ?_
        refine own_aloadN (pc' := 55) X78 hx (hb hby at_54) rfl rfl rfl ?_
        refine own_iconst (pc' := 56) (z := (2 : Int32)) X78 hx (hb hby at_55) rfl rfl ?_
        refine own_iloadN (pc' := 57) X78 hx (hb hby at_56) rfl rfl ?_
        refine own_iconst (pc' := 58) (z := (4 : Int32)) X78 hx (hb hby at_57) rfl rfl ?_
        refine own_iand (pc' := 59) (z := (p1 &&& (4 : Int32))) X78 hx (hb hby at_58) rfl rfl ?_
        have K80 : ∀ (b79 : Int32) (hb79 : b79 = own_bit p1 4), own_Ends p e below s (own_Q0 Z p0 p1 h0 n0) 16 128 T78 (mkF m 67 #[.val (.int p0), .val (.int p1), .val (.int (3 : Int32)), .val (.ref a71), .unset] [(.int b79), (.int (2 : Int32)), (.ref a71)]) := by
          intro b79 hb79
          refine own_zastore (pc' := 68) X78 hx hZ e78 V78 (hb hby at_67) rfl (by decide) 2 rfl (by simp) N78 ge72 ?_
          intro T81 h81 L81 X81 e81 N81 W81 V81
          rw [show nar .boolean b79 = b79 from own_nbit hb79] at V81
          replace V81 : Arv Z h81 a71 k71 .boolean (3 : Int32) [(.int b73), (.int b76), (.int b79)] (.int (0 : Int32)) := V81
          show own_Ends p e below s _ _ _ T81 (mkF m 68 #[.val (.int p0), .val (.int p1), .val (.int (3 : Int32)), .val (.ref a71), .unset] [])
          refine own_iloadN (pc' := 69) X81 hx (hb hby at_68) rfl rfl ?_
          refine own_iconst (pc' := 70) (z := (3 : Int32)) X81 hx (hb hby at_69) rfl rfl ?_
          refine own_icmpYes (pc' := 88) X81 hx (hb hby at_70) (flt (by decide)).2.2.2 (by decide) (by decide) ?_
          refine own_iloadN (pc' := 89) X81 hx (hb hby at_88) rfl rfl ?_
          refine own_iconst (pc' := 90) (z := (4 : Int32)) X81 hx (hb hby at_89) rfl rfl ?_
          refine own_icmpYes (pc' := 108) X81 hx (hb hby at_90) (flt (by decide)).2.2.2 (by decide) (by decide) ?_
          refine own_iloadN (pc' := 109) X81 hx (hb hby at_108) rfl rfl ?_
          refine own_iconst (pc' := 110) (z := (5 : Int32)) X81 hx (hb hby at_109) rfl rfl ?_
          refine own_icmpYes (pc' := 128) X81 hx (hb hby at_110) (flt (by decide)).2.2.2 (by decide) (by decide) ?_
          refine own_iloadN (pc' := 129) X81 hx (hb hby at_128) rfl rfl ?_
          refine own_iconst (pc' := 130) (z := (1 : Int32)) X81 hx (hb hby at_129) rfl rfl ?_
          refine own_iloadN (pc' := 131) X81 hx (hb hby at_130) rfl rfl ?_
          refine own_ishl (pc' := 132) (z := (8 : Int32)) X81 hx (hb hby at_131) rfl (by decide) ?_
          refine own_iconst (pc' := 133) (z := (1 : Int32)) X81 hx (hb hby at_132) rfl rfl ?_
          refine own_isub (pc' := 134) (z := (7 : Int32)) X81 hx (hb hby at_133) rfl (by decide) ?_
          refine own_iand (pc' := 135) (z := (p1 &&& (7 : Int32))) X81 hx (hb hby at_134) rfl rfl ?_
          have K83 : ∀ (b82 : Int32) (hb82 : b82 = own_bit p1 7), own_Ends p e below s (own_Q0 Z p0 p1 h0 n0) 16 128 T81 (mkF m 143 #[.val (.int p0), .val (.int p1), .val (.int (3 : Int32)), .val (.ref a71), .unset] [(.int b82)]) := by
            intro b82 hb82
            refine own_istore (pc' := 145) (l' := #[.val (.int p0), .val (.int p1), .val (.int (3 : Int32)), .val (.ref a71), .val (.int b82)]) X81 hx (hb hby at_143) rfl rfl ?_
            refine own_aloadN (pc' := 146) X81 hx (hb hby at_145) rfl rfl rfl ?_
            refine own_callS (pc' := 149) (y := (⟨"com/example/closure_crew/closurecrew/engine/Crew", "anyOf", "([Z)Z"⟩ : MethodName)) (W := 0) (rm := own_room1_3) (argsL := [(.ref a71)]) (rest := []) X81 hx hZ e81 hown (by rw [hml]; rfl) (own_w2 hw) (own_w3 hw) (own_w4 hw) (own_w5 hw) (by decide) (own_rm1_3 l Z a0 hw [] a71 k71 b73 b76 b79 h81 n0 V81) (by decide) (by decide) (by decide) (by decide) (lenOf own_pd0 rfl) rfl (by exact Nat.le_of_eq rfl) (hb hby at_146) rfl ?_
            intro T84 Lc84 v84 X84 hQ84
            obtain ⟨rfl, Nq85, eq86⟩ := hQ84
            have N87 := Fr.app N81 Nq85
            show own_Ends p e below s _ _ _ T84 (mkF m 149 #[.val (.int p0), .val (.int p1), .val (.int (3 : Int32)), .val (.ref a71), .val (.int b82)] [(.int (own_anyL [b73, b76, b79]))])
            refine own_iload (pc' := 151) X84 hx (hb hby at_149) rfl rfl ?_
            refine own_icmpNo (pc' := 154) X84 hx (hb hby at_151) rfl (teq (by rw [hb73, hb76, hb79, hb82]; exact own_any3 p1)).2 ?_
            refine own_iconst (pc' := 155) (z := (1 : Int32)) X84 hx (hb hby at_154) rfl rfl ?_
            refine own_goto (pc' := 159) X84 hx (hb hby at_155) (by decide) (by decide) ?_
            refine own_retN X84 hx hlk hret (by simp) (hb hby at_159) (by decide) (by decide) ?_
            exact ⟨rfl, N87⟩
          by_cases hc135_88 : (p1 &&& (7 : Int32)) = (0 : Int32)
          · refine own_ifYes (pc' := 142) X81 hx (hb hby at_135) (teq hc135_88).1 (by decide) (by decide) ?_
            refine own_iconst (pc' := 143) (z := (0 : Int32)) X81 hx (hb hby at_142) rfl rfl ?_
            exact K83 _ (by first | (simp [own_bit, hc135_88]; done) | (exact absurd (by simp) hc135_88))
          · refine own_ifNo (pc' := 138) X81 hx (hb hby at_135) rfl (feq hc135_88).1 ?_
            refine own_iconst (pc' := 139) (z := (1 : Int32)) X81 hx (hb hby at_138) rfl rfl ?_
            refine own_goto (pc' := 143) X81 hx (hb hby at_139) (by decide) (by decide) ?_
            exact K83 _ (by first | (simp [own_bit, hc135_88]; done) | (exact absurd (by simp) hc135_88))
        by_cases hc59_89 : (p1 &&& (4 : Int32)) = (0 : Int32)
        · refine own_ifYes (pc' := 66) X78 hx (hb hby at_59) (teq hc59_89).1 (by decide) (by decide) ?_
          refine own_iconst (pc' := 67) (z := (0 : Int32)) X78 hx (hb hby at_66) rfl rfl ?_
          exact K80 _ (by first | (simp [own_bit, hc59_89]; done) | (exact absurd (by simp) hc59_89))
        · refine own_ifNo (pc' := 62) X78 hx (hb hby at_59) rfl (feq hc59_89).1 ?_
          refine own_iconst (pc' := 63) (z := (1 : Int32)) X78 hx (hb hby at_62) rfl rfl ?_
          refine own_goto (pc' := 67) X78 hx (hb hby at_63) (by decide) (by decide) ?_
          exact K80 _ (by first | (simp [own_bit, hc59_89]; done) | (exact absurd (by simp) hc59_89))
      by_cases hc40_90 : (p1 &&& (2 : Int32)) = (0 : Int32)
      · refine own_ifYes (pc' := 47) X75 hx (hb hby at_40) (teq hc40_90).1 (by decide) (by decide) ?_
        refine own_iconst (pc' := 48) (z := (0 : Int32)) X75 hx (hb hby at_47) rfl rfl ?_
        exact K77 _ (by first | (simp [own_bit, hc40_90]; done) | (exact absurd (by simp) hc40_90))
      · refine own_ifNo (pc' := 43) X75 hx (hb hby at_40) rfl (feq hc40_90).1 ?_
        refine own_iconst (pc' := 44) (z := (1 : Int32)) X75 hx (hb hby at_43) rfl rfl ?_
        refine own_goto (pc' := 48) X75 hx (hb hby at_44) (by decide) (by decide) ?_
        exact K77 _ (by first | (simp [own_bit, hc40_90]; done) | (exact absurd (by simp) hc40_90))
    by_cases hc21_91 : (p1 &&& (1 : Int32)) = (0 : Int32)
    · refine own_ifYes (pc' := 28) X71 hx (hb hby at_21) (teq hc21_91).1 (by decide) (by decide) ?_
      refine own_iconst (pc' := 29) (z := (0 : Int32)) X71 hx (hb hby at_28) rfl rfl ?_
      exact K74 _ (by first | (simp [own_bit, hc21_91]; done) | (exact absurd (by simp) hc21_91))
    · refine own_ifNo (pc' := 24) X71 hx (hb hby at_21) rfl (feq hc21_91).1 ?_
      refine own_iconst (pc' := 25) (z := (1 : Int32)) X71 hx (hb hby at_24) rfl rfl ?_
      refine own_goto (pc' := 29) X71 hx (hb hby at_25) (by decide) (by decide) ?_
      exact K74 _ (by first | (simp [own_bit, hc21_91]; done) | (exact absurd (by simp) hc21_91))
  · refine own_istoreN (pc' := 8) (l' := #[.val (.int p0), .val (.int p1), .val (.int (4 : Int32)), .unset, .unset]) X0 hx (hb hby at_7) rfl rfl ?_
    refine own_iloadN (pc' := 9) X0 hx (hb hby at_8) rfl rfl ?_
    refine own_newarr (pc' := 11) (aty := .boolean) X0 hx hZ (own_w1 hw) e0 (hb hby at_9) rfl (by decide) 4 4 (by decide) (by decide) (by decide) (by decide) ?_
    intro T92 h92 a92 k92 X92 e92 E92 g92 V92
    replace V92 : Arv Z h92 a92 k92 .boolean (4 : Int32) [(.int (0 : Int32)), (.int (0 : Int32)), (.int (0 : Int32)), (.int (0 : Int32))] (.int (0 : Int32)) := V92
    have ge93 : n0 ≤ a92 := by rw [g92]; exact Z0
    show own_Ends p e below s _ _ _ T92 (mkF m 11 #[.val (.int p0), .val (.int p1), .val (.int (4 : Int32)), .unset, .unset] [(.ref a92)])
    refine own_astoreN (pc' := 12) (l' := #[.val (.int p0), .val (.int p1), .val (.int (4 : Int32)), .val (.ref a92), .unset]) X92 hx (hb hby at_11) rfl rfl rfl ?_
    refine own_iloadN (pc' := 13) X92 hx (hb hby at_12) rfl rfl ?_
    refine own_ifNo (pc' := 16) X92 hx (hb hby at_13) rfl (tlt (by decide)).2.2.2 ?_
    refine own_aloadN (pc' := 17) X92 hx (hb hby at_16) rfl rfl rfl ?_
    refine own_iconst (pc' := 18) (z := (0 : Int32)) X92 hx (hb hby at_17) rfl rfl ?_
    refine own_iloadN (pc' := 19) X92 hx (hb hby at_18) rfl rfl ?_
    refine own_iconst (pc' := 20) (z := (1 : Int32)) X92 hx (hb hby at_19) rfl rfl ?_
    refine own_iand (pc' := 21) (z := (p1 &&& (1 : Int32))) X92 hx (hb hby at_20) rfl rfl ?_
    have K95 : ∀ (b94 : Int32) (hb94 : b94 = own_bit p1 1), own_Ends p e below s (own_Q0 Z p0 p1 h0 n0) 16 128 T92 (mkF m 29 #[.val (.int p0), .val (.int p1), .val (.int (4 : Int32)), .val (.ref a92), .unset] [(.int b94), (.int (0 : Int32)), (.ref a92)]) := by
      intro b94 hb94
      refine own_zastore (pc' := 30) X92 hx hZ e92 V92 (hb hby at_29) rfl (by decide) 0 rfl (by simp) N0 ge93 ?_
      intro T96 h96 L96 X96 e96 N96 W96 V96
      rw [show nar .boolean b94 = b94 from own_nbit hb94] at V96
      replace V96 : Arv Z h96 a92 k92 .boolean (4 : Int32) [(.int b94), (.int (0 : Int32)), (.int (0 : Int32)), (.int (0 : Int32))] (.int (0 : Int32)) := V96
      show own_Ends p e below s _ _ _ T96 (mkF m 30 #[.val (.int p0), .val (.int p1), .val (.int (4 : Int32)), .val (.ref a92), .unset] [])
      refine own_iloadN (pc' := 31) X96 hx (hb hby at_30) rfl rfl ?_
      refine own_iconst (pc' := 32) (z := (1 : Int32)) X96 hx (hb hby at_31) rfl rfl ?_
      refine own_icmpNo (pc' := 35) X96 hx (hb hby at_32) rfl (tlt (by decide)).2.2.2 ?_
      refine own_aloadN (pc' := 36) X96 hx (hb hby at_35) rfl rfl rfl ?_
      refine own_iconst (pc' := 37) (z := (1 : Int32)) X96 hx (hb hby at_36) rfl rfl ?_
      refine own_iloadN (pc' := 38) X96 hx (hb hby at_37) rfl rfl ?_
      refine own_iconst (pc' := 39) (z := (2 : Int32)) X96 hx (hb hby at_38) rfl rfl ?_
      refine own_iand (pc' := 40) (z := (p1 &&& (2 : Int32))) X96 hx (hb hby at_39) rfl rfl ?_
      have K98 : ∀ (b97 : Int32) (hb97 : b97 = own_bit p1 2), own_Ends p e below s (own_Q0 Z p0 p1 h0 n0) 16 128 T96 (mkF m 48 #[.val (.int p0), .val (.int p1), .val (.int (4 : Int32)), .val (.ref a92), .unset] [(.int b97), (.int (1 : Int32)), (.ref a92)]) := by
        intro b97 hb97
        refine own_zastore (pc' := 49) X96 hx hZ e96 V96 (hb hby at_48) rfl (by decide) 1 rfl (by simp) N96 ge93 ?_
        intro T99 h99 L99 X99 e99 N99 W99 V99
        rw [show nar .boolean b97 = b97 from own_nbit hb97] at V99
        replace V99 : Arv Z h99 a92 k92 .boolean (4 : Int32) [(.int b94), (.int b97), (.int (0 : Int32)), (.int (0 : Int32))] (.int (0 : Int32)) := V99
        show own_Ends p e below s _ _ _ T99 (mkF m 49 #[.val (.int p0), .val (.int p1), .val (.int (4 : Int32)), .val (.ref a92), .unset] [])
        refine own_iloadN (pc' := 50) X99 hx (hb hby at_49) rfl rfl ?_
        refine own_iconst (pc' := 51) (z := (2 : Int32)) X99 hx (hb hby at_50) rfl rfl ?_
        refine own_icmpNo (pc' := 54) X99 hx (hb hby at_51) rfl (tlt (by decide)).2.2.2 ?_
        refine own_aloadN (pc' := 55) X99 hx (hb hby at_54) rfl rfl rfl ?_
        refine own_iconst (pc' := 56) (z := (2 : Int32)) X99 hx (hb hby at_55) rfl rfl ?_
        refine own_iloadN (pc' := 57) X99 hx (hb hby at_56) rfl rfl ?_
        refine own_iconst (pc' := 58) (z := (4 : Int32)) X99 hx (hb hby at_57) rfl rfl ?_
        refine own_iand (pc' := 59) (z := (p1 &&& (4 : Int32))) X99 hx (hb hby at_58) rfl rfl ?_
        have K101 : ∀ (b100 : Int32) (hb100 : b100 = own_bit p1 4), own_Ends p e below s (own_Q0 Z p0 p1 h0 n0) 16 128 T99 (mkF m 67 #[.val (.int p0), .val (.int p1), .val (.int (4 : Int32)), .val (.ref a92), .unset] [(.int b100), (.int (2 : Int32)), (.ref a92)]) := by
          intro b100 hb100
          refine own_zastore (pc' := 68) X99 hx hZ e99 V99 (hb hby at_67) rfl (by decide) 2 rfl (by simp) N99 ge93 ?_
          intro T102 h102 L102 X102 e102 N102 W102 V102
          rw [show nar .boolean b100 = b100 from own_nbit hb100] at V102
          replace V102 : Arv Z h102 a92 k92 .boolean (4 : Int32) [(.int b94), (.int b97), (.int b100), (.int (0 : Int32))] (.int (0 : Int32)) := V102
          show own_Ends p e below s _ _ _ T102 (mkF m 68 #[.val (.int p0), .val (.int p1), .val (.int (4 : Int32)), .val (.ref a92), .unset] [])
          refine own_iloadN (pc' := 69) X102 hx (hb hby at_68) rfl rfl ?_
          refine own_iconst (pc' := 70) (z := (3 : Int32)) X102 hx (hb hby at_69) rfl rfl ?_
          refine own_icmpNo (pc' := 73) X102 hx (hb hby at_70) rfl (tlt (by decide)).2.2.2 ?_
          refine own_aloadN (pc' := 74) X102 hx (hb hby at_73) rfl rfl rfl ?_
          refine own_iconst (pc' := 75) (z := (3 : Int32)) X102 hx (hb hby at_74) rfl rfl ?_
          refine own_iloadN (pc' := 76) X102 hx (hb hby at_75) rfl rfl ?_
          refine own_bipush (pc' := 78) (z := (8 : Int32)) X102 hx (hb hby at_76) rfl rfl ?_
          refine own_iand (pc' := 79) (z := (p1 &&& (8 : Int32))) X102 hx (hb hby at_78) rfl rfl ?_
          have K104 : ∀ (b103 : Int32) (hb103 : b103 = own_bit p1 8), own_Ends p e below s (own_Q0 Z p0 p1 h0 n0) 16 128 T102 (mkF m 87 #[.val (.int p0), .val (.int p1), .val (.int (4 : Int32)), .val (.ref a92), .unset] [(.int b103), (.int (3 : Int32)), (.ref a92)]) := by
            intro b103 hb103
            refine own_zastore (pc' := 88) X102 hx hZ e102 V102 (hb hby at_87) rfl (by decide) 3 rfl (by simp) N102 ge93 ?_
            intro T105 h105 L105 X105 e105 N105 W105 V105
            rw [show nar .boolean b103 = b103 from own_nbit hb103] at V105
            replace V105 : Arv Z h105 a92 k92 .boolean (4 : Int32) [(.int b94), (.int b97), (.int b100), (.int b103)] (.int (0 : Int32)) := V105
            show own_Ends p e below s _ _ _ T105 (mkF m 88 #[.val (.int p0), .val (.int p1), .val (.int (4 : Int32)), .val (.ref a92), .unset] [])
            refine own_iloadN (pc' := 89) X105 hx (hb hby at_88) rfl rfl ?_
            refine own_iconst (pc' := 90) (z := (4 : Int32)) X105 hx (hb hby at_89) rfl rfl ?_
            refine own_icmpYes (pc' := 108) X105 hx (hb hby at_90) (flt (by decide)).2.2.2 (by decide) (by decide) ?_
            refine own_iloadN (pc' := 109) X105 hx (hb hby at_108) rfl rfl ?_
            refine own_iconst (pc' := 110) (z := (5 : Int32)) X105 hx (hb hby at_109) rfl rfl ?_
            refine own_icmpYes (pc' := 128) X105 hx (hb hby at_110) (flt (by decide)).2.2.2 (by decide) (by decide) ?_
            refine own_iloadN (pc' := 129) X105 hx (hb hby at_128) rfl rfl ?_
            refine own_iconst (pc' := 130) (z := (1 : Int32)) X105 hx (hb hby at_129) rfl rfl ?_
            refine own_iloadN (pc' := 131) X105 hx (hb hby at_130) rfl rfl ?_
            refine own_ishl (pc' := 132) (z := (16 : Int32)) X105 hx (hb hby at_131) rfl (by decide) ?_
            refine own_iconst (pc' := 133) (z := (1 : Int32)) X105 hx (hb hby at_132) rfl rfl ?_
            refine own_isub (pc' := 134) (z := (15 : Int32)) X105 hx (hb hby at_133) rfl (by decide) ?_
            refine own_iand (pc' := 135) (z := (p1 &&& (15 : Int32))) X105 hx (hb hby at_134) rfl rfl ?_
            have K107 : ∀ (b106 : Int32) (hb106 : b106 = own_bit p1 15), own_Ends p e below s (own_Q0 Z p0 p1 h0 n0) 16 128 T105 (mkF m 143 #[.val (.int p0), .val (.int p1), .val (.int (4 : Int32)), .val (.ref a92), .unset] [(.int b106)]) := by
              intro b106 hb106
              refine own_istore (pc' := 145) (l' := #[.val (.int p0), .val (.int p1), .val (.int (4 : Int32)), .val (.ref a92), .val (.int b106)]) X105 hx (hb hby at_143) rfl rfl ?_
              refine own_aloadN (pc' := 146) X105 hx (hb hby at_145) rfl rfl rfl ?_
              refine own_callS (pc' := 149) (y := (⟨"com/example/closure_crew/closurecrew/engine/Crew", "anyOf", "([Z)Z"⟩ : MethodName)) (W := 0) (rm := own_room1_4) (argsL := [(.ref a92)]) (rest := []) X105 hx hZ e105 hown (by rw [hml]; rfl) (own_w2 hw) (own_w3 hw) (own_w4 hw) (own_w5 hw) (by decide) (own_rm1_4 l Z a0 hw [] a92 k92 b94 b97 b100 b103 h105 n0 V105) (by decide) (by decide) (by decide) (by decide) (lenOf own_pd0 rfl) rfl (by exact Nat.le_of_eq rfl) (hb hby at_146) rfl ?_
              intro T108 Lc108 v108 X108 hQ108
              obtain ⟨rfl, Nq109, eq110⟩ := hQ108
              have N111 := Fr.app N105 Nq109
              show own_Ends p e below s _ _ _ T108 (mkF m 149 #[.val (.int p0), .val (.int p1), .val (.int (4 : Int32)), .val (.ref a92), .val (.int b106)] [(.int (own_anyL [b94, b97, b100, b103]))])
              refine own_iload (pc' := 151) X108 hx (hb hby at_149) rfl rfl ?_
              refine own_icmpNo (pc' := 154) X108 hx (hb hby at_151) rfl (teq (by rw [hb94, hb97, hb100, hb103, hb106]; exact own_any4 p1)).2 ?_
              refine own_iconst (pc' := 155) (z := (1 : Int32)) X108 hx (hb hby at_154) rfl rfl ?_
              refine own_goto (pc' := 159) X108 hx (hb hby at_155) (by decide) (by decide) ?_
              refine own_retN X108 hx hlk hret (by simp) (hb hby at_159) (by decide) (by decide) ?_
              exact ⟨rfl, N111⟩
            by_cases hc135_112 : (p1 &&& (15 : Int32)) = (0 : Int32)
            · refine own_ifYes (pc' := 142) X105 hx (hb hby at_135) (teq hc135_112).1 (by decide) (by decide) ?_
              refine own_iconst (pc' := 143) (z := (0 : Int32)) X105 hx (hb hby at_142) rfl rfl ?_
              exact K107 _ (by first | (simp [own_bit, hc135_112]; done) | (exact absurd (by simp) hc135_112))
            · refine own_ifNo (pc' := 138) X105 hx (hb hby at_135) rfl (feq hc135_112).1 ?_
              refine own_iconst (pc' := 139) (z := (1 : Int32)) X105 hx (hb hby at_138) rfl rfl ?_
              refine own_goto (pc' := 143) X105 hx (hb hby at_139) (by decide) (by decide) ?_
              exact K107 _ (by first | (simp [own_bit, hc135_112]; done) | (exact absurd (by simp) hc135_112))
          by_cases hc79_113 : (p1 &&& (8 : Int32)) = (0 : Int32)
          · refine own_ifYes (pc' := 86) X102 hx (hb hby at_79) (teq hc79_113).1 (by decide) (by decide) ?_
            refine own_iconst (pc' := 87) (z := (0 : Int32)) X102 hx (hb hby at_86) rfl rfl ?_
            exact K104 _ (by first | (simp [own_bit, hc79_113]; done) | (exact absurd (by simp) hc79_113))
          · refine own_ifNo (pc' := 82) X102 hx (hb hby at_79) rfl (feq hc79_113).1 ?_
            refine own_iconst (pc' := 83) (z := (1 : Int32)) X102 hx (hb hby at_82) rfl rfl ?_
            refine own_goto (pc' := 87) X102 hx (hb hby at_83) (by decide) (by decide) ?_
            exact K104 _ (by first | (simp [own_bit, hc79_113]; done) | (exact absurd (by simp) hc79_113))
        by_cases hc59_114 : (p1 &&& (4 : Int32)) = (0 : Int32)
        · refine own_ifYes (pc' := 66) X99 hx (hb hby at_59) (teq hc59_114).1 (by decide) (by decide) ?_
          refine own_iconst (pc' := 67) (z := (0 : Int32)) X99 hx (hb hby at_66) rfl rfl ?_
          exact K101 _ (by first | (simp [own_bit, hc59_114]; done) | (exact absurd (by simp) hc59_114))
        · refine own_ifNo (pc' := 62) X99 hx (hb hby at_59) rfl (feq hc59_114).1 ?_
          refine own_iconst (pc' := 63) (z := (1 : Int32)) X99 hx (hb hby at_62) rfl rfl ?_
          refine own_goto (pc' := 67) X99 hx (hb hby at_63) (by decide) (by decide) ?_
          exact K101 _ (by first | (simp [own_bit, hc59_114]; done) | (exact absurd (by simp) hc59_114))
      by_cases hc40_115 : (p1 &&& (2 : Int32)) = (0 : Int32)
      · refine own_ifYes (pc' := 47) X96 hx (hb hby at_40) (teq hc40_115).1 (by decide) (by decide) ?_
        refine own_iconst (pc' := 48) (z := (0 : Int32)) X96 hx (hb hby at_47) rfl rfl ?_
        exact K98 _ (by first | (simp [own_bit, hc40_115]; done) | (exact absurd (by simp) hc40_115))
      · refine own_ifNo (pc' := 43) X96 hx (hb hby at_40) rfl (feq hc40_115).1 ?_
        refine own_iconst (pc' := 44) (z := (1 : Int32)) X96 hx (hb hby at_43) rfl rfl ?_
        refine own_goto (pc' := 48) X96 hx (hb hby at_44) (by decide) (by decide) ?_
        exact K98 _ (by first | (simp [own_bit, hc40_115]; done) | (exact absurd (by simp) hc40_115))
    by_cases hc21_116 : (p1 &&& (1 : Int32)) = (0 : Int32)
    · refine own_ifYes (pc' := 28) X92 hx (hb hby at_21) (teq hc21_116).1 (by decide) (by decide) ?_
      refine own_iconst (pc' := 29) (z := (0 : Int32)) X92 hx (hb hby at_28) rfl rfl ?_
      exact K95 _ (by first | (simp [own_bit, hc21_116]; done) | (exact absurd (by simp) hc21_116))
    · refine own_ifNo (pc' := 24) X92 hx (hb hby at_21) rfl (feq hc21_116).1 ?_
      refine own_iconst (pc' := 25) (z := (1 : Int32)) X92 hx (hb hby at_24) rfl rfl ?_
      refine own_goto (pc' := 29) X92 hx (hb hby at_25) (by decide) (by decide) ?_
      exact K95 _ (by first | (simp [own_bit, hc21_116]; done) | (exact absurd (by simp) hc21_116))
  · refine own_istoreN (pc' := 8) (l' := #[.val (.int p0), .val (.int p1), .val (.int (5 : Int32)), .unset, .unset]) X0 hx (hb hby at_7) rfl rfl ?_
    refine own_iloadN (pc' := 9) X0 hx (hb hby at_8) rfl rfl ?_
    refine own_newarr (pc' := 11) (aty := .boolean) X0 hx hZ (own_w1 hw) e0 (hb hby at_9) rfl (by decide) 5 5 (by decide) (by decide) (by decide) (by decide) ?_
    intro T117 h117 a117 k117 X117 e117 E117 g117 V117
    replace V117 : Arv Z h117 a117 k117 .boolean (5 : Int32) [(.int (0 : Int32)), (.int (0 : Int32)), (.int (0 : Int32)), (.int (0 : Int32)), (.int (0 : Int32))] (.int (0 : Int32)) := V117
    have ge118 : n0 ≤ a117 := by rw [g117]; exact Z0
    show own_Ends p e below s _ _ _ T117 (mkF m 11 #[.val (.int p0), .val (.int p1), .val (.int (5 : Int32)), .unset, .unset] [(.ref a117)])
    refine own_astoreN (pc' := 12) (l' := #[.val (.int p0), .val (.int p1), .val (.int (5 : Int32)), .val (.ref a117), .unset]) X117 hx (hb hby at_11) rfl rfl rfl ?_
    refine own_iloadN (pc' := 13) X117 hx (hb hby at_12) rfl rfl ?_
    refine own_ifNo (pc' := 16) X117 hx (hb hby at_13) rfl (tlt (by decide)).2.2.2 ?_
    refine own_aloadN (pc' := 17) X117 hx (hb hby at_16) rfl rfl rfl ?_
    refine own_iconst (pc' := 18) (z := (0 : Int32)) X117 hx (hb hby at_17) rfl rfl ?_
    refine own_iloadN (pc' := 19) X117 hx (hb hby at_18) rfl rfl ?_
    refine own_iconst (pc' := 20) (z := (1 : Int32)) X117 hx (hb hby at_19) rfl rfl ?_
    refine own_iand (pc' := 21) (z := (p1 &&& (1 : Int32))) X117 hx (hb hby at_20) rfl rfl ?_
    have K120 : ∀ (b119 : Int32) (hb119 : b119 = own_bit p1 1), own_Ends p e below s (own_Q0 Z p0 p1 h0 n0) 16 128 T117 (mkF m 29 #[.val (.int p0), .val (.int p1), .val (.int (5 : Int32)), .val (.ref a117), .unset] [(.int b119), (.int (0 : Int32)), (.ref a117)]) := by
      intro b119 hb119
      refine own_zastore (pc' := 30) X117 hx hZ e117 V117 (hb hby at_29) rfl (by decide) 0 rfl (by simp) N0 ge118 ?_
      intro T121 h121 L121 X121 e121 N121 W121 V121
      rw [show nar .boolean b119 = b119 from own_nbit hb119] at V121
      replace V121 : Arv Z h121 a117 k117 .boolean (5 : Int32) [(.int b119), (.int (0 : Int32)), (.int (0 : Int32)), (.int (0 : Int32)), (.int (0 : Int32))] (.int (0 : Int32)) := V121
      show own_Ends p e below s _ _ _ T121 (mkF m 30 #[.val (.int p0), .val (.int p1), .val (.int (5 : Int32)), .val (.ref a117), .unset] [])
      refine own_iloadN (pc' := 31) X121 hx (hb hby at_30) rfl rfl ?_
      refine own_iconst (pc' := 32) (z := (1 : Int32)) X121 hx (hb hby at_31) rfl rfl ?_
      refine own_icmpNo (pc' := 35) X121 hx (hb hby at_32) rfl (tlt (by decide)).2.2.2 ?_
      refine own_aloadN (pc' := 36) X121 hx (hb hby at_35) rfl rfl rfl ?_
      refine own_iconst (pc' := 37) (z := (1 : Int32)) X121 hx (hb hby at_36) rfl rfl ?_
      refine own_iloadN (pc' := 38) X121 hx (hb hby at_37) rfl rfl ?_
      refine own_iconst (pc' := 39) (z := (2 : Int32)) X121 hx (hb hby at_38) rfl rfl ?_
      refine own_iand (pc' := 40) (z := (p1 &&& (2 : Int32))) X121 hx (hb hby at_39) rfl rfl ?_
      have K123 : ∀ (b122 : Int32) (hb122 : b122 = own_bit p1 2), own_Ends p e below s (own_Q0 Z p0 p1 h0 n0) 16 128 T121 (mkF m 48 #[.val (.int p0), .val (.int p1), .val (.int (5 : Int32)), .val (.ref a117), .unset] [(.int b122), (.int (1 : Int32)), (.ref a117)]) := by
        intro b122 hb122
        refine own_zastore (pc' := 49) X121 hx hZ e121 V121 (hb hby at_48) rfl (by decide) 1 rfl (by simp) N121 ge118 ?_
        intro T124 h124 L124 X124 e124 N124 W124 V124
        rw [show nar .boolean b122 = b122 from own_nbit hb122] at V124
        replace V124 : Arv Z h124 a117 k117 .boolean (5 : Int32) [(.int b119), (.int b122), (.int (0 : Int32)), (.int (0 : Int32)), (.int (0 : Int32))] (.int (0 : Int32)) := V124
        show own_Ends p e below s _ _ _ T124 (mkF m 49 #[.val (.int p0), .val (.int p1), .val (.int (5 : Int32)), .val (.ref a117), .unset] [])
        refine own_iloadN (pc' := 50) X124 hx (hb hby at_49) rfl rfl ?_
        refine own_iconst (pc' := 51) (z := (2 : Int32)) X124 hx (hb hby at_50) rfl rfl ?_
        refine own_icmpNo (pc' := 54) X124 hx (hb hby at_51) rfl (tlt (by decide)).2.2.2 ?_
        refine own_aloadN (pc' := 55) X124 hx (hb hby at_54) rfl rfl rfl ?_
        refine own_iconst (pc' := 56) (z := (2 : Int32)) X124 hx (hb hby at_55) rfl rfl ?_
        refine own_iloadN (pc' := 57) X124 hx (hb hby at_56) rfl rfl ?_
        refine own_iconst (pc' := 58) (z := (4 : Int32)) X124 hx (hb hby at_57) rfl rfl ?_
        refine own_iand (pc' := 59) (z := (p1 &&& (4 : Int32))) X124 hx (hb hby at_58) rfl rfl ?_
        have K126 : ∀ (b125 : Int32) (hb125 : b125 = own_bit p1 4), own_Ends p e below s (own_Q0 Z p0 p1 h0 n0) 16 128 T124 (mkF m 67 #[.val (.int p0), .val (.int p1), .val (.int (5 : Int32)), .val (.ref a117), .unset] [(.int b125), (.int (2 : Int32)), (.ref a117)]) := by
          intro b125 hb125
          refine own_zastore (pc' := 68) X124 hx hZ e124 V124 (hb hby at_67) rfl (by decide) 2 rfl (by simp) N124 ge118 ?_
          intro T127 h127 L127 X127 e127 N127 W127 V127
          rw [show nar .boolean b125 = b125 from own_nbit hb125] at V127
          replace V127 : Arv Z h127 a117 k117 .boolean (5 : Int32) [(.int b119), (.int b122), (.int b125), (.int (0 : Int32)), (.int (0 : Int32))] (.int (0 : Int32)) := V127
          show own_Ends p e below s _ _ _ T127 (mkF m 68 #[.val (.int p0), .val (.int p1), .val (.int (5 : Int32)), .val (.ref a117), .unset] [])
          refine own_iloadN (pc' := 69) X127 hx (hb hby at_68) rfl rfl ?_
          refine own_iconst (pc' := 70) (z := (3 : Int32)) X127 hx (hb hby at_69) rfl rfl ?_
          refine own_icmpNo (pc' := 73) X127 hx (hb hby at_70) rfl (tlt (by decide)).2.2.2 ?_
          refine own_aloadN (pc' := 74) X127 hx (hb hby at_73) rfl rfl rfl ?_
          refine own_iconst (pc' := 75) (z := (3 : Int32)) X127 hx (hb hby at_74) rfl rfl ?_
          refine own_iloadN (pc' := 76) X127 hx (hb hby at_75) rfl rfl ?_
          refine own_bipush (pc' := 78) (z := (8 : Int32)) X127 hx (hb hby at_76) rfl rfl ?_
          refine own_iand (pc' := 79) (z := (p1 &&& (8 : Int32))) X127 hx (hb hby at_78) rfl rfl ?_
          have K129 : ∀ (b128 : Int32) (hb128 : b128 = own_bit p1 8), own_Ends p e below s (own_Q0 Z p0 p1 h0 n0) 16 128 T127 (mkF m 87 #[.val (.int p0), .val (.int p1), .val (.int (5 : Int32)), .val (.ref a117), .unset] [(.int b128), (.int (3 : Int32)), (.ref a117)]) := by
            intro b128 hb128
            refine own_zastore (pc' := 88) X127 hx hZ e127 V127 (hb hby at_87) rfl (by decide) 3 rfl (by simp) N127 ge118 ?_
            intro T130 h130 L130 X130 e130 N130 W130 V130
            rw [show nar .boolean b128 = b128 from own_nbit hb128] at V130
            replace V130 : Arv Z h130 a117 k117 .boolean (5 : Int32) [(.int b119), (.int b122), (.int b125), (.int b128), (.int (0 : Int32))] (.int (0 : Int32)) := V130
            show own_Ends p e below s _ _ _ T130 (mkF m 88 #[.val (.int p0), .val (.int p1), .val (.int (5 : Int32)), .val (.ref a117), .unset] [])
            refine own_iloadN (pc' := 89) X130 hx (hb hby at_88) rfl rfl ?_
            refine own_iconst (pc' := 90) (z := (4 : Int32)) X130 hx (hb hby at_89) rfl rfl ?_
            refine own_icmpNo (pc' := 93) X130 hx (hb hby at_90) rfl (tlt (by decide)).2.2.2 ?_
            refine own_aloadN (pc' := 94) X130 hx (hb hby at_93) rfl rfl rfl ?_
            refine own_iconst (pc' := 95) (z := (4 : Int32)) X130 hx (hb hby at_94) rfl rfl ?_
            refine own_iloadN (pc' := 96) X130 hx (hb hby at_95) rfl rfl ?_
            refine own_bipush (pc' := 98) (z := (16 : Int32)) X130 hx (hb hby at_96) rfl rfl ?_
            refine own_iand (pc' := 99) (z := (p1 &&& (16 : Int32))) X130 hx (hb hby at_98) rfl rfl ?_
            have K132 : ∀ (b131 : Int32) (hb131 : b131 = own_bit p1 16), own_Ends p e below s (own_Q0 Z p0 p1 h0 n0) 16 128 T130 (mkF m 107 #[.val (.int p0), .val (.int p1), .val (.int (5 : Int32)), .val (.ref a117), .unset] [(.int b131), (.int (4 : Int32)), (.ref a117)]) := by
              intro b131 hb131
              refine own_zastore (pc' := 108) X130 hx hZ e130 V130 (hb hby at_107) rfl (by decide) 4 rfl (by simp) N130 ge118 ?_
              intro T133 h133 L133 X133 e133 N133 W133 V133
              rw [show nar .boolean b131 = b131 from own_nbit hb131] at V133
              replace V133 : Arv Z h133 a117 k117 .boolean (5 : Int32) [(.int b119), (.int b122), (.int b125), (.int b128), (.int b131)] (.int (0 : Int32)) := V133
              show own_Ends p e below s _ _ _ T133 (mkF m 108 #[.val (.int p0), .val (.int p1), .val (.int (5 : Int32)), .val (.ref a117), .unset] [])
              refine own_iloadN (pc' := 109) X133 hx (hb hby at_108) rfl rfl ?_
              refine own_iconst (pc' := 110) (z := (5 : Int32)) X133 hx (hb hby at_109) rfl rfl ?_
              refine own_icmpYes (pc' := 128) X133 hx (hb hby at_110) (flt (by decide)).2.2.2 (by decide) (by decide) ?_
              refine own_iloadN (pc' := 129) X133 hx (hb hby at_128) rfl rfl ?_
              refine own_iconst (pc' := 130) (z := (1 : Int32)) X133 hx (hb hby at_129) rfl rfl ?_
              refine own_iloadN (pc' := 131) X133 hx (hb hby at_130) rfl rfl ?_
              refine own_ishl (pc' := 132) (z := (32 : Int32)) X133 hx (hb hby at_131) rfl (by decide) ?_
              refine own_iconst (pc' := 133) (z := (1 : Int32)) X133 hx (hb hby at_132) rfl rfl ?_
              refine own_isub (pc' := 134) (z := (31 : Int32)) X133 hx (hb hby at_133) rfl (by decide) ?_
              refine own_iand (pc' := 135) (z := (p1 &&& (31 : Int32))) X133 hx (hb hby at_134) rfl rfl ?_
              have K135 : ∀ (b134 : Int32) (hb134 : b134 = own_bit p1 31), own_Ends p e below s (own_Q0 Z p0 p1 h0 n0) 16 128 T133 (mkF m 143 #[.val (.int p0), .val (.int p1), .val (.int (5 : Int32)), .val (.ref a117), .unset] [(.int b134)]) := by
                intro b134 hb134
                refine own_istore (pc' := 145) (l' := #[.val (.int p0), .val (.int p1), .val (.int (5 : Int32)), .val (.ref a117), .val (.int b134)]) X133 hx (hb hby at_143) rfl rfl ?_
                refine own_aloadN (pc' := 146) X133 hx (hb hby at_145) rfl rfl rfl ?_
                refine own_callS (pc' := 149) (y := (⟨"com/example/closure_crew/closurecrew/engine/Crew", "anyOf", "([Z)Z"⟩ : MethodName)) (W := 0) (rm := own_room1_5) (argsL := [(.ref a117)]) (rest := []) X133 hx hZ e133 hown (by rw [hml]; rfl) (own_w2 hw) (own_w3 hw) (own_w4 hw) (own_w5 hw) (by decide) (own_rm1_5 l Z a0 hw [] a117 k117 b119 b122 b125 b128 b131 h133 n0 V133) (by decide) (by decide) (by decide) (by decide) (lenOf own_pd0 rfl) rfl (by exact Nat.le_of_eq rfl) (hb hby at_146) rfl ?_
                intro T136 Lc136 v136 X136 hQ136
                obtain ⟨rfl, Nq137, eq138⟩ := hQ136
                have N139 := Fr.app N133 Nq137
                show own_Ends p e below s _ _ _ T136 (mkF m 149 #[.val (.int p0), .val (.int p1), .val (.int (5 : Int32)), .val (.ref a117), .val (.int b134)] [(.int (own_anyL [b119, b122, b125, b128, b131]))])
                refine own_iload (pc' := 151) X136 hx (hb hby at_149) rfl rfl ?_
                refine own_icmpNo (pc' := 154) X136 hx (hb hby at_151) rfl (teq (by rw [hb119, hb122, hb125, hb128, hb131, hb134]; exact own_any5 p1)).2 ?_
                refine own_iconst (pc' := 155) (z := (1 : Int32)) X136 hx (hb hby at_154) rfl rfl ?_
                refine own_goto (pc' := 159) X136 hx (hb hby at_155) (by decide) (by decide) ?_
                refine own_retN X136 hx hlk hret (by simp) (hb hby at_159) (by decide) (by decide) ?_
                exact ⟨rfl, N139⟩
              by_cases hc135_140 : (p1 &&& (31 : Int32)) = (0 : Int32)
              · refine own_ifYes (pc' := 142) X133 hx (hb hby at_135) (teq hc135_140).1 (by decide) (by decide) ?_
                refine own_iconst (pc' := 143) (z := (0 : Int32)) X133 hx (hb hby at_142) rfl rfl ?_
                exact K135 _ (by first | (simp [own_bit, hc135_140]; done) | (exact absurd (by simp) hc135_140))
              · refine own_ifNo (pc' := 138) X133 hx (hb hby at_135) rfl (feq hc135_140).1 ?_
                refine own_iconst (pc' := 139) (z := (1 : Int32)) X133 hx (hb hby at_138) rfl rfl ?_
                refine own_goto (pc' := 143) X133 hx (hb hby at_139) (by decide) (by decide) ?_
                exact K135 _ (by first | (simp [own_bit, hc135_140]; done) | (exact absurd (by simp) hc135_140))
            by_cases hc99_141 : (p1 &&& (16 : Int32)) = (0 : Int32)
            · refine own_ifYes (pc' := 106) X130 hx (hb hby at_99) (teq hc99_141).1 (by decide) (by decide) ?_
              refine own_iconst (pc' := 107) (z := (0 : Int32)) X130 hx (hb hby at_106) rfl rfl ?_
              exact K132 _ (by first | (simp [own_bit, hc99_141]; done) | (exact absurd (by simp) hc99_141))
            · refine own_ifNo (pc' := 102) X130 hx (hb hby at_99) rfl (feq hc99_141).1 ?_
              refine own_iconst (pc' := 103) (z := (1 : Int32)) X130 hx (hb hby at_102) rfl rfl ?_
              refine own_goto (pc' := 107) X130 hx (hb hby at_103) (by decide) (by decide) ?_
              exact K132 _ (by first | (simp [own_bit, hc99_141]; done) | (exact absurd (by simp) hc99_141))
          by_cases hc79_142 : (p1 &&& (8 : Int32)) = (0 : Int32)
          · refine own_ifYes (pc' := 86) X127 hx (hb hby at_79) (teq hc79_142).1 (by decide) (by decide) ?_
            refine own_iconst (pc' := 87) (z := (0 : Int32)) X127 hx (hb hby at_86) rfl rfl ?_
            exact K129 _ (by first | (simp [own_bit, hc79_142]; done) | (exact absurd (by simp) hc79_142))
          · refine own_ifNo (pc' := 82) X127 hx (hb hby at_79) rfl (feq hc79_142).1 ?_
            refine own_iconst (pc' := 83) (z := (1 : Int32)) X127 hx (hb hby at_82) rfl rfl ?_
            refine own_goto (pc' := 87) X127 hx (hb hby at_83) (by decide) (by decide) ?_
            exact K129 _ (by first | (simp [own_bit, hc79_142]; done) | (exact absurd (by simp) hc79_142))
        by_cases hc59_143 : (p1 &&& (4 : Int32)) = (0 : Int32)
        · refine own_ifYes (pc' := 66) X124 hx (hb hby at_59) (teq hc59_143).1 (by decide) (by decide) ?_
          refine own_iconst (pc' := 67) (z := (0 : Int32)) X124 hx (hb hby at_66) rfl rfl ?_
          exact K126 _ (by first | (simp [own_bit, hc59_143]; done) | (exact absurd (by simp) hc59_143))
        · refine own_ifNo (pc' := 62) X124 hx (hb hby at_59) rfl (feq hc59_143).1 ?_
          refine own_iconst (pc' := 63) (z := (1 : Int32)) X124 hx (hb hby at_62) rfl rfl ?_
          refine own_goto (pc' := 67) X124 hx (hb hby at_63) (by decide) (by decide) ?_
          exact K126 _ (by first | (simp [own_bit, hc59_143]; done) | (exact absurd (by simp) hc59_143))
      by_cases hc40_144 : (p1 &&& (2 : Int32)) = (0 : Int32)
      · refine own_ifYes (pc' := 47) X121 hx (hb hby at_40) (teq hc40_144).1 (by decide) (by decide) ?_
        refine own_iconst (pc' := 48) (z := (0 : Int32)) X121 hx (hb hby at_47) rfl rfl ?_
        exact K123 _ (by first | (simp [own_bit, hc40_144]; done) | (exact absurd (by simp) hc40_144))
      · refine own_ifNo (pc' := 43) X121 hx (hb hby at_40) rfl (feq hc40_144).1 ?_
        refine own_iconst (pc' := 44) (z := (1 : Int32)) X121 hx (hb hby at_43) rfl rfl ?_
        refine own_goto (pc' := 48) X121 hx (hb hby at_44) (by decide) (by decide) ?_
        exact K123 _ (by first | (simp [own_bit, hc40_144]; done) | (exact absurd (by simp) hc40_144))
    by_cases hc21_145 : (p1 &&& (1 : Int32)) = (0 : Int32)
    · refine own_ifYes (pc' := 28) X117 hx (hb hby at_21) (teq hc21_145).1 (by decide) (by decide) ?_
      refine own_iconst (pc' := 29) (z := (0 : Int32)) X117 hx (hb hby at_28) rfl rfl ?_
      exact K120 _ (by first | (simp [own_bit, hc21_145]; done) | (exact absurd (by simp) hc21_145))
    · refine own_ifNo (pc' := 24) X117 hx (hb hby at_21) rfl (feq hc21_145).1 ?_
      refine own_iconst (pc' := 25) (z := (1 : Int32)) X117 hx (hb hby at_24) rfl rfl ?_
      refine own_goto (pc' := 29) X117 hx (hb hby at_25) (by decide) (by decide) ?_
      exact K120 _ (by first | (simp [own_bit, hc21_145]; done) | (exact absurd (by simp) hc21_145))
  · refine own_istoreN (pc' := 8) (l' := #[.val (.int p0), .val (.int p1), .val (.int (6 : Int32)), .unset, .unset]) X0 hx (hb hby at_7) rfl rfl ?_
    refine own_iloadN (pc' := 9) X0 hx (hb hby at_8) rfl rfl ?_
    refine own_newarr (pc' := 11) (aty := .boolean) X0 hx hZ (own_w1 hw) e0 (hb hby at_9) rfl (by decide) 6 6 (by decide) (by decide) (by decide) (by decide) ?_
    intro T146 h146 a146 k146 X146 e146 E146 g146 V146
    replace V146 : Arv Z h146 a146 k146 .boolean (6 : Int32) [(.int (0 : Int32)), (.int (0 : Int32)), (.int (0 : Int32)), (.int (0 : Int32)), (.int (0 : Int32)), (.int (0 : Int32))] (.int (0 : Int32)) := V146
    have ge147 : n0 ≤ a146 := by rw [g146]; exact Z0
    show own_Ends p e below s _ _ _ T146 (mkF m 11 #[.val (.int p0), .val (.int p1), .val (.int (6 : Int32)), .unset, .unset] [(.ref a146)])
    refine own_astoreN (pc' := 12) (l' := #[.val (.int p0), .val (.int p1), .val (.int (6 : Int32)), .val (.ref a146), .unset]) X146 hx (hb hby at_11) rfl rfl rfl ?_
    refine own_iloadN (pc' := 13) X146 hx (hb hby at_12) rfl rfl ?_
    refine own_ifNo (pc' := 16) X146 hx (hb hby at_13) rfl (tlt (by decide)).2.2.2 ?_
    refine own_aloadN (pc' := 17) X146 hx (hb hby at_16) rfl rfl rfl ?_
    refine own_iconst (pc' := 18) (z := (0 : Int32)) X146 hx (hb hby at_17) rfl rfl ?_
    refine own_iloadN (pc' := 19) X146 hx (hb hby at_18) rfl rfl ?_
    refine own_iconst (pc' := 20) (z := (1 : Int32)) X146 hx (hb hby at_19) rfl rfl ?_
    refine own_iand (pc' := 21) (z := (p1 &&& (1 : Int32))) X146 hx (hb hby at_20) rfl rfl ?_
    have K149 : ∀ (b148 : Int32) (hb148 : b148 = own_bit p1 1), own_Ends p e below s (own_Q0 Z p0 p1 h0 n0) 16 128 T146 (mkF m 29 #[.val (.int p0), .val (.int p1), .val (.int (6 : Int32)), .val (.ref a146), .unset] [(.int b148), (.int (0 : Int32)), (.ref a146)]) := by
      intro b148 hb148
      refine own_zastore (pc' := 30) X146 hx hZ e146 V146 (hb hby at_29) rfl (by decide) 0 rfl (by simp) N0 ge147 ?_
      intro T150 h150 L150 X150 e150 N150 W150 V150
      rw [show nar .boolean b148 = b148 from own_nbit hb148] at V150
      replace V150 : Arv Z h150 a146 k146 .boolean (6 : Int32) [(.int b148), (.int (0 : Int32)), (.int (0 : Int32)), (.int (0 : Int32)), (.int (0 : Int32)), (.int (0 : Int32))] (.int (0 : Int32)) := V150
      show own_Ends p e below s _ _ _ T150 (mkF m 30 #[.val (.int p0), .val (.int p1), .val (.int (6 : Int32)), .val (.ref a146), .unset] [])
      refine own_iloadN (pc' := 31) X150 hx (hb hby at_30) rfl rfl ?_
      refine own_iconst (pc' := 32) (z := (1 : Int32)) X150 hx (hb hby at_31) rfl rfl ?_
      refine own_icmpNo (pc' := 35) X150 hx (hb hby at_32) rfl (tlt (by decide)).2.2.2 ?_
      refine own_aloadN (pc' := 36) X150 hx (hb hby at_35) rfl rfl rfl ?_
      refine own_iconst (pc' := 37) (z := (1 : Int32)) X150 hx (hb hby at_36) rfl rfl ?_
      refine own_iloadN (pc' := 38) X150 hx (hb hby at_37) rfl rfl ?_
      refine own_iconst (pc' := 39) (z := (2 : Int32)) X150 hx (hb hby at_38) rfl rfl ?_
      refine own_iand (pc' := 40) (z := (p1 &&& (2 : Int32))) X150 hx (hb hby at_39) rfl rfl ?_
      have K152 : ∀ (b151 : Int32) (hb151 : b151 = own_bit p1 2), own_Ends p e below s (own_Q0 Z p0 p1 h0 n0) 16 128 T150 (mkF m 48 #[.val (.int p0), .val (.int p1), .val (.int (6 : Int32)), .val (.ref a146), .unset] [(.int b151), (.int (1 : Int32)), (.ref a146)]) := by
        intro b151 hb151
        refine own_zastore (pc' := 49) X150 hx hZ e150 V150 (hb hby at_48) rfl (by decide) 1 rfl (by simp) N150 ge147 ?_
        intro T153 h153 L153 X153 e153 N153 W153 V153
        rw [show nar .boolean b151 = b151 from own_nbit hb151] at V153
        replace V153 : Arv Z h153 a146 k146 .boolean (6 : Int32) [(.int b148), (.int b151), (.int (0 : Int32)), (.int (0 : Int32)), (.int (0 : Int32)), (.int (0 : Int32))] (.int (0 : Int32)) := V153
        show own_Ends p e below s _ _ _ T153 (mkF m 49 #[.val (.int p0), .val (.int p1), .val (.int (6 : Int32)), .val (.ref a146), .unset] [])
        refine own_iloadN (pc' := 50) X153 hx (hb hby at_49) rfl rfl ?_
        refine own_iconst (pc' := 51) (z := (2 : Int32)) X153 hx (hb hby at_50) rfl rfl ?_
        refine own_icmpNo (pc' := 54) X153 hx (hb hby at_51) rfl (tlt (by decide)).2.2.2 ?_
        refine own_aloadN (pc' := 55) X153 hx (hb hby at_54) rfl rfl rfl ?_
        refine own_iconst (pc' := 56) (z := (2 : Int32)) X153 hx (hb hby at_55) rfl rfl ?_
        refine own_iloadN (pc' := 57) X153 hx (hb hby at_56) rfl rfl ?_
        refine own_iconst (pc' := 58) (z := (4 : Int32)) X153 hx (hb hby at_57) rfl rfl ?_
        refine own_iand (pc' := 59) (z := (p1 &&& (4 : Int32))) X153 hx (hb hby at_58) rfl rfl ?_
        have K155 : ∀ (b154 : Int32) (hb154 : b154 = own_bit p1 4), own_Ends p e below s (own_Q0 Z p0 p1 h0 n0) 16 128 T153 (mkF m 67 #[.val (.int p0), .val (.int p1), .val (.int (6 : Int32)), .val (.ref a146), .unset] [(.int b154), (.int (2 : Int32)), (.ref a146)]) := by
          intro b154 hb154
          refine own_zastore (pc' := 68) X153 hx hZ e153 V153 (hb hby at_67) rfl (by decide) 2 rfl (by simp) N153 ge147 ?_
          intro T156 h156 L156 X156 e156 N156 W156 V156
          rw [show nar .boolean b154 = b154 from own_nbit hb154] at V156
          replace V156 : Arv Z h156 a146 k146 .boolean (6 : Int32) [(.int b148), (.int b151), (.int b154), (.int (0 : Int32)), (.int (0 : Int32)), (.int (0 : Int32))] (.int (0 : Int32)) := V156
          show own_Ends p e below s _ _ _ T156 (mkF m 68 #[.val (.int p0), .val (.int p1), .val (.int (6 : Int32)), .val (.ref a146), .unset] [])
          refine own_iloadN (pc' := 69) X156 hx (hb hby at_68) rfl rfl ?_
          refine own_iconst (pc' := 70) (z := (3 : Int32)) X156 hx (hb hby at_69) rfl rfl ?_
          refine own_icmpNo (pc' := 73) X156 hx (hb hby at_70) rfl (tlt (by decide)).2.2.2 ?_
          refine own_aloadN (pc' := 74) X156 hx (hb hby at_73) rfl rfl rfl ?_
          refine own_iconst (pc' := 75) (z := (3 : Int32)) X156 hx (hb hby at_74) rfl rfl ?_
          refine own_iloadN (pc' := 76) X156 hx (hb hby at_75) rfl rfl ?_
          refine own_bipush (pc' := 78) (z := (8 : Int32)) X156 hx (hb hby at_76) rfl rfl ?_
          refine own_iand (pc' := 79) (z := (p1 &&& (8 : Int32))) X156 hx (hb hby at_78) rfl rfl ?_
          have K158 : ∀ (b157 : Int32) (hb157 : b157 = own_bit p1 8), own_Ends p e below s (own_Q0 Z p0 p1 h0 n0) 16 128 T156 (mkF m 87 #[.val (.int p0), .val (.int p1), .val (.int (6 : Int32)), .val (.ref a146), .unset] [(.int b157), (.int (3 : Int32)), (.ref a146)]) := by
            intro b157 hb157
            refine own_zastore (pc' := 88) X156 hx hZ e156 V156 (hb hby at_87) rfl (by decide) 3 rfl (by simp) N156 ge147 ?_
            intro T159 h159 L159 X159 e159 N159 W159 V159
            rw [show nar .boolean b157 = b157 from own_nbit hb157] at V159
            replace V159 : Arv Z h159 a146 k146 .boolean (6 : Int32) [(.int b148), (.int b151), (.int b154), (.int b157), (.int (0 : Int32)), (.int (0 : Int32))] (.int (0 : Int32)) := V159
            show own_Ends p e below s _ _ _ T159 (mkF m 88 #[.val (.int p0), .val (.int p1), .val (.int (6 : Int32)), .val (.ref a146), .unset] [])
            refine own_iloadN (pc' := 89) X159 hx (hb hby at_88) rfl rfl ?_
            refine own_iconst (pc' := 90) (z := (4 : Int32)) X159 hx (hb hby at_89) rfl rfl ?_
            refine own_icmpNo (pc' := 93) X159 hx (hb hby at_90) rfl (tlt (by decide)).2.2.2 ?_
            refine own_aloadN (pc' := 94) X159 hx (hb hby at_93) rfl rfl rfl ?_
            refine own_iconst (pc' := 95) (z := (4 : Int32)) X159 hx (hb hby at_94) rfl rfl ?_
            refine own_iloadN (pc' := 96) X159 hx (hb hby at_95) rfl rfl ?_
            refine own_bipush (pc' := 98) (z := (16 : Int32)) X159 hx (hb hby at_96) rfl rfl ?_
            refine own_iand (pc' := 99) (z := (p1 &&& (16 : Int32))) X159 hx (hb hby at_98) rfl rfl ?_
            have K161 : ∀ (b160 : Int32) (hb160 : b160 = own_bit p1 16), own_Ends p e below s (own_Q0 Z p0 p1 h0 n0) 16 128 T159 (mkF m 107 #[.val (.int p0), .val (.int p1), .val (.int (6 : Int32)), .val (.ref a146), .unset] [(.int b160), (.int (4 : Int32)), (.ref a146)]) := by
              intro b160 hb160
              refine own_zastore (pc' := 108) X159 hx hZ e159 V159 (hb hby at_107) rfl (by decide) 4 rfl (by simp) N159 ge147 ?_
              intro T162 h162 L162 X162 e162 N162 W162 V162
              rw [show nar .boolean b160 = b160 from own_nbit hb160] at V162
              replace V162 : Arv Z h162 a146 k146 .boolean (6 : Int32) [(.int b148), (.int b151), (.int b154), (.int b157), (.int b160), (.int (0 : Int32))] (.int (0 : Int32)) := V162
              show own_Ends p e below s _ _ _ T162 (mkF m 108 #[.val (.int p0), .val (.int p1), .val (.int (6 : Int32)), .val (.ref a146), .unset] [])
              refine own_iloadN (pc' := 109) X162 hx (hb hby at_108) rfl rfl ?_
              refine own_iconst (pc' := 110) (z := (5 : Int32)) X162 hx (hb hby at_109) rfl rfl ?_
              refine own_icmpNo (pc' := 113) X162 hx (hb hby at_110) rfl (tlt (by decide)).2.2.2 ?_
              refine own_aloadN (pc' := 114) X162 hx (hb hby at_113) rfl rfl rfl ?_
              refine own_iconst (pc' := 115) (z := (5 : Int32)) X162 hx (hb hby at_114) rfl rfl ?_
              refine own_iloadN (pc' := 116) X162 hx (hb hby at_115) rfl rfl ?_
              refine own_bipush (pc' := 118) (z := (32 : Int32)) X162 hx (hb hby at_116) rfl rfl ?_
              refine own_iand (pc' := 119) (z := (p1 &&& (32 : Int32))) X162 hx (hb hby at_118) rfl rfl ?_
              have K164 : ∀ (b163 : Int32) (hb163 : b163 = own_bit p1 32), own_Ends p e below s (own_Q0 Z p0 p1 h0 n0) 16 128 T162 (mkF m 127 #[.val (.int p0), .val (.int p1), .val (.int (6 : Int32)), .val (.ref a146), .unset] [(.int b163), (.int (5 : Int32)), (.ref a146)]) := by
                intro b163 hb163
                refine own_zastore (pc' := 128) X162 hx hZ e162 V162 (hb hby at_127) rfl (by decide) 5 rfl (by simp) N162 ge147 ?_
                intro T165 h165 L165 X165 e165 N165 W165 V165
                rw [show nar .boolean b163 = b163 from own_nbit hb163] at V165
                replace V165 : Arv Z h165 a146 k146 .boolean (6 : Int32) [(.int b148), (.int b151), (.int b154), (.int b157), (.int b160), (.int b163)] (.int (0 : Int32)) := V165
                show own_Ends p e below s _ _ _ T165 (mkF m 128 #[.val (.int p0), .val (.int p1), .val (.int (6 : Int32)), .val (.ref a146), .unset] [])
                refine own_iloadN (pc' := 129) X165 hx (hb hby at_128) rfl rfl ?_
                refine own_iconst (pc' := 130) (z := (1 : Int32)) X165 hx (hb hby at_129) rfl rfl ?_
                refine own_iloadN (pc' := 131) X165 hx (hb hby at_130) rfl rfl ?_
                refine own_ishl (pc' := 132) (z := (64 : Int32)) X165 hx (hb hby at_131) rfl (by decide) ?_
                refine own_iconst (pc' := 133) (z := (1 : Int32)) X165 hx (hb hby at_132) rfl rfl ?_
                refine own_isub (pc' := 134) (z := (63 : Int32)) X165 hx (hb hby at_133) rfl (by decide) ?_
                refine own_iand (pc' := 135) (z := (p1 &&& (63 : Int32))) X165 hx (hb hby at_134) rfl rfl ?_
                have K167 : ∀ (b166 : Int32) (hb166 : b166 = own_bit p1 63), own_Ends p e below s (own_Q0 Z p0 p1 h0 n0) 16 128 T165 (mkF m 143 #[.val (.int p0), .val (.int p1), .val (.int (6 : Int32)), .val (.ref a146), .unset] [(.int b166)]) := by
                  intro b166 hb166
                  refine own_istore (pc' := 145) (l' := #[.val (.int p0), .val (.int p1), .val (.int (6 : Int32)), .val (.ref a146), .val (.int b166)]) X165 hx (hb hby at_143) rfl rfl ?_
                  refine own_aloadN (pc' := 146) X165 hx (hb hby at_145) rfl rfl rfl ?_
                  refine own_callS (pc' := 149) (y := (⟨"com/example/closure_crew/closurecrew/engine/Crew", "anyOf", "([Z)Z"⟩ : MethodName)) (W := 0) (rm := own_room1_6) (argsL := [(.ref a146)]) (rest := []) X165 hx hZ e165 hown (by rw [hml]; rfl) (own_w2 hw) (own_w3 hw) (own_w4 hw) (own_w5 hw) (by decide) (own_rm1_6 l Z a0 hw [] a146 k146 b148 b151 b154 b157 b160 b163 h165 n0 V165) (by decide) (by decide) (by decide) (by decide) (lenOf own_pd0 rfl) rfl (by exact Nat.le_of_eq rfl) (hb hby at_146) rfl ?_
                  intro T168 Lc168 v168 X168 hQ168
                  obtain ⟨rfl, Nq169, eq170⟩ := hQ168
                  have N171 := Fr.app N165 Nq169
                  show own_Ends p e below s _ _ _ T168 (mkF m 149 #[.val (.int p0), .val (.int p1), .val (.int (6 : Int32)), .val (.ref a146), .val (.int b166)] [(.int (own_anyL [b148, b151, b154, b157, b160, b163]))])
                  refine own_iload (pc' := 151) X168 hx (hb hby at_149) rfl rfl ?_
                  refine own_icmpNo (pc' := 154) X168 hx (hb hby at_151) rfl (teq (by rw [hb148, hb151, hb154, hb157, hb160, hb163, hb166]; exact own_any6 p1)).2 ?_
                  refine own_iconst (pc' := 155) (z := (1 : Int32)) X168 hx (hb hby at_154) rfl rfl ?_
                  refine own_goto (pc' := 159) X168 hx (hb hby at_155) (by decide) (by decide) ?_
                  refine own_retN X168 hx hlk hret (by simp) (hb hby at_159) (by decide) (by decide) ?_
                  exact ⟨rfl, N171⟩
                by_cases hc135_172 : (p1 &&& (63 : Int32)) = (0 : Int32)
                · refine own_ifYes (pc' := 142) X165 hx (hb hby at_135) (teq hc135_172).1 (by decide) (by decide) ?_
                  refine own_iconst (pc' := 143) (z := (0 : Int32)) X165 hx (hb hby at_142) rfl rfl ?_
                  exact K167 _ (by first | (simp [own_bit, hc135_172]; done) | (exact absurd (by simp) hc135_172))
                · refine own_ifNo (pc' := 138) X165 hx (hb hby at_135) rfl (feq hc135_172).1 ?_
                  refine own_iconst (pc' := 139) (z := (1 : Int32)) X165 hx (hb hby at_138) rfl rfl ?_
                  refine own_goto (pc' := 143) X165 hx (hb hby at_139) (by decide) (by decide) ?_
                  exact K167 _ (by first | (simp [own_bit, hc135_172]; done) | (exact absurd (by simp) hc135_172))
              by_cases hc119_173 : (p1 &&& (32 : Int32)) = (0 : Int32)
              · refine own_ifYes (pc' := 126) X162 hx (hb hby at_119) (teq hc119_173).1 (by decide) (by decide) ?_
                refine own_iconst (pc' := 127) (z := (0 : Int32)) X162 hx (hb hby at_126) rfl rfl ?_
                exact K164 _ (by first | (simp [own_bit, hc119_173]; done) | (exact absurd (by simp) hc119_173))
              · refine own_ifNo (pc' := 122) X162 hx (hb hby at_119) rfl (feq hc119_173).1 ?_
                refine own_iconst (pc' := 123) (z := (1 : Int32)) X162 hx (hb hby at_122) rfl rfl ?_
                refine own_goto (pc' := 127) X162 hx (hb hby at_123) (by decide) (by decide) ?_
                exact K164 _ (by first | (simp [own_bit, hc119_173]; done) | (exact absurd (by simp) hc119_173))
            by_cases hc99_174 : (p1 &&& (16 : Int32)) = (0 : Int32)
            · refine own_ifYes (pc' := 106) X159 hx (hb hby at_99) (teq hc99_174).1 (by decide) (by decide) ?_
              refine own_iconst (pc' := 107) (z := (0 : Int32)) X159 hx (hb hby at_106) rfl rfl ?_
              exact K161 _ (by first | (simp [own_bit, hc99_174]; done) | (exact absurd (by simp) hc99_174))
            · refine own_ifNo (pc' := 102) X159 hx (hb hby at_99) rfl (feq hc99_174).1 ?_
              refine own_iconst (pc' := 103) (z := (1 : Int32)) X159 hx (hb hby at_102) rfl rfl ?_
              refine own_goto (pc' := 107) X159 hx (hb hby at_103) (by decide) (by decide) ?_
              exact K161 _ (by first | (simp [own_bit, hc99_174]; done) | (exact absurd (by simp) hc99_174))
          by_cases hc79_175 : (p1 &&& (8 : Int32)) = (0 : Int32)
          · refine own_ifYes (pc' := 86) X156 hx (hb hby at_79) (teq hc79_175).1 (by decide) (by decide) ?_
            refine own_iconst (pc' := 87) (z := (0 : Int32)) X156 hx (hb hby at_86) rfl rfl ?_
            exact K158 _ (by first | (simp [own_bit, hc79_175]; done) | (exact absurd (by simp) hc79_175))
          · refine own_ifNo (pc' := 82) X156 hx (hb hby at_79) rfl (feq hc79_175).1 ?_
            refine own_iconst (pc' := 83) (z := (1 : Int32)) X156 hx (hb hby at_82) rfl rfl ?_
            refine own_goto (pc' := 87) X156 hx (hb hby at_83) (by decide) (by decide) ?_
            exact K158 _ (by first | (simp [own_bit, hc79_175]; done) | (exact absurd (by simp) hc79_175))
        by_cases hc59_176 : (p1 &&& (4 : Int32)) = (0 : Int32)
        · refine own_ifYes (pc' := 66) X153 hx (hb hby at_59) (teq hc59_176).1 (by decide) (by decide) ?_
          refine own_iconst (pc' := 67) (z := (0 : Int32)) X153 hx (hb hby at_66) rfl rfl ?_
          exact K155 _ (by first | (simp [own_bit, hc59_176]; done) | (exact absurd (by simp) hc59_176))
        · refine own_ifNo (pc' := 62) X153 hx (hb hby at_59) rfl (feq hc59_176).1 ?_
          refine own_iconst (pc' := 63) (z := (1 : Int32)) X153 hx (hb hby at_62) rfl rfl ?_
          refine own_goto (pc' := 67) X153 hx (hb hby at_63) (by decide) (by decide) ?_
          exact K155 _ (by first | (simp [own_bit, hc59_176]; done) | (exact absurd (by simp) hc59_176))
      by_cases hc40_177 : (p1 &&& (2 : Int32)) = (0 : Int32)
      · refine own_ifYes (pc' := 47) X150 hx (hb hby at_40) (teq hc40_177).1 (by decide) (by decide) ?_
        refine own_iconst (pc' := 48) (z := (0 : Int32)) X150 hx (hb hby at_47) rfl rfl ?_
        exact K152 _ (by first | (simp [own_bit, hc40_177]; done) | (exact absurd (by simp) hc40_177))
      · refine own_ifNo (pc' := 43) X150 hx (hb hby at_40) rfl (feq hc40_177).1 ?_
        refine own_iconst (pc' := 44) (z := (1 : Int32)) X150 hx (hb hby at_43) rfl rfl ?_
        refine own_goto (pc' := 48) X150 hx (hb hby at_44) (by decide) (by decide) ?_
        exact K152 _ (by first | (simp [own_bit, hc40_177]; done) | (exact absurd (by simp) hc40_177))
    by_cases hc21_178 : (p1 &&& (1 : Int32)) = (0 : Int32)
    · refine own_ifYes (pc' := 28) X146 hx (hb hby at_21) (teq hc21_178).1 (by decide) (by decide) ?_
      refine own_iconst (pc' := 29) (z := (0 : Int32)) X146 hx (hb hby at_28) rfl rfl ?_
      exact K149 _ (by first | (simp [own_bit, hc21_178]; done) | (exact absurd (by simp) hc21_178))
    · refine own_ifNo (pc' := 24) X146 hx (hb hby at_21) rfl (feq hc21_178).1 ?_
      refine own_iconst (pc' := 25) (z := (1 : Int32)) X146 hx (hb hby at_24) rfl rfl ?_
      refine own_goto (pc' := 29) X146 hx (hb hby at_25) (by decide) (by decide) ?_
      exact K149 _ (by first | (simp [own_bit, hc21_178]; done) | (exact absurd (by simp) hc21_178))
set_option maxRecDepth 65536 in
set_option maxHeartbeats 40000000 in
theorem own_comes {Post : Tables → Env → Array Value → State → Outcome → State → Prop} (hpost : ∀ tb e args s v u, (limb_1_1.after args s (.returned v) u = true ∧ limb_1_2.after args s (.returned v) u = true ∧ True) → FrameEnd s (.returned v) u (Jvm.fieldLocs frame_1_writes args s ++ Jvm.arrayLocs frame_1_arrays args s ++ Jvm.staticLocs frame_1_statics s) 16 128 → Post tb e args s (.returned v) u) :
    ArmFor flags0 classFile x code maxLocals ret World_1 tables_1 room_1 Calls_1 rest_1 Pre_1 Post := by
  intro l hfl _ _ p e ha hc hk s m args below hf hA hF happ hP
  obtain ⟨hcalls, hrest, hpre⟩ := hP
  obtain ⟨-, -, -, hnamed, -, -, -, hat⟩ := (Spec.applies_iff hf).mp happ
  obtain ⟨hg, hn⟩ := and_e (Cond.before_iff.mp (show (Jvm.Cond.and given_1 narrow_1).before args s = true from hpre))
  obtain ⟨g1, g2⟩ := and_e hg
  obtain ⟨g3, g4⟩ := and_e g2
  obtain ⟨w0, w1, rfl⟩ : ∃ w0 w1 : Value, args = #[w0, w1] := by
    have hs : args.size = 2 := by simpa [Cond.value, given_1] using g1
    obtain ⟨L⟩ := args
    match L, hs with
    | [w0, w1], _ => exact ⟨w0, w1, rfl⟩
  have hw := fun d (hd : d ∈ tables_1) => atoms_spec (ws := Jvm.Cond.code x code maxLocals ret :: tables_1) hat d (List.mem_cons_of_mem _ hd)
  have hfit : Fit s := fun {y c} hc i hi => by
    obtain ⟨ha, rfl⟩ := Array.getElem?_eq_some_iff.mp hc
    have q := List.all_eq_true.mp ((Array.all_eq_true_iff_forall_mem.mp hF) _ (Array.getElem_mem ha)) i (List.mem_range.mpr hi)
    simpa [Array.getElem?_eq_getElem hi] using q
  obtain ⟨i0, ei0⟩ := is_v g3
  obtain rfl : w0 = (.int i0) := Option.some.inj ei0
  obtain ⟨i1, ei1⟩ := is_v g4
  obtain rfl : w1 = (.int i1) := Option.some.inj ei1
  obtain ⟨n, o, h1, h2, h3, _, L, rfl, ⟨rfl, N⟩, hq⟩ := own_rm0 l s _ hw tables_1 i0 i1 s.heap s.heap.size (Nat.le_refl _) p e ha hc hk s m _ below hf ((Spec.applies_iff_loose hf).mp happ).1 ⟨rfl, State.Warmed39.refl s, rfl⟩ trivial
  refine ⟨n, _, h1, h2, h3, hpost _ _ _ _ _ _ ⟨Cond.after_iff.mpr rfl, Cond.after_iff.mpr (eq_i res_at (Term.int_eval (1)) rfl), trivial⟩ ⟨hq.1, hq.2.1, (hq.2.2.sift fun y hy => Or.inr (N y hy)).mono (by decide) (by decide)⟩⟩
theorem main_1_1 : Claimed_1_1 := own_comes fun _ _ _ _ _ _ h hF => ⟨h.1, hF⟩
theorem main_1_2 : Claimed_1_2 := own_comes fun _ _ _ _ _ _ h hF => ⟨h.2.1, hF⟩
end Jvm.Pilot.@@N@@
namespace Jvm.Pilot.@@N@@
open Jvm Jvm.ClassFile Sem Op Lib Jvm.Free Jvm.Stand Jvm.Pilot.@@N@@.Jvm.D
/-! MADE BY PROGRAM (witnessworld.py) out of the Statement's table words and the real class files: 12 classes; the members and pool entries that the words name. The judged class is class 1, her method 1. -/
namespace start1
open Jvm.ClassFile
def u (s : String) : CpInfo := .utf8 (stringToUtf16 s)
/-- a pool by its gaps: so many unusable entries, then the entry; so many at the end -/
def gap : Nat → List CpInfo → List CpInfo
  | 0, r => r
  | n + 1, r => .unusable :: gap n r
def poolList (es : List (Nat × CpInfo)) (last : Nat) : List CpInfo := es.foldr (fun e r => gap e.1 (e.2 :: r)) (gap last [])
def pool (es : List (Nat × CpInfo)) (last : Nat) : Array CpInfo := ⟨poolList es last⟩
def fileOf (pool : Array CpInfo) (this : Nat) (attrs : Array Attribute := #[]) (ms : Array MethodInfo := #[]) (fl : Nat := 33) (sup : Nat := 0) (ifs : Array Nat := #[]) (fds : Array FieldInfo := #[]) : ClassFile where
  minorVersion := 0
  majorVersion := 65
  constantPool := pool
  accessFlags := fl
  thisClass := this
  superClass := sup
  interfaces := ifs
  fields := fds
  methods := ms
  attributes := attrs
def plain (name : String) (sup : Option ClassId) : Class where
  name := name
  kind := .ordinary
  loader := none
  accessFlags := 33
  super := sup
  interfaces := #[]
  cf := none
  fields := #[]
  methods := #[]
  instanceTypes := #[]
  staticTypes := #[]
  resolved := #[]
  callSites := []
  init := .initialized
  statics := none
  mirror := none

def pool0 : Array CpInfo := pool [(5, u "<init>"), (0, u "()V"), (1, .class_ 10), (1, u "java/lang/Object")] 113

def k0m0 : Method := { name := "<init>", desc := "()V", sig := { parameters := [], returnType := none }, accessFlags := 1, code := none }
/-- java/lang/Object -/
def k0 : Class := { plain "java/lang/Object" none with
  accessFlags := 33
  interfaces := #[]
  cf := some (fileOf pool0 8 #[] #[{ accessFlags := 1, nameIndex := 5, descriptorIndex := 6, attributes := #[] }] 33 0 #[] #[])
  fields := #[]
  methods := #[k0m0]
  instanceTypes := #[]
  staticTypes := #[]
  resolved := Array.replicate 124 none
  statics := none }

def pool1 : Array CpInfo := pool [(2, .class_ 4), (1, u "java/lang/Object"), (0, u "<init>"), (0, u "()V"), (0, .integer 2147483647), (0, .methodref 9 10), (0, .class_ 11), (0, .nameAndType 12 13), (0, u "com/example/closure_crew/closurecrew/engine/Crew"), (0, u "anyOf"), (0, u "([Z)Z"), (0, .class_ 15), (0, u "com/example/closure_crew/closurecrew/engine/CrewAnyOfPinLaw"), (2, u "law"), (0, u "(II)Z")] 5

def k1m0 : Method := { name := "<init>", desc := "()V", sig := { parameters := [], returnType := none }, accessFlags := 2, code := none }
def k1c1 : Code := { maxStack := 4, maxLocals := 5, code := code, exceptionTable := #[], attributes := #[] }
def k1m1 : Method := { name := "law", desc := "(II)Z", sig := { parameters := [.int, .int], returnType := some .boolean }, accessFlags := 9, code := some k1c1 }
/-- com/example/closure_crew/closurecrew/engine/CrewAnyOfPinLaw -/
def k1 : Class := { plain "com/example/closure_crew/closurecrew/engine/CrewAnyOfPinLaw" (some 0) with
  accessFlags := 49
  interfaces := #[]
  cf := some (fileOf pool1 14 #[] #[{ accessFlags := 2, nameIndex := 5, descriptorIndex := 6, attributes := #[] }, { accessFlags := 9, nameIndex := 18, descriptorIndex := 19, attributes := #[] }] 49 2 #[] #[])
  fields := #[]
  methods := #[k1m0, k1m1]
  instanceTypes := #[]
  staticTypes := #[]
  resolved := Array.replicate 25 none
  statics := none }

def pool2 : Array CpInfo := pool [(1, .class_ 2), (0, u "java/lang/AutoCloseable"), (0, .class_ 4), (0, u "java/lang/Object")] 7

/-- java/lang/AutoCloseable -/
def k2 : Class := { plain "java/lang/AutoCloseable" (some 0) with
  accessFlags := 1537
  interfaces := #[]
  cf := some (fileOf pool2 1 #[] #[] 1537 3 #[] #[])
  fields := #[]
  methods := #[]
  instanceTypes := #[]
  staticTypes := #[]
  resolved := Array.replicate 12 none
  statics := none }

def pool3 : Array CpInfo := pool [(2, .class_ 4), (1, u "java/lang/Object"), (9, .class_ 16), (1, u "com/example/closure_crew/closurecrew/engine/Crew"), (0, u "workers"), (0, u "Ljava/util/List;"), (2, u "sending"), (0, u "Z"), (6, u "pool"), (0, u "Ljava/util/concurrent/ExecutorService;"), (136, u "anyOf"), (0, u "([Z)Z"), (120, .class_ 290), (0, u "java/lang/AutoCloseable")] 89

def k3c0 : Code := { maxStack := 2, maxLocals := 5, code := prog_17_method_7_code, exceptionTable := #[], attributes := #[] }
def k3m0 : Method := { name := "anyOf", desc := "([Z)Z", sig := { parameters := [(.array .boolean)], returnType := some .boolean }, accessFlags := 8, code := some k3c0 }
/-- com/example/closure_crew/closurecrew/engine/Crew -/
def k3 : Class := { plain "com/example/closure_crew/closurecrew/engine/Crew" (some 0) with
  accessFlags := 48
  interfaces := #[2]
  cf := some (fileOf pool3 14 #[] #[{ accessFlags := 8, nameIndex := 167, descriptorIndex := 168, attributes := #[] }] 48 2 #[289] #[{ accessFlags := 18, nameIndex := 17, descriptorIndex := 18, attributes := #[] }, { accessFlags := 18, nameIndex := 21, descriptorIndex := 22, attributes := #[] }, { accessFlags := 18, nameIndex := 29, descriptorIndex := 30, attributes := #[] }])
  fields := #[{ name := "workers", type := (.object "java/util/List"), accessFlags := 18, slot := 0, constantValue := 0 }, { name := "sending", type := .boolean, accessFlags := 18, slot := 1, constantValue := 0 }, { name := "pool", type := (.object "java/util/concurrent/ExecutorService"), accessFlags := 18, slot := 2, constantValue := 0 }]
  methods := #[k3m0]
  instanceTypes := #[(.object "java/util/List"), .boolean, (.object "java/util/concurrent/ExecutorService")]
  staticTypes := #[]
  resolved := Array.replicate 380 none
  statics := none }

def pool4 : Array CpInfo := pool [(1, u "java/lang/Cloneable"), (0, .class_ 1), (0, u "java/lang/Object"), (0, .class_ 3)] 3

/-- java/lang/Cloneable -/
def k4 : Class := { plain "java/lang/Cloneable" (some 0) with
  accessFlags := 1537
  interfaces := #[]
  cf := some (fileOf pool4 2 #[] #[] 1537 4 #[] #[])
  fields := #[]
  methods := #[]
  instanceTypes := #[]
  staticTypes := #[]
  resolved := Array.replicate 8 none
  statics := none }

def pool5 : Array CpInfo := pool [(1, u "java/io/Serializable"), (0, .class_ 1), (0, u "java/lang/Object"), (0, .class_ 3)] 3

/-- java/io/Serializable -/
def k5 : Class := { plain "java/io/Serializable" (some 0) with
  accessFlags := 1537
  interfaces := #[]
  cf := some (fileOf pool5 2 #[] #[] 1537 4 #[] #[])
  fields := #[]
  methods := #[]
  instanceTypes := #[]
  staticTypes := #[]
  resolved := Array.replicate 8 none
  statics := none }

/-- the primitive boolean -/
def k6 : Class := { plain "boolean" none with kind := .primitive 'Z', accessFlags := 0x411 }
/-- [Z -/
def k7 : Class := { plain "[Z" (some 0) with kind := .array 6 .boolean, interfaces := #[4, 5], accessFlags := 1041 }

/-- the primitive byte -/
def k8 : Class := { plain "byte" none with kind := .primitive 'B', accessFlags := 0x411 }
/-- [B -/
def k9 : Class := { plain "[B" (some 0) with kind := .array 8 .byte, interfaces := #[4, 5], accessFlags := 1041 }

/-- the primitive int -/
def k10 : Class := { plain "int" none with kind := .primitive 'I', accessFlags := 0x411 }
/-- [I -/
def k11 : Class := { plain "[I" (some 0) with kind := .array 10 .int, interfaces := #[4, 5], accessFlags := 1041 }

def heap : Heap := #[]
def classes : Array Class := #[k0, k1, k2, k3, k4, k5, k6, k7, k8, k9, k10, k11]
def interned : List (Array UInt16 × Addr) := []
def slotsUsed : Nat := 0
def theMethod : MethodId := ⟨1, 1⟩
def args0 : Array Value := #[.int 5, .int 5]
def aboutOver (below : List Frame) : State where
  vm := { classes := classes, interned := interned.toArray }
  heap := heap
  slotsUsed := slotsUsed
  threads := #[{ frames := .invoking theMethod args0 :: below }]
def below0 : List Frame := [.native { method := ⟨0, 0⟩, args := #[] }]
def about1 : State := aboutOver below0
def p0 : Program := .bare "" "" ""
def e0 : Env := launch0.env 0 0 0
theorem w_frames : about1.frames = Frame.invoking theMethod args0 :: below0 := rfl
set_option maxRecDepth 65536 in
theorem w_args : argsFit about1.vm theMethod args0 = true := by decide +kernel
set_option maxRecDepth 65536 in
theorem w_heap : heapFits about1 = true := by decide +kernel
set_option maxRecDepth 65536 in
theorem w_runnable : about1.curStatus? = some .runnable := by decide +kernel
set_option maxRecDepth 65536 in
theorem w_alone : about1.alone = true := by decide +kernel
set_option maxRecDepth 65536 in
theorem w_named : about1.methodNamed? x = some theMethod := by decide +kernel
set_option maxRecDepth 65536 in
theorem w_hears : about1.hears theMethod below0 = true := by decide +kernel
set_option maxRecDepth 65536 in
theorem w_ripe : about1.ripe theMethod args0 below0 = true := by decide +kernel
theorem w_running : about1.status = .running := rfl
set_option maxRecDepth 65536 in
theorem w_room : about1.hasRoom e0.platform room_1 = true :=
  launch0.hasRoom_least _ room_1 (by decide +kernel) (by decide +kernel) (by decide +kernel) (by decide +kernel) (by decide +kernel) (by decide +kernel)
theorem allAtoms_all (ts : List Jvm.Cond) (a : Array Jvm.Value) (st : Jvm.State) : (allAtoms ts).before a st = ts.all (fun c => c.before a st) := by
  induction ts with
  | nil => rfl
  | cons c t ih =>
    show (Jvm.Cond.and c (allAtoms t)).before a st = _
    rw [Jvm.Cond.before_and, ih, List.all_cons]
def words1 : List Jvm.Cond := Jvm.Cond.code x code maxLocals ret :: tables_1
/-- a 'code' word, met by the world's own term for the bytes: nothing is compared byte by byte -/
theorem code_word {y : MethodName} {bytes : ByteArray} {mx : Nat} {rt : Option FieldType} {a : Array Value} {s : State} {m : MethodId} {meth : Method} {c : Code} (h1 : s.methodNamed? y = some m) (h2 : s.vm.method? m = some meth) (h3 : meth.code = some c) (h4 : c.code = bytes)
    (h5 : (c.maxLocals == mx && c.exceptionTable.isEmpty && decide (c.maxStack ≤ mostOperands) && decide (meth.sig.returnType = rt) && !meth.locks && decide (parseMethodDescriptor y.desc = some meth.sig)) = true) : (Jvm.Cond.code y bytes mx rt).before a s = true := by
  simp only [Bool.and_eq_true, beq_iff_eq, Bool.not_eq_true', decide_eq_true_eq] at h5
  obtain ⟨⟨⟨⟨⟨g1, g2⟩, g3⟩, g4⟩, g5⟩, g6⟩ := h5
  simp [Cond.before, Cond.holds, Cond.value, h1, h2, h3, h4, g1, g2, g3, g4, g5, g6]
def isCode : Jvm.Cond → Bool
  | .code _ _ _ _ => true
  | _ => false
theorem all_split {L : List Jvm.Cond} {P : Jvm.Cond → Bool} (h1 : L.all (fun c => isCode c || P c) = true) (h2 : ∀ c ∈ L.filter isCode, P c = true) : L.all P = true := by
  refine List.all_eq_true.mpr fun c hc => ?_
  have h := List.all_eq_true.mp h1 c hc
  rcases Bool.eq_false_or_eq_true (isCode c) with hi | hi
  · exact h2 c (List.mem_filter.mpr ⟨hc, hi⟩)
  · simpa [hi] using h
set_option maxRecDepth 65536 in
theorem w_c0 : (Jvm.Cond.code x code maxLocals ret).before args0 about1 = true := code_word (m := ⟨1, 1⟩) (meth := k1m1) (c := k1c1) (by decide +kernel) rfl rfl rfl (by decide +kernel)
set_option maxRecDepth 65536 in
theorem w_c1 : (Jvm.Cond.code ({ cls := "com/example/closure_crew/closurecrew/engine/Crew", name := "anyOf", desc := "([Z)Z" } : Jvm.MethodName) prog_17_method_7_code (5 : Nat) (Option.some Jvm.ClassFile.FieldType.boolean)).before args0 about1 = true := code_word (m := ⟨3, 0⟩) (meth := k3m0) (c := k3c0) (by decide +kernel) rfl rfl rfl (by decide +kernel)
def codes1 : List Jvm.Cond := [Jvm.Cond.code x code maxLocals ret, Jvm.Cond.code ({ cls := "com/example/closure_crew/closurecrew/engine/Crew", name := "anyOf", desc := "([Z)Z" } : Jvm.MethodName) prog_17_method_7_code (5 : Nat) (Option.some Jvm.ClassFile.FieldType.boolean)]
set_option maxRecDepth 65536 in
theorem codes_eq : words1.filter isCode = codes1 := rfl
theorem w_codes : ∀ c ∈ words1.filter isCode, c.before args0 about1 = true := by
  rw [codes_eq]
  intro c hc
  simp only [codes1, List.mem_cons, List.not_mem_nil, or_false] at hc
  rcases hc with rfl | rfl
  · exact w_c0
  · exact w_c1
set_option maxRecDepth 65536 in
theorem w_t1 : words1.all (fun c => isCode c || c.before args0 about1) = true := by decide +kernel
theorem w_tables : (allAtoms (Jvm.Cond.code x code maxLocals ret :: tables_1)).before args0 about1 = true := by
  rw [allAtoms_all]
  show words1.all (fun c => c.before args0 about1) = true
  refine all_split ?_ w_codes
  rw [w_t1]
set_option maxRecDepth 65536 in
theorem w_case : (Jvm.Cond.and given_1 narrow_1).before args0 about1 = true := by decide +kernel
theorem w_applies : (headSpec (Jvm.Cond.code x code maxLocals ret :: tables_1) room_1).applies x e0.platform about1 = true :=
  (Spec.applies_iff w_frames).mpr ⟨w_running, w_runnable, w_alone, w_named, w_hears, w_ripe, w_room, w_tables⟩
theorem atStart : AtStart classFile x code maxLocals ret World_1 tables_1 room_1 Calls_1 rest_1 Pre_1 launch0 p0 e0 about1 theMethod args0 below0 :=
  ⟨lists_1, trivial, launch0.admits_env _ _ _, launch0.least_env, fairChoices_fair.cas, fairChoices_fair.clock, w_frames, w_args, w_heap, w_applies, trivial, trivial, w_case⟩
end start1
theorem witness_1 : WitnessClaimed_1 := ⟨start1.p0, start1.e0, start1.about1, start1.theMethod, start1.args0, start1.below0, start1.atStart⟩
end Jvm.Pilot.@@N@@
