import JvmDerived
import JvmDerived.Pilot.@@N@@Statement
import JvmDerived.Pilot.@@N@@Code
set_option linter.unusedVariables false
set_option linter.unusedSimpArgs false
namespace Jvm.RoadKit
open Sem ClassFile Op Lib Jvm.Stand Jvm.Free Jvm.LawKit
section New
variable {p : Program} {l : Launch} {e : Env} {R : Room} {s : State} {m : MethodId} {args : Array Value} {below : List Frame} {meth : Method} {c : Code} {T : State} {locs : List Loc} {cells slots : Nat}
theorem retI (X : Stand p l e R s m args below meth c T locs cells slots) (hx : p.tables.exec = Jvm.exec) {pc : Nat} {Ls : Array Slot} {z : Int32} {rest : List Value} (hret : meth.sig.returnType = some .int) (hd : decode c.code pc = .ok (.ireturn, 1)) {fs : List Frame}
    (hl : ∀ (f : JFrame) (acts : List Action), f.method = m → f.locked = none → f.entered = [] → (doReturn e (T.setTop f) acts (some (.int z))).1 = T.setFrames fs) : Steps p.tables e below (T.setTop (mkF m pc Ls (.int z :: rest))) (T.setFrames fs) := by
  have hm' : T.vm.method? m = some meth := X.method'
  have hn : narrow .int (.int z) = .int z := rfl
  show Steps p.tables e below (T.setTop { method := m, pc := pc, locals := Ls, stack := _ :: rest, locked := none }) _
  jvm_step X.here [X.here.top, hx, hd, hm', hret, hn]
  first | (intro acts; rw [hl _ acts rfl rfl rfl]) | rw [hl _ _ rfl rfl rfl]
  exact Steps.refl _
end New
end Jvm.RoadKit
namespace Jvm.Pilot.@@N@@
open Jvm Jvm.ClassFile Sem Op Lib Jvm.Free Jvm.Stand Jvm.LawKit Jvm.RoadKit Bundle Jvm.Pilot.@@N@@.Jvm.D
/-! OWN KIT: a walk told forwards. `WGo T f`: from the frame f over the state T the body runs to its return, and what it returns meets Q. -/
section OwnKit
variable {p : Program} {l : Launch} {e : Env} {R : Room} {s : State} {m : MethodId} {args : Array Value} {below : List Frame} {meth : Method} {c : Code} {T : State} {locs : List Loc} {cells slots : Nat} {Z : State} {a0 : Array Value} {h : Heap} {kc ks : Nat} {Q : Option Value → Heap → List Loc → Prop} {pc pc' : Nat} {Ls Ls' : Array Slot} {st : List Value} {x y : Int32} {u w : Int64}
def WGo (p : Program) (e : Env) (below : List Frame) (s : State) (kc ks : Nat) (Q : Option Value → Heap → List Loc → Prop) (T : State) (f : JFrame) : Prop :=
  ∃ s₂ o, Steps p.tables e below (T.setTop f) s₂ ∧ s₂.status = .running ∧ Ended s₂ below o ∧ ∃ v L, o = .returned v ∧ Q v s₂.heap L ∧ FrameEnd s o s₂ L kc ks
theorem WGo.go {T' : State} {f f' : JFrame} (k : ∀ t, Steps p.tables e below (T'.setTop f') t → Steps p.tables e below (T.setTop f) t) (r : WGo p e below s kc ks Q T' f') : WGo p e below s kc ks Q T f := by
  obtain ⟨s₂, o, h1, r⟩ := r
  exact ⟨s₂, o, k _ h1, r⟩
theorem WGo.cast {f f' : JFrame} (q : f = f') (r : WGo p e below s kc ks Q T f') : WGo p e below s kc ks Q T f := q ▸ r
theorem WGo.mono {f : JFrame} {Q' : Option Value → Heap → List Loc → Prop} (r : WGo p e below s kc ks Q' T f) (q : ∀ v h L, Q' v h L → Q v h L) : WGo p e below s kc ks Q T f := by
  obtain ⟨s₂, o, h1, h2, h3, v, L, h4, h5, h6⟩ := r
  exact ⟨s₂, o, h1, h2, h3, v, L, h4, q _ _ _ h5, h6⟩
/-- a body's contract -/
def WCt (l : Launch) (Z : State) (y : MethodName) (bytes : ByteArray) (maxL : Nat) (ret : Option FieldType) (rm : Room) (as' : Array Value) (h0 : Heap) (Q : Option Value → Heap → List Loc → Prop) : Prop :=
  ∀ ws : List Jvm.Cond, MetFree l y (head1 (Jvm.Cond.code y bytes maxL ret :: ws) rm) (fun a U => a = as' ∧ Z.Warmed39 U.vm ∧ U.heap = h0) (fun _ _ _ _ _ => True) (fun _ U o U' => ∃ v L, o = .returned v ∧ Q v U'.heap L ∧ FrameEnd U o U' L rm.cells rm.slots)
theorem WCt.of {y : MethodName} {bytes : ByteArray} {maxL : Nat} {ret : Option FieldType} {rm : Room} {as' : Array Value} {h0 : Heap} (hpl : plainFor y = true)
    (body : ∀ (p : Program) (e : Env) (s : State) (m : MethodId) (below : List Frame) (meth : Method) (c : Code) (T : State), p.tables.exec = Jvm.exec → c.code = bytes → c.maxLocals = maxL → s.vm.findClass y.cls = some m.cls → meth.name = y.name → meth.sig.returnType = ret → meth.locks = false → Z.Warmed39 s.vm → s.heap = h0 →
      Stand p l e rm s m as' below meth c T [] 0 0 → T.heap = h0 → WGo p e below s rm.cells rm.slots Q T (entryFrame m as' maxL)) : WCt l Z y bytes maxL ret rm as' h0 Q := by
  intro ws
  refine MetFree.of_bodySF hpl hisR ?_
  intro p e s m args below meth c s₁ Bd hml0 hP hK
  obtain ⟨rfl, hZ, hh⟩ := hP
  have X0 : Stand p l e rm s m _ below meth c s₁ [] 0 0 := Stand.of_body Bd
  exact body p e s m below meth c s₁ Bd.exec Bd.bytes hml0 (findClass_of_methodNamed Bd.named) (name_of_methodNamed Bd.named Bd.method).1 Bd.returns (BodyLoose.notSynchronized Bd) hZ hh X0 (by rw [← hh, Bd.state]; rfl)
/-! returns -/
theorem g_ret0 (X : Stand p l e R s m args below meth c T locs cells slots) (hx : p.tables.exec = Jvm.exec) (hret : meth.sig.returnType = none) (hlk : meth.locks = false) (hd : decode c.code pc = .ok (.return_, 1)) (hc : cells ≤ kc) (hs : slots ≤ ks) (q : Q none T.heap locs) : WGo p e below s kc ks Q T (mkF m pc Ls []) := by
  obtain ⟨fs, hr, hrun, hended, hW, hsame⟩ := X.leave (v := none) (fun _ => rfl) hlk
  exact ⟨_, _, X.returnOut hx hret hd hr, hrun, hended, _, _, rfl, q, ⟨_, rfl⟩, hW, hsame.mono hc hs⟩
theorem g_retI (X : Stand p l e R s m args below meth c T locs cells slots) (hx : p.tables.exec = Jvm.exec) (hret : meth.sig.returnType = some .int) (hlk : meth.locks = false) (hd : decode c.code pc = .ok (.ireturn, 1)) (hc : cells ≤ kc) (hs : slots ≤ ks) (q : Q (some (.int x)) T.heap locs) : WGo p e below s kc ks Q T (mkF m pc Ls (.int x :: st)) := by
  obtain ⟨fs, hr, hrun, hended, hW, hsame⟩ := X.leave (v := some (.int x)) (fun h => by rw [hret] at h; cases h) hlk
  exact ⟨_, _, retI X hx hret hd hr, hrun, hended, _, _, rfl, q, ⟨_, rfl⟩, hW, hsame.mono hc hs⟩
theorem g_retN {t : FieldType} (X : Stand p l e R s m args below meth c T locs cells slots) (hx : p.tables.exec = Jvm.exec) (hret : meth.sig.returnType = some t) (ht : t = .boolean ∨ t = .byte ∨ t = .char ∨ t = .short) (hlk : meth.locks = false) (hd : decode c.code pc = .ok (.ireturn, 1)) (hc : cells ≤ kc) (hs : slots ≤ ks) (q : Q (some (.int (nar t x))) T.heap locs) : WGo p e below s kc ks Q T (mkF m pc Ls (.int x :: st)) := by
  obtain ⟨fs, hr, hrun, hended, hW, hsame⟩ := X.leave (v := some (.int (nar t x))) (fun h => by rw [hret] at h; cases h) hlk
  exact ⟨_, _, retN X hx hret ht hd hr, hrun, hended, _, _, rfl, q, ⟨_, rfl⟩, hW, hsame.mono hc hs⟩
theorem g_retJ (X : Stand p l e R s m args below meth c T locs cells slots) (hx : p.tables.exec = Jvm.exec) (hret : meth.sig.returnType = some .long) (hlk : meth.locks = false) (hd : decode c.code pc = .ok (.lreturn, 1)) (hc : cells ≤ kc) (hs : slots ≤ ks) (q : Q (some (.long u)) T.heap locs) : WGo p e below s kc ks Q T (mkF m pc Ls [.long u]) := by
  obtain ⟨fs, hr, hrun, hended, hW, hsame⟩ := X.leave (v := some (.long u)) (fun h => by rw [hret] at h; cases h) hlk
  exact ⟨_, _, X.lreturnOut hx hret hd hr, hrun, hended, _, _, rfl, q, ⟨_, rfl⟩, hW, hsame.mono hc hs⟩
theorem g_retA {t : FieldType} {v : Value} (X : Stand p l e R s m args below meth c T locs cells slots) (hx : p.tables.exec = Jvm.exec) (hv : v.isRef = true) (hret : meth.sig.returnType = some t) (ht : t.isReference = true) (hlk : meth.locks = false) (hd : decode c.code pc = .ok (.areturn, 1)) (hc : cells ≤ kc) (hs : slots ≤ ks) (q : Q (some v) T.heap locs) : WGo p e below s kc ks Q T (mkF m pc Ls [v]) := by
  obtain ⟨fs, hr, hrun, hended, hW, hsame⟩ := X.leave (v := some v) (fun h => by rw [hret] at h; cases h) hlk
  exact ⟨_, _, X.areturnOut hx hv hret ht hd hr, hrun, hended, _, _, rfl, q, ⟨_, rfl⟩, hW, hsame.mono hc hs⟩
/-! loads and stores of locals -/
theorem g_iloadN (X : Stand p l e R s m args below meth c T locs cells slots) (hx : p.tables.exec = Jvm.exec) {k : Fin 4} (hd : decode c.code pc = .ok (.iload_n k, 1)) (hl : Ls[k.val]? = some (.val (.int x))) (hp : pc + 1 = pc') (r : WGo p e below s kc ks Q T (mkF m pc' Ls (.int x :: st))) : WGo p e below s kc ks Q T (mkF m pc Ls st) := by
  subst hp; exact r.go fun t k => XS.iloadN X.here hx rfl hd hl k
theorem g_iload (X : Stand p l e R s m args below meth c T locs cells slots) (hx : p.tables.exec = Jvm.exec) {k : Nat} (hd : decode c.code pc = .ok (.iload k, 2)) (hl : Ls[k]? = some (.val (.int x))) (hp : pc + 2 = pc') (r : WGo p e below s kc ks Q T (mkF m pc' Ls (.int x :: st))) : WGo p e below s kc ks Q T (mkF m pc Ls st) := by
  subst hp; exact r.go fun t k => XS.iload X.here hx rfl hd hl k
theorem g_lloadN (X : Stand p l e R s m args below meth c T locs cells slots) (hx : p.tables.exec = Jvm.exec) {k : Fin 4} (hd : decode c.code pc = .ok (.lload_n k, 1)) (hl : Ls[k.val]? = some (.val (.long u))) (hp : pc + 1 = pc') (r : WGo p e below s kc ks Q T (mkF m pc' Ls (.long u :: st))) : WGo p e below s kc ks Q T (mkF m pc Ls st) := by
  subst hp; exact r.go fun t k => XT.lloadN X.here hx rfl hd hl k
theorem g_lload (X : Stand p l e R s m args below meth c T locs cells slots) (hx : p.tables.exec = Jvm.exec) {k : Nat} (hd : decode c.code pc = .ok (.lload k, 2)) (hl : Ls[k]? = some (.val (.long u))) (hp : pc + 2 = pc') (r : WGo p e below s kc ks Q T (mkF m pc' Ls (.long u :: st))) : WGo p e below s kc ks Q T (mkF m pc Ls st) := by
  subst hp; exact r.go fun t k => XT.lload X.here hx rfl hd hl k
theorem g_aloadN {v : Value} (X : Stand p l e R s m args below meth c T locs cells slots) (hx : p.tables.exec = Jvm.exec) {k : Fin 4} (hd : decode c.code pc = .ok (.aload_n k, 1)) (hl : Ls[k.val]? = some (.val v)) (hv : v.isRef = true) (hp : pc + 1 = pc') (r : WGo p e below s kc ks Q T (mkF m pc' Ls (v :: st))) : WGo p e below s kc ks Q T (mkF m pc Ls st) := by
  subst hp; exact r.go fun t k => XS.aloadN X.here hx rfl hd hl hv k
theorem g_aload {v : Value} (X : Stand p l e R s m args below meth c T locs cells slots) (hx : p.tables.exec = Jvm.exec) {k : Nat} (hd : decode c.code pc = .ok (.aload k, 2)) (hl : Ls[k]? = some (.val v)) (hv : v.isRef = true) (hp : pc + 2 = pc') (r : WGo p e below s kc ks Q T (mkF m pc' Ls (v :: st))) : WGo p e below s kc ks Q T (mkF m pc Ls st) := by
  subst hp; exact r.go fun t k => XS.aload X.here hx rfl hd hl hv k
theorem g_istoreN (X : Stand p l e R s m args below meth c T locs cells slots) (hx : p.tables.exec = Jvm.exec) {k : Fin 4} (hd : decode c.code pc = .ok (.istore_n k, 1)) (hl : storeLocals Ls k.val (.int x) = some Ls') (hp : pc + 1 = pc') (r : WGo p e below s kc ks Q T (mkF m pc' Ls' st)) : WGo p e below s kc ks Q T (mkF m pc Ls (.int x :: st)) := by
  subst hp; exact r.go fun t k => XS.istoreN X.here hx rfl hd rfl hl k
theorem g_istore (X : Stand p l e R s m args below meth c T locs cells slots) (hx : p.tables.exec = Jvm.exec) {k : Nat} (hd : decode c.code pc = .ok (.istore k, 2)) (hl : storeLocals Ls k (.int x) = some Ls') (hp : pc + 2 = pc') (r : WGo p e below s kc ks Q T (mkF m pc' Ls' st)) : WGo p e below s kc ks Q T (mkF m pc Ls (.int x :: st)) := by
  subst hp; exact r.go fun t k => XS.istore X.here hx rfl hd rfl hl k
theorem g_lstoreN (X : Stand p l e R s m args below meth c T locs cells slots) (hx : p.tables.exec = Jvm.exec) {k : Fin 4} (hd : decode c.code pc = .ok (.lstore_n k, 1)) (hl : storeLocals Ls k.val (.long u) = some Ls') (hp : pc + 1 = pc') (r : WGo p e below s kc ks Q T (mkF m pc' Ls' st)) : WGo p e below s kc ks Q T (mkF m pc Ls (.long u :: st)) := by
  subst hp; exact r.go fun t k => XT.lstoreN X.here hx rfl hd rfl hl k
theorem g_lstore (X : Stand p l e R s m args below meth c T locs cells slots) (hx : p.tables.exec = Jvm.exec) {k : Nat} (hd : decode c.code pc = .ok (.lstore k, 2)) (hl : storeLocals Ls k (.long u) = some Ls') (hp : pc + 2 = pc') (r : WGo p e below s kc ks Q T (mkF m pc' Ls' st)) : WGo p e below s kc ks Q T (mkF m pc Ls (.long u :: st)) := by
  subst hp; exact r.go fun t k => XT.lstore X.here hx rfl hd rfl hl k
theorem g_astoreN {v : Value} (X : Stand p l e R s m args below meth c T locs cells slots) (hx : p.tables.exec = Jvm.exec) {k : Fin 4} (hd : decode c.code pc = .ok (.astore_n k, 1)) (hv : v.isRef = true) (hl : storeLocals Ls k.val v = some Ls') (hp : pc + 1 = pc') (r : WGo p e below s kc ks Q T (mkF m pc' Ls' st)) : WGo p e below s kc ks Q T (mkF m pc Ls (v :: st)) := by
  subst hp; exact r.go fun t k => XS.astoreN X.here hx rfl hd rfl hv hl k
theorem g_astore {v : Value} (X : Stand p l e R s m args below meth c T locs cells slots) (hx : p.tables.exec = Jvm.exec) {k : Nat} (hd : decode c.code pc = .ok (.astore k, 2)) (hv : v.isRef = true) (hl : storeLocals Ls k v = some Ls') (hp : pc + 2 = pc') (r : WGo p e below s kc ks Q T (mkF m pc' Ls' st)) : WGo p e below s kc ks Q T (mkF m pc Ls (v :: st)) := by
  subst hp; exact r.go fun t k => XS.astore X.here hx rfl hd rfl hv hl k
theorem g_iinc (X : Stand p l e R s m args below meth c T locs cells slots) (hx : p.tables.exec = Jvm.exec) {k : Nat} {cst : Int} {z : Int32} (hd : decode c.code pc = .ok (.iinc k cst, 3)) (hl : Ls[k]? = some (.val (.int x))) (hz : x + Int32.ofInt cst = z) (hl' : storeLocals Ls k (.int z) = some Ls') (hp : pc + 3 = pc') (r : WGo p e below s kc ks Q T (mkF m pc' Ls' st)) : WGo p e below s kc ks Q T (mkF m pc Ls st) := by
  subst hp hz; exact r.go fun t k => XS.iinc X.here hx rfl hd hl hl' k
/-! constants -/
theorem g_iconst (X : Stand p l e R s m args below meth c T locs cells slots) (hx : p.tables.exec = Jvm.exec) {i : Int} (hd : decode c.code pc = .ok (.iconst i, 1)) (hv : Int32.ofInt i = x) (hp : pc + 1 = pc') (r : WGo p e below s kc ks Q T (mkF m pc' Ls (.int x :: st))) : WGo p e below s kc ks Q T (mkF m pc Ls st) := by
  subst hp hv; exact r.go fun t k => XS.iconst X.here hx rfl hd k
theorem g_bipush (X : Stand p l e R s m args below meth c T locs cells slots) (hx : p.tables.exec = Jvm.exec) {i : Int} (hd : decode c.code pc = .ok (.bipush i, 2)) (hv : (Int8.ofInt i).toInt32 = x) (hp : pc + 2 = pc') (r : WGo p e below s kc ks Q T (mkF m pc' Ls (.int x :: st))) : WGo p e below s kc ks Q T (mkF m pc Ls st) := by
  subst hp hv; exact r.go fun t k => XS.bipush X.here hx rfl hd k
theorem g_sipush (X : Stand p l e R s m args below meth c T locs cells slots) (hx : p.tables.exec = Jvm.exec) {i : Int} (hd : decode c.code pc = .ok (.sipush i, 3)) (hv : (Int16.ofInt i).toInt32 = x) (hp : pc + 3 = pc') (r : WGo p e below s kc ks Q T (mkF m pc' Ls (.int x :: st))) : WGo p e below s kc ks Q T (mkF m pc Ls st) := by
  subst hp hv; exact r.go fun t k => XS.sipush X.here hx rfl hd k
theorem g_lconst (X : Stand p l e R s m args below meth c T locs cells slots) (hx : p.tables.exec = Jvm.exec) {i : Fin 2} (hd : decode c.code pc = .ok (.lconst i, 1)) (hv : Int64.ofNat i = u) (hp : pc + 1 = pc') (r : WGo p e below s kc ks Q T (mkF m pc' Ls (.long u :: st))) : WGo p e below s kc ks Q T (mkF m pc Ls st) := by
  subst hp hv; exact r.go fun t k => XT.lconst X.here hx rfl hd k
theorem g_null (X : Stand p l e R s m args below meth c T locs cells slots) (hx : p.tables.exec = Jvm.exec) (hd : decode c.code pc = .ok (.aconst_null, 1)) (hp : pc + 1 = pc') (r : WGo p e below s kc ks Q T (mkF m pc' Ls (.null :: st))) : WGo p e below s kc ks Q T (mkF m pc Ls st) := by
  subst hp; exact r.go fun t k => XS.aconstNull X.here hx rfl hd k
theorem g_ldcI {own : String} {index : Nat} (X : Stand p l e R s m args below meth c T locs cells slots) (hx : p.tables.exec = Jvm.exec) (hZ : Z.Warmed39 s.vm) (hown : s.vm.findClass own = some m.cls) (wd : (Jvm.Cond.constant own index x).before a0 Z = true) (hd : decode c.code pc = .ok (.ldc index, 2)) (hp : pc + 2 = pc') (r : WGo p e below s kc ks Q T (mkF m pc' Ls (.int x :: st))) : WGo p e below s kc ks Q T (mkF m pc Ls st) := by
  subst hp; exact r.go fun t k => X.ldcInt hx hown (mvT hZ wd) (g := mkF m pc Ls st) rfl hd t k
theorem g_ldcJ {own : String} {index : Nat} (X : Stand p l e R s m args below meth c T locs cells slots) (hx : p.tables.exec = Jvm.exec) (hZ : Z.Warmed39 s.vm) (hown : s.vm.findClass own = some m.cls) (wd : (Jvm.Cond.constantLong own index u).before a0 Z = true) (hd : decode c.code pc = .ok (.ldc2_w index, 3)) (hp : pc + 3 = pc') (r : WGo p e below s kc ks Q T (mkF m pc' Ls (.long u :: st))) : WGo p e below s kc ks Q T (mkF m pc Ls st) := by
  subst hp; exact r.go fun t k => X.ldc2Long hx hown (mvT hZ wd) (g := mkF m pc Ls st) rfl hd t k
/-! reckoning -/
theorem g_iadd (X : Stand p l e R s m args below meth c T locs cells slots) (hx : p.tables.exec = Jvm.exec) (hd : decode c.code pc = .ok (.iadd, 1)) (hp : pc + 1 = pc') (r : WGo p e below s kc ks Q T (mkF m pc' Ls (.int (x + y) :: st))) : WGo p e below s kc ks Q T (mkF m pc Ls (.int y :: .int x :: st)) := by
  subst hp; exact r.go fun t k => XS.iadd X.here hx rfl hd rfl k
theorem g_isub (X : Stand p l e R s m args below meth c T locs cells slots) (hx : p.tables.exec = Jvm.exec) (hd : decode c.code pc = .ok (.isub, 1)) (hp : pc + 1 = pc') (r : WGo p e below s kc ks Q T (mkF m pc' Ls (.int (x - y) :: st))) : WGo p e below s kc ks Q T (mkF m pc Ls (.int y :: .int x :: st)) := by
  subst hp; exact r.go fun t k => XS.isub X.here hx rfl hd rfl k
theorem g_iand (X : Stand p l e R s m args below meth c T locs cells slots) (hx : p.tables.exec = Jvm.exec) (hd : decode c.code pc = .ok (.iand, 1)) (hp : pc + 1 = pc') (r : WGo p e below s kc ks Q T (mkF m pc' Ls (.int (x &&& y) :: st))) : WGo p e below s kc ks Q T (mkF m pc Ls (.int y :: .int x :: st)) := by
  subst hp; exact r.go fun t k => XS.iand X.here hx rfl hd rfl k
theorem g_imul (X : Stand p l e R s m args below meth c T locs cells slots) (hx : p.tables.exec = Jvm.exec) (hd : decode c.code pc = .ok (.imul, 1)) (hp : pc + 1 = pc') (r : WGo p e below s kc ks Q T (mkF m pc' Ls (.int (x * y) :: st))) : WGo p e below s kc ks Q T (mkF m pc Ls (.int y :: .int x :: st)) := by
  subst hp; exact r.go fun t k => XS.imul X.here hx rfl hd rfl k
theorem g_ixor (X : Stand p l e R s m args below meth c T locs cells slots) (hx : p.tables.exec = Jvm.exec) (hd : decode c.code pc = .ok (.ixor, 1)) (hp : pc + 1 = pc') (r : WGo p e below s kc ks Q T (mkF m pc' Ls (.int (x ^^^ y) :: st))) : WGo p e below s kc ks Q T (mkF m pc Ls (.int y :: .int x :: st)) := by
  subst hp; exact r.go fun t k => XT.ixor X.here hx rfl hd rfl k
theorem g_ior (X : Stand p l e R s m args below meth c T locs cells slots) (hx : p.tables.exec = Jvm.exec) (hd : decode c.code pc = .ok (.ior, 1)) (hp : pc + 1 = pc') (r : WGo p e below s kc ks Q T (mkF m pc' Ls (.int (x ||| y) :: st))) : WGo p e below s kc ks Q T (mkF m pc Ls (.int y :: .int x :: st)) := by
  subst hp; exact r.go fun t k => XT.ior X.here hx rfl hd rfl k
theorem g_ishl (X : Stand p l e R s m args below meth c T locs cells slots) (hx : p.tables.exec = Jvm.exec) (hd : decode c.code pc = .ok (.ishl, 1)) (hp : pc + 1 = pc') (r : WGo p e below s kc ks Q T (mkF m pc' Ls (.int (x <<< (y &&& 31)) :: st))) : WGo p e below s kc ks Q T (mkF m pc Ls (.int y :: .int x :: st)) := by
  subst hp; exact r.go fun t k => XT.ishl X.here hx rfl hd rfl k
theorem g_ishr (X : Stand p l e R s m args below meth c T locs cells slots) (hx : p.tables.exec = Jvm.exec) (hd : decode c.code pc = .ok (.ishr, 1)) (hp : pc + 1 = pc') (r : WGo p e below s kc ks Q T (mkF m pc' Ls (.int (x >>> (y &&& 31)) :: st))) : WGo p e below s kc ks Q T (mkF m pc Ls (.int y :: .int x :: st)) := by
  subst hp; exact r.go fun t k => XT.ishr X.here hx rfl hd rfl k
theorem g_iushr (X : Stand p l e R s m args below meth c T locs cells slots) (hx : p.tables.exec = Jvm.exec) (hd : decode c.code pc = .ok (.iushr, 1)) (hp : pc + 1 = pc') (r : WGo p e below s kc ks Q T (mkF m pc' Ls (.int (XT.ushr x y) :: st))) : WGo p e below s kc ks Q T (mkF m pc Ls (.int y :: .int x :: st)) := by
  subst hp; exact r.go fun t k => XT.iushr X.here hx rfl hd rfl k
theorem g_ladd (X : Stand p l e R s m args below meth c T locs cells slots) (hx : p.tables.exec = Jvm.exec) (hd : decode c.code pc = .ok (.ladd, 1)) (hp : pc + 1 = pc') (r : WGo p e below s kc ks Q T (mkF m pc' Ls (.long (u + w) :: st))) : WGo p e below s kc ks Q T (mkF m pc Ls (.long w :: .long u :: st)) := by
  subst hp; exact r.go fun t k => XT.ladd X.here hx rfl hd rfl k
theorem g_lsub (X : Stand p l e R s m args below meth c T locs cells slots) (hx : p.tables.exec = Jvm.exec) (hd : decode c.code pc = .ok (.lsub, 1)) (hp : pc + 1 = pc') (r : WGo p e below s kc ks Q T (mkF m pc' Ls (.long (u - w) :: st))) : WGo p e below s kc ks Q T (mkF m pc Ls (.long w :: .long u :: st)) := by
  subst hp; exact r.go fun t k => XT.lsub X.here hx rfl hd rfl k
theorem g_lmul (X : Stand p l e R s m args below meth c T locs cells slots) (hx : p.tables.exec = Jvm.exec) (hd : decode c.code pc = .ok (.lmul, 1)) (hp : pc + 1 = pc') (r : WGo p e below s kc ks Q T (mkF m pc' Ls (.long (u * w) :: st))) : WGo p e below s kc ks Q T (mkF m pc Ls (.long w :: .long u :: st)) := by
  subst hp; exact r.go fun t k => XT.lmul X.here hx rfl hd rfl k
theorem g_land (X : Stand p l e R s m args below meth c T locs cells slots) (hx : p.tables.exec = Jvm.exec) (hd : decode c.code pc = .ok (.land, 1)) (hp : pc + 1 = pc') (r : WGo p e below s kc ks Q T (mkF m pc' Ls (.long (u &&& w) :: st))) : WGo p e below s kc ks Q T (mkF m pc Ls (.long w :: .long u :: st)) := by
  subst hp; exact r.go fun t k => XT.land X.here hx rfl hd rfl k
theorem g_lxor (X : Stand p l e R s m args below meth c T locs cells slots) (hx : p.tables.exec = Jvm.exec) (hd : decode c.code pc = .ok (.lxor, 1)) (hp : pc + 1 = pc') (r : WGo p e below s kc ks Q T (mkF m pc' Ls (.long (u ^^^ w) :: st))) : WGo p e below s kc ks Q T (mkF m pc Ls (.long w :: .long u :: st)) := by
  subst hp; exact r.go fun t k => XT.lxor X.here hx rfl hd rfl k
theorem g_lushr (X : Stand p l e R s m args below meth c T locs cells slots) (hx : p.tables.exec = Jvm.exec) (hd : decode c.code pc = .ok (.lushr, 1)) (hp : pc + 1 = pc') (r : WGo p e below s kc ks Q T (mkF m pc' Ls (.long (XT.ushrL u y) :: st))) : WGo p e below s kc ks Q T (mkF m pc Ls (.int y :: .long u :: st)) := by
  subst hp; exact r.go fun t k => XT.lushr X.here hx rfl hd rfl k
theorem g_lcmp (X : Stand p l e R s m args below meth c T locs cells slots) (hx : p.tables.exec = Jvm.exec) (hd : decode c.code pc = .ok (.lcmp, 1)) (hp : pc + 1 = pc') (r : WGo p e below s kc ks Q T (mkF m pc' Ls (.int (XT.cmpL u w) :: st))) : WGo p e below s kc ks Q T (mkF m pc Ls (.long w :: .long u :: st)) := by
  subst hp; exact r.go fun t k => XT.lcmp X.here hx rfl hd rfl k
theorem g_i2l (X : Stand p l e R s m args below meth c T locs cells slots) (hx : p.tables.exec = Jvm.exec) (hd : decode c.code pc = .ok (.i2l, 1)) (hp : pc + 1 = pc') (r : WGo p e below s kc ks Q T (mkF m pc' Ls (.long (x.toInt64) :: st))) : WGo p e below s kc ks Q T (mkF m pc Ls (.int x :: st)) := by
  subst hp; exact r.go fun t k => XT.i2l X.here hx rfl hd rfl k
theorem g_l2i (X : Stand p l e R s m args below meth c T locs cells slots) (hx : p.tables.exec = Jvm.exec) (hd : decode c.code pc = .ok (.l2i, 1)) (hp : pc + 1 = pc') (r : WGo p e below s kc ks Q T (mkF m pc' Ls (.int (u.toInt32) :: st))) : WGo p e below s kc ks Q T (mkF m pc Ls (.long u :: st)) := by
  subst hp; exact r.go fun t k => XT.l2i X.here hx rfl hd rfl k
theorem g_i2b (X : Stand p l e R s m args below meth c T locs cells slots) (hx : p.tables.exec = Jvm.exec) (hd : decode c.code pc = .ok (.i2b, 1)) (hp : pc + 1 = pc') (r : WGo p e below s kc ks Q T (mkF m pc' Ls (.int (x.toInt8.toInt32) :: st))) : WGo p e below s kc ks Q T (mkF m pc Ls (.int x :: st)) := by
  subst hp; exact r.go fun t k => XT.i2b X.here hx rfl hd rfl k
theorem g_i2c (X : Stand p l e R s m args below meth c T locs cells slots) (hx : p.tables.exec = Jvm.exec) (hd : decode c.code pc = .ok (.i2c, 1)) (hp : pc + 1 = pc') (r : WGo p e below s kc ks Q T (mkF m pc' Ls (.int (x.toUInt32.toUInt16.toUInt32.toInt32) :: st))) : WGo p e below s kc ks Q T (mkF m pc Ls (.int x :: st)) := by
  subst hp; exact r.go fun t k => XT.i2c X.here hx rfl hd rfl k
theorem g_i2s (X : Stand p l e R s m args below meth c T locs cells slots) (hx : p.tables.exec = Jvm.exec) (hd : decode c.code pc = .ok (.i2s, 1)) (hp : pc + 1 = pc') (r : WGo p e below s kc ks Q T (mkF m pc' Ls (.int (x.toInt16.toInt32) :: st))) : WGo p e below s kc ks Q T (mkF m pc Ls (.int x :: st)) := by
  subst hp; exact r.go fun t k => XT.i2s X.here hx rfl hd rfl k
theorem g_irem (X : Stand p l e R s m args below meth c T locs cells slots) (hx : p.tables.exec = Jvm.exec) (hd : decode c.code pc = .ok (.irem, 1)) (hy : y ≠ 0) (hp : pc + 1 = pc') (r : WGo p e below s kc ks Q T (mkF m pc' Ls (.int (x % y) :: st))) : WGo p e below s kc ks Q T (mkF m pc Ls (.int y :: .int x :: st)) := by
  subst hp; exact r.go fun t k => iremM X hx rfl hd rfl hy k
theorem g_ldiv (X : Stand p l e R s m args below meth c T locs cells slots) (hx : p.tables.exec = Jvm.exec) (hd : decode c.code pc = .ok (.ldiv, 1)) (hy : w ≠ 0) (hp : pc + 1 = pc') (r : WGo p e below s kc ks Q T (mkF m pc' Ls (.long (u / w) :: st))) : WGo p e below s kc ks Q T (mkF m pc Ls (.long w :: .long u :: st)) := by
  subst hp; exact r.go fun t k => XT.ldiv X.here hx rfl hd rfl hy k
theorem g_lrem (X : Stand p l e R s m args below meth c T locs cells slots) (hx : p.tables.exec = Jvm.exec) (hd : decode c.code pc = .ok (.lrem, 1)) (hy : w ≠ 0) (hp : pc + 1 = pc') (r : WGo p e below s kc ks Q T (mkF m pc' Ls (.long (u % w) :: st))) : WGo p e below s kc ks Q T (mkF m pc Ls (.long w :: .long u :: st)) := by
  subst hp; rw [← lrem_mod] at r; exact r.go fun t k => XT.lrem X.here hx rfl hd rfl hy k
/-! the stack -/
theorem g_dup {v : Value} (X : Stand p l e R s m args below meth c T locs cells slots) (hx : p.tables.exec = Jvm.exec) (hd : decode c.code pc = .ok (.dup, 1)) (hc : v.category = 1) (hp : pc + 1 = pc') (r : WGo p e below s kc ks Q T (mkF m pc' Ls (v :: v :: st))) : WGo p e below s kc ks Q T (mkF m pc Ls (v :: st)) := by
  subst hp; exact r.go fun t k => XS.dup X.here hx rfl hd rfl hc k
theorem g_dup2 {v v' : Value} (X : Stand p l e R s m args below meth c T locs cells slots) (hx : p.tables.exec = Jvm.exec) (hd : decode c.code pc = .ok (.dup2, 1)) (hc : v.category = 1) (hc' : v'.category = 1) (hp : pc + 1 = pc') (r : WGo p e below s kc ks Q T (mkF m pc' Ls (v :: v' :: v :: v' :: st))) : WGo p e below s kc ks Q T (mkF m pc Ls (v :: v' :: st)) := by
  subst hp; exact r.go fun t k => XT.dup2 X.here hx rfl hd rfl hc hc' k
theorem g_pop {v : Value} (X : Stand p l e R s m args below meth c T locs cells slots) (hx : p.tables.exec = Jvm.exec) (hd : decode c.code pc = .ok (.pop, 1)) (hc : v.category = 1) (hp : pc + 1 = pc') (r : WGo p e below s kc ks Q T (mkF m pc' Ls st)) : WGo p e below s kc ks Q T (mkF m pc Ls (v :: st)) := by
  subst hp; exact r.go fun t k => XT.pop X.here hx rfl hd rfl hc k
/-! jumps -/
theorem g_join {α : Type} {P : α → Prop} {F : JFrame} {J : α → JFrame} (k : (∀ z, P z → WGo p e below s kc ks Q T (J z)) → WGo p e below s kc ks Q T F) (r : ∀ z, P z → WGo p e below s kc ks Q T (J z)) : WGo p e below s kc ks Q T F := k r
theorem g_goto (X : Stand p l e R s m args below meth c T locs cells slots) (hx : p.tables.exec = Jvm.exec) {o : Int} (hd : decode c.code pc = .ok (.goto o, 3)) (ho : 0 ≤ (pc : Int) + o) (hp : ((pc : Int) + o).toNat = pc') (r : WGo p e below s kc ks Q T (mkF m pc' Ls st)) : WGo p e below s kc ks Q T (mkF m pc Ls st) :=
  r.go fun t k => XS.goto X.here hx rfl rfl hd ho hp k
theorem g_joinT {α : Type} {P : α → Prop} {F : JFrame} {J : α → JFrame} {n0 : Nat} (k : (∀ T' L z, Stand p l e R s m args below meth c T' L cells slots → T'.heap = h → Fr n0 L → P z → WGo p e below s kc ks Q T' (J z)) → WGo p e below s kc ks Q T F) (r : ∀ T' L z, Stand p l e R s m args below meth c T' L cells slots → T'.heap = h → Fr n0 L → P z → WGo p e below s kc ks Q T' (J z)) : WGo p e below s kc ks Q T F := k r
theorem g_ind {α : Type} {P : Nat → α → Prop} {J : α → JFrame} (step : ∀ k, (∀ k' z, k' < k → P k' z → WGo p e below s kc ks Q T (J z)) → ∀ z, P k z → WGo p e below s kc ks Q T (J z)) (k0 : Nat) (z0 : α) (h0 : P k0 z0) : WGo p e below s kc ks Q T (J z0) := by
  have all : ∀ n k, k < n → ∀ z, P k z → WGo p e below s kc ks Q T (J z) := by
    intro n
    induction n with
    | zero => intro k hk; exact absurd hk (Nat.not_lt_zero _)
    | succ n ih => intro k hk z hz; exact step k (fun k' z' hk' hz' => ih k' (Nat.lt_of_lt_of_le hk' (Nat.le_of_lt_succ hk)) z' hz') z hz
  exact all (k0 + 1) k0 (Nat.lt_succ_self _) z0 h0
theorem g_icmp (X : Stand p l e R s m args below meth c T locs cells slots) (hx : p.tables.exec = Jvm.exec) {cd : ClassFile.Cond} {o : Int} {pc2 : Nat} (hd : decode c.code pc = .ok (.if_icmp cd o, 3)) (ho : 0 ≤ (pc : Int) + o) (hp : ((pc : Int) + o).toNat = pc') (hp2 : pc + 3 = pc2) (r1 : if_icmp.holds cd x y = true → WGo p e below s kc ks Q T (mkF m pc' Ls st)) (r2 : if_icmp.holds cd x y = false → WGo p e below s kc ks Q T (mkF m pc2 Ls st)) : WGo p e below s kc ks Q T (mkF m pc Ls (.int y :: .int x :: st)) := by
  subst hp2
  cases hc : if_icmp.holds cd x y
  · exact (r2 hc).go fun t k => XS.icmpNo X.here hx rfl hd rfl hc k
  · exact (r1 hc).go fun t k => XS.icmpYes X.here hx rfl rfl hd rfl hc ho hp k
theorem g_if (X : Stand p l e R s m args below meth c T locs cells slots) (hx : p.tables.exec = Jvm.exec) {cd : ClassFile.Cond} {o : Int} {pc2 : Nat} (hd : decode c.code pc = .ok (.ifCond cd o, 3)) (ho : 0 ≤ (pc : Int) + o) (hp : ((pc : Int) + o).toNat = pc') (hp2 : pc + 3 = pc2) (r1 : if_icmp.holds cd x 0 = true → WGo p e below s kc ks Q T (mkF m pc' Ls st)) (r2 : if_icmp.holds cd x 0 = false → WGo p e below s kc ks Q T (mkF m pc2 Ls st)) : WGo p e below s kc ks Q T (mkF m pc Ls (.int x :: st)) := by
  subst hp2
  cases hc : if_icmp.holds cd x 0
  · exact (r2 hc).go fun t k => XS.ifNo X.here hx rfl hd rfl ((if0 _ _).trans hc) k
  · exact (r1 hc).go fun t k => XS.ifYes X.here hx rfl rfl hd rfl ((if0 _ _).trans hc) ho hp k
theorem h_eq1 (q : if_icmp.holds .eq x y = true) : x = y := by simpa [if_icmp.holds] using q
theorem h_eq0 (q : if_icmp.holds .eq x y = false) : ¬ x = y := by simpa [if_icmp.holds] using q
theorem h_ne1 (q : if_icmp.holds .ne x y = true) : ¬ x = y := by simpa [if_icmp.holds] using q
theorem h_ne0 (q : if_icmp.holds .ne x y = false) : x = y := by simpa [if_icmp.holds] using q
theorem h_lt1 (q : if_icmp.holds .lt x y = true) : x < y := by simpa [if_icmp.holds] using q
theorem h_lt0 (q : if_icmp.holds .lt x y = false) : ¬ x < y := by simpa [if_icmp.holds] using q
theorem h_ge1 (q : if_icmp.holds .ge x y = true) : ¬ x < y := fun z => by rw [(tlt z).2.1] at q; cases q
theorem h_ge0 (q : if_icmp.holds .ge x y = false) : x < y := Classical.byContradiction fun z => by rw [(flt z).2.1] at q; cases q
theorem h_gt1 (q : if_icmp.holds .gt x y = true) : y < x := Classical.byContradiction fun z => by rw [(flt z).2.2.1] at q; cases q
theorem h_gt0 (q : if_icmp.holds .gt x y = false) : ¬ y < x := fun z => by rw [(tlt z).2.2.1] at q; cases q
theorem h_le1 (q : if_icmp.holds .le x y = true) : ¬ y < x := fun z => by rw [(tlt z).2.2.2] at q; cases q
theorem h_le0 (q : if_icmp.holds .le x y = false) : y < x := Classical.byContradiction fun z => by rw [(flt z).2.2.2] at q; cases q
theorem g_acmp {v v' : Value} (X : Stand p l e R s m args below meth c T locs cells slots) (hx : p.tables.exec = Jvm.exec) (h1 : v.isRef = true) (h2 : v'.isRef = true) {o : Int} {pc2 : Nat} (hd : decode c.code pc = .ok (.if_acmp .ne o, 3)) (ho : 0 ≤ (pc : Int) + o) (hp : ((pc : Int) + o).toNat = pc') (hp2 : pc + 3 = pc2) (r1 : ¬ v = v' → WGo p e below s kc ks Q T (mkF m pc' Ls st)) (r2 : v = v' → WGo p e below s kc ks Q T (mkF m pc2 Ls st)) : WGo p e below s kc ks Q T (mkF m pc Ls (v' :: v :: st)) := by
  by_cases hc : v = v'
  · exact (r2 hc).go fun t k => Jvm.RoadKit.acmp X hx rfl h1 h2 rfl hd rfl (decide_eq_true hc) ho (by simp [acV, hp2]) k
  · exact (r1 hc).go fun t k => Jvm.RoadKit.acmp X hx rfl h1 h2 rfl hd rfl (decide_eq_false hc) ho (by simp [acV, hp]) k
theorem cl_lt (u w : Int64) : XT.cmpL u w < 0 ↔ u < w := lw_lt u w
theorem cl_gt (u w : Int64) : 0 < XT.cmpL u w ↔ w < u := lw_gt u w
theorem cl_eq (u w : Int64) : XT.cmpL u w = 0 ↔ u = w := lw_eq u w
/-! fields -/
theorem g_getF {own O n d : String} {index : Nat} {a : Addr} {v : Value} (X : Stand p l e R s m args below meth c T locs cells slots) (hx : p.tables.exec = Jvm.exec) (hZ : Z.Warmed39 s.vm) (hown : s.vm.findClass own = some m.cls) (wd : (Jvm.Cond.fieldLink own index O n d).before a0 Z = true) (eT : T.heap = h) (F : Fld Z h a O n d v) (hd : decode c.code pc = .ok (.getfield index, 3)) (hp : pc + 3 = pc')
    (r : ∀ T', Stand p l e R s m args below meth c T' locs cells slots → T'.heap = h → WGo p e below s kc ks Q T' (mkF m pc' Ls (v :: st))) : WGo p e below s kc ks Q T (mkF m pc Ls (.ref a :: st)) := by
  subst hp
  obtain ⟨T', X', e', k⟩ := getF X hx hZ hown (host := "") (Or.inl wd) Via.refl eT F (g := mkF m pc Ls (.ref a :: st)) rfl rfl hd
  exact (r T' X' e').go k
theorem g_putF {own O n d C : String} {index kk : Nat} {ty : FieldType} {a : Addr} {v old : Value} (X : Stand p l e R s m args below meth c T locs cells slots) (hx : p.tables.exec = Jvm.exec) (hZ : Z.Warmed39 s.vm) (hown : s.vm.findClass own = some m.cls) (wd : (Jvm.Cond.fieldLink own index O n d).before a0 Z = true) (eT : T.heap = h) (F : Fld Z h a O n d old) (E : Exa Z h a C)
    (L : (Jvm.Cond.lays C O n d).before a0 Z = true ∨ ((Jvm.Cond.laysFinal C O n d).before a0 Z = true ∧ own = O ∧ meth.name = "<init>")) (wi : (Jvm.Cond.instantiable C kk).before a0 Z = true) (hty : parseFieldDescriptor d = some ty) (hn : narrow ty v = v) (hf : fits ty v = true) (hd : decode c.code pc = .ok (.putfield index, 3)) (hp : pc + 3 = pc')
    (r : ∀ T' h', Stand p l e R s m args below meth c T' (locs ++ [⟨a, Jvm.RoadKit.slotOf Z O n d⟩]) cells slots → T'.heap = h' → Wr h h' a (Jvm.RoadKit.slotOf Z O n d) v → WGo p e below s kc ks Q T' (mkF m pc' Ls st)) : WGo p e below s kc ks Q T (mkF m pc Ls (v :: .ref a :: st)) := by
  subst hp
  obtain ⟨T', h', X', e', W, k⟩ := putF X hx hZ hown (host := "") (Or.inl wd) Via.refl eT F E L wi hty hn hf (g := mkF m pc Ls (v :: .ref a :: st)) rfl rfl hd
  exact (r T' h' X' e' W).go k
theorem g_getS {own O n d : String} {index : Nat} {v : Value} (X : Stand p l e R s m args below meth c T locs cells slots) (hx : p.tables.exec = Jvm.exec) (hZ : Z.Warmed39 s.vm) (hown : s.vm.findClass own = some m.cls) (wd : (Jvm.Cond.fieldLink own index O n d).before a0 Z = true) (eT : T.heap = h) (F : Sta Z h O n d v) (hd : decode c.code pc = .ok (.getstatic index, 3)) (hp : pc + 3 = pc')
    (r : ∀ T', Stand p l e R s m args below meth c T' locs cells slots → T'.heap = h → WGo p e below s kc ks Q T' (mkF m pc' Ls (v :: st))) : WGo p e below s kc ks Q T (mkF m pc Ls st) := by
  subst hp
  obtain ⟨T', X', e', k⟩ := getS (host := "") X hx hZ hown wd Via.refl eT F (g := mkF m pc Ls st) rfl hd
  exact (r T' X' e').go k
/-! new -/
theorem g_new {own C : String} {index n : Nat} (X : Stand p l e R s m args below meth c T locs cells slots) (hx : p.tables.exec = Jvm.exec) (hZ : Z.Warmed39 s.vm) (hown : s.vm.findClass own = some m.cls) (w1 : (Jvm.Cond.classLink own index C).before a0 Z = true) (w2 : (Jvm.Cond.instantiable C n).before a0 Z = true) (w3 : (Jvm.Cond.initialized C).before a0 Z = true) (eT : T.heap = h) (hd : decode c.code pc = .ok (.new index, 3)) (hc : cells + 1 ≤ R.cells) (hl : slots + n ≤ R.slots) (hp : pc + 3 = pc')
    (r : ∀ T' h' a, a = h.size → Stand p l e R s m args below meth c T' locs (cells + 1) (slots + n) → T'.heap = h' → Ext h h' → Exa Z h' a C → (∀ {O nm d : String} {ty : FieldType}, Laid Z a0 C O nm d → parseFieldDescriptor d = some ty → Fld Z h' a O nm d (defaultValue ty)) → WGo p e below s kc ks Q T' (mkF m pc' Ls (.ref a :: st))) : WGo p e below s kc ks Q T (mkF m pc Ls st) := by
  subst hp
  obtain ⟨T', h', X', e', E, A, D, -, k⟩ := newO X hx hZ hown w1 w2 w3 eT (g := mkF m pc Ls st) rfl hd hc hl
  exact (r T' h' _ rfl X' e' E A D).go k
/-- a step that a law of the library hands out whole -/
theorem g_move {g g' : JFrame} (k : ∃ T', Stand p l e R s m args below meth c T' locs cells slots ∧ T'.heap = h ∧ ∀ target, Steps p.tables e below (T'.setTop g') target → Steps p.tables e below (T.setTop g) target) (r : ∀ T', Stand p l e R s m args below meth c T' locs cells slots → T'.heap = h → WGo p e below s kc ks Q T' g') : WGo p e below s kc ks Q T g := by
  obtain ⟨T', X', e', k⟩ := k
  exact (r T' X' e').go k
/-! calls by contract -/
theorem g_init {own : String} {index : Nat} {yy : MethodName} {bytes : ByteArray} {maxL : Nat} {rm : Room} {a : Addr} {argsL as' : List Value} {Q' : Option Value → Heap → List Loc → Prop} {W : Nat} (X : Stand p l e R s m args below meth c T locs cells slots) (hx : p.tables.exec = Jvm.exec) (hZ : Z.Warmed39 s.vm) (hown : s.vm.findClass own = some m.cls) (hy1 : yy.name = "<init>") (w1 : (Jvm.Cond.methodLink own index yy).before a0 Z = true) (w2 : (Jvm.Cond.instanceMethod yy).before a0 Z = true) (w3 : (Jvm.Cond.code yy bytes maxL none).before a0 Z = true) (w4 : (Jvm.Cond.initialized yy.cls).before a0 Z = true)
    (hy : yy.cls ≠ "java/lang/invoke/MethodHandle" ∧ yy.cls ≠ "java/lang/invoke/VarHandle") (ct : WCt l Z yy bytes maxL none rm (.ref a :: argsL).toArray h Q') (eT : T.heap = h) (hf : rm.frames + 1 ≤ R.frames) (hl : W + (maxL + 11) + rm.locals ≤ R.locals) (hc : cells + rm.cells ≤ R.cells) (hs : slots + rm.slots ≤ R.slots) (hlen : ∀ sig, parseMethodDescriptor yy.desc = some sig → argsL.length = sig.parameters.length) (hsize : Ls.size = c.maxLocals) (has : as' = argsL.reverse ++ .ref a :: st) (hW : 2 * 0 + (st.map fun v => v.category).sum ≤ W) (hd : decode c.code pc = .ok (.invokespecial index, 3)) (hp : pc + 3 = pc')
    (r : ∀ T' h' v L, Stand p l e R s m args below meth c T' (locs ++ L) (cells + rm.cells) (slots + rm.slots) → T'.heap = h' → Q' v h' L → WGo p e below s kc ks Q T' (mkF m pc' Ls (v.toList ++ st))) : WGo p e below s kc ks Q T (mkF m pc Ls as') := by
  subst hp has
  obtain ⟨v, _, ⟨T', L, k1, k2⟩, -, X', ⟨Lc, hQ, l1, y1, z1⟩, k⟩ := X.specialBack hx (y := yy) hy1 hown (mvT hZ w1) (mvT hZ w2) (mvT hZ w3) hy (backOf (W := W) (ct []) hZ w3 w4 hf hl) (g := mkF m pc Ls (argsL.reverse ++ .ref a :: st)) rfl hsize (Steps.refl _) (a := a) (argsL := argsL) (rest := st) hlen rfl hW hd (fun _ _ => ⟨rfl, eT, hc, hs⟩)
  dsimp only [Pt.U, Pt.locs, Pt.cells, Pt.slots] at X' l1 y1 z1 k hQ
  subst l1 y1 z1
  exact (r T' _ v Lc X' rfl hQ).go fun t q => k.trans q
theorem g_virt {own C : String} {index : Nat} {yy zz : MethodName} {bytes : ByteArray} {maxL : Nat} {ret : Option FieldType} {rm : Room} {a : Addr} {argsL as' : List Value} {Q' : Option Value → Heap → List Loc → Prop} {W : Nat} (X : Stand p l e R s m args below meth c T locs cells slots) (hx : p.tables.exec = Jvm.exec) (hZ : Z.Warmed39 s.vm) (hown : s.vm.findClass own = some m.cls) (w1 : (Jvm.Cond.methodLink own index yy).before a0 Z = true) (w2 : (Jvm.Cond.declares yy).before a0 Z = true) (nf : NotFace s yy) (w3 : (Jvm.Cond.selects C yy zz).before a0 Z = true) (w4 : (Jvm.Cond.instanceMethod zz).before a0 Z = true) (w5 : (Jvm.Cond.code zz bytes maxL ret).before a0 Z = true) (w6 : (Jvm.Cond.initialized zz.cls).before a0 Z = true)
    (hy : yy.cls ≠ "java/lang/invoke/MethodHandle" ∧ yy.cls ≠ "java/lang/invoke/VarHandle") (E : Exa Z h a C) (ct : WCt l Z zz bytes maxL ret rm (.ref a :: argsL).toArray h Q') (eT : T.heap = h) (hf : rm.frames + 1 ≤ R.frames) (hl : W + (maxL + 11) + rm.locals ≤ R.locals) (hc : cells + rm.cells ≤ R.cells) (hs : slots + rm.slots ≤ R.slots) (hlen : ∀ sig, parseMethodDescriptor yy.desc = some sig → argsL.length = sig.parameters.length) (hsize : Ls.size = c.maxLocals) (has : as' = argsL.reverse ++ .ref a :: st) (hW : 2 * 0 + (st.map fun v => v.category).sum ≤ W) (hd : decode c.code pc = .ok (.invokevirtual index, 3)) (hp : pc + 3 = pc')
    (r : ∀ T' h' v L, Stand p l e R s m args below meth c T' (locs ++ L) (cells + rm.cells) (slots + rm.slots) → T'.heap = h' → Q' v h' L → WGo p e below s kc ks Q T' (mkF m pc' Ls (v.toList ++ st))) : WGo p e below s kc ks Q T (mkF m pc Ls as') := by
  subst hp has
  obtain ⟨cq, kq, qa, -, qc⟩ := isOf hZ eT E
  obtain ⟨v, _, ⟨T', L, k1, k2⟩, -, X', ⟨Lc, hQ, l1, y1, z1⟩, k⟩ := X.virtualBack hx (y := yy) (z := zz) hown (mvT hZ w1) (mvT hZ w2) nf (mvT hZ w3) (mvT hZ w4) hy (backOf (W := W) (ct []) hZ w5 w6 hf hl) qa qc (g := mkF m pc Ls (argsL.reverse ++ .ref a :: st)) rfl hsize (Steps.refl _) (argsL := argsL) (rest := st) hlen rfl hW hd (fun _ _ => ⟨rfl, eT, hc, hs⟩)
  dsimp only [Pt.U, Pt.locs, Pt.cells, Pt.slots] at X' l1 y1 z1 k hQ
  subst l1 y1 z1
  exact (r T' _ v Lc X' rfl hQ).go fun t q => k.trans q
theorem g_stat {own : String} {index : Nat} {yy : MethodName} {bytes : ByteArray} {maxL : Nat} {ret : Option FieldType} {rm : Room} {argsL as' : List Value} {Q' : Option Value → Heap → List Loc → Prop} {W : Nat} (X : Stand p l e R s m args below meth c T locs cells slots) (hx : p.tables.exec = Jvm.exec) (hZ : Z.Warmed39 s.vm) (hown : s.vm.findClass own = some m.cls) (w1 : (Jvm.Cond.methodLink own index yy).before a0 Z = true) (w2 : (Jvm.Cond.static yy).before a0 Z = true) (w3 : (Jvm.Cond.initialized yy.cls).before a0 Z = true) (w4 : (Jvm.Cond.code yy bytes maxL ret).before a0 Z = true)
    (hy : yy.cls ≠ "java/lang/invoke/MethodHandle" ∧ yy.cls ≠ "java/lang/invoke/VarHandle") (ct : WCt l Z yy bytes maxL ret rm argsL.toArray h Q') (eT : T.heap = h) (hf : rm.frames + 1 ≤ R.frames) (hl : W + (maxL + 11) + rm.locals ≤ R.locals) (hc : cells + rm.cells ≤ R.cells) (hs : slots + rm.slots ≤ R.slots) (hlen : ∀ sig, parseMethodDescriptor yy.desc = some sig → argsL.length = sig.parameters.length) (hsize : Ls.size = c.maxLocals) (has : as' = argsL.reverse ++ st) (hW : 2 * 0 + (st.map fun v => v.category).sum ≤ W) (hd : decode c.code pc = .ok (.invokestatic index, 3)) (hp : pc + 3 = pc')
    (r : ∀ T' h' v L, Stand p l e R s m args below meth c T' (locs ++ L) (cells + rm.cells) (slots + rm.slots) → T'.heap = h' → Q' v h' L → WGo p e below s kc ks Q T' (mkF m pc' Ls (v.toList ++ st))) : WGo p e below s kc ks Q T (mkF m pc Ls as') := by
  subst hp has
  obtain ⟨v, _, ⟨T', L, k1, k2⟩, -, X', ⟨Lc, hQ, l1, y1, z1⟩, k⟩ := Jvm.LawKit.callS X hx (y := yy) hown (mvT hZ w1) (mvT hZ w2) (mvT hZ w3) (mvT hZ w4) hy (backOf (W := W) (ct []) hZ w4 w3 hf hl) (g := mkF m pc Ls (argsL.reverse ++ st)) rfl hsize (argsL := argsL) (rest := st) hlen rfl hW hd (fun _ _ => ⟨rfl, eT, hc, hs⟩)
  dsimp only [Pt.U, Pt.locs, Pt.cells, Pt.slots] at X' l1 y1 z1 k hQ
  subst l1 y1 z1
  exact (r T' _ v Lc X' rfl hQ).go fun t q => k t q
theorem own_selp {yy : MethodName} {n : Nat} (hins : (Jvm.Cond.instantiable yy.cls n).before args s = true) (hpriv : (Jvm.Cond.privateMethod yy).before args s = true) (hinst : (Jvm.Cond.instanceMethod yy).before args s = true) (hy : yy.cls ≠ "java/lang/invoke/MethodHandle" ∧ yy.cls ≠ "java/lang/invoke/VarHandle") :
    (Jvm.Cond.selects yy.cls yy yy).before args s = true := by
  obtain ⟨c, k, hc, hk, -, hniab, -, -⟩ := Cond.instantiable_spec hins
  have hni : k.isInterface = false := (Bool.or_eq_false_iff.mp hniab).1
  obtain ⟨mk, methM, hnamed, hmethM, -, -⟩ := Cond.instanceMethod_spec hinst
  have hfound : s.methodFound? yy.cls yy.name yy.desc = some mk := State.methodFound?_of_named hnamed hy
  have hcls : mk.cls = c := Option.some.inj ((findClass_of_methodNamed hnamed).symm.trans hc)
  have hsel : selectMethod {} s.vm c mk = .method mk := selectMethod_private hmethM (Cond.privateMethod_at hpriv mk methM hnamed hmethM)
  simp only [Cond.before, Cond.holds, Cond.value, hc, hfound, hnamed, hsel, hcls, hk]
  simp; exact hni
theorem g_priv {own C : String} {index kk : Nat} {yy : MethodName} {bytes : ByteArray} {maxL : Nat} {ret : Option FieldType} {rm : Room} {a : Addr} {argsL as' : List Value} {Q' : Option Value → Heap → List Loc → Prop} {W : Nat} (X : Stand p l e R s m args below meth c T locs cells slots) (hx : p.tables.exec = Jvm.exec) (hZ : Z.Warmed39 s.vm) (hown : s.vm.findClass own = some m.cls) (w1 : (Jvm.Cond.methodLink own index yy).before a0 Z = true) (w2 : (Jvm.Cond.instanceMethod yy).before a0 Z = true) (w3 : (Jvm.Cond.privateMethod yy).before a0 Z = true) (w4 : (Jvm.Cond.code yy bytes maxL ret).before a0 Z = true) (w5 : (Jvm.Cond.initialized yy.cls).before a0 Z = true) (w6 : (Jvm.Cond.instantiable yy.cls kk).before a0 Z = true)
    (hy : yy.cls ≠ "java/lang/invoke/MethodHandle" ∧ yy.cls ≠ "java/lang/invoke/VarHandle") (E : Exa Z h a C) (ct : WCt l Z yy bytes maxL ret rm (.ref a :: argsL).toArray h Q') (eT : T.heap = h) (hf : rm.frames + 1 ≤ R.frames) (hl : W + (maxL + 11) + rm.locals ≤ R.locals) (hc : cells + rm.cells ≤ R.cells) (hs : slots + rm.slots ≤ R.slots) (hlen : ∀ sig, parseMethodDescriptor yy.desc = some sig → argsL.length = sig.parameters.length) (hsize : Ls.size = c.maxLocals) (has : as' = argsL.reverse ++ .ref a :: st) (hW : 2 * 0 + (st.map fun v => v.category).sum ≤ W) (hd : decode c.code pc = .ok (.invokevirtual index, 3)) (hp : pc + 3 = pc')
    (r : ∀ T' h' v L, Stand p l e R s m args below meth c T' (locs ++ L) (cells + rm.cells) (slots + rm.slots) → T'.heap = h' → Q' v h' L → WGo p e below s kc ks Q T' (mkF m pc' Ls (v.toList ++ st))) : WGo p e below s kc ks Q T (mkF m pc Ls as') := by
  subst hp has
  obtain ⟨cq, qa, qb⟩ := E.cell
  obtain ⟨v, _, ⟨T', L, k1, k2⟩, -, X', ⟨Lc, hQ, l1, y1, z1⟩, k⟩ := X.privateBack hx (y := yy) hown (mvT hZ w1) (mvT hZ w2) (own_selp (mvT hZ w6) (mvP hZ w3) (mvT hZ w2) hy) (Cond.privateMethod_at (mvP hZ w3 (args := #[]))) (mvT hZ w4) hy (backOf (W := W) (ct []) hZ w4 w5 hf hl) (g := mkF m pc Ls (argsL.reverse ++ .ref a :: st)) rfl hsize (Steps.refl _) (a := a) (by rw [eT]; exact qa) qb (argsL := argsL) (rest := st) hlen rfl hW hd (fun _ _ => ⟨rfl, eT, hc, hs⟩)
  dsimp only [Pt.U, Pt.locs, Pt.cells, Pt.slots] at X' l1 y1 z1 k hQ
  subst l1 y1 z1
  exact (r T' _ v Lc X' rfl hQ).go fun t q => k.trans q
/-! arrays: the place i holds f i -/
def Ai (Z : State) (h : Heap) (a : Addr) (ty : FieldType) (n : Nat) (f : Nat → Value) : Prop := ∃ cl : Cell, Arr Z h a cl ty ∧ cl.slots.size = n ∧ n < 2 ^ 31 ∧ ∀ i, i < n → cl.slots[i]? = some (f i)
def upd (f : Nat → Value) (i : Nat) (v : Value) : Nat → Value := fun j => if j = i then v else f j
theorem upd_at (f : Nat → Value) (i : Nat) (v : Value) : upd f i v i = v := by simp [upd]
theorem upd_ne (f : Nat → Value) {i j : Nat} (v : Value) (q : j ≠ i) : upd f i v j = f j := by simp [upd, q]
theorem Ai.lt {a : Addr} {ty : FieldType} {n : Nat} {f : Nat → Value} (A : Ai Z h a ty n f) : a < h.size := by obtain ⟨_, A, -⟩ := A; exact A.lt
theorem Ai.ext {h' : Heap} {a : Addr} {ty : FieldType} {n : Nat} {f : Nat → Value} (A : Ai Z h a ty n f) (E : Ext h h') : Ai Z h' a ty n f := by obtain ⟨cl, A, r⟩ := A; exact ⟨cl, A.ext E, r⟩
theorem Ai.other {h' : Heap} {a b : Addr} {ty : FieldType} {n sl : Nat} {v : Value} {f : Nat → Value} (A : Ai Z h b ty n f) (W : Wr h h' a sl v) (q : b ≠ a) : Ai Z h' b ty n f := by obtain ⟨cl, A, r⟩ := A; exact ⟨cl, A.other W q, r⟩
theorem Ai.keep {h' : Heap} {a : Addr} {ty : FieldType} {n : Nat} {f : Nat → Value} {ws : List Addr} (A : Ai Z h a ty n f) (K : Keep h h' ws) (q : a ∉ ws) : Ai Z h' a ty n f := by obtain ⟨cl, A, r⟩ := A; exact ⟨cl, ⟨K.2.1 a cl A.1 q, A.2⟩, r⟩
theorem Ai.set {h' : Heap} {a : Addr} {ty : FieldType} {n : Nat} {f : Nat → Value} {i : Nat} {v : Value} (A : Ai Z h a ty n f) (W : Wr h h' a i v) : Ai Z h' a ty n (upd f i v) := by
  obtain ⟨cl, A, S, B, H⟩ := A
  refine ⟨_, A.same W, by rw [sz_set]; exact S, B, fun j hj => ?_⟩
  by_cases q : j = i
  · subst q
    rw [upd_at]
    simp [Cell.setSlot, S, hj]
  · rw [upd_ne f v q]
    show (cl.slots.setIfInBounds i v)[j]? = _
    rw [Array.getElem?_setIfInBounds_ne (Ne.symm q)]
    exact H j hj
theorem Ai.fn {a : Addr} {ty : FieldType} {n : Nat} {f f' : Nat → Value} (A : Ai Z h a ty n f) (q : ∀ i, i < n → f i = f' i) : Ai Z h a ty n f' := by
  obtain ⟨cl, A, S, B, H⟩ := A
  exact ⟨cl, A, S, B, fun j hj => by rw [← q j hj]; exact H j hj⟩
theorem Ai.inb {cl : Cell} {n : Nat} {j : Int32} (S : cl.slots.size = n) (h0 : ¬ j < 0) (hn : j.toNatClampNeg < n) : ¬ (j < 0 ∨ cl.slots.size ≤ j.toNatClampNeg) := fun q => q.elim h0 fun z => absurd hn (Nat.not_lt.mpr (S ▸ z))
theorem g_newP {aty : ArrayType} {n : Int32} {cap : Nat} (X : Stand p l e R s m args below meth c T locs cells slots) (hx : p.tables.exec = Jvm.exec) (hZ : Z.Warmed39 s.vm) (wd : (Jvm.Cond.arrayClass (newarray.typeOf aty)).before a0 Z = true) (eT : T.heap = h) (hd : decode c.code pc = .ok (.newarray aty, 2)) (hn : ¬ n < 0) (hcap : n.toNatClampNeg ≤ cap) (hb : cap * 8 ≤ 536870912) (hc : cells + 1 ≤ R.cells) (hl : slots + cap ≤ R.slots) (hp : pc + 2 = pc')
    (r : ∀ T' h' a, a = h.size → Stand p l e R s m args below meth c T' locs (cells + 1) (slots + cap) → T'.heap = h' → Ext h h' → Ai Z h' a (newarray.typeOf aty) n.toNatClampNeg (fun _ => defaultValue (newarray.typeOf aty)) → WGo p e below s kc ks Q T' (mkF m pc' Ls (.ref a :: st))) : WGo p e below s kc ks Q T (mkF m pc Ls (.int n :: st)) := by
  subst hp
  obtain ⟨T', h', cA, X', e', E, A, k⟩ := newP X hx hZ wd eT (g := mkF m pc Ls (.int n :: st)) rfl hd rfl hn hcap hb hc hl
  refine (r T' h' _ rfl X' e' E ⟨_, A, sz_new _ _ _, (back32 hn).2, fun i hi => ?_⟩).go k
  simp [newA, hi]
theorem g_len {a : Addr} {ty : FieldType} {n : Nat} {f : Nat → Value} (X : Stand p l e R s m args below meth c T locs cells slots) (hx : p.tables.exec = Jvm.exec) (hZ : Z.Warmed39 s.vm) (eT : T.heap = h) (A : Ai Z h a ty n f) (hd : decode c.code pc = .ok (.arraylength, 1)) (hn : Nat.toInt32 n = x) (hp : pc + 1 = pc') (r : WGo p e below s kc ks Q T (mkF m pc' Ls (.int x :: st))) : WGo p e below s kc ks Q T (mkF m pc Ls (.ref a :: st)) := by
  subst hp
  obtain ⟨cl, A, S, B, H⟩ := A
  rw [← hn, ← S] at r
  exact r.go fun t k => X.arraylength hx (by rw [eT]; exact A.1) (State.isArrayOf_alike hZ.alike A.2.1) (g := mkF m pc Ls (.ref a :: st)) rfl rfl hd t k
theorem g_iaload {a : Addr} {n : Nat} {f : Nat → Value} {j : Int32} {v : Value} (X : Stand p l e R s m args below meth c T locs cells slots) (hx : p.tables.exec = Jvm.exec) (hZ : Z.Warmed39 s.vm) (eT : T.heap = h) (A : Ai Z h a .int n f) (hd : decode c.code pc = .ok (.iaload, 1)) (h0 : ¬ j < 0) (hn : j.toNatClampNeg < n) (hv : f j.toNatClampNeg = v) (hp : pc + 1 = pc') (r : WGo p e below s kc ks Q T (mkF m pc' Ls (v :: st))) : WGo p e below s kc ks Q T (mkF m pc Ls (.int j :: .ref a :: st)) := by
  subst hp hv
  obtain ⟨cl, A, S, B, H⟩ := A
  exact r.go fun t k => X.iaload hx (by rw [eT]; exact A.1) (State.isArrayOf_alike hZ.alike A.2.1) A.2.2 (Ai.inb S h0 hn) (H _ hn) (g := mkF m pc Ls (.int j :: .ref a :: st)) rfl rfl hd t k
theorem g_laload {a : Addr} {n : Nat} {f : Nat → Value} {j : Int32} {v : Value} (X : Stand p l e R s m args below meth c T locs cells slots) (hx : p.tables.exec = Jvm.exec) (hZ : Z.Warmed39 s.vm) (eT : T.heap = h) (A : Ai Z h a .long n f) (hd : decode c.code pc = .ok (.laload, 1)) (h0 : ¬ j < 0) (hn : j.toNatClampNeg < n) (hv : f j.toNatClampNeg = v) (hp : pc + 1 = pc') (r : WGo p e below s kc ks Q T (mkF m pc' Ls (v :: st))) : WGo p e below s kc ks Q T (mkF m pc Ls (.int j :: .ref a :: st)) := by
  subst hp hv
  obtain ⟨cl, A, S, B, H⟩ := A
  exact r.go fun t k => X.laload hx (by rw [eT]; exact A.1) (State.isArrayOf_alike hZ.alike A.2.1) A.2.2 (Ai.inb S h0 hn) (H _ hn) (g := mkF m pc Ls (.int j :: .ref a :: st)) rfl rfl hd t k
theorem g_baloadB {a : Addr} {n : Nat} {f : Nat → Value} {j : Int32} {v : Value} (X : Stand p l e R s m args below meth c T locs cells slots) (hx : p.tables.exec = Jvm.exec) (hZ : Z.Warmed39 s.vm) (eT : T.heap = h) (A : Ai Z h a .byte n f) (hd : decode c.code pc = .ok (.baload, 1)) (h0 : ¬ j < 0) (hn : j.toNatClampNeg < n) (hv : f j.toNatClampNeg = v) (hp : pc + 1 = pc') (r : WGo p e below s kc ks Q T (mkF m pc' Ls (v :: st))) : WGo p e below s kc ks Q T (mkF m pc Ls (.int j :: .ref a :: st)) := by
  subst hp hv
  obtain ⟨cl, A, S, B, H⟩ := A
  exact r.go fun t k => X.baloadBytes hx (by rw [eT]; exact A.1) (State.isArrayOf_alike hZ.alike A.2.1) A.2.2 (Ai.inb S h0 hn) (H _ hn) (g := mkF m pc Ls (.int j :: .ref a :: st)) rfl rfl hd t k
theorem g_baloadZ {a : Addr} {n : Nat} {f : Nat → Value} {j : Int32} {v : Value} (X : Stand p l e R s m args below meth c T locs cells slots) (hx : p.tables.exec = Jvm.exec) (hZ : Z.Warmed39 s.vm) (eT : T.heap = h) (A : Ai Z h a .boolean n f) (hd : decode c.code pc = .ok (.baload, 1)) (h0 : ¬ j < 0) (hn : j.toNatClampNeg < n) (hv : f j.toNatClampNeg = v) (hp : pc + 1 = pc') (r : WGo p e below s kc ks Q T (mkF m pc' Ls (v :: st))) : WGo p e below s kc ks Q T (mkF m pc Ls (.int j :: .ref a :: st)) := by
  subst hp hv
  obtain ⟨cl, A, S, B, H⟩ := A
  exact r.go fun t k => X.baloadBooleans hx (by rw [eT]; exact A.1) (State.isArrayOf_alike hZ.alike A.2.1) A.2.2 (Ai.inb S h0 hn) (H _ hn) (g := mkF m pc Ls (.int j :: .ref a :: st)) rfl rfl hd t k
theorem g_aaload {a : Addr} {ty : FieldType} {n : Nat} {f : Nat → Value} {j : Int32} {v : Value} (X : Stand p l e R s m args below meth c T locs cells slots) (hx : p.tables.exec = Jvm.exec) (hZ : Z.Warmed39 s.vm) (eT : T.heap = h) (hty : ty.isReference = true) (A : Ai Z h a ty n f) (hd : decode c.code pc = .ok (.aaload, 1)) (h0 : ¬ j < 0) (hn : j.toNatClampNeg < n) (hv : f j.toNatClampNeg = v) (hp : pc + 1 = pc') (r : WGo p e below s kc ks Q T (mkF m pc' Ls (v :: st))) : WGo p e below s kc ks Q T (mkF m pc Ls (.int j :: .ref a :: st)) := by
  subst hp hv
  obtain ⟨cl, A, S, B, H⟩ := A
  exact r.go fun t k => X.aaload hx (by rw [eT]; exact A.1) (State.isArrayOf_alike hZ.alike A.2.1) hty A.2.2 (Ai.inb S h0 hn) (H _ hn) (g := mkF m pc Ls (.int j :: .ref a :: st)) rfl rfl hd t k
theorem g_iastore {a : Addr} {n : Nat} {f : Nat → Value} {j : Int32} (X : Stand p l e R s m args below meth c T locs cells slots) (hx : p.tables.exec = Jvm.exec) (hZ : Z.Warmed39 s.vm) (eT : T.heap = h) (A : Ai Z h a .int n f) (hd : decode c.code pc = .ok (.iastore, 1)) (h0 : ¬ j < 0) (hn : j.toNatClampNeg < n) (hp : pc + 1 = pc')
    (r : ∀ T' h', Stand p l e R s m args below meth c T' (locs ++ [⟨a, j.toNatClampNeg⟩]) cells slots → T'.heap = h' → Wr h h' a j.toNatClampNeg (.int x) → Ai Z h' a .int n (upd f j.toNatClampNeg (.int x)) → WGo p e below s kc ks Q T' (mkF m pc' Ls st)) : WGo p e below s kc ks Q T (mkF m pc Ls (.int x :: .int j :: .ref a :: st)) := by
  subst hp
  have A0 := A
  obtain ⟨cl, A, S, B, H⟩ := A
  obtain ⟨T', h', X', e', W, k⟩ := stI X hx hZ eT A (Ai.inb S h0 hn) (g := mkF m pc Ls (.int x :: .int j :: .ref a :: st)) rfl rfl hd
  exact (r T' h' X' e' W (A0.set W)).go k
theorem g_lastore {a : Addr} {n : Nat} {f : Nat → Value} {j : Int32} (X : Stand p l e R s m args below meth c T locs cells slots) (hx : p.tables.exec = Jvm.exec) (hZ : Z.Warmed39 s.vm) (eT : T.heap = h) (A : Ai Z h a .long n f) (hd : decode c.code pc = .ok (.lastore, 1)) (h0 : ¬ j < 0) (hn : j.toNatClampNeg < n) (hp : pc + 1 = pc')
    (r : ∀ T' h', Stand p l e R s m args below meth c T' (locs ++ [⟨a, j.toNatClampNeg⟩]) cells slots → T'.heap = h' → Wr h h' a j.toNatClampNeg (.long u) → Ai Z h' a .long n (upd f j.toNatClampNeg (.long u)) → WGo p e below s kc ks Q T' (mkF m pc' Ls st)) : WGo p e below s kc ks Q T (mkF m pc Ls (.long u :: .int j :: .ref a :: st)) := by
  subst hp
  have A0 := A
  obtain ⟨cl, A, S, B, H⟩ := A
  obtain ⟨T', h', X', e', W, k⟩ := stJ X hx hZ eT A (Ai.inb S h0 hn) (g := mkF m pc Ls (.long u :: .int j :: .ref a :: st)) rfl rfl hd
  exact (r T' h' X' e' W (A0.set W)).go k
theorem g_bastoreB {a : Addr} {n : Nat} {f : Nat → Value} {j : Int32} (X : Stand p l e R s m args below meth c T locs cells slots) (hx : p.tables.exec = Jvm.exec) (hZ : Z.Warmed39 s.vm) (eT : T.heap = h) (A : Ai Z h a .byte n f) (hd : decode c.code pc = .ok (.bastore, 1)) (h0 : ¬ j < 0) (hn : j.toNatClampNeg < n) (hp : pc + 1 = pc')
    (r : ∀ T' h', Stand p l e R s m args below meth c T' (locs ++ [⟨a, j.toNatClampNeg⟩]) cells slots → T'.heap = h' → Wr h h' a j.toNatClampNeg (.int (nar .byte x)) → Ai Z h' a .byte n (upd f j.toNatClampNeg (.int (nar .byte x))) → WGo p e below s kc ks Q T' (mkF m pc' Ls st)) : WGo p e below s kc ks Q T (mkF m pc Ls (.int x :: .int j :: .ref a :: st)) := by
  subst hp
  have A0 := A
  obtain ⟨cl, A, S, B, H⟩ := A
  obtain ⟨T', h', X', e', W, k⟩ := stB X hx hZ eT A (Ai.inb S h0 hn) (g := mkF m pc Ls (.int x :: .int j :: .ref a :: st)) rfl rfl hd
  exact (r T' h' X' e' W (A0.set W)).go k
theorem g_bastoreZ {a : Addr} {n : Nat} {f : Nat → Value} {j : Int32} (X : Stand p l e R s m args below meth c T locs cells slots) (hx : p.tables.exec = Jvm.exec) (hZ : Z.Warmed39 s.vm) (eT : T.heap = h) (A : Ai Z h a .boolean n f) (hd : decode c.code pc = .ok (.bastore, 1)) (h0 : ¬ j < 0) (hn : j.toNatClampNeg < n) (hp : pc + 1 = pc')
    (r : ∀ T' h', Stand p l e R s m args below meth c T' (locs ++ [⟨a, j.toNatClampNeg⟩]) cells slots → T'.heap = h' → Wr h h' a j.toNatClampNeg (.int (nar .boolean x)) → Ai Z h' a .boolean n (upd f j.toNatClampNeg (.int (nar .boolean x))) → WGo p e below s kc ks Q T' (mkF m pc' Ls st)) : WGo p e below s kc ks Q T (mkF m pc Ls (.int x :: .int j :: .ref a :: st)) := by
  subst hp
  have A0 := A
  obtain ⟨cl, A, S, B, H⟩ := A
  obtain ⟨T', h', X', e', W, k⟩ := stZ X hx hZ eT A (Ai.inb S h0 hn) (g := mkF m pc Ls (.int x :: .int j :: .ref a :: st)) rfl rfl hd
  exact (r T' h' X' e' W (A0.set W)).go k
theorem g_aastore {a : Addr} {ty : FieldType} {v : Value} {n : Nat} {f : Nat → Value} {j : Int32} (X : Stand p l e R s m args below meth c T locs cells slots) (hx : p.tables.exec = Jvm.exec) (hZ : Z.Warmed39 s.vm) (eT : T.heap = h) (hty : ty.isReference = true) (F : Sto Z h a v) (A : Ai Z h a ty n f) (hd : decode c.code pc = .ok (.aastore, 1)) (h0 : ¬ j < 0) (hn : j.toNatClampNeg < n) (hp : pc + 1 = pc')
    (r : ∀ T' h', Stand p l e R s m args below meth c T' (locs ++ [⟨a, j.toNatClampNeg⟩]) cells slots → T'.heap = h' → Wr h h' a j.toNatClampNeg (v) → Ai Z h' a ty n (upd f j.toNatClampNeg (v)) → WGo p e below s kc ks Q T' (mkF m pc' Ls st)) : WGo p e below s kc ks Q T (mkF m pc Ls (v :: .int j :: .ref a :: st)) := by
  subst hp
  have A0 := A
  obtain ⟨cl, A, S, B, H⟩ := A
  obtain ⟨T', h', X', e', W, k⟩ := stR X hx hZ eT A (Ai.inb S h0 hn) hty F (g := mkF m pc Ls (v :: .int j :: .ref a :: st)) rfl rfl hd
  exact (r T' h' X' e' W (A0.set W)).go k
/-! arrays of ints, bytes, booleans by the list of what they hold; arrays of longs too -/
def Al (Z : State) (h : Heap) (a : Addr) (ty : FieldType) (n : Nat) (L : List Int32) : Prop := L.length = n ∧ Ai Z h a ty n (fun i => .int (L.getD i 0))
def Aj (Z : State) (h : Heap) (a : Addr) (ty : FieldType) (n : Nat) (L : List Int64) : Prop := L.length = n ∧ Ai Z h a ty n (fun i => .long (L.getD i 0))
section Lists
variable {h' : Heap} {a b : Addr} {ty : FieldType} {n sl k : Nat} {v : Value} {L : List Int32} {M : List Int64} {ws : List Addr}
theorem Al.lt (A : Al Z h a ty n L) : a < h.size := A.2.lt
theorem Aj.lt (A : Aj Z h a ty n M) : a < h.size := A.2.lt
theorem Al.ext (A : Al Z h a ty n L) (E : Ext h h') : Al Z h' a ty n L := ⟨A.1, A.2.ext E⟩
theorem Aj.ext (A : Aj Z h a ty n M) (E : Ext h h') : Aj Z h' a ty n M := ⟨A.1, A.2.ext E⟩
theorem Al.other (A : Al Z h b ty n L) (W : Wr h h' a sl v) (q : b ≠ a) : Al Z h' b ty n L := ⟨A.1, A.2.other W q⟩
theorem Aj.other (A : Aj Z h b ty n M) (W : Wr h h' a sl v) (q : b ≠ a) : Aj Z h' b ty n M := ⟨A.1, A.2.other W q⟩
theorem Al.keep (A : Al Z h a ty n L) (K : Keep h h' ws) (q : a ∉ ws) : Al Z h' a ty n L := ⟨A.1, A.2.keep K q⟩
theorem Aj.keep (A : Aj Z h a ty n M) (K : Keep h h' ws) (q : a ∉ ws) : Aj Z h' a ty n M := ⟨A.1, A.2.keep K q⟩
theorem Al.new (A : Ai Z h a ty n (fun _ => .int 0)) : Al Z h a ty n (List.replicate n 0) := ⟨by simp, A.fn fun i hi => by simp [List.getD, hi]⟩
theorem Aj.new (A : Ai Z h a ty n (fun _ => .long 0)) : Aj Z h a ty n (List.replicate n 0) := ⟨by simp, A.fn fun i hi => by simp [List.getD, hi]⟩
theorem Al.set (A : Al Z h a ty n L) (B : Ai Z h' a ty n (upd (fun i => .int (L.getD i 0)) k (.int x))) : Al Z h' a ty n (L.set k x) := ⟨by simp [A.1], B.fn fun i hi => by
  by_cases q : i = k
  · subst q; rw [upd_at]; simp [List.getD, A.1, hi]
  · rw [upd_ne _ _ q]; simp [List.getD, List.getElem?_set_ne (Ne.symm q)]⟩
theorem Aj.set (A : Aj Z h a ty n M) (B : Ai Z h' a ty n (upd (fun i => .long (M.getD i 0)) k (.long u))) : Aj Z h' a ty n (M.set k u) := ⟨by simp [A.1], B.fn fun i hi => by
  by_cases q : i = k
  · subst q; rw [upd_at]; simp [List.getD, A.1, hi]
  · rw [upd_ne _ _ q]; simp [List.getD, List.getElem?_set_ne (Ne.symm q)]⟩
end Lists
/-! instanceof, checkcast -/
theorem g_instY {own K : String} {index : Nat} {a : Addr} (X : Stand p l e R s m args below meth c T locs cells slots) (hx : p.tables.exec = Jvm.exec) (hZ : Z.Warmed39 s.vm) (hown : s.vm.findClass own = some m.cls) (wd : (Jvm.Cond.classLink own index K).before a0 Z = true) (eT : T.heap = h) (F : Ins Z h a K true) (hd : decode c.code pc = .ok (.instanceof index, 3)) (hp : pc + 3 = pc')
    (r : ∀ T', Stand p l e R s m args below meth c T' locs cells slots → T'.heap = h → WGo p e below s kc ks Q T' (mkF m pc' Ls (.int 1 :: st))) : WGo p e below s kc ks Q T (mkF m pc Ls (.ref a :: st)) := by
  subst hp
  obtain ⟨T', X', e', k⟩ := instY X hx hZ hown wd eT F (g := mkF m pc Ls (.ref a :: st)) rfl rfl hd
  exact (r T' X' e').go k
theorem g_instN {own K C : String} {index : Nat} {a : Addr} (X : Stand p l e R s m args below meth c T locs cells slots) (hx : p.tables.exec = Jvm.exec) (hZ : Z.Warmed39 s.vm) (hown : s.vm.findClass own = some m.cls) (wd : (Jvm.Cond.classLink own index K).before a0 Z = true) (eT : T.heap = h) (E : Exa Z h a C) (F : ∃ c t, Z.vm.findClass C = some c ∧ Z.vm.findClass K = some t ∧ Z.vm.assignable c t = false) (hd : decode c.code pc = .ok (.instanceof index, 3)) (hp : pc + 3 = pc')
    (r : ∀ T', Stand p l e R s m args below meth c T' locs cells slots → T'.heap = h → WGo p e below s kc ks Q T' (mkF m pc' Ls (.int 0 :: st))) : WGo p e below s kc ks Q T (mkF m pc Ls (.ref a :: st)) := by
  subst hp
  obtain ⟨T', X', e', k⟩ := instNo X hx hZ hown wd eT E F (g := mkF m pc Ls (.ref a :: st)) rfl rfl hd
  exact (r T' X' e').go k
theorem g_inst0 {index : Nat} (X : Stand p l e R s m args below meth c T locs cells slots) (hx : p.tables.exec = Jvm.exec) (hd : decode c.code pc = .ok (.instanceof index, 3)) (hp : pc + 3 = pc') (r : WGo p e below s kc ks Q T (mkF m pc' Ls (.int 0 :: st))) : WGo p e below s kc ks Q T (mkF m pc Ls (.null :: st)) := by
  subst hp; exact r.go fun t k => X.instanceofNull hx (g := mkF m pc Ls (.null :: st)) rfl rfl hd t k
theorem g_castY {own K : String} {index : Nat} {a : Addr} (X : Stand p l e R s m args below meth c T locs cells slots) (hx : p.tables.exec = Jvm.exec) (hZ : Z.Warmed39 s.vm) (hown : s.vm.findClass own = some m.cls) (wd : (Jvm.Cond.classLink own index K).before a0 Z = true) (eT : T.heap = h) (F : Ins Z h a K true) (hd : decode c.code pc = .ok (.checkcast index, 3)) (hp : pc + 3 = pc')
    (r : ∀ T', Stand p l e R s m args below meth c T' locs cells slots → T'.heap = h → WGo p e below s kc ks Q T' (mkF m pc' Ls (.ref a :: st))) : WGo p e below s kc ks Q T (mkF m pc Ls (.ref a :: st)) := by
  subst hp
  obtain ⟨T', X', e', k⟩ := castY X hx hZ hown wd eT F (g := mkF m pc Ls (.ref a :: st)) rfl rfl hd
  exact (r T' X' e').go k
end OwnKit

theorem pd_0 : parseMethodDescriptor "(I)I" = some ⟨[.int], some .int⟩ := by decide +kernel
theorem pd_1 : parseMethodDescriptor "(JJ)J" = some ⟨[.long, .long], some .long⟩ := by decide +kernel
theorem pd_2 : parseMethodDescriptor "(J)I" = some ⟨[.long], some .int⟩ := by decide +kernel
theorem pd_3 : parseMethodDescriptor "()J" = some ⟨[], some .long⟩ := by decide +kernel
theorem pd_4 : parseMethodDescriptor "(I)J" = some ⟨[.int], some .long⟩ := by decide +kernel
theorem pd_5 : parseMethodDescriptor "(JJJ)Z" = some ⟨[.long, .long, .long], some .boolean⟩ := by decide +kernel
theorem pd_6 : parseMethodDescriptor "(J)V" = some ⟨[.long], none⟩ := by decide +kernel
theorem pd_7 : parseMethodDescriptor "(JJJ)V" = some ⟨[.long, .long, .long], none⟩ := by decide +kernel
theorem pd_8 : parseMethodDescriptor "()V" = some ⟨[], none⟩ := by decide +kernel
theorem pd_9 : parseMethodDescriptor "()I" = some ⟨[], some .int⟩ := by decide +kernel

def minJ (u w : Int64) : Int64 := if w < u then w else u
theorem div1 (u : Int64) : u / (1 : Int64) = u := by
  rw [← Int64.toInt_inj, Int64.toInt_div_of_ne_right u 1 (by decide)]
  show Int.tdiv u.toInt 1 = u.toInt
  exact Int.tdiv_one _
theorem mul1 (u : Int64) : u * (1 : Int64) = u := Int64.mul_one u
theorem up_ge (s : Int64) (k : Int64) (hk : k = 1) : ¬ ((s + k) - s) < 0 := by
  have e : (s + k) - s = 1 := by
    subst hk
    rw [← Int64.toInt_inj]
    have a := c_ladd s 1; have b := c_lsub (s + 1) s; have r := rng64 (s + 1); have r2 := rng64 ((s + 1) - s); have r3 := rng64 s
    simp only [Int64.reduceToInt] at *
    omega
  rw [e]; decide
theorem up_ge2 (s : Int64) : ¬ ((s + (2 : Int64)) - (s + (1 : Int64))) < 0 := by
  have e : (s + (2 : Int64)) - (s + (1 : Int64)) = 1 := by
    rw [← Int64.toInt_inj]
    have a := c_ladd s 1; have a2 := c_ladd s 2; have b := c_lsub (s + 2) (s + 1); have r := rng64 (s + 1); have r2 := rng64 (s + 2); have r3 := rng64 s; have r4 := rng64 ((s + 2) - (s + 1))
    simp only [Int64.reduceToInt] at *
    omega
  rw [e]; decide
theorem up_ne (s : Int64) : ¬ s = s + (1 : Int64) := by
  intro q
  rw [← Int64.toInt_inj] at q
  have a := c_ladd s 1
  simp only [Int64.reduceToInt] at *
  omega
theorem up_ne2 (s : Int64) : ¬ s + (1 : Int64) = s + (2 : Int64) := by
  intro q
  rw [← Int64.toInt_inj] at q
  have a := c_ladd s 1; have a2 := c_ladd s 2
  simp only [Int64.reduceToInt] at *
  omega
theorem tot1 (a b : Int64) : (((0 : Int64) + a) + b) - a = b := by
  rw [← Int64.toInt_inj]
  have e1 := c_ladd 0 a; have e2 := c_ladd (0 + a) b; have e3 := c_lsub ((0 + a) + b) a
  have r1 := rng64 (0 + a); have r2 := rng64 ((0 + a) + b); have r3 := rng64 (((0 + a) + b) - a); have r4 := rng64 a; have r5 := rng64 b
  simp only [Int64.reduceToInt] at *
  omega
theorem tot2 (b d : Int64) : (b + d) - b = d := by
  rw [← Int64.toInt_inj]
  have e2 := c_ladd b d; have e3 := c_lsub (b + d) b
  have r2 := rng64 (b + d); have r3 := rng64 ((b + d) - b); have r4 := rng64 b; have r5 := rng64 d
  omega

theorem d1_0 : decode jdk_29_method_70_code 0 = .ok (.lload_n 0, 1) := by decide +kernel
theorem d1_1 : decode jdk_29_method_70_code 1 = .ok (.lload_n 2, 1) := by decide +kernel
theorem d1_2 : decode jdk_29_method_70_code 2 = .ok (.lcmp, 1) := by decide +kernel
theorem d1_3 : decode jdk_29_method_70_code 3 = .ok (.ifCond .gt 7, 3) := by decide +kernel
theorem d1_6 : decode jdk_29_method_70_code 6 = .ok (.lload_n 0, 1) := by decide +kernel
theorem d1_7 : decode jdk_29_method_70_code 7 = .ok (.goto 4, 3) := by decide +kernel
theorem d1_10 : decode jdk_29_method_70_code 10 = .ok (.lload_n 2, 1) := by decide +kernel
theorem d1_11 : decode jdk_29_method_70_code 11 = .ok (.lreturn, 1) := by decide +kernel
theorem pl_1 : plainFor (⟨"java/lang/Math", "min", "(JJ)J"⟩ : MethodName) = true := Jvm.Free.JP.mathPlain rfl (by decide +kernel)
theorem ef_rmMin (m : MethodId) (z0 : Int64) (z1 : Int64) : entryFrame m #[(.long z0), (.long z1)] 4 = mkF m 0 #[.val (.long z0), .second, .val (.long z1), .second] [] := by first | (simp [entryFrame, mkF, argsToLocals, Value.category]; done) | rfl
set_option maxRecDepth 65536 in
set_option maxHeartbeats 40000000 in
theorem rmMin (l : Launch) (Z : State) (a0 : Array Value) (hw : ∀ d ∈ tables_1, d.before a0 Z = true) (u : Int64) (w : Int64) (h0 : Heap) (n0 : Nat) (Zn : n0 ≤ h0.size)   :
    WCt l Z (⟨"java/lang/Math", "min", "(JJ)J"⟩ : MethodName) jdk_29_method_70_code 4 (some .long) ({ frames := 0, cells := 0, slots := 0, locals := 0 } : Room) #[(.long u), (.long w)] h0 (fun vv hh LL => (vv = some (.long (minJ u w))) ∧ (Fr n0 LL) ∧ (hh = h0)) := by
  refine WCt.of pl_1 ?_
  intro p e s m below meth c T hx hby hml hown hnm hret hlk hZ hh0 X eT
  have hown : s.vm.findClass "java/lang/Math" = some m.cls := hown
  have hnm : meth.name = "min" := hnm
  have N := Fr.nil n0
  obtain ⟨h, eh⟩ : ∃ h, h = h0 := ⟨_, rfl⟩
  have K : Keep h0 h [] := by rw [eh]; exact Keep.refl _ _
  refine WGo.cast (ef_rmMin m u w) ?_
  rw [← eh] at eT Zn 
  refine g_lloadN X hx (hb hby d1_0) rfl (pc' := 1) rfl ?_
  refine g_lloadN X hx (hb hby d1_1) rfl (pc' := 2) rfl ?_
  refine g_lcmp X hx (hb hby d1_2) (pc' := 3) rfl ?_
  refine g_if X hx (hb hby d1_3) (by decide) (pc' := 10) (by decide) (pc2 := 6) rfl (fun hc => ?_) (fun hc => ?_)
  · replace hc := h_gt1 hc
    simp only [cl_lt, cl_gt, cl_eq] at hc
    have hc3 := hc
    refine g_lloadN X hx (hb hby d1_10) rfl (pc' := 11) rfl ?_
    refine g_retJ X hx hret hlk (hb hby d1_11) (by decide) (by decide) ?_
    rw [eT]
    refine ⟨?_, N, eh⟩
    simp [minJ, hc3]
  · replace hc := h_gt0 hc
    simp only [cl_lt, cl_gt, cl_eq] at hc
    have hc3 := hc
    refine g_lloadN X hx (hb hby d1_6) rfl (pc' := 7) rfl ?_
    refine g_goto X hx (hb hby d1_7) (by decide) (pc' := 11) (by decide) ?_
    refine g_retJ X hx hret hlk (hb hby d1_11) (by decide) (by decide) ?_
    rw [eT]
    refine ⟨?_, N, eh⟩
    simp [minJ, hc3]
theorem d10_0 : decode jdk_29_method_49_code 0 = .ok (.lload_n 0, 1) := by decide +kernel
theorem d10_1 : decode jdk_29_method_49_code 1 = .ok (.lload_n 2, 1) := by decide +kernel
theorem d10_2 : decode jdk_29_method_49_code 2 = .ok (.ldiv, 1) := by decide +kernel
theorem d10_3 : decode jdk_29_method_49_code 3 = .ok (.lstore 4, 2) := by decide +kernel
theorem d10_5 : decode jdk_29_method_49_code 5 = .ok (.lload_n 0, 1) := by decide +kernel
theorem d10_6 : decode jdk_29_method_49_code 6 = .ok (.lload_n 2, 1) := by decide +kernel
theorem d10_7 : decode jdk_29_method_49_code 7 = .ok (.lxor, 1) := by decide +kernel
theorem d10_8 : decode jdk_29_method_49_code 8 = .ok (.lconst 0, 1) := by decide +kernel
theorem d10_9 : decode jdk_29_method_49_code 9 = .ok (.lcmp, 1) := by decide +kernel
theorem d10_10 : decode jdk_29_method_49_code 10 = .ok (.ifCond .ge 17, 3) := by decide +kernel
theorem d10_13 : decode jdk_29_method_49_code 13 = .ok (.lload 4, 2) := by decide +kernel
theorem d10_15 : decode jdk_29_method_49_code 15 = .ok (.lload_n 2, 1) := by decide +kernel
theorem d10_16 : decode jdk_29_method_49_code 16 = .ok (.lmul, 1) := by decide +kernel
theorem d10_17 : decode jdk_29_method_49_code 17 = .ok (.lload_n 0, 1) := by decide +kernel
theorem d10_18 : decode jdk_29_method_49_code 18 = .ok (.lcmp, 1) := by decide +kernel
theorem d10_19 : decode jdk_29_method_49_code 19 = .ok (.ifCond .eq 8, 3) := by decide +kernel
theorem d10_22 : decode jdk_29_method_49_code 22 = .ok (.lload 4, 2) := by decide +kernel
theorem d10_24 : decode jdk_29_method_49_code 24 = .ok (.lconst 1, 1) := by decide +kernel
theorem d10_25 : decode jdk_29_method_49_code 25 = .ok (.lsub, 1) := by decide +kernel
theorem d10_26 : decode jdk_29_method_49_code 26 = .ok (.lreturn, 1) := by decide +kernel
theorem d10_27 : decode jdk_29_method_49_code 27 = .ok (.lload 4, 2) := by decide +kernel
theorem d10_29 : decode jdk_29_method_49_code 29 = .ok (.lreturn, 1) := by decide +kernel
theorem pl_10 : plainFor (⟨"java/lang/Math", "floorDiv", "(JJ)J"⟩ : MethodName) = true := Jvm.Free.JP.mathPlain rfl (by decide +kernel)
theorem ef_rmFD (m : MethodId) (z0 : Int64) (z1 : Int64) : entryFrame m #[(.long z0), (.long z1)] 6 = mkF m 0 #[.val (.long z0), .second, .val (.long z1), .second, .unset, .unset] [] := by first | (simp [entryFrame, mkF, argsToLocals, Value.category]; done) | rfl
set_option maxRecDepth 65536 in
set_option maxHeartbeats 40000000 in
theorem rmFD (l : Launch) (Z : State) (a0 : Array Value) (hw : ∀ d ∈ tables_1, d.before a0 Z = true) (u : Int64) (h0 : Heap) (n0 : Nat) (Zn : n0 ≤ h0.size)   :
    WCt l Z (⟨"java/lang/Math", "floorDiv", "(JJ)J"⟩ : MethodName) jdk_29_method_49_code 6 (some .long) ({ frames := 0, cells := 0, slots := 0, locals := 0 } : Room) #[(.long u), (.long (1 : Int64))] h0 (fun vv hh LL => (vv = some (.long u)) ∧ (Fr n0 LL) ∧ (hh = h0)) := by
  refine WCt.of pl_10 ?_
  intro p e s m below meth c T hx hby hml hown hnm hret hlk hZ hh0 X eT
  have hown : s.vm.findClass "java/lang/Math" = some m.cls := hown
  have hnm : meth.name = "floorDiv" := hnm
  have N := Fr.nil n0
  obtain ⟨h, eh⟩ : ∃ h, h = h0 := ⟨_, rfl⟩
  have K : Keep h0 h [] := by rw [eh]; exact Keep.refl _ _
  refine WGo.cast (ef_rmFD m u (1 : Int64)) ?_
  rw [← eh] at eT Zn 
  refine g_lloadN X hx (hb hby d10_0) rfl (pc' := 1) rfl ?_
  refine g_lloadN X hx (hb hby d10_1) rfl (pc' := 2) rfl ?_
  refine g_ldiv X hx (hb hby d10_2) (by decide) (pc' := 3) rfl ?_
  refine g_lstore X hx (hb hby d10_3) (Ls' := #[.val (.long u), .second, .val (.long (1 : Int64)), .second, .val (.long (u / (1 : Int64))), .second]) rfl (pc' := 5) rfl ?_
  refine g_lloadN X hx (hb hby d10_5) rfl (pc' := 6) rfl ?_
  refine g_lloadN X hx (hb hby d10_6) rfl (pc' := 7) rfl ?_
  refine g_lxor X hx (hb hby d10_7) (pc' := 8) rfl ?_
  refine g_lconst X hx (hb hby d10_8) (u := (0 : Int64)) (by decide) (pc' := 9) rfl ?_
  refine g_lcmp X hx (hb hby d10_9) (pc' := 10) rfl ?_
  refine g_if X hx (hb hby d10_10) (by decide) (pc' := 27) (by decide) (pc2 := 13) rfl (fun hc => ?_) (fun hc => ?_)
  · replace hc := h_ge1 hc
    simp only [cl_lt, cl_gt, cl_eq] at hc
    have hc10 := hc
    refine g_lload X hx (hb hby d10_27) rfl (pc' := 29) rfl ?_
    refine g_retJ X hx hret hlk (hb hby d10_29) (by decide) (by decide) ?_
    rw [eT]
    exact ⟨by rw [div1], N, eh⟩
  · replace hc := h_ge0 hc
    simp only [cl_lt, cl_gt, cl_eq] at hc
    have hc10 := hc
    refine g_lload X hx (hb hby d10_13) rfl (pc' := 15) rfl ?_
    refine g_lloadN X hx (hb hby d10_15) rfl (pc' := 16) rfl ?_
    refine g_lmul X hx (hb hby d10_16) (pc' := 17) rfl ?_
    refine g_lloadN X hx (hb hby d10_17) rfl (pc' := 18) rfl ?_
    refine g_lcmp X hx (hb hby d10_18) (pc' := 19) rfl ?_
    refine g_if X hx (hb hby d10_19) (by decide) (pc' := 27) (by decide) (pc2 := 22) rfl (fun hc => ?_) (fun hc => ?_)
    · replace hc := h_eq1 hc
      simp only [cl_lt, cl_gt, cl_eq] at hc
      have hc19 := hc
      refine g_lload X hx (hb hby d10_27) rfl (pc' := 29) rfl ?_
      refine g_retJ X hx hret hlk (hb hby d10_29) (by decide) (by decide) ?_
      rw [eT]
      exact ⟨by rw [div1], N, eh⟩
    · replace hc := h_eq0 hc
      simp only [cl_lt, cl_gt, cl_eq] at hc
      have hc19 := hc
      exfalso
      exact hc (by rw [div1, mul1])
theorem d6_0 : decode prog_4_method_16_code 0 = .ok (.aload_n 0, 1) := by decide +kernel
theorem d6_1 : decode prog_4_method_16_code 1 = .ok (.getfield 67, 3) := by decide +kernel
theorem d6_4 : decode prog_4_method_16_code 4 = .ok (.iload_n 1, 1) := by decide +kernel
theorem d6_5 : decode prog_4_method_16_code 5 = .ok (.iadd, 1) := by decide +kernel
theorem d6_6 : decode prog_4_method_16_code 6 = .ok (.aload_n 0, 1) := by decide +kernel
theorem d6_7 : decode prog_4_method_16_code 7 = .ok (.getfield 7, 3) := by decide +kernel
theorem d6_10 : decode prog_4_method_16_code 10 = .ok (.arraylength, 1) := by decide +kernel
theorem d6_11 : decode prog_4_method_16_code 11 = .ok (.iconst 1, 1) := by decide +kernel
theorem d6_12 : decode prog_4_method_16_code 12 = .ok (.isub, 1) := by decide +kernel
theorem d6_13 : decode prog_4_method_16_code 13 = .ok (.iand, 1) := by decide +kernel
theorem d6_14 : decode prog_4_method_16_code 14 = .ok (.ireturn, 1) := by decide +kernel
theorem pl_6 : plainFor (⟨"com/example/valved/valved/admission/Entries", "at", "(I)I"⟩ : MethodName) = true := plainFor_of_name (by first | (simp [plainName, overriddenIn]; done) | decide +kernel)
theorem ef_rmAt (m : MethodId) (z0 : Addr) (z1 : Int32) : entryFrame m #[(.ref z0), (.int z1)] 2 = mkF m 0 #[.val (.ref z0), .val (.int z1)] [] := by first | (simp [entryFrame, mkF, argsToLocals, Value.category]; done) | rfl
set_option maxRecDepth 65536 in
set_option maxHeartbeats 40000000 in
theorem rmAt (l : Launch) (Z : State) (a0 : Array Value) (hw : ∀ d ∈ tables_1, d.before a0 Z = true) (q : Addr) (r1 : Addr) (o : Int32) (i : Int32) (z : Int32) (L : List Int64) (h0 : Heap) (n0 : Nat) (Zn : n0 ≤ h0.size) (F_q_oldest : Fld Z h0 q "com/example/valved/valved/admission/Entries" "oldest" "I" (.int o)) (F_q_stamps : Fld Z h0 q "com/example/valved/valved/admission/Entries" "stamps" "[J" (.ref r1)) (A_r1 : Aj Z h0 r1 .long 2 L) (hz : ((o + i) &&& (1 : Int32)) = z) :
    WCt l Z (⟨"com/example/valved/valved/admission/Entries", "at", "(I)I"⟩ : MethodName) prog_4_method_16_code 2 (some .int) ({ frames := 0, cells := 0, slots := 0, locals := 0 } : Room) #[(.ref q), (.int i)] h0 (fun vv hh LL => (vv = some (.int z)) ∧ (Fr n0 LL) ∧ (hh = h0)) := by
  refine WCt.of pl_6 ?_
  intro p e s m below meth c T hx hby hml hown hnm hret hlk hZ hh0 X eT
  have hown : s.vm.findClass "com/example/valved/valved/admission/Entries" = some m.cls := hown
  have hnm : meth.name = "at" := hnm
  have N := Fr.nil n0
  obtain ⟨h, eh⟩ : ∃ h, h = h0 := ⟨_, rfl⟩
  have K : Keep h0 h [] := by rw [eh]; exact Keep.refl _ _
  refine WGo.cast (ef_rmAt m q i) ?_
  rw [← eh] at eT Zn F_q_oldest F_q_stamps A_r1
  refine g_aloadN X hx (hb hby d6_0) rfl rfl (pc' := 1) rfl ?_
  refine g_getF X hx hZ hown (hw _ (List.mem_of_getElem? (i := 39) rfl)) eT F_q_oldest (hb hby d6_1) (pc' := 4) rfl (fun T X eT => ?_)
  refine g_iloadN X hx (hb hby d6_4) rfl (pc' := 5) rfl ?_
  refine g_iadd X hx (hb hby d6_5) (pc' := 6) rfl ?_
  refine g_aloadN X hx (hb hby d6_6) rfl rfl (pc' := 7) rfl ?_
  refine g_getF X hx hZ hown (hw _ (List.mem_of_getElem? (i := 16) rfl)) eT F_q_stamps (hb hby d6_7) (pc' := 10) rfl (fun T X eT => ?_)
  refine g_len X hx hZ eT A_r1.2 (hb hby d6_10) (x := (2 : Int32)) (by decide) (pc' := 11) rfl ?_
  refine g_iconst X hx (hb hby d6_11) (x := (1 : Int32)) (by decide) (pc' := 12) rfl ?_
  refine g_isub X hx (hb hby d6_12) (pc' := 13) rfl ?_
  rw [show ((2 : Int32) - (1 : Int32)) = (1 : Int32) from by decide]
  refine g_iand X hx (hb hby d6_13) (pc' := 14) rfl ?_
  refine g_retI X hx hret hlk (hb hby d6_14) (by decide) (by decide) ?_
  rw [eT]
  exact ⟨by rw [hz], N, eh⟩
theorem d8_0 : decode prog_4_method_6_code 0 = .ok (.aload_n 0, 1) := by decide +kernel
theorem d8_1 : decode prog_4_method_6_code 1 = .ok (.getfield 7, 3) := by decide +kernel
theorem d8_4 : decode prog_4_method_6_code 4 = .ok (.aload_n 0, 1) := by decide +kernel
theorem d8_5 : decode prog_4_method_6_code 5 = .ok (.iload_n 1, 1) := by decide +kernel
theorem d8_6 : decode prog_4_method_6_code 6 = .ok (.invokevirtual 31, 3) := by decide +kernel
theorem d8_9 : decode prog_4_method_6_code 9 = .ok (.laload, 1) := by decide +kernel
theorem d8_10 : decode prog_4_method_6_code 10 = .ok (.lreturn, 1) := by decide +kernel
theorem pl_8 : plainFor (⟨"com/example/valved/valved/admission/Entries", "stamp", "(I)J"⟩ : MethodName) = true := plainFor_of_name (by first | (simp [plainName, overriddenIn]; done) | decide +kernel)
theorem ef_rmSt (m : MethodId) (z0 : Addr) (z1 : Int32) : entryFrame m #[(.ref z0), (.int z1)] 2 = mkF m 0 #[.val (.ref z0), .val (.int z1)] [] := by first | (simp [entryFrame, mkF, argsToLocals, Value.category]; done) | rfl
set_option maxRecDepth 65536 in
set_option maxHeartbeats 40000000 in
theorem rmSt (l : Launch) (Z : State) (a0 : Array Value) (hw : ∀ d ∈ tables_1, d.before a0 Z = true) (q : Addr) (r1 : Addr) (o : Int32) (i : Int32) (k : Int32) (L : List Int64) (u : Int64) (h0 : Heap) (n0 : Nat) (Zn : n0 ≤ h0.size) (E_q : Exa Z h0 q "com/example/valved/valved/admission/Entries") (F_q_oldest : Fld Z h0 q "com/example/valved/valved/admission/Entries" "oldest" "I" (.int o)) (F_q_stamps : Fld Z h0 q "com/example/valved/valved/admission/Entries" "stamps" "[J" (.ref r1)) (A_r1 : Aj Z h0 r1 .long 2 L) (hz : ((o + i) &&& (1 : Int32)) = k) (hk0 : ¬ k < 0) (hk1 : k.toNatClampNeg < 2) (hu : L.getD k.toNatClampNeg 0 = u) :
    WCt l Z (⟨"com/example/valved/valved/admission/Entries", "stamp", "(I)J"⟩ : MethodName) prog_4_method_6_code 2 (some .long) ({ frames := 1, cells := 0, slots := 0, locals := 14 } : Room) #[(.ref q), (.int i)] h0 (fun vv hh LL => (vv = some (.long u)) ∧ (Fr n0 LL) ∧ (hh = h0)) := by
  refine WCt.of pl_8 ?_
  intro p e s m below meth c T hx hby hml hown hnm hret hlk hZ hh0 X eT
  have hown : s.vm.findClass "com/example/valved/valved/admission/Entries" = some m.cls := hown
  have hnm : meth.name = "stamp" := hnm
  have N := Fr.nil n0
  obtain ⟨h, eh⟩ : ∃ h, h = h0 := ⟨_, rfl⟩
  have K : Keep h0 h [] := by rw [eh]; exact Keep.refl _ _
  refine WGo.cast (ef_rmSt m q i) ?_
  rw [← eh] at eT Zn E_q F_q_oldest F_q_stamps A_r1
  refine g_aloadN X hx (hb hby d8_0) rfl rfl (pc' := 1) rfl ?_
  refine g_getF X hx hZ hown (hw _ (List.mem_of_getElem? (i := 16) rfl)) eT F_q_stamps (hb hby d8_1) (pc' := 4) rfl (fun T X eT => ?_)
  refine g_aloadN X hx (hb hby d8_4) rfl rfl (pc' := 5) rfl ?_
  refine g_iloadN X hx (hb hby d8_5) rfl (pc' := 6) rfl ?_
  refine g_priv (W := 1) (argsL := [(.int i)]) (st := [(.ref r1)]) X hx hZ hown (hw _ (List.mem_of_getElem? (i := 35) rfl)) (hw _ (List.mem_of_getElem? (i := 36) rfl)) (hw _ (List.mem_of_getElem? (i := 37) rfl)) (hw _ (List.mem_of_getElem? (i := 38) rfl)) (hw _ (List.mem_of_getElem? (i := 8) rfl)) (hw _ (List.mem_of_getElem? (i := 7) rfl)) (by decide) E_q (rmAt l Z a0 hw q r1 o i k L h n0 Zn F_q_oldest F_q_stamps A_r1 hz) eT (by decide) (by decide) (by decide) (by decide) (lenOf pd_0 rfl) (by rw [hml]; rfl) rfl (Nat.le_of_eq rfl) (hb hby d8_6) (pc' := 9) rfl (fun T hn vq Lq X eT hQ => ?_)
  obtain ⟨rfl, Nq, hE⟩ := hQ
  replace N := Fr.app N Nq
  rw [hE] at eT; clear hE
  show WGo _ _ _ _ _ _ _ _ (mkF m 9 #[.val (.ref q), .val (.int i)] [(.int k), (.ref r1)])
  refine g_laload X hx hZ eT A_r1.2 (hb hby d8_9) hk0 hk1 (v := (.long u)) (congrArg Value.long hu) (pc' := 10) rfl ?_
  refine g_retJ X hx hret hlk (hb hby d8_10) (by decide) (by decide) ?_
  rw [eT]
  exact ⟨rfl, N, eh⟩
theorem d14_0 : decode prog_4_method_7_code 0 = .ok (.aload_n 0, 1) := by decide +kernel
theorem d14_1 : decode prog_4_method_7_code 1 = .ok (.getfield 13, 3) := by decide +kernel
theorem d14_4 : decode prog_4_method_7_code 4 = .ok (.aload_n 0, 1) := by decide +kernel
theorem d14_5 : decode prog_4_method_7_code 5 = .ok (.iload_n 1, 1) := by decide +kernel
theorem d14_6 : decode prog_4_method_7_code 6 = .ok (.invokevirtual 31, 3) := by decide +kernel
theorem d14_9 : decode prog_4_method_7_code 9 = .ok (.laload, 1) := by decide +kernel
theorem d14_10 : decode prog_4_method_7_code 10 = .ok (.lreturn, 1) := by decide +kernel
theorem pl_14 : plainFor (⟨"com/example/valved/valved/admission/Entries", "amount", "(I)J"⟩ : MethodName) = true := plainFor_of_name (by first | (simp [plainName, overriddenIn]; done) | decide +kernel)
theorem ef_rmAm (m : MethodId) (z0 : Addr) (z1 : Int32) : entryFrame m #[(.ref z0), (.int z1)] 2 = mkF m 0 #[.val (.ref z0), .val (.int z1)] [] := by first | (simp [entryFrame, mkF, argsToLocals, Value.category]; done) | rfl
set_option maxRecDepth 65536 in
set_option maxHeartbeats 40000000 in
theorem rmAm (l : Launch) (Z : State) (a0 : Array Value) (hw : ∀ d ∈ tables_1, d.before a0 Z = true) (q : Addr) (r1 : Addr) (r2 : Addr) (o : Int32) (i : Int32) (k : Int32) (L : List Int64) (M : List Int64) (u : Int64) (h0 : Heap) (n0 : Nat) (Zn : n0 ≤ h0.size) (E_q : Exa Z h0 q "com/example/valved/valved/admission/Entries") (F_q_oldest : Fld Z h0 q "com/example/valved/valved/admission/Entries" "oldest" "I" (.int o)) (F_q_stamps : Fld Z h0 q "com/example/valved/valved/admission/Entries" "stamps" "[J" (.ref r1)) (A_r1 : Aj Z h0 r1 .long 2 L) (F_q_amounts : Fld Z h0 q "com/example/valved/valved/admission/Entries" "amounts" "[J" (.ref r2)) (A_r2 : Aj Z h0 r2 .long 2 M) (hz : ((o + i) &&& (1 : Int32)) = k) (hk0 : ¬ k < 0) (hk1 : k.toNatClampNeg < 2) (hu : M.getD k.toNatClampNeg 0 = u) :
    WCt l Z (⟨"com/example/valved/valved/admission/Entries", "amount", "(I)J"⟩ : MethodName) prog_4_method_7_code 2 (some .long) ({ frames := 1, cells := 0, slots := 0, locals := 14 } : Room) #[(.ref q), (.int i)] h0 (fun vv hh LL => (vv = some (.long u)) ∧ (Fr n0 LL) ∧ (hh = h0)) := by
  refine WCt.of pl_14 ?_
  intro p e s m below meth c T hx hby hml hown hnm hret hlk hZ hh0 X eT
  have hown : s.vm.findClass "com/example/valved/valved/admission/Entries" = some m.cls := hown
  have hnm : meth.name = "amount" := hnm
  have N := Fr.nil n0
  obtain ⟨h, eh⟩ : ∃ h, h = h0 := ⟨_, rfl⟩
  have K : Keep h0 h [] := by rw [eh]; exact Keep.refl _ _
  refine WGo.cast (ef_rmAm m q i) ?_
  rw [← eh] at eT Zn E_q F_q_oldest F_q_stamps A_r1 F_q_amounts A_r2
  refine g_aloadN X hx (hb hby d14_0) rfl rfl (pc' := 1) rfl ?_
  refine g_getF X hx hZ hown (hw _ (List.mem_of_getElem? (i := 18) rfl)) eT F_q_amounts (hb hby d14_1) (pc' := 4) rfl (fun T X eT => ?_)
  refine g_aloadN X hx (hb hby d14_4) rfl rfl (pc' := 5) rfl ?_
  refine g_iloadN X hx (hb hby d14_5) rfl (pc' := 6) rfl ?_
  refine g_priv (W := 1) (argsL := [(.int i)]) (st := [(.ref r2)]) X hx hZ hown (hw _ (List.mem_of_getElem? (i := 35) rfl)) (hw _ (List.mem_of_getElem? (i := 36) rfl)) (hw _ (List.mem_of_getElem? (i := 37) rfl)) (hw _ (List.mem_of_getElem? (i := 38) rfl)) (hw _ (List.mem_of_getElem? (i := 8) rfl)) (hw _ (List.mem_of_getElem? (i := 7) rfl)) (by decide) E_q (rmAt l Z a0 hw q r1 o i k L h n0 Zn F_q_oldest F_q_stamps A_r1 hz) eT (by decide) (by decide) (by decide) (by decide) (lenOf pd_0 rfl) (by rw [hml]; rfl) rfl (Nat.le_of_eq rfl) (hb hby d14_6) (pc' := 9) rfl (fun T hn vq Lq X eT hQ => ?_)
  obtain ⟨rfl, Nq, hE⟩ := hQ
  replace N := Fr.app N Nq
  rw [hE] at eT; clear hE
  show WGo _ _ _ _ _ _ _ _ (mkF m 9 #[.val (.ref q), .val (.int i)] [(.int k), (.ref r2)])
  refine g_laload X hx hZ eT A_r2.2 (hb hby d14_9) hk0 hk1 (v := (.long u)) (congrArg Value.long hu) (pc' := 10) rfl ?_
  refine g_retJ X hx hret hlk (hb hby d14_10) (by decide) (by decide) ?_
  rw [eT]
  exact ⟨rfl, N, eh⟩
theorem d7_0 : decode prog_4_method_8_code 0 = .ok (.aload_n 0, 1) := by decide +kernel
theorem d7_1 : decode prog_4_method_8_code 1 = .ok (.getfield 7, 3) := by decide +kernel
theorem d7_4 : decode prog_4_method_8_code 4 = .ok (.aload_n 0, 1) := by decide +kernel
theorem d7_5 : decode prog_4_method_8_code 5 = .ok (.aload_n 0, 1) := by decide +kernel
theorem d7_6 : decode prog_4_method_8_code 6 = .ok (.getfield 20, 3) := by decide +kernel
theorem d7_9 : decode prog_4_method_8_code 9 = .ok (.iconst 1, 1) := by decide +kernel
theorem d7_10 : decode prog_4_method_8_code 10 = .ok (.isub, 1) := by decide +kernel
theorem d7_11 : decode prog_4_method_8_code 11 = .ok (.invokevirtual 31, 3) := by decide +kernel
theorem d7_14 : decode prog_4_method_8_code 14 = .ok (.laload, 1) := by decide +kernel
theorem d7_15 : decode prog_4_method_8_code 15 = .ok (.lreturn, 1) := by decide +kernel
theorem pl_7 : plainFor (⟨"com/example/valved/valved/admission/Entries", "newestStamp", "()J"⟩ : MethodName) = true := plainFor_of_name (by first | (simp [plainName, overriddenIn]; done) | decide +kernel)
theorem ef_rmNew (m : MethodId) (z0 : Addr) : entryFrame m #[(.ref z0)] 1 = mkF m 0 #[.val (.ref z0)] [] := by first | (simp [entryFrame, mkF, argsToLocals, Value.category]; done) | rfl
set_option maxRecDepth 65536 in
set_option maxHeartbeats 40000000 in
theorem rmNew (l : Launch) (Z : State) (a0 : Array Value) (hw : ∀ d ∈ tables_1, d.before a0 Z = true) (q : Addr) (r1 : Addr) (o : Int32) (k : Int32) (L : List Int64) (u : Int64) (h0 : Heap) (n0 : Nat) (Zn : n0 ≤ h0.size) (E_q : Exa Z h0 q "com/example/valved/valved/admission/Entries") (F_q_oldest : Fld Z h0 q "com/example/valved/valved/admission/Entries" "oldest" "I" (.int o)) (F_q_stamps : Fld Z h0 q "com/example/valved/valved/admission/Entries" "stamps" "[J" (.ref r1)) (F_q_size : Fld Z h0 q "com/example/valved/valved/admission/Entries" "size" "I" (.int (1 : Int32))) (A_r1 : Aj Z h0 r1 .long 2 L) (hz : ((o + (0 : Int32)) &&& (1 : Int32)) = k) (hk0 : ¬ k < 0) (hk1 : k.toNatClampNeg < 2) (hu : L.getD k.toNatClampNeg 0 = u) :
    WCt l Z (⟨"com/example/valved/valved/admission/Entries", "newestStamp", "()J"⟩ : MethodName) prog_4_method_8_code 1 (some .long) ({ frames := 1, cells := 0, slots := 0, locals := 14 } : Room) #[(.ref q)] h0 (fun vv hh LL => (vv = some (.long u)) ∧ (Fr n0 LL) ∧ (hh = h0)) := by
  refine WCt.of pl_7 ?_
  intro p e s m below meth c T hx hby hml hown hnm hret hlk hZ hh0 X eT
  have hown : s.vm.findClass "com/example/valved/valved/admission/Entries" = some m.cls := hown
  have hnm : meth.name = "newestStamp" := hnm
  have N := Fr.nil n0
  obtain ⟨h, eh⟩ : ∃ h, h = h0 := ⟨_, rfl⟩
  have K : Keep h0 h [] := by rw [eh]; exact Keep.refl _ _
  refine WGo.cast (ef_rmNew m q) ?_
  rw [← eh] at eT Zn E_q F_q_oldest F_q_stamps F_q_size A_r1
  refine g_aloadN X hx (hb hby d7_0) rfl rfl (pc' := 1) rfl ?_
  refine g_getF X hx hZ hown (hw _ (List.mem_of_getElem? (i := 16) rfl)) eT F_q_stamps (hb hby d7_1) (pc' := 4) rfl (fun T X eT => ?_)
  refine g_aloadN X hx (hb hby d7_4) rfl rfl (pc' := 5) rfl ?_
  refine g_aloadN X hx (hb hby d7_5) rfl rfl (pc' := 6) rfl ?_
  refine g_getF X hx hZ hown (hw _ (List.mem_of_getElem? (i := 27) rfl)) eT F_q_size (hb hby d7_6) (pc' := 9) rfl (fun T X eT => ?_)
  refine g_iconst X hx (hb hby d7_9) (x := (1 : Int32)) (by decide) (pc' := 10) rfl ?_
  refine g_isub X hx (hb hby d7_10) (pc' := 11) rfl ?_
  rw [show ((1 : Int32) - (1 : Int32)) = (0 : Int32) from by decide]
  refine g_priv (W := 1) (argsL := [(.int (0 : Int32))]) (st := [(.ref r1)]) X hx hZ hown (hw _ (List.mem_of_getElem? (i := 35) rfl)) (hw _ (List.mem_of_getElem? (i := 36) rfl)) (hw _ (List.mem_of_getElem? (i := 37) rfl)) (hw _ (List.mem_of_getElem? (i := 38) rfl)) (hw _ (List.mem_of_getElem? (i := 8) rfl)) (hw _ (List.mem_of_getElem? (i := 7) rfl)) (by decide) E_q (rmAt l Z a0 hw q r1 o (0 : Int32) k L h n0 Zn F_q_oldest F_q_stamps A_r1 hz) eT (by decide) (by decide) (by decide) (by decide) (lenOf pd_0 rfl) (by rw [hml]; rfl) rfl (Nat.le_of_eq rfl) (hb hby d7_11) (pc' := 14) rfl (fun T hn vq Lq X eT hQ => ?_)
  obtain ⟨rfl, Nq, hE⟩ := hQ
  replace N := Fr.app N Nq
  rw [hE] at eT; clear hE
  show WGo _ _ _ _ _ _ _ _ (mkF m 14 #[.val (.ref q)] [(.int k), (.ref r1)])
  refine g_laload X hx hZ eT A_r1.2 (hb hby d7_14) hk0 hk1 (v := (.long u)) (congrArg Value.long hu) (pc' := 15) rfl ?_
  refine g_retJ X hx hret hlk (hb hby d7_15) (by decide) (by decide) ?_
  rw [eT]
  exact ⟨rfl, N, eh⟩
theorem d5_0 : decode prog_4_method_13_code 0 = .ok (.iconst 0, 1) := by decide +kernel
theorem d5_1 : decode prog_4_method_13_code 1 = .ok (.istore_n 3, 1) := by decide +kernel
theorem d5_2 : decode prog_4_method_13_code 2 = .ok (.aload_n 0, 1) := by decide +kernel
theorem d5_3 : decode prog_4_method_13_code 3 = .ok (.getfield 20, 3) := by decide +kernel
theorem d5_6 : decode prog_4_method_13_code 6 = .ok (.istore 4, 2) := by decide +kernel
theorem d5_8 : decode prog_4_method_13_code 8 = .ok (.iload_n 3, 1) := by decide +kernel
theorem d5_9 : decode prog_4_method_13_code 9 = .ok (.iload 4, 2) := by decide +kernel
theorem d5_11 : decode prog_4_method_13_code 11 = .ok (.if_icmp .ge 39, 3) := by decide +kernel
theorem d5_14 : decode prog_4_method_13_code 14 = .ok (.iload_n 3, 1) := by decide +kernel
theorem d5_15 : decode prog_4_method_13_code 15 = .ok (.iload 4, 2) := by decide +kernel
theorem d5_17 : decode prog_4_method_13_code 17 = .ok (.iadd, 1) := by decide +kernel
theorem d5_18 : decode prog_4_method_13_code 18 = .ok (.iconst 1, 1) := by decide +kernel
theorem d5_19 : decode prog_4_method_13_code 19 = .ok (.iushr, 1) := by decide +kernel
theorem d5_20 : decode prog_4_method_13_code 20 = .ok (.istore 5, 2) := by decide +kernel
theorem d5_22 : decode prog_4_method_13_code 22 = .ok (.aload_n 0, 1) := by decide +kernel
theorem d5_23 : decode prog_4_method_13_code 23 = .ok (.iload 5, 2) := by decide +kernel
theorem d5_25 : decode prog_4_method_13_code 25 = .ok (.invokevirtual 43, 3) := by decide +kernel
theorem d5_28 : decode prog_4_method_13_code 28 = .ok (.lload_n 1, 1) := by decide +kernel
theorem d5_29 : decode prog_4_method_13_code 29 = .ok (.lsub, 1) := by decide +kernel
theorem d5_30 : decode prog_4_method_13_code 30 = .ok (.lconst 0, 1) := by decide +kernel
theorem d5_31 : decode prog_4_method_13_code 31 = .ok (.lcmp, 1) := by decide +kernel
theorem d5_32 : decode prog_4_method_13_code 32 = .ok (.ifCond .ge 11, 3) := by decide +kernel
theorem d5_35 : decode prog_4_method_13_code 35 = .ok (.iload 5, 2) := by decide +kernel
theorem d5_37 : decode prog_4_method_13_code 37 = .ok (.iconst 1, 1) := by decide +kernel
theorem d5_38 : decode prog_4_method_13_code 38 = .ok (.iadd, 1) := by decide +kernel
theorem d5_39 : decode prog_4_method_13_code 39 = .ok (.istore_n 3, 1) := by decide +kernel
theorem d5_40 : decode prog_4_method_13_code 40 = .ok (.goto 7, 3) := by decide +kernel
theorem d5_43 : decode prog_4_method_13_code 43 = .ok (.iload 5, 2) := by decide +kernel
theorem d5_45 : decode prog_4_method_13_code 45 = .ok (.istore 4, 2) := by decide +kernel
theorem d5_47 : decode prog_4_method_13_code 47 = .ok (.goto (-39), 3) := by decide +kernel
theorem d5_50 : decode prog_4_method_13_code 50 = .ok (.iload_n 3, 1) := by decide +kernel
theorem d5_51 : decode prog_4_method_13_code 51 = .ok (.ireturn, 1) := by decide +kernel
theorem pl_5 : plainFor (⟨"com/example/valved/valved/admission/Entries", "firstAtOrAfter", "(J)I"⟩ : MethodName) = true := plainFor_of_name (by first | (simp [plainName, overriddenIn]; done) | decide +kernel)
theorem ef_rmFa (m : MethodId) (z0 : Addr) (z1 : Int64) : entryFrame m #[(.ref z0), (.long z1)] 6 = mkF m 0 #[.val (.ref z0), .val (.long z1), .second, .unset, .unset, .unset] [] := by first | (simp [entryFrame, mkF, argsToLocals, Value.category]; done) | rfl
set_option maxRecDepth 65536 in
set_option maxHeartbeats 40000000 in
theorem rmFa (l : Launch) (Z : State) (a0 : Array Value) (hw : ∀ d ∈ tables_1, d.before a0 Z = true) (q : Addr) (u : Int64) (h0 : Heap) (n0 : Nat) (Zn : n0 ≤ h0.size) (F_q_size : Fld Z h0 q "com/example/valved/valved/admission/Entries" "size" "I" (.int (0 : Int32)))  :
    WCt l Z (⟨"com/example/valved/valved/admission/Entries", "firstAtOrAfter", "(J)I"⟩ : MethodName) prog_4_method_13_code 6 (some .int) ({ frames := 0, cells := 0, slots := 0, locals := 0 } : Room) #[(.ref q), (.long u)] h0 (fun vv hh LL => (vv = some (.int (0 : Int32))) ∧ (Fr n0 LL) ∧ (hh = h0)) := by
  refine WCt.of pl_5 ?_
  intro p e s m below meth c T hx hby hml hown hnm hret hlk hZ hh0 X eT
  have hown : s.vm.findClass "com/example/valved/valved/admission/Entries" = some m.cls := hown
  have hnm : meth.name = "firstAtOrAfter" := hnm
  have N := Fr.nil n0
  obtain ⟨h, eh⟩ : ∃ h, h = h0 := ⟨_, rfl⟩
  have K : Keep h0 h [] := by rw [eh]; exact Keep.refl _ _
  refine WGo.cast (ef_rmFa m q u) ?_
  rw [← eh] at eT Zn F_q_size
  refine g_iconst X hx (hb hby d5_0) (x := (0 : Int32)) (by decide) (pc' := 1) rfl ?_
  refine g_istoreN X hx (hb hby d5_1) (Ls' := #[.val (.ref q), .val (.long u), .second, .val (.int (0 : Int32)), .unset, .unset]) rfl (pc' := 2) rfl ?_
  refine g_aloadN X hx (hb hby d5_2) rfl rfl (pc' := 3) rfl ?_
  refine g_getF X hx hZ hown (hw _ (List.mem_of_getElem? (i := 27) rfl)) eT F_q_size (hb hby d5_3) (pc' := 6) rfl (fun T X eT => ?_)
  refine g_istore X hx (hb hby d5_6) (Ls' := #[.val (.ref q), .val (.long u), .second, .val (.int (0 : Int32)), .val (.int (0 : Int32)), .unset]) rfl (pc' := 8) rfl ?_
  refine g_iloadN X hx (hb hby d5_8) rfl (pc' := 9) rfl ?_
  refine g_iload X hx (hb hby d5_9) rfl (pc' := 11) rfl ?_
  refine g_icmp X hx (hb hby d5_11) (by decide) (pc' := 50) (by decide) (pc2 := 14) rfl (fun hc => ?_) (fun hc => ?_)
  · replace hc := h_ge1 hc
    have hc11 := hc
    refine g_iloadN X hx (hb hby d5_50) rfl (pc' := 51) rfl ?_
    refine g_retI X hx hret hlk (hb hby d5_51) (by decide) (by decide) ?_
    rw [eT]
    exact ⟨rfl, N, eh⟩
  · replace hc := h_ge0 hc
    have hc11 := hc
    exfalso
    clear hc11; revert hc; decide
theorem d9_0 : decode prog_4_method_10_code 0 = .ok (.lload_n 0, 1) := by decide +kernel
theorem d9_1 : decode prog_4_method_10_code 1 = .ok (.lload 4, 2) := by decide +kernel
theorem d9_3 : decode prog_4_method_10_code 3 = .ok (.invokestatic 64, 3) := by decide +kernel
theorem d9_6 : decode prog_4_method_10_code 6 = .ok (.lload_n 2, 1) := by decide +kernel
theorem d9_7 : decode prog_4_method_10_code 7 = .ok (.lload 4, 2) := by decide +kernel
theorem d9_9 : decode prog_4_method_10_code 9 = .ok (.invokestatic 64, 3) := by decide +kernel
theorem d9_12 : decode prog_4_method_10_code 12 = .ok (.lcmp, 1) := by decide +kernel
theorem d9_13 : decode prog_4_method_10_code 13 = .ok (.ifCond .ne 7, 3) := by decide +kernel
theorem d9_16 : decode prog_4_method_10_code 16 = .ok (.iconst 1, 1) := by decide +kernel
theorem d9_17 : decode prog_4_method_10_code 17 = .ok (.goto 4, 3) := by decide +kernel
theorem d9_20 : decode prog_4_method_10_code 20 = .ok (.iconst 0, 1) := by decide +kernel
theorem d9_21 : decode prog_4_method_10_code 21 = .ok (.ireturn, 1) := by decide +kernel
theorem pl_9 : plainFor (⟨"com/example/valved/valved/admission/Entries", "inOneSlot", "(JJJ)Z"⟩ : MethodName) = true := plainFor_of_name (by first | (simp [plainName, overriddenIn]; done) | decide +kernel)
theorem ef_rmSl (m : MethodId) (z0 : Int64) (z1 : Int64) (z2 : Int64) : entryFrame m #[(.long z0), (.long z1), (.long z2)] 6 = mkF m 0 #[.val (.long z0), .second, .val (.long z1), .second, .val (.long z2), .second] [] := by first | (simp [entryFrame, mkF, argsToLocals, Value.category]; done) | rfl
set_option maxRecDepth 65536 in
set_option maxHeartbeats 40000000 in
theorem rmSl (l : Launch) (Z : State) (a0 : Array Value) (hw : ∀ d ∈ tables_1, d.before a0 Z = true) (u : Int64) (w : Int64) (h0 : Heap) (n0 : Nat) (Zn : n0 ≤ h0.size)  (hne : ¬ u = w) :
    WCt l Z (⟨"com/example/valved/valved/admission/Entries", "inOneSlot", "(JJJ)Z"⟩ : MethodName) prog_4_method_10_code 6 (some .boolean) ({ frames := 1, cells := 0, slots := 0, locals := 19 } : Room) #[(.long u), (.long w), (.long (1 : Int64))] h0 (fun vv hh LL => (vv = some (.int (0 : Int32))) ∧ (Fr n0 LL) ∧ (hh = h0)) := by
  refine WCt.of pl_9 ?_
  intro p e s m below meth c T hx hby hml hown hnm hret hlk hZ hh0 X eT
  have hown : s.vm.findClass "com/example/valved/valved/admission/Entries" = some m.cls := hown
  have hnm : meth.name = "inOneSlot" := hnm
  have N := Fr.nil n0
  obtain ⟨h, eh⟩ : ∃ h, h = h0 := ⟨_, rfl⟩
  have K : Keep h0 h [] := by rw [eh]; exact Keep.refl _ _
  refine WGo.cast (ef_rmSl m u w (1 : Int64)) ?_
  rw [← eh] at eT Zn 
  refine g_lloadN X hx (hb hby d9_0) rfl (pc' := 1) rfl ?_
  refine g_lload X hx (hb hby d9_1) rfl (pc' := 3) rfl ?_
  refine g_stat (W := 0) (argsL := [(.long u), (.long (1 : Int64))]) (st := []) X hx hZ hown (hw _ (List.mem_of_getElem? (i := 56) rfl)) (hw _ (List.mem_of_getElem? (i := 57) rfl)) (hw _ (List.mem_of_getElem? (i := 4) rfl)) (hw _ (List.mem_of_getElem? (i := 58) rfl)) (by decide) (rmFD l Z a0 hw u h n0 Zn  ) eT (by decide) (by decide) (by decide) (by decide) (lenOf pd_1 rfl) (by rw [hml]; rfl) rfl (Nat.le_of_eq rfl) (hb hby d9_3) (pc' := 6) rfl (fun T hn vq Lq X eT hQ => ?_)
  obtain ⟨rfl, Nq, hE⟩ := hQ
  replace N := Fr.app N Nq
  rw [hE] at eT; clear hE
  show WGo _ _ _ _ _ _ _ _ (mkF m 6 #[.val (.long u), .second, .val (.long w), .second, .val (.long (1 : Int64)), .second] [(.long u)])
  refine g_lloadN X hx (hb hby d9_6) rfl (pc' := 7) rfl ?_
  refine g_lload X hx (hb hby d9_7) rfl (pc' := 9) rfl ?_
  refine g_stat (W := 2) (argsL := [(.long w), (.long (1 : Int64))]) (st := [(.long u)]) X hx hZ hown (hw _ (List.mem_of_getElem? (i := 56) rfl)) (hw _ (List.mem_of_getElem? (i := 57) rfl)) (hw _ (List.mem_of_getElem? (i := 4) rfl)) (hw _ (List.mem_of_getElem? (i := 58) rfl)) (by decide) (rmFD l Z a0 hw w h n0 Zn  ) eT (by decide) (by decide) (by decide) (by decide) (lenOf pd_1 rfl) (by rw [hml]; rfl) rfl (Nat.le_of_eq rfl) (hb hby d9_9) (pc' := 12) rfl (fun T hn vq Lq X eT hQ => ?_)
  obtain ⟨rfl, Nq, hE⟩ := hQ
  replace N := Fr.app N Nq
  rw [hE] at eT; clear hE
  show WGo _ _ _ _ _ _ _ _ (mkF m 12 #[.val (.long u), .second, .val (.long w), .second, .val (.long (1 : Int64)), .second] [(.long w), (.long u)])
  refine g_lcmp X hx (hb hby d9_12) (pc' := 13) rfl ?_
  refine g_if X hx (hb hby d9_13) (by decide) (pc' := 20) (by decide) (pc2 := 16) rfl (fun hc => ?_) (fun hc => ?_)
  · replace hc := h_ne1 hc
    simp only [cl_lt, cl_gt, cl_eq] at hc
    have hc13 := hc
    refine g_iconst X hx (hb hby d9_20) (x := (0 : Int32)) (by decide) (pc' := 21) rfl ?_
    refine g_retN (t := .boolean) X hx hret (by simp) hlk (hb hby d9_21) (by decide) (by decide) ?_
    rw [eT]
    exact ⟨rfl, N, eh⟩
  · replace hc := h_ne0 hc
    simp only [cl_lt, cl_gt, cl_eq] at hc
    have hc13 := hc
    exfalso
    exact hne hc
theorem d12_0 : decode prog_4_method_3_code 0 = .ok (.aload_n 0, 1) := by decide +kernel
theorem d12_1 : decode prog_4_method_3_code 1 = .ok (.getfield 24, 3) := by decide +kernel
theorem d12_4 : decode prog_4_method_3_code 4 = .ok (.lreturn, 1) := by decide +kernel
theorem pl_12 : plainFor (⟨"com/example/valved/valved/admission/Entries", "total", "()J"⟩ : MethodName) = true := plainFor_of_name (by first | (simp [plainName, overriddenIn]; done) | decide +kernel)
theorem ef_rmTot (m : MethodId) (z0 : Addr) : entryFrame m #[(.ref z0)] 1 = mkF m 0 #[.val (.ref z0)] [] := by first | (simp [entryFrame, mkF, argsToLocals, Value.category]; done) | rfl
set_option maxRecDepth 65536 in
set_option maxHeartbeats 40000000 in
theorem rmTot (l : Launch) (Z : State) (a0 : Array Value) (hw : ∀ d ∈ tables_1, d.before a0 Z = true) (q : Addr) (u : Int64) (h0 : Heap) (n0 : Nat) (Zn : n0 ≤ h0.size) (F_q_total : Fld Z h0 q "com/example/valved/valved/admission/Entries" "total" "J" (.long u))  :
    WCt l Z (⟨"com/example/valved/valved/admission/Entries", "total", "()J"⟩ : MethodName) prog_4_method_3_code 1 (some .long) ({ frames := 0, cells := 0, slots := 0, locals := 0 } : Room) #[(.ref q)] h0 (fun vv hh LL => (vv = some (.long u)) ∧ (Fr n0 LL) ∧ (hh = h0)) := by
  refine WCt.of pl_12 ?_
  intro p e s m below meth c T hx hby hml hown hnm hret hlk hZ hh0 X eT
  have hown : s.vm.findClass "com/example/valved/valved/admission/Entries" = some m.cls := hown
  have hnm : meth.name = "total" := hnm
  have N := Fr.nil n0
  obtain ⟨h, eh⟩ : ∃ h, h = h0 := ⟨_, rfl⟩
  have K : Keep h0 h [] := by rw [eh]; exact Keep.refl _ _
  refine WGo.cast (ef_rmTot m q) ?_
  rw [← eh] at eT Zn F_q_total
  refine g_aloadN X hx (hb hby d12_0) rfl rfl (pc' := 1) rfl ?_
  refine g_getF X hx hZ hown (hw _ (List.mem_of_getElem? (i := 41) rfl)) eT F_q_total (hb hby d12_1) (pc' := 4) rfl (fun T X eT => ?_)
  refine g_retJ X hx hret hlk (hb hby d12_4) (by decide) (by decide) ?_
  rw [eT]
  exact ⟨rfl, N, eh⟩
theorem d13_0 : decode prog_4_method_2_code 0 = .ok (.aload_n 0, 1) := by decide +kernel
theorem d13_1 : decode prog_4_method_2_code 1 = .ok (.getfield 20, 3) := by decide +kernel
theorem d13_4 : decode prog_4_method_2_code 4 = .ok (.ireturn, 1) := by decide +kernel
theorem pl_13 : plainFor (⟨"com/example/valved/valved/admission/Entries", "size", "()I"⟩ : MethodName) = true := plainFor_of_name (by first | (simp [plainName, overriddenIn]; done) | decide +kernel)
theorem ef_rmSz (m : MethodId) (z0 : Addr) : entryFrame m #[(.ref z0)] 1 = mkF m 0 #[.val (.ref z0)] [] := by first | (simp [entryFrame, mkF, argsToLocals, Value.category]; done) | rfl
set_option maxRecDepth 65536 in
set_option maxHeartbeats 40000000 in
theorem rmSz (l : Launch) (Z : State) (a0 : Array Value) (hw : ∀ d ∈ tables_1, d.before a0 Z = true) (q : Addr) (u : Int32) (h0 : Heap) (n0 : Nat) (Zn : n0 ≤ h0.size) (F_q_size : Fld Z h0 q "com/example/valved/valved/admission/Entries" "size" "I" (.int u))  :
    WCt l Z (⟨"com/example/valved/valved/admission/Entries", "size", "()I"⟩ : MethodName) prog_4_method_2_code 1 (some .int) ({ frames := 0, cells := 0, slots := 0, locals := 0 } : Room) #[(.ref q)] h0 (fun vv hh LL => (vv = some (.int u)) ∧ (Fr n0 LL) ∧ (hh = h0)) := by
  refine WCt.of pl_13 ?_
  intro p e s m below meth c T hx hby hml hown hnm hret hlk hZ hh0 X eT
  have hown : s.vm.findClass "com/example/valved/valved/admission/Entries" = some m.cls := hown
  have hnm : meth.name = "size" := hnm
  have N := Fr.nil n0
  obtain ⟨h, eh⟩ : ∃ h, h = h0 := ⟨_, rfl⟩
  have K : Keep h0 h [] := by rw [eh]; exact Keep.refl _ _
  refine WGo.cast (ef_rmSz m q) ?_
  rw [← eh] at eT Zn F_q_size
  refine g_aloadN X hx (hb hby d13_0) rfl rfl (pc' := 1) rfl ?_
  refine g_getF X hx hZ hown (hw _ (List.mem_of_getElem? (i := 27) rfl)) eT F_q_size (hb hby d13_1) (pc' := 4) rfl (fun T X eT => ?_)
  refine g_retI X hx hret hlk (hb hby d13_4) (by decide) (by decide) ?_
  rw [eT]
  exact ⟨rfl, N, eh⟩
theorem d11_0 : decode prog_4_method_12_code 0 = .ok (.aload_n 0, 1) := by decide +kernel
theorem d11_1 : decode prog_4_method_12_code 1 = .ok (.dup, 1) := by decide +kernel
theorem d11_2 : decode prog_4_method_12_code 2 = .ok (.getfield 24, 3) := by decide +kernel
theorem d11_5 : decode prog_4_method_12_code 5 = .ok (.aload_n 0, 1) := by decide +kernel
theorem d11_6 : decode prog_4_method_12_code 6 = .ok (.getfield 13, 3) := by decide +kernel
theorem d11_9 : decode prog_4_method_12_code 9 = .ok (.aload_n 0, 1) := by decide +kernel
theorem d11_10 : decode prog_4_method_12_code 10 = .ok (.getfield 67, 3) := by decide +kernel
theorem d11_13 : decode prog_4_method_12_code 13 = .ok (.laload, 1) := by decide +kernel
theorem d11_14 : decode prog_4_method_12_code 14 = .ok (.lsub, 1) := by decide +kernel
theorem d11_15 : decode prog_4_method_12_code 15 = .ok (.putfield 24, 3) := by decide +kernel
theorem d11_18 : decode prog_4_method_12_code 18 = .ok (.aload_n 0, 1) := by decide +kernel
theorem d11_19 : decode prog_4_method_12_code 19 = .ok (.aload_n 0, 1) := by decide +kernel
theorem d11_20 : decode prog_4_method_12_code 20 = .ok (.iconst 1, 1) := by decide +kernel
theorem d11_21 : decode prog_4_method_12_code 21 = .ok (.invokevirtual 31, 3) := by decide +kernel
theorem d11_24 : decode prog_4_method_12_code 24 = .ok (.putfield 67, 3) := by decide +kernel
theorem d11_27 : decode prog_4_method_12_code 27 = .ok (.aload_n 0, 1) := by decide +kernel
theorem d11_28 : decode prog_4_method_12_code 28 = .ok (.dup, 1) := by decide +kernel
theorem d11_29 : decode prog_4_method_12_code 29 = .ok (.getfield 20, 3) := by decide +kernel
theorem d11_32 : decode prog_4_method_12_code 32 = .ok (.iconst 1, 1) := by decide +kernel
theorem d11_33 : decode prog_4_method_12_code 33 = .ok (.isub, 1) := by decide +kernel
theorem d11_34 : decode prog_4_method_12_code 34 = .ok (.putfield 20, 3) := by decide +kernel
theorem d11_37 : decode prog_4_method_12_code 37 = .ok (.return_, 1) := by decide +kernel
theorem pl_11 : plainFor (⟨"com/example/valved/valved/admission/Entries", "removeOldest", "()V"⟩ : MethodName) = true := plainFor_of_name (by first | (simp [plainName, overriddenIn]; done) | decide +kernel)
theorem ef_rmRem (m : MethodId) (z0 : Addr) : entryFrame m #[(.ref z0)] 1 = mkF m 0 #[.val (.ref z0)] [] := by first | (simp [entryFrame, mkF, argsToLocals, Value.category]; done) | rfl
set_option maxRecDepth 65536 in
set_option maxHeartbeats 40000000 in
theorem rmRem (l : Launch) (Z : State) (a0 : Array Value) (hw : ∀ d ∈ tables_1, d.before a0 Z = true) (q : Addr) (r1 : Addr) (r2 : Addr) (mk : Int64) (o : Int32) (sz : Int32) (sz2 : Int32) (tot : Int64) (L : List Int64) (M : List Int64) (k : Int32) (u : Int64) (h0 : Heap) (n0 : Nat) (Zn : n0 ≤ h0.size) (E_q : Exa Z h0 q "com/example/valved/valved/admission/Entries") (F_q_stamps : Fld Z h0 q "com/example/valved/valved/admission/Entries" "stamps" "[J" (.ref r1)) (F_q_amounts : Fld Z h0 q "com/example/valved/valved/admission/Entries" "amounts" "[J" (.ref r2)) (F_q_mostKept : Fld Z h0 q "com/example/valved/valved/admission/Entries" "mostKept" "J" (.long mk)) (F_q_oldest : Fld Z h0 q "com/example/valved/valved/admission/Entries" "oldest" "I" (.int o)) (F_q_size : Fld Z h0 q "com/example/valved/valved/admission/Entries" "size" "I" (.int sz)) (F_q_total : Fld Z h0 q "com/example/valved/valved/admission/Entries" "total" "J" (.long tot)) (A_r1 : Aj Z h0 r1 .long 2 L) (A_r2 : Aj Z h0 r2 .long 2 M) (ne_q_r1 : q ≠ r1) (ne_q_r2 : q ≠ r2) (ne_r1_r2 : r1 ≠ r2) (g_q : n0 ≤ q) (g_r1 : n0 ≤ r1) (g_r2 : n0 ≤ r2) (ho0 : ¬ o < 0) (ho1 : o.toNatClampNeg < 2) (hu : M.getD o.toNatClampNeg 0 = u) (hz : ((o + (1 : Int32)) &&& (1 : Int32)) = k) (hs : sz - (1 : Int32) = sz2) :
    WCt l Z (⟨"com/example/valved/valved/admission/Entries", "removeOldest", "()V"⟩ : MethodName) prog_4_method_12_code 1 none ({ frames := 1, cells := 0, slots := 0, locals := 14 } : Room) #[(.ref q)] h0 (fun vv hh LL => (vv = none) ∧ (Fr n0 LL) ∧ (Keep h0 hh [q]) ∧ (Fld Z hh q "com/example/valved/valved/admission/Entries" "stamps" "[J" (.ref r1)) ∧ (Fld Z hh q "com/example/valved/valved/admission/Entries" "amounts" "[J" (.ref r2)) ∧ (Fld Z hh q "com/example/valved/valved/admission/Entries" "mostKept" "J" (.long mk)) ∧ (Fld Z hh q "com/example/valved/valved/admission/Entries" "oldest" "I" (.int k)) ∧ (Fld Z hh q "com/example/valved/valved/admission/Entries" "size" "I" (.int sz2)) ∧ (Fld Z hh q "com/example/valved/valved/admission/Entries" "total" "J" (.long (tot - u)))) := by
  refine WCt.of pl_11 ?_
  intro p e s m below meth c T hx hby hml hown hnm hret hlk hZ hh0 X eT
  have hown : s.vm.findClass "com/example/valved/valved/admission/Entries" = some m.cls := hown
  have hnm : meth.name = "removeOldest" := hnm
  have N := Fr.nil n0
  obtain ⟨h, eh⟩ : ∃ h, h = h0 := ⟨_, rfl⟩
  have K : Keep h0 h [q] := by rw [eh]; exact Keep.refl _ _
  refine WGo.cast (ef_rmRem m q) ?_
  rw [← eh] at eT Zn E_q F_q_stamps F_q_amounts F_q_mostKept F_q_oldest F_q_size F_q_total A_r1 A_r2
  refine g_aloadN X hx (hb hby d11_0) rfl rfl (pc' := 1) rfl ?_
  refine g_dup X hx (hb hby d11_1) rfl (pc' := 2) rfl ?_
  refine g_getF X hx hZ hown (hw _ (List.mem_of_getElem? (i := 41) rfl)) eT F_q_total (hb hby d11_2) (pc' := 5) rfl (fun T X eT => ?_)
  refine g_aloadN X hx (hb hby d11_5) rfl rfl (pc' := 6) rfl ?_
  refine g_getF X hx hZ hown (hw _ (List.mem_of_getElem? (i := 18) rfl)) eT F_q_amounts (hb hby d11_6) (pc' := 9) rfl (fun T X eT => ?_)
  refine g_aloadN X hx (hb hby d11_9) rfl rfl (pc' := 10) rfl ?_
  refine g_getF X hx hZ hown (hw _ (List.mem_of_getElem? (i := 39) rfl)) eT F_q_oldest (hb hby d11_10) (pc' := 13) rfl (fun T X eT => ?_)
  refine g_laload X hx hZ eT A_r2.2 (hb hby d11_13) ho0 ho1 (v := (.long u)) (congrArg Value.long hu) (pc' := 14) rfl ?_
  refine g_lsub X hx (hb hby d11_14) (pc' := 15) rfl ?_
  refine g_putF X hx hZ hown (hw _ (List.mem_of_getElem? (i := 41) rfl)) eT F_q_total E_q (Or.inl (hw _ (List.mem_of_getElem? (i := 42) rfl))) (hw _ (List.mem_of_getElem? (i := 7) rfl)) (ty := .long) (by decide) rfl rfl (hb hby d11_15) (pc' := 18) rfl (fun T h X eT W => ?_)
  replace F_q_stamps := F_q_stamps.other W (Or.inr (slot_ne (t := (.array .long)) (t' := .long) (Or.inl (hw _ (List.mem_of_getElem? (i := 17) rfl))) (Or.inl (hw _ (List.mem_of_getElem? (i := 42) rfl))) (by decide) (by decide) (by decide)))
  replace F_q_amounts := F_q_amounts.other W (Or.inr (slot_ne (t := (.array .long)) (t' := .long) (Or.inl (hw _ (List.mem_of_getElem? (i := 19) rfl))) (Or.inl (hw _ (List.mem_of_getElem? (i := 42) rfl))) (by decide) (by decide) (by decide)))
  replace F_q_mostKept := F_q_mostKept.other W (Or.inr (slot_ne (t := .long) (t' := .long) (Or.inr (hw _ (List.mem_of_getElem? (i := 21) rfl))) (Or.inl (hw _ (List.mem_of_getElem? (i := 42) rfl))) (by decide) (by decide) (by decide)))
  replace F_q_oldest := F_q_oldest.other W (Or.inr (slot_ne (t := .int) (t' := .long) (Or.inl (hw _ (List.mem_of_getElem? (i := 40) rfl))) (Or.inl (hw _ (List.mem_of_getElem? (i := 42) rfl))) (by decide) (by decide) (by decide)))
  replace F_q_size := F_q_size.other W (Or.inr (slot_ne (t := .int) (t' := .long) (Or.inl (hw _ (List.mem_of_getElem? (i := 28) rfl))) (Or.inl (hw _ (List.mem_of_getElem? (i := 42) rfl))) (by decide) (by decide) (by decide)))
  replace F_q_total := F_q_total.same W
  replace E_q := E_q.wr W
  replace A_r1 := A_r1.other W (Ne.symm ne_q_r1)
  replace A_r2 := A_r2.other W (Ne.symm ne_q_r2)
  replace N := Fr.snoc X N g_q
  replace Zn := Nat.le_trans Zn (Nat.le_of_eq W.size.symm)
  replace K := K.wr W (Or.inl (List.mem_of_getElem? (i := 0) rfl))
  refine g_aloadN X hx (hb hby d11_18) rfl rfl (pc' := 19) rfl ?_
  refine g_aloadN X hx (hb hby d11_19) rfl rfl (pc' := 20) rfl ?_
  refine g_iconst X hx (hb hby d11_20) (x := (1 : Int32)) (by decide) (pc' := 21) rfl ?_
  refine g_priv (W := 1) (argsL := [(.int (1 : Int32))]) (st := [(.ref q)]) X hx hZ hown (hw _ (List.mem_of_getElem? (i := 35) rfl)) (hw _ (List.mem_of_getElem? (i := 36) rfl)) (hw _ (List.mem_of_getElem? (i := 37) rfl)) (hw _ (List.mem_of_getElem? (i := 38) rfl)) (hw _ (List.mem_of_getElem? (i := 8) rfl)) (hw _ (List.mem_of_getElem? (i := 7) rfl)) (by decide) E_q (rmAt l Z a0 hw q r1 o (1 : Int32) k L h n0 Zn F_q_oldest F_q_stamps A_r1 hz) eT (by decide) (by decide) (by decide) (by decide) (lenOf pd_0 rfl) (by rw [hml]; rfl) rfl (Nat.le_of_eq rfl) (hb hby d11_21) (pc' := 24) rfl (fun T hn vq Lq X eT hQ => ?_)
  obtain ⟨rfl, Nq, hE⟩ := hQ
  replace N := Fr.app N Nq
  rw [hE] at eT; clear hE
  show WGo _ _ _ _ _ _ _ _ (mkF m 24 #[.val (.ref q)] [(.int k), (.ref q)])
  refine g_putF X hx hZ hown (hw _ (List.mem_of_getElem? (i := 39) rfl)) eT F_q_oldest E_q (Or.inl (hw _ (List.mem_of_getElem? (i := 40) rfl))) (hw _ (List.mem_of_getElem? (i := 7) rfl)) (ty := .int) (by decide) rfl rfl (hb hby d11_24) (pc' := 27) rfl (fun T h X eT W => ?_)
  replace F_q_stamps := F_q_stamps.other W (Or.inr (slot_ne (t := (.array .long)) (t' := .int) (Or.inl (hw _ (List.mem_of_getElem? (i := 17) rfl))) (Or.inl (hw _ (List.mem_of_getElem? (i := 40) rfl))) (by decide) (by decide) (by decide)))
  replace F_q_amounts := F_q_amounts.other W (Or.inr (slot_ne (t := (.array .long)) (t' := .int) (Or.inl (hw _ (List.mem_of_getElem? (i := 19) rfl))) (Or.inl (hw _ (List.mem_of_getElem? (i := 40) rfl))) (by decide) (by decide) (by decide)))
  replace F_q_mostKept := F_q_mostKept.other W (Or.inr (slot_ne (t := .long) (t' := .int) (Or.inr (hw _ (List.mem_of_getElem? (i := 21) rfl))) (Or.inl (hw _ (List.mem_of_getElem? (i := 40) rfl))) (by decide) (by decide) (by decide)))
  replace F_q_oldest := F_q_oldest.same W
  replace F_q_size := F_q_size.other W (Or.inr (slot_ne (t := .int) (t' := .int) (Or.inl (hw _ (List.mem_of_getElem? (i := 28) rfl))) (Or.inl (hw _ (List.mem_of_getElem? (i := 40) rfl))) (by decide) (by decide) (by decide)))
  replace F_q_total := F_q_total.other W (Or.inr (slot_ne (t := .long) (t' := .int) (Or.inl (hw _ (List.mem_of_getElem? (i := 42) rfl))) (Or.inl (hw _ (List.mem_of_getElem? (i := 40) rfl))) (by decide) (by decide) (by decide)))
  replace E_q := E_q.wr W
  replace A_r1 := A_r1.other W (Ne.symm ne_q_r1)
  replace A_r2 := A_r2.other W (Ne.symm ne_q_r2)
  replace N := Fr.snoc X N g_q
  replace Zn := Nat.le_trans Zn (Nat.le_of_eq W.size.symm)
  replace K := K.wr W (Or.inl (List.mem_of_getElem? (i := 0) rfl))
  refine g_aloadN X hx (hb hby d11_27) rfl rfl (pc' := 28) rfl ?_
  refine g_dup X hx (hb hby d11_28) rfl (pc' := 29) rfl ?_
  refine g_getF X hx hZ hown (hw _ (List.mem_of_getElem? (i := 27) rfl)) eT F_q_size (hb hby d11_29) (pc' := 32) rfl (fun T X eT => ?_)
  refine g_iconst X hx (hb hby d11_32) (x := (1 : Int32)) (by decide) (pc' := 33) rfl ?_
  refine g_isub X hx (hb hby d11_33) (pc' := 34) rfl ?_
  rw [hs]
  refine g_putF X hx hZ hown (hw _ (List.mem_of_getElem? (i := 27) rfl)) eT F_q_size E_q (Or.inl (hw _ (List.mem_of_getElem? (i := 28) rfl))) (hw _ (List.mem_of_getElem? (i := 7) rfl)) (ty := .int) (by decide) rfl rfl (hb hby d11_34) (pc' := 37) rfl (fun T h X eT W => ?_)
  replace F_q_stamps := F_q_stamps.other W (Or.inr (slot_ne (t := (.array .long)) (t' := .int) (Or.inl (hw _ (List.mem_of_getElem? (i := 17) rfl))) (Or.inl (hw _ (List.mem_of_getElem? (i := 28) rfl))) (by decide) (by decide) (by decide)))
  replace F_q_amounts := F_q_amounts.other W (Or.inr (slot_ne (t := (.array .long)) (t' := .int) (Or.inl (hw _ (List.mem_of_getElem? (i := 19) rfl))) (Or.inl (hw _ (List.mem_of_getElem? (i := 28) rfl))) (by decide) (by decide) (by decide)))
  replace F_q_mostKept := F_q_mostKept.other W (Or.inr (slot_ne (t := .long) (t' := .int) (Or.inr (hw _ (List.mem_of_getElem? (i := 21) rfl))) (Or.inl (hw _ (List.mem_of_getElem? (i := 28) rfl))) (by decide) (by decide) (by decide)))
  replace F_q_oldest := F_q_oldest.other W (Or.inr (slot_ne (t := .int) (t' := .int) (Or.inl (hw _ (List.mem_of_getElem? (i := 40) rfl))) (Or.inl (hw _ (List.mem_of_getElem? (i := 28) rfl))) (by decide) (by decide) (by decide)))
  replace F_q_size := F_q_size.same W
  replace F_q_total := F_q_total.other W (Or.inr (slot_ne (t := .long) (t' := .int) (Or.inl (hw _ (List.mem_of_getElem? (i := 42) rfl))) (Or.inl (hw _ (List.mem_of_getElem? (i := 28) rfl))) (by decide) (by decide) (by decide)))
  replace E_q := E_q.wr W
  replace A_r1 := A_r1.other W (Ne.symm ne_q_r1)
  replace A_r2 := A_r2.other W (Ne.symm ne_q_r2)
  replace N := Fr.snoc X N g_q
  replace Zn := Nat.le_trans Zn (Nat.le_of_eq W.size.symm)
  replace K := K.wr W (Or.inl (List.mem_of_getElem? (i := 0) rfl))
  refine g_ret0 X hx hret hlk (hb hby d11_37) (by decide) (by decide) ?_
  rw [eT]
  exact ⟨rfl, N, K, F_q_stamps, F_q_amounts, F_q_mostKept, F_q_oldest, F_q_size, F_q_total⟩
theorem d4_0 : decode prog_4_method_9_code 0 = .ok (.aload_n 0, 1) := by decide +kernel
theorem d4_1 : decode prog_4_method_9_code 1 = .ok (.getfield 20, 3) := by decide +kernel
theorem d4_4 : decode prog_4_method_9_code 4 = .ok (.ifCond .le 21, 3) := by decide +kernel
theorem d4_7 : decode prog_4_method_9_code 7 = .ok (.lload_n 3, 1) := by decide +kernel
theorem d4_8 : decode prog_4_method_9_code 8 = .ok (.aload_n 0, 1) := by decide +kernel
theorem d4_9 : decode prog_4_method_9_code 9 = .ok (.invokevirtual 35, 3) := by decide +kernel
theorem d4_12 : decode prog_4_method_9_code 12 = .ok (.lsub, 1) := by decide +kernel
theorem d4_13 : decode prog_4_method_9_code 13 = .ok (.lconst 0, 1) := by decide +kernel
theorem d4_14 : decode prog_4_method_9_code 14 = .ok (.lcmp, 1) := by decide +kernel
theorem d4_15 : decode prog_4_method_9_code 15 = .ok (.ifCond .lt 10, 3) := by decide +kernel
theorem d4_18 : decode prog_4_method_9_code 18 = .ok (.aload_n 0, 1) := by decide +kernel
theorem d4_19 : decode prog_4_method_9_code 19 = .ok (.getfield 20, 3) := by decide +kernel
theorem d4_22 : decode prog_4_method_9_code 22 = .ok (.goto 8, 3) := by decide +kernel
theorem d4_25 : decode prog_4_method_9_code 25 = .ok (.aload_n 0, 1) := by decide +kernel
theorem d4_26 : decode prog_4_method_9_code 26 = .ok (.lload_n 3, 1) := by decide +kernel
theorem d4_27 : decode prog_4_method_9_code 27 = .ok (.invokevirtual 39, 3) := by decide +kernel
theorem d4_30 : decode prog_4_method_9_code 30 = .ok (.istore 7, 2) := by decide +kernel
theorem d4_32 : decode prog_4_method_9_code 32 = .ok (.iload 7, 2) := by decide +kernel
theorem d4_34 : decode prog_4_method_9_code 34 = .ok (.ifCond .le 33, 3) := by decide +kernel
theorem d4_37 : decode prog_4_method_9_code 37 = .ok (.aload_n 0, 1) := by decide +kernel
theorem d4_38 : decode prog_4_method_9_code 38 = .ok (.iload 7, 2) := by decide +kernel
theorem d4_40 : decode prog_4_method_9_code 40 = .ok (.iconst 1, 1) := by decide +kernel
theorem d4_41 : decode prog_4_method_9_code 41 = .ok (.isub, 1) := by decide +kernel
theorem d4_42 : decode prog_4_method_9_code 42 = .ok (.invokevirtual 43, 3) := by decide +kernel
theorem d4_45 : decode prog_4_method_9_code 45 = .ok (.lload_n 3, 1) := by decide +kernel
theorem d4_46 : decode prog_4_method_9_code 46 = .ok (.lload 5, 2) := by decide +kernel
theorem d4_48 : decode prog_4_method_9_code 48 = .ok (.invokestatic 47, 3) := by decide +kernel
theorem d4_51 : decode prog_4_method_9_code 51 = .ok (.ifCond .eq 16, 3) := by decide +kernel
theorem d4_54 : decode prog_4_method_9_code 54 = .ok (.aload_n 0, 1) := by decide +kernel
theorem d4_55 : decode prog_4_method_9_code 55 = .ok (.iload 7, 2) := by decide +kernel
theorem d4_57 : decode prog_4_method_9_code 57 = .ok (.iconst 1, 1) := by decide +kernel
theorem d4_58 : decode prog_4_method_9_code 58 = .ok (.isub, 1) := by decide +kernel
theorem d4_59 : decode prog_4_method_9_code 59 = .ok (.lload_n 1, 1) := by decide +kernel
theorem d4_60 : decode prog_4_method_9_code 60 = .ok (.lload_n 3, 1) := by decide +kernel
theorem d4_61 : decode prog_4_method_9_code 61 = .ok (.invokevirtual 51, 3) := by decide +kernel
theorem d4_64 : decode prog_4_method_9_code 64 = .ok (.goto 182, 3) := by decide +kernel
theorem d4_67 : decode prog_4_method_9_code 67 = .ok (.iload 7, 2) := by decide +kernel
theorem d4_69 : decode prog_4_method_9_code 69 = .ok (.aload_n 0, 1) := by decide +kernel
theorem d4_70 : decode prog_4_method_9_code 70 = .ok (.getfield 20, 3) := by decide +kernel
theorem d4_73 : decode prog_4_method_9_code 73 = .ok (.if_icmp .ge 34, 3) := by decide +kernel
theorem d4_76 : decode prog_4_method_9_code 76 = .ok (.aload_n 0, 1) := by decide +kernel
theorem d4_77 : decode prog_4_method_9_code 77 = .ok (.iload 7, 2) := by decide +kernel
theorem d4_79 : decode prog_4_method_9_code 79 = .ok (.invokevirtual 43, 3) := by decide +kernel
theorem d4_82 : decode prog_4_method_9_code 82 = .ok (.lload_n 3, 1) := by decide +kernel
theorem d4_83 : decode prog_4_method_9_code 83 = .ok (.lload 5, 2) := by decide +kernel
theorem d4_85 : decode prog_4_method_9_code 85 = .ok (.invokestatic 47, 3) := by decide +kernel
theorem d4_88 : decode prog_4_method_9_code 88 = .ok (.ifCond .eq 19, 3) := by decide +kernel
theorem d4_91 : decode prog_4_method_9_code 91 = .ok (.aload_n 0, 1) := by decide +kernel
theorem d4_92 : decode prog_4_method_9_code 92 = .ok (.iload 7, 2) := by decide +kernel
theorem d4_94 : decode prog_4_method_9_code 94 = .ok (.lload_n 1, 1) := by decide +kernel
theorem d4_95 : decode prog_4_method_9_code 95 = .ok (.aload_n 0, 1) := by decide +kernel
theorem d4_96 : decode prog_4_method_9_code 96 = .ok (.iload 7, 2) := by decide +kernel
theorem d4_98 : decode prog_4_method_9_code 98 = .ok (.invokevirtual 43, 3) := by decide +kernel
theorem d4_101 : decode prog_4_method_9_code 101 = .ok (.invokevirtual 51, 3) := by decide +kernel
theorem d4_104 : decode prog_4_method_9_code 104 = .ok (.goto 142, 3) := by decide +kernel
theorem d4_107 : decode prog_4_method_9_code 107 = .ok (.aload_n 0, 1) := by decide +kernel
theorem d4_108 : decode prog_4_method_9_code 108 = .ok (.getfield 20, 3) := by decide +kernel
theorem d4_111 : decode prog_4_method_9_code 111 = .ok (.aload_n 0, 1) := by decide +kernel
theorem d4_112 : decode prog_4_method_9_code 112 = .ok (.getfield 7, 3) := by decide +kernel
theorem d4_115 : decode prog_4_method_9_code 115 = .ok (.arraylength, 1) := by decide +kernel
theorem d4_116 : decode prog_4_method_9_code 116 = .ok (.if_icmp .ne 7, 3) := by decide +kernel
theorem d4_119 : decode prog_4_method_9_code 119 = .ok (.aload_n 0, 1) := by decide +kernel
theorem d4_120 : decode prog_4_method_9_code 120 = .ok (.invokevirtual 55, 3) := by decide +kernel
theorem d4_123 : decode prog_4_method_9_code 123 = .ok (.aload_n 0, 1) := by decide +kernel
theorem d4_124 : decode prog_4_method_9_code 124 = .ok (.getfield 20, 3) := by decide +kernel
theorem d4_127 : decode prog_4_method_9_code 127 = .ok (.istore 8, 2) := by decide +kernel
theorem d4_129 : decode prog_4_method_9_code 129 = .ok (.iload 8, 2) := by decide +kernel
theorem d4_131 : decode prog_4_method_9_code 131 = .ok (.iload 7, 2) := by decide +kernel
theorem d4_133 : decode prog_4_method_9_code 133 = .ok (.if_icmp .le 57, 3) := by decide +kernel
theorem d4_136 : decode prog_4_method_9_code 136 = .ok (.aload_n 0, 1) := by decide +kernel
theorem d4_137 : decode prog_4_method_9_code 137 = .ok (.getfield 7, 3) := by decide +kernel
theorem d4_140 : decode prog_4_method_9_code 140 = .ok (.aload_n 0, 1) := by decide +kernel
theorem d4_141 : decode prog_4_method_9_code 141 = .ok (.iload 8, 2) := by decide +kernel
theorem d4_143 : decode prog_4_method_9_code 143 = .ok (.invokevirtual 31, 3) := by decide +kernel
theorem d4_146 : decode prog_4_method_9_code 146 = .ok (.aload_n 0, 1) := by decide +kernel
theorem d4_147 : decode prog_4_method_9_code 147 = .ok (.getfield 7, 3) := by decide +kernel
theorem d4_150 : decode prog_4_method_9_code 150 = .ok (.aload_n 0, 1) := by decide +kernel
theorem d4_151 : decode prog_4_method_9_code 151 = .ok (.iload 8, 2) := by decide +kernel
theorem d4_153 : decode prog_4_method_9_code 153 = .ok (.iconst 1, 1) := by decide +kernel
theorem d4_154 : decode prog_4_method_9_code 154 = .ok (.isub, 1) := by decide +kernel
theorem d4_155 : decode prog_4_method_9_code 155 = .ok (.invokevirtual 31, 3) := by decide +kernel
theorem d4_158 : decode prog_4_method_9_code 158 = .ok (.laload, 1) := by decide +kernel
theorem d4_159 : decode prog_4_method_9_code 159 = .ok (.lastore, 1) := by decide +kernel
theorem d4_160 : decode prog_4_method_9_code 160 = .ok (.aload_n 0, 1) := by decide +kernel
theorem d4_161 : decode prog_4_method_9_code 161 = .ok (.getfield 13, 3) := by decide +kernel
theorem d4_164 : decode prog_4_method_9_code 164 = .ok (.aload_n 0, 1) := by decide +kernel
theorem d4_165 : decode prog_4_method_9_code 165 = .ok (.iload 8, 2) := by decide +kernel
theorem d4_167 : decode prog_4_method_9_code 167 = .ok (.invokevirtual 31, 3) := by decide +kernel
theorem d4_170 : decode prog_4_method_9_code 170 = .ok (.aload_n 0, 1) := by decide +kernel
theorem d4_171 : decode prog_4_method_9_code 171 = .ok (.getfield 13, 3) := by decide +kernel
theorem d4_174 : decode prog_4_method_9_code 174 = .ok (.aload_n 0, 1) := by decide +kernel
theorem d4_175 : decode prog_4_method_9_code 175 = .ok (.iload 8, 2) := by decide +kernel
theorem d4_177 : decode prog_4_method_9_code 177 = .ok (.iconst 1, 1) := by decide +kernel
theorem d4_178 : decode prog_4_method_9_code 178 = .ok (.isub, 1) := by decide +kernel
theorem d4_179 : decode prog_4_method_9_code 179 = .ok (.invokevirtual 31, 3) := by decide +kernel
theorem d4_182 : decode prog_4_method_9_code 182 = .ok (.laload, 1) := by decide +kernel
theorem d4_183 : decode prog_4_method_9_code 183 = .ok (.lastore, 1) := by decide +kernel
theorem d4_184 : decode prog_4_method_9_code 184 = .ok (.iinc 8 (-1), 3) := by decide +kernel
theorem d4_187 : decode prog_4_method_9_code 187 = .ok (.goto (-58), 3) := by decide +kernel
theorem d4_190 : decode prog_4_method_9_code 190 = .ok (.lload_n 1, 1) := by decide +kernel
theorem d4_191 : decode prog_4_method_9_code 191 = .ok (.aload_n 0, 1) := by decide +kernel
theorem d4_192 : decode prog_4_method_9_code 192 = .ok (.getfield 16, 3) := by decide +kernel
theorem d4_195 : decode prog_4_method_9_code 195 = .ok (.invokestatic 58, 3) := by decide +kernel
theorem d4_198 : decode prog_4_method_9_code 198 = .ok (.lstore 8, 2) := by decide +kernel
theorem d4_200 : decode prog_4_method_9_code 200 = .ok (.aload_n 0, 1) := by decide +kernel
theorem d4_201 : decode prog_4_method_9_code 201 = .ok (.getfield 7, 3) := by decide +kernel
theorem d4_204 : decode prog_4_method_9_code 204 = .ok (.aload_n 0, 1) := by decide +kernel
theorem d4_205 : decode prog_4_method_9_code 205 = .ok (.iload 7, 2) := by decide +kernel
theorem d4_207 : decode prog_4_method_9_code 207 = .ok (.invokevirtual 31, 3) := by decide +kernel
theorem d4_210 : decode prog_4_method_9_code 210 = .ok (.lload_n 3, 1) := by decide +kernel
theorem d4_211 : decode prog_4_method_9_code 211 = .ok (.lastore, 1) := by decide +kernel
theorem d4_212 : decode prog_4_method_9_code 212 = .ok (.aload_n 0, 1) := by decide +kernel
theorem d4_213 : decode prog_4_method_9_code 213 = .ok (.getfield 13, 3) := by decide +kernel
theorem d4_216 : decode prog_4_method_9_code 216 = .ok (.aload_n 0, 1) := by decide +kernel
theorem d4_217 : decode prog_4_method_9_code 217 = .ok (.iload 7, 2) := by decide +kernel
theorem d4_219 : decode prog_4_method_9_code 219 = .ok (.invokevirtual 31, 3) := by decide +kernel
theorem d4_222 : decode prog_4_method_9_code 222 = .ok (.lload 8, 2) := by decide +kernel
theorem d4_224 : decode prog_4_method_9_code 224 = .ok (.lastore, 1) := by decide +kernel
theorem d4_225 : decode prog_4_method_9_code 225 = .ok (.aload_n 0, 1) := by decide +kernel
theorem d4_226 : decode prog_4_method_9_code 226 = .ok (.dup, 1) := by decide +kernel
theorem d4_227 : decode prog_4_method_9_code 227 = .ok (.getfield 20, 3) := by decide +kernel
theorem d4_230 : decode prog_4_method_9_code 230 = .ok (.iconst 1, 1) := by decide +kernel
theorem d4_231 : decode prog_4_method_9_code 231 = .ok (.iadd, 1) := by decide +kernel
theorem d4_232 : decode prog_4_method_9_code 232 = .ok (.putfield 20, 3) := by decide +kernel
theorem d4_235 : decode prog_4_method_9_code 235 = .ok (.aload_n 0, 1) := by decide +kernel
theorem d4_236 : decode prog_4_method_9_code 236 = .ok (.dup, 1) := by decide +kernel
theorem d4_237 : decode prog_4_method_9_code 237 = .ok (.getfield 24, 3) := by decide +kernel
theorem d4_240 : decode prog_4_method_9_code 240 = .ok (.lload 8, 2) := by decide +kernel
theorem d4_242 : decode prog_4_method_9_code 242 = .ok (.ladd, 1) := by decide +kernel
theorem d4_243 : decode prog_4_method_9_code 243 = .ok (.putfield 24, 3) := by decide +kernel
theorem d4_246 : decode prog_4_method_9_code 246 = .ok (.return_, 1) := by decide +kernel
theorem pl_4 : plainFor (⟨"com/example/valved/valved/admission/Entries", "add", "(JJJ)V"⟩ : MethodName) = true := plainFor_of_name (by first | (simp [plainName, overriddenIn]; done) | decide +kernel)
theorem ef_rmAdd00 (m : MethodId) (z0 : Addr) (z1 : Int64) (z2 : Int64) (z3 : Int64) : entryFrame m #[(.ref z0), (.long z1), (.long z2), (.long z3)] 10 = mkF m 0 #[.val (.ref z0), .val (.long z1), .second, .val (.long z2), .second, .val (.long z3), .second, .unset, .unset, .unset] [] := by first | (simp [entryFrame, mkF, argsToLocals, Value.category]; done) | rfl
set_option maxRecDepth 65536 in
set_option maxHeartbeats 40000000 in
theorem rmAdd00 (l : Launch) (Z : State) (a0 : Array Value) (hw : ∀ d ∈ tables_1, d.before a0 Z = true) (q : Addr) (r1 : Addr) (r2 : Addr) (mk : Int64) (tot : Int64) (v0 : Int64) (v1 : Int64) (y0 : Int64) (y1 : Int64) (x : Int64) (w : Int64) (h0 : Heap) (n0 : Nat) (Zn : n0 ≤ h0.size) (E_q : Exa Z h0 q "com/example/valved/valved/admission/Entries") (F_q_stamps : Fld Z h0 q "com/example/valved/valved/admission/Entries" "stamps" "[J" (.ref r1)) (F_q_amounts : Fld Z h0 q "com/example/valved/valved/admission/Entries" "amounts" "[J" (.ref r2)) (F_q_mostKept : Fld Z h0 q "com/example/valved/valved/admission/Entries" "mostKept" "J" (.long mk)) (F_q_oldest : Fld Z h0 q "com/example/valved/valved/admission/Entries" "oldest" "I" (.int (0 : Int32))) (F_q_size : Fld Z h0 q "com/example/valved/valved/admission/Entries" "size" "I" (.int (0 : Int32))) (F_q_total : Fld Z h0 q "com/example/valved/valved/admission/Entries" "total" "J" (.long tot)) (A_r1 : Aj Z h0 r1 .long 2 [v0, v1]) (A_r2 : Aj Z h0 r2 .long 2 [y0, y1]) (ne_q_r1 : q ≠ r1) (ne_q_r2 : q ≠ r2) (ne_r1_r2 : r1 ≠ r2) (g_q : n0 ≤ q) (g_r1 : n0 ≤ r1) (g_r2 : n0 ≤ r2)  :
    WCt l Z (⟨"com/example/valved/valved/admission/Entries", "add", "(JJJ)V"⟩ : MethodName) prog_4_method_9_code 10 none ({ frames := 2, cells := 0, slots := 0, locals := 38 } : Room) #[(.ref q), (.long x), (.long w), (.long (1 : Int64))] h0 (fun vv hh LL => (vv = none) ∧ (Fr n0 LL) ∧ (Keep h0 hh [q, r1, r2]) ∧ (Fld Z hh q "com/example/valved/valved/admission/Entries" "stamps" "[J" (.ref r1)) ∧ (Fld Z hh q "com/example/valved/valved/admission/Entries" "amounts" "[J" (.ref r2)) ∧ (Fld Z hh q "com/example/valved/valved/admission/Entries" "mostKept" "J" (.long mk)) ∧ (Fld Z hh q "com/example/valved/valved/admission/Entries" "oldest" "I" (.int (0 : Int32))) ∧ (Fld Z hh q "com/example/valved/valved/admission/Entries" "size" "I" (.int (1 : Int32))) ∧ (Fld Z hh q "com/example/valved/valved/admission/Entries" "total" "J" (.long (tot + (minJ x mk)))) ∧ (Aj Z hh r1 .long 2 [w, v1]) ∧ (Aj Z hh r2 .long 2 [(minJ x mk), y1])) := by
  refine WCt.of pl_4 ?_
  intro p e s m below meth c T hx hby hml hown hnm hret hlk hZ hh0 X eT
  have hown : s.vm.findClass "com/example/valved/valved/admission/Entries" = some m.cls := hown
  have hnm : meth.name = "add" := hnm
  have N := Fr.nil n0
  obtain ⟨h, eh⟩ : ∃ h, h = h0 := ⟨_, rfl⟩
  have K : Keep h0 h [q, r1, r2] := by rw [eh]; exact Keep.refl _ _
  refine WGo.cast (ef_rmAdd00 m q x w (1 : Int64)) ?_
  rw [← eh] at eT Zn E_q F_q_stamps F_q_amounts F_q_mostKept F_q_oldest F_q_size F_q_total A_r1 A_r2
  refine g_aloadN X hx (hb hby d4_0) rfl rfl (pc' := 1) rfl ?_
  refine g_getF X hx hZ hown (hw _ (List.mem_of_getElem? (i := 27) rfl)) eT F_q_size (hb hby d4_1) (pc' := 4) rfl (fun T X eT => ?_)
  refine g_if X hx (hb hby d4_4) (by decide) (pc' := 25) (by decide) (pc2 := 7) rfl (fun hc => ?_) (fun hc => ?_)
  · replace hc := h_le1 hc
    have hc4 := hc
    refine g_aloadN X hx (hb hby d4_25) rfl rfl (pc' := 26) rfl ?_
    refine g_lloadN X hx (hb hby d4_26) rfl (pc' := 27) rfl ?_
    refine g_virt (W := 0) (argsL := [(.long w)]) (st := []) X hx hZ hown (hw _ (List.mem_of_getElem? (i := 29) rfl)) (hw _ (List.mem_of_getElem? (i := 30) rfl)) (notFace_of_selects (args := #[]) (mvT hZ (hw _ (List.mem_of_getElem? (i := 32) rfl)))) (hw _ (List.mem_of_getElem? (i := 32) rfl)) (hw _ (List.mem_of_getElem? (i := 31) rfl)) (hw _ (List.mem_of_getElem? (i := 33) rfl)) (hw _ (List.mem_of_getElem? (i := 8) rfl)) (by decide) E_q (rmFa l Z a0 hw q w h n0 Zn F_q_size ) eT (by decide) (by decide) (by decide) (by decide) (lenOf pd_2 rfl) (by rw [hml]; rfl) rfl (Nat.le_of_eq rfl) (hb hby d4_27) (pc' := 30) rfl (fun T hn vq Lq X eT hQ => ?_)
    obtain ⟨rfl, Nq, hE⟩ := hQ
    replace N := Fr.app N Nq
    rw [hE] at eT; clear hE
    show WGo _ _ _ _ _ _ _ _ (mkF m 30 #[.val (.ref q), .val (.long x), .second, .val (.long w), .second, .val (.long (1 : Int64)), .second, .unset, .unset, .unset] [(.int (0 : Int32))])
    refine g_istore X hx (hb hby d4_30) (Ls' := #[.val (.ref q), .val (.long x), .second, .val (.long w), .second, .val (.long (1 : Int64)), .second, .val (.int (0 : Int32)), .unset, .unset]) rfl (pc' := 32) rfl ?_
    refine g_iload X hx (hb hby d4_32) rfl (pc' := 34) rfl ?_
    refine g_if X hx (hb hby d4_34) (by decide) (pc' := 67) (by decide) (pc2 := 37) rfl (fun hc => ?_) (fun hc => ?_)
    · replace hc := h_le1 hc
      have hc34 := hc
      refine g_iload X hx (hb hby d4_67) rfl (pc' := 69) rfl ?_
      refine g_aloadN X hx (hb hby d4_69) rfl rfl (pc' := 70) rfl ?_
      refine g_getF X hx hZ hown (hw _ (List.mem_of_getElem? (i := 27) rfl)) eT F_q_size (hb hby d4_70) (pc' := 73) rfl (fun T X eT => ?_)
      refine g_icmp X hx (hb hby d4_73) (by decide) (pc' := 107) (by decide) (pc2 := 76) rfl (fun hc => ?_) (fun hc => ?_)
      · replace hc := h_ge1 hc
        have hc73 := hc
        refine g_aloadN X hx (hb hby d4_107) rfl rfl (pc' := 108) rfl ?_
        refine g_getF X hx hZ hown (hw _ (List.mem_of_getElem? (i := 27) rfl)) eT F_q_size (hb hby d4_108) (pc' := 111) rfl (fun T X eT => ?_)
        refine g_aloadN X hx (hb hby d4_111) rfl rfl (pc' := 112) rfl ?_
        refine g_getF X hx hZ hown (hw _ (List.mem_of_getElem? (i := 16) rfl)) eT F_q_stamps (hb hby d4_112) (pc' := 115) rfl (fun T X eT => ?_)
        refine g_len X hx hZ eT A_r1.2 (hb hby d4_115) (x := (2 : Int32)) (by decide) (pc' := 116) rfl ?_
        refine g_icmp X hx (hb hby d4_116) (by decide) (pc' := 123) (by decide) (pc2 := 119) rfl (fun hc => ?_) (fun hc => ?_)
        · replace hc := h_ne1 hc
          have hc116 := hc
          refine g_aloadN X hx (hb hby d4_123) rfl rfl (pc' := 124) rfl ?_
          refine g_getF X hx hZ hown (hw _ (List.mem_of_getElem? (i := 27) rfl)) eT F_q_size (hb hby d4_124) (pc' := 127) rfl (fun T X eT => ?_)
          refine g_istore X hx (hb hby d4_127) (Ls' := #[.val (.ref q), .val (.long x), .second, .val (.long w), .second, .val (.long (1 : Int64)), .second, .val (.int (0 : Int32)), .val (.int (0 : Int32)), .unset]) rfl (pc' := 129) rfl ?_
          refine g_iload X hx (hb hby d4_129) rfl (pc' := 131) rfl ?_
          refine g_iload X hx (hb hby d4_131) rfl (pc' := 133) rfl ?_
          refine g_icmp X hx (hb hby d4_133) (by decide) (pc' := 190) (by decide) (pc2 := 136) rfl (fun hc => ?_) (fun hc => ?_)
          · replace hc := h_le1 hc
            have hc133 := hc
            refine g_lloadN X hx (hb hby d4_190) rfl (pc' := 191) rfl ?_
            refine g_aloadN X hx (hb hby d4_191) rfl rfl (pc' := 192) rfl ?_
            refine g_getF X hx hZ hown (hw _ (List.mem_of_getElem? (i := 20) rfl)) eT F_q_mostKept (hb hby d4_192) (pc' := 195) rfl (fun T X eT => ?_)
            refine g_stat (W := 0) (argsL := [(.long x), (.long mk)]) (st := []) X hx hZ hown (hw _ (List.mem_of_getElem? (i := 34) rfl)) (hw _ (List.mem_of_getElem? (i := 3) rfl)) (hw _ (List.mem_of_getElem? (i := 4) rfl)) (hw _ (List.mem_of_getElem? (i := 5) rfl)) (by decide) (rmMin l Z a0 hw x mk h n0 Zn  ) eT (by decide) (by decide) (by decide) (by decide) (lenOf pd_1 rfl) (by rw [hml]; rfl) rfl (Nat.le_of_eq rfl) (hb hby d4_195) (pc' := 198) rfl (fun T hn vq Lq X eT hQ => ?_)
            obtain ⟨rfl, Nq, hE⟩ := hQ
            replace N := Fr.app N Nq
            rw [hE] at eT; clear hE
            show WGo _ _ _ _ _ _ _ _ (mkF m 198 #[.val (.ref q), .val (.long x), .second, .val (.long w), .second, .val (.long (1 : Int64)), .second, .val (.int (0 : Int32)), .val (.int (0 : Int32)), .unset] [(.long (minJ x mk))])
            refine g_lstore X hx (hb hby d4_198) (Ls' := #[.val (.ref q), .val (.long x), .second, .val (.long w), .second, .val (.long (1 : Int64)), .second, .val (.int (0 : Int32)), .val (.long (minJ x mk)), .second]) rfl (pc' := 200) rfl ?_
            refine g_aloadN X hx (hb hby d4_200) rfl rfl (pc' := 201) rfl ?_
            refine g_getF X hx hZ hown (hw _ (List.mem_of_getElem? (i := 16) rfl)) eT F_q_stamps (hb hby d4_201) (pc' := 204) rfl (fun T X eT => ?_)
            refine g_aloadN X hx (hb hby d4_204) rfl rfl (pc' := 205) rfl ?_
            refine g_iload X hx (hb hby d4_205) rfl (pc' := 207) rfl ?_
            refine g_priv (W := 1) (argsL := [(.int (0 : Int32))]) (st := [(.ref r1)]) X hx hZ hown (hw _ (List.mem_of_getElem? (i := 35) rfl)) (hw _ (List.mem_of_getElem? (i := 36) rfl)) (hw _ (List.mem_of_getElem? (i := 37) rfl)) (hw _ (List.mem_of_getElem? (i := 38) rfl)) (hw _ (List.mem_of_getElem? (i := 8) rfl)) (hw _ (List.mem_of_getElem? (i := 7) rfl)) (by decide) E_q (rmAt l Z a0 hw q r1 (0 : Int32) (0 : Int32) (0 : Int32) ([v0, v1] : List Int64) h n0 Zn F_q_oldest F_q_stamps A_r1 (by decide)) eT (by decide) (by decide) (by decide) (by decide) (lenOf pd_0 rfl) (by rw [hml]; rfl) rfl (Nat.le_of_eq rfl) (hb hby d4_207) (pc' := 210) rfl (fun T hn vq Lq X eT hQ => ?_)
            obtain ⟨rfl, Nq, hE⟩ := hQ
            replace N := Fr.app N Nq
            rw [hE] at eT; clear hE
            show WGo _ _ _ _ _ _ _ _ (mkF m 210 #[.val (.ref q), .val (.long x), .second, .val (.long w), .second, .val (.long (1 : Int64)), .second, .val (.int (0 : Int32)), .val (.long (minJ x mk)), .second] [(.int (0 : Int32)), (.ref r1)])
            refine g_lloadN X hx (hb hby d4_210) rfl (pc' := 211) rfl ?_
            refine g_lastore X hx hZ eT A_r1.2 (hb hby d4_211) (by decide) (by decide) (pc' := 212) rfl (fun T h X eT W A' => ?_)
            replace F_q_stamps := F_q_stamps.other W (Or.inl ne_q_r1)
            replace F_q_amounts := F_q_amounts.other W (Or.inl ne_q_r1)
            replace F_q_mostKept := F_q_mostKept.other W (Or.inl ne_q_r1)
            replace F_q_oldest := F_q_oldest.other W (Or.inl ne_q_r1)
            replace F_q_size := F_q_size.other W (Or.inl ne_q_r1)
            replace F_q_total := F_q_total.other W (Or.inl ne_q_r1)
            replace E_q := E_q.wr W
            replace A_r2 := A_r2.other W (Ne.symm ne_r1_r2)
            replace N := Fr.snoc X N g_r1
            replace Zn := Nat.le_trans Zn (Nat.le_of_eq W.size.symm)
            replace K := K.wr W (Or.inl (List.mem_of_getElem? (i := 1) rfl))
            replace A_r1 : Aj Z h r1 .long 2 [w, v1] := A_r1.set A'
            refine g_aloadN X hx (hb hby d4_212) rfl rfl (pc' := 213) rfl ?_
            refine g_getF X hx hZ hown (hw _ (List.mem_of_getElem? (i := 18) rfl)) eT F_q_amounts (hb hby d4_213) (pc' := 216) rfl (fun T X eT => ?_)
            refine g_aloadN X hx (hb hby d4_216) rfl rfl (pc' := 217) rfl ?_
            refine g_iload X hx (hb hby d4_217) rfl (pc' := 219) rfl ?_
            refine g_priv (W := 1) (argsL := [(.int (0 : Int32))]) (st := [(.ref r2)]) X hx hZ hown (hw _ (List.mem_of_getElem? (i := 35) rfl)) (hw _ (List.mem_of_getElem? (i := 36) rfl)) (hw _ (List.mem_of_getElem? (i := 37) rfl)) (hw _ (List.mem_of_getElem? (i := 38) rfl)) (hw _ (List.mem_of_getElem? (i := 8) rfl)) (hw _ (List.mem_of_getElem? (i := 7) rfl)) (by decide) E_q (rmAt l Z a0 hw q r1 (0 : Int32) (0 : Int32) (0 : Int32) ([w, v1] : List Int64) h n0 Zn F_q_oldest F_q_stamps A_r1 (by decide)) eT (by decide) (by decide) (by decide) (by decide) (lenOf pd_0 rfl) (by rw [hml]; rfl) rfl (Nat.le_of_eq rfl) (hb hby d4_219) (pc' := 222) rfl (fun T hn vq Lq X eT hQ => ?_)
            obtain ⟨rfl, Nq, hE⟩ := hQ
            replace N := Fr.app N Nq
            rw [hE] at eT; clear hE
            show WGo _ _ _ _ _ _ _ _ (mkF m 222 #[.val (.ref q), .val (.long x), .second, .val (.long w), .second, .val (.long (1 : Int64)), .second, .val (.int (0 : Int32)), .val (.long (minJ x mk)), .second] [(.int (0 : Int32)), (.ref r2)])
            refine g_lload X hx (hb hby d4_222) rfl (pc' := 224) rfl ?_
            refine g_lastore X hx hZ eT A_r2.2 (hb hby d4_224) (by decide) (by decide) (pc' := 225) rfl (fun T h X eT W A' => ?_)
            replace F_q_stamps := F_q_stamps.other W (Or.inl ne_q_r2)
            replace F_q_amounts := F_q_amounts.other W (Or.inl ne_q_r2)
            replace F_q_mostKept := F_q_mostKept.other W (Or.inl ne_q_r2)
            replace F_q_oldest := F_q_oldest.other W (Or.inl ne_q_r2)
            replace F_q_size := F_q_size.other W (Or.inl ne_q_r2)
            replace F_q_total := F_q_total.other W (Or.inl ne_q_r2)
            replace E_q := E_q.wr W
            replace A_r1 := A_r1.other W ne_r1_r2
            replace N := Fr.snoc X N g_r2
            replace Zn := Nat.le_trans Zn (Nat.le_of_eq W.size.symm)
            replace K := K.wr W (Or.inl (List.mem_of_getElem? (i := 2) rfl))
            replace A_r2 : Aj Z h r2 .long 2 [(minJ x mk), y1] := A_r2.set A'
            refine g_aloadN X hx (hb hby d4_225) rfl rfl (pc' := 226) rfl ?_
            refine g_dup X hx (hb hby d4_226) rfl (pc' := 227) rfl ?_
            refine g_getF X hx hZ hown (hw _ (List.mem_of_getElem? (i := 27) rfl)) eT F_q_size (hb hby d4_227) (pc' := 230) rfl (fun T X eT => ?_)
            refine g_iconst X hx (hb hby d4_230) (x := (1 : Int32)) (by decide) (pc' := 231) rfl ?_
            refine g_iadd X hx (hb hby d4_231) (pc' := 232) rfl ?_
            rw [show ((0 : Int32) + (1 : Int32)) = (1 : Int32) from by decide]
            refine g_putF X hx hZ hown (hw _ (List.mem_of_getElem? (i := 27) rfl)) eT F_q_size E_q (Or.inl (hw _ (List.mem_of_getElem? (i := 28) rfl))) (hw _ (List.mem_of_getElem? (i := 7) rfl)) (ty := .int) (by decide) rfl rfl (hb hby d4_232) (pc' := 235) rfl (fun T h X eT W => ?_)
            replace F_q_stamps := F_q_stamps.other W (Or.inr (slot_ne (t := (.array .long)) (t' := .int) (Or.inl (hw _ (List.mem_of_getElem? (i := 17) rfl))) (Or.inl (hw _ (List.mem_of_getElem? (i := 28) rfl))) (by decide) (by decide) (by decide)))
            replace F_q_amounts := F_q_amounts.other W (Or.inr (slot_ne (t := (.array .long)) (t' := .int) (Or.inl (hw _ (List.mem_of_getElem? (i := 19) rfl))) (Or.inl (hw _ (List.mem_of_getElem? (i := 28) rfl))) (by decide) (by decide) (by decide)))
            replace F_q_mostKept := F_q_mostKept.other W (Or.inr (slot_ne (t := .long) (t' := .int) (Or.inr (hw _ (List.mem_of_getElem? (i := 21) rfl))) (Or.inl (hw _ (List.mem_of_getElem? (i := 28) rfl))) (by decide) (by decide) (by decide)))
            replace F_q_oldest := F_q_oldest.other W (Or.inr (slot_ne (t := .int) (t' := .int) (Or.inl (hw _ (List.mem_of_getElem? (i := 40) rfl))) (Or.inl (hw _ (List.mem_of_getElem? (i := 28) rfl))) (by decide) (by decide) (by decide)))
            replace F_q_size := F_q_size.same W
            replace F_q_total := F_q_total.other W (Or.inr (slot_ne (t := .long) (t' := .int) (Or.inl (hw _ (List.mem_of_getElem? (i := 42) rfl))) (Or.inl (hw _ (List.mem_of_getElem? (i := 28) rfl))) (by decide) (by decide) (by decide)))
            replace E_q := E_q.wr W
            replace A_r1 := A_r1.other W (Ne.symm ne_q_r1)
            replace A_r2 := A_r2.other W (Ne.symm ne_q_r2)
            replace N := Fr.snoc X N g_q
            replace Zn := Nat.le_trans Zn (Nat.le_of_eq W.size.symm)
            replace K := K.wr W (Or.inl (List.mem_of_getElem? (i := 0) rfl))
            refine g_aloadN X hx (hb hby d4_235) rfl rfl (pc' := 236) rfl ?_
            refine g_dup X hx (hb hby d4_236) rfl (pc' := 237) rfl ?_
            refine g_getF X hx hZ hown (hw _ (List.mem_of_getElem? (i := 41) rfl)) eT F_q_total (hb hby d4_237) (pc' := 240) rfl (fun T X eT => ?_)
            refine g_lload X hx (hb hby d4_240) rfl (pc' := 242) rfl ?_
            refine g_ladd X hx (hb hby d4_242) (pc' := 243) rfl ?_
            refine g_putF X hx hZ hown (hw _ (List.mem_of_getElem? (i := 41) rfl)) eT F_q_total E_q (Or.inl (hw _ (List.mem_of_getElem? (i := 42) rfl))) (hw _ (List.mem_of_getElem? (i := 7) rfl)) (ty := .long) (by decide) rfl rfl (hb hby d4_243) (pc' := 246) rfl (fun T h X eT W => ?_)
            replace F_q_stamps := F_q_stamps.other W (Or.inr (slot_ne (t := (.array .long)) (t' := .long) (Or.inl (hw _ (List.mem_of_getElem? (i := 17) rfl))) (Or.inl (hw _ (List.mem_of_getElem? (i := 42) rfl))) (by decide) (by decide) (by decide)))
            replace F_q_amounts := F_q_amounts.other W (Or.inr (slot_ne (t := (.array .long)) (t' := .long) (Or.inl (hw _ (List.mem_of_getElem? (i := 19) rfl))) (Or.inl (hw _ (List.mem_of_getElem? (i := 42) rfl))) (by decide) (by decide) (by decide)))
            replace F_q_mostKept := F_q_mostKept.other W (Or.inr (slot_ne (t := .long) (t' := .long) (Or.inr (hw _ (List.mem_of_getElem? (i := 21) rfl))) (Or.inl (hw _ (List.mem_of_getElem? (i := 42) rfl))) (by decide) (by decide) (by decide)))
            replace F_q_oldest := F_q_oldest.other W (Or.inr (slot_ne (t := .int) (t' := .long) (Or.inl (hw _ (List.mem_of_getElem? (i := 40) rfl))) (Or.inl (hw _ (List.mem_of_getElem? (i := 42) rfl))) (by decide) (by decide) (by decide)))
            replace F_q_size := F_q_size.other W (Or.inr (slot_ne (t := .int) (t' := .long) (Or.inl (hw _ (List.mem_of_getElem? (i := 28) rfl))) (Or.inl (hw _ (List.mem_of_getElem? (i := 42) rfl))) (by decide) (by decide) (by decide)))
            replace F_q_total := F_q_total.same W
            replace E_q := E_q.wr W
            replace A_r1 := A_r1.other W (Ne.symm ne_q_r1)
            replace A_r2 := A_r2.other W (Ne.symm ne_q_r2)
            replace N := Fr.snoc X N g_q
            replace Zn := Nat.le_trans Zn (Nat.le_of_eq W.size.symm)
            replace K := K.wr W (Or.inl (List.mem_of_getElem? (i := 0) rfl))
            refine g_ret0 X hx hret hlk (hb hby d4_246) (by decide) (by decide) ?_
            rw [eT]
            exact ⟨rfl, N, K, F_q_stamps, F_q_amounts, F_q_mostKept, F_q_oldest, F_q_size, F_q_total, A_r1, A_r2⟩
          · replace hc := h_le0 hc
            have hc133 := hc
            exfalso
            clear hc133; revert hc; decide
        · replace hc := h_ne0 hc
          have hc116 := hc
          exfalso
          clear hc116; revert hc; decide
      · replace hc := h_ge0 hc
        have hc73 := hc
        exfalso
        clear hc73; revert hc; decide
    · replace hc := h_le0 hc
      have hc34 := hc
      exfalso
      clear hc34; revert hc; decide
  · replace hc := h_le0 hc
    have hc4 := hc
    exfalso
    clear hc4; revert hc; decide
theorem ef_rmAdd10 (m : MethodId) (z0 : Addr) (z1 : Int64) (z2 : Int64) (z3 : Int64) : entryFrame m #[(.ref z0), (.long z1), (.long z2), (.long z3)] 10 = mkF m 0 #[.val (.ref z0), .val (.long z1), .second, .val (.long z2), .second, .val (.long z3), .second, .unset, .unset, .unset] [] := by first | (simp [entryFrame, mkF, argsToLocals, Value.category]; done) | rfl
set_option maxRecDepth 65536 in
set_option maxHeartbeats 40000000 in
theorem rmAdd10 (l : Launch) (Z : State) (a0 : Array Value) (hw : ∀ d ∈ tables_1, d.before a0 Z = true) (q : Addr) (r1 : Addr) (r2 : Addr) (mk : Int64) (tot : Int64) (v0 : Int64) (v1 : Int64) (y0 : Int64) (y1 : Int64) (x : Int64) (w : Int64) (h0 : Heap) (n0 : Nat) (Zn : n0 ≤ h0.size) (E_q : Exa Z h0 q "com/example/valved/valved/admission/Entries") (F_q_stamps : Fld Z h0 q "com/example/valved/valved/admission/Entries" "stamps" "[J" (.ref r1)) (F_q_amounts : Fld Z h0 q "com/example/valved/valved/admission/Entries" "amounts" "[J" (.ref r2)) (F_q_mostKept : Fld Z h0 q "com/example/valved/valved/admission/Entries" "mostKept" "J" (.long mk)) (F_q_oldest : Fld Z h0 q "com/example/valved/valved/admission/Entries" "oldest" "I" (.int (0 : Int32))) (F_q_size : Fld Z h0 q "com/example/valved/valved/admission/Entries" "size" "I" (.int (1 : Int32))) (F_q_total : Fld Z h0 q "com/example/valved/valved/admission/Entries" "total" "J" (.long tot)) (A_r1 : Aj Z h0 r1 .long 2 [v0, v1]) (A_r2 : Aj Z h0 r2 .long 2 [y0, y1]) (ne_q_r1 : q ≠ r1) (ne_q_r2 : q ≠ r2) (ne_r1_r2 : r1 ≠ r2) (g_q : n0 ≤ q) (g_r1 : n0 ≤ r1) (g_r2 : n0 ≤ r2) (hst : ¬ (w - v0) < 0) (hne : ¬ v0 = w) :
    WCt l Z (⟨"com/example/valved/valved/admission/Entries", "add", "(JJJ)V"⟩ : MethodName) prog_4_method_9_code 10 none ({ frames := 2, cells := 0, slots := 0, locals := 38 } : Room) #[(.ref q), (.long x), (.long w), (.long (1 : Int64))] h0 (fun vv hh LL => (vv = none) ∧ (Fr n0 LL) ∧ (Keep h0 hh [q, r1, r2]) ∧ (Fld Z hh q "com/example/valved/valved/admission/Entries" "stamps" "[J" (.ref r1)) ∧ (Fld Z hh q "com/example/valved/valved/admission/Entries" "amounts" "[J" (.ref r2)) ∧ (Fld Z hh q "com/example/valved/valved/admission/Entries" "mostKept" "J" (.long mk)) ∧ (Fld Z hh q "com/example/valved/valved/admission/Entries" "oldest" "I" (.int (0 : Int32))) ∧ (Fld Z hh q "com/example/valved/valved/admission/Entries" "size" "I" (.int (2 : Int32))) ∧ (Fld Z hh q "com/example/valved/valved/admission/Entries" "total" "J" (.long (tot + (minJ x mk)))) ∧ (Aj Z hh r1 .long 2 [v0, w]) ∧ (Aj Z hh r2 .long 2 [y0, (minJ x mk)])) := by
  refine WCt.of pl_4 ?_
  intro p e s m below meth c T hx hby hml hown hnm hret hlk hZ hh0 X eT
  have hown : s.vm.findClass "com/example/valved/valved/admission/Entries" = some m.cls := hown
  have hnm : meth.name = "add" := hnm
  have N := Fr.nil n0
  obtain ⟨h, eh⟩ : ∃ h, h = h0 := ⟨_, rfl⟩
  have K : Keep h0 h [q, r1, r2] := by rw [eh]; exact Keep.refl _ _
  refine WGo.cast (ef_rmAdd10 m q x w (1 : Int64)) ?_
  rw [← eh] at eT Zn E_q F_q_stamps F_q_amounts F_q_mostKept F_q_oldest F_q_size F_q_total A_r1 A_r2
  refine g_aloadN X hx (hb hby d4_0) rfl rfl (pc' := 1) rfl ?_
  refine g_getF X hx hZ hown (hw _ (List.mem_of_getElem? (i := 27) rfl)) eT F_q_size (hb hby d4_1) (pc' := 4) rfl (fun T X eT => ?_)
  refine g_if X hx (hb hby d4_4) (by decide) (pc' := 25) (by decide) (pc2 := 7) rfl (fun hc => ?_) (fun hc => ?_)
  · replace hc := h_le1 hc
    have hc4 := hc
    exfalso
    clear hc4; revert hc; decide
  · replace hc := h_le0 hc
    have hc4 := hc
    refine g_lloadN X hx (hb hby d4_7) rfl (pc' := 8) rfl ?_
    refine g_aloadN X hx (hb hby d4_8) rfl rfl (pc' := 9) rfl ?_
    refine g_virt (W := 2) (argsL := []) (st := [(.long w)]) X hx hZ hown (hw _ (List.mem_of_getElem? (i := 43) rfl)) (hw _ (List.mem_of_getElem? (i := 44) rfl)) (notFace_of_selects (args := #[]) (mvT hZ (hw _ (List.mem_of_getElem? (i := 46) rfl)))) (hw _ (List.mem_of_getElem? (i := 46) rfl)) (hw _ (List.mem_of_getElem? (i := 45) rfl)) (hw _ (List.mem_of_getElem? (i := 47) rfl)) (hw _ (List.mem_of_getElem? (i := 8) rfl)) (by decide) E_q (rmNew l Z a0 hw q r1 (0 : Int32) (0 : Int32) ([v0, v1] : List Int64) v0 h n0 Zn E_q F_q_oldest F_q_stamps F_q_size A_r1 (by decide) (by decide) (by decide) rfl) eT (by decide) (by decide) (by decide) (by decide) (lenOf pd_3 rfl) (by rw [hml]; rfl) rfl (Nat.le_of_eq rfl) (hb hby d4_9) (pc' := 12) rfl (fun T hn vq Lq X eT hQ => ?_)
    obtain ⟨rfl, Nq, hE⟩ := hQ
    replace N := Fr.app N Nq
    rw [hE] at eT; clear hE
    show WGo _ _ _ _ _ _ _ _ (mkF m 12 #[.val (.ref q), .val (.long x), .second, .val (.long w), .second, .val (.long (1 : Int64)), .second, .unset, .unset, .unset] [(.long v0), (.long w)])
    refine g_lsub X hx (hb hby d4_12) (pc' := 13) rfl ?_
    refine g_lconst X hx (hb hby d4_13) (u := (0 : Int64)) (by decide) (pc' := 14) rfl ?_
    refine g_lcmp X hx (hb hby d4_14) (pc' := 15) rfl ?_
    refine g_if X hx (hb hby d4_15) (by decide) (pc' := 25) (by decide) (pc2 := 18) rfl (fun hc => ?_) (fun hc => ?_)
    · replace hc := h_lt1 hc
      simp only [cl_lt, cl_gt, cl_eq] at hc
      have hc15 := hc
      exfalso
      exact hst hc
    · replace hc := h_lt0 hc
      simp only [cl_lt, cl_gt, cl_eq] at hc
      have hc15 := hc
      refine g_aloadN X hx (hb hby d4_18) rfl rfl (pc' := 19) rfl ?_
      refine g_getF X hx hZ hown (hw _ (List.mem_of_getElem? (i := 27) rfl)) eT F_q_size (hb hby d4_19) (pc' := 22) rfl (fun T X eT => ?_)
      refine g_goto X hx (hb hby d4_22) (by decide) (pc' := 30) (by decide) ?_
      refine g_istore X hx (hb hby d4_30) (Ls' := #[.val (.ref q), .val (.long x), .second, .val (.long w), .second, .val (.long (1 : Int64)), .second, .val (.int (1 : Int32)), .unset, .unset]) rfl (pc' := 32) rfl ?_
      refine g_iload X hx (hb hby d4_32) rfl (pc' := 34) rfl ?_
      refine g_if X hx (hb hby d4_34) (by decide) (pc' := 67) (by decide) (pc2 := 37) rfl (fun hc => ?_) (fun hc => ?_)
      · replace hc := h_le1 hc
        have hc34 := hc
        exfalso
        clear hc34; revert hc; decide
      · replace hc := h_le0 hc
        have hc34 := hc
        refine g_aloadN X hx (hb hby d4_37) rfl rfl (pc' := 38) rfl ?_
        refine g_iload X hx (hb hby d4_38) rfl (pc' := 40) rfl ?_
        refine g_iconst X hx (hb hby d4_40) (x := (1 : Int32)) (by decide) (pc' := 41) rfl ?_
        refine g_isub X hx (hb hby d4_41) (pc' := 42) rfl ?_
        rw [show ((1 : Int32) - (1 : Int32)) = (0 : Int32) from by decide]
        refine g_virt (W := 0) (argsL := [(.int (0 : Int32))]) (st := []) X hx hZ hown (hw _ (List.mem_of_getElem? (i := 48) rfl)) (hw _ (List.mem_of_getElem? (i := 49) rfl)) (notFace_of_selects (args := #[]) (mvT hZ (hw _ (List.mem_of_getElem? (i := 51) rfl)))) (hw _ (List.mem_of_getElem? (i := 51) rfl)) (hw _ (List.mem_of_getElem? (i := 50) rfl)) (hw _ (List.mem_of_getElem? (i := 52) rfl)) (hw _ (List.mem_of_getElem? (i := 8) rfl)) (by decide) E_q (rmSt l Z a0 hw q r1 (0 : Int32) (0 : Int32) (0 : Int32) ([v0, v1] : List Int64) v0 h n0 Zn E_q F_q_oldest F_q_stamps A_r1 (by decide) (by decide) (by decide) rfl) eT (by decide) (by decide) (by decide) (by decide) (lenOf pd_4 rfl) (by rw [hml]; rfl) rfl (Nat.le_of_eq rfl) (hb hby d4_42) (pc' := 45) rfl (fun T hn vq Lq X eT hQ => ?_)
        obtain ⟨rfl, Nq, hE⟩ := hQ
        replace N := Fr.app N Nq
        rw [hE] at eT; clear hE
        show WGo _ _ _ _ _ _ _ _ (mkF m 45 #[.val (.ref q), .val (.long x), .second, .val (.long w), .second, .val (.long (1 : Int64)), .second, .val (.int (1 : Int32)), .unset, .unset] [(.long v0)])
        refine g_lloadN X hx (hb hby d4_45) rfl (pc' := 46) rfl ?_
        refine g_lload X hx (hb hby d4_46) rfl (pc' := 48) rfl ?_
        refine g_stat (W := 0) (argsL := [(.long v0), (.long w), (.long (1 : Int64))]) (st := []) X hx hZ hown (hw _ (List.mem_of_getElem? (i := 53) rfl)) (hw _ (List.mem_of_getElem? (i := 54) rfl)) (hw _ (List.mem_of_getElem? (i := 8) rfl)) (hw _ (List.mem_of_getElem? (i := 55) rfl)) (by decide) (rmSl l Z a0 hw v0 w h n0 Zn  hne) eT (by decide) (by decide) (by decide) (by decide) (lenOf pd_5 rfl) (by rw [hml]; rfl) rfl (Nat.le_of_eq rfl) (hb hby d4_48) (pc' := 51) rfl (fun T hn vq Lq X eT hQ => ?_)
        obtain ⟨rfl, Nq, hE⟩ := hQ
        replace N := Fr.app N Nq
        rw [hE] at eT; clear hE
        show WGo _ _ _ _ _ _ _ _ (mkF m 51 #[.val (.ref q), .val (.long x), .second, .val (.long w), .second, .val (.long (1 : Int64)), .second, .val (.int (1 : Int32)), .unset, .unset] [(.int (0 : Int32))])
        refine g_if X hx (hb hby d4_51) (by decide) (pc' := 67) (by decide) (pc2 := 54) rfl (fun hc => ?_) (fun hc => ?_)
        · replace hc := h_eq1 hc
          have hc51 := hc
          refine g_iload X hx (hb hby d4_67) rfl (pc' := 69) rfl ?_
          refine g_aloadN X hx (hb hby d4_69) rfl rfl (pc' := 70) rfl ?_
          refine g_getF X hx hZ hown (hw _ (List.mem_of_getElem? (i := 27) rfl)) eT F_q_size (hb hby d4_70) (pc' := 73) rfl (fun T X eT => ?_)
          refine g_icmp X hx (hb hby d4_73) (by decide) (pc' := 107) (by decide) (pc2 := 76) rfl (fun hc => ?_) (fun hc => ?_)
          · replace hc := h_ge1 hc
            have hc73 := hc
            refine g_aloadN X hx (hb hby d4_107) rfl rfl (pc' := 108) rfl ?_
            refine g_getF X hx hZ hown (hw _ (List.mem_of_getElem? (i := 27) rfl)) eT F_q_size (hb hby d4_108) (pc' := 111) rfl (fun T X eT => ?_)
            refine g_aloadN X hx (hb hby d4_111) rfl rfl (pc' := 112) rfl ?_
            refine g_getF X hx hZ hown (hw _ (List.mem_of_getElem? (i := 16) rfl)) eT F_q_stamps (hb hby d4_112) (pc' := 115) rfl (fun T X eT => ?_)
            refine g_len X hx hZ eT A_r1.2 (hb hby d4_115) (x := (2 : Int32)) (by decide) (pc' := 116) rfl ?_
            refine g_icmp X hx (hb hby d4_116) (by decide) (pc' := 123) (by decide) (pc2 := 119) rfl (fun hc => ?_) (fun hc => ?_)
            · replace hc := h_ne1 hc
              have hc116 := hc
              refine g_aloadN X hx (hb hby d4_123) rfl rfl (pc' := 124) rfl ?_
              refine g_getF X hx hZ hown (hw _ (List.mem_of_getElem? (i := 27) rfl)) eT F_q_size (hb hby d4_124) (pc' := 127) rfl (fun T X eT => ?_)
              refine g_istore X hx (hb hby d4_127) (Ls' := #[.val (.ref q), .val (.long x), .second, .val (.long w), .second, .val (.long (1 : Int64)), .second, .val (.int (1 : Int32)), .val (.int (1 : Int32)), .unset]) rfl (pc' := 129) rfl ?_
              refine g_iload X hx (hb hby d4_129) rfl (pc' := 131) rfl ?_
              refine g_iload X hx (hb hby d4_131) rfl (pc' := 133) rfl ?_
              refine g_icmp X hx (hb hby d4_133) (by decide) (pc' := 190) (by decide) (pc2 := 136) rfl (fun hc => ?_) (fun hc => ?_)
              · replace hc := h_le1 hc
                have hc133 := hc
                refine g_lloadN X hx (hb hby d4_190) rfl (pc' := 191) rfl ?_
                refine g_aloadN X hx (hb hby d4_191) rfl rfl (pc' := 192) rfl ?_
                refine g_getF X hx hZ hown (hw _ (List.mem_of_getElem? (i := 20) rfl)) eT F_q_mostKept (hb hby d4_192) (pc' := 195) rfl (fun T X eT => ?_)
                refine g_stat (W := 0) (argsL := [(.long x), (.long mk)]) (st := []) X hx hZ hown (hw _ (List.mem_of_getElem? (i := 34) rfl)) (hw _ (List.mem_of_getElem? (i := 3) rfl)) (hw _ (List.mem_of_getElem? (i := 4) rfl)) (hw _ (List.mem_of_getElem? (i := 5) rfl)) (by decide) (rmMin l Z a0 hw x mk h n0 Zn  ) eT (by decide) (by decide) (by decide) (by decide) (lenOf pd_1 rfl) (by rw [hml]; rfl) rfl (Nat.le_of_eq rfl) (hb hby d4_195) (pc' := 198) rfl (fun T hn vq Lq X eT hQ => ?_)
                obtain ⟨rfl, Nq, hE⟩ := hQ
                replace N := Fr.app N Nq
                rw [hE] at eT; clear hE
                show WGo _ _ _ _ _ _ _ _ (mkF m 198 #[.val (.ref q), .val (.long x), .second, .val (.long w), .second, .val (.long (1 : Int64)), .second, .val (.int (1 : Int32)), .val (.int (1 : Int32)), .unset] [(.long (minJ x mk))])
                refine g_lstore X hx (hb hby d4_198) (Ls' := #[.val (.ref q), .val (.long x), .second, .val (.long w), .second, .val (.long (1 : Int64)), .second, .val (.int (1 : Int32)), .val (.long (minJ x mk)), .second]) rfl (pc' := 200) rfl ?_
                refine g_aloadN X hx (hb hby d4_200) rfl rfl (pc' := 201) rfl ?_
                refine g_getF X hx hZ hown (hw _ (List.mem_of_getElem? (i := 16) rfl)) eT F_q_stamps (hb hby d4_201) (pc' := 204) rfl (fun T X eT => ?_)
                refine g_aloadN X hx (hb hby d4_204) rfl rfl (pc' := 205) rfl ?_
                refine g_iload X hx (hb hby d4_205) rfl (pc' := 207) rfl ?_
                refine g_priv (W := 1) (argsL := [(.int (1 : Int32))]) (st := [(.ref r1)]) X hx hZ hown (hw _ (List.mem_of_getElem? (i := 35) rfl)) (hw _ (List.mem_of_getElem? (i := 36) rfl)) (hw _ (List.mem_of_getElem? (i := 37) rfl)) (hw _ (List.mem_of_getElem? (i := 38) rfl)) (hw _ (List.mem_of_getElem? (i := 8) rfl)) (hw _ (List.mem_of_getElem? (i := 7) rfl)) (by decide) E_q (rmAt l Z a0 hw q r1 (0 : Int32) (1 : Int32) (1 : Int32) ([v0, v1] : List Int64) h n0 Zn F_q_oldest F_q_stamps A_r1 (by decide)) eT (by decide) (by decide) (by decide) (by decide) (lenOf pd_0 rfl) (by rw [hml]; rfl) rfl (Nat.le_of_eq rfl) (hb hby d4_207) (pc' := 210) rfl (fun T hn vq Lq X eT hQ => ?_)
                obtain ⟨rfl, Nq, hE⟩ := hQ
                replace N := Fr.app N Nq
                rw [hE] at eT; clear hE
                show WGo _ _ _ _ _ _ _ _ (mkF m 210 #[.val (.ref q), .val (.long x), .second, .val (.long w), .second, .val (.long (1 : Int64)), .second, .val (.int (1 : Int32)), .val (.long (minJ x mk)), .second] [(.int (1 : Int32)), (.ref r1)])
                refine g_lloadN X hx (hb hby d4_210) rfl (pc' := 211) rfl ?_
                refine g_lastore X hx hZ eT A_r1.2 (hb hby d4_211) (by decide) (by decide) (pc' := 212) rfl (fun T h X eT W A' => ?_)
                replace F_q_stamps := F_q_stamps.other W (Or.inl ne_q_r1)
                replace F_q_amounts := F_q_amounts.other W (Or.inl ne_q_r1)
                replace F_q_mostKept := F_q_mostKept.other W (Or.inl ne_q_r1)
                replace F_q_oldest := F_q_oldest.other W (Or.inl ne_q_r1)
                replace F_q_size := F_q_size.other W (Or.inl ne_q_r1)
                replace F_q_total := F_q_total.other W (Or.inl ne_q_r1)
                replace E_q := E_q.wr W
                replace A_r2 := A_r2.other W (Ne.symm ne_r1_r2)
                replace N := Fr.snoc X N g_r1
                replace Zn := Nat.le_trans Zn (Nat.le_of_eq W.size.symm)
                replace K := K.wr W (Or.inl (List.mem_of_getElem? (i := 1) rfl))
                replace A_r1 : Aj Z h r1 .long 2 [v0, w] := A_r1.set A'
                refine g_aloadN X hx (hb hby d4_212) rfl rfl (pc' := 213) rfl ?_
                refine g_getF X hx hZ hown (hw _ (List.mem_of_getElem? (i := 18) rfl)) eT F_q_amounts (hb hby d4_213) (pc' := 216) rfl (fun T X eT => ?_)
                refine g_aloadN X hx (hb hby d4_216) rfl rfl (pc' := 217) rfl ?_
                refine g_iload X hx (hb hby d4_217) rfl (pc' := 219) rfl ?_
                refine g_priv (W := 1) (argsL := [(.int (1 : Int32))]) (st := [(.ref r2)]) X hx hZ hown (hw _ (List.mem_of_getElem? (i := 35) rfl)) (hw _ (List.mem_of_getElem? (i := 36) rfl)) (hw _ (List.mem_of_getElem? (i := 37) rfl)) (hw _ (List.mem_of_getElem? (i := 38) rfl)) (hw _ (List.mem_of_getElem? (i := 8) rfl)) (hw _ (List.mem_of_getElem? (i := 7) rfl)) (by decide) E_q (rmAt l Z a0 hw q r1 (0 : Int32) (1 : Int32) (1 : Int32) ([v0, w] : List Int64) h n0 Zn F_q_oldest F_q_stamps A_r1 (by decide)) eT (by decide) (by decide) (by decide) (by decide) (lenOf pd_0 rfl) (by rw [hml]; rfl) rfl (Nat.le_of_eq rfl) (hb hby d4_219) (pc' := 222) rfl (fun T hn vq Lq X eT hQ => ?_)
                obtain ⟨rfl, Nq, hE⟩ := hQ
                replace N := Fr.app N Nq
                rw [hE] at eT; clear hE
                show WGo _ _ _ _ _ _ _ _ (mkF m 222 #[.val (.ref q), .val (.long x), .second, .val (.long w), .second, .val (.long (1 : Int64)), .second, .val (.int (1 : Int32)), .val (.long (minJ x mk)), .second] [(.int (1 : Int32)), (.ref r2)])
                refine g_lload X hx (hb hby d4_222) rfl (pc' := 224) rfl ?_
                refine g_lastore X hx hZ eT A_r2.2 (hb hby d4_224) (by decide) (by decide) (pc' := 225) rfl (fun T h X eT W A' => ?_)
                replace F_q_stamps := F_q_stamps.other W (Or.inl ne_q_r2)
                replace F_q_amounts := F_q_amounts.other W (Or.inl ne_q_r2)
                replace F_q_mostKept := F_q_mostKept.other W (Or.inl ne_q_r2)
                replace F_q_oldest := F_q_oldest.other W (Or.inl ne_q_r2)
                replace F_q_size := F_q_size.other W (Or.inl ne_q_r2)
                replace F_q_total := F_q_total.other W (Or.inl ne_q_r2)
                replace E_q := E_q.wr W
                replace A_r1 := A_r1.other W ne_r1_r2
                replace N := Fr.snoc X N g_r2
                replace Zn := Nat.le_trans Zn (Nat.le_of_eq W.size.symm)
                replace K := K.wr W (Or.inl (List.mem_of_getElem? (i := 2) rfl))
                replace A_r2 : Aj Z h r2 .long 2 [y0, (minJ x mk)] := A_r2.set A'
                refine g_aloadN X hx (hb hby d4_225) rfl rfl (pc' := 226) rfl ?_
                refine g_dup X hx (hb hby d4_226) rfl (pc' := 227) rfl ?_
                refine g_getF X hx hZ hown (hw _ (List.mem_of_getElem? (i := 27) rfl)) eT F_q_size (hb hby d4_227) (pc' := 230) rfl (fun T X eT => ?_)
                refine g_iconst X hx (hb hby d4_230) (x := (1 : Int32)) (by decide) (pc' := 231) rfl ?_
                refine g_iadd X hx (hb hby d4_231) (pc' := 232) rfl ?_
                rw [show ((1 : Int32) + (1 : Int32)) = (2 : Int32) from by decide]
                refine g_putF X hx hZ hown (hw _ (List.mem_of_getElem? (i := 27) rfl)) eT F_q_size E_q (Or.inl (hw _ (List.mem_of_getElem? (i := 28) rfl))) (hw _ (List.mem_of_getElem? (i := 7) rfl)) (ty := .int) (by decide) rfl rfl (hb hby d4_232) (pc' := 235) rfl (fun T h X eT W => ?_)
                replace F_q_stamps := F_q_stamps.other W (Or.inr (slot_ne (t := (.array .long)) (t' := .int) (Or.inl (hw _ (List.mem_of_getElem? (i := 17) rfl))) (Or.inl (hw _ (List.mem_of_getElem? (i := 28) rfl))) (by decide) (by decide) (by decide)))
                replace F_q_amounts := F_q_amounts.other W (Or.inr (slot_ne (t := (.array .long)) (t' := .int) (Or.inl (hw _ (List.mem_of_getElem? (i := 19) rfl))) (Or.inl (hw _ (List.mem_of_getElem? (i := 28) rfl))) (by decide) (by decide) (by decide)))
                replace F_q_mostKept := F_q_mostKept.other W (Or.inr (slot_ne (t := .long) (t' := .int) (Or.inr (hw _ (List.mem_of_getElem? (i := 21) rfl))) (Or.inl (hw _ (List.mem_of_getElem? (i := 28) rfl))) (by decide) (by decide) (by decide)))
                replace F_q_oldest := F_q_oldest.other W (Or.inr (slot_ne (t := .int) (t' := .int) (Or.inl (hw _ (List.mem_of_getElem? (i := 40) rfl))) (Or.inl (hw _ (List.mem_of_getElem? (i := 28) rfl))) (by decide) (by decide) (by decide)))
                replace F_q_size := F_q_size.same W
                replace F_q_total := F_q_total.other W (Or.inr (slot_ne (t := .long) (t' := .int) (Or.inl (hw _ (List.mem_of_getElem? (i := 42) rfl))) (Or.inl (hw _ (List.mem_of_getElem? (i := 28) rfl))) (by decide) (by decide) (by decide)))
                replace E_q := E_q.wr W
                replace A_r1 := A_r1.other W (Ne.symm ne_q_r1)
                replace A_r2 := A_r2.other W (Ne.symm ne_q_r2)
                replace N := Fr.snoc X N g_q
                replace Zn := Nat.le_trans Zn (Nat.le_of_eq W.size.symm)
                replace K := K.wr W (Or.inl (List.mem_of_getElem? (i := 0) rfl))
                refine g_aloadN X hx (hb hby d4_235) rfl rfl (pc' := 236) rfl ?_
                refine g_dup X hx (hb hby d4_236) rfl (pc' := 237) rfl ?_
                refine g_getF X hx hZ hown (hw _ (List.mem_of_getElem? (i := 41) rfl)) eT F_q_total (hb hby d4_237) (pc' := 240) rfl (fun T X eT => ?_)
                refine g_lload X hx (hb hby d4_240) rfl (pc' := 242) rfl ?_
                refine g_ladd X hx (hb hby d4_242) (pc' := 243) rfl ?_
                refine g_putF X hx hZ hown (hw _ (List.mem_of_getElem? (i := 41) rfl)) eT F_q_total E_q (Or.inl (hw _ (List.mem_of_getElem? (i := 42) rfl))) (hw _ (List.mem_of_getElem? (i := 7) rfl)) (ty := .long) (by decide) rfl rfl (hb hby d4_243) (pc' := 246) rfl (fun T h X eT W => ?_)
                replace F_q_stamps := F_q_stamps.other W (Or.inr (slot_ne (t := (.array .long)) (t' := .long) (Or.inl (hw _ (List.mem_of_getElem? (i := 17) rfl))) (Or.inl (hw _ (List.mem_of_getElem? (i := 42) rfl))) (by decide) (by decide) (by decide)))
                replace F_q_amounts := F_q_amounts.other W (Or.inr (slot_ne (t := (.array .long)) (t' := .long) (Or.inl (hw _ (List.mem_of_getElem? (i := 19) rfl))) (Or.inl (hw _ (List.mem_of_getElem? (i := 42) rfl))) (by decide) (by decide) (by decide)))
                replace F_q_mostKept := F_q_mostKept.other W (Or.inr (slot_ne (t := .long) (t' := .long) (Or.inr (hw _ (List.mem_of_getElem? (i := 21) rfl))) (Or.inl (hw _ (List.mem_of_getElem? (i := 42) rfl))) (by decide) (by decide) (by decide)))
                replace F_q_oldest := F_q_oldest.other W (Or.inr (slot_ne (t := .int) (t' := .long) (Or.inl (hw _ (List.mem_of_getElem? (i := 40) rfl))) (Or.inl (hw _ (List.mem_of_getElem? (i := 42) rfl))) (by decide) (by decide) (by decide)))
                replace F_q_size := F_q_size.other W (Or.inr (slot_ne (t := .int) (t' := .long) (Or.inl (hw _ (List.mem_of_getElem? (i := 28) rfl))) (Or.inl (hw _ (List.mem_of_getElem? (i := 42) rfl))) (by decide) (by decide) (by decide)))
                replace F_q_total := F_q_total.same W
                replace E_q := E_q.wr W
                replace A_r1 := A_r1.other W (Ne.symm ne_q_r1)
                replace A_r2 := A_r2.other W (Ne.symm ne_q_r2)
                replace N := Fr.snoc X N g_q
                replace Zn := Nat.le_trans Zn (Nat.le_of_eq W.size.symm)
                replace K := K.wr W (Or.inl (List.mem_of_getElem? (i := 0) rfl))
                refine g_ret0 X hx hret hlk (hb hby d4_246) (by decide) (by decide) ?_
                rw [eT]
                exact ⟨rfl, N, K, F_q_stamps, F_q_amounts, F_q_mostKept, F_q_oldest, F_q_size, F_q_total, A_r1, A_r2⟩
              · replace hc := h_le0 hc
                have hc133 := hc
                exfalso
                clear hc133; revert hc; decide
            · replace hc := h_ne0 hc
              have hc116 := hc
              exfalso
              clear hc116; revert hc; decide
          · replace hc := h_ge0 hc
            have hc73 := hc
            exfalso
            clear hc73; revert hc; decide
        · replace hc := h_eq0 hc
          have hc51 := hc
          exfalso
          clear hc51; revert hc; decide
theorem ef_rmAdd11 (m : MethodId) (z0 : Addr) (z1 : Int64) (z2 : Int64) (z3 : Int64) : entryFrame m #[(.ref z0), (.long z1), (.long z2), (.long z3)] 10 = mkF m 0 #[.val (.ref z0), .val (.long z1), .second, .val (.long z2), .second, .val (.long z3), .second, .unset, .unset, .unset] [] := by first | (simp [entryFrame, mkF, argsToLocals, Value.category]; done) | rfl
set_option maxRecDepth 65536 in
set_option maxHeartbeats 40000000 in
theorem rmAdd11 (l : Launch) (Z : State) (a0 : Array Value) (hw : ∀ d ∈ tables_1, d.before a0 Z = true) (q : Addr) (r1 : Addr) (r2 : Addr) (mk : Int64) (tot : Int64) (v0 : Int64) (v1 : Int64) (y0 : Int64) (y1 : Int64) (x : Int64) (w : Int64) (h0 : Heap) (n0 : Nat) (Zn : n0 ≤ h0.size) (E_q : Exa Z h0 q "com/example/valved/valved/admission/Entries") (F_q_stamps : Fld Z h0 q "com/example/valved/valved/admission/Entries" "stamps" "[J" (.ref r1)) (F_q_amounts : Fld Z h0 q "com/example/valved/valved/admission/Entries" "amounts" "[J" (.ref r2)) (F_q_mostKept : Fld Z h0 q "com/example/valved/valved/admission/Entries" "mostKept" "J" (.long mk)) (F_q_oldest : Fld Z h0 q "com/example/valved/valved/admission/Entries" "oldest" "I" (.int (1 : Int32))) (F_q_size : Fld Z h0 q "com/example/valved/valved/admission/Entries" "size" "I" (.int (1 : Int32))) (F_q_total : Fld Z h0 q "com/example/valved/valved/admission/Entries" "total" "J" (.long tot)) (A_r1 : Aj Z h0 r1 .long 2 [v0, v1]) (A_r2 : Aj Z h0 r2 .long 2 [y0, y1]) (ne_q_r1 : q ≠ r1) (ne_q_r2 : q ≠ r2) (ne_r1_r2 : r1 ≠ r2) (g_q : n0 ≤ q) (g_r1 : n0 ≤ r1) (g_r2 : n0 ≤ r2) (hst : ¬ (w - v1) < 0) (hne : ¬ v1 = w) :
    WCt l Z (⟨"com/example/valved/valved/admission/Entries", "add", "(JJJ)V"⟩ : MethodName) prog_4_method_9_code 10 none ({ frames := 2, cells := 0, slots := 0, locals := 38 } : Room) #[(.ref q), (.long x), (.long w), (.long (1 : Int64))] h0 (fun vv hh LL => (vv = none) ∧ (Fr n0 LL) ∧ (Keep h0 hh [q, r1, r2]) ∧ (Fld Z hh q "com/example/valved/valved/admission/Entries" "stamps" "[J" (.ref r1)) ∧ (Fld Z hh q "com/example/valved/valved/admission/Entries" "amounts" "[J" (.ref r2)) ∧ (Fld Z hh q "com/example/valved/valved/admission/Entries" "mostKept" "J" (.long mk)) ∧ (Fld Z hh q "com/example/valved/valved/admission/Entries" "oldest" "I" (.int (1 : Int32))) ∧ (Fld Z hh q "com/example/valved/valved/admission/Entries" "size" "I" (.int (2 : Int32))) ∧ (Fld Z hh q "com/example/valved/valved/admission/Entries" "total" "J" (.long (tot + (minJ x mk)))) ∧ (Aj Z hh r1 .long 2 [w, v1]) ∧ (Aj Z hh r2 .long 2 [(minJ x mk), y1])) := by
  refine WCt.of pl_4 ?_
  intro p e s m below meth c T hx hby hml hown hnm hret hlk hZ hh0 X eT
  have hown : s.vm.findClass "com/example/valved/valved/admission/Entries" = some m.cls := hown
  have hnm : meth.name = "add" := hnm
  have N := Fr.nil n0
  obtain ⟨h, eh⟩ : ∃ h, h = h0 := ⟨_, rfl⟩
  have K : Keep h0 h [q, r1, r2] := by rw [eh]; exact Keep.refl _ _
  refine WGo.cast (ef_rmAdd11 m q x w (1 : Int64)) ?_
  rw [← eh] at eT Zn E_q F_q_stamps F_q_amounts F_q_mostKept F_q_oldest F_q_size F_q_total A_r1 A_r2
  refine g_aloadN X hx (hb hby d4_0) rfl rfl (pc' := 1) rfl ?_
  refine g_getF X hx hZ hown (hw _ (List.mem_of_getElem? (i := 27) rfl)) eT F_q_size (hb hby d4_1) (pc' := 4) rfl (fun T X eT => ?_)
  refine g_if X hx (hb hby d4_4) (by decide) (pc' := 25) (by decide) (pc2 := 7) rfl (fun hc => ?_) (fun hc => ?_)
  · replace hc := h_le1 hc
    have hc4 := hc
    exfalso
    clear hc4; revert hc; decide
  · replace hc := h_le0 hc
    have hc4 := hc
    refine g_lloadN X hx (hb hby d4_7) rfl (pc' := 8) rfl ?_
    refine g_aloadN X hx (hb hby d4_8) rfl rfl (pc' := 9) rfl ?_
    refine g_virt (W := 2) (argsL := []) (st := [(.long w)]) X hx hZ hown (hw _ (List.mem_of_getElem? (i := 43) rfl)) (hw _ (List.mem_of_getElem? (i := 44) rfl)) (notFace_of_selects (args := #[]) (mvT hZ (hw _ (List.mem_of_getElem? (i := 46) rfl)))) (hw _ (List.mem_of_getElem? (i := 46) rfl)) (hw _ (List.mem_of_getElem? (i := 45) rfl)) (hw _ (List.mem_of_getElem? (i := 47) rfl)) (hw _ (List.mem_of_getElem? (i := 8) rfl)) (by decide) E_q (rmNew l Z a0 hw q r1 (1 : Int32) (1 : Int32) ([v0, v1] : List Int64) v1 h n0 Zn E_q F_q_oldest F_q_stamps F_q_size A_r1 (by decide) (by decide) (by decide) rfl) eT (by decide) (by decide) (by decide) (by decide) (lenOf pd_3 rfl) (by rw [hml]; rfl) rfl (Nat.le_of_eq rfl) (hb hby d4_9) (pc' := 12) rfl (fun T hn vq Lq X eT hQ => ?_)
    obtain ⟨rfl, Nq, hE⟩ := hQ
    replace N := Fr.app N Nq
    rw [hE] at eT; clear hE
    show WGo _ _ _ _ _ _ _ _ (mkF m 12 #[.val (.ref q), .val (.long x), .second, .val (.long w), .second, .val (.long (1 : Int64)), .second, .unset, .unset, .unset] [(.long v1), (.long w)])
    refine g_lsub X hx (hb hby d4_12) (pc' := 13) rfl ?_
    refine g_lconst X hx (hb hby d4_13) (u := (0 : Int64)) (by decide) (pc' := 14) rfl ?_
    refine g_lcmp X hx (hb hby d4_14) (pc' := 15) rfl ?_
    refine g_if X hx (hb hby d4_15) (by decide) (pc' := 25) (by decide) (pc2 := 18) rfl (fun hc => ?_) (fun hc => ?_)
    · replace hc := h_lt1 hc
      simp only [cl_lt, cl_gt, cl_eq] at hc
      have hc15 := hc
      exfalso
      exact hst hc
    · replace hc := h_lt0 hc
      simp only [cl_lt, cl_gt, cl_eq] at hc
      have hc15 := hc
      refine g_aloadN X hx (hb hby d4_18) rfl rfl (pc' := 19) rfl ?_
      refine g_getF X hx hZ hown (hw _ (List.mem_of_getElem? (i := 27) rfl)) eT F_q_size (hb hby d4_19) (pc' := 22) rfl (fun T X eT => ?_)
      refine g_goto X hx (hb hby d4_22) (by decide) (pc' := 30) (by decide) ?_
      refine g_istore X hx (hb hby d4_30) (Ls' := #[.val (.ref q), .val (.long x), .second, .val (.long w), .second, .val (.long (1 : Int64)), .second, .val (.int (1 : Int32)), .unset, .unset]) rfl (pc' := 32) rfl ?_
      refine g_iload X hx (hb hby d4_32) rfl (pc' := 34) rfl ?_
      refine g_if X hx (hb hby d4_34) (by decide) (pc' := 67) (by decide) (pc2 := 37) rfl (fun hc => ?_) (fun hc => ?_)
      · replace hc := h_le1 hc
        have hc34 := hc
        exfalso
        clear hc34; revert hc; decide
      · replace hc := h_le0 hc
        have hc34 := hc
        refine g_aloadN X hx (hb hby d4_37) rfl rfl (pc' := 38) rfl ?_
        refine g_iload X hx (hb hby d4_38) rfl (pc' := 40) rfl ?_
        refine g_iconst X hx (hb hby d4_40) (x := (1 : Int32)) (by decide) (pc' := 41) rfl ?_
        refine g_isub X hx (hb hby d4_41) (pc' := 42) rfl ?_
        rw [show ((1 : Int32) - (1 : Int32)) = (0 : Int32) from by decide]
        refine g_virt (W := 0) (argsL := [(.int (0 : Int32))]) (st := []) X hx hZ hown (hw _ (List.mem_of_getElem? (i := 48) rfl)) (hw _ (List.mem_of_getElem? (i := 49) rfl)) (notFace_of_selects (args := #[]) (mvT hZ (hw _ (List.mem_of_getElem? (i := 51) rfl)))) (hw _ (List.mem_of_getElem? (i := 51) rfl)) (hw _ (List.mem_of_getElem? (i := 50) rfl)) (hw _ (List.mem_of_getElem? (i := 52) rfl)) (hw _ (List.mem_of_getElem? (i := 8) rfl)) (by decide) E_q (rmSt l Z a0 hw q r1 (1 : Int32) (0 : Int32) (1 : Int32) ([v0, v1] : List Int64) v1 h n0 Zn E_q F_q_oldest F_q_stamps A_r1 (by decide) (by decide) (by decide) rfl) eT (by decide) (by decide) (by decide) (by decide) (lenOf pd_4 rfl) (by rw [hml]; rfl) rfl (Nat.le_of_eq rfl) (hb hby d4_42) (pc' := 45) rfl (fun T hn vq Lq X eT hQ => ?_)
        obtain ⟨rfl, Nq, hE⟩ := hQ
        replace N := Fr.app N Nq
        rw [hE] at eT; clear hE
        show WGo _ _ _ _ _ _ _ _ (mkF m 45 #[.val (.ref q), .val (.long x), .second, .val (.long w), .second, .val (.long (1 : Int64)), .second, .val (.int (1 : Int32)), .unset, .unset] [(.long v1)])
        refine g_lloadN X hx (hb hby d4_45) rfl (pc' := 46) rfl ?_
        refine g_lload X hx (hb hby d4_46) rfl (pc' := 48) rfl ?_
        refine g_stat (W := 0) (argsL := [(.long v1), (.long w), (.long (1 : Int64))]) (st := []) X hx hZ hown (hw _ (List.mem_of_getElem? (i := 53) rfl)) (hw _ (List.mem_of_getElem? (i := 54) rfl)) (hw _ (List.mem_of_getElem? (i := 8) rfl)) (hw _ (List.mem_of_getElem? (i := 55) rfl)) (by decide) (rmSl l Z a0 hw v1 w h n0 Zn  hne) eT (by decide) (by decide) (by decide) (by decide) (lenOf pd_5 rfl) (by rw [hml]; rfl) rfl (Nat.le_of_eq rfl) (hb hby d4_48) (pc' := 51) rfl (fun T hn vq Lq X eT hQ => ?_)
        obtain ⟨rfl, Nq, hE⟩ := hQ
        replace N := Fr.app N Nq
        rw [hE] at eT; clear hE
        show WGo _ _ _ _ _ _ _ _ (mkF m 51 #[.val (.ref q), .val (.long x), .second, .val (.long w), .second, .val (.long (1 : Int64)), .second, .val (.int (1 : Int32)), .unset, .unset] [(.int (0 : Int32))])
        refine g_if X hx (hb hby d4_51) (by decide) (pc' := 67) (by decide) (pc2 := 54) rfl (fun hc => ?_) (fun hc => ?_)
        · replace hc := h_eq1 hc
          have hc51 := hc
          refine g_iload X hx (hb hby d4_67) rfl (pc' := 69) rfl ?_
          refine g_aloadN X hx (hb hby d4_69) rfl rfl (pc' := 70) rfl ?_
          refine g_getF X hx hZ hown (hw _ (List.mem_of_getElem? (i := 27) rfl)) eT F_q_size (hb hby d4_70) (pc' := 73) rfl (fun T X eT => ?_)
          refine g_icmp X hx (hb hby d4_73) (by decide) (pc' := 107) (by decide) (pc2 := 76) rfl (fun hc => ?_) (fun hc => ?_)
          · replace hc := h_ge1 hc
            have hc73 := hc
            refine g_aloadN X hx (hb hby d4_107) rfl rfl (pc' := 108) rfl ?_
            refine g_getF X hx hZ hown (hw _ (List.mem_of_getElem? (i := 27) rfl)) eT F_q_size (hb hby d4_108) (pc' := 111) rfl (fun T X eT => ?_)
            refine g_aloadN X hx (hb hby d4_111) rfl rfl (pc' := 112) rfl ?_
            refine g_getF X hx hZ hown (hw _ (List.mem_of_getElem? (i := 16) rfl)) eT F_q_stamps (hb hby d4_112) (pc' := 115) rfl (fun T X eT => ?_)
            refine g_len X hx hZ eT A_r1.2 (hb hby d4_115) (x := (2 : Int32)) (by decide) (pc' := 116) rfl ?_
            refine g_icmp X hx (hb hby d4_116) (by decide) (pc' := 123) (by decide) (pc2 := 119) rfl (fun hc => ?_) (fun hc => ?_)
            · replace hc := h_ne1 hc
              have hc116 := hc
              refine g_aloadN X hx (hb hby d4_123) rfl rfl (pc' := 124) rfl ?_
              refine g_getF X hx hZ hown (hw _ (List.mem_of_getElem? (i := 27) rfl)) eT F_q_size (hb hby d4_124) (pc' := 127) rfl (fun T X eT => ?_)
              refine g_istore X hx (hb hby d4_127) (Ls' := #[.val (.ref q), .val (.long x), .second, .val (.long w), .second, .val (.long (1 : Int64)), .second, .val (.int (1 : Int32)), .val (.int (1 : Int32)), .unset]) rfl (pc' := 129) rfl ?_
              refine g_iload X hx (hb hby d4_129) rfl (pc' := 131) rfl ?_
              refine g_iload X hx (hb hby d4_131) rfl (pc' := 133) rfl ?_
              refine g_icmp X hx (hb hby d4_133) (by decide) (pc' := 190) (by decide) (pc2 := 136) rfl (fun hc => ?_) (fun hc => ?_)
              · replace hc := h_le1 hc
                have hc133 := hc
                refine g_lloadN X hx (hb hby d4_190) rfl (pc' := 191) rfl ?_
                refine g_aloadN X hx (hb hby d4_191) rfl rfl (pc' := 192) rfl ?_
                refine g_getF X hx hZ hown (hw _ (List.mem_of_getElem? (i := 20) rfl)) eT F_q_mostKept (hb hby d4_192) (pc' := 195) rfl (fun T X eT => ?_)
                refine g_stat (W := 0) (argsL := [(.long x), (.long mk)]) (st := []) X hx hZ hown (hw _ (List.mem_of_getElem? (i := 34) rfl)) (hw _ (List.mem_of_getElem? (i := 3) rfl)) (hw _ (List.mem_of_getElem? (i := 4) rfl)) (hw _ (List.mem_of_getElem? (i := 5) rfl)) (by decide) (rmMin l Z a0 hw x mk h n0 Zn  ) eT (by decide) (by decide) (by decide) (by decide) (lenOf pd_1 rfl) (by rw [hml]; rfl) rfl (Nat.le_of_eq rfl) (hb hby d4_195) (pc' := 198) rfl (fun T hn vq Lq X eT hQ => ?_)
                obtain ⟨rfl, Nq, hE⟩ := hQ
                replace N := Fr.app N Nq
                rw [hE] at eT; clear hE
                show WGo _ _ _ _ _ _ _ _ (mkF m 198 #[.val (.ref q), .val (.long x), .second, .val (.long w), .second, .val (.long (1 : Int64)), .second, .val (.int (1 : Int32)), .val (.int (1 : Int32)), .unset] [(.long (minJ x mk))])
                refine g_lstore X hx (hb hby d4_198) (Ls' := #[.val (.ref q), .val (.long x), .second, .val (.long w), .second, .val (.long (1 : Int64)), .second, .val (.int (1 : Int32)), .val (.long (minJ x mk)), .second]) rfl (pc' := 200) rfl ?_
                refine g_aloadN X hx (hb hby d4_200) rfl rfl (pc' := 201) rfl ?_
                refine g_getF X hx hZ hown (hw _ (List.mem_of_getElem? (i := 16) rfl)) eT F_q_stamps (hb hby d4_201) (pc' := 204) rfl (fun T X eT => ?_)
                refine g_aloadN X hx (hb hby d4_204) rfl rfl (pc' := 205) rfl ?_
                refine g_iload X hx (hb hby d4_205) rfl (pc' := 207) rfl ?_
                refine g_priv (W := 1) (argsL := [(.int (1 : Int32))]) (st := [(.ref r1)]) X hx hZ hown (hw _ (List.mem_of_getElem? (i := 35) rfl)) (hw _ (List.mem_of_getElem? (i := 36) rfl)) (hw _ (List.mem_of_getElem? (i := 37) rfl)) (hw _ (List.mem_of_getElem? (i := 38) rfl)) (hw _ (List.mem_of_getElem? (i := 8) rfl)) (hw _ (List.mem_of_getElem? (i := 7) rfl)) (by decide) E_q (rmAt l Z a0 hw q r1 (1 : Int32) (1 : Int32) (0 : Int32) ([v0, v1] : List Int64) h n0 Zn F_q_oldest F_q_stamps A_r1 (by decide)) eT (by decide) (by decide) (by decide) (by decide) (lenOf pd_0 rfl) (by rw [hml]; rfl) rfl (Nat.le_of_eq rfl) (hb hby d4_207) (pc' := 210) rfl (fun T hn vq Lq X eT hQ => ?_)
                obtain ⟨rfl, Nq, hE⟩ := hQ
                replace N := Fr.app N Nq
                rw [hE] at eT; clear hE
                show WGo _ _ _ _ _ _ _ _ (mkF m 210 #[.val (.ref q), .val (.long x), .second, .val (.long w), .second, .val (.long (1 : Int64)), .second, .val (.int (1 : Int32)), .val (.long (minJ x mk)), .second] [(.int (0 : Int32)), (.ref r1)])
                refine g_lloadN X hx (hb hby d4_210) rfl (pc' := 211) rfl ?_
                refine g_lastore X hx hZ eT A_r1.2 (hb hby d4_211) (by decide) (by decide) (pc' := 212) rfl (fun T h X eT W A' => ?_)
                replace F_q_stamps := F_q_stamps.other W (Or.inl ne_q_r1)
                replace F_q_amounts := F_q_amounts.other W (Or.inl ne_q_r1)
                replace F_q_mostKept := F_q_mostKept.other W (Or.inl ne_q_r1)
                replace F_q_oldest := F_q_oldest.other W (Or.inl ne_q_r1)
                replace F_q_size := F_q_size.other W (Or.inl ne_q_r1)
                replace F_q_total := F_q_total.other W (Or.inl ne_q_r1)
                replace E_q := E_q.wr W
                replace A_r2 := A_r2.other W (Ne.symm ne_r1_r2)
                replace N := Fr.snoc X N g_r1
                replace Zn := Nat.le_trans Zn (Nat.le_of_eq W.size.symm)
                replace K := K.wr W (Or.inl (List.mem_of_getElem? (i := 1) rfl))
                replace A_r1 : Aj Z h r1 .long 2 [w, v1] := A_r1.set A'
                refine g_aloadN X hx (hb hby d4_212) rfl rfl (pc' := 213) rfl ?_
                refine g_getF X hx hZ hown (hw _ (List.mem_of_getElem? (i := 18) rfl)) eT F_q_amounts (hb hby d4_213) (pc' := 216) rfl (fun T X eT => ?_)
                refine g_aloadN X hx (hb hby d4_216) rfl rfl (pc' := 217) rfl ?_
                refine g_iload X hx (hb hby d4_217) rfl (pc' := 219) rfl ?_
                refine g_priv (W := 1) (argsL := [(.int (1 : Int32))]) (st := [(.ref r2)]) X hx hZ hown (hw _ (List.mem_of_getElem? (i := 35) rfl)) (hw _ (List.mem_of_getElem? (i := 36) rfl)) (hw _ (List.mem_of_getElem? (i := 37) rfl)) (hw _ (List.mem_of_getElem? (i := 38) rfl)) (hw _ (List.mem_of_getElem? (i := 8) rfl)) (hw _ (List.mem_of_getElem? (i := 7) rfl)) (by decide) E_q (rmAt l Z a0 hw q r1 (1 : Int32) (1 : Int32) (0 : Int32) ([w, v1] : List Int64) h n0 Zn F_q_oldest F_q_stamps A_r1 (by decide)) eT (by decide) (by decide) (by decide) (by decide) (lenOf pd_0 rfl) (by rw [hml]; rfl) rfl (Nat.le_of_eq rfl) (hb hby d4_219) (pc' := 222) rfl (fun T hn vq Lq X eT hQ => ?_)
                obtain ⟨rfl, Nq, hE⟩ := hQ
                replace N := Fr.app N Nq
                rw [hE] at eT; clear hE
                show WGo _ _ _ _ _ _ _ _ (mkF m 222 #[.val (.ref q), .val (.long x), .second, .val (.long w), .second, .val (.long (1 : Int64)), .second, .val (.int (1 : Int32)), .val (.long (minJ x mk)), .second] [(.int (0 : Int32)), (.ref r2)])
                refine g_lload X hx (hb hby d4_222) rfl (pc' := 224) rfl ?_
                refine g_lastore X hx hZ eT A_r2.2 (hb hby d4_224) (by decide) (by decide) (pc' := 225) rfl (fun T h X eT W A' => ?_)
                replace F_q_stamps := F_q_stamps.other W (Or.inl ne_q_r2)
                replace F_q_amounts := F_q_amounts.other W (Or.inl ne_q_r2)
                replace F_q_mostKept := F_q_mostKept.other W (Or.inl ne_q_r2)
                replace F_q_oldest := F_q_oldest.other W (Or.inl ne_q_r2)
                replace F_q_size := F_q_size.other W (Or.inl ne_q_r2)
                replace F_q_total := F_q_total.other W (Or.inl ne_q_r2)
                replace E_q := E_q.wr W
                replace A_r1 := A_r1.other W ne_r1_r2
                replace N := Fr.snoc X N g_r2
                replace Zn := Nat.le_trans Zn (Nat.le_of_eq W.size.symm)
                replace K := K.wr W (Or.inl (List.mem_of_getElem? (i := 2) rfl))
                replace A_r2 : Aj Z h r2 .long 2 [(minJ x mk), y1] := A_r2.set A'
                refine g_aloadN X hx (hb hby d4_225) rfl rfl (pc' := 226) rfl ?_
                refine g_dup X hx (hb hby d4_226) rfl (pc' := 227) rfl ?_
                refine g_getF X hx hZ hown (hw _ (List.mem_of_getElem? (i := 27) rfl)) eT F_q_size (hb hby d4_227) (pc' := 230) rfl (fun T X eT => ?_)
                refine g_iconst X hx (hb hby d4_230) (x := (1 : Int32)) (by decide) (pc' := 231) rfl ?_
                refine g_iadd X hx (hb hby d4_231) (pc' := 232) rfl ?_
                rw [show ((1 : Int32) + (1 : Int32)) = (2 : Int32) from by decide]
                refine g_putF X hx hZ hown (hw _ (List.mem_of_getElem? (i := 27) rfl)) eT F_q_size E_q (Or.inl (hw _ (List.mem_of_getElem? (i := 28) rfl))) (hw _ (List.mem_of_getElem? (i := 7) rfl)) (ty := .int) (by decide) rfl rfl (hb hby d4_232) (pc' := 235) rfl (fun T h X eT W => ?_)
                replace F_q_stamps := F_q_stamps.other W (Or.inr (slot_ne (t := (.array .long)) (t' := .int) (Or.inl (hw _ (List.mem_of_getElem? (i := 17) rfl))) (Or.inl (hw _ (List.mem_of_getElem? (i := 28) rfl))) (by decide) (by decide) (by decide)))
                replace F_q_amounts := F_q_amounts.other W (Or.inr (slot_ne (t := (.array .long)) (t' := .int) (Or.inl (hw _ (List.mem_of_getElem? (i := 19) rfl))) (Or.inl (hw _ (List.mem_of_getElem? (i := 28) rfl))) (by decide) (by decide) (by decide)))
                replace F_q_mostKept := F_q_mostKept.other W (Or.inr (slot_ne (t := .long) (t' := .int) (Or.inr (hw _ (List.mem_of_getElem? (i := 21) rfl))) (Or.inl (hw _ (List.mem_of_getElem? (i := 28) rfl))) (by decide) (by decide) (by decide)))
                replace F_q_oldest := F_q_oldest.other W (Or.inr (slot_ne (t := .int) (t' := .int) (Or.inl (hw _ (List.mem_of_getElem? (i := 40) rfl))) (Or.inl (hw _ (List.mem_of_getElem? (i := 28) rfl))) (by decide) (by decide) (by decide)))
                replace F_q_size := F_q_size.same W
                replace F_q_total := F_q_total.other W (Or.inr (slot_ne (t := .long) (t' := .int) (Or.inl (hw _ (List.mem_of_getElem? (i := 42) rfl))) (Or.inl (hw _ (List.mem_of_getElem? (i := 28) rfl))) (by decide) (by decide) (by decide)))
                replace E_q := E_q.wr W
                replace A_r1 := A_r1.other W (Ne.symm ne_q_r1)
                replace A_r2 := A_r2.other W (Ne.symm ne_q_r2)
                replace N := Fr.snoc X N g_q
                replace Zn := Nat.le_trans Zn (Nat.le_of_eq W.size.symm)
                replace K := K.wr W (Or.inl (List.mem_of_getElem? (i := 0) rfl))
                refine g_aloadN X hx (hb hby d4_235) rfl rfl (pc' := 236) rfl ?_
                refine g_dup X hx (hb hby d4_236) rfl (pc' := 237) rfl ?_
                refine g_getF X hx hZ hown (hw _ (List.mem_of_getElem? (i := 41) rfl)) eT F_q_total (hb hby d4_237) (pc' := 240) rfl (fun T X eT => ?_)
                refine g_lload X hx (hb hby d4_240) rfl (pc' := 242) rfl ?_
                refine g_ladd X hx (hb hby d4_242) (pc' := 243) rfl ?_
                refine g_putF X hx hZ hown (hw _ (List.mem_of_getElem? (i := 41) rfl)) eT F_q_total E_q (Or.inl (hw _ (List.mem_of_getElem? (i := 42) rfl))) (hw _ (List.mem_of_getElem? (i := 7) rfl)) (ty := .long) (by decide) rfl rfl (hb hby d4_243) (pc' := 246) rfl (fun T h X eT W => ?_)
                replace F_q_stamps := F_q_stamps.other W (Or.inr (slot_ne (t := (.array .long)) (t' := .long) (Or.inl (hw _ (List.mem_of_getElem? (i := 17) rfl))) (Or.inl (hw _ (List.mem_of_getElem? (i := 42) rfl))) (by decide) (by decide) (by decide)))
                replace F_q_amounts := F_q_amounts.other W (Or.inr (slot_ne (t := (.array .long)) (t' := .long) (Or.inl (hw _ (List.mem_of_getElem? (i := 19) rfl))) (Or.inl (hw _ (List.mem_of_getElem? (i := 42) rfl))) (by decide) (by decide) (by decide)))
                replace F_q_mostKept := F_q_mostKept.other W (Or.inr (slot_ne (t := .long) (t' := .long) (Or.inr (hw _ (List.mem_of_getElem? (i := 21) rfl))) (Or.inl (hw _ (List.mem_of_getElem? (i := 42) rfl))) (by decide) (by decide) (by decide)))
                replace F_q_oldest := F_q_oldest.other W (Or.inr (slot_ne (t := .int) (t' := .long) (Or.inl (hw _ (List.mem_of_getElem? (i := 40) rfl))) (Or.inl (hw _ (List.mem_of_getElem? (i := 42) rfl))) (by decide) (by decide) (by decide)))
                replace F_q_size := F_q_size.other W (Or.inr (slot_ne (t := .int) (t' := .long) (Or.inl (hw _ (List.mem_of_getElem? (i := 28) rfl))) (Or.inl (hw _ (List.mem_of_getElem? (i := 42) rfl))) (by decide) (by decide) (by decide)))
                replace F_q_total := F_q_total.same W
                replace E_q := E_q.wr W
                replace A_r1 := A_r1.other W (Ne.symm ne_q_r1)
                replace A_r2 := A_r2.other W (Ne.symm ne_q_r2)
                replace N := Fr.snoc X N g_q
                replace Zn := Nat.le_trans Zn (Nat.le_of_eq W.size.symm)
                replace K := K.wr W (Or.inl (List.mem_of_getElem? (i := 0) rfl))
                refine g_ret0 X hx hret hlk (hb hby d4_246) (by decide) (by decide) ?_
                rw [eT]
                exact ⟨rfl, N, K, F_q_stamps, F_q_amounts, F_q_mostKept, F_q_oldest, F_q_size, F_q_total, A_r1, A_r2⟩
              · replace hc := h_le0 hc
                have hc133 := hc
                exfalso
                clear hc133; revert hc; decide
            · replace hc := h_ne0 hc
              have hc116 := hc
              exfalso
              clear hc116; revert hc; decide
          · replace hc := h_ge0 hc
            have hc73 := hc
            exfalso
            clear hc73; revert hc; decide
        · replace hc := h_eq0 hc
          have hc51 := hc
          exfalso
          clear hc51; revert hc; decide
theorem d2_0 : decode prog_4_method_1_code 0 = .ok (.aload_n 0, 1) := by decide +kernel
theorem d2_1 : decode prog_4_method_1_code 1 = .ok (.invokespecial 1, 3) := by decide +kernel
theorem d2_4 : decode prog_4_method_1_code 4 = .ok (.aload_n 0, 1) := by decide +kernel
theorem d2_5 : decode prog_4_method_1_code 5 = .ok (.iconst 2, 1) := by decide +kernel
theorem d2_6 : decode prog_4_method_1_code 6 = .ok (.newarray .long, 2) := by decide +kernel
theorem d2_8 : decode prog_4_method_1_code 8 = .ok (.putfield 7, 3) := by decide +kernel
theorem d2_11 : decode prog_4_method_1_code 11 = .ok (.aload_n 0, 1) := by decide +kernel
theorem d2_12 : decode prog_4_method_1_code 12 = .ok (.iconst 2, 1) := by decide +kernel
theorem d2_13 : decode prog_4_method_1_code 13 = .ok (.newarray .long, 2) := by decide +kernel
theorem d2_15 : decode prog_4_method_1_code 15 = .ok (.putfield 13, 3) := by decide +kernel
theorem d2_18 : decode prog_4_method_1_code 18 = .ok (.aload_n 0, 1) := by decide +kernel
theorem d2_19 : decode prog_4_method_1_code 19 = .ok (.lload_n 1, 1) := by decide +kernel
theorem d2_20 : decode prog_4_method_1_code 20 = .ok (.putfield 16, 3) := by decide +kernel
theorem d2_23 : decode prog_4_method_1_code 23 = .ok (.return_, 1) := by decide +kernel
theorem pl_2 : plainFor (⟨"com/example/valved/valved/admission/Entries", "<init>", "(J)V"⟩ : MethodName) = true := plainFor_of_name (by first | (simp [plainName, overriddenIn]; done) | decide +kernel)
theorem ef_rmIn (m : MethodId) (z0 : Addr) (z1 : Int64) : entryFrame m #[(.ref z0), (.long z1)] 3 = mkF m 0 #[.val (.ref z0), .val (.long z1), .second] [] := by first | (simp [entryFrame, mkF, argsToLocals, Value.category]; done) | rfl
set_option maxRecDepth 65536 in
set_option maxHeartbeats 40000000 in
theorem rmIn (l : Launch) (Z : State) (a0 : Array Value) (hw : ∀ d ∈ tables_1, d.before a0 Z = true) (q : Addr) (mk : Int64) (h0 : Heap) (n0 : Nat) (Zn : n0 ≤ h0.size) (E_q : Exa Z h0 q "com/example/valved/valved/admission/Entries") (F_q_stamps : Fld Z h0 q "com/example/valved/valved/admission/Entries" "stamps" "[J" .null) (F_q_amounts : Fld Z h0 q "com/example/valved/valved/admission/Entries" "amounts" "[J" .null) (F_q_mostKept : Fld Z h0 q "com/example/valved/valved/admission/Entries" "mostKept" "J" (.long (0 : Int64))) (F_q_oldest : Fld Z h0 q "com/example/valved/valved/admission/Entries" "oldest" "I" (.int (0 : Int32))) (F_q_size : Fld Z h0 q "com/example/valved/valved/admission/Entries" "size" "I" (.int (0 : Int32))) (F_q_total : Fld Z h0 q "com/example/valved/valved/admission/Entries" "total" "J" (.long (0 : Int64))) (g_q : n0 ≤ q)  :
    WCt l Z (⟨"com/example/valved/valved/admission/Entries", "<init>", "(J)V"⟩ : MethodName) prog_4_method_1_code 3 none ({ frames := 1, cells := 2, slots := 4, locals := 14 } : Room) #[(.ref q), (.long mk)] h0 (fun vv hh LL => ∃ (r1 : Addr) (r2 : Addr), (vv = none) ∧ (Fr n0 LL) ∧ (Keep h0 hh [q]) ∧ (Fld Z hh q "com/example/valved/valved/admission/Entries" "stamps" "[J" (.ref r1)) ∧ (Fld Z hh q "com/example/valved/valved/admission/Entries" "amounts" "[J" (.ref r2)) ∧ (Fld Z hh q "com/example/valved/valved/admission/Entries" "mostKept" "J" (.long mk)) ∧ (Fld Z hh q "com/example/valved/valved/admission/Entries" "oldest" "I" (.int (0 : Int32))) ∧ (Fld Z hh q "com/example/valved/valved/admission/Entries" "size" "I" (.int (0 : Int32))) ∧ (Fld Z hh q "com/example/valved/valved/admission/Entries" "total" "J" (.long (0 : Int64))) ∧ (Aj Z hh r1 .long 2 [0, 0]) ∧ (Aj Z hh r2 .long 2 [0, 0]) ∧ (q ≠ r1) ∧ (q ≠ r2) ∧ (r1 ≠ r2) ∧ (n0 ≤ r1) ∧ (n0 ≤ r2)) := by
  refine WCt.of pl_2 ?_
  intro p e s m below meth c T hx hby hml hown hnm hret hlk hZ hh0 X eT
  have hown : s.vm.findClass "com/example/valved/valved/admission/Entries" = some m.cls := hown
  have hnm : meth.name = "<init>" := hnm
  have N := Fr.nil n0
  obtain ⟨h, eh⟩ : ∃ h, h = h0 := ⟨_, rfl⟩
  have K : Keep h0 h [q] := by rw [eh]; exact Keep.refl _ _
  refine WGo.cast (ef_rmIn m q mk) ?_
  rw [← eh] at eT Zn E_q F_q_stamps F_q_amounts F_q_mostKept F_q_oldest F_q_size F_q_total
  refine g_aloadN X hx (hb hby d2_0) rfl rfl (pc' := 1) rfl ?_
  refine g_move (initO (W := 0) X hx hZ hown (hw _ (List.mem_of_getElem? (i := 12) rfl)) (hw _ (List.mem_of_getElem? (i := 13) rfl)) (hw _ (List.mem_of_getElem? (i := 14) rfl)) eT (g := (mkF m 1 #[.val (.ref q), .val (.long mk), .second] [(.ref q)])) rfl (by rw [hml]; rfl) rfl (hb hby d2_1) (by decide) (Nat.le_of_eq rfl) (by decide)) (fun T X eT => ?_)
  show WGo _ _ _ _ _ _ _ _ (mkF m 4 #[.val (.ref q), .val (.long mk), .second] [])
  refine g_aloadN X hx (hb hby d2_4) rfl rfl (pc' := 5) rfl ?_
  refine g_iconst X hx (hb hby d2_5) (x := (2 : Int32)) (by decide) (pc' := 6) rfl ?_
  refine g_newP (cap := 2) X hx hZ (hw _ (List.mem_of_getElem? (i := 15) rfl)) eT (hb hby d2_6) (by decide) (by decide) (by decide) (by decide) (by decide) (pc' := 8) rfl (fun T h r1 ha X eT Ex A_r1 => ?_)
  have g_r1 : n0 ≤ r1 := by rw [ha]; exact Zn
  have sz_r1 : h0.size ≤ r1 := by rw [ha]; exact K.1
  have ne_q_r1 : q ≠ r1 := by rw [ha]; exact Nat.ne_of_lt F_q_stamps.lt
  replace F_q_stamps := F_q_stamps.ext Ex
  replace F_q_amounts := F_q_amounts.ext Ex
  replace F_q_mostKept := F_q_mostKept.ext Ex
  replace F_q_oldest := F_q_oldest.ext Ex
  replace F_q_size := F_q_size.ext Ex
  replace F_q_total := F_q_total.ext Ex
  replace E_q := E_q.ext Ex
  replace Zn := Nat.le_trans Zn Ex.1
  replace K := K.ext Ex
  replace A_r1 : Aj Z h r1 .long 2 [0, 0] := Aj.new A_r1
  refine g_putF X hx hZ hown (hw _ (List.mem_of_getElem? (i := 16) rfl)) eT F_q_stamps E_q (Or.inl (hw _ (List.mem_of_getElem? (i := 17) rfl))) (hw _ (List.mem_of_getElem? (i := 7) rfl)) (ty := (.array .long)) (by decide) rfl rfl (hb hby d2_8) (pc' := 11) rfl (fun T h X eT W => ?_)
  replace F_q_stamps := F_q_stamps.same W
  replace F_q_amounts := F_q_amounts.other W (Or.inr (slot_ne (t := (.array .long)) (t' := (.array .long)) (Or.inl (hw _ (List.mem_of_getElem? (i := 19) rfl))) (Or.inl (hw _ (List.mem_of_getElem? (i := 17) rfl))) (by decide) (by decide) (by decide)))
  replace F_q_mostKept := F_q_mostKept.other W (Or.inr (slot_ne (t := .long) (t' := (.array .long)) (Or.inr (hw _ (List.mem_of_getElem? (i := 21) rfl))) (Or.inl (hw _ (List.mem_of_getElem? (i := 17) rfl))) (by decide) (by decide) (by decide)))
  replace F_q_oldest := F_q_oldest.other W (Or.inr (slot_ne (t := .int) (t' := (.array .long)) (Or.inl (hw _ (List.mem_of_getElem? (i := 40) rfl))) (Or.inl (hw _ (List.mem_of_getElem? (i := 17) rfl))) (by decide) (by decide) (by decide)))
  replace F_q_size := F_q_size.other W (Or.inr (slot_ne (t := .int) (t' := (.array .long)) (Or.inl (hw _ (List.mem_of_getElem? (i := 28) rfl))) (Or.inl (hw _ (List.mem_of_getElem? (i := 17) rfl))) (by decide) (by decide) (by decide)))
  replace F_q_total := F_q_total.other W (Or.inr (slot_ne (t := .long) (t' := (.array .long)) (Or.inl (hw _ (List.mem_of_getElem? (i := 42) rfl))) (Or.inl (hw _ (List.mem_of_getElem? (i := 17) rfl))) (by decide) (by decide) (by decide)))
  replace E_q := E_q.wr W
  replace A_r1 := A_r1.other W (Ne.symm ne_q_r1)
  replace N := Fr.snoc X N g_q
  replace Zn := Nat.le_trans Zn (Nat.le_of_eq W.size.symm)
  replace K := K.wr W (Or.inl (List.mem_of_getElem? (i := 0) rfl))
  refine g_aloadN X hx (hb hby d2_11) rfl rfl (pc' := 12) rfl ?_
  refine g_iconst X hx (hb hby d2_12) (x := (2 : Int32)) (by decide) (pc' := 13) rfl ?_
  refine g_newP (cap := 2) X hx hZ (hw _ (List.mem_of_getElem? (i := 15) rfl)) eT (hb hby d2_13) (by decide) (by decide) (by decide) (by decide) (by decide) (pc' := 15) rfl (fun T h r2 ha X eT Ex A_r2 => ?_)
  have g_r2 : n0 ≤ r2 := by rw [ha]; exact Zn
  have sz_r2 : h0.size ≤ r2 := by rw [ha]; exact K.1
  have ne_q_r2 : q ≠ r2 := by rw [ha]; exact Nat.ne_of_lt F_q_stamps.lt
  have ne_r1_r2 : r1 ≠ r2 := by rw [ha]; exact Nat.ne_of_lt A_r1.lt
  replace F_q_stamps := F_q_stamps.ext Ex
  replace F_q_amounts := F_q_amounts.ext Ex
  replace F_q_mostKept := F_q_mostKept.ext Ex
  replace F_q_oldest := F_q_oldest.ext Ex
  replace F_q_size := F_q_size.ext Ex
  replace F_q_total := F_q_total.ext Ex
  replace E_q := E_q.ext Ex
  replace A_r1 := A_r1.ext Ex
  replace Zn := Nat.le_trans Zn Ex.1
  replace K := K.ext Ex
  replace A_r2 : Aj Z h r2 .long 2 [0, 0] := Aj.new A_r2
  refine g_putF X hx hZ hown (hw _ (List.mem_of_getElem? (i := 18) rfl)) eT F_q_amounts E_q (Or.inl (hw _ (List.mem_of_getElem? (i := 19) rfl))) (hw _ (List.mem_of_getElem? (i := 7) rfl)) (ty := (.array .long)) (by decide) rfl rfl (hb hby d2_15) (pc' := 18) rfl (fun T h X eT W => ?_)
  replace F_q_stamps := F_q_stamps.other W (Or.inr (slot_ne (t := (.array .long)) (t' := (.array .long)) (Or.inl (hw _ (List.mem_of_getElem? (i := 17) rfl))) (Or.inl (hw _ (List.mem_of_getElem? (i := 19) rfl))) (by decide) (by decide) (by decide)))
  replace F_q_amounts := F_q_amounts.same W
  replace F_q_mostKept := F_q_mostKept.other W (Or.inr (slot_ne (t := .long) (t' := (.array .long)) (Or.inr (hw _ (List.mem_of_getElem? (i := 21) rfl))) (Or.inl (hw _ (List.mem_of_getElem? (i := 19) rfl))) (by decide) (by decide) (by decide)))
  replace F_q_oldest := F_q_oldest.other W (Or.inr (slot_ne (t := .int) (t' := (.array .long)) (Or.inl (hw _ (List.mem_of_getElem? (i := 40) rfl))) (Or.inl (hw _ (List.mem_of_getElem? (i := 19) rfl))) (by decide) (by decide) (by decide)))
  replace F_q_size := F_q_size.other W (Or.inr (slot_ne (t := .int) (t' := (.array .long)) (Or.inl (hw _ (List.mem_of_getElem? (i := 28) rfl))) (Or.inl (hw _ (List.mem_of_getElem? (i := 19) rfl))) (by decide) (by decide) (by decide)))
  replace F_q_total := F_q_total.other W (Or.inr (slot_ne (t := .long) (t' := (.array .long)) (Or.inl (hw _ (List.mem_of_getElem? (i := 42) rfl))) (Or.inl (hw _ (List.mem_of_getElem? (i := 19) rfl))) (by decide) (by decide) (by decide)))
  replace E_q := E_q.wr W
  replace A_r1 := A_r1.other W (Ne.symm ne_q_r1)
  replace A_r2 := A_r2.other W (Ne.symm ne_q_r2)
  replace N := Fr.snoc X N g_q
  replace Zn := Nat.le_trans Zn (Nat.le_of_eq W.size.symm)
  replace K := K.wr W (Or.inl (List.mem_of_getElem? (i := 0) rfl))
  refine g_aloadN X hx (hb hby d2_18) rfl rfl (pc' := 19) rfl ?_
  refine g_lloadN X hx (hb hby d2_19) rfl (pc' := 20) rfl ?_
  refine g_putF X hx hZ hown (hw _ (List.mem_of_getElem? (i := 20) rfl)) eT F_q_mostKept E_q (Or.inr ⟨(hw _ (List.mem_of_getElem? (i := 21) rfl)), rfl, hnm⟩) (hw _ (List.mem_of_getElem? (i := 7) rfl)) (ty := .long) (by decide) rfl rfl (hb hby d2_20) (pc' := 23) rfl (fun T h X eT W => ?_)
  replace F_q_stamps := F_q_stamps.other W (Or.inr (slot_ne (t := (.array .long)) (t' := .long) (Or.inl (hw _ (List.mem_of_getElem? (i := 17) rfl))) (Or.inr (hw _ (List.mem_of_getElem? (i := 21) rfl))) (by decide) (by decide) (by decide)))
  replace F_q_amounts := F_q_amounts.other W (Or.inr (slot_ne (t := (.array .long)) (t' := .long) (Or.inl (hw _ (List.mem_of_getElem? (i := 19) rfl))) (Or.inr (hw _ (List.mem_of_getElem? (i := 21) rfl))) (by decide) (by decide) (by decide)))
  replace F_q_mostKept := F_q_mostKept.same W
  replace F_q_oldest := F_q_oldest.other W (Or.inr (slot_ne (t := .int) (t' := .long) (Or.inl (hw _ (List.mem_of_getElem? (i := 40) rfl))) (Or.inr (hw _ (List.mem_of_getElem? (i := 21) rfl))) (by decide) (by decide) (by decide)))
  replace F_q_size := F_q_size.other W (Or.inr (slot_ne (t := .int) (t' := .long) (Or.inl (hw _ (List.mem_of_getElem? (i := 28) rfl))) (Or.inr (hw _ (List.mem_of_getElem? (i := 21) rfl))) (by decide) (by decide) (by decide)))
  replace F_q_total := F_q_total.other W (Or.inr (slot_ne (t := .long) (t' := .long) (Or.inl (hw _ (List.mem_of_getElem? (i := 42) rfl))) (Or.inr (hw _ (List.mem_of_getElem? (i := 21) rfl))) (by decide) (by decide) (by decide)))
  replace E_q := E_q.wr W
  replace A_r1 := A_r1.other W (Ne.symm ne_q_r1)
  replace A_r2 := A_r2.other W (Ne.symm ne_q_r2)
  replace N := Fr.snoc X N g_q
  replace Zn := Nat.le_trans Zn (Nat.le_of_eq W.size.symm)
  replace K := K.wr W (Or.inl (List.mem_of_getElem? (i := 0) rfl))
  refine g_ret0 X hx hret hlk (hb hby d2_23) (by decide) (by decide) ?_
  rw [eT]
  exact ⟨_, _, rfl, N, K, F_q_stamps, F_q_amounts, F_q_mostKept, F_q_oldest, F_q_size, F_q_total, A_r1, A_r2, ne_q_r1, ne_q_r2, ne_r1_r2, g_r1, g_r2⟩
theorem pl_0 : plainFor x = true := plainFor_of_name (by first | (simp [plainName, overriddenIn, x]; done) | decide +kernel)
theorem ef_rm0 (m : MethodId) (z0 : Int64) (z1 : Int64) (z2 : Int64) (z3 : Int64) (z4 : Int64) : entryFrame m #[(.long z0), (.long z1), (.long z2), (.long z3), (.long z4)] maxLocals = mkF m 0 #[.val (.long z0), .second, .val (.long z1), .second, .val (.long z2), .second, .val (.long z3), .second, .val (.long z4), .second, .unset, .unset, .unset, .unset, .unset, .unset, .unset, .unset, .unset, .unset, .unset, .unset, .unset, .unset, .unset] [] := by first | (simp [entryFrame, mkF, argsToLocals, Value.category, maxLocals]; done) | rfl
set_option maxRecDepth 65536 in
set_option maxHeartbeats 40000000 in
theorem rm0 (l : Launch) (Z : State) (a0 : Array Value) (hw : ∀ d ∈ tables_1, d.before a0 Z = true) (p0 : Int64) (p1 : Int64) (p2 : Int64) (p3 : Int64) (p4 : Int64) (h0 : Heap) (n0 : Nat) (Zn : n0 ≤ h0.size)   :
    WCt l Z x code maxLocals ret room_1 #[(.long p0), (.long p1), (.long p2), (.long p3), (.long p4)] h0 (fun vv hh LL => (vv = some (.int (1 : Int32))) ∧ (Fr n0 LL)) := by
  refine WCt.of pl_0 ?_
  intro p e s m below meth c T hx hby hml hown hnm hret hlk hZ hh0 X eT
  have hown : s.vm.findClass "com/example/valved/valved/admission/EntriesRemoveOldestPinLaw" = some m.cls := hown
  have hnm : meth.name = "law" := hnm
  have N := Fr.nil n0
  obtain ⟨h, eh⟩ : ∃ h, h = h0 := ⟨_, rfl⟩
  refine WGo.cast (ef_rm0 m p0 p1 p2 p3 p4) ?_
  rw [← eh] at eT Zn 
  refine g_lloadN X hx (hb hby at_0) rfl (pc' := 1) rfl ?_
  refine g_ldcJ X hx hZ hown (hw _ (List.mem_of_getElem? (i := 0) rfl)) (hb hby at_1) (pc' := 4) rfl ?_
  refine g_land X hx (hb hby at_4) (pc' := 5) rfl ?_
  obtain ⟨mk, hmk⟩ : ∃ z : Int64, z = (p0 &&& (4611686018427387903 : Int64)) := ⟨_, rfl⟩
  rw [← hmk]
  refine g_lstore X hx (hb hby at_5) (Ls' := #[.val (.long p0), .second, .val (.long p1), .second, .val (.long p2), .second, .val (.long p3), .second, .val (.long p4), .second, .val (.long mk), .second, .unset, .unset, .unset, .unset, .unset, .unset, .unset, .unset, .unset, .unset, .unset, .unset, .unset]) rfl (pc' := 7) rfl ?_
  refine g_lload X hx (hb hby at_7) rfl (pc' := 9) rfl ?_
  refine g_ldcJ X hx hZ hown (hw _ (List.mem_of_getElem? (i := 1) rfl)) (hb hby at_9) (pc' := 12) rfl ?_
  refine g_land X hx (hb hby at_12) (pc' := 13) rfl ?_
  obtain ⟨x0, hx0⟩ : ∃ z : Int64, z = (p2 &&& (9223372036854775807 : Int64)) := ⟨_, rfl⟩
  rw [← hx0]
  refine g_lstore X hx (hb hby at_13) (Ls' := #[.val (.long p0), .second, .val (.long p1), .second, .val (.long p2), .second, .val (.long p3), .second, .val (.long p4), .second, .val (.long mk), .second, .val (.long x0), .second, .unset, .unset, .unset, .unset, .unset, .unset, .unset, .unset, .unset, .unset, .unset]) rfl (pc' := 15) rfl ?_
  refine g_lload X hx (hb hby at_15) rfl (pc' := 17) rfl ?_
  refine g_ldcJ X hx hZ hown (hw _ (List.mem_of_getElem? (i := 1) rfl)) (hb hby at_17) (pc' := 20) rfl ?_
  refine g_land X hx (hb hby at_20) (pc' := 21) rfl ?_
  obtain ⟨x1, hx1⟩ : ∃ z : Int64, z = (p3 &&& (9223372036854775807 : Int64)) := ⟨_, rfl⟩
  rw [← hx1]
  refine g_lstore X hx (hb hby at_21) (Ls' := #[.val (.long p0), .second, .val (.long p1), .second, .val (.long p2), .second, .val (.long p3), .second, .val (.long p4), .second, .val (.long mk), .second, .val (.long x0), .second, .val (.long x1), .second, .unset, .unset, .unset, .unset, .unset, .unset, .unset, .unset, .unset]) rfl (pc' := 23) rfl ?_
  refine g_lload X hx (hb hby at_23) rfl (pc' := 25) rfl ?_
  refine g_ldcJ X hx hZ hown (hw _ (List.mem_of_getElem? (i := 1) rfl)) (hb hby at_25) (pc' := 28) rfl ?_
  refine g_land X hx (hb hby at_28) (pc' := 29) rfl ?_
  obtain ⟨x2, hx2⟩ : ∃ z : Int64, z = (p4 &&& (9223372036854775807 : Int64)) := ⟨_, rfl⟩
  rw [← hx2]
  refine g_lstore X hx (hb hby at_29) (Ls' := #[.val (.long p0), .second, .val (.long p1), .second, .val (.long p2), .second, .val (.long p3), .second, .val (.long p4), .second, .val (.long mk), .second, .val (.long x0), .second, .val (.long x1), .second, .val (.long x2), .second, .unset, .unset, .unset, .unset, .unset, .unset, .unset]) rfl (pc' := 31) rfl ?_
  refine g_lload X hx (hb hby at_31) rfl (pc' := 33) rfl ?_
  refine g_lload X hx (hb hby at_33) rfl (pc' := 35) rfl ?_
  refine g_stat (W := 0) (argsL := [(.long x1), (.long mk)]) (st := []) X hx hZ hown (hw _ (List.mem_of_getElem? (i := 2) rfl)) (hw _ (List.mem_of_getElem? (i := 3) rfl)) (hw _ (List.mem_of_getElem? (i := 4) rfl)) (hw _ (List.mem_of_getElem? (i := 5) rfl)) (by decide) (rmMin l Z a0 hw x1 mk h n0 Zn  ) eT (by decide) (by decide) (by decide) (by decide) (lenOf pd_1 rfl) (by rw [hml]; rfl) rfl (Nat.le_of_eq rfl) (hb hby at_35) (pc' := 38) rfl (fun T hn vq Lq X eT hQ => ?_)
  obtain ⟨rfl, Nq, hE⟩ := hQ
  replace N := Fr.app N Nq
  rw [hE] at eT; clear hE
  show WGo _ _ _ _ _ _ _ _ (mkF m 38 #[.val (.long p0), .second, .val (.long p1), .second, .val (.long p2), .second, .val (.long p3), .second, .val (.long p4), .second, .val (.long mk), .second, .val (.long x0), .second, .val (.long x1), .second, .val (.long x2), .second, .unset, .unset, .unset, .unset, .unset, .unset, .unset] [(.long (minJ x1 mk))])
  refine g_lstore X hx (hb hby at_38) (Ls' := #[.val (.long p0), .second, .val (.long p1), .second, .val (.long p2), .second, .val (.long p3), .second, .val (.long p4), .second, .val (.long mk), .second, .val (.long x0), .second, .val (.long x1), .second, .val (.long x2), .second, .val (.long (minJ x1 mk)), .second, .unset, .unset, .unset, .unset, .unset]) rfl (pc' := 40) rfl ?_
  refine g_lload X hx (hb hby at_40) rfl (pc' := 42) rfl ?_
  refine g_lload X hx (hb hby at_42) rfl (pc' := 44) rfl ?_
  refine g_stat (W := 0) (argsL := [(.long x2), (.long mk)]) (st := []) X hx hZ hown (hw _ (List.mem_of_getElem? (i := 2) rfl)) (hw _ (List.mem_of_getElem? (i := 3) rfl)) (hw _ (List.mem_of_getElem? (i := 4) rfl)) (hw _ (List.mem_of_getElem? (i := 5) rfl)) (by decide) (rmMin l Z a0 hw x2 mk h n0 Zn  ) eT (by decide) (by decide) (by decide) (by decide) (lenOf pd_1 rfl) (by rw [hml]; rfl) rfl (Nat.le_of_eq rfl) (hb hby at_44) (pc' := 47) rfl (fun T hn vq Lq X eT hQ => ?_)
  obtain ⟨rfl, Nq, hE⟩ := hQ
  replace N := Fr.app N Nq
  rw [hE] at eT; clear hE
  show WGo _ _ _ _ _ _ _ _ (mkF m 47 #[.val (.long p0), .second, .val (.long p1), .second, .val (.long p2), .second, .val (.long p3), .second, .val (.long p4), .second, .val (.long mk), .second, .val (.long x0), .second, .val (.long x1), .second, .val (.long x2), .second, .val (.long (minJ x1 mk)), .second, .unset, .unset, .unset, .unset, .unset] [(.long (minJ x2 mk))])
  refine g_lstore X hx (hb hby at_47) (Ls' := #[.val (.long p0), .second, .val (.long p1), .second, .val (.long p2), .second, .val (.long p3), .second, .val (.long p4), .second, .val (.long mk), .second, .val (.long x0), .second, .val (.long x1), .second, .val (.long x2), .second, .val (.long (minJ x1 mk)), .second, .val (.long (minJ x2 mk)), .second, .unset, .unset, .unset]) rfl (pc' := 49) rfl ?_
  refine g_new X hx hZ hown (hw _ (List.mem_of_getElem? (i := 6) rfl)) (hw _ (List.mem_of_getElem? (i := 7) rfl)) (hw _ (List.mem_of_getElem? (i := 8) rfl)) eT (hb hby at_49) (by decide) (by decide) (pc' := 52) rfl (fun T h q ha X eT Ex E_q Df => ?_)
  have g_q : n0 ≤ q := by rw [ha]; exact Zn
  replace Zn := Nat.le_trans Zn Ex.1
  have F_q_stamps : Fld Z h q "com/example/valved/valved/admission/Entries" "stamps" "[J" .null := Df (Or.inl (hw _ (List.mem_of_getElem? (i := 17) rfl))) (ty := (.array .long)) (by decide)
  have F_q_amounts : Fld Z h q "com/example/valved/valved/admission/Entries" "amounts" "[J" .null := Df (Or.inl (hw _ (List.mem_of_getElem? (i := 19) rfl))) (ty := (.array .long)) (by decide)
  have F_q_mostKept : Fld Z h q "com/example/valved/valved/admission/Entries" "mostKept" "J" (.long (0 : Int64)) := Df (Or.inr (hw _ (List.mem_of_getElem? (i := 21) rfl))) (ty := .long) (by decide)
  have F_q_size : Fld Z h q "com/example/valved/valved/admission/Entries" "size" "I" (.int (0 : Int32)) := Df (Or.inl (hw _ (List.mem_of_getElem? (i := 28) rfl))) (ty := .int) (by decide)
  have F_q_oldest : Fld Z h q "com/example/valved/valved/admission/Entries" "oldest" "I" (.int (0 : Int32)) := Df (Or.inl (hw _ (List.mem_of_getElem? (i := 40) rfl))) (ty := .int) (by decide)
  have F_q_total : Fld Z h q "com/example/valved/valved/admission/Entries" "total" "J" (.long (0 : Int64)) := Df (Or.inl (hw _ (List.mem_of_getElem? (i := 42) rfl))) (ty := .long) (by decide)
  refine g_dup X hx (hb hby at_52) rfl (pc' := 53) rfl ?_
  refine g_lload X hx (hb hby at_53) rfl (pc' := 55) rfl ?_
  refine g_init (W := 1) (argsL := [(.long mk)]) (st := [(.ref q)]) X hx hZ hown rfl (hw _ (List.mem_of_getElem? (i := 9) rfl)) (hw _ (List.mem_of_getElem? (i := 10) rfl)) (hw _ (List.mem_of_getElem? (i := 11) rfl)) (hw _ (List.mem_of_getElem? (i := 8) rfl)) (by decide) (rmIn l Z a0 hw q mk h n0 Zn E_q F_q_stamps F_q_amounts F_q_mostKept F_q_oldest F_q_size F_q_total g_q ) eT (by decide) (by decide) (by decide) (by decide) (lenOf pd_6 rfl) (by rw [hml]; rfl) rfl (Nat.le_of_eq rfl) (hb hby at_55) (pc' := 58) rfl (fun T h vq Lq X eT hQ => ?_)
  obtain ⟨r1, r2, rfl, Nq, Kc, q_F_q_stamps, q_F_q_amounts, q_F_q_mostKept, q_F_q_oldest, q_F_q_size, q_F_q_total, q_A_r1, q_A_r2, q_ne_q_r1, q_ne_q_r2, q_ne_r1_r2, q_g_r1, q_g_r2⟩ := hQ
  replace N := Fr.app N Nq
  replace E_q := E_q.keep Kc
  have F_q_stamps := q_F_q_stamps
  have F_q_amounts := q_F_q_amounts
  have F_q_mostKept := q_F_q_mostKept
  have F_q_oldest := q_F_q_oldest
  have F_q_size := q_F_q_size
  have F_q_total := q_F_q_total
  have A_r1 := q_A_r1
  have A_r2 := q_A_r2
  have ne_q_r1 := q_ne_q_r1
  have ne_q_r2 := q_ne_q_r2
  have ne_r1_r2 := q_ne_r1_r2
  have g_r1 := q_g_r1
  have g_r2 := q_g_r2
  replace Zn := Nat.le_trans Zn Kc.1
  show WGo _ _ _ _ _ _ _ _ (mkF m 58 #[.val (.long p0), .second, .val (.long p1), .second, .val (.long p2), .second, .val (.long p3), .second, .val (.long p4), .second, .val (.long mk), .second, .val (.long x0), .second, .val (.long x1), .second, .val (.long x2), .second, .val (.long (minJ x1 mk)), .second, .val (.long (minJ x2 mk)), .second, .unset, .unset, .unset] [(.ref q)])
  refine g_astore X hx (hb hby at_58) rfl (Ls' := #[.val (.long p0), .second, .val (.long p1), .second, .val (.long p2), .second, .val (.long p3), .second, .val (.long p4), .second, .val (.long mk), .second, .val (.long x0), .second, .val (.long x1), .second, .val (.long x2), .second, .val (.long (minJ x1 mk)), .second, .val (.long (minJ x2 mk)), .second, .val (.ref q), .unset, .unset]) rfl (pc' := 60) rfl ?_
  refine g_aload X hx (hb hby at_60) rfl rfl (pc' := 62) rfl ?_
  refine g_lload X hx (hb hby at_62) rfl (pc' := 64) rfl ?_
  refine g_lloadN X hx (hb hby at_64) rfl (pc' := 65) rfl ?_
  refine g_lconst X hx (hb hby at_65) (u := (1 : Int64)) (by decide) (pc' := 66) rfl ?_
  refine g_virt (W := 0) (argsL := [(.long x0), (.long p1), (.long (1 : Int64))]) (st := []) X hx hZ hown (hw _ (List.mem_of_getElem? (i := 22) rfl)) (hw _ (List.mem_of_getElem? (i := 23) rfl)) (notFace_of_selects (args := #[]) (mvT hZ (hw _ (List.mem_of_getElem? (i := 25) rfl)))) (hw _ (List.mem_of_getElem? (i := 25) rfl)) (hw _ (List.mem_of_getElem? (i := 24) rfl)) (hw _ (List.mem_of_getElem? (i := 26) rfl)) (hw _ (List.mem_of_getElem? (i := 8) rfl)) (by decide) E_q (rmAdd00 l Z a0 hw q r1 r2 mk (0 : Int64) 0 0 0 0 x0 p1 h n0 Zn E_q F_q_stamps F_q_amounts F_q_mostKept F_q_oldest F_q_size F_q_total A_r1 A_r2 ne_q_r1 ne_q_r2 ne_r1_r2 g_q g_r1 g_r2 ) eT (by decide) (by decide) (by decide) (by decide) (lenOf pd_7 rfl) (by rw [hml]; rfl) rfl (Nat.le_of_eq rfl) (hb hby at_66) (pc' := 69) rfl (fun T h vq Lq X eT hQ => ?_)
  obtain ⟨rfl, Nq, Kc, q_F_q_stamps, q_F_q_amounts, q_F_q_mostKept, q_F_q_oldest, q_F_q_size, q_F_q_total, q_A_r1, q_A_r2⟩ := hQ
  replace N := Fr.app N Nq
  replace E_q := E_q.keep Kc
  have F_q_stamps := q_F_q_stamps
  have F_q_amounts := q_F_q_amounts
  have F_q_mostKept := q_F_q_mostKept
  have F_q_oldest := q_F_q_oldest
  have F_q_size := q_F_q_size
  have F_q_total := q_F_q_total
  have A_r1 := q_A_r1
  have A_r2 := q_A_r2
  replace Zn := Nat.le_trans Zn Kc.1
  show WGo _ _ _ _ _ _ _ _ (mkF m 69 #[.val (.long p0), .second, .val (.long p1), .second, .val (.long p2), .second, .val (.long p3), .second, .val (.long p4), .second, .val (.long mk), .second, .val (.long x0), .second, .val (.long x1), .second, .val (.long x2), .second, .val (.long (minJ x1 mk)), .second, .val (.long (minJ x2 mk)), .second, .val (.ref q), .unset, .unset] [])
  refine g_aload X hx (hb hby at_69) rfl rfl (pc' := 71) rfl ?_
  refine g_lload X hx (hb hby at_71) rfl (pc' := 73) rfl ?_
  refine g_lloadN X hx (hb hby at_73) rfl (pc' := 74) rfl ?_
  refine g_lconst X hx (hb hby at_74) (u := (1 : Int64)) (by decide) (pc' := 75) rfl ?_
  refine g_ladd X hx (hb hby at_75) (pc' := 76) rfl ?_
  refine g_lconst X hx (hb hby at_76) (u := (1 : Int64)) (by decide) (pc' := 77) rfl ?_
  refine g_virt (W := 0) (argsL := [(.long x1), (.long (p1 + (1 : Int64))), (.long (1 : Int64))]) (st := []) X hx hZ hown (hw _ (List.mem_of_getElem? (i := 22) rfl)) (hw _ (List.mem_of_getElem? (i := 23) rfl)) (notFace_of_selects (args := #[]) (mvT hZ (hw _ (List.mem_of_getElem? (i := 25) rfl)))) (hw _ (List.mem_of_getElem? (i := 25) rfl)) (hw _ (List.mem_of_getElem? (i := 24) rfl)) (hw _ (List.mem_of_getElem? (i := 26) rfl)) (hw _ (List.mem_of_getElem? (i := 8) rfl)) (by decide) E_q (rmAdd10 l Z a0 hw q r1 r2 mk ((0 : Int64) + (minJ x0 mk)) p1 0 (minJ x0 mk) 0 x1 (p1 + (1 : Int64)) h n0 Zn E_q F_q_stamps F_q_amounts F_q_mostKept F_q_oldest F_q_size F_q_total A_r1 A_r2 ne_q_r1 ne_q_r2 ne_r1_r2 g_q g_r1 g_r2 (up_ge p1 (1 : Int64) rfl) (up_ne p1)) eT (by decide) (by decide) (by decide) (by decide) (lenOf pd_7 rfl) (by rw [hml]; rfl) rfl (Nat.le_of_eq rfl) (hb hby at_77) (pc' := 80) rfl (fun T h vq Lq X eT hQ => ?_)
  obtain ⟨rfl, Nq, Kc, q_F_q_stamps, q_F_q_amounts, q_F_q_mostKept, q_F_q_oldest, q_F_q_size, q_F_q_total, q_A_r1, q_A_r2⟩ := hQ
  replace N := Fr.app N Nq
  replace E_q := E_q.keep Kc
  have F_q_stamps := q_F_q_stamps
  have F_q_amounts := q_F_q_amounts
  have F_q_mostKept := q_F_q_mostKept
  have F_q_oldest := q_F_q_oldest
  have F_q_size := q_F_q_size
  have F_q_total := q_F_q_total
  have A_r1 := q_A_r1
  have A_r2 := q_A_r2
  replace Zn := Nat.le_trans Zn Kc.1
  show WGo _ _ _ _ _ _ _ _ (mkF m 80 #[.val (.long p0), .second, .val (.long p1), .second, .val (.long p2), .second, .val (.long p3), .second, .val (.long p4), .second, .val (.long mk), .second, .val (.long x0), .second, .val (.long x1), .second, .val (.long x2), .second, .val (.long (minJ x1 mk)), .second, .val (.long (minJ x2 mk)), .second, .val (.ref q), .unset, .unset] [])
  refine g_aload X hx (hb hby at_80) rfl rfl (pc' := 82) rfl ?_
  refine g_virt (W := 0) (argsL := []) (st := []) X hx hZ hown (hw _ (List.mem_of_getElem? (i := 59) rfl)) (hw _ (List.mem_of_getElem? (i := 60) rfl)) (notFace_of_selects (args := #[]) (mvT hZ (hw _ (List.mem_of_getElem? (i := 62) rfl)))) (hw _ (List.mem_of_getElem? (i := 62) rfl)) (hw _ (List.mem_of_getElem? (i := 61) rfl)) (hw _ (List.mem_of_getElem? (i := 63) rfl)) (hw _ (List.mem_of_getElem? (i := 8) rfl)) (by decide) E_q (rmRem l Z a0 hw q r1 r2 mk (0 : Int32) (2 : Int32) (1 : Int32) (((0 : Int64) + (minJ x0 mk)) + (minJ x1 mk)) ([p1, (p1 + (1 : Int64))] : List Int64) ([(minJ x0 mk), (minJ x1 mk)] : List Int64) (1 : Int32) (minJ x0 mk) h n0 Zn E_q F_q_stamps F_q_amounts F_q_mostKept F_q_oldest F_q_size F_q_total A_r1 A_r2 ne_q_r1 ne_q_r2 ne_r1_r2 g_q g_r1 g_r2 (by decide) (by decide) rfl (by decide) (by decide)) eT (by decide) (by decide) (by decide) (by decide) (lenOf pd_8 rfl) (by rw [hml]; rfl) rfl (Nat.le_of_eq rfl) (hb hby at_82) (pc' := 85) rfl (fun T h vq Lq X eT hQ => ?_)
  obtain ⟨rfl, Nq, Kc, q_F_q_stamps, q_F_q_amounts, q_F_q_mostKept, q_F_q_oldest, q_F_q_size, q_F_q_total⟩ := hQ
  replace N := Fr.app N Nq
  replace E_q := E_q.keep Kc
  replace A_r1 := A_r1.keep Kc (ninS (Ne.symm ne_q_r1) nin0)
  replace A_r2 := A_r2.keep Kc (ninS (Ne.symm ne_q_r2) nin0)
  have F_q_stamps := q_F_q_stamps
  have F_q_amounts := q_F_q_amounts
  have F_q_mostKept := q_F_q_mostKept
  have F_q_oldest := q_F_q_oldest
  have F_q_size := q_F_q_size
  have F_q_total := q_F_q_total
  replace Zn := Nat.le_trans Zn Kc.1
  show WGo _ _ _ _ _ _ _ _ (mkF m 85 #[.val (.long p0), .second, .val (.long p1), .second, .val (.long p2), .second, .val (.long p3), .second, .val (.long p4), .second, .val (.long mk), .second, .val (.long x0), .second, .val (.long x1), .second, .val (.long x2), .second, .val (.long (minJ x1 mk)), .second, .val (.long (minJ x2 mk)), .second, .val (.ref q), .unset, .unset] [])
  rw [tot1] at F_q_total
  refine g_aload X hx (hb hby at_85) rfl rfl (pc' := 87) rfl ?_
  refine g_virt (W := 0) (argsL := []) (st := []) X hx hZ hown (hw _ (List.mem_of_getElem? (i := 64) rfl)) (hw _ (List.mem_of_getElem? (i := 65) rfl)) (notFace_of_selects (args := #[]) (mvT hZ (hw _ (List.mem_of_getElem? (i := 67) rfl)))) (hw _ (List.mem_of_getElem? (i := 67) rfl)) (hw _ (List.mem_of_getElem? (i := 66) rfl)) (hw _ (List.mem_of_getElem? (i := 68) rfl)) (hw _ (List.mem_of_getElem? (i := 8) rfl)) (by decide) E_q (rmTot l Z a0 hw q (minJ x1 mk) h n0 Zn F_q_total ) eT (by decide) (by decide) (by decide) (by decide) (lenOf pd_3 rfl) (by rw [hml]; rfl) rfl (Nat.le_of_eq rfl) (hb hby at_87) (pc' := 90) rfl (fun T hn vq Lq X eT hQ => ?_)
  obtain ⟨rfl, Nq, hE⟩ := hQ
  replace N := Fr.app N Nq
  rw [hE] at eT; clear hE
  show WGo _ _ _ _ _ _ _ _ (mkF m 90 #[.val (.long p0), .second, .val (.long p1), .second, .val (.long p2), .second, .val (.long p3), .second, .val (.long p4), .second, .val (.long mk), .second, .val (.long x0), .second, .val (.long x1), .second, .val (.long x2), .second, .val (.long (minJ x1 mk)), .second, .val (.long (minJ x2 mk)), .second, .val (.ref q), .unset, .unset] [(.long (minJ x1 mk))])
  refine g_lload X hx (hb hby at_90) rfl (pc' := 92) rfl ?_
  refine g_lcmp X hx (hb hby at_92) (pc' := 93) rfl ?_
  refine g_if X hx (hb hby at_93) (by decide) (pc' := 100) (by decide) (pc2 := 96) rfl (fun hc => ?_) (fun hc => ?_)
  · replace hc := h_ne1 hc
    simp only [cl_lt, cl_gt, cl_eq] at hc
    have hc93 := hc
    exfalso
    first | exact hc rfl | exact hc trivial
  · replace hc := h_ne0 hc
    simp only [cl_lt, cl_gt, cl_eq] at hc
    have hc93 := hc
    refine g_iconst X hx (hb hby at_96) (x := (1 : Int32)) (by decide) (pc' := 97) rfl ?_
    refine g_goto X hx (hb hby at_97) (by decide) (pc' := 101) (by decide) ?_
    refine g_istore X hx (hb hby at_101) (Ls' := #[.val (.long p0), .second, .val (.long p1), .second, .val (.long p2), .second, .val (.long p3), .second, .val (.long p4), .second, .val (.long mk), .second, .val (.long x0), .second, .val (.long x1), .second, .val (.long x2), .second, .val (.long (minJ x1 mk)), .second, .val (.long (minJ x2 mk)), .second, .val (.ref q), .val (.int (1 : Int32)), .unset]) rfl (pc' := 103) rfl ?_
    refine g_aload X hx (hb hby at_103) rfl rfl (pc' := 105) rfl ?_
    refine g_lload X hx (hb hby at_105) rfl (pc' := 107) rfl ?_
    refine g_lloadN X hx (hb hby at_107) rfl (pc' := 108) rfl ?_
    refine g_ldcJ X hx hZ hown (hw _ (List.mem_of_getElem? (i := 69) rfl)) (hb hby at_108) (pc' := 111) rfl ?_
    refine g_ladd X hx (hb hby at_111) (pc' := 112) rfl ?_
    refine g_lconst X hx (hb hby at_112) (u := (1 : Int64)) (by decide) (pc' := 113) rfl ?_
    refine g_virt (W := 0) (argsL := [(.long x2), (.long (p1 + (2 : Int64))), (.long (1 : Int64))]) (st := []) X hx hZ hown (hw _ (List.mem_of_getElem? (i := 22) rfl)) (hw _ (List.mem_of_getElem? (i := 23) rfl)) (notFace_of_selects (args := #[]) (mvT hZ (hw _ (List.mem_of_getElem? (i := 25) rfl)))) (hw _ (List.mem_of_getElem? (i := 25) rfl)) (hw _ (List.mem_of_getElem? (i := 24) rfl)) (hw _ (List.mem_of_getElem? (i := 26) rfl)) (hw _ (List.mem_of_getElem? (i := 8) rfl)) (by decide) E_q (rmAdd11 l Z a0 hw q r1 r2 mk (minJ x1 mk) p1 (p1 + (1 : Int64)) (minJ x0 mk) (minJ x1 mk) x2 (p1 + (2 : Int64)) h n0 Zn E_q F_q_stamps F_q_amounts F_q_mostKept F_q_oldest F_q_size F_q_total A_r1 A_r2 ne_q_r1 ne_q_r2 ne_r1_r2 g_q g_r1 g_r2 (up_ge2 p1) (up_ne2 p1)) eT (by decide) (by decide) (by decide) (by decide) (lenOf pd_7 rfl) (by rw [hml]; rfl) rfl (Nat.le_of_eq rfl) (hb hby at_113) (pc' := 116) rfl (fun T h vq Lq X eT hQ => ?_)
    obtain ⟨rfl, Nq, Kc, q_F_q_stamps, q_F_q_amounts, q_F_q_mostKept, q_F_q_oldest, q_F_q_size, q_F_q_total, q_A_r1, q_A_r2⟩ := hQ
    replace N := Fr.app N Nq
    replace E_q := E_q.keep Kc
    have F_q_stamps := q_F_q_stamps
    have F_q_amounts := q_F_q_amounts
    have F_q_mostKept := q_F_q_mostKept
    have F_q_oldest := q_F_q_oldest
    have F_q_size := q_F_q_size
    have F_q_total := q_F_q_total
    have A_r1 := q_A_r1
    have A_r2 := q_A_r2
    replace Zn := Nat.le_trans Zn Kc.1
    show WGo _ _ _ _ _ _ _ _ (mkF m 116 #[.val (.long p0), .second, .val (.long p1), .second, .val (.long p2), .second, .val (.long p3), .second, .val (.long p4), .second, .val (.long mk), .second, .val (.long x0), .second, .val (.long x1), .second, .val (.long x2), .second, .val (.long (minJ x1 mk)), .second, .val (.long (minJ x2 mk)), .second, .val (.ref q), .val (.int (1 : Int32)), .unset] [])
    refine g_aload X hx (hb hby at_116) rfl rfl (pc' := 118) rfl ?_
    refine g_virt (W := 0) (argsL := []) (st := []) X hx hZ hown (hw _ (List.mem_of_getElem? (i := 59) rfl)) (hw _ (List.mem_of_getElem? (i := 60) rfl)) (notFace_of_selects (args := #[]) (mvT hZ (hw _ (List.mem_of_getElem? (i := 62) rfl)))) (hw _ (List.mem_of_getElem? (i := 62) rfl)) (hw _ (List.mem_of_getElem? (i := 61) rfl)) (hw _ (List.mem_of_getElem? (i := 63) rfl)) (hw _ (List.mem_of_getElem? (i := 8) rfl)) (by decide) E_q (rmRem l Z a0 hw q r1 r2 mk (1 : Int32) (2 : Int32) (1 : Int32) ((minJ x1 mk) + (minJ x2 mk)) ([(p1 + (2 : Int64)), (p1 + (1 : Int64))] : List Int64) ([(minJ x2 mk), (minJ x1 mk)] : List Int64) (0 : Int32) (minJ x1 mk) h n0 Zn E_q F_q_stamps F_q_amounts F_q_mostKept F_q_oldest F_q_size F_q_total A_r1 A_r2 ne_q_r1 ne_q_r2 ne_r1_r2 g_q g_r1 g_r2 (by decide) (by decide) rfl (by decide) (by decide)) eT (by decide) (by decide) (by decide) (by decide) (lenOf pd_8 rfl) (by rw [hml]; rfl) rfl (Nat.le_of_eq rfl) (hb hby at_118) (pc' := 121) rfl (fun T h vq Lq X eT hQ => ?_)
    obtain ⟨rfl, Nq, Kc, q_F_q_stamps, q_F_q_amounts, q_F_q_mostKept, q_F_q_oldest, q_F_q_size, q_F_q_total⟩ := hQ
    replace N := Fr.app N Nq
    replace E_q := E_q.keep Kc
    replace A_r1 := A_r1.keep Kc (ninS (Ne.symm ne_q_r1) nin0)
    replace A_r2 := A_r2.keep Kc (ninS (Ne.symm ne_q_r2) nin0)
    have F_q_stamps := q_F_q_stamps
    have F_q_amounts := q_F_q_amounts
    have F_q_mostKept := q_F_q_mostKept
    have F_q_oldest := q_F_q_oldest
    have F_q_size := q_F_q_size
    have F_q_total := q_F_q_total
    replace Zn := Nat.le_trans Zn Kc.1
    show WGo _ _ _ _ _ _ _ _ (mkF m 121 #[.val (.long p0), .second, .val (.long p1), .second, .val (.long p2), .second, .val (.long p3), .second, .val (.long p4), .second, .val (.long mk), .second, .val (.long x0), .second, .val (.long x1), .second, .val (.long x2), .second, .val (.long (minJ x1 mk)), .second, .val (.long (minJ x2 mk)), .second, .val (.ref q), .val (.int (1 : Int32)), .unset] [])
    rw [tot2] at F_q_total
    refine g_aload X hx (hb hby at_121) rfl rfl (pc' := 123) rfl ?_
    refine g_virt (W := 0) (argsL := []) (st := []) X hx hZ hown (hw _ (List.mem_of_getElem? (i := 70) rfl)) (hw _ (List.mem_of_getElem? (i := 71) rfl)) (notFace_of_selects (args := #[]) (mvT hZ (hw _ (List.mem_of_getElem? (i := 73) rfl)))) (hw _ (List.mem_of_getElem? (i := 73) rfl)) (hw _ (List.mem_of_getElem? (i := 72) rfl)) (hw _ (List.mem_of_getElem? (i := 74) rfl)) (hw _ (List.mem_of_getElem? (i := 8) rfl)) (by decide) E_q (rmSz l Z a0 hw q (1 : Int32) h n0 Zn F_q_size ) eT (by decide) (by decide) (by decide) (by decide) (lenOf pd_9 rfl) (by rw [hml]; rfl) rfl (Nat.le_of_eq rfl) (hb hby at_123) (pc' := 126) rfl (fun T hn vq Lq X eT hQ => ?_)
    obtain ⟨rfl, Nq, hE⟩ := hQ
    replace N := Fr.app N Nq
    rw [hE] at eT; clear hE
    show WGo _ _ _ _ _ _ _ _ (mkF m 126 #[.val (.long p0), .second, .val (.long p1), .second, .val (.long p2), .second, .val (.long p3), .second, .val (.long p4), .second, .val (.long mk), .second, .val (.long x0), .second, .val (.long x1), .second, .val (.long x2), .second, .val (.long (minJ x1 mk)), .second, .val (.long (minJ x2 mk)), .second, .val (.ref q), .val (.int (1 : Int32)), .unset] [(.int (1 : Int32))])
    refine g_iconst X hx (hb hby at_126) (x := (1 : Int32)) (by decide) (pc' := 127) rfl ?_
    refine g_icmp X hx (hb hby at_127) (by decide) (pc' := 172) (by decide) (pc2 := 130) rfl (fun hc => ?_) (fun hc => ?_)
    · replace hc := h_ne1 hc
      have hc127 := hc
      exfalso
      clear hc127; revert hc; decide
    · replace hc := h_ne0 hc
      have hc127 := hc
      refine g_aload X hx (hb hby at_130) rfl rfl (pc' := 132) rfl ?_
      refine g_virt (W := 0) (argsL := []) (st := []) X hx hZ hown (hw _ (List.mem_of_getElem? (i := 64) rfl)) (hw _ (List.mem_of_getElem? (i := 65) rfl)) (notFace_of_selects (args := #[]) (mvT hZ (hw _ (List.mem_of_getElem? (i := 67) rfl)))) (hw _ (List.mem_of_getElem? (i := 67) rfl)) (hw _ (List.mem_of_getElem? (i := 66) rfl)) (hw _ (List.mem_of_getElem? (i := 68) rfl)) (hw _ (List.mem_of_getElem? (i := 8) rfl)) (by decide) E_q (rmTot l Z a0 hw q (minJ x2 mk) h n0 Zn F_q_total ) eT (by decide) (by decide) (by decide) (by decide) (lenOf pd_3 rfl) (by rw [hml]; rfl) rfl (Nat.le_of_eq rfl) (hb hby at_132) (pc' := 135) rfl (fun T hn vq Lq X eT hQ => ?_)
      obtain ⟨rfl, Nq, hE⟩ := hQ
      replace N := Fr.app N Nq
      rw [hE] at eT; clear hE
      show WGo _ _ _ _ _ _ _ _ (mkF m 135 #[.val (.long p0), .second, .val (.long p1), .second, .val (.long p2), .second, .val (.long p3), .second, .val (.long p4), .second, .val (.long mk), .second, .val (.long x0), .second, .val (.long x1), .second, .val (.long x2), .second, .val (.long (minJ x1 mk)), .second, .val (.long (minJ x2 mk)), .second, .val (.ref q), .val (.int (1 : Int32)), .unset] [(.long (minJ x2 mk))])
      refine g_lload X hx (hb hby at_135) rfl (pc' := 137) rfl ?_
      refine g_lcmp X hx (hb hby at_137) (pc' := 138) rfl ?_
      refine g_if X hx (hb hby at_138) (by decide) (pc' := 172) (by decide) (pc2 := 141) rfl (fun hc => ?_) (fun hc => ?_)
      · replace hc := h_ne1 hc
        simp only [cl_lt, cl_gt, cl_eq] at hc
        have hc138 := hc
        exfalso
        first | exact hc rfl | exact hc trivial
      · replace hc := h_ne0 hc
        simp only [cl_lt, cl_gt, cl_eq] at hc
        have hc138 := hc
        refine g_aload X hx (hb hby at_141) rfl rfl (pc' := 143) rfl ?_
        refine g_iconst X hx (hb hby at_143) (x := (0 : Int32)) (by decide) (pc' := 144) rfl ?_
        refine g_virt (W := 0) (argsL := [(.int (0 : Int32))]) (st := []) X hx hZ hown (hw _ (List.mem_of_getElem? (i := 75) rfl)) (hw _ (List.mem_of_getElem? (i := 49) rfl)) (notFace_of_selects (args := #[]) (mvT hZ (hw _ (List.mem_of_getElem? (i := 51) rfl)))) (hw _ (List.mem_of_getElem? (i := 51) rfl)) (hw _ (List.mem_of_getElem? (i := 50) rfl)) (hw _ (List.mem_of_getElem? (i := 52) rfl)) (hw _ (List.mem_of_getElem? (i := 8) rfl)) (by decide) E_q (rmSt l Z a0 hw q r1 (0 : Int32) (0 : Int32) (0 : Int32) ([(p1 + (2 : Int64)), (p1 + (1 : Int64))] : List Int64) (p1 + (2 : Int64)) h n0 Zn E_q F_q_oldest F_q_stamps A_r1 (by decide) (by decide) (by decide) rfl) eT (by decide) (by decide) (by decide) (by decide) (lenOf pd_4 rfl) (by rw [hml]; rfl) rfl (Nat.le_of_eq rfl) (hb hby at_144) (pc' := 147) rfl (fun T hn vq Lq X eT hQ => ?_)
        obtain ⟨rfl, Nq, hE⟩ := hQ
        replace N := Fr.app N Nq
        rw [hE] at eT; clear hE
        show WGo _ _ _ _ _ _ _ _ (mkF m 147 #[.val (.long p0), .second, .val (.long p1), .second, .val (.long p2), .second, .val (.long p3), .second, .val (.long p4), .second, .val (.long mk), .second, .val (.long x0), .second, .val (.long x1), .second, .val (.long x2), .second, .val (.long (minJ x1 mk)), .second, .val (.long (minJ x2 mk)), .second, .val (.ref q), .val (.int (1 : Int32)), .unset] [(.long (p1 + (2 : Int64)))])
        refine g_lloadN X hx (hb hby at_147) rfl (pc' := 148) rfl ?_
        refine g_ldcJ X hx hZ hown (hw _ (List.mem_of_getElem? (i := 69) rfl)) (hb hby at_148) (pc' := 151) rfl ?_
        refine g_ladd X hx (hb hby at_151) (pc' := 152) rfl ?_
        refine g_lcmp X hx (hb hby at_152) (pc' := 153) rfl ?_
        refine g_if X hx (hb hby at_153) (by decide) (pc' := 172) (by decide) (pc2 := 156) rfl (fun hc => ?_) (fun hc => ?_)
        · replace hc := h_ne1 hc
          simp only [cl_lt, cl_gt, cl_eq] at hc
          have hc153 := hc
          exfalso
          first | exact hc rfl | exact hc trivial
        · replace hc := h_ne0 hc
          simp only [cl_lt, cl_gt, cl_eq] at hc
          have hc153 := hc
          refine g_aload X hx (hb hby at_156) rfl rfl (pc' := 158) rfl ?_
          refine g_iconst X hx (hb hby at_158) (x := (0 : Int32)) (by decide) (pc' := 159) rfl ?_
          refine g_virt (W := 0) (argsL := [(.int (0 : Int32))]) (st := []) X hx hZ hown (hw _ (List.mem_of_getElem? (i := 76) rfl)) (hw _ (List.mem_of_getElem? (i := 77) rfl)) (notFace_of_selects (args := #[]) (mvT hZ (hw _ (List.mem_of_getElem? (i := 79) rfl)))) (hw _ (List.mem_of_getElem? (i := 79) rfl)) (hw _ (List.mem_of_getElem? (i := 78) rfl)) (hw _ (List.mem_of_getElem? (i := 80) rfl)) (hw _ (List.mem_of_getElem? (i := 8) rfl)) (by decide) E_q (rmAm l Z a0 hw q r1 r2 (0 : Int32) (0 : Int32) (0 : Int32) ([(p1 + (2 : Int64)), (p1 + (1 : Int64))] : List Int64) ([(minJ x2 mk), (minJ x1 mk)] : List Int64) (minJ x2 mk) h n0 Zn E_q F_q_oldest F_q_stamps A_r1 F_q_amounts A_r2 (by decide) (by decide) (by decide) rfl) eT (by decide) (by decide) (by decide) (by decide) (lenOf pd_4 rfl) (by rw [hml]; rfl) rfl (Nat.le_of_eq rfl) (hb hby at_159) (pc' := 162) rfl (fun T hn vq Lq X eT hQ => ?_)
          obtain ⟨rfl, Nq, hE⟩ := hQ
          replace N := Fr.app N Nq
          rw [hE] at eT; clear hE
          show WGo _ _ _ _ _ _ _ _ (mkF m 162 #[.val (.long p0), .second, .val (.long p1), .second, .val (.long p2), .second, .val (.long p3), .second, .val (.long p4), .second, .val (.long mk), .second, .val (.long x0), .second, .val (.long x1), .second, .val (.long x2), .second, .val (.long (minJ x1 mk)), .second, .val (.long (minJ x2 mk)), .second, .val (.ref q), .val (.int (1 : Int32)), .unset] [(.long (minJ x2 mk))])
          refine g_lload X hx (hb hby at_162) rfl (pc' := 164) rfl ?_
          refine g_lcmp X hx (hb hby at_164) (pc' := 165) rfl ?_
          refine g_if X hx (hb hby at_165) (by decide) (pc' := 172) (by decide) (pc2 := 168) rfl (fun hc => ?_) (fun hc => ?_)
          · replace hc := h_ne1 hc
            simp only [cl_lt, cl_gt, cl_eq] at hc
            have hc165 := hc
            exfalso
            first | exact hc rfl | exact hc trivial
          · replace hc := h_ne0 hc
            simp only [cl_lt, cl_gt, cl_eq] at hc
            have hc165 := hc
            refine g_iconst X hx (hb hby at_168) (x := (1 : Int32)) (by decide) (pc' := 169) rfl ?_
            refine g_goto X hx (hb hby at_169) (by decide) (pc' := 173) (by decide) ?_
            refine g_istore X hx (hb hby at_173) (Ls' := #[.val (.long p0), .second, .val (.long p1), .second, .val (.long p2), .second, .val (.long p3), .second, .val (.long p4), .second, .val (.long mk), .second, .val (.long x0), .second, .val (.long x1), .second, .val (.long x2), .second, .val (.long (minJ x1 mk)), .second, .val (.long (minJ x2 mk)), .second, .val (.ref q), .val (.int (1 : Int32)), .val (.int (1 : Int32))]) rfl (pc' := 175) rfl ?_
            refine g_iload X hx (hb hby at_175) rfl (pc' := 177) rfl ?_
            refine g_if X hx (hb hby at_177) (by decide) (pc' := 189) (by decide) (pc2 := 180) rfl (fun hc => ?_) (fun hc => ?_)
            · replace hc := h_eq1 hc
              have hc177 := hc
              exfalso
              clear hc177; revert hc; decide
            · replace hc := h_eq0 hc
              have hc177 := hc
              refine g_iload X hx (hb hby at_180) rfl (pc' := 182) rfl ?_
              refine g_if X hx (hb hby at_182) (by decide) (pc' := 189) (by decide) (pc2 := 185) rfl (fun hc => ?_) (fun hc => ?_)
              · replace hc := h_eq1 hc
                have hc182 := hc
                exfalso
                clear hc182; revert hc; decide
              · replace hc := h_eq0 hc
                have hc182 := hc
                refine g_iconst X hx (hb hby at_185) (x := (1 : Int32)) (by decide) (pc' := 186) rfl ?_
                refine g_goto X hx (hb hby at_186) (by decide) (pc' := 190) (by decide) ?_
                refine g_retN (t := .boolean) X hx hret (by simp) hlk (hb hby at_190) (by decide) (by decide) ?_
                exact ⟨rfl, N⟩
set_option maxRecDepth 65536 in
set_option maxHeartbeats 40000000 in
theorem comes_1 {Post : Tables → Env → Array Value → State → Outcome → State → Prop} (hpost : ∀ tb e args s v u, (limb_1_1.after args s (.returned v) u = true ∧ limb_1_2.after args s (.returned v) u = true ∧ True) → FrameEnd s (.returned v) u (Jvm.fieldLocs frame_1_writes args s ++ Jvm.arrayLocs frame_1_arrays args s ++ Jvm.staticLocs frame_1_statics s) 16 128 → Post tb e args s (.returned v) u) :
    ArmFor flags0 classFile x code maxLocals ret World_1 tables_1 room_1 Calls_1 rest_1 Pre_1 Post := by
  intro l hfl _ _ p e ha hc hk s m args below hf hA hF happ hP
  obtain ⟨hcalls, hrest, hpre⟩ := hP
  obtain ⟨-, -, -, hnamed, -, -, -, hat⟩ := (Spec.applies_iff hf).mp happ
  obtain ⟨hg, hn⟩ := and_e (Cond.before_iff.mp (show (Jvm.Cond.and given_1 narrow_1).before args s = true from hpre))
  obtain ⟨gc, gr0⟩ := and_e hg
  obtain ⟨ga0, gr1⟩ := and_e gr0
  obtain ⟨ga1, gr2⟩ := and_e gr1
  obtain ⟨ga2, gr3⟩ := and_e gr2
  obtain ⟨ga3, gr4⟩ := and_e gr3
  obtain ⟨w0, w1, w2, w3, w4, rfl⟩ : ∃ w0 w1 w2 w3 w4 : Value, args = #[w0, w1, w2, w3, w4] := by
    have hs : args.size = 5 := by simpa [Cond.value, given_1] using gc
    obtain ⟨L⟩ := args
    match L, hs with
    | [w0, w1, w2, w3, w4], _ => exact ⟨w0, w1, w2, w3, w4, rfl⟩
  have hw := fun d (hd : d ∈ tables_1) => atoms_spec (ws := Jvm.Cond.code x code maxLocals ret :: tables_1) hat d (List.mem_cons_of_mem _ hd)
  obtain ⟨i0, ei0⟩ := isL_v ga0
  obtain rfl : w0 = (.long i0) := Option.some.inj ei0
  obtain ⟨i1, ei1⟩ := isL_v ga1
  obtain rfl : w1 = (.long i1) := Option.some.inj ei1
  obtain ⟨i2, ei2⟩ := isL_v ga2
  obtain rfl : w2 = (.long i2) := Option.some.inj ei2
  obtain ⟨i3, ei3⟩ := isL_v ga3
  obtain rfl : w3 = (.long i3) := Option.some.inj ei3
  obtain ⟨i4, ei4⟩ := isL_v gr4
  obtain rfl : w4 = (.long i4) := Option.some.inj ei4
  obtain ⟨n, o, h1, h2, h3, _, L, rfl, ⟨rfl, N⟩, hq⟩ := rm0 l s _ hw i0 i1 i2 i3 i4 s.heap s.heap.size (Nat.le_refl _)  tables_1 p e ha hc hk s m _ below hf ((Spec.applies_iff_loose hf).mp happ).1 ⟨rfl, State.Warmed39.refl s, rfl⟩ trivial
  refine ⟨n, _, h1, h2, h3, hpost _ _ _ _ _ _ ⟨Cond.after_iff.mpr rfl, Cond.after_iff.mpr (eq_i res_at (Term.int_eval (1)) rfl), trivial⟩ ⟨hq.1, hq.2.1, (hq.2.2.sift fun y hy => Or.inr (N y hy)).mono (by decide) (by decide)⟩⟩
theorem main_1_1 : Claimed_1_1 := comes_1 fun _ _ _ _ _ _ h hF => ⟨h.1, hF⟩
theorem main_1_2 : Claimed_1_2 := comes_1 fun _ _ _ _ _ _ h hF => ⟨h.2.1, hF⟩
end Jvm.Pilot.@@N@@
namespace Jvm.Pilot.@@N@@
open Jvm Jvm.ClassFile Sem Op Lib Jvm.Free Jvm.Stand Jvm.Pilot.@@N@@.Jvm.D
/-! MADE BY PROGRAM (witnessworld.py) out of the Statement's table words and the real class files: 12 classes; the members and pool entries that the words name. The judged class is class 1, her method 1. -/
namespace start1
open Jvm.ClassFile
def u (s : String) : CpInfo := .utf8 (stringToUtf16 s)
/-- a pool by its gaps: so many unusable entries, then the entry; so many at the end -/
def gap : Nat → List CpInfo → List CpInfo
  | 0, r => r
  | n + 1, r => .unusable :: gap n r
def poolList (es : List (Nat × CpInfo)) (last : Nat) : List CpInfo := es.foldr (fun e r => gap e.1 (e.2 :: r)) (gap last [])
def pool (es : List (Nat × CpInfo)) (last : Nat) : Array CpInfo := ⟨poolList es last⟩
def fileOf (pool : Array CpInfo) (this : Nat) (attrs : Array Attribute := #[]) (ms : Array MethodInfo := #[]) (fl : Nat := 33) (sup : Nat := 0) (ifs : Array Nat := #[]) (fds : Array FieldInfo := #[]) : ClassFile where
  minorVersion := 0
  majorVersion := 65
  constantPool := pool
  accessFlags := fl
  thisClass := this
  superClass := sup
  interfaces := ifs
  fields := fds
  methods := ms
  attributes := attrs
def plain (name : String) (sup : Option ClassId) : Class where
  name := name
  kind := .ordinary
  loader := none
  accessFlags := 33
  super := sup
  interfaces := #[]
  cf := none
  fields := #[]
  methods := #[]
  instanceTypes := #[]
  staticTypes := #[]
  resolved := #[]
  callSites := []
  init := .initialized
  statics := none
  mirror := none

def pool0 : Array CpInfo := pool [(5, u "<init>"), (0, u "()V"), (1, .class_ 10), (1, u "java/lang/Object")] 113

def k0c0 : Code := { maxStack := 0, maxLocals := 1, code := object_method_1_code, exceptionTable := #[], attributes := #[] }
def k0m0 : Method := { name := "<init>", desc := "()V", sig := { parameters := [], returnType := none }, accessFlags := 1, code := some k0c0 }
/-- java/lang/Object -/
def k0 : Class := { plain "java/lang/Object" none with
  accessFlags := 33
  interfaces := #[]
  cf := some (fileOf pool0 8 #[] #[{ accessFlags := 1, nameIndex := 5, descriptorIndex := 6, attributes := #[] }] 33 0 #[] #[])
  fields := #[]
  methods := #[k0m0]
  instanceTypes := #[]
  staticTypes := #[]
  resolved := Array.replicate 124 none
  statics := none }

def pool1 : Array CpInfo := pool [(2, .class_ 4), (1, u "java/lang/Object"), (0, u "<init>"), (0, u "()V"), (0, .long 4611686018427387903), (1, .long 9223372036854775807), (1, .methodref 12 13), (0, .class_ 14), (0, .nameAndType 15 16), (0, u "java/lang/Math"), (0, u "min"), (0, u "(JJ)J"), (0, .class_ 18), (0, u "com/example/valved/valved/admission/Entries"), (0, .methodref 17 20), (0, .nameAndType 5 21), (0, u "(J)V"), (0, .methodref 17 23), (0, .nameAndType 24 25), (0, u "add"), (0, u "(JJJ)V"), (0, .methodref 17 27), (0, .nameAndType 28 6), (0, u "removeOldest"), (0, .methodref 17 30), (0, .nameAndType 31 32), (0, u "total"), (0, u "()J"), (0, .long 2), (1, .methodref 17 36), (0, .nameAndType 37 38), (0, u "size"), (0, u "()I"), (0, .methodref 17 40), (0, .nameAndType 41 42), (0, u "stamp"), (0, u "(I)J"), (0, .methodref 17 44), (0, .nameAndType 45 42), (0, u "amount"), (0, .class_ 47), (0, u "com/example/valved/valved/admission/EntriesRemoveOldestPinLaw"), (2, u "law"), (0, u "(JJJJJ)Z")] 3

def k1m0 : Method := { name := "<init>", desc := "()V", sig := { parameters := [], returnType := none }, accessFlags := 2, code := none }
def k1c1 : Code := { maxStack := 7, maxLocals := 25, code := code, exceptionTable := #[], attributes := #[] }
def k1m1 : Method := { name := "law", desc := "(JJJJJ)Z", sig := { parameters := [.long, .long, .long, .long, .long], returnType := some .boolean }, accessFlags := 9, code := some k1c1 }
/-- com/example/valved/valved/admission/EntriesRemoveOldestPinLaw -/
def k1 : Class := { plain "com/example/valved/valved/admission/EntriesRemoveOldestPinLaw" (some 0) with
  accessFlags := 49
  interfaces := #[]
  cf := some (fileOf pool1 46 #[] #[{ accessFlags := 2, nameIndex := 5, descriptorIndex := 6, attributes := #[] }, { accessFlags := 9, nameIndex := 50, descriptorIndex := 51, attributes := #[] }] 49 2 #[] #[])
  fields := #[]
  methods := #[k1m0, k1m1]
  instanceTypes := #[]
  staticTypes := #[]
  resolved := Array.replicate 55 none
  statics := none }

def pool2 : Array CpInfo := pool [(1, .class_ 2), (0, u "java/lang/Math"), (1, .class_ 6), (1, u "java/lang/Object"), (0, u "<init>"), (0, u "()V"), (89, .class_ 100), (1, u "java/lang/Math$RandomNumberGeneratorHolder"), (20, u "(JJ)J"), (23, u "floorDiv"), (26, u "negativeZeroFloatBits"), (0, u "J"), (2, u "negativeZeroDoubleBits"), (24, u "min"), (43, u "$assertionsDisabled"), (0, u "Z"), (91, u "twoToTheDoubleScaleDown"), (0, u "D"), (4, u "twoToTheDoubleScaleUp"), (9, u "E"), (3, u "PI"), (2, u "TAU"), (2, u "DEGREES_TO_RADIANS"), (0, u "RADIANS_TO_DEGREES")] 94

def k2m0 : Method := { name := "<init>", desc := "()V", sig := { parameters := [], returnType := none }, accessFlags := 2, code := none }
def k2c1 : Code := { maxStack := 4, maxLocals := 6, code := jdk_29_method_49_code, exceptionTable := #[], attributes := #[] }
def k2m1 : Method := { name := "floorDiv", desc := "(JJ)J", sig := { parameters := [.long, .long], returnType := some .long }, accessFlags := 9, code := some k2c1 }
def k2c2 : Code := { maxStack := 4, maxLocals := 4, code := jdk_29_method_70_code, exceptionTable := #[], attributes := #[] }
def k2m2 : Method := { name := "min", desc := "(JJ)J", sig := { parameters := [.long, .long], returnType := some .long }, accessFlags := 9, code := some k2c2 }
/-- java/lang/Math -/
def k2 : Class := { plain "java/lang/Math" (some 0) with
  accessFlags := 49
  interfaces := #[]
  cf := some (fileOf pool2 1 #[.nestMembers #[98]] #[{ accessFlags := 2, nameIndex := 7, descriptorIndex := 8, attributes := #[] }, { accessFlags := 9, nameIndex := 145, descriptorIndex := 121, attributes := #[] }, { accessFlags := 9, nameIndex := 201, descriptorIndex := 121, attributes := #[] }] 49 4 #[] #[{ accessFlags := 25, nameIndex := 354, descriptorIndex := 339, attributes := #[] }, { accessFlags := 25, nameIndex := 358, descriptorIndex := 339, attributes := #[] }, { accessFlags := 25, nameIndex := 361, descriptorIndex := 339, attributes := #[] }, { accessFlags := 26, nameIndex := 364, descriptorIndex := 339, attributes := #[] }, { accessFlags := 26, nameIndex := 365, descriptorIndex := 339, attributes := #[] }, { accessFlags := 26, nameIndex := 172, descriptorIndex := 173, attributes := #[] }, { accessFlags := 26, nameIndex := 176, descriptorIndex := 173, attributes := #[] }, { accessFlags := 8, nameIndex := 344, descriptorIndex := 339, attributes := #[] }, { accessFlags := 8, nameIndex := 338, descriptorIndex := 339, attributes := #[] }, { accessFlags := 4120, nameIndex := 245, descriptorIndex := 246, attributes := #[] }])
  fields := #[{ name := "E", type := .double, accessFlags := 25, slot := 0, constantValue := 0 }, { name := "PI", type := .double, accessFlags := 25, slot := 1, constantValue := 0 }, { name := "TAU", type := .double, accessFlags := 25, slot := 2, constantValue := 0 }, { name := "DEGREES_TO_RADIANS", type := .double, accessFlags := 26, slot := 3, constantValue := 0 }, { name := "RADIANS_TO_DEGREES", type := .double, accessFlags := 26, slot := 4, constantValue := 0 }, { name := "negativeZeroFloatBits", type := .long, accessFlags := 26, slot := 5, constantValue := 0 }, { name := "negativeZeroDoubleBits", type := .long, accessFlags := 26, slot := 6, constantValue := 0 }, { name := "twoToTheDoubleScaleUp", type := .double, accessFlags := 8, slot := 7, constantValue := 0 }, { name := "twoToTheDoubleScaleDown", type := .double, accessFlags := 8, slot := 8, constantValue := 0 }, { name := "$assertionsDisabled", type := .boolean, accessFlags := 4120, slot := 9, constantValue := 0 }]
  methods := #[k2m0, k2m1, k2m2]
  instanceTypes := #[]
  staticTypes := #[.double, .double, .double, .double, .double, .long, .long, .double, .double, .boolean]
  resolved := Array.replicate 460 none
  statics := none }

def pool3 : Array CpInfo := pool [(1, .methodref 2 3), (0, .class_ 4), (0, .nameAndType 5 6), (0, u "java/lang/Object"), (0, u "<init>"), (0, u "()V"), (0, .fieldref 8 9), (0, .class_ 10), (0, .nameAndType 11 12), (0, u "com/example/valved/valved/admission/Entries"), (0, u "stamps"), (0, u "[J"), (0, .fieldref 8 14), (0, .nameAndType 15 12), (0, u "amounts"), (0, .fieldref 8 17), (0, .nameAndType 18 19), (0, u "mostKept"), (0, u "J"), (0, .fieldref 8 21), (0, .nameAndType 22 23), (0, u "size"), (0, u "I"), (0, .fieldref 8 25), (0, .nameAndType 26 19), (0, u "total"), (4, .methodref 8 32), (0, .nameAndType 33 34), (0, u "at"), (0, u "(I)I"), (0, .methodref 8 36), (0, .nameAndType 37 38), (0, u "newestStamp"), (0, u "()J"), (0, .methodref 8 40), (0, .nameAndType 41 42), (0, u "firstAtOrAfter"), (0, u "(J)I"), (0, .methodref 8 44), (0, .nameAndType 45 46), (0, u "stamp"), (0, u "(I)J"), (0, .methodref 8 48), (0, .nameAndType 49 50), (0, u "inOneSlot"), (0, u "(JJJ)Z"), (7, .methodref 59 60), (0, .class_ 61), (0, .nameAndType 62 63), (0, u "java/lang/Math"), (0, u "min"), (0, u "(JJ)J"), (0, .methodref 59 65), (0, .nameAndType 66 63), (0, u "floorDiv"), (0, .fieldref 8 68), (0, .nameAndType 69 23), (0, u "oldest"), (3, u "(J)V"), (2, u "removeOldest"), (2, u "()I"), (1, u "amount"), (0, u "add"), (0, u "(JJJ)V")] 5

def k3c0 : Code := { maxStack := 3, maxLocals := 3, code := prog_4_method_1_code, exceptionTable := #[], attributes := #[] }
def k3m0 : Method := { name := "<init>", desc := "(J)V", sig := { parameters := [.long], returnType := none }, accessFlags := 0, code := some k3c0 }
def k3c1 : Code := { maxStack := 1, maxLocals := 1, code := prog_4_method_2_code, exceptionTable := #[], attributes := #[] }
def k3m1 : Method := { name := "size", desc := "()I", sig := { parameters := [], returnType := some .int }, accessFlags := 0, code := some k3c1 }
def k3c2 : Code := { maxStack := 2, maxLocals := 1, code := prog_4_method_3_code, exceptionTable := #[], attributes := #[] }
def k3m2 : Method := { name := "total", desc := "()J", sig := { parameters := [], returnType := some .long }, accessFlags := 0, code := some k3c2 }
def k3c3 : Code := { maxStack := 3, maxLocals := 2, code := prog_4_method_6_code, exceptionTable := #[], attributes := #[] }
def k3m3 : Method := { name := "stamp", desc := "(I)J", sig := { parameters := [.int], returnType := some .long }, accessFlags := 0, code := some k3c3 }
def k3c4 : Code := { maxStack := 3, maxLocals := 2, code := prog_4_method_7_code, exceptionTable := #[], attributes := #[] }
def k3m4 : Method := { name := "amount", desc := "(I)J", sig := { parameters := [.int], returnType := some .long }, accessFlags := 0, code := some k3c4 }
def k3c5 : Code := { maxStack := 4, maxLocals := 1, code := prog_4_method_8_code, exceptionTable := #[], attributes := #[] }
def k3m5 : Method := { name := "newestStamp", desc := "()J", sig := { parameters := [], returnType := some .long }, accessFlags := 0, code := some k3c5 }
def k3c6 : Code := { maxStack := 6, maxLocals := 10, code := prog_4_method_9_code, exceptionTable := #[], attributes := #[] }
def k3m6 : Method := { name := "add", desc := "(JJJ)V", sig := { parameters := [.long, .long, .long], returnType := none }, accessFlags := 0, code := some k3c6 }
def k3c7 : Code := { maxStack := 6, maxLocals := 6, code := prog_4_method_10_code, exceptionTable := #[], attributes := #[] }
def k3m7 : Method := { name := "inOneSlot", desc := "(JJJ)Z", sig := { parameters := [.long, .long, .long], returnType := some .boolean }, accessFlags := 10, code := some k3c7 }
def k3c8 : Code := { maxStack := 5, maxLocals := 1, code := prog_4_method_12_code, exceptionTable := #[], attributes := #[] }
def k3m8 : Method := { name := "removeOldest", desc := "()V", sig := { parameters := [], returnType := none }, accessFlags := 0, code := some k3c8 }
def k3c9 : Code := { maxStack := 4, maxLocals := 6, code := prog_4_method_13_code, exceptionTable := #[], attributes := #[] }
def k3m9 : Method := { name := "firstAtOrAfter", desc := "(J)I", sig := { parameters := [.long], returnType := some .int }, accessFlags := 0, code := some k3c9 }
def k3c10 : Code := { maxStack := 3, maxLocals := 2, code := prog_4_method_16_code, exceptionTable := #[], attributes := #[] }
def k3m10 : Method := { name := "at", desc := "(I)I", sig := { parameters := [.int], returnType := some .int }, accessFlags := 2, code := some k3c10 }
/-- com/example/valved/valved/admission/Entries -/
def k3 : Class := { plain "com/example/valved/valved/admission/Entries" (some 0) with
  accessFlags := 48
  interfaces := #[]
  cf := some (fileOf pool3 8 #[] #[{ accessFlags := 0, nameIndex := 5, descriptorIndex := 73, attributes := #[] }, { accessFlags := 0, nameIndex := 22, descriptorIndex := 79, attributes := #[] }, { accessFlags := 0, nameIndex := 26, descriptorIndex := 38, attributes := #[] }, { accessFlags := 0, nameIndex := 45, descriptorIndex := 46, attributes := #[] }, { accessFlags := 0, nameIndex := 81, descriptorIndex := 46, attributes := #[] }, { accessFlags := 0, nameIndex := 37, descriptorIndex := 38, attributes := #[] }, { accessFlags := 0, nameIndex := 82, descriptorIndex := 83, attributes := #[] }, { accessFlags := 10, nameIndex := 49, descriptorIndex := 50, attributes := #[] }, { accessFlags := 0, nameIndex := 76, descriptorIndex := 6, attributes := #[] }, { accessFlags := 0, nameIndex := 41, descriptorIndex := 42, attributes := #[] }, { accessFlags := 2, nameIndex := 33, descriptorIndex := 34, attributes := #[] }] 48 2 #[] #[{ accessFlags := 18, nameIndex := 18, descriptorIndex := 19, attributes := #[] }, { accessFlags := 2, nameIndex := 11, descriptorIndex := 12, attributes := #[] }, { accessFlags := 2, nameIndex := 15, descriptorIndex := 12, attributes := #[] }, { accessFlags := 2, nameIndex := 69, descriptorIndex := 23, attributes := #[] }, { accessFlags := 2, nameIndex := 22, descriptorIndex := 23, attributes := #[] }, { accessFlags := 2, nameIndex := 26, descriptorIndex := 19, attributes := #[] }])
  fields := #[{ name := "mostKept", type := .long, accessFlags := 18, slot := 0, constantValue := 0 }, { name := "stamps", type := (.array .long), accessFlags := 2, slot := 1, constantValue := 0 }, { name := "amounts", type := (.array .long), accessFlags := 2, slot := 2, constantValue := 0 }, { name := "oldest", type := .int, accessFlags := 2, slot := 3, constantValue := 0 }, { name := "size", type := .int, accessFlags := 2, slot := 4, constantValue := 0 }, { name := "total", type := .long, accessFlags := 2, slot := 5, constantValue := 0 }]
  methods := #[k3m0, k3m1, k3m2, k3m3, k3m4, k3m5, k3m6, k3m7, k3m8, k3m9, k3m10]
  instanceTypes := #[.long, (.array .long), (.array .long), .int, .int, .long]
  staticTypes := #[]
  resolved := Array.replicate 89 none
  statics := none }

def pool4 : Array CpInfo := pool [(1, u "java/lang/Cloneable"), (0, .class_ 1), (0, u "java/lang/Object"), (0, .class_ 3)] 3

/-- java/lang/Cloneable -/
def k4 : Class := { plain "java/lang/Cloneable" (some 0) with
  accessFlags := 1537
  interfaces := #[]
  cf := some (fileOf pool4 2 #[] #[] 1537 4 #[] #[])
  fields := #[]
  methods := #[]
  instanceTypes := #[]
  staticTypes := #[]
  resolved := Array.replicate 8 none
  statics := none }

def pool5 : Array CpInfo := pool [(1, u "java/io/Serializable"), (0, .class_ 1), (0, u "java/lang/Object"), (0, .class_ 3)] 3

/-- java/io/Serializable -/
def k5 : Class := { plain "java/io/Serializable" (some 0) with
  accessFlags := 1537
  interfaces := #[]
  cf := some (fileOf pool5 2 #[] #[] 1537 4 #[] #[])
  fields := #[]
  methods := #[]
  instanceTypes := #[]
  staticTypes := #[]
  resolved := Array.replicate 8 none
  statics := none }

/-- the primitive byte -/
def k6 : Class := { plain "byte" none with kind := .primitive 'B', accessFlags := 0x411 }
/-- [B -/
def k7 : Class := { plain "[B" (some 0) with kind := .array 6 .byte, interfaces := #[4, 5], accessFlags := 1041 }

/-- the primitive int -/
def k8 : Class := { plain "int" none with kind := .primitive 'I', accessFlags := 0x411 }
/-- [I -/
def k9 : Class := { plain "[I" (some 0) with kind := .array 8 .int, interfaces := #[4, 5], accessFlags := 1041 }

/-- the primitive long -/
def k10 : Class := { plain "long" none with kind := .primitive 'J', accessFlags := 0x411 }
/-- [J -/
def k11 : Class := { plain "[J" (some 0) with kind := .array 10 .long, interfaces := #[4, 5], accessFlags := 1041 }

def heap : Heap := #[]
def classes : Array Class := #[k0, k1, k2, k3, k4, k5, k6, k7, k8, k9, k10, k11]
def interned : List (Array UInt16 × Addr) := []
def slotsUsed : Nat := 0
def theMethod : MethodId := ⟨1, 1⟩
def args0 : Array Value := #[.long 5, .long 3, .long 2, .long 4, .long 9]
def aboutOver (below : List Frame) : State where
  vm := { classes := classes, interned := interned.toArray }
  heap := heap
  slotsUsed := slotsUsed
  threads := #[{ frames := .invoking theMethod args0 :: below }]
def below0 : List Frame := [.native { method := ⟨0, 0⟩, args := #[] }]
def about1 : State := aboutOver below0
def p0 : Program := .bare "" "" ""
def e0 : Env := launch0.env 0 0 0
theorem w_frames : about1.frames = Frame.invoking theMethod args0 :: below0 := rfl
set_option maxRecDepth 65536 in
theorem w_args : argsFit about1.vm theMethod args0 = true := by decide +kernel
set_option maxRecDepth 65536 in
theorem w_heap : heapFits about1 = true := by decide +kernel
set_option maxRecDepth 65536 in
theorem w_runnable : about1.curStatus? = some .runnable := by decide +kernel
set_option maxRecDepth 65536 in
theorem w_alone : about1.alone = true := by decide +kernel
set_option maxRecDepth 65536 in
theorem w_named : about1.methodNamed? x = some theMethod := by decide +kernel
set_option maxRecDepth 65536 in
theorem w_hears : about1.hears theMethod below0 = true := by decide +kernel
set_option maxRecDepth 65536 in
theorem w_ripe : about1.ripe theMethod args0 below0 = true := by decide +kernel
theorem w_running : about1.status = .running := rfl
set_option maxRecDepth 65536 in
theorem w_room : about1.hasRoom e0.platform room_1 = true :=
  launch0.hasRoom_least _ room_1 (by decide +kernel) (by decide +kernel) (by decide +kernel) (by decide +kernel) (by decide +kernel) (by decide +kernel)
theorem allAtoms_all (ts : List Jvm.Cond) (a : Array Jvm.Value) (st : Jvm.State) : (allAtoms ts).before a st = ts.all (fun c => c.before a st) := by
  induction ts with
  | nil => rfl
  | cons c t ih =>
    show (Jvm.Cond.and c (allAtoms t)).before a st = _
    rw [Jvm.Cond.before_and, ih, List.all_cons]
def words1 : List Jvm.Cond := Jvm.Cond.code x code maxLocals ret :: tables_1
/-- a 'code' word, met by the world's own term for the bytes: nothing is compared byte by byte -/
theorem code_word {y : MethodName} {bytes : ByteArray} {mx : Nat} {rt : Option FieldType} {a : Array Value} {s : State} {m : MethodId} {meth : Method} {c : Code} (h1 : s.methodNamed? y = some m) (h2 : s.vm.method? m = some meth) (h3 : meth.code = some c) (h4 : c.code = bytes)
    (h5 : (c.maxLocals == mx && c.exceptionTable.isEmpty && decide (c.maxStack ≤ mostOperands) && decide (meth.sig.returnType = rt) && !meth.locks && decide (parseMethodDescriptor y.desc = some meth.sig)) = true) : (Jvm.Cond.code y bytes mx rt).before a s = true := by
  simp only [Bool.and_eq_true, beq_iff_eq, Bool.not_eq_true', decide_eq_true_eq] at h5
  obtain ⟨⟨⟨⟨⟨g1, g2⟩, g3⟩, g4⟩, g5⟩, g6⟩ := h5
  simp [Cond.before, Cond.holds, Cond.value, h1, h2, h3, h4, g1, g2, g3, g4, g5, g6]
def isCode : Jvm.Cond → Bool
  | .code _ _ _ _ => true
  | _ => false
theorem all_split {L : List Jvm.Cond} {P : Jvm.Cond → Bool} (h1 : L.all (fun c => isCode c || P c) = true) (h2 : ∀ c ∈ L.filter isCode, P c = true) : L.all P = true := by
  refine List.all_eq_true.mpr fun c hc => ?_
  have h := List.all_eq_true.mp h1 c hc
  rcases Bool.eq_false_or_eq_true (isCode c) with hi | hi
  · exact h2 c (List.mem_filter.mpr ⟨hc, hi⟩)
  · simpa [hi] using h
set_option maxRecDepth 65536 in
theorem w_c0 : (Jvm.Cond.code x code maxLocals ret).before args0 about1 = true := code_word (m := ⟨1, 1⟩) (meth := k1m1) (c := k1c1) (by decide +kernel) rfl rfl rfl (by decide +kernel)
set_option maxRecDepth 65536 in
theorem w_c1 : (Jvm.Cond.code ({ cls := "java/lang/Math", name := "min", desc := "(JJ)J" } : Jvm.MethodName) jdk_29_method_70_code (4 : Nat) (Option.some Jvm.ClassFile.FieldType.long)).before args0 about1 = true := code_word (m := ⟨2, 2⟩) (meth := k2m2) (c := k2c2) (by decide +kernel) rfl rfl rfl (by decide +kernel)
set_option maxRecDepth 65536 in
theorem w_c2 : (Jvm.Cond.code ({ cls := "com/example/valved/valved/admission/Entries", name := "<init>", desc := "(J)V" } : Jvm.MethodName) prog_4_method_1_code (3 : Nat) (Option.none : Option Jvm.ClassFile.FieldType)).before args0 about1 = true := code_word (m := ⟨3, 0⟩) (meth := k3m0) (c := k3c0) (by decide +kernel) rfl rfl rfl (by decide +kernel)
set_option maxRecDepth 65536 in
theorem w_c3 : (Jvm.Cond.code ({ cls := "java/lang/Object", name := "<init>", desc := "()V" } : Jvm.MethodName) object_method_1_code (1 : Nat) (Option.none : Option Jvm.ClassFile.FieldType)).before args0 about1 = true := code_word (m := ⟨0, 0⟩) (meth := k0m0) (c := k0c0) (by decide +kernel) rfl rfl rfl (by decide +kernel)
set_option maxRecDepth 65536 in
theorem w_c4 : (Jvm.Cond.code ({ cls := "com/example/valved/valved/admission/Entries", name := "add", desc := "(JJJ)V" } : Jvm.MethodName) prog_4_method_9_code (10 : Nat) (Option.none : Option Jvm.ClassFile.FieldType)).before args0 about1 = true := code_word (m := ⟨3, 6⟩) (meth := k3m6) (c := k3c6) (by decide +kernel) rfl rfl rfl (by decide +kernel)
set_option maxRecDepth 65536 in
theorem w_c5 : (Jvm.Cond.code ({ cls := "com/example/valved/valved/admission/Entries", name := "firstAtOrAfter", desc := "(J)I" } : Jvm.MethodName) prog_4_method_13_code (6 : Nat) (Option.some Jvm.ClassFile.FieldType.int)).before args0 about1 = true := code_word (m := ⟨3, 9⟩) (meth := k3m9) (c := k3c9) (by decide +kernel) rfl rfl rfl (by decide +kernel)
set_option maxRecDepth 65536 in
theorem w_c6 : (Jvm.Cond.code ({ cls := "com/example/valved/valved/admission/Entries", name := "at", desc := "(I)I" } : Jvm.MethodName) prog_4_method_16_code (2 : Nat) (Option.some Jvm.ClassFile.FieldType.int)).before args0 about1 = true := code_word (m := ⟨3, 10⟩) (meth := k3m10) (c := k3c10) (by decide +kernel) rfl rfl rfl (by decide +kernel)
set_option maxRecDepth 65536 in
theorem w_c7 : (Jvm.Cond.code ({ cls := "com/example/valved/valved/admission/Entries", name := "newestStamp", desc := "()J" } : Jvm.MethodName) prog_4_method_8_code (1 : Nat) (Option.some Jvm.ClassFile.FieldType.long)).before args0 about1 = true := code_word (m := ⟨3, 5⟩) (meth := k3m5) (c := k3c5) (by decide +kernel) rfl rfl rfl (by decide +kernel)
set_option maxRecDepth 65536 in
theorem w_c8 : (Jvm.Cond.code ({ cls := "com/example/valved/valved/admission/Entries", name := "stamp", desc := "(I)J" } : Jvm.MethodName) prog_4_method_6_code (2 : Nat) (Option.some Jvm.ClassFile.FieldType.long)).before args0 about1 = true := code_word (m := ⟨3, 3⟩) (meth := k3m3) (c := k3c3) (by decide +kernel) rfl rfl rfl (by decide +kernel)
set_option maxRecDepth 65536 in
theorem w_c9 : (Jvm.Cond.code ({ cls := "com/example/valved/valved/admission/Entries", name := "inOneSlot", desc := "(JJJ)Z" } : Jvm.MethodName) prog_4_method_10_code (6 : Nat) (Option.some Jvm.ClassFile.FieldType.boolean)).before args0 about1 = true := code_word (m := ⟨3, 7⟩) (meth := k3m7) (c := k3c7) (by decide +kernel) rfl rfl rfl (by decide +kernel)
set_option maxRecDepth 65536 in
theorem w_c10 : (Jvm.Cond.code ({ cls := "java/lang/Math", name := "floorDiv", desc := "(JJ)J" } : Jvm.MethodName) jdk_29_method_49_code (6 : Nat) (Option.some Jvm.ClassFile.FieldType.long)).before args0 about1 = true := code_word (m := ⟨2, 1⟩) (meth := k2m1) (c := k2c1) (by decide +kernel) rfl rfl rfl (by decide +kernel)
set_option maxRecDepth 65536 in
theorem w_c11 : (Jvm.Cond.code ({ cls := "com/example/valved/valved/admission/Entries", name := "removeOldest", desc := "()V" } : Jvm.MethodName) prog_4_method_12_code (1 : Nat) (Option.none : Option Jvm.ClassFile.FieldType)).before args0 about1 = true := code_word (m := ⟨3, 8⟩) (meth := k3m8) (c := k3c8) (by decide +kernel) rfl rfl rfl (by decide +kernel)
set_option maxRecDepth 65536 in
theorem w_c12 : (Jvm.Cond.code ({ cls := "com/example/valved/valved/admission/Entries", name := "total", desc := "()J" } : Jvm.MethodName) prog_4_method_3_code (1 : Nat) (Option.some Jvm.ClassFile.FieldType.long)).before args0 about1 = true := code_word (m := ⟨3, 2⟩) (meth := k3m2) (c := k3c2) (by decide +kernel) rfl rfl rfl (by decide +kernel)
set_option maxRecDepth 65536 in
theorem w_c13 : (Jvm.Cond.code ({ cls := "com/example/valved/valved/admission/Entries", name := "size", desc := "()I" } : Jvm.MethodName) prog_4_method_2_code (1 : Nat) (Option.some Jvm.ClassFile.FieldType.int)).before args0 about1 = true := code_word (m := ⟨3, 1⟩) (meth := k3m1) (c := k3c1) (by decide +kernel) rfl rfl rfl (by decide +kernel)
set_option maxRecDepth 65536 in
theorem w_c14 : (Jvm.Cond.code ({ cls := "com/example/valved/valved/admission/Entries", name := "amount", desc := "(I)J" } : Jvm.MethodName) prog_4_method_7_code (2 : Nat) (Option.some Jvm.ClassFile.FieldType.long)).before args0 about1 = true := code_word (m := ⟨3, 4⟩) (meth := k3m4) (c := k3c4) (by decide +kernel) rfl rfl rfl (by decide +kernel)
def codes1 : List Jvm.Cond := [Jvm.Cond.code x code maxLocals ret, Jvm.Cond.code ({ cls := "java/lang/Math", name := "min", desc := "(JJ)J" } : Jvm.MethodName) jdk_29_method_70_code (4 : Nat) (Option.some Jvm.ClassFile.FieldType.long), Jvm.Cond.code ({ cls := "com/example/valved/valved/admission/Entries", name := "<init>", desc := "(J)V" } : Jvm.MethodName) prog_4_method_1_code (3 : Nat) (Option.none : Option Jvm.ClassFile.FieldType), Jvm.Cond.code ({ cls := "java/lang/Object", name := "<init>", desc := "()V" } : Jvm.MethodName) object_method_1_code (1 : Nat) (Option.none : Option Jvm.ClassFile.FieldType), Jvm.Cond.code ({ cls := "com/example/valved/valved/admission/Entries", name := "add", desc := "(JJJ)V" } : Jvm.MethodName) prog_4_method_9_code (10 : Nat) (Option.none : Option Jvm.ClassFile.FieldType), Jvm.Cond.code ({ cls := "com/example/valved/valved/admission/Entries", name := "firstAtOrAfter", desc := "(J)I" } : Jvm.MethodName) prog_4_method_13_code (6 : Nat) (Option.some Jvm.ClassFile.FieldType.int), Jvm.Cond.code ({ cls := "com/example/valved/valved/admission/Entries", name := "at", desc := "(I)I" } : Jvm.MethodName) prog_4_method_16_code (2 : Nat) (Option.some Jvm.ClassFile.FieldType.int), Jvm.Cond.code ({ cls := "com/example/valved/valved/admission/Entries", name := "newestStamp", desc := "()J" } : Jvm.MethodName) prog_4_method_8_code (1 : Nat) (Option.some Jvm.ClassFile.FieldType.long), Jvm.Cond.code ({ cls := "com/example/valved/valved/admission/Entries", name := "stamp", desc := "(I)J" } : Jvm.MethodName) prog_4_method_6_code (2 : Nat) (Option.some Jvm.ClassFile.FieldType.long), Jvm.Cond.code ({ cls := "com/example/valved/valved/admission/Entries", name := "inOneSlot", desc := "(JJJ)Z" } : Jvm.MethodName) prog_4_method_10_code (6 : Nat) (Option.some Jvm.ClassFile.FieldType.boolean), Jvm.Cond.code ({ cls := "java/lang/Math", name := "floorDiv", desc := "(JJ)J" } : Jvm.MethodName) jdk_29_method_49_code (6 : Nat) (Option.some Jvm.ClassFile.FieldType.long), Jvm.Cond.code ({ cls := "com/example/valved/valved/admission/Entries", name := "removeOldest", desc := "()V" } : Jvm.MethodName) prog_4_method_12_code (1 : Nat) (Option.none : Option Jvm.ClassFile.FieldType), Jvm.Cond.code ({ cls := "com/example/valved/valved/admission/Entries", name := "total", desc := "()J" } : Jvm.MethodName) prog_4_method_3_code (1 : Nat) (Option.some Jvm.ClassFile.FieldType.long), Jvm.Cond.code ({ cls := "com/example/valved/valved/admission/Entries", name := "size", desc := "()I" } : Jvm.MethodName) prog_4_method_2_code (1 : Nat) (Option.some Jvm.ClassFile.FieldType.int), Jvm.Cond.code ({ cls := "com/example/valved/valved/admission/Entries", name := "amount", desc := "(I)J" } : Jvm.MethodName) prog_4_method_7_code (2 : Nat) (Option.some Jvm.ClassFile.FieldType.long)]
set_option maxRecDepth 65536 in
theorem codes_eq : words1.filter isCode = codes1 := rfl
theorem w_codes : ∀ c ∈ words1.filter isCode, c.before args0 about1 = true := by
  rw [codes_eq]
  intro c hc
  simp only [codes1, List.mem_cons, List.not_mem_nil, or_false] at hc
  rcases hc with rfl | rfl | rfl | rfl | rfl | rfl | rfl | rfl | rfl | rfl | rfl | rfl | rfl | rfl | rfl
  · exact w_c0
  · exact w_c1
  · exact w_c2
  · exact w_c3
  · exact w_c4
  · exact w_c5
  · exact w_c6
  · exact w_c7
  · exact w_c8
  · exact w_c9
  · exact w_c10
  · exact w_c11
  · exact w_c12
  · exact w_c13
  · exact w_c14
set_option maxRecDepth 65536 in
theorem w_t1 : (words1.take 24).all (fun c => isCode c || c.before args0 about1) = true := by decide +kernel
set_option maxRecDepth 65536 in
theorem w_t2 : ((words1.drop 24).take 24).all (fun c => isCode c || c.before args0 about1) = true := by decide +kernel
set_option maxRecDepth 65536 in
theorem w_t3 : (((words1.drop 24).drop 24).take 24).all (fun c => isCode c || c.before args0 about1) = true := by decide +kernel
set_option maxRecDepth 65536 in
theorem w_t4 : (((words1.drop 24).drop 24).drop 24).all (fun c => isCode c || c.before args0 about1) = true := by decide +kernel
theorem w_tables : (allAtoms (Jvm.Cond.code x code maxLocals ret :: tables_1)).before args0 about1 = true := by
  rw [allAtoms_all]
  show words1.all (fun c => c.before args0 about1) = true
  refine all_split ?_ w_codes
  rw [← List.take_append_drop 24 words1, List.all_append, w_t1, ← List.take_append_drop 24 (words1.drop 24), List.all_append, w_t2, ← List.take_append_drop 24 ((words1.drop 24).drop 24), List.all_append, w_t3, w_t4]
  rfl
set_option maxRecDepth 65536 in
theorem w_case : (Jvm.Cond.and given_1 narrow_1).before args0 about1 = true := by decide +kernel
theorem w_applies : (headSpec (Jvm.Cond.code x code maxLocals ret :: tables_1) room_1).applies x e0.platform about1 = true :=
  (Spec.applies_iff w_frames).mpr ⟨w_running, w_runnable, w_alone, w_named, w_hears, w_ripe, w_room, w_tables⟩
theorem atStart : AtStart classFile x code maxLocals ret World_1 tables_1 room_1 Calls_1 rest_1 Pre_1 launch0 p0 e0 about1 theMethod args0 below0 :=
  ⟨lists_1, trivial, launch0.admits_env _ _ _, launch0.least_env, fairChoices_fair.cas, fairChoices_fair.clock, w_frames, w_args, w_heap, w_applies, trivial, trivial, w_case⟩
end start1
theorem witness_1 : WitnessClaimed_1 := ⟨start1.p0, start1.e0, start1.about1, start1.theMethod, start1.args0, start1.below0, start1.atStart⟩
end Jvm.Pilot.@@N@@
