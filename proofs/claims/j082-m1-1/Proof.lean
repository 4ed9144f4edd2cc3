import JvmDerived
import JvmDerived.Pilot.@@N@@Statement
import JvmDerived.Pilot.@@N@@Code
set_option linter.unusedVariables false
set_option linter.unusedSimpArgs false
namespace Jvm.RoadKit
open Sem ClassFile Op Lib Jvm.Stand Jvm.Free Jvm.LawKit
section New
variable {p : Program} {l : Launch} {e : Env} {R : Room} {s : State} {m : MethodId} {args : Array Value} {below : List Frame} {meth : Method} {c : Code} {T : State} {locs : List Loc} {cells slots : Nat}
theorem retI (X : Stand p l e R s m args below meth c T locs cells slots) (hx : p.tables.exec = Jvm.exec) {pc : Nat} {Ls : Array Slot} {z : Int32} {rest : List Value} (hret : meth.sig.returnType = some .int) (hd : decode c.code pc = .ok (.ireturn, 1)) {fs : List Frame}
    (hl : ∀ (f : JFrame) (acts : List Action), f.method = m → f.locked = none → f.entered = [] → (doReturn e (T.setTop f) acts (some (.int z))).1 = T.setFrames fs) : Steps p.tables e below (T.setTop (mkF m pc Ls (.int z :: rest))) (T.setFrames fs) := by
  have hm' : T.vm.method? m = some meth := X.method'
  have hn : narrow .int (.int z) = .int z := rfl
  show Steps p.tables e below (T.setTop { method := m, pc := pc, locals := Ls, stack := _ :: rest, locked := none }) _
  jvm_step X.here [X.here.top, hx, hd, hm', hret, hn]
  first | (intro acts; rw [hl _ acts rfl rfl rfl]) | rw [hl _ _ rfl rfl rfl]
  exact Steps.refl _
end New
end Jvm.RoadKit
namespace Jvm.Pilot.@@N@@
open Jvm Jvm.ClassFile Sem Op Lib Jvm.Free Jvm.Stand Jvm.LawKit Jvm.RoadKit Bundle Jvm.Pilot.@@N@@.Jvm.D
/-! OWN KIT: a walk told forwards. `WGo T f`: from the frame f over the state T the body runs to its return, and what it returns meets Q. -/
section OwnKit
variable {p : Program} {l : Launch} {e : Env} {R : Room} {s : State} {m : MethodId} {args : Array Value} {below : List Frame} {meth : Method} {c : Code} {T : State} {locs : List Loc} {cells slots : Nat} {Z : State} {a0 : Array Value} {h : Heap} {kc ks : Nat} {Q : Option Value → Heap → List Loc → Prop} {pc pc' : Nat} {Ls Ls' : Array Slot} {st : List Value} {x y : Int32} {u w : Int64}
def WGo (p : Program) (e : Env) (below : List Frame) (s : State) (kc ks : Nat) (Q : Option Value → Heap → List Loc → Prop) (T : State) (f : JFrame) : Prop :=
  ∃ s₂ o, Steps p.tables e below (T.setTop f) s₂ ∧ s₂.status = .running ∧ Ended s₂ below o ∧ ∃ v L, o = .returned v ∧ Q v s₂.heap L ∧ FrameEnd s o s₂ L kc ks
theorem WGo.go {T' : State} {f f' : JFrame} (k : ∀ t, Steps p.tables e below (T'.setTop f') t → Steps p.tables e below (T.setTop f) t) (r : WGo p e below s kc ks Q T' f') : WGo p e below s kc ks Q T f := by
  obtain ⟨s₂, o, h1, r⟩ := r
  exact ⟨s₂, o, k _ h1, r⟩
theorem WGo.cast {f f' : JFrame} (q : f = f') (r : WGo p e below s kc ks Q T f') : WGo p e below s kc ks Q T f := q ▸ r
theorem WGo.mono {f : JFrame} {Q' : Option Value → Heap → List Loc → Prop} (r : WGo p e below s kc ks Q' T f) (q : ∀ v h L, Q' v h L → Q v h L) : WGo p e below s kc ks Q T f := by
  obtain ⟨s₂, o, h1, h2, h3, v, L, h4, h5, h6⟩ := r
  exact ⟨s₂, o, h1, h2, h3, v, L, h4, q _ _ _ h5, h6⟩
/-- a body's contract -/
def WCt (l : Launch) (Z : State) (y : MethodName) (bytes : ByteArray) (maxL : Nat) (ret : Option FieldType) (rm : Room) (as' : Array Value) (h0 : Heap) (Q : Option Value → Heap → List Loc → Prop) : Prop :=
  ∀ ws : List Jvm.Cond, MetFree l y (head1 (Jvm.Cond.code y bytes maxL ret :: ws) rm) (fun a U => a = as' ∧ Z.Warmed39 U.vm ∧ U.heap = h0) (fun _ _ _ _ _ => True) (fun _ U o U' => ∃ v L, o = .returned v ∧ Q v U'.heap L ∧ FrameEnd U o U' L rm.cells rm.slots)
theorem WCt.of {y : MethodName} {bytes : ByteArray} {maxL : Nat} {ret : Option FieldType} {rm : Room} {as' : Array Value} {h0 : Heap} (hpl : plainFor y = true)
    (body : ∀ (p : Program) (e : Env) (s : State) (m : MethodId) (below : List Frame) (meth : Method) (c : Code) (T : State), p.tables.exec = Jvm.exec → c.code = bytes → c.maxLocals = maxL → s.vm.findClass y.cls = some m.cls → meth.name = y.name → meth.sig.returnType = ret → meth.locks = false → Z.Warmed39 s.vm → s.heap = h0 →
      Stand p l e rm s m as' below meth c T [] 0 0 → T.heap = h0 → WGo p e below s rm.cells rm.slots Q T (entryFrame m as' maxL)) : WCt l Z y bytes maxL ret rm as' h0 Q := by
  intro ws
  refine MetFree.of_bodySF hpl hisR ?_
  intro p e s m args below meth c s₁ Bd hml0 hP hK
  obtain ⟨rfl, hZ, hh⟩ := hP
  have X0 : Stand p l e rm s m _ below meth c s₁ [] 0 0 := Stand.of_body Bd
  exact body p e s m below meth c s₁ Bd.exec Bd.bytes hml0 (findClass_of_methodNamed Bd.named) (name_of_methodNamed Bd.named Bd.method).1 Bd.returns (BodyLoose.notSynchronized Bd) hZ hh X0 (by rw [← hh, Bd.state]; rfl)
/-! returns -/
theorem g_ret0 (X : Stand p l e R s m args below meth c T locs cells slots) (hx : p.tables.exec = Jvm.exec) (hret : meth.sig.returnType = none) (hlk : meth.locks = false) (hd : decode c.code pc = .ok (.return_, 1)) (hc : cells ≤ kc) (hs : slots ≤ ks) (q : Q none T.heap locs) : WGo p e below s kc ks Q T (mkF m pc Ls []) := by
  obtain ⟨fs, hr, hrun, hended, hW, hsame⟩ := X.leave (v := none) (fun _ => rfl) hlk
  exact ⟨_, _, X.returnOut hx hret hd hr, hrun, hended, _, _, rfl, q, ⟨_, rfl⟩, hW, hsame.mono hc hs⟩
theorem g_retI (X : Stand p l e R s m args below meth c T locs cells slots) (hx : p.tables.exec = Jvm.exec) (hret : meth.sig.returnType = some .int) (hlk : meth.locks = false) (hd : decode c.code pc = .ok (.ireturn, 1)) (hc : cells ≤ kc) (hs : slots ≤ ks) (q : Q (some (.int x)) T.heap locs) : WGo p e below s kc ks Q T (mkF m pc Ls (.int x :: st)) := by
  obtain ⟨fs, hr, hrun, hended, hW, hsame⟩ := X.leave (v := some (.int x)) (fun h => by rw [hret] at h; cases h) hlk
  exact ⟨_, _, retI X hx hret hd hr, hrun, hended, _, _, rfl, q, ⟨_, rfl⟩, hW, hsame.mono hc hs⟩
theorem g_retN {t : FieldType} (X : Stand p l e R s m args below meth c T locs cells slots) (hx : p.tables.exec = Jvm.exec) (hret : meth.sig.returnType = some t) (ht : t = .boolean ∨ t = .byte ∨ t = .char ∨ t = .short) (hlk : meth.locks = false) (hd : decode c.code pc = .ok (.ireturn, 1)) (hc : cells ≤ kc) (hs : slots ≤ ks) (q : Q (some (.int (nar t x))) T.heap locs) : WGo p e below s kc ks Q T (mkF m pc Ls (.int x :: st)) := by
  obtain ⟨fs, hr, hrun, hended, hW, hsame⟩ := X.leave (v := some (.int (nar t x))) (fun h => by rw [hret] at h; cases h) hlk
  exact ⟨_, _, retN X hx hret ht hd hr, hrun, hended, _, _, rfl, q, ⟨_, rfl⟩, hW, hsame.mono hc hs⟩
theorem g_retJ (X : Stand p l e R s m args below meth c T locs cells slots) (hx : p.tables.exec = Jvm.exec) (hret : meth.sig.returnType = some .long) (hlk : meth.locks = false) (hd : decode c.code pc = .ok (.lreturn, 1)) (hc : cells ≤ kc) (hs : slots ≤ ks) (q : Q (some (.long u)) T.heap locs) : WGo p e below s kc ks Q T (mkF m pc Ls [.long u]) := by
  obtain ⟨fs, hr, hrun, hended, hW, hsame⟩ := X.leave (v := some (.long u)) (fun h => by rw [hret] at h; cases h) hlk
  exact ⟨_, _, X.lreturnOut hx hret hd hr, hrun, hended, _, _, rfl, q, ⟨_, rfl⟩, hW, hsame.mono hc hs⟩
theorem g_retA {t : FieldType} {v : Value} (X : Stand p l e R s m args below meth c T locs cells slots) (hx : p.tables.exec = Jvm.exec) (hv : v.isRef = true) (hret : meth.sig.returnType = some t) (ht : t.isReference = true) (hlk : meth.locks = false) (hd : decode c.code pc = .ok (.areturn, 1)) (hc : cells ≤ kc) (hs : slots ≤ ks) (q : Q (some v) T.heap locs) : WGo p e below s kc ks Q T (mkF m pc Ls [v]) := by
  obtain ⟨fs, hr, hrun, hended, hW, hsame⟩ := X.leave (v := some v) (fun h => by rw [hret] at h; cases h) hlk
  exact ⟨_, _, X.areturnOut hx hv hret ht hd hr, hrun, hended, _, _, rfl, q, ⟨_, rfl⟩, hW, hsame.mono hc hs⟩
/-! loads and stores of locals -/
theorem g_iloadN (X : Stand p l e R s m args below meth c T locs cells slots) (hx : p.tables.exec = Jvm.exec) {k : Fin 4} (hd : decode c.code pc = .ok (.iload_n k, 1)) (hl : Ls[k.val]? = some (.val (.int x))) (hp : pc + 1 = pc') (r : WGo p e below s kc ks Q T (mkF m pc' Ls (.int x :: st))) : WGo p e below s kc ks Q T (mkF m pc Ls st) := by
  subst hp; exact r.go fun t k => XS.iloadN X.here hx rfl hd hl k
theorem g_iload (X : Stand p l e R s m args below meth c T locs cells slots) (hx : p.tables.exec = Jvm.exec) {k : Nat} (hd : decode c.code pc = .ok (.iload k, 2)) (hl : Ls[k]? = some (.val (.int x))) (hp : pc + 2 = pc') (r : WGo p e below s kc ks Q T (mkF m pc' Ls (.int x :: st))) : WGo p e below s kc ks Q T (mkF m pc Ls st) := by
  subst hp; exact r.go fun t k => XS.iload X.here hx rfl hd hl k
theorem g_lloadN (X : Stand p l e R s m args below meth c T locs cells slots) (hx : p.tables.exec = Jvm.exec) {k : Fin 4} (hd : decode c.code pc = .ok (.lload_n k, 1)) (hl : Ls[k.val]? = some (.val (.long u))) (hp : pc + 1 = pc') (r : WGo p e below s kc ks Q T (mkF m pc' Ls (.long u :: st))) : WGo p e below s kc ks Q T (mkF m pc Ls st) := by
  subst hp; exact r.go fun t k => XT.lloadN X.here hx rfl hd hl k
theorem g_lload (X : Stand p l e R s m args below meth c T locs cells slots) (hx : p.tables.exec = Jvm.exec) {k : Nat} (hd : decode c.code pc = .ok (.lload k, 2)) (hl : Ls[k]? = some (.val (.long u))) (hp : pc + 2 = pc') (r : WGo p e below s kc ks Q T (mkF m pc' Ls (.long u :: st))) : WGo p e below s kc ks Q T (mkF m pc Ls st) := by
  subst hp; exact r.go fun t k => XT.lload X.here hx rfl hd hl k
theorem g_aloadN {v : Value} (X : Stand p l e R s m args below meth c T locs cells slots) (hx : p.tables.exec = Jvm.exec) {k : Fin 4} (hd : decode c.code pc = .ok (.aload_n k, 1)) (hl : Ls[k.val]? = some (.val v)) (hv : v.isRef = true) (hp : pc + 1 = pc') (r : WGo p e below s kc ks Q T (mkF m pc' Ls (v :: st))) : WGo p e below s kc ks Q T (mkF m pc Ls st) := by
  subst hp; exact r.go fun t k => XS.aloadN X.here hx rfl hd hl hv k
theorem g_aload {v : Value} (X : Stand p l e R s m args below meth c T locs cells slots) (hx : p.tables.exec = Jvm.exec) {k : Nat} (hd : decode c.code pc = .ok (.aload k, 2)) (hl : Ls[k]? = some (.val v)) (hv : v.isRef = true) (hp : pc + 2 = pc') (r : WGo p e below s kc ks Q T (mkF m pc' Ls (v :: st))) : WGo p e below s kc ks Q T (mkF m pc Ls st) := by
  subst hp; exact r.go fun t k => XS.aload X.here hx rfl hd hl hv k
theorem g_istoreN (X : Stand p l e R s m args below meth c T locs cells slots) (hx : p.tables.exec = Jvm.exec) {k : Fin 4} (hd : decode c.code pc = .ok (.istore_n k, 1)) (hl : storeLocals Ls k.val (.int x) = some Ls') (hp : pc + 1 = pc') (r : WGo p e below s kc ks Q T (mkF m pc' Ls' st)) : WGo p e below s kc ks Q T (mkF m pc Ls (.int x :: st)) := by
  subst hp; exact r.go fun t k => XS.istoreN X.here hx rfl hd rfl hl k
theorem g_istore (X : Stand p l e R s m args below meth c T locs cells slots) (hx : p.tables.exec = Jvm.exec) {k : Nat} (hd : decode c.code pc = .ok (.istore k, 2)) (hl : storeLocals Ls k (.int x) = some Ls') (hp : pc + 2 = pc') (r : WGo p e below s kc ks Q T (mkF m pc' Ls' st)) : WGo p e below s kc ks Q T (mkF m pc Ls (.int x :: st)) := by
  subst hp; exact r.go fun t k => XS.istore X.here hx rfl hd rfl hl k
theorem g_lstoreN (X : Stand p l e R s m args below meth c T locs cells slots) (hx : p.tables.exec = Jvm.exec) {k : Fin 4} (hd : decode c.code pc = .ok (.lstore_n k, 1)) (hl : storeLocals Ls k.val (.long u) = some Ls') (hp : pc + 1 = pc') (r : WGo p e below s kc ks Q T (mkF m pc' Ls' st)) : WGo p e below s kc ks Q T (mkF m pc Ls (.long u :: st)) := by
  subst hp; exact r.go fun t k => XT.lstoreN X.here hx rfl hd rfl hl k
theorem g_lstore (X : Stand p l e R s m args below meth c T locs cells slots) (hx : p.tables.exec = Jvm.exec) {k : Nat} (hd : decode c.code pc = .ok (.lstore k, 2)) (hl : storeLocals Ls k (.long u) = some Ls') (hp : pc + 2 = pc') (r : WGo p e below s kc ks Q T (mkF m pc' Ls' st)) : WGo p e below s kc ks Q T (mkF m pc Ls (.long u :: st)) := by
  subst hp; exact r.go fun t k => XT.lstore X.here hx rfl hd rfl hl k
theorem g_astoreN {v : Value} (X : Stand p l e R s m args below meth c T locs cells slots) (hx : p.tables.exec = Jvm.exec) {k : Fin 4} (hd : decode c.code pc = .ok (.astore_n k, 1)) (hv : v.isRef = true) (hl : storeLocals Ls k.val v = some Ls') (hp : pc + 1 = pc') (r : WGo p e below s kc ks Q T (mkF m pc' Ls' st)) : WGo p e below s kc ks Q T (mkF m pc Ls (v :: st)) := by
  subst hp; exact r.go fun t k => XS.astoreN X.here hx rfl hd rfl hv hl k
theorem g_astore {v : Value} (X : Stand p l e R s m args below meth c T locs cells slots) (hx : p.tables.exec = Jvm.exec) {k : Nat} (hd : decode c.code pc = .ok (.astore k, 2)) (hv : v.isRef = true) (hl : storeLocals Ls k v = some Ls') (hp : pc + 2 = pc') (r : WGo p e below s kc ks Q T (mkF m pc' Ls' st)) : WGo p e below s kc ks Q T (mkF m pc Ls (v :: st)) := by
  subst hp; exact r.go fun t k => XS.astore X.here hx rfl hd rfl hv hl k
theorem g_iinc (X : Stand p l e R s m args below meth c T locs cells slots) (hx : p.tables.exec = Jvm.exec) {k : Nat} {cst : Int} {z : Int32} (hd : decode c.code pc = .ok (.iinc k cst, 3)) (hl : Ls[k]? = some (.val (.int x))) (hz : x + Int32.ofInt cst = z) (hl' : storeLocals Ls k (.int z) = some Ls') (hp : pc + 3 = pc') (r : WGo p e below s kc ks Q T (mkF m pc' Ls' st)) : WGo p e below s kc ks Q T (mkF m pc Ls st) := by
  subst hp hz; exact r.go fun t k => XS.iinc X.here hx rfl hd hl hl' k
/-! constants -/
theorem g_iconst (X : Stand p l e R s m args below meth c T locs cells slots) (hx : p.tables.exec = Jvm.exec) {i : Int} (hd : decode c.code pc = .ok (.iconst i, 1)) (hv : Int32.ofInt i = x) (hp : pc + 1 = pc') (r : WGo p e below s kc ks Q T (mkF m pc' Ls (.int x :: st))) : WGo p e below s kc ks Q T (mkF m pc Ls st) := by
  subst hp hv; exact r.go fun t k => XS.iconst X.here hx rfl hd k
theorem g_bipush (X : Stand p l e R s m args below meth c T locs cells slots) (hx : p.tables.exec = Jvm.exec) {i : Int} (hd : decode c.code pc = .ok (.bipush i, 2)) (hv : (Int8.ofInt i).toInt32 = x) (hp : pc + 2 = pc') (r : WGo p e below s kc ks Q T (mkF m pc' Ls (.int x :: st))) : WGo p e below s kc ks Q T (mkF m pc Ls st) := by
  subst hp hv; exact r.go fun t k => XS.bipush X.here hx rfl hd k
theorem g_sipush (X : Stand p l e R s m args below meth c T locs cells slots) (hx : p.tables.exec = Jvm.exec) {i : Int} (hd : decode c.code pc = .ok (.sipush i, 3)) (hv : (Int16.ofInt i).toInt32 = x) (hp : pc + 3 = pc') (r : WGo p e below s kc ks Q T (mkF m pc' Ls (.int x :: st))) : WGo p e below s kc ks Q T (mkF m pc Ls st) := by
  subst hp hv; exact r.go fun t k => XS.sipush X.here hx rfl hd k
theorem g_lconst (X : Stand p l e R s m args below meth c T locs cells slots) (hx : p.tables.exec = Jvm.exec) {i : Fin 2} (hd : decode c.code pc = .ok (.lconst i, 1)) (hv : Int64.ofNat i = u) (hp : pc + 1 = pc') (r : WGo p e below s kc ks Q T (mkF m pc' Ls (.long u :: st))) : WGo p e below s kc ks Q T (mkF m pc Ls st) := by
  subst hp hv; exact r.go fun t k => XT.lconst X.here hx rfl hd k
theorem g_null (X : Stand p l e R s m args below meth c T locs cells slots) (hx : p.tables.exec = Jvm.exec) (hd : decode c.code pc = .ok (.aconst_null, 1)) (hp : pc + 1 = pc') (r : WGo p e below s kc ks Q T (mkF m pc' Ls (.null :: st))) : WGo p e below s kc ks Q T (mkF m pc Ls st) := by
  subst hp; exact r.go fun t k => XS.aconstNull X.here hx rfl hd k
theorem g_ldcI {own : String} {index : Nat} (X : Stand p l e R s m args below meth c T locs cells slots) (hx : p.tables.exec = Jvm.exec) (hZ : Z.Warmed39 s.vm) (hown : s.vm.findClass own = some m.cls) (wd : (Jvm.Cond.constant own index x).before a0 Z = true) (hd : decode c.code pc = .ok (.ldc index, 2)) (hp : pc + 2 = pc') (r : WGo p e below s kc ks Q T (mkF m pc' Ls (.int x :: st))) : WGo p e below s kc ks Q T (mkF m pc Ls st) := by
  subst hp; exact r.go fun t k => X.ldcInt hx hown (mvT hZ wd) (g := mkF m pc Ls st) rfl hd t k
theorem g_ldcJ {own : String} {index : Nat} (X : Stand p l e R s m args below meth c T locs cells slots) (hx : p.tables.exec = Jvm.exec) (hZ : Z.Warmed39 s.vm) (hown : s.vm.findClass own = some m.cls) (wd : (Jvm.Cond.constantLong own index u).before a0 Z = true) (hd : decode c.code pc = .ok (.ldc2_w index, 3)) (hp : pc + 3 = pc') (r : WGo p e below s kc ks Q T (mkF m pc' Ls (.long u :: st))) : WGo p e below s kc ks Q T (mkF m pc Ls st) := by
  subst hp; exact r.go fun t k => X.ldc2Long hx hown (mvT hZ wd) (g := mkF m pc Ls st) rfl hd t k
/-! reckoning -/
theorem g_iadd (X : Stand p l e R s m args below meth c T locs cells slots) (hx : p.tables.exec = Jvm.exec) (hd : decode c.code pc = .ok (.iadd, 1)) (hp : pc + 1 = pc') (r : WGo p e below s kc ks Q T (mkF m pc' Ls (.int (x + y) :: st))) : WGo p e below s kc ks Q T (mkF m pc Ls (.int y :: .int x :: st)) := by
  subst hp; exact r.go fun t k => XS.iadd X.here hx rfl hd rfl k
theorem g_isub (X : Stand p l e R s m args below meth c T locs cells slots) (hx : p.tables.exec = Jvm.exec) (hd : decode c.code pc = .ok (.isub, 1)) (hp : pc + 1 = pc') (r : WGo p e below s kc ks Q T (mkF m pc' Ls (.int (x - y) :: st))) : WGo p e below s kc ks Q T (mkF m pc Ls (.int y :: .int x :: st)) := by
  subst hp; exact r.go fun t k => XS.isub X.here hx rfl hd rfl k
theorem g_iand (X : Stand p l e R s m args below meth c T locs cells slots) (hx : p.tables.exec = Jvm.exec) (hd : decode c.code pc = .ok (.iand, 1)) (hp : pc + 1 = pc') (r : WGo p e below s kc ks Q T (mkF m pc' Ls (.int (x &&& y) :: st))) : WGo p e below s kc ks Q T (mkF m pc Ls (.int y :: .int x :: st)) := by
  subst hp; exact r.go fun t k => XS.iand X.here hx rfl hd rfl k
theorem g_imul (X : Stand p l e R s m args below meth c T locs cells slots) (hx : p.tables.exec = Jvm.exec) (hd : decode c.code pc = .ok (.imul, 1)) (hp : pc + 1 = pc') (r : WGo p e below s kc ks Q T (mkF m pc' Ls (.int (x * y) :: st))) : WGo p e below s kc ks Q T (mkF m pc Ls (.int y :: .int x :: st)) := by
  subst hp; exact r.go fun t k => XS.imul X.here hx rfl hd rfl k
theorem g_ixor (X : Stand p l e R s m args below meth c T locs cells slots) (hx : p.tables.exec = Jvm.exec) (hd : decode c.code pc = .ok (.ixor, 1)) (hp : pc + 1 = pc') (r : WGo p e below s kc ks Q T (mkF m pc' Ls (.int (x ^^^ y) :: st))) : WGo p e below s kc ks Q T (mkF m pc Ls (.int y :: .int x :: st)) := by
  subst hp; exact r.go fun t k => XT.ixor X.here hx rfl hd rfl k
theorem g_ior (X : Stand p l e R s m args below meth c T locs cells slots) (hx : p.tables.exec = Jvm.exec) (hd : decode c.code pc = .ok (.ior, 1)) (hp : pc + 1 = pc') (r : WGo p e below s kc ks Q T (mkF m pc' Ls (.int (x ||| y) :: st))) : WGo p e below s kc ks Q T (mkF m pc Ls (.int y :: .int x :: st)) := by
  subst hp; exact r.go fun t k => XT.ior X.here hx rfl hd rfl k
theorem g_ishl (X : Stand p l e R s m args below meth c T locs cells slots) (hx : p.tables.exec = Jvm.exec) (hd : decode c.code pc = .ok (.ishl, 1)) (hp : pc + 1 = pc') (r : WGo p e below s kc ks Q T (mkF m pc' Ls (.int (x <<< (y &&& 31)) :: st))) : WGo p e below s kc ks Q T (mkF m pc Ls (.int y :: .int x :: st)) := by
  subst hp; exact r.go fun t k => XT.ishl X.here hx rfl hd rfl k
theorem g_ishr (X : Stand p l e R s m args below meth c T locs cells slots) (hx : p.tables.exec = Jvm.exec) (hd : decode c.code pc = .ok (.ishr, 1)) (hp : pc + 1 = pc') (r : WGo p e below s kc ks Q T (mkF m pc' Ls (.int (x >>> (y &&& 31)) :: st))) : WGo p e below s kc ks Q T (mkF m pc Ls (.int y :: .int x :: st)) := by
  subst hp; exact r.go fun t k => XT.ishr X.here hx rfl hd rfl k
theorem g_iushr (X : Stand p l e R s m args below meth c T locs cells slots) (hx : p.tables.exec = Jvm.exec) (hd : decode c.code pc = .ok (.iushr, 1)) (hp : pc + 1 = pc') (r : WGo p e below s kc ks Q T (mkF m pc' Ls (.int (XT.ushr x y) :: st))) : WGo p e below s kc ks Q T (mkF m pc Ls (.int y :: .int x :: st)) := by
  subst hp; exact r.go fun t k => XT.iushr X.here hx rfl hd rfl k
theorem g_ladd (X : Stand p l e R s m args below meth c T locs cells slots) (hx : p.tables.exec = Jvm.exec) (hd : decode c.code pc = .ok (.ladd, 1)) (hp : pc + 1 = pc') (r : WGo p e below s kc ks Q T (mkF m pc' Ls (.long (u + w) :: st))) : WGo p e below s kc ks Q T (mkF m pc Ls (.long w :: .long u :: st)) := by
  subst hp; exact r.go fun t k => XT.ladd X.here hx rfl hd rfl k
theorem g_lsub (X : Stand p l e R s m args below meth c T locs cells slots) (hx : p.tables.exec = Jvm.exec) (hd : decode c.code pc = .ok (.lsub, 1)) (hp : pc + 1 = pc') (r : WGo p e below s kc ks Q T (mkF m pc' Ls (.long (u - w) :: st))) : WGo p e below s kc ks Q T (mkF m pc Ls (.long w :: .long u :: st)) := by
  subst hp; exact r.go fun t k => XT.lsub X.here hx rfl hd rfl k
theorem g_lmul (X : Stand p l e R s m args below meth c T locs cells slots) (hx : p.tables.exec = Jvm.exec) (hd : decode c.code pc = .ok (.lmul, 1)) (hp : pc + 1 = pc') (r : WGo p e below s kc ks Q T (mkF m pc' Ls (.long (u * w) :: st))) : WGo p e below s kc ks Q T (mkF m pc Ls (.long w :: .long u :: st)) := by
  subst hp; exact r.go fun t k => XT.lmul X.here hx rfl hd rfl k
theorem g_land (X : Stand p l e R s m args below meth c T locs cells slots) (hx : p.tables.exec = Jvm.exec) (hd : decode c.code pc = .ok (.land, 1)) (hp : pc + 1 = pc') (r : WGo p e below s kc ks Q T (mkF m pc' Ls (.long (u &&& w) :: st))) : WGo p e below s kc ks Q T (mkF m pc Ls (.long w :: .long u :: st)) := by
  subst hp; exact r.go fun t k => XT.land X.here hx rfl hd rfl k
theorem g_lxor (X : Stand p l e R s m args below meth c T locs cells slots) (hx : p.tables.exec = Jvm.exec) (hd : decode c.code pc = .ok (.lxor, 1)) (hp : pc + 1 = pc') (r : WGo p e below s kc ks Q T (mkF m pc' Ls (.long (u ^^^ w) :: st))) : WGo p e below s kc ks Q T (mkF m pc Ls (.long w :: .long u :: st)) := by
  subst hp; exact r.go fun t k => XT.lxor X.here hx rfl hd rfl k
theorem g_lushr (X : Stand p l e R s m args below meth c T locs cells slots) (hx : p.tables.exec = Jvm.exec) (hd : decode c.code pc = .ok (.lushr, 1)) (hp : pc + 1 = pc') (r : WGo p e below s kc ks Q T (mkF m pc' Ls (.long (XT.ushrL u y) :: st))) : WGo p e below s kc ks Q T (mkF m pc Ls (.int y :: .long u :: st)) := by
  subst hp; exact r.go fun t k => XT.lushr X.here hx rfl hd rfl k
theorem g_lcmp (X : Stand p l e R s m args below meth c T locs cells slots) (hx : p.tables.exec = Jvm.exec) (hd : decode c.code pc = .ok (.lcmp, 1)) (hp : pc + 1 = pc') (r : WGo p e below s kc ks Q T (mkF m pc' Ls (.int (XT.cmpL u w) :: st))) : WGo p e below s kc ks Q T (mkF m pc Ls (.long w :: .long u :: st)) := by
  subst hp; exact r.go fun t k => XT.lcmp X.here hx rfl hd rfl k
theorem g_i2l (X : Stand p l e R s m args below meth c T locs cells slots) (hx : p.tables.exec = Jvm.exec) (hd : decode c.code pc = .ok (.i2l, 1)) (hp : pc + 1 = pc') (r : WGo p e below s kc ks Q T (mkF m pc' Ls (.long (x.toInt64) :: st))) : WGo p e below s kc ks Q T (mkF m pc Ls (.int x :: st)) := by
  subst hp; exact r.go fun t k => XT.i2l X.here hx rfl hd rfl k
theorem g_l2i (X : Stand p l e R s m args below meth c T locs cells slots) (hx : p.tables.exec = Jvm.exec) (hd : decode c.code pc = .ok (.l2i, 1)) (hp : pc + 1 = pc') (r : WGo p e below s kc ks Q T (mkF m pc' Ls (.int (u.toInt32) :: st))) : WGo p e below s kc ks Q T (mkF m pc Ls (.long u :: st)) := by
  subst hp; exact r.go fun t k => XT.l2i X.here hx rfl hd rfl k
theorem g_i2b (X : Stand p l e R s m args below meth c T locs cells slots) (hx : p.tables.exec = Jvm.exec) (hd : decode c.code pc = .ok (.i2b, 1)) (hp : pc + 1 = pc') (r : WGo p e below s kc ks Q T (mkF m pc' Ls (.int (x.toInt8.toInt32) :: st))) : WGo p e below s kc ks Q T (mkF m pc Ls (.int x :: st)) := by
  subst hp; exact r.go fun t k => XT.i2b X.here hx rfl hd rfl k
theorem g_i2c (X : Stand p l e R s m args below meth c T locs cells slots) (hx : p.tables.exec = Jvm.exec) (hd : decode c.code pc = .ok (.i2c, 1)) (hp : pc + 1 = pc') (r : WGo p e below s kc ks Q T (mkF m pc' Ls (.int (x.toUInt32.toUInt16.toUInt32.toInt32) :: st))) : WGo p e below s kc ks Q T (mkF m pc Ls (.int x :: st)) := by
  subst hp; exact r.go fun t k => XT.i2c X.here hx rfl hd rfl k
theorem g_i2s (X : Stand p l e R s m args below meth c T locs cells slots) (hx : p.tables.exec = Jvm.exec) (hd : decode c.code pc = .ok (.i2s, 1)) (hp : pc + 1 = pc') (r : WGo p e below s kc ks Q T (mkF m pc' Ls (.int (x.toInt16.toInt32) :: st))) : WGo p e below s kc ks Q T (mkF m pc Ls (.int x :: st)) := by
  subst hp; exact r.go fun t k => XT.i2s X.here hx rfl hd rfl k
theorem g_irem (X : Stand p l e R s m args below meth c T locs cells slots) (hx : p.tables.exec = Jvm.exec) (hd : decode c.code pc = .ok (.irem, 1)) (hy : y ≠ 0) (hp : pc + 1 = pc') (r : WGo p e below s kc ks Q T (mkF m pc' Ls (.int (x % y) :: st))) : WGo p e below s kc ks Q T (mkF m pc Ls (.int y :: .int x :: st)) := by
  subst hp; exact r.go fun t k => iremM X hx rfl hd rfl hy k
theorem g_ldiv (X : Stand p l e R s m args below meth c T locs cells slots) (hx : p.tables.exec = Jvm.exec) (hd : decode c.code pc = .ok (.ldiv, 1)) (hy : w ≠ 0) (hp : pc + 1 = pc') (r : WGo p e below s kc ks Q T (mkF m pc' Ls (.long (u / w) :: st))) : WGo p e below s kc ks Q T (mkF m pc Ls (.long w :: .long u :: st)) := by
  subst hp; exact r.go fun t k => XT.ldiv X.here hx rfl hd rfl hy k
theorem g_lrem (X : Stand p l e R s m args below meth c T locs cells slots) (hx : p.tables.exec = Jvm.exec) (hd : decode c.code pc = .ok (.lrem, 1)) (hy : w ≠ 0) (hp : pc + 1 = pc') (r : WGo p e below s kc ks Q T (mkF m pc' Ls (.long (u % w) :: st))) : WGo p e below s kc ks Q T (mkF m pc Ls (.long w :: .long u :: st)) := by
  subst hp; rw [← lrem_mod] at r; exact r.go fun t k => XT.lrem X.here hx rfl hd rfl hy k
/-! the stack -/
theorem g_dup {v : Value} (X : Stand p l e R s m args below meth c T locs cells slots) (hx : p.tables.exec = Jvm.exec) (hd : decode c.code pc = .ok (.dup, 1)) (hc : v.category = 1) (hp : pc + 1 = pc') (r : WGo p e below s kc ks Q T (mkF m pc' Ls (v :: v :: st))) : WGo p e below s kc ks Q T (mkF m pc Ls (v :: st)) := by
  subst hp; exact r.go fun t k => XS.dup X.here hx rfl hd rfl hc k
theorem g_dup2 {v v' : Value} (X : Stand p l e R s m args below meth c T locs cells slots) (hx : p.tables.exec = Jvm.exec) (hd : decode c.code pc = .ok (.dup2, 1)) (hc : v.category = 1) (hc' : v'.category = 1) (hp : pc + 1 = pc') (r : WGo p e below s kc ks Q T (mkF m pc' Ls (v :: v' :: v :: v' :: st))) : WGo p e below s kc ks Q T (mkF m pc Ls (v :: v' :: st)) := by
  subst hp; exact r.go fun t k => XT.dup2 X.here hx rfl hd rfl hc hc' k
theorem g_pop {v : Value} (X : Stand p l e R s m args below meth c T locs cells slots) (hx : p.tables.exec = Jvm.exec) (hd : decode c.code pc = .ok (.pop, 1)) (hc : v.category = 1) (hp : pc + 1 = pc') (r : WGo p e below s kc ks Q T (mkF m pc' Ls st)) : WGo p e below s kc ks Q T (mkF m pc Ls (v :: st)) := by
  subst hp; exact r.go fun t k => XT.pop X.here hx rfl hd rfl hc k
/-! jumps -/
theorem g_join {α : Type} {P : α → Prop} {F : JFrame} {J : α → JFrame} (k : (∀ z, P z → WGo p e below s kc ks Q T (J z)) → WGo p e below s kc ks Q T F) (r : ∀ z, P z → WGo p e below s kc ks Q T (J z)) : WGo p e below s kc ks Q T F := k r
theorem g_goto (X : Stand p l e R s m args below meth c T locs cells slots) (hx : p.tables.exec = Jvm.exec) {o : Int} (hd : decode c.code pc = .ok (.goto o, 3)) (ho : 0 ≤ (pc : Int) + o) (hp : ((pc : Int) + o).toNat = pc') (r : WGo p e below s kc ks Q T (mkF m pc' Ls st)) : WGo p e below s kc ks Q T (mkF m pc Ls st) :=
  r.go fun t k => XS.goto X.here hx rfl rfl hd ho hp k
theorem g_joinT {α : Type} {P : α → Prop} {F : JFrame} {J : α → JFrame} {n0 : Nat} (k : (∀ T' L z, Stand p l e R s m args below meth c T' L cells slots → T'.heap = h → Fr n0 L → P z → WGo p e below s kc ks Q T' (J z)) → WGo p e below s kc ks Q T F) (r : ∀ T' L z, Stand p l e R s m args below meth c T' L cells slots → T'.heap = h → Fr n0 L → P z → WGo p e below s kc ks Q T' (J z)) : WGo p e below s kc ks Q T F := k r
theorem g_ind {α : Type} {P : Nat → α → Prop} {J : α → JFrame} (step : ∀ k, (∀ k' z, k' < k → P k' z → WGo p e below s kc ks Q T (J z)) → ∀ z, P k z → WGo p e below s kc ks Q T (J z)) (k0 : Nat) (z0 : α) (h0 : P k0 z0) : WGo p e below s kc ks Q T (J z0) := by
  have all : ∀ n k, k < n → ∀ z, P k z → WGo p e below s kc ks Q T (J z) := by
    intro n
    induction n with
    | zero => intro k hk; exact absurd hk (Nat.not_lt_zero _)
    | succ n ih => intro k hk z hz; exact step k (fun k' z' hk' hz' => ih k' (Nat.lt_of_lt_of_le hk' (Nat.le_of_lt_succ hk)) z' hz') z hz
  exact all (k0 + 1) k0 (Nat.lt_succ_self _) z0 h0
theorem g_icmp (X : Stand p l e R s m args below meth c T locs cells slots) (hx : p.tables.exec = Jvm.exec) {cd : ClassFile.Cond} {o : Int} {pc2 : Nat} (hd : decode c.code pc = .ok (.if_icmp cd o, 3)) (ho : 0 ≤ (pc : Int) + o) (hp : ((pc : Int) + o).toNat = pc') (hp2 : pc + 3 = pc2) (r1 : if_icmp.holds cd x y = true → WGo p e below s kc ks Q T (mkF m pc' Ls st)) (r2 : if_icmp.holds cd x y = false → WGo p e below s kc ks Q T (mkF m pc2 Ls st)) : WGo p e below s kc ks Q T (mkF m pc Ls (.int y :: .int x :: st)) := by
  subst hp2
  cases hc : if_icmp.holds cd x y
  · exact (r2 hc).go fun t k => XS.icmpNo X.here hx rfl hd rfl hc k
  · exact (r1 hc).go fun t k => XS.icmpYes X.here hx rfl rfl hd rfl hc ho hp k
theorem g_if (X : Stand p l e R s m args below meth c T locs cells slots) (hx : p.tables.exec = Jvm.exec) {cd : ClassFile.Cond} {o : Int} {pc2 : Nat} (hd : decode c.code pc = .ok (.ifCond cd o, 3)) (ho : 0 ≤ (pc : Int) + o) (hp : ((pc : Int) + o).toNat = pc') (hp2 : pc + 3 = pc2) (r1 : if_icmp.holds cd x 0 = true → WGo p e below s kc ks Q T (mkF m pc' Ls st)) (r2 : if_icmp.holds cd x 0 = false → WGo p e below s kc ks Q T (mkF m pc2 Ls st)) : WGo p e below s kc ks Q T (mkF m pc Ls (.int x :: st)) := by
  subst hp2
  cases hc : if_icmp.holds cd x 0
  · exact (r2 hc).go fun t k => XS.ifNo X.here hx rfl hd rfl ((if0 _ _).trans hc) k
  · exact (r1 hc).go fun t k => XS.ifYes X.here hx rfl rfl hd rfl ((if0 _ _).trans hc) ho hp k
theorem h_eq1 (q : if_icmp.holds .eq x y = true) : x = y := by simpa [if_icmp.holds] using q
theorem h_eq0 (q : if_icmp.holds .eq x y = false) : ¬ x = y := by simpa [if_icmp.holds] using q
theorem h_ne1 (q : if_icmp.holds .ne x y = true) : ¬ x = y := by simpa [if_icmp.holds] using q
theorem h_ne0 (q : if_icmp.holds .ne x y = false) : x = y := by simpa [if_icmp.holds] using q
theorem h_lt1 (q : if_icmp.holds .lt x y = true) : x < y := by simpa [if_icmp.holds] using q
theorem h_lt0 (q : if_icmp.holds .lt x y = false) : ¬ x < y := by simpa [if_icmp.holds] using q
theorem h_ge1 (q : if_icmp.holds .ge x y = true) : ¬ x < y := fun z => by rw [(tlt z).2.1] at q; cases q
theorem h_ge0 (q : if_icmp.holds .ge x y = false) : x < y := Classical.byContradiction fun z => by rw [(flt z).2.1] at q; cases q
theorem h_gt1 (q : if_icmp.holds .gt x y = true) : y < x := Classical.byContradiction fun z => by rw [(flt z).2.2.1] at q; cases q
theorem h_gt0 (q : if_icmp.holds .gt x y = false) : ¬ y < x := fun z => by rw [(tlt z).2.2.1] at q; cases q
theorem h_le1 (q : if_icmp.holds .le x y = true) : ¬ y < x := fun z => by rw [(tlt z).2.2.2] at q; cases q
theorem h_le0 (q : if_icmp.holds .le x y = false) : y < x := Classical.byContradiction fun z => by rw [(flt z).2.2.2] at q; cases q
theorem g_acmp {v v' : Value} (X : Stand p l e R s m args below meth c T locs cells slots) (hx : p.tables.exec = Jvm.exec) (h1 : v.isRef = true) (h2 : v'.isRef = true) {o : Int} {pc2 : Nat} (hd : decode c.code pc = .ok (.if_acmp .ne o, 3)) (ho : 0 ≤ (pc : Int) + o) (hp : ((pc : Int) + o).toNat = pc') (hp2 : pc + 3 = pc2) (r1 : ¬ v = v' → WGo p e below s kc ks Q T (mkF m pc' Ls st)) (r2 : v = v' → WGo p e below s kc ks Q T (mkF m pc2 Ls st)) : WGo p e below s kc ks Q T (mkF m pc Ls (v' :: v :: st)) := by
  by_cases hc : v = v'
  · exact (r2 hc).go fun t k => Jvm.RoadKit.acmp X hx rfl h1 h2 rfl hd rfl (decide_eq_true hc) ho (by simp [acV, hp2]) k
  · exact (r1 hc).go fun t k => Jvm.RoadKit.acmp X hx rfl h1 h2 rfl hd rfl (decide_eq_false hc) ho (by simp [acV, hp]) k
theorem cl_lt (u w : Int64) : XT.cmpL u w < 0 ↔ u < w := lw_lt u w
theorem cl_gt (u w : Int64) : 0 < XT.cmpL u w ↔ w < u := lw_gt u w
theorem cl_eq (u w : Int64) : XT.cmpL u w = 0 ↔ u = w := lw_eq u w
/-! fields -/
theorem g_getF {own O n d : String} {index : Nat} {a : Addr} {v : Value} (X : Stand p l e R s m args below meth c T locs cells slots) (hx : p.tables.exec = Jvm.exec) (hZ : Z.Warmed39 s.vm) (hown : s.vm.findClass own = some m.cls) (wd : (Jvm.Cond.fieldLink own index O n d).before a0 Z = true) (eT : T.heap = h) (F : Fld Z h a O n d v) (hd : decode c.code pc = .ok (.getfield index, 3)) (hp : pc + 3 = pc')
    (r : ∀ T', Stand p l e R s m args below meth c T' locs cells slots → T'.heap = h → WGo p e below s kc ks Q T' (mkF m pc' Ls (v :: st))) : WGo p e below s kc ks Q T (mkF m pc Ls (.ref a :: st)) := by
  subst hp
  obtain ⟨T', X', e', k⟩ := getF X hx hZ hown (host := "") (Or.inl wd) Via.refl eT F (g := mkF m pc Ls (.ref a :: st)) rfl rfl hd
  exact (r T' X' e').go k
theorem g_putF {own O n d C : String} {index kk : Nat} {ty : FieldType} {a : Addr} {v old : Value} (X : Stand p l e R s m args below meth c T locs cells slots) (hx : p.tables.exec = Jvm.exec) (hZ : Z.Warmed39 s.vm) (hown : s.vm.findClass own = some m.cls) (wd : (Jvm.Cond.fieldLink own index O n d).before a0 Z = true) (eT : T.heap = h) (F : Fld Z h a O n d old) (E : Exa Z h a C)
    (L : (Jvm.Cond.lays C O n d).before a0 Z = true ∨ ((Jvm.Cond.laysFinal C O n d).before a0 Z = true ∧ own = O ∧ meth.name = "<init>")) (wi : (Jvm.Cond.instantiable C kk).before a0 Z = true) (hty : parseFieldDescriptor d = some ty) (hn : narrow ty v = v) (hf : fits ty v = true) (hd : decode c.code pc = .ok (.putfield index, 3)) (hp : pc + 3 = pc')
    (r : ∀ T' h', Stand p l e R s m args below meth c T' (locs ++ [⟨a, Jvm.RoadKit.slotOf Z O n d⟩]) cells slots → T'.heap = h' → Wr h h' a (Jvm.RoadKit.slotOf Z O n d) v → WGo p e below s kc ks Q T' (mkF m pc' Ls st)) : WGo p e below s kc ks Q T (mkF m pc Ls (v :: .ref a :: st)) := by
  subst hp
  obtain ⟨T', h', X', e', W, k⟩ := putF X hx hZ hown (host := "") (Or.inl wd) Via.refl eT F E L wi hty hn hf (g := mkF m pc Ls (v :: .ref a :: st)) rfl rfl hd
  exact (r T' h' X' e' W).go k
theorem g_getS {own O n d : String} {index : Nat} {v : Value} (X : Stand p l e R s m args below meth c T locs cells slots) (hx : p.tables.exec = Jvm.exec) (hZ : Z.Warmed39 s.vm) (hown : s.vm.findClass own = some m.cls) (wd : (Jvm.Cond.fieldLink own index O n d).before a0 Z = true) (eT : T.heap = h) (F : Sta Z h O n d v) (hd : decode c.code pc = .ok (.getstatic index, 3)) (hp : pc + 3 = pc')
    (r : ∀ T', Stand p l e R s m args below meth c T' locs cells slots → T'.heap = h → WGo p e below s kc ks Q T' (mkF m pc' Ls (v :: st))) : WGo p e below s kc ks Q T (mkF m pc Ls st) := by
  subst hp
  obtain ⟨T', X', e', k⟩ := getS (host := "") X hx hZ hown wd Via.refl eT F (g := mkF m pc Ls st) rfl hd
  exact (r T' X' e').go k
/-! new -/
theorem g_new {own C : String} {index n : Nat} (X : Stand p l e R s m args below meth c T locs cells slots) (hx : p.tables.exec = Jvm.exec) (hZ : Z.Warmed39 s.vm) (hown : s.vm.findClass own = some m.cls) (w1 : (Jvm.Cond.classLink own index C).before a0 Z = true) (w2 : (Jvm.Cond.instantiable C n).before a0 Z = true) (w3 : (Jvm.Cond.initialized C).before a0 Z = true) (eT : T.heap = h) (hd : decode c.code pc = .ok (.new index, 3)) (hc : cells + 1 ≤ R.cells) (hl : slots + n ≤ R.slots) (hp : pc + 3 = pc')
    (r : ∀ T' h' a, a = h.size → Stand p l e R s m args below meth c T' locs (cells + 1) (slots + n) → T'.heap = h' → Ext h h' → Exa Z h' a C → (∀ {O nm d : String} {ty : FieldType}, Laid Z a0 C O nm d → parseFieldDescriptor d = some ty → Fld Z h' a O nm d (defaultValue ty)) → WGo p e below s kc ks Q T' (mkF m pc' Ls (.ref a :: st))) : WGo p e below s kc ks Q T (mkF m pc Ls st) := by
  subst hp
  obtain ⟨T', h', X', e', E, A, D, -, k⟩ := newO X hx hZ hown w1 w2 w3 eT (g := mkF m pc Ls st) rfl hd hc hl
  exact (r T' h' _ rfl X' e' E A D).go k
/-- a step that a law of the library hands out whole -/
theorem g_move {g g' : JFrame} (k : ∃ T', Stand p l e R s m args below meth c T' locs cells slots ∧ T'.heap = h ∧ ∀ target, Steps p.tables e below (T'.setTop g') target → Steps p.tables e below (T.setTop g) target) (r : ∀ T', Stand p l e R s m args below meth c T' locs cells slots → T'.heap = h → WGo p e below s kc ks Q T' g') : WGo p e below s kc ks Q T g := by
  obtain ⟨T', X', e', k⟩ := k
  exact (r T' X' e').go k
/-! calls by contract -/
theorem g_init {own : String} {index : Nat} {yy : MethodName} {bytes : ByteArray} {maxL : Nat} {rm : Room} {a : Addr} {argsL as' : List Value} {Q' : Option Value → Heap → List Loc → Prop} {W : Nat} (X : Stand p l e R s m args below meth c T locs cells slots) (hx : p.tables.exec = Jvm.exec) (hZ : Z.Warmed39 s.vm) (hown : s.vm.findClass own = some m.cls) (hy1 : yy.name = "<init>") (w1 : (Jvm.Cond.methodLink own index yy).before a0 Z = true) (w2 : (Jvm.Cond.instanceMethod yy).before a0 Z = true) (w3 : (Jvm.Cond.code yy bytes maxL none).before a0 Z = true) (w4 : (Jvm.Cond.initialized yy.cls).before a0 Z = true)
    (hy : yy.cls ≠ "java/lang/invoke/MethodHandle" ∧ yy.cls ≠ "java/lang/invoke/VarHandle") (ct : WCt l Z yy bytes maxL none rm (.ref a :: argsL).toArray h Q') (eT : T.heap = h) (hf : rm.frames + 1 ≤ R.frames) (hl : W + (maxL + 11) + rm.locals ≤ R.locals) (hc : cells + rm.cells ≤ R.cells) (hs : slots + rm.slots ≤ R.slots) (hlen : ∀ sig, parseMethodDescriptor yy.desc = some sig → argsL.length = sig.parameters.length) (hsize : Ls.size = c.maxLocals) (has : as' = argsL.reverse ++ .ref a :: st) (hW : 2 * 0 + (st.map fun v => v.category).sum ≤ W) (hd : decode c.code pc = .ok (.invokespecial index, 3)) (hp : pc + 3 = pc')
    (r : ∀ T' h' v L, Stand p l e R s m args below meth c T' (locs ++ L) (cells + rm.cells) (slots + rm.slots) → T'.heap = h' → Q' v h' L → WGo p e below s kc ks Q T' (mkF m pc' Ls (v.toList ++ st))) : WGo p e below s kc ks Q T (mkF m pc Ls as') := by
  subst hp has
  obtain ⟨v, _, ⟨T', L, k1, k2⟩, -, X', ⟨Lc, hQ, l1, y1, z1⟩, k⟩ := X.specialBack hx (y := yy) hy1 hown (mvT hZ w1) (mvT hZ w2) (mvT hZ w3) hy (backOf (W := W) (ct []) hZ w3 w4 hf hl) (g := mkF m pc Ls (argsL.reverse ++ .ref a :: st)) rfl hsize (Steps.refl _) (a := a) (argsL := argsL) (rest := st) hlen rfl hW hd (fun _ _ => ⟨rfl, eT, hc, hs⟩)
  dsimp only [Pt.U, Pt.locs, Pt.cells, Pt.slots] at X' l1 y1 z1 k hQ
  subst l1 y1 z1
  exact (r T' _ v Lc X' rfl hQ).go fun t q => k.trans q
theorem g_virt {own C : String} {index : Nat} {yy zz : MethodName} {bytes : ByteArray} {maxL : Nat} {ret : Option FieldType} {rm : Room} {a : Addr} {argsL as' : List Value} {Q' : Option Value → Heap → List Loc → Prop} {W : Nat} (X : Stand p l e R s m args below meth c T locs cells slots) (hx : p.tables.exec = Jvm.exec) (hZ : Z.Warmed39 s.vm) (hown : s.vm.findClass own = some m.cls) (w1 : (Jvm.Cond.methodLink own index yy).before a0 Z = true) (w2 : (Jvm.Cond.declares yy).before a0 Z = true) (nf : NotFace s yy) (w3 : (Jvm.Cond.selects C yy zz).before a0 Z = true) (w4 : (Jvm.Cond.instanceMethod zz).before a0 Z = true) (w5 : (Jvm.Cond.code zz bytes maxL ret).before a0 Z = true) (w6 : (Jvm.Cond.initialized zz.cls).before a0 Z = true)
    (hy : yy.cls ≠ "java/lang/invoke/MethodHandle" ∧ yy.cls ≠ "java/lang/invoke/VarHandle") (E : Exa Z h a C) (ct : WCt l Z zz bytes maxL ret rm (.ref a :: argsL).toArray h Q') (eT : T.heap = h) (hf : rm.frames + 1 ≤ R.frames) (hl : W + (maxL + 11) + rm.locals ≤ R.locals) (hc : cells + rm.cells ≤ R.cells) (hs : slots + rm.slots ≤ R.slots) (hlen : ∀ sig, parseMethodDescriptor yy.desc = some sig → argsL.length = sig.parameters.length) (hsize : Ls.size = c.maxLocals) (has : as' = argsL.reverse ++ .ref a :: st) (hW : 2 * 0 + (st.map fun v => v.category).sum ≤ W) (hd : decode c.code pc = .ok (.invokevirtual index, 3)) (hp : pc + 3 = pc')
    (r : ∀ T' h' v L, Stand p l e R s m args below meth c T' (locs ++ L) (cells + rm.cells) (slots + rm.slots) → T'.heap = h' → Q' v h' L → WGo p e below s kc ks Q T' (mkF m pc' Ls (v.toList ++ st))) : WGo p e below s kc ks Q T (mkF m pc Ls as') := by
  subst hp has
  obtain ⟨cq, kq, qa, -, qc⟩ := isOf hZ eT E
  obtain ⟨v, _, ⟨T', L, k1, k2⟩, -, X', ⟨Lc, hQ, l1, y1, z1⟩, k⟩ := X.virtualBack hx (y := yy) (z := zz) hown (mvT hZ w1) (mvT hZ w2) nf (mvT hZ w3) (mvT hZ w4) hy (backOf (W := W) (ct []) hZ w5 w6 hf hl) qa qc (g := mkF m pc Ls (argsL.reverse ++ .ref a :: st)) rfl hsize (Steps.refl _) (argsL := argsL) (rest := st) hlen rfl hW hd (fun _ _ => ⟨rfl, eT, hc, hs⟩)
  dsimp only [Pt.U, Pt.locs, Pt.cells, Pt.slots] at X' l1 y1 z1 k hQ
  subst l1 y1 z1
  exact (r T' _ v Lc X' rfl hQ).go fun t q => k.trans q
theorem g_stat {own : String} {index : Nat} {yy : MethodName} {bytes : ByteArray} {maxL : Nat} {ret : Option FieldType} {rm : Room} {argsL as' : List Value} {Q' : Option Value → Heap → List Loc → Prop} {W : Nat} (X : Stand p l e R s m args below meth c T locs cells slots) (hx : p.tables.exec = Jvm.exec) (hZ : Z.Warmed39 s.vm) (hown : s.vm.findClass own = some m.cls) (w1 : (Jvm.Cond.methodLink own index yy).before a0 Z = true) (w2 : (Jvm.Cond.static yy).before a0 Z = true) (w3 : (Jvm.Cond.initialized yy.cls).before a0 Z = true) (w4 : (Jvm.Cond.code yy bytes maxL ret).before a0 Z = true)
    (hy : yy.cls ≠ "java/lang/invoke/MethodHandle" ∧ yy.cls ≠ "java/lang/invoke/VarHandle") (ct : WCt l Z yy bytes maxL ret rm argsL.toArray h Q') (eT : T.heap = h) (hf : rm.frames + 1 ≤ R.frames) (hl : W + (maxL + 11) + rm.locals ≤ R.locals) (hc : cells + rm.cells ≤ R.cells) (hs : slots + rm.slots ≤ R.slots) (hlen : ∀ sig, parseMethodDescriptor yy.desc = some sig → argsL.length = sig.parameters.length) (hsize : Ls.size = c.maxLocals) (has : as' = argsL.reverse ++ st) (hW : 2 * 0 + (st.map fun v => v.category).sum ≤ W) (hd : decode c.code pc = .ok (.invokestatic index, 3)) (hp : pc + 3 = pc')
    (r : ∀ T' h' v L, Stand p l e R s m args below meth c T' (locs ++ L) (cells + rm.cells) (slots + rm.slots) → T'.heap = h' → Q' v h' L → WGo p e below s kc ks Q T' (mkF m pc' Ls (v.toList ++ st))) : WGo p e below s kc ks Q T (mkF m pc Ls as') := by
  subst hp has
  obtain ⟨v, _, ⟨T', L, k1, k2⟩, -, X', ⟨Lc, hQ, l1, y1, z1⟩, k⟩ := Jvm.LawKit.callS X hx (y := yy) hown (mvT hZ w1) (mvT hZ w2) (mvT hZ w3) (mvT hZ w4) hy (backOf (W := W) (ct []) hZ w4 w3 hf hl) (g := mkF m pc Ls (argsL.reverse ++ st)) rfl hsize (argsL := argsL) (rest := st) hlen rfl hW hd (fun _ _ => ⟨rfl, eT, hc, hs⟩)
  dsimp only [Pt.U, Pt.locs, Pt.cells, Pt.slots] at X' l1 y1 z1 k hQ
  subst l1 y1 z1
  exact (r T' _ v Lc X' rfl hQ).go fun t q => k t q
theorem own_selp {yy : MethodName} {n : Nat} (hins : (Jvm.Cond.instantiable yy.cls n).before args s = true) (hpriv : (Jvm.Cond.privateMethod yy).before args s = true) (hinst : (Jvm.Cond.instanceMethod yy).before args s = true) (hy : yy.cls ≠ "java/lang/invoke/MethodHandle" ∧ yy.cls ≠ "java/lang/invoke/VarHandle") :
    (Jvm.Cond.selects yy.cls yy yy).before args s = true := by
  obtain ⟨c, k, hc, hk, -, hniab, -, -⟩ := Cond.instantiable_spec hins
  have hni : k.isInterface = false := (Bool.or_eq_false_iff.mp hniab).1
  obtain ⟨mk, methM, hnamed, hmethM, -, -⟩ := Cond.instanceMethod_spec hinst
  have hfound : s.methodFound? yy.cls yy.name yy.desc = some mk := State.methodFound?_of_named hnamed hy
  have hcls : mk.cls = c := Option.some.inj ((findClass_of_methodNamed hnamed).symm.trans hc)
  have hsel : selectMethod {} s.vm c mk = .method mk := selectMethod_private hmethM (Cond.privateMethod_at hpriv mk methM hnamed hmethM)
  simp only [Cond.before, Cond.holds, Cond.value, hc, hfound, hnamed, hsel, hcls, hk]
  simp; exact hni
theorem g_priv {own C : String} {index kk : Nat} {yy : MethodName} {bytes : ByteArray} {maxL : Nat} {ret : Option FieldType} {rm : Room} {a : Addr} {argsL as' : List Value} {Q' : Option Value → Heap → List Loc → Prop} {W : Nat} (X : Stand p l e R s m args below meth c T locs cells slots) (hx : p.tables.exec = Jvm.exec) (hZ : Z.Warmed39 s.vm) (hown : s.vm.findClass own = some m.cls) (w1 : (Jvm.Cond.methodLink own index yy).before a0 Z = true) (w2 : (Jvm.Cond.instanceMethod yy).before a0 Z = true) (w3 : (Jvm.Cond.privateMethod yy).before a0 Z = true) (w4 : (Jvm.Cond.code yy bytes maxL ret).before a0 Z = true) (w5 : (Jvm.Cond.initialized yy.cls).before a0 Z = true) (w6 : (Jvm.Cond.instantiable yy.cls kk).before a0 Z = true)
    (hy : yy.cls ≠ "java/lang/invoke/MethodHandle" ∧ yy.cls ≠ "java/lang/invoke/VarHandle") (E : Exa Z h a C) (ct : WCt l Z yy bytes maxL ret rm (.ref a :: argsL).toArray h Q') (eT : T.heap = h) (hf : rm.frames + 1 ≤ R.frames) (hl : W + (maxL + 11) + rm.locals ≤ R.locals) (hc : cells + rm.cells ≤ R.cells) (hs : slots + rm.slots ≤ R.slots) (hlen : ∀ sig, parseMethodDescriptor yy.desc = some sig → argsL.length = sig.parameters.length) (hsize : Ls.size = c.maxLocals) (has : as' = argsL.reverse ++ .ref a :: st) (hW : 2 * 0 + (st.map fun v => v.category).sum ≤ W) (hd : decode c.code pc = .ok (.invokevirtual index, 3)) (hp : pc + 3 = pc')
    (r : ∀ T' h' v L, Stand p l e R s m args below meth c T' (locs ++ L) (cells + rm.cells) (slots + rm.slots) → T'.heap = h' → Q' v h' L → WGo p e below s kc ks Q T' (mkF m pc' Ls (v.toList ++ st))) : WGo p e below s kc ks Q T (mkF m pc Ls as') := by
  subst hp has
  obtain ⟨cq, qa, qb⟩ := E.cell
  obtain ⟨v, _, ⟨T', L, k1, k2⟩, -, X', ⟨Lc, hQ, l1, y1, z1⟩, k⟩ := X.privateBack hx (y := yy) hown (mvT hZ w1) (mvT hZ w2) (own_selp (mvT hZ w6) (mvP hZ w3) (mvT hZ w2) hy) (Cond.privateMethod_at (mvP hZ w3 (args := #[]))) (mvT hZ w4) hy (backOf (W := W) (ct []) hZ w4 w5 hf hl) (g := mkF m pc Ls (argsL.reverse ++ .ref a :: st)) rfl hsize (Steps.refl _) (a := a) (by rw [eT]; exact qa) qb (argsL := argsL) (rest := st) hlen rfl hW hd (fun _ _ => ⟨rfl, eT, hc, hs⟩)
  dsimp only [Pt.U, Pt.locs, Pt.cells, Pt.slots] at X' l1 y1 z1 k hQ
  subst l1 y1 z1
  exact (r T' _ v Lc X' rfl hQ).go fun t q => k.trans q
/-! arrays: the place i holds f i -/
def Ai (Z : State) (h : Heap) (a : Addr) (ty : FieldType) (n : Nat) (f : Nat → Value) : Prop := ∃ cl : Cell, Arr Z h a cl ty ∧ cl.slots.size = n ∧ n < 2 ^ 31 ∧ ∀ i, i < n → cl.slots[i]? = some (f i)
def upd (f : Nat → Value) (i : Nat) (v : Value) : Nat → Value := fun j => if j = i then v else f j
theorem upd_at (f : Nat → Value) (i : Nat) (v : Value) : upd f i v i = v := by simp [upd]
theorem upd_ne (f : Nat → Value) {i j : Nat} (v : Value) (q : j ≠ i) : upd f i v j = f j := by simp [upd, q]
theorem Ai.lt {a : Addr} {ty : FieldType} {n : Nat} {f : Nat → Value} (A : Ai Z h a ty n f) : a < h.size := by obtain ⟨_, A, -⟩ := A; exact A.lt
theorem Ai.ext {h' : Heap} {a : Addr} {ty : FieldType} {n : Nat} {f : Nat → Value} (A : Ai Z h a ty n f) (E : Ext h h') : Ai Z h' a ty n f := by obtain ⟨cl, A, r⟩ := A; exact ⟨cl, A.ext E, r⟩
theorem Ai.other {h' : Heap} {a b : Addr} {ty : FieldType} {n sl : Nat} {v : Value} {f : Nat → Value} (A : Ai Z h b ty n f) (W : Wr h h' a sl v) (q : b ≠ a) : Ai Z h' b ty n f := by obtain ⟨cl, A, r⟩ := A; exact ⟨cl, A.other W q, r⟩
theorem Ai.keep {h' : Heap} {a : Addr} {ty : FieldType} {n : Nat} {f : Nat → Value} {ws : List Addr} (A : Ai Z h a ty n f) (K : Keep h h' ws) (q : a ∉ ws) : Ai Z h' a ty n f := by obtain ⟨cl, A, r⟩ := A; exact ⟨cl, ⟨K.2.1 a cl A.1 q, A.2⟩, r⟩
theorem Ai.set {h' : Heap} {a : Addr} {ty : FieldType} {n : Nat} {f : Nat → Value} {i : Nat} {v : Value} (A : Ai Z h a ty n f) (W : Wr h h' a i v) : Ai Z h' a ty n (upd f i v) := by
  obtain ⟨cl, A, S, B, H⟩ := A
  refine ⟨_, A.same W, by rw [sz_set]; exact S, B, fun j hj => ?_⟩
  by_cases q : j = i
  · subst q
    rw [upd_at]
    simp [Cell.setSlot, S, hj]
  · rw [upd_ne f v q]
    show (cl.slots.setIfInBounds i v)[j]? = _
    rw [Array.getElem?_setIfInBounds_ne (Ne.symm q)]
    exact H j hj
theorem Ai.fn {a : Addr} {ty : FieldType} {n : Nat} {f f' : Nat → Value} (A : Ai Z h a ty n f) (q : ∀ i, i < n → f i = f' i) : Ai Z h a ty n f' := by
  obtain ⟨cl, A, S, B, H⟩ := A
  exact ⟨cl, A, S, B, fun j hj => by rw [← q j hj]; exact H j hj⟩
theorem Ai.inb {cl : Cell} {n : Nat} {j : Int32} (S : cl.slots.size = n) (h0 : ¬ j < 0) (hn : j.toNatClampNeg < n) : ¬ (j < 0 ∨ cl.slots.size ≤ j.toNatClampNeg) := fun q => q.elim h0 fun z => absurd hn (Nat.not_lt.mpr (S ▸ z))
theorem g_newP {aty : ArrayType} {n : Int32} {cap : Nat} (X : Stand p l e R s m args below meth c T locs cells slots) (hx : p.tables.exec = Jvm.exec) (hZ : Z.Warmed39 s.vm) (wd : (Jvm.Cond.arrayClass (newarray.typeOf aty)).before a0 Z = true) (eT : T.heap = h) (hd : decode c.code pc = .ok (.newarray aty, 2)) (hn : ¬ n < 0) (hcap : n.toNatClampNeg ≤ cap) (hb : cap * 8 ≤ 536870912) (hc : cells + 1 ≤ R.cells) (hl : slots + cap ≤ R.slots) (hp : pc + 2 = pc')
    (r : ∀ T' h' a, a = h.size → Stand p l e R s m args below meth c T' locs (cells + 1) (slots + cap) → T'.heap = h' → Ext h h' → Ai Z h' a (newarray.typeOf aty) n.toNatClampNeg (fun _ => defaultValue (newarray.typeOf aty)) → WGo p e below s kc ks Q T' (mkF m pc' Ls (.ref a :: st))) : WGo p e below s kc ks Q T (mkF m pc Ls (.int n :: st)) := by
  subst hp
  obtain ⟨T', h', cA, X', e', E, A, k⟩ := newP X hx hZ wd eT (g := mkF m pc Ls (.int n :: st)) rfl hd rfl hn hcap hb hc hl
  refine (r T' h' _ rfl X' e' E ⟨_, A, sz_new _ _ _, (back32 hn).2, fun i hi => ?_⟩).go k
  simp [newA, hi]
theorem g_len {a : Addr} {ty : FieldType} {n : Nat} {f : Nat → Value} (X : Stand p l e R s m args below meth c T locs cells slots) (hx : p.tables.exec = Jvm.exec) (hZ : Z.Warmed39 s.vm) (eT : T.heap = h) (A : Ai Z h a ty n f) (hd : decode c.code pc = .ok (.arraylength, 1)) (hn : Nat.toInt32 n = x) (hp : pc + 1 = pc') (r : WGo p e below s kc ks Q T (mkF m pc' Ls (.int x :: st))) : WGo p e below s kc ks Q T (mkF m pc Ls (.ref a :: st)) := by
  subst hp
  obtain ⟨cl, A, S, B, H⟩ := A
  rw [← hn, ← S] at r
  exact r.go fun t k => X.arraylength hx (by rw [eT]; exact A.1) (State.isArrayOf_alike hZ.alike A.2.1) (g := mkF m pc Ls (.ref a :: st)) rfl rfl hd t k
theorem g_iaload {a : Addr} {n : Nat} {f : Nat → Value} {j : Int32} {v : Value} (X : Stand p l e R s m args below meth c T locs cells slots) (hx : p.tables.exec = Jvm.exec) (hZ : Z.Warmed39 s.vm) (eT : T.heap = h) (A : Ai Z h a .int n f) (hd : decode c.code pc = .ok (.iaload, 1)) (h0 : ¬ j < 0) (hn : j.toNatClampNeg < n) (hv : f j.toNatClampNeg = v) (hp : pc + 1 = pc') (r : WGo p e below s kc ks Q T (mkF m pc' Ls (v :: st))) : WGo p e below s kc ks Q T (mkF m pc Ls (.int j :: .ref a :: st)) := by
  subst hp hv
  obtain ⟨cl, A, S, B, H⟩ := A
  exact r.go fun t k => X.iaload hx (by rw [eT]; exact A.1) (State.isArrayOf_alike hZ.alike A.2.1) A.2.2 (Ai.inb S h0 hn) (H _ hn) (g := mkF m pc Ls (.int j :: .ref a :: st)) rfl rfl hd t k
theorem g_laload {a : Addr} {n : Nat} {f : Nat → Value} {j : Int32} {v : Value} (X : Stand p l e R s m args below meth c T locs cells slots) (hx : p.tables.exec = Jvm.exec) (hZ : Z.Warmed39 s.vm) (eT : T.heap = h) (A : Ai Z h a .long n f) (hd : decode c.code pc = .ok (.laload, 1)) (h0 : ¬ j < 0) (hn : j.toNatClampNeg < n) (hv : f j.toNatClampNeg = v) (hp : pc + 1 = pc') (r : WGo p e below s kc ks Q T (mkF m pc' Ls (v :: st))) : WGo p e below s kc ks Q T (mkF m pc Ls (.int j :: .ref a :: st)) := by
  subst hp hv
  obtain ⟨cl, A, S, B, H⟩ := A
  exact r.go fun t k => X.laload hx (by rw [eT]; exact A.1) (State.isArrayOf_alike hZ.alike A.2.1) A.2.2 (Ai.inb S h0 hn) (H _ hn) (g := mkF m pc Ls (.int j :: .ref a :: st)) rfl rfl hd t k
theorem g_baloadB {a : Addr} {n : Nat} {f : Nat → Value} {j : Int32} {v : Value} (X : Stand p l e R s m args below meth c T locs cells slots) (hx : p.tables.exec = Jvm.exec) (hZ : Z.Warmed39 s.vm) (eT : T.heap = h) (A : Ai Z h a .byte n f) (hd : decode c.code pc = .ok (.baload, 1)) (h0 : ¬ j < 0) (hn : j.toNatClampNeg < n) (hv : f j.toNatClampNeg = v) (hp : pc + 1 = pc') (r : WGo p e below s kc ks Q T (mkF m pc' Ls (v :: st))) : WGo p e below s kc ks Q T (mkF m pc Ls (.int j :: .ref a :: st)) := by
  subst hp hv
  obtain ⟨cl, A, S, B, H⟩ := A
  exact r.go fun t k => X.baloadBytes hx (by rw [eT]; exact A.1) (State.isArrayOf_alike hZ.alike A.2.1) A.2.2 (Ai.inb S h0 hn) (H _ hn) (g := mkF m pc Ls (.int j :: .ref a :: st)) rfl rfl hd t k
theorem g_baloadZ {a : Addr} {n : Nat} {f : Nat → Value} {j : Int32} {v : Value} (X : Stand p l e R s m args below meth c T locs cells slots) (hx : p.tables.exec = Jvm.exec) (hZ : Z.Warmed39 s.vm) (eT : T.heap = h) (A : Ai Z h a .boolean n f) (hd : decode c.code pc = .ok (.baload, 1)) (h0 : ¬ j < 0) (hn : j.toNatClampNeg < n) (hv : f j.toNatClampNeg = v) (hp : pc + 1 = pc') (r : WGo p e below s kc ks Q T (mkF m pc' Ls (v :: st))) : WGo p e below s kc ks Q T (mkF m pc Ls (.int j :: .ref a :: st)) := by
  subst hp hv
  obtain ⟨cl, A, S, B, H⟩ := A
  exact r.go fun t k => X.baloadBooleans hx (by rw [eT]; exact A.1) (State.isArrayOf_alike hZ.alike A.2.1) A.2.2 (Ai.inb S h0 hn) (H _ hn) (g := mkF m pc Ls (.int j :: .ref a :: st)) rfl rfl hd t k
theorem g_aaload {a : Addr} {ty : FieldType} {n : Nat} {f : Nat → Value} {j : Int32} {v : Value} (X : Stand p l e R s m args below meth c T locs cells slots) (hx : p.tables.exec = Jvm.exec) (hZ : Z.Warmed39 s.vm) (eT : T.heap = h) (hty : ty.isReference = true) (A : Ai Z h a ty n f) (hd : decode c.code pc = .ok (.aaload, 1)) (h0 : ¬ j < 0) (hn : j.toNatClampNeg < n) (hv : f j.toNatClampNeg = v) (hp : pc + 1 = pc') (r : WGo p e below s kc ks Q T (mkF m pc' Ls (v :: st))) : WGo p e below s kc ks Q T (mkF m pc Ls (.int j :: .ref a :: st)) := by
  subst hp hv
  obtain ⟨cl, A, S, B, H⟩ := A
  exact r.go fun t k => X.aaload hx (by rw [eT]; exact A.1) (State.isArrayOf_alike hZ.alike A.2.1) hty A.2.2 (Ai.inb S h0 hn) (H _ hn) (g := mkF m pc Ls (.int j :: .ref a :: st)) rfl rfl hd t k
theorem g_iastore {a : Addr} {n : Nat} {f : Nat → Value} {j : Int32} (X : Stand p l e R s m args below meth c T locs cells slots) (hx : p.tables.exec = Jvm.exec) (hZ : Z.Warmed39 s.vm) (eT : T.heap = h) (A : Ai Z h a .int n f) (hd : decode c.code pc = .ok (.iastore, 1)) (h0 : ¬ j < 0) (hn : j.toNatClampNeg < n) (hp : pc + 1 = pc')
    (r : ∀ T' h', Stand p l e R s m args below meth c T' (locs ++ [⟨a, j.toNatClampNeg⟩]) cells slots → T'.heap = h' → Wr h h' a j.toNatClampNeg (.int x) → Ai Z h' a .int n (upd f j.toNatClampNeg (.int x)) → WGo p e below s kc ks Q T' (mkF m pc' Ls st)) : WGo p e below s kc ks Q T (mkF m pc Ls (.int x :: .int j :: .ref a :: st)) := by
  subst hp
  have A0 := A
  obtain ⟨cl, A, S, B, H⟩ := A
  obtain ⟨T', h', X', e', W, k⟩ := stI X hx hZ eT A (Ai.inb S h0 hn) (g := mkF m pc Ls (.int x :: .int j :: .ref a :: st)) rfl rfl hd
  exact (r T' h' X' e' W (A0.set W)).go k
theorem g_lastore {a : Addr} {n : Nat} {f : Nat → Value} {j : Int32} (X : Stand p l e R s m args below meth c T locs cells slots) (hx : p.tables.exec = Jvm.exec) (hZ : Z.Warmed39 s.vm) (eT : T.heap = h) (A : Ai Z h a .long n f) (hd : decode c.code pc = .ok (.lastore, 1)) (h0 : ¬ j < 0) (hn : j.toNatClampNeg < n) (hp : pc + 1 = pc')
    (r : ∀ T' h', Stand p l e R s m args below meth c T' (locs ++ [⟨a, j.toNatClampNeg⟩]) cells slots → T'.heap = h' → Wr h h' a j.toNatClampNeg (.long u) → Ai Z h' a .long n (upd f j.toNatClampNeg (.long u)) → WGo p e below s kc ks Q T' (mkF m pc' Ls st)) : WGo p e below s kc ks Q T (mkF m pc Ls (.long u :: .int j :: .ref a :: st)) := by
  subst hp
  have A0 := A
  obtain ⟨cl, A, S, B, H⟩ := A
  obtain ⟨T', h', X', e', W, k⟩ := stJ X hx hZ eT A (Ai.inb S h0 hn) (g := mkF m pc Ls (.long u :: .int j :: .ref a :: st)) rfl rfl hd
  exact (r T' h' X' e' W (A0.set W)).go k
theorem g_bastoreB {a : Addr} {n : Nat} {f : Nat → Value} {j : Int32} (X : Stand p l e R s m args below meth c T locs cells slots) (hx : p.tables.exec = Jvm.exec) (hZ : Z.Warmed39 s.vm) (eT : T.heap = h) (A : Ai Z h a .byte n f) (hd : decode c.code pc = .ok (.bastore, 1)) (h0 : ¬ j < 0) (hn : j.toNatClampNeg < n) (hp : pc + 1 = pc')
    (r : ∀ T' h', Stand p l e R s m args below meth c T' (locs ++ [⟨a, j.toNatClampNeg⟩]) cells slots → T'.heap = h' → Wr h h' a j.toNatClampNeg (.int (nar .byte x)) → Ai Z h' a .byte n (upd f j.toNatClampNeg (.int (nar .byte x))) → WGo p e below s kc ks Q T' (mkF m pc' Ls st)) : WGo p e below s kc ks Q T (mkF m pc Ls (.int x :: .int j :: .ref a :: st)) := by
  subst hp
  have A0 := A
  obtain ⟨cl, A, S, B, H⟩ := A
  obtain ⟨T', h', X', e', W, k⟩ := stB X hx hZ eT A (Ai.inb S h0 hn) (g := mkF m pc Ls (.int x :: .int j :: .ref a :: st)) rfl rfl hd
  exact (r T' h' X' e' W (A0.set W)).go k
theorem g_bastoreZ {a : Addr} {n : Nat} {f : Nat → Value} {j : Int32} (X : Stand p l e R s m args below meth c T locs cells slots) (hx : p.tables.exec = Jvm.exec) (hZ : Z.Warmed39 s.vm) (eT : T.heap = h) (A : Ai Z h a .boolean n f) (hd : decode c.code pc = .ok (.bastore, 1)) (h0 : ¬ j < 0) (hn : j.toNatClampNeg < n) (hp : pc + 1 = pc')
    (r : ∀ T' h', Stand p l e R s m args below meth c T' (locs ++ [⟨a, j.toNatClampNeg⟩]) cells slots → T'.heap = h' → Wr h h' a j.toNatClampNeg (.int (nar .boolean x)) → Ai Z h' a .boolean n (upd f j.toNatClampNeg (.int (nar .boolean x))) → WGo p e below s kc ks Q T' (mkF m pc' Ls st)) : WGo p e below s kc ks Q T (mkF m pc Ls (.int x :: .int j :: .ref a :: st)) := by
  subst hp
  have A0 := A
  obtain ⟨cl, A, S, B, H⟩ := A
  obtain ⟨T', h', X', e', W, k⟩ := stZ X hx hZ eT A (Ai.inb S h0 hn) (g := mkF m pc Ls (.int x :: .int j :: .ref a :: st)) rfl rfl hd
  exact (r T' h' X' e' W (A0.set W)).go k
theorem g_aastore {a : Addr} {ty : FieldType} {v : Value} {n : Nat} {f : Nat → Value} {j : Int32} (X : Stand p l e R s m args below meth c T locs cells slots) (hx : p.tables.exec = Jvm.exec) (hZ : Z.Warmed39 s.vm) (eT : T.heap = h) (hty : ty.isReference = true) (F : Sto Z h a v) (A : Ai Z h a ty n f) (hd : decode c.code pc = .ok (.aastore, 1)) (h0 : ¬ j < 0) (hn : j.toNatClampNeg < n) (hp : pc + 1 = pc')
    (r : ∀ T' h', Stand p l e R s m args below meth c T' (locs ++ [⟨a, j.toNatClampNeg⟩]) cells slots → T'.heap = h' → Wr h h' a j.toNatClampNeg (v) → Ai Z h' a ty n (upd f j.toNatClampNeg (v)) → WGo p e below s kc ks Q T' (mkF m pc' Ls st)) : WGo p e below s kc ks Q T (mkF m pc Ls (v :: .int j :: .ref a :: st)) := by
  subst hp
  have A0 := A
  obtain ⟨cl, A, S, B, H⟩ := A
  obtain ⟨T', h', X', e', W, k⟩ := stR X hx hZ eT A (Ai.inb S h0 hn) hty F (g := mkF m pc Ls (v :: .int j :: .ref a :: st)) rfl rfl hd
  exact (r T' h' X' e' W (A0.set W)).go k
/-! arrays of ints, bytes, booleans by the list of what they hold; arrays of longs too -/
def Al (Z : State) (h : Heap) (a : Addr) (ty : FieldType) (n : Nat) (L : List Int32) : Prop := L.length = n ∧ Ai Z h a ty n (fun i => .int (L.getD i 0))
def Aj (Z : State) (h : Heap) (a : Addr) (ty : FieldType) (n : Nat) (L : List Int64) : Prop := L.length = n ∧ Ai Z h a ty n (fun i => .long (L.getD i 0))
section Lists
variable {h' : Heap} {a b : Addr} {ty : FieldType} {n sl k : Nat} {v : Value} {L : List Int32} {M : List Int64} {ws : List Addr}
theorem Al.lt (A : Al Z h a ty n L) : a < h.size := A.2.lt
theorem Aj.lt (A : Aj Z h a ty n M) : a < h.size := A.2.lt
theorem Al.ext (A : Al Z h a ty n L) (E : Ext h h') : Al Z h' a ty n L := ⟨A.1, A.2.ext E⟩
theorem Aj.ext (A : Aj Z h a ty n M) (E : Ext h h') : Aj Z h' a ty n M := ⟨A.1, A.2.ext E⟩
theorem Al.other (A : Al Z h b ty n L) (W : Wr h h' a sl v) (q : b ≠ a) : Al Z h' b ty n L := ⟨A.1, A.2.other W q⟩
theorem Aj.other (A : Aj Z h b ty n M) (W : Wr h h' a sl v) (q : b ≠ a) : Aj Z h' b ty n M := ⟨A.1, A.2.other W q⟩
theorem Al.keep (A : Al Z h a ty n L) (K : Keep h h' ws) (q : a ∉ ws) : Al Z h' a ty n L := ⟨A.1, A.2.keep K q⟩
theorem Aj.keep (A : Aj Z h a ty n M) (K : Keep h h' ws) (q : a ∉ ws) : Aj Z h' a ty n M := ⟨A.1, A.2.keep K q⟩
theorem Al.new (A : Ai Z h a ty n (fun _ => .int 0)) : Al Z h a ty n (List.replicate n 0) := ⟨by simp, A.fn fun i hi => by simp [List.getD, hi]⟩
theorem Aj.new (A : Ai Z h a ty n (fun _ => .long 0)) : Aj Z h a ty n (List.replicate n 0) := ⟨by simp, A.fn fun i hi => by simp [List.getD, hi]⟩
theorem Al.set (A : Al Z h a ty n L) (B : Ai Z h' a ty n (upd (fun i => .int (L.getD i 0)) k (.int x))) : Al Z h' a ty n (L.set k x) := ⟨by simp [A.1], B.fn fun i hi => by
  by_cases q : i = k
  · subst q; rw [upd_at]; simp [List.getD, A.1, hi]
  · rw [upd_ne _ _ q]; simp [List.getD, List.getElem?_set_ne (Ne.symm q)]⟩
theorem Aj.set (A : Aj Z h a ty n M) (B : Ai Z h' a ty n (upd (fun i => .long (M.getD i 0)) k (.long u))) : Aj Z h' a ty n (M.set k u) := ⟨by simp [A.1], B.fn fun i hi => by
  by_cases q : i = k
  · subst q; rw [upd_at]; simp [List.getD, A.1, hi]
  · rw [upd_ne _ _ q]; simp [List.getD, List.getElem?_set_ne (Ne.symm q)]⟩
end Lists
/-! instanceof, checkcast -/
theorem g_instY {own K : String} {index : Nat} {a : Addr} (X : Stand p l e R s m args below meth c T locs cells slots) (hx : p.tables.exec = Jvm.exec) (hZ : Z.Warmed39 s.vm) (hown : s.vm.findClass own = some m.cls) (wd : (Jvm.Cond.classLink own index K).before a0 Z = true) (eT : T.heap = h) (F : Ins Z h a K true) (hd : decode c.code pc = .ok (.instanceof index, 3)) (hp : pc + 3 = pc')
    (r : ∀ T', Stand p l e R s m args below meth c T' locs cells slots → T'.heap = h → WGo p e below s kc ks Q T' (mkF m pc' Ls (.int 1 :: st))) : WGo p e below s kc ks Q T (mkF m pc Ls (.ref a :: st)) := by
  subst hp
  obtain ⟨T', X', e', k⟩ := instY X hx hZ hown wd eT F (g := mkF m pc Ls (.ref a :: st)) rfl rfl hd
  exact (r T' X' e').go k
theorem g_instN {own K C : String} {index : Nat} {a : Addr} (X : Stand p l e R s m args below meth c T locs cells slots) (hx : p.tables.exec = Jvm.exec) (hZ : Z.Warmed39 s.vm) (hown : s.vm.findClass own = some m.cls) (wd : (Jvm.Cond.classLink own index K).before a0 Z = true) (eT : T.heap = h) (E : Exa Z h a C) (F : ∃ c t, Z.vm.findClass C = some c ∧ Z.vm.findClass K = some t ∧ Z.vm.assignable c t = false) (hd : decode c.code pc = .ok (.instanceof index, 3)) (hp : pc + 3 = pc')
    (r : ∀ T', Stand p l e R s m args below meth c T' locs cells slots → T'.heap = h → WGo p e below s kc ks Q T' (mkF m pc' Ls (.int 0 :: st))) : WGo p e below s kc ks Q T (mkF m pc Ls (.ref a :: st)) := by
  subst hp
  obtain ⟨T', X', e', k⟩ := instNo X hx hZ hown wd eT E F (g := mkF m pc Ls (.ref a :: st)) rfl rfl hd
  exact (r T' X' e').go k
theorem g_inst0 {index : Nat} (X : Stand p l e R s m args below meth c T locs cells slots) (hx : p.tables.exec = Jvm.exec) (hd : decode c.code pc = .ok (.instanceof index, 3)) (hp : pc + 3 = pc') (r : WGo p e below s kc ks Q T (mkF m pc' Ls (.int 0 :: st))) : WGo p e below s kc ks Q T (mkF m pc Ls (.null :: st)) := by
  subst hp; exact r.go fun t k => X.instanceofNull hx (g := mkF m pc Ls (.null :: st)) rfl rfl hd t k
theorem g_castY {own K : String} {index : Nat} {a : Addr} (X : Stand p l e R s m args below meth c T locs cells slots) (hx : p.tables.exec = Jvm.exec) (hZ : Z.Warmed39 s.vm) (hown : s.vm.findClass own = some m.cls) (wd : (Jvm.Cond.classLink own index K).before a0 Z = true) (eT : T.heap = h) (F : Ins Z h a K true) (hd : decode c.code pc = .ok (.checkcast index, 3)) (hp : pc + 3 = pc')
    (r : ∀ T', Stand p l e R s m args below meth c T' locs cells slots → T'.heap = h → WGo p e below s kc ks Q T' (mkF m pc' Ls (.ref a :: st))) : WGo p e below s kc ks Q T (mkF m pc Ls (.ref a :: st)) := by
  subst hp
  obtain ⟨T', X', e', k⟩ := castY X hx hZ hown wd eT F (g := mkF m pc Ls (.ref a :: st)) rfl rfl hd
  exact (r T' X' e').go k
end OwnKit

theorem pd_0 : parseMethodDescriptor "()B" = some ⟨[], some .byte⟩ := by decide +kernel
theorem pd_1 : parseMethodDescriptor "(IILjava/util/function/BiFunction;)I" = some ⟨[.int, .int, (.object "java/util/function/BiFunction")], some .int⟩ := by decide +kernel
theorem pd_2 : parseMethodDescriptor "(II)V" = some ⟨[.int, .int], none⟩ := by decide +kernel
theorem pd_3 : parseMethodDescriptor "()Z" = some ⟨[], some .boolean⟩ := by decide +kernel
theorem pd_4 : parseMethodDescriptor "([BI)C" = some ⟨[(.array .byte), .int], some .char⟩ := by decide +kernel
theorem pd_5 : parseMethodDescriptor "()I" = some ⟨[], some .int⟩ := by decide +kernel
theorem pd_6 : parseMethodDescriptor "(I)C" = some ⟨[.int], some .char⟩ := by decide +kernel
theorem pd_7 : parseMethodDescriptor "(C)Lcom/example/scopewright/scopewright/Permission;" = some ⟨[.char], some (.object "com/example/scopewright/scopewright/Permission")⟩ := by decide +kernel

def ofL (c0 c1 c2 c3 c4 : Addr) (ch : Int32) : Value := if ch = (99 : Int32) then .ref c0 else if ch = (114 : Int32) then .ref c1 else if ch = (117 : Int32) then .ref c2 else if ch = (100 : Int32) then .ref c3 else if ch = (115 : Int32) then .ref c4 else .null
theorem ofL_ref (c0 c1 c2 c3 c4 : Addr) (ch : Int32) : (ofL c0 c1 c2 c3 c4 ch).isRef = true := by
  unfold ofL; (repeat' split) <;> rfl
theorem ix_ok (y : Int32) : (¬ ((XT.ushr y (1 : Int32)) % (11 : Int32)) < 0) ∧ ((XT.ushr y (1 : Int32)) % (11 : Int32)) < (11 : Int32) ∧ ((XT.ushr y (1 : Int32)) % (11 : Int32)).toNatClampNeg < 11 := by
  have h1 := c_iushr y 1 1 (by decide) (by decide)
  have h2 : XT.ushr y 1 = (y.toUInt32 >>> ((1 : Int32) &&& 31).toUInt32).toInt32 := rfl
  rw [← h2] at h1
  simp only [Nat.reducePow, Int.cast_ofNat_Int] at h1
  have h3 := (c_irem (XT.ushr y 1) (11 : Int32) 11 (by decide)).1 (by omega)
  generalize (XT.ushr y (1 : Int32)) % (11 : Int32) = z at *
  refine ⟨?_, ?_, ?_⟩
  · rw [Int32.lt_iff_toInt_lt]; simp only [Int32.reduceToInt]; omega
  · rw [Int32.lt_iff_toInt_lt]; simp only [Int32.reduceToInt]; omega
  · show Int.toNat _ < 11
    omega
section OwnWide
variable {p : Program} {l : Launch} {e : Env} {R : Room} {s : State} {m : MethodId} {args : Array Value} {below : List Frame} {meth : Method} {c : Code} {T : State} {locs : List Loc} {cells slots : Nat} {Z : State} {a0 : Array Value} {h : Heap} {kc ks : Nat} {Q : Option Value → Heap → List Loc → Prop}
def GW (p : Program) (e : Env) (below : List Frame) (s : State) (kc ks : Nat) (Q : Option Value → Heap → List Loc → Prop) (T : State) (f : JFrame) : Prop :=
  ∃ s₂ o, Steps p.tables e below (T.setTop f) s₂ ∧ s₂.status = .running ∧ Ended s₂ below o ∧ ∃ v L, o = .returned v ∧ Q v s₂.heap L ∧ FramedW s o s₂ L kc ks
theorem GW.go {T' : State} {f f' : JFrame} (k : ∀ t, Steps p.tables e below (T'.setTop f') t → Steps p.tables e below (T.setTop f) t) (r : GW p e below s kc ks Q T' f') : GW p e below s kc ks Q T f := by
  obtain ⟨s₂, o, h1, r⟩ := r
  exact ⟨s₂, o, k _ h1, r⟩
theorem GW.cast {f f' : JFrame} (q : f = f') (r : GW p e below s kc ks Q T f') : GW p e below s kc ks Q T f := q ▸ r
theorem GW.of {f : JFrame} (r : WGo p e below s kc ks Q T f) : GW p e below s kc ks Q T f := by
  obtain ⟨s₂, o, h1, h2, h3, v, L, h4, h5, h6⟩ := r
  exact ⟨s₂, o, h1, h2, h3, v, L, h4, h5, Jvm.RoadKit.wide h6⟩
theorem GW.since {f : JFrame} {vm1 : Vm} {n : Nat} (hS : s.Since vm1 n) (r : WGo p e below (s.setVm vm1) kc ks (fun v hh L => Q v hh L ∧ n ≤ hh.size) T f) : GW p e below s kc ks Q T f := by
  obtain ⟨s₂, o, h1, h2, h3, v, L, h4, h5, h6⟩ := r
  obtain ⟨w1, w2, w3⟩ := h6
  obtain ⟨q1, q2, q3⟩ := hS.ended w2 h5.2 w3
  exact ⟨s₂, o, h1, h2, h3, v, L, h4, h5.1, w1, q1, q2, q3⟩
theorem arv_al {a : Addr} {k : ClassId} {ty : FieldType} {z : Int32} {n : Nat} {L : List Int32} {vs : List Value} (F : Arv Z h a k ty z vs (.int 0)) (hv : vs = L.map Value.int) (hn : z.toNatClampNeg = n) (hl : L.length = n) : Al Z h a ty n L := by
  obtain ⟨c, A, q1, S, q3, H, G⟩ := F
  refine ⟨hl, c, A, S.trans hn, by rw [← hn]; exact (back32 q3).2, fun i hi => ?_⟩
  rw [H i (by rw [S, hn]; exact hi), hv]
  simp [List.getD, hl, hi]
theorem arv_ex {α : Type} {a : Addr} {k : ClassId} {ty : FieldType} {z : Int32} {n : Nat} {U : List α} {f : α → Int32} (F : Arv Z h a k ty z (U.map fun c => Value.int (f c)) (.int 0)) (hn : z.toNatClampNeg = n) (hl : U.length = n) : ∃ L : List Int32, Al Z h a ty n L :=
  ⟨U.map f, arv_al F (by rw [List.map_map]; rfl) hn (by rw [List.length_map]; exact hl)⟩
end OwnWide


theorem eqv_r {Z : State} {args : Array Value} {A B : Term} {idx : List Nat} {y : Addr} (hB : B.eval args Z none idx Z = some (.ref y)) (h : (Jvm.Cond.eq A B).value args Z none Z idx = some true) : A.eval args Z none idx Z = some (.ref y) := by
  obtain ⟨x, y', e1, e2, k1, k2⟩ := cmp_v (Or.inl h)
  cases hB.symm.trans e2
  have q : x = .ref y := gotT (eq_R e1 hB k2.2 rfl) h
  rw [e1, q]

theorem d2_0 : decode jdk_42_method_152_code 0 = .ok (.getstatic 38, 3) := by decide +kernel
theorem d2_3 : decode jdk_42_method_152_code 3 = .ok (.ifCond .eq 10, 3) := by decide +kernel
theorem d2_6 : decode jdk_42_method_152_code 6 = .ok (.aload_n 0, 1) := by decide +kernel
theorem d2_7 : decode jdk_42_method_152_code 7 = .ok (.getfield 15, 3) := by decide +kernel
theorem d2_10 : decode jdk_42_method_152_code 10 = .ok (.goto 4, 3) := by decide +kernel
theorem d2_13 : decode jdk_42_method_152_code 13 = .ok (.iconst 1, 1) := by decide +kernel
theorem d2_14 : decode jdk_42_method_152_code 14 = .ok (.ireturn, 1) := by decide +kernel
theorem pl_2 : plainFor (⟨"java/lang/String", "coder", "()B"⟩ : MethodName) = true := plainFor_of_name (by first | (simp [plainName, overriddenIn]; done) | decide +kernel)
theorem ef_rmCod (m : MethodId) (z0 : Addr) : entryFrame m #[(.ref z0)] 1 = mkF m 0 #[.val (.ref z0)] [] := by first | (simp [entryFrame, mkF, argsToLocals, Value.category]; done) | rfl
set_option maxRecDepth 65536 in
set_option maxHeartbeats 40000000 in
theorem rmCod (l : Launch) (Z : State) (a0 : Array Value) (hw : ∀ d ∈ tables_1, d.before a0 Z = true) (sa : Addr) (cs : Int32) (h0 : Heap) (n0 : Nat) (Zn : n0 ≤ h0.size) (F_sa_coder : Fld Z h0 sa "java/lang/String" "coder" "B" (.int (0 : Int32))) (S_COMPACT_STRINGS : Sta Z h0 "java/lang/String" "COMPACT_STRINGS" "Z" (.int cs)) (hcs : ¬ cs = 0) :
    WCt l Z (⟨"java/lang/String", "coder", "()B"⟩ : MethodName) jdk_42_method_152_code 1 (some .byte) ({ frames := 0, cells := 0, slots := 0, locals := 0 } : Room) #[(.ref sa)] h0 (fun vv hh LL => (vv = some (.int (0 : Int32))) ∧ (Fr n0 LL) ∧ (hh = h0)) := by
  refine WCt.of pl_2 ?_
  intro p e s m below meth c T hx hby hml hown hnm hret hlk hZ hh0 X eT
  have hown : s.vm.findClass "java/lang/String" = some m.cls := hown
  have hnm : meth.name = "coder" := hnm
  have N := Fr.nil n0
  obtain ⟨h, eh⟩ : ∃ h, h = h0 := ⟨_, rfl⟩
  have K : Keep h0 h [] := by rw [eh]; exact Keep.refl _ _
  refine WGo.cast (ef_rmCod m sa) ?_
  rw [← eh] at eT Zn F_sa_coder S_COMPACT_STRINGS
  refine g_getS X hx hZ hown (hw _ (List.mem_of_getElem? (i := 19) rfl)) eT S_COMPACT_STRINGS (hb hby d2_0) (pc' := 3) rfl (fun T X eT => ?_)
  refine g_if X hx (hb hby d2_3) (by decide) (pc' := 13) (by decide) (pc2 := 6) rfl (fun hc => ?_) (fun hc => ?_)
  · replace hc := h_eq1 hc
    have hc3 := hc
    exfalso
    exact hcs hc
  · replace hc := h_eq0 hc
    have hc3 := hc
    refine g_aloadN X hx (hb hby d2_6) rfl rfl (pc' := 7) rfl ?_
    refine g_getF X hx hZ hown (hw _ (List.mem_of_getElem? (i := 20) rfl)) eT F_sa_coder (hb hby d2_7) (pc' := 10) rfl (fun T X eT => ?_)
    refine g_goto X hx (hb hby d2_10) (by decide) (pc' := 14) (by decide) ?_
    refine g_retN (t := .byte) X hx hret (by simp) hlk (hb hby d2_14) (by decide) (by decide) ?_
    rw [eT]
    exact ⟨congrArg (fun z => some (Value.int z)) (by decide), N, eh⟩
theorem d1_0 : decode jdk_42_method_54_code 0 = .ok (.aload_n 0, 1) := by decide +kernel
theorem d1_1 : decode jdk_42_method_54_code 1 = .ok (.getfield 9, 3) := by decide +kernel
theorem d1_4 : decode jdk_42_method_54_code 4 = .ok (.arraylength, 1) := by decide +kernel
theorem d1_5 : decode jdk_42_method_54_code 5 = .ok (.aload_n 0, 1) := by decide +kernel
theorem d1_6 : decode jdk_42_method_54_code 6 = .ok (.invokevirtual 335, 3) := by decide +kernel
theorem d1_9 : decode jdk_42_method_54_code 9 = .ok (.ishr, 1) := by decide +kernel
theorem d1_10 : decode jdk_42_method_54_code 10 = .ok (.ireturn, 1) := by decide +kernel
theorem pl_1 : plainFor (⟨"java/lang/String", "length", "()I"⟩ : MethodName) = true := plainFor_of_name (by first | (simp [plainName, overriddenIn]; done) | decide +kernel)
theorem ef_rmLen (m : MethodId) (z0 : Addr) : entryFrame m #[(.ref z0)] 1 = mkF m 0 #[.val (.ref z0)] [] := by first | (simp [entryFrame, mkF, argsToLocals, Value.category]; done) | rfl
set_option maxRecDepth 65536 in
set_option maxHeartbeats 40000000 in
theorem rmLen (l : Launch) (Z : State) (a0 : Array Value) (hw : ∀ d ∈ tables_1, d.before a0 Z = true) (sa : Addr) (sb : Addr) (L : List Int32) (cs : Int32) (h0 : Heap) (n0 : Nat) (Zn : n0 ≤ h0.size) (E_sa : Exa Z h0 sa "java/lang/String") (F_sa_value : Fld Z h0 sa "java/lang/String" "value" "[B" (.ref sb)) (F_sa_coder : Fld Z h0 sa "java/lang/String" "coder" "B" (.int (0 : Int32))) (A_sb : Al Z h0 sb .byte 11 L) (S_COMPACT_STRINGS : Sta Z h0 "java/lang/String" "COMPACT_STRINGS" "Z" (.int cs)) (hcs : ¬ cs = 0) :
    WCt l Z (⟨"java/lang/String", "length", "()I"⟩ : MethodName) jdk_42_method_54_code 1 (some .int) ({ frames := 1, cells := 0, slots := 0, locals := 13 } : Room) #[(.ref sa)] h0 (fun vv hh LL => (vv = some (.int (11 : Int32))) ∧ (Fr n0 LL) ∧ (hh = h0)) := by
  refine WCt.of pl_1 ?_
  intro p e s m below meth c T hx hby hml hown hnm hret hlk hZ hh0 X eT
  have hown : s.vm.findClass "java/lang/String" = some m.cls := hown
  have hnm : meth.name = "length" := hnm
  have N := Fr.nil n0
  obtain ⟨h, eh⟩ : ∃ h, h = h0 := ⟨_, rfl⟩
  have K : Keep h0 h [] := by rw [eh]; exact Keep.refl _ _
  refine WGo.cast (ef_rmLen m sa) ?_
  rw [← eh] at eT Zn E_sa F_sa_value F_sa_coder A_sb S_COMPACT_STRINGS
  refine g_aloadN X hx (hb hby d1_0) rfl rfl (pc' := 1) rfl ?_
  refine g_getF X hx hZ hown (hw _ (List.mem_of_getElem? (i := 13) rfl)) eT F_sa_value (hb hby d1_1) (pc' := 4) rfl (fun T X eT => ?_)
  refine g_len X hx hZ eT A_sb.2 (hb hby d1_4) (x := (11 : Int32)) (by decide) (pc' := 5) rfl ?_
  refine g_aloadN X hx (hb hby d1_5) rfl rfl (pc' := 6) rfl ?_
  refine g_virt (W := 1) (argsL := []) (st := [(.int (11 : Int32))]) X hx hZ hown (hw _ (List.mem_of_getElem? (i := 14) rfl)) (hw _ (List.mem_of_getElem? (i := 15) rfl)) (notFace_of_selects (args := #[]) (mvT hZ (hw _ (List.mem_of_getElem? (i := 17) rfl)))) (hw _ (List.mem_of_getElem? (i := 17) rfl)) (hw _ (List.mem_of_getElem? (i := 16) rfl)) (hw _ (List.mem_of_getElem? (i := 18) rfl)) (hw _ (List.mem_of_getElem? (i := 1) rfl)) (by decide) E_sa (rmCod l Z a0 hw sa cs h n0 Zn F_sa_coder S_COMPACT_STRINGS hcs) eT (by decide) (by decide) (by decide) (by decide) (lenOf pd_0 rfl) (by rw [hml]; rfl) rfl (Nat.le_of_eq rfl) (hb hby d1_6) (pc' := 9) rfl (fun T hn vq Lq X eT hQ => ?_)
  obtain ⟨rfl, Nq, hE⟩ := hQ
  replace N := Fr.app N Nq
  rw [hE] at eT; clear hE
  show WGo _ _ _ _ _ _ _ _ (mkF m 9 #[.val (.ref sa)] [(.int (0 : Int32)), (.int (11 : Int32))])
  refine g_ishr X hx (hb hby d1_9) (pc' := 10) rfl ?_
  refine g_retI X hx hret hlk (hb hby d1_10) (by decide) (by decide) ?_
  rw [eT]
  exact ⟨congrArg (fun z => some (Value.int z)) (by decide), N, eh⟩
theorem d4_0 : decode jdk_42_method_154_code 0 = .ok (.getstatic 38, 3) := by decide +kernel
theorem d4_3 : decode jdk_42_method_154_code 3 = .ok (.ifCond .eq 14, 3) := by decide +kernel
theorem d4_6 : decode jdk_42_method_154_code 6 = .ok (.aload_n 0, 1) := by decide +kernel
theorem d4_7 : decode jdk_42_method_154_code 7 = .ok (.getfield 15, 3) := by decide +kernel
theorem d4_10 : decode jdk_42_method_154_code 10 = .ok (.ifCond .ne 7, 3) := by decide +kernel
theorem d4_13 : decode jdk_42_method_154_code 13 = .ok (.iconst 1, 1) := by decide +kernel
theorem d4_14 : decode jdk_42_method_154_code 14 = .ok (.goto 4, 3) := by decide +kernel
theorem d4_17 : decode jdk_42_method_154_code 17 = .ok (.iconst 0, 1) := by decide +kernel
theorem d4_18 : decode jdk_42_method_154_code 18 = .ok (.ireturn, 1) := by decide +kernel
theorem pl_4 : plainFor (⟨"java/lang/String", "isLatin1", "()Z"⟩ : MethodName) = true := plainFor_of_name (by first | (simp [plainName, overriddenIn]; done) | decide +kernel)
theorem ef_rmLat (m : MethodId) (z0 : Addr) : entryFrame m #[(.ref z0)] 1 = mkF m 0 #[.val (.ref z0)] [] := by first | (simp [entryFrame, mkF, argsToLocals, Value.category]; done) | rfl
set_option maxRecDepth 65536 in
set_option maxHeartbeats 40000000 in
theorem rmLat (l : Launch) (Z : State) (a0 : Array Value) (hw : ∀ d ∈ tables_1, d.before a0 Z = true) (sa : Addr) (cs : Int32) (h0 : Heap) (n0 : Nat) (Zn : n0 ≤ h0.size) (F_sa_coder : Fld Z h0 sa "java/lang/String" "coder" "B" (.int (0 : Int32))) (S_COMPACT_STRINGS : Sta Z h0 "java/lang/String" "COMPACT_STRINGS" "Z" (.int cs)) (hcs : ¬ cs = 0) :
    WCt l Z (⟨"java/lang/String", "isLatin1", "()Z"⟩ : MethodName) jdk_42_method_154_code 1 (some .boolean) ({ frames := 0, cells := 0, slots := 0, locals := 0 } : Room) #[(.ref sa)] h0 (fun vv hh LL => (vv = some (.int (1 : Int32))) ∧ (Fr n0 LL) ∧ (hh = h0)) := by
  refine WCt.of pl_4 ?_
  intro p e s m below meth c T hx hby hml hown hnm hret hlk hZ hh0 X eT
  have hown : s.vm.findClass "java/lang/String" = some m.cls := hown
  have hnm : meth.name = "isLatin1" := hnm
  have N := Fr.nil n0
  obtain ⟨h, eh⟩ : ∃ h, h = h0 := ⟨_, rfl⟩
  have K : Keep h0 h [] := by rw [eh]; exact Keep.refl _ _
  refine WGo.cast (ef_rmLat m sa) ?_
  rw [← eh] at eT Zn F_sa_coder S_COMPACT_STRINGS
  refine g_getS X hx hZ hown (hw _ (List.mem_of_getElem? (i := 19) rfl)) eT S_COMPACT_STRINGS (hb hby d4_0) (pc' := 3) rfl (fun T X eT => ?_)
  refine g_if X hx (hb hby d4_3) (by decide) (pc' := 17) (by decide) (pc2 := 6) rfl (fun hc => ?_) (fun hc => ?_)
  · replace hc := h_eq1 hc
    have hc3 := hc
    exfalso
    exact hcs hc
  · replace hc := h_eq0 hc
    have hc3 := hc
    refine g_aloadN X hx (hb hby d4_6) rfl rfl (pc' := 7) rfl ?_
    refine g_getF X hx hZ hown (hw _ (List.mem_of_getElem? (i := 20) rfl)) eT F_sa_coder (hb hby d4_7) (pc' := 10) rfl (fun T X eT => ?_)
    refine g_if X hx (hb hby d4_10) (by decide) (pc' := 17) (by decide) (pc2 := 13) rfl (fun hc => ?_) (fun hc => ?_)
    · replace hc := h_ne1 hc
      have hc10 := hc
      exfalso
      clear hc10; revert hc; decide
    · replace hc := h_ne0 hc
      have hc10 := hc
      refine g_iconst X hx (hb hby d4_13) (x := (1 : Int32)) (by decide) (pc' := 14) rfl ?_
      refine g_goto X hx (hb hby d4_14) (by decide) (pc' := 18) (by decide) ?_
      refine g_retN (t := .boolean) X hx hret (by simp) hlk (hb hby d4_18) (by decide) (by decide) ?_
      rw [eT]
      exact ⟨congrArg (fun z => some (Value.int z)) (by decide), N, eh⟩
theorem d7_0 : decode jdk_41_method_11_code 0 = .ok (.iload_n 0, 1) := by decide +kernel
theorem d7_1 : decode jdk_41_method_11_code 1 = .ok (.ifCond .lt 8, 3) := by decide +kernel
theorem d7_4 : decode jdk_41_method_11_code 4 = .ok (.iload_n 0, 1) := by decide +kernel
theorem d7_5 : decode jdk_41_method_11_code 5 = .ok (.iload_n 1, 1) := by decide +kernel
theorem d7_6 : decode jdk_41_method_11_code 6 = .ok (.if_icmp .lt 10, 3) := by decide +kernel
theorem d7_9 : decode jdk_41_method_11_code 9 = .ok (.aload_n 2, 1) := by decide +kernel
theorem d7_10 : decode jdk_41_method_11_code 10 = .ok (.iload_n 0, 1) := by decide +kernel
theorem d7_11 : decode jdk_41_method_11_code 11 = .ok (.iload_n 1, 1) := by decide +kernel
theorem d7_12 : decode jdk_41_method_11_code 12 = .ok (.invokestatic 95, 3) := by decide +kernel
theorem d7_15 : decode jdk_41_method_11_code 15 = .ok (.athrow, 1) := by decide +kernel
theorem d7_16 : decode jdk_41_method_11_code 16 = .ok (.iload_n 0, 1) := by decide +kernel
theorem d7_17 : decode jdk_41_method_11_code 17 = .ok (.ireturn, 1) := by decide +kernel
theorem pl_7 : plainFor (⟨"jdk/internal/util/Preconditions", "checkIndex", "(IILjava/util/function/BiFunction;)I"⟩ : MethodName) = true := plainFor_of_name (by first | (simp [plainName, overriddenIn]; done) | decide +kernel)
theorem ef_rmPck (m : MethodId) (z0 : Int32) (z1 : Int32) (z2 : Value) (hz2 : z2.isRef = true) : entryFrame m #[(.int z0), (.int z1), z2] 3 = mkF m 0 #[.val (.int z0), .val (.int z1), .val z2] [] := by
  rcases ref_cases hz2 with rfl | ⟨_, rfl⟩ <;> first | (simp [entryFrame, mkF, argsToLocals, Value.category]; done) | rfl
set_option maxRecDepth 65536 in
set_option maxHeartbeats 40000000 in
theorem rmPck (l : Launch) (Z : State) (a0 : Array Value) (hw : ∀ d ∈ tables_1, d.before a0 Z = true) (j : Int32) (fm : Value) (hfm : fm.isRef = true) (h0 : Heap) (n0 : Nat) (Zn : n0 ≤ h0.size)  (hj0 : ¬ j < 0) (hj1 : j < (11 : Int32)) :
    WCt l Z (⟨"jdk/internal/util/Preconditions", "checkIndex", "(IILjava/util/function/BiFunction;)I"⟩ : MethodName) jdk_41_method_11_code 3 (some .int) ({ frames := 0, cells := 0, slots := 0, locals := 0 } : Room) #[(.int j), (.int (11 : Int32)), fm] h0 (fun vv hh LL => (vv = some (.int j)) ∧ (Fr n0 LL) ∧ (hh = h0)) := by
  refine WCt.of pl_7 ?_
  intro p e s m below meth c T hx hby hml hown hnm hret hlk hZ hh0 X eT
  have hown : s.vm.findClass "jdk/internal/util/Preconditions" = some m.cls := hown
  have hnm : meth.name = "checkIndex" := hnm
  have N := Fr.nil n0
  obtain ⟨h, eh⟩ : ∃ h, h = h0 := ⟨_, rfl⟩
  have K : Keep h0 h [] := by rw [eh]; exact Keep.refl _ _
  refine WGo.cast (ef_rmPck m j (11 : Int32) fm hfm) ?_
  rw [← eh] at eT Zn 
  refine g_iloadN X hx (hb hby d7_0) rfl (pc' := 1) rfl ?_
  refine g_if X hx (hb hby d7_1) (by decide) (pc' := 9) (by decide) (pc2 := 4) rfl (fun hc => ?_) (fun hc => ?_)
  · replace hc := h_lt1 hc
    have hc1 := hc
    exfalso
    exact hj0 hc
  · replace hc := h_lt0 hc
    have hc1 := hc
    refine g_iloadN X hx (hb hby d7_4) rfl (pc' := 5) rfl ?_
    refine g_iloadN X hx (hb hby d7_5) rfl (pc' := 6) rfl ?_
    refine g_icmp X hx (hb hby d7_6) (by decide) (pc' := 16) (by decide) (pc2 := 9) rfl (fun hc => ?_) (fun hc => ?_)
    · replace hc := h_lt1 hc
      have hc6 := hc
      refine g_iloadN X hx (hb hby d7_16) rfl (pc' := 17) rfl ?_
      refine g_retI X hx hret hlk (hb hby d7_17) (by decide) (by decide) ?_
      rw [eT]
      exact ⟨rfl, N, eh⟩
    · replace hc := h_lt0 hc
      have hc6 := hc
      exfalso
      exact hc hj1
theorem d6_0 : decode jdk_42_method_155_code 0 = .ok (.iload_n 0, 1) := by decide +kernel
theorem d6_1 : decode jdk_42_method_155_code 1 = .ok (.iload_n 1, 1) := by decide +kernel
theorem d6_2 : decode jdk_42_method_155_code 2 = .ok (.getstatic 1053, 3) := by decide +kernel
theorem d6_5 : decode jdk_42_method_155_code 5 = .ok (.invokestatic 1059, 3) := by decide +kernel
theorem d6_8 : decode jdk_42_method_155_code 8 = .ok (.pop, 1) := by decide +kernel
theorem d6_9 : decode jdk_42_method_155_code 9 = .ok (.return_, 1) := by decide +kernel
theorem pl_6 : plainFor (⟨"java/lang/String", "checkIndex", "(II)V"⟩ : MethodName) = true := plainFor_of_name (by first | (simp [plainName, overriddenIn]; done) | decide +kernel)
theorem ef_rmSck (m : MethodId) (z0 : Int32) (z1 : Int32) : entryFrame m #[(.int z0), (.int z1)] 2 = mkF m 0 #[.val (.int z0), .val (.int z1)] [] := by first | (simp [entryFrame, mkF, argsToLocals, Value.category]; done) | rfl
set_option maxRecDepth 65536 in
set_option maxHeartbeats 40000000 in
theorem rmSck (l : Launch) (Z : State) (a0 : Array Value) (hw : ∀ d ∈ tables_1, d.before a0 Z = true) (j : Int32) (fm : Value) (hfm : fm.isRef = true) (h0 : Heap) (n0 : Nat) (Zn : n0 ≤ h0.size) (S_SIOOBE_FORMATTER : Sta Z h0 "jdk/internal/util/Preconditions" "SIOOBE_FORMATTER" "Ljava/util/function/BiFunction;" fm) (hj0 : ¬ j < 0) (hj1 : j < (11 : Int32)) :
    WCt l Z (⟨"java/lang/String", "checkIndex", "(II)V"⟩ : MethodName) jdk_42_method_155_code 2 none ({ frames := 1, cells := 0, slots := 0, locals := 14 } : Room) #[(.int j), (.int (11 : Int32))] h0 (fun vv hh LL => (vv = none) ∧ (Fr n0 LL) ∧ (hh = h0)) := by
  refine WCt.of pl_6 ?_
  intro p e s m below meth c T hx hby hml hown hnm hret hlk hZ hh0 X eT
  have hown : s.vm.findClass "java/lang/String" = some m.cls := hown
  have hnm : meth.name = "checkIndex" := hnm
  have N := Fr.nil n0
  obtain ⟨h, eh⟩ : ∃ h, h = h0 := ⟨_, rfl⟩
  have K : Keep h0 h [] := by rw [eh]; exact Keep.refl _ _
  refine WGo.cast (ef_rmSck m j (11 : Int32)) ?_
  rw [← eh] at eT Zn S_SIOOBE_FORMATTER
  refine g_iloadN X hx (hb hby d6_0) rfl (pc' := 1) rfl ?_
  refine g_iloadN X hx (hb hby d6_1) rfl (pc' := 2) rfl ?_
  refine g_getS X hx hZ hown (hw _ (List.mem_of_getElem? (i := 38) rfl)) eT S_SIOOBE_FORMATTER (hb hby d6_2) (pc' := 5) rfl (fun T X eT => ?_)
  refine g_stat (W := 0) (argsL := [(.int j), (.int (11 : Int32)), fm]) (st := []) X hx hZ hown (hw _ (List.mem_of_getElem? (i := 40) rfl)) (hw _ (List.mem_of_getElem? (i := 41) rfl)) (hw _ (List.mem_of_getElem? (i := 39) rfl)) (hw _ (List.mem_of_getElem? (i := 42) rfl)) (by decide) (rmPck l Z a0 hw j fm hfm h n0 Zn  hj0 hj1) eT (by decide) (by decide) (by decide) (by decide) (lenOf pd_1 rfl) (by rw [hml]; rfl) rfl (Nat.le_of_eq rfl) (hb hby d6_5) (pc' := 8) rfl (fun T hn vq Lq X eT hQ => ?_)
  obtain ⟨rfl, Nq, hE⟩ := hQ
  replace N := Fr.app N Nq
  rw [hE] at eT; clear hE
  show WGo _ _ _ _ _ _ _ _ (mkF m 8 #[.val (.int j), .val (.int (11 : Int32))] [(.int j)])
  refine g_pop X hx (hb hby d6_8) rfl (pc' := 9) rfl ?_
  refine g_ret0 X hx hret hlk (hb hby d6_9) (by decide) (by decide) ?_
  rw [eT]
  exact ⟨rfl, N, eh⟩
theorem d5_0 : decode jdk_43_method_2_code 0 = .ok (.iload_n 1, 1) := by decide +kernel
theorem d5_1 : decode jdk_43_method_2_code 1 = .ok (.aload_n 0, 1) := by decide +kernel
theorem d5_2 : decode jdk_43_method_2_code 2 = .ok (.arraylength, 1) := by decide +kernel
theorem d5_3 : decode jdk_43_method_2_code 3 = .ok (.invokestatic 9, 3) := by decide +kernel
theorem d5_6 : decode jdk_43_method_2_code 6 = .ok (.aload_n 0, 1) := by decide +kernel
theorem d5_7 : decode jdk_43_method_2_code 7 = .ok (.iload_n 1, 1) := by decide +kernel
theorem d5_8 : decode jdk_43_method_2_code 8 = .ok (.baload, 1) := by decide +kernel
theorem d5_9 : decode jdk_43_method_2_code 9 = .ok (.sipush 255, 3) := by decide +kernel
theorem d5_12 : decode jdk_43_method_2_code 12 = .ok (.iand, 1) := by decide +kernel
theorem d5_13 : decode jdk_43_method_2_code 13 = .ok (.i2c, 1) := by decide +kernel
theorem d5_14 : decode jdk_43_method_2_code 14 = .ok (.ireturn, 1) := by decide +kernel
theorem pl_5 : plainFor (⟨"java/lang/StringLatin1", "charAt", "([BI)C"⟩ : MethodName) = true := plainFor_of_name (by first | (simp [plainName, overriddenIn]; done) | decide +kernel)
theorem ef_rmL1c (m : MethodId) (z0 : Addr) (z1 : Int32) : entryFrame m #[(.ref z0), (.int z1)] 2 = mkF m 0 #[.val (.ref z0), .val (.int z1)] [] := by first | (simp [entryFrame, mkF, argsToLocals, Value.category]; done) | rfl
set_option maxRecDepth 65536 in
set_option maxHeartbeats 40000000 in
theorem rmL1c (l : Launch) (Z : State) (a0 : Array Value) (hw : ∀ d ∈ tables_1, d.before a0 Z = true) (sb : Addr) (L : List Int32) (j : Int32) (fm : Value) (hfm : fm.isRef = true) (h0 : Heap) (n0 : Nat) (Zn : n0 ≤ h0.size) (A_sb : Al Z h0 sb .byte 11 L) (S_SIOOBE_FORMATTER : Sta Z h0 "jdk/internal/util/Preconditions" "SIOOBE_FORMATTER" "Ljava/util/function/BiFunction;" fm) (hj0 : ¬ j < 0) (hj1 : j < (11 : Int32)) (hj2 : j.toNatClampNeg < 11) :
    WCt l Z (⟨"java/lang/StringLatin1", "charAt", "([BI)C"⟩ : MethodName) jdk_43_method_2_code 2 (some .char) ({ frames := 2, cells := 0, slots := 0, locals := 27 } : Room) #[(.ref sb), (.int j)] h0 (fun vv hh LL => ∃ (d : Int32), (vv = some (.int d)) ∧ (Fr n0 LL) ∧ (hh = h0)) := by
  refine WCt.of pl_5 ?_
  intro p e s m below meth c T hx hby hml hown hnm hret hlk hZ hh0 X eT
  have hown : s.vm.findClass "java/lang/StringLatin1" = some m.cls := hown
  have hnm : meth.name = "charAt" := hnm
  have N := Fr.nil n0
  obtain ⟨h, eh⟩ : ∃ h, h = h0 := ⟨_, rfl⟩
  have K : Keep h0 h [] := by rw [eh]; exact Keep.refl _ _
  refine WGo.cast (ef_rmL1c m sb j) ?_
  rw [← eh] at eT Zn A_sb S_SIOOBE_FORMATTER
  refine g_iloadN X hx (hb hby d5_0) rfl (pc' := 1) rfl ?_
  refine g_aloadN X hx (hb hby d5_1) rfl rfl (pc' := 2) rfl ?_
  refine g_len X hx hZ eT A_sb.2 (hb hby d5_2) (x := (11 : Int32)) (by decide) (pc' := 3) rfl ?_
  refine g_stat (W := 0) (argsL := [(.int j), (.int (11 : Int32))]) (st := []) X hx hZ hown (hw _ (List.mem_of_getElem? (i := 35) rfl)) (hw _ (List.mem_of_getElem? (i := 36) rfl)) (hw _ (List.mem_of_getElem? (i := 1) rfl)) (hw _ (List.mem_of_getElem? (i := 37) rfl)) (by decide) (rmSck l Z a0 hw j fm hfm h n0 Zn S_SIOOBE_FORMATTER hj0 hj1) eT (by decide) (by decide) (by decide) (by decide) (lenOf pd_2 rfl) (by rw [hml]; rfl) rfl (Nat.le_of_eq rfl) (hb hby d5_3) (pc' := 6) rfl (fun T hn vq Lq X eT hQ => ?_)
  obtain ⟨rfl, Nq, hE⟩ := hQ
  replace N := Fr.app N Nq
  rw [hE] at eT; clear hE
  show WGo _ _ _ _ _ _ _ _ (mkF m 6 #[.val (.ref sb), .val (.int j)] [])
  refine g_aloadN X hx (hb hby d5_6) rfl rfl (pc' := 7) rfl ?_
  refine g_iloadN X hx (hb hby d5_7) rfl (pc' := 8) rfl ?_
  refine g_baloadB X hx hZ eT A_sb.2 (hb hby d5_8) hj0 hj2 (v := (.int (L.getD j.toNatClampNeg 0))) rfl (pc' := 9) rfl ?_
  refine g_sipush X hx (hb hby d5_9) (x := (255 : Int32)) (by decide) (pc' := 12) rfl ?_
  refine g_iand X hx (hb hby d5_12) (pc' := 13) rfl ?_
  refine g_i2c X hx (hb hby d5_13) (pc' := 14) rfl ?_
  refine g_retN (t := .char) X hx hret (by simp) hlk (hb hby d5_14) (by decide) (by decide) ?_
  rw [eT]
  exact ⟨_, rfl, N, eh⟩
theorem d3_0 : decode jdk_42_method_56_code 0 = .ok (.aload_n 0, 1) := by decide +kernel
theorem d3_1 : decode jdk_42_method_56_code 1 = .ok (.invokevirtual 492, 3) := by decide +kernel
theorem d3_4 : decode jdk_42_method_56_code 4 = .ok (.ifCond .eq 12, 3) := by decide +kernel
theorem d3_7 : decode jdk_42_method_56_code 7 = .ok (.aload_n 0, 1) := by decide +kernel
theorem d3_8 : decode jdk_42_method_56_code 8 = .ok (.getfield 9, 3) := by decide +kernel
theorem d3_11 : decode jdk_42_method_56_code 11 = .ok (.iload_n 1, 1) := by decide +kernel
theorem d3_12 : decode jdk_42_method_56_code 12 = .ok (.invokestatic 495, 3) := by decide +kernel
theorem d3_15 : decode jdk_42_method_56_code 15 = .ok (.ireturn, 1) := by decide +kernel
theorem d3_16 : decode jdk_42_method_56_code 16 = .ok (.aload_n 0, 1) := by decide +kernel
theorem d3_17 : decode jdk_42_method_56_code 17 = .ok (.getfield 9, 3) := by decide +kernel
theorem d3_20 : decode jdk_42_method_56_code 20 = .ok (.iload_n 1, 1) := by decide +kernel
theorem d3_21 : decode jdk_42_method_56_code 21 = .ok (.invokestatic 498, 3) := by decide +kernel
theorem d3_24 : decode jdk_42_method_56_code 24 = .ok (.ireturn, 1) := by decide +kernel
theorem pl_3 : plainFor (⟨"java/lang/String", "charAt", "(I)C"⟩ : MethodName) = true := plainFor_of_name (by first | (simp [plainName, overriddenIn]; done) | decide +kernel)
theorem ef_rmChA (m : MethodId) (z0 : Addr) (z1 : Int32) : entryFrame m #[(.ref z0), (.int z1)] 2 = mkF m 0 #[.val (.ref z0), .val (.int z1)] [] := by first | (simp [entryFrame, mkF, argsToLocals, Value.category]; done) | rfl
set_option maxRecDepth 65536 in
set_option maxHeartbeats 40000000 in
theorem rmChA (l : Launch) (Z : State) (a0 : Array Value) (hw : ∀ d ∈ tables_1, d.before a0 Z = true) (sa : Addr) (sb : Addr) (L : List Int32) (cs : Int32) (j : Int32) (fm : Value) (hfm : fm.isRef = true) (h0 : Heap) (n0 : Nat) (Zn : n0 ≤ h0.size) (E_sa : Exa Z h0 sa "java/lang/String") (F_sa_value : Fld Z h0 sa "java/lang/String" "value" "[B" (.ref sb)) (F_sa_coder : Fld Z h0 sa "java/lang/String" "coder" "B" (.int (0 : Int32))) (A_sb : Al Z h0 sb .byte 11 L) (S_COMPACT_STRINGS : Sta Z h0 "java/lang/String" "COMPACT_STRINGS" "Z" (.int cs)) (S_SIOOBE_FORMATTER : Sta Z h0 "jdk/internal/util/Preconditions" "SIOOBE_FORMATTER" "Ljava/util/function/BiFunction;" fm) (hcs : ¬ cs = 0) (hj0 : ¬ j < 0) (hj1 : j < (11 : Int32)) (hj2 : j.toNatClampNeg < 11) :
    WCt l Z (⟨"java/lang/String", "charAt", "(I)C"⟩ : MethodName) jdk_42_method_56_code 2 (some .char) ({ frames := 3, cells := 0, slots := 0, locals := 40 } : Room) #[(.ref sa), (.int j)] h0 (fun vv hh LL => ∃ (d : Int32), (vv = some (.int d)) ∧ (Fr n0 LL) ∧ (hh = h0)) := by
  refine WCt.of pl_3 ?_
  intro p e s m below meth c T hx hby hml hown hnm hret hlk hZ hh0 X eT
  have hown : s.vm.findClass "java/lang/String" = some m.cls := hown
  have hnm : meth.name = "charAt" := hnm
  have N := Fr.nil n0
  obtain ⟨h, eh⟩ : ∃ h, h = h0 := ⟨_, rfl⟩
  have K : Keep h0 h [] := by rw [eh]; exact Keep.refl _ _
  refine WGo.cast (ef_rmChA m sa j) ?_
  rw [← eh] at eT Zn E_sa F_sa_value F_sa_coder A_sb S_COMPACT_STRINGS S_SIOOBE_FORMATTER
  refine g_aloadN X hx (hb hby d3_0) rfl rfl (pc' := 1) rfl ?_
  refine g_virt (W := 0) (argsL := []) (st := []) X hx hZ hown (hw _ (List.mem_of_getElem? (i := 26) rfl)) (hw _ (List.mem_of_getElem? (i := 27) rfl)) (notFace_of_selects (args := #[]) (mvT hZ (hw _ (List.mem_of_getElem? (i := 29) rfl)))) (hw _ (List.mem_of_getElem? (i := 29) rfl)) (hw _ (List.mem_of_getElem? (i := 28) rfl)) (hw _ (List.mem_of_getElem? (i := 30) rfl)) (hw _ (List.mem_of_getElem? (i := 1) rfl)) (by decide) E_sa (rmLat l Z a0 hw sa cs h n0 Zn F_sa_coder S_COMPACT_STRINGS hcs) eT (by decide) (by decide) (by decide) (by decide) (lenOf pd_3 rfl) (by rw [hml]; rfl) rfl (Nat.le_of_eq rfl) (hb hby d3_1) (pc' := 4) rfl (fun T hn vq Lq X eT hQ => ?_)
  obtain ⟨rfl, Nq, hE⟩ := hQ
  replace N := Fr.app N Nq
  rw [hE] at eT; clear hE
  show WGo _ _ _ _ _ _ _ _ (mkF m 4 #[.val (.ref sa), .val (.int j)] [(.int (1 : Int32))])
  refine g_if X hx (hb hby d3_4) (by decide) (pc' := 16) (by decide) (pc2 := 7) rfl (fun hc => ?_) (fun hc => ?_)
  · replace hc := h_eq1 hc
    have hc4 := hc
    exfalso
    clear hc4; revert hc; decide
  · replace hc := h_eq0 hc
    have hc4 := hc
    refine g_aloadN X hx (hb hby d3_7) rfl rfl (pc' := 8) rfl ?_
    refine g_getF X hx hZ hown (hw _ (List.mem_of_getElem? (i := 13) rfl)) eT F_sa_value (hb hby d3_8) (pc' := 11) rfl (fun T X eT => ?_)
    refine g_iloadN X hx (hb hby d3_11) rfl (pc' := 12) rfl ?_
    refine g_stat (W := 0) (argsL := [(.ref sb), (.int j)]) (st := []) X hx hZ hown (hw _ (List.mem_of_getElem? (i := 31) rfl)) (hw _ (List.mem_of_getElem? (i := 32) rfl)) (hw _ (List.mem_of_getElem? (i := 33) rfl)) (hw _ (List.mem_of_getElem? (i := 34) rfl)) (by decide) (rmL1c l Z a0 hw sb L j fm hfm h n0 Zn A_sb S_SIOOBE_FORMATTER hj0 hj1 hj2) eT (by decide) (by decide) (by decide) (by decide) (lenOf pd_4 rfl) (by rw [hml]; rfl) rfl (Nat.le_of_eq rfl) (hb hby d3_12) (pc' := 15) rfl (fun T hn vq Lq X eT hQ => ?_)
    obtain ⟨dd, rfl, Nq, hE⟩ := hQ
    replace N := Fr.app N Nq
    rw [hE] at eT; clear hE
    show WGo _ _ _ _ _ _ _ _ (mkF m 15 #[.val (.ref sa), .val (.int j)] [(.int dd)])
    refine g_retN (t := .char) X hx hret (by simp) hlk (hb hby d3_15) (by decide) (by decide) ?_
    rw [eT]
    exact ⟨_, rfl, N, eh⟩
theorem d8_0 : decode prog_44_method_5_code 0 = .ok (.getstatic 42, 3) := by decide +kernel
theorem d8_3 : decode prog_44_method_5_code 3 = .ok (.astore_n 1, 1) := by decide +kernel
theorem d8_4 : decode prog_44_method_5_code 4 = .ok (.aload_n 1, 1) := by decide +kernel
theorem d8_5 : decode prog_44_method_5_code 5 = .ok (.arraylength, 1) := by decide +kernel
theorem d8_6 : decode prog_44_method_5_code 6 = .ok (.istore_n 2, 1) := by decide +kernel
theorem d8_7 : decode prog_44_method_5_code 7 = .ok (.iconst 0, 1) := by decide +kernel
theorem d8_8 : decode prog_44_method_5_code 8 = .ok (.istore_n 3, 1) := by decide +kernel
theorem d8_9 : decode prog_44_method_5_code 9 = .ok (.iload_n 3, 1) := by decide +kernel
theorem d8_10 : decode prog_44_method_5_code 10 = .ok (.iload_n 2, 1) := by decide +kernel
theorem d8_11 : decode prog_44_method_5_code 11 = .ok (.if_icmp .ge 26, 3) := by decide +kernel
theorem d8_14 : decode prog_44_method_5_code 14 = .ok (.aload_n 1, 1) := by decide +kernel
theorem d8_15 : decode prog_44_method_5_code 15 = .ok (.iload_n 3, 1) := by decide +kernel
theorem d8_16 : decode prog_44_method_5_code 16 = .ok (.aaload, 1) := by decide +kernel
theorem d8_17 : decode prog_44_method_5_code 17 = .ok (.astore 4, 2) := by decide +kernel
theorem d8_19 : decode prog_44_method_5_code 19 = .ok (.aload 4, 2) := by decide +kernel
theorem d8_21 : decode prog_44_method_5_code 21 = .ok (.getfield 38, 3) := by decide +kernel
theorem d8_24 : decode prog_44_method_5_code 24 = .ok (.iload_n 0, 1) := by decide +kernel
theorem d8_25 : decode prog_44_method_5_code 25 = .ok (.if_icmp .ne 6, 3) := by decide +kernel
theorem d8_28 : decode prog_44_method_5_code 28 = .ok (.aload 4, 2) := by decide +kernel
theorem d8_30 : decode prog_44_method_5_code 30 = .ok (.areturn, 1) := by decide +kernel
theorem d8_31 : decode prog_44_method_5_code 31 = .ok (.iinc 3 1, 3) := by decide +kernel
theorem d8_34 : decode prog_44_method_5_code 34 = .ok (.goto (-25), 3) := by decide +kernel
theorem d8_37 : decode prog_44_method_5_code 37 = .ok (.aconst_null, 1) := by decide +kernel
theorem d8_38 : decode prog_44_method_5_code 38 = .ok (.areturn, 1) := by decide +kernel
theorem pl_8 : plainFor (⟨"com/example/scopewright/scopewright/Permission", "ofLetter", "(C)Lcom/example/scopewright/scopewright/Permission;"⟩ : MethodName) = true := plainFor_of_name (by first | (simp [plainName, overriddenIn]; done) | decide +kernel)
theorem ef_rmOf (m : MethodId) (z0 : Int32) : entryFrame m #[(.int z0)] 5 = mkF m 0 #[.val (.int z0), .unset, .unset, .unset, .unset] [] := by first | (simp [entryFrame, mkF, argsToLocals, Value.category]; done) | rfl
set_option maxRecDepth 65536 in
set_option maxHeartbeats 40000000 in
theorem rmOf (l : Launch) (Z : State) (a0 : Array Value) (hw : ∀ d ∈ tables_1, d.before a0 Z = true) (va : Addr) (fV : Nat → Value) (c0 : Addr) (c1 : Addr) (c2 : Addr) (c3 : Addr) (c4 : Addr) (ch : Int32) (h0 : Heap) (n0 : Nat) (Zn : n0 ≤ h0.size) (S_VALUES : Sta Z h0 "com/example/scopewright/scopewright/Permission" "VALUES" "[Lcom/example/scopewright/scopewright/Permission;" (.ref va)) (A_va : Ai Z h0 va (.object "com/example/scopewright/scopewright/Permission") 5 fV) (F_c0_letter : Fld Z h0 c0 "com/example/scopewright/scopewright/Permission" "letter" "C" (.int (99 : Int32))) (F_c1_letter : Fld Z h0 c1 "com/example/scopewright/scopewright/Permission" "letter" "C" (.int (114 : Int32))) (F_c2_letter : Fld Z h0 c2 "com/example/scopewright/scopewright/Permission" "letter" "C" (.int (117 : Int32))) (F_c3_letter : Fld Z h0 c3 "com/example/scopewright/scopewright/Permission" "letter" "C" (.int (100 : Int32))) (F_c4_letter : Fld Z h0 c4 "com/example/scopewright/scopewright/Permission" "letter" "C" (.int (115 : Int32))) (hf0 : fV 0 = .ref c0) (hf1 : fV 1 = .ref c1) (hf2 : fV 2 = .ref c2) (hf3 : fV 3 = .ref c3) (hf4 : fV 4 = .ref c4) :
    WCt l Z (⟨"com/example/scopewright/scopewright/Permission", "ofLetter", "(C)Lcom/example/scopewright/scopewright/Permission;"⟩ : MethodName) prog_44_method_5_code 5 (some (.object "com/example/scopewright/scopewright/Permission")) ({ frames := 0, cells := 0, slots := 0, locals := 0 } : Room) #[(.int ch)] h0 (fun vv hh LL => (vv = some (ofL c0 c1 c2 c3 c4 ch)) ∧ (Fr n0 LL) ∧ (hh = h0)) := by
  refine WCt.of pl_8 ?_
  intro p e s m below meth c T hx hby hml hown hnm hret hlk hZ hh0 X eT
  have hown : s.vm.findClass "com/example/scopewright/scopewright/Permission" = some m.cls := hown
  have hnm : meth.name = "ofLetter" := hnm
  have N := Fr.nil n0
  obtain ⟨h, eh⟩ : ∃ h, h = h0 := ⟨_, rfl⟩
  have K : Keep h0 h [] := by rw [eh]; exact Keep.refl _ _
  refine WGo.cast (ef_rmOf m ch) ?_
  rw [← eh] at eT Zn S_VALUES A_va F_c0_letter F_c1_letter F_c2_letter F_c3_letter F_c4_letter
  refine g_getS X hx hZ hown (hw _ (List.mem_of_getElem? (i := 47) rfl)) eT S_VALUES (hb hby d8_0) (pc' := 3) rfl (fun T X eT => ?_)
  refine g_astoreN X hx (hb hby d8_3) rfl (Ls' := #[.val (.int ch), .val (.ref va), .unset, .unset, .unset]) rfl (pc' := 4) rfl ?_
  refine g_aloadN X hx (hb hby d8_4) rfl rfl (pc' := 5) rfl ?_
  refine g_len X hx hZ eT A_va (hb hby d8_5) (x := (5 : Int32)) (by decide) (pc' := 6) rfl ?_
  refine g_istoreN X hx (hb hby d8_6) (Ls' := #[.val (.int ch), .val (.ref va), .val (.int (5 : Int32)), .unset, .unset]) rfl (pc' := 7) rfl ?_
  refine g_iconst X hx (hb hby d8_7) (x := (0 : Int32)) (by decide) (pc' := 8) rfl ?_
  refine g_istoreN X hx (hb hby d8_8) (Ls' := #[.val (.int ch), .val (.ref va), .val (.int (5 : Int32)), .val (.int (0 : Int32)), .unset]) rfl (pc' := 9) rfl ?_
  refine g_iloadN X hx (hb hby d8_9) rfl (pc' := 10) rfl ?_
  refine g_iloadN X hx (hb hby d8_10) rfl (pc' := 11) rfl ?_
  refine g_icmp X hx (hb hby d8_11) (by decide) (pc' := 37) (by decide) (pc2 := 14) rfl (fun hc => ?_) (fun hc => ?_)
  · replace hc := h_ge1 hc
    have hc11 := hc
    exfalso
    clear hc11; revert hc; decide
  · replace hc := h_ge0 hc
    have hc11 := hc
    refine g_aloadN X hx (hb hby d8_14) rfl rfl (pc' := 15) rfl ?_
    refine g_iloadN X hx (hb hby d8_15) rfl (pc' := 16) rfl ?_
    refine g_aaload X hx hZ eT rfl A_va (hb hby d8_16) (by decide) (by decide) (v := (.ref c0)) hf0 (pc' := 17) rfl ?_
    refine g_astore X hx (hb hby d8_17) rfl (Ls' := #[.val (.int ch), .val (.ref va), .val (.int (5 : Int32)), .val (.int (0 : Int32)), .val (.ref c0)]) rfl (pc' := 19) rfl ?_
    refine g_aload X hx (hb hby d8_19) rfl rfl (pc' := 21) rfl ?_
    refine g_getF X hx hZ hown (hw _ (List.mem_of_getElem? (i := 50) rfl)) eT F_c0_letter (hb hby d8_21) (pc' := 24) rfl (fun T X eT => ?_)
    refine g_iloadN X hx (hb hby d8_24) rfl (pc' := 25) rfl ?_
    refine g_icmp X hx (hb hby d8_25) (by decide) (pc' := 31) (by decide) (pc2 := 28) rfl (fun hc => ?_) (fun hc => ?_)
    · replace hc := h_ne1 hc
      have hc25 := hc
      refine g_iinc X hx (hb hby d8_31) rfl (z := (1 : Int32)) (by decide) (Ls' := #[.val (.int ch), .val (.ref va), .val (.int (5 : Int32)), .val (.int (1 : Int32)), .val (.ref c0)]) rfl (pc' := 34) rfl ?_
      refine g_goto X hx (hb hby d8_34) (by decide) (pc' := 9) (by decide) ?_
      refine g_iloadN X hx (hb hby d8_9) rfl (pc' := 10) rfl ?_
      refine g_iloadN X hx (hb hby d8_10) rfl (pc' := 11) rfl ?_
      refine g_icmp X hx (hb hby d8_11) (by decide) (pc' := 37) (by decide) (pc2 := 14) rfl (fun hc => ?_) (fun hc => ?_)
      · replace hc := h_ge1 hc
        have hc11_1 := hc
        exfalso
        clear hc11_1; revert hc; decide
      · replace hc := h_ge0 hc
        have hc11_1 := hc
        refine g_aloadN X hx (hb hby d8_14) rfl rfl (pc' := 15) rfl ?_
        refine g_iloadN X hx (hb hby d8_15) rfl (pc' := 16) rfl ?_
        refine g_aaload X hx hZ eT rfl A_va (hb hby d8_16) (by decide) (by decide) (v := (.ref c1)) hf1 (pc' := 17) rfl ?_
        refine g_astore X hx (hb hby d8_17) rfl (Ls' := #[.val (.int ch), .val (.ref va), .val (.int (5 : Int32)), .val (.int (1 : Int32)), .val (.ref c1)]) rfl (pc' := 19) rfl ?_
        refine g_aload X hx (hb hby d8_19) rfl rfl (pc' := 21) rfl ?_
        refine g_getF X hx hZ hown (hw _ (List.mem_of_getElem? (i := 50) rfl)) eT F_c1_letter (hb hby d8_21) (pc' := 24) rfl (fun T X eT => ?_)
        refine g_iloadN X hx (hb hby d8_24) rfl (pc' := 25) rfl ?_
        refine g_icmp X hx (hb hby d8_25) (by decide) (pc' := 31) (by decide) (pc2 := 28) rfl (fun hc => ?_) (fun hc => ?_)
        · replace hc := h_ne1 hc
          have hc25_1 := hc
          refine g_iinc X hx (hb hby d8_31) rfl (z := (2 : Int32)) (by decide) (Ls' := #[.val (.int ch), .val (.ref va), .val (.int (5 : Int32)), .val (.int (2 : Int32)), .val (.ref c1)]) rfl (pc' := 34) rfl ?_
          refine g_goto X hx (hb hby d8_34) (by decide) (pc' := 9) (by decide) ?_
          refine g_iloadN X hx (hb hby d8_9) rfl (pc' := 10) rfl ?_
          refine g_iloadN X hx (hb hby d8_10) rfl (pc' := 11) rfl ?_
          refine g_icmp X hx (hb hby d8_11) (by decide) (pc' := 37) (by decide) (pc2 := 14) rfl (fun hc => ?_) (fun hc => ?_)
          · replace hc := h_ge1 hc
            have hc11_2 := hc
            exfalso
            clear hc11_2; revert hc; decide
          · replace hc := h_ge0 hc
            have hc11_2 := hc
            refine g_aloadN X hx (hb hby d8_14) rfl rfl (pc' := 15) rfl ?_
            refine g_iloadN X hx (hb hby d8_15) rfl (pc' := 16) rfl ?_
            refine g_aaload X hx hZ eT rfl A_va (hb hby d8_16) (by decide) (by decide) (v := (.ref c2)) hf2 (pc' := 17) rfl ?_
            refine g_astore X hx (hb hby d8_17) rfl (Ls' := #[.val (.int ch), .val (.ref va), .val (.int (5 : Int32)), .val (.int (2 : Int32)), .val (.ref c2)]) rfl (pc' := 19) rfl ?_
            refine g_aload X hx (hb hby d8_19) rfl rfl (pc' := 21) rfl ?_
            refine g_getF X hx hZ hown (hw _ (List.mem_of_getElem? (i := 50) rfl)) eT F_c2_letter (hb hby d8_21) (pc' := 24) rfl (fun T X eT => ?_)
            refine g_iloadN X hx (hb hby d8_24) rfl (pc' := 25) rfl ?_
            refine g_icmp X hx (hb hby d8_25) (by decide) (pc' := 31) (by decide) (pc2 := 28) rfl (fun hc => ?_) (fun hc => ?_)
            · replace hc := h_ne1 hc
              have hc25_2 := hc
              refine g_iinc X hx (hb hby d8_31) rfl (z := (3 : Int32)) (by decide) (Ls' := #[.val (.int ch), .val (.ref va), .val (.int (5 : Int32)), .val (.int (3 : Int32)), .val (.ref c2)]) rfl (pc' := 34) rfl ?_
              refine g_goto X hx (hb hby d8_34) (by decide) (pc' := 9) (by decide) ?_
              refine g_iloadN X hx (hb hby d8_9) rfl (pc' := 10) rfl ?_
              refine g_iloadN X hx (hb hby d8_10) rfl (pc' := 11) rfl ?_
              refine g_icmp X hx (hb hby d8_11) (by decide) (pc' := 37) (by decide) (pc2 := 14) rfl (fun hc => ?_) (fun hc => ?_)
              · replace hc := h_ge1 hc
                have hc11_3 := hc
                exfalso
                clear hc11_3; revert hc; decide
              · replace hc := h_ge0 hc
                have hc11_3 := hc
                refine g_aloadN X hx (hb hby d8_14) rfl rfl (pc' := 15) rfl ?_
                refine g_iloadN X hx (hb hby d8_15) rfl (pc' := 16) rfl ?_
                refine g_aaload X hx hZ eT rfl A_va (hb hby d8_16) (by decide) (by decide) (v := (.ref c3)) hf3 (pc' := 17) rfl ?_
                refine g_astore X hx (hb hby d8_17) rfl (Ls' := #[.val (.int ch), .val (.ref va), .val (.int (5 : Int32)), .val (.int (3 : Int32)), .val (.ref c3)]) rfl (pc' := 19) rfl ?_
                refine g_aload X hx (hb hby d8_19) rfl rfl (pc' := 21) rfl ?_
                refine g_getF X hx hZ hown (hw _ (List.mem_of_getElem? (i := 50) rfl)) eT F_c3_letter (hb hby d8_21) (pc' := 24) rfl (fun T X eT => ?_)
                refine g_iloadN X hx (hb hby d8_24) rfl (pc' := 25) rfl ?_
                refine g_icmp X hx (hb hby d8_25) (by decide) (pc' := 31) (by decide) (pc2 := 28) rfl (fun hc => ?_) (fun hc => ?_)
                · replace hc := h_ne1 hc
                  have hc25_3 := hc
                  refine g_iinc X hx (hb hby d8_31) rfl (z := (4 : Int32)) (by decide) (Ls' := #[.val (.int ch), .val (.ref va), .val (.int (5 : Int32)), .val (.int (4 : Int32)), .val (.ref c3)]) rfl (pc' := 34) rfl ?_
                  refine g_goto X hx (hb hby d8_34) (by decide) (pc' := 9) (by decide) ?_
                  refine g_iloadN X hx (hb hby d8_9) rfl (pc' := 10) rfl ?_
                  refine g_iloadN X hx (hb hby d8_10) rfl (pc' := 11) rfl ?_
                  refine g_icmp X hx (hb hby d8_11) (by decide) (pc' := 37) (by decide) (pc2 := 14) rfl (fun hc => ?_) (fun hc => ?_)
                  · replace hc := h_ge1 hc
                    have hc11_4 := hc
                    exfalso
                    clear hc11_4; revert hc; decide
                  · replace hc := h_ge0 hc
                    have hc11_4 := hc
                    refine g_aloadN X hx (hb hby d8_14) rfl rfl (pc' := 15) rfl ?_
                    refine g_iloadN X hx (hb hby d8_15) rfl (pc' := 16) rfl ?_
                    refine g_aaload X hx hZ eT rfl A_va (hb hby d8_16) (by decide) (by decide) (v := (.ref c4)) hf4 (pc' := 17) rfl ?_
                    refine g_astore X hx (hb hby d8_17) rfl (Ls' := #[.val (.int ch), .val (.ref va), .val (.int (5 : Int32)), .val (.int (4 : Int32)), .val (.ref c4)]) rfl (pc' := 19) rfl ?_
                    refine g_aload X hx (hb hby d8_19) rfl rfl (pc' := 21) rfl ?_
                    refine g_getF X hx hZ hown (hw _ (List.mem_of_getElem? (i := 50) rfl)) eT F_c4_letter (hb hby d8_21) (pc' := 24) rfl (fun T X eT => ?_)
                    refine g_iloadN X hx (hb hby d8_24) rfl (pc' := 25) rfl ?_
                    refine g_icmp X hx (hb hby d8_25) (by decide) (pc' := 31) (by decide) (pc2 := 28) rfl (fun hc => ?_) (fun hc => ?_)
                    · replace hc := h_ne1 hc
                      have hc25_4 := hc
                      refine g_iinc X hx (hb hby d8_31) rfl (z := (5 : Int32)) (by decide) (Ls' := #[.val (.int ch), .val (.ref va), .val (.int (5 : Int32)), .val (.int (5 : Int32)), .val (.ref c4)]) rfl (pc' := 34) rfl ?_
                      refine g_goto X hx (hb hby d8_34) (by decide) (pc' := 9) (by decide) ?_
                      refine g_iloadN X hx (hb hby d8_9) rfl (pc' := 10) rfl ?_
                      refine g_iloadN X hx (hb hby d8_10) rfl (pc' := 11) rfl ?_
                      refine g_icmp X hx (hb hby d8_11) (by decide) (pc' := 37) (by decide) (pc2 := 14) rfl (fun hc => ?_) (fun hc => ?_)
                      · replace hc := h_ge1 hc
                        have hc11_5 := hc
                        refine g_null X hx (hb hby d8_37) (pc' := 38) rfl ?_
                        refine g_retA X hx rfl hret rfl hlk (hb hby d8_38) (by decide) (by decide) ?_
                        rw [eT]
                        refine ⟨congrArg some ?_, N, eh⟩
                        unfold ofL
                        simp +decide only [eq_false (fun q => hc25 (Eq.symm q)), eq_false (fun q => hc25_1 (Eq.symm q)), eq_false (fun q => hc25_2 (Eq.symm q)), eq_false (fun q => hc25_3 (Eq.symm q)), eq_false (fun q => hc25_4 (Eq.symm q)), not_true_eq_false, not_false_eq_true, if_true, if_false, true_and, false_and, and_true, and_false, and_self, true_or, or_true, false_or, or_false, reduceIte, eq_self]
                      · replace hc := h_ge0 hc
                        have hc11_5 := hc
                        exfalso
                        clear hc11_5; revert hc; decide
                    · replace hc := h_ne0 hc
                      have hc25_4 := hc
                      refine g_aload X hx (hb hby d8_28) rfl rfl (pc' := 30) rfl ?_
                      refine g_retA X hx rfl hret rfl hlk (hb hby d8_30) (by decide) (by decide) ?_
                      rw [eT]
                      refine ⟨congrArg some ?_, N, eh⟩
                      unfold ofL
                      simp +decide only [eq_false (fun q => hc25 (Eq.symm q)), eq_false (fun q => hc25_1 (Eq.symm q)), eq_false (fun q => hc25_2 (Eq.symm q)), eq_false (fun q => hc25_3 (Eq.symm q)), eq_true (Eq.symm hc25_4), not_true_eq_false, not_false_eq_true, if_true, if_false, true_and, false_and, and_true, and_false, and_self, true_or, or_true, false_or, or_false, reduceIte, eq_self]
                · replace hc := h_ne0 hc
                  have hc25_3 := hc
                  refine g_aload X hx (hb hby d8_28) rfl rfl (pc' := 30) rfl ?_
                  refine g_retA X hx rfl hret rfl hlk (hb hby d8_30) (by decide) (by decide) ?_
                  rw [eT]
                  refine ⟨congrArg some ?_, N, eh⟩
                  unfold ofL
                  simp +decide only [eq_false (fun q => hc25 (Eq.symm q)), eq_false (fun q => hc25_1 (Eq.symm q)), eq_false (fun q => hc25_2 (Eq.symm q)), eq_true (Eq.symm hc25_3), not_true_eq_false, not_false_eq_true, if_true, if_false, true_and, false_and, and_true, and_false, and_self, true_or, or_true, false_or, or_false, reduceIte, eq_self]
            · replace hc := h_ne0 hc
              have hc25_2 := hc
              refine g_aload X hx (hb hby d8_28) rfl rfl (pc' := 30) rfl ?_
              refine g_retA X hx rfl hret rfl hlk (hb hby d8_30) (by decide) (by decide) ?_
              rw [eT]
              refine ⟨congrArg some ?_, N, eh⟩
              unfold ofL
              simp +decide only [eq_false (fun q => hc25 (Eq.symm q)), eq_false (fun q => hc25_1 (Eq.symm q)), eq_true (Eq.symm hc25_2), not_true_eq_false, not_false_eq_true, if_true, if_false, true_and, false_and, and_true, and_false, and_self, true_or, or_true, false_or, or_false, reduceIte, eq_self]
        · replace hc := h_ne0 hc
          have hc25_1 := hc
          refine g_aload X hx (hb hby d8_28) rfl rfl (pc' := 30) rfl ?_
          refine g_retA X hx rfl hret rfl hlk (hb hby d8_30) (by decide) (by decide) ?_
          rw [eT]
          refine ⟨congrArg some ?_, N, eh⟩
          unfold ofL
          simp +decide only [eq_false (fun q => hc25 (Eq.symm q)), eq_true (Eq.symm hc25_1), not_true_eq_false, not_false_eq_true, if_true, if_false, true_and, false_and, and_true, and_false, and_self, true_or, or_true, false_or, or_false, reduceIte, eq_self]
    · replace hc := h_ne0 hc
      have hc25 := hc
      refine g_aload X hx (hb hby d8_28) rfl rfl (pc' := 30) rfl ?_
      refine g_retA X hx rfl hret rfl hlk (hb hby d8_30) (by decide) (by decide) ?_
      rw [eT]
      refine ⟨congrArg some ?_, N, eh⟩
      unfold ofL
      simp +decide only [eq_true (Eq.symm hc25), not_true_eq_false, not_false_eq_true, if_true, if_false, true_and, false_and, and_true, and_false, and_self, true_or, or_true, false_or, or_false, reduceIte, eq_self]
theorem d9_0 : decode method_3_code 0 = .ok (.iload_n 0, 1) := by decide +kernel
theorem d9_1 : decode method_3_code 1 = .ok (.bipush 99, 2) := by decide +kernel
theorem d9_3 : decode method_3_code 3 = .ok (.if_icmp .ne 7, 3) := by decide +kernel
theorem d9_6 : decode method_3_code 6 = .ok (.getstatic 30, 3) := by decide +kernel
theorem d9_9 : decode method_3_code 9 = .ok (.areturn, 1) := by decide +kernel
theorem d9_10 : decode method_3_code 10 = .ok (.iload_n 0, 1) := by decide +kernel
theorem d9_11 : decode method_3_code 11 = .ok (.bipush 114, 2) := by decide +kernel
theorem d9_13 : decode method_3_code 13 = .ok (.if_icmp .ne 7, 3) := by decide +kernel
theorem d9_16 : decode method_3_code 16 = .ok (.getstatic 34, 3) := by decide +kernel
theorem d9_19 : decode method_3_code 19 = .ok (.areturn, 1) := by decide +kernel
theorem d9_20 : decode method_3_code 20 = .ok (.iload_n 0, 1) := by decide +kernel
theorem d9_21 : decode method_3_code 21 = .ok (.bipush 117, 2) := by decide +kernel
theorem d9_23 : decode method_3_code 23 = .ok (.if_icmp .ne 7, 3) := by decide +kernel
theorem d9_26 : decode method_3_code 26 = .ok (.getstatic 37, 3) := by decide +kernel
theorem d9_29 : decode method_3_code 29 = .ok (.areturn, 1) := by decide +kernel
theorem d9_30 : decode method_3_code 30 = .ok (.iload_n 0, 1) := by decide +kernel
theorem d9_31 : decode method_3_code 31 = .ok (.bipush 100, 2) := by decide +kernel
theorem d9_33 : decode method_3_code 33 = .ok (.if_icmp .ne 7, 3) := by decide +kernel
theorem d9_36 : decode method_3_code 36 = .ok (.getstatic 40, 3) := by decide +kernel
theorem d9_39 : decode method_3_code 39 = .ok (.areturn, 1) := by decide +kernel
theorem d9_40 : decode method_3_code 40 = .ok (.iload_n 0, 1) := by decide +kernel
theorem d9_41 : decode method_3_code 41 = .ok (.bipush 115, 2) := by decide +kernel
theorem d9_43 : decode method_3_code 43 = .ok (.if_icmp .ne 7, 3) := by decide +kernel
theorem d9_46 : decode method_3_code 46 = .ok (.getstatic 43, 3) := by decide +kernel
theorem d9_49 : decode method_3_code 49 = .ok (.areturn, 1) := by decide +kernel
theorem d9_50 : decode method_3_code 50 = .ok (.aconst_null, 1) := by decide +kernel
theorem d9_51 : decode method_3_code 51 = .ok (.areturn, 1) := by decide +kernel
theorem pl_9 : plainFor (⟨"com/example/scopewright/scopewright/PermissionOfLetterPinLaw", "expected", "(C)Lcom/example/scopewright/scopewright/Permission;"⟩ : MethodName) = true := plainFor_of_name (by first | (simp [plainName, overriddenIn]; done) | decide +kernel)
theorem ef_rmEx (m : MethodId) (z0 : Int32) : entryFrame m #[(.int z0)] 1 = mkF m 0 #[.val (.int z0)] [] := by first | (simp [entryFrame, mkF, argsToLocals, Value.category]; done) | rfl
set_option maxRecDepth 65536 in
set_option maxHeartbeats 40000000 in
theorem rmEx (l : Launch) (Z : State) (a0 : Array Value) (hw : ∀ d ∈ tables_1, d.before a0 Z = true) (c0 : Addr) (c1 : Addr) (c2 : Addr) (c3 : Addr) (c4 : Addr) (ch : Int32) (h0 : Heap) (n0 : Nat) (Zn : n0 ≤ h0.size) (S_CREATE : Sta Z h0 "com/example/scopewright/scopewright/Permission" "CREATE" "Lcom/example/scopewright/scopewright/Permission;" (.ref c0)) (S_READ : Sta Z h0 "com/example/scopewright/scopewright/Permission" "READ" "Lcom/example/scopewright/scopewright/Permission;" (.ref c1)) (S_UPDATE : Sta Z h0 "com/example/scopewright/scopewright/Permission" "UPDATE" "Lcom/example/scopewright/scopewright/Permission;" (.ref c2)) (S_DELETE : Sta Z h0 "com/example/scopewright/scopewright/Permission" "DELETE" "Lcom/example/scopewright/scopewright/Permission;" (.ref c3)) (S_SEARCH : Sta Z h0 "com/example/scopewright/scopewright/Permission" "SEARCH" "Lcom/example/scopewright/scopewright/Permission;" (.ref c4))  :
    WCt l Z (⟨"com/example/scopewright/scopewright/PermissionOfLetterPinLaw", "expected", "(C)Lcom/example/scopewright/scopewright/Permission;"⟩ : MethodName) method_3_code 1 (some (.object "com/example/scopewright/scopewright/Permission")) ({ frames := 0, cells := 0, slots := 0, locals := 0 } : Room) #[(.int ch)] h0 (fun vv hh LL => (vv = some (ofL c0 c1 c2 c3 c4 ch)) ∧ (Fr n0 LL) ∧ (hh = h0)) := by
  refine WCt.of pl_9 ?_
  intro p e s m below meth c T hx hby hml hown hnm hret hlk hZ hh0 X eT
  have hown : s.vm.findClass "com/example/scopewright/scopewright/PermissionOfLetterPinLaw" = some m.cls := hown
  have hnm : meth.name = "expected" := hnm
  have N := Fr.nil n0
  obtain ⟨h, eh⟩ : ∃ h, h = h0 := ⟨_, rfl⟩
  have K : Keep h0 h [] := by rw [eh]; exact Keep.refl _ _
  refine WGo.cast (ef_rmEx m ch) ?_
  rw [← eh] at eT Zn S_CREATE S_READ S_UPDATE S_DELETE S_SEARCH
  refine g_iloadN X hx (hb hby d9_0) rfl (pc' := 1) rfl ?_
  refine g_bipush X hx (hb hby d9_1) (x := (99 : Int32)) (by decide) (pc' := 3) rfl ?_
  refine g_icmp X hx (hb hby d9_3) (by decide) (pc' := 10) (by decide) (pc2 := 6) rfl (fun hc => ?_) (fun hc => ?_)
  · replace hc := h_ne1 hc
    have hc3 := hc
    refine g_iloadN X hx (hb hby d9_10) rfl (pc' := 11) rfl ?_
    refine g_bipush X hx (hb hby d9_11) (x := (114 : Int32)) (by decide) (pc' := 13) rfl ?_
    refine g_icmp X hx (hb hby d9_13) (by decide) (pc' := 20) (by decide) (pc2 := 16) rfl (fun hc => ?_) (fun hc => ?_)
    · replace hc := h_ne1 hc
      have hc13 := hc
      refine g_iloadN X hx (hb hby d9_20) rfl (pc' := 21) rfl ?_
      refine g_bipush X hx (hb hby d9_21) (x := (117 : Int32)) (by decide) (pc' := 23) rfl ?_
      refine g_icmp X hx (hb hby d9_23) (by decide) (pc' := 30) (by decide) (pc2 := 26) rfl (fun hc => ?_) (fun hc => ?_)
      · replace hc := h_ne1 hc
        have hc23 := hc
        refine g_iloadN X hx (hb hby d9_30) rfl (pc' := 31) rfl ?_
        refine g_bipush X hx (hb hby d9_31) (x := (100 : Int32)) (by decide) (pc' := 33) rfl ?_
        refine g_icmp X hx (hb hby d9_33) (by decide) (pc' := 40) (by decide) (pc2 := 36) rfl (fun hc => ?_) (fun hc => ?_)
        · replace hc := h_ne1 hc
          have hc33 := hc
          refine g_iloadN X hx (hb hby d9_40) rfl (pc' := 41) rfl ?_
          refine g_bipush X hx (hb hby d9_41) (x := (115 : Int32)) (by decide) (pc' := 43) rfl ?_
          refine g_icmp X hx (hb hby d9_43) (by decide) (pc' := 50) (by decide) (pc2 := 46) rfl (fun hc => ?_) (fun hc => ?_)
          · replace hc := h_ne1 hc
            have hc43 := hc
            refine g_null X hx (hb hby d9_50) (pc' := 51) rfl ?_
            refine g_retA X hx rfl hret rfl hlk (hb hby d9_51) (by decide) (by decide) ?_
            rw [eT]
            refine ⟨congrArg some ?_, N, eh⟩
            unfold ofL
            simp +decide only [eq_false hc3, eq_false hc13, eq_false hc23, eq_false hc33, eq_false hc43, not_true_eq_false, not_false_eq_true, if_true, if_false, true_and, false_and, and_true, and_false, and_self, true_or, or_true, false_or, or_false, reduceIte, eq_self]
          · replace hc := h_ne0 hc
            have hc43 := hc
            refine g_getS X hx hZ hown (hw _ (List.mem_of_getElem? (i := 64) rfl)) eT S_SEARCH (hb hby d9_46) (pc' := 49) rfl (fun T X eT => ?_)
            refine g_retA X hx rfl hret rfl hlk (hb hby d9_49) (by decide) (by decide) ?_
            rw [eT]
            refine ⟨congrArg some ?_, N, eh⟩
            unfold ofL
            simp +decide only [eq_false hc3, eq_false hc13, eq_false hc23, eq_false hc33, eq_true hc43, not_true_eq_false, not_false_eq_true, if_true, if_false, true_and, false_and, and_true, and_false, and_self, true_or, or_true, false_or, or_false, reduceIte, eq_self]
        · replace hc := h_ne0 hc
          have hc33 := hc
          refine g_getS X hx hZ hown (hw _ (List.mem_of_getElem? (i := 63) rfl)) eT S_DELETE (hb hby d9_36) (pc' := 39) rfl (fun T X eT => ?_)
          refine g_retA X hx rfl hret rfl hlk (hb hby d9_39) (by decide) (by decide) ?_
          rw [eT]
          refine ⟨congrArg some ?_, N, eh⟩
          unfold ofL
          simp +decide only [eq_false hc3, eq_false hc13, eq_false hc23, eq_true hc33, not_true_eq_false, not_false_eq_true, if_true, if_false, true_and, false_and, and_true, and_false, and_self, true_or, or_true, false_or, or_false, reduceIte, eq_self]
      · replace hc := h_ne0 hc
        have hc23 := hc
        refine g_getS X hx hZ hown (hw _ (List.mem_of_getElem? (i := 62) rfl)) eT S_UPDATE (hb hby d9_26) (pc' := 29) rfl (fun T X eT => ?_)
        refine g_retA X hx rfl hret rfl hlk (hb hby d9_29) (by decide) (by decide) ?_
        rw [eT]
        refine ⟨congrArg some ?_, N, eh⟩
        unfold ofL
        simp +decide only [eq_false hc3, eq_false hc13, eq_true hc23, not_true_eq_false, not_false_eq_true, if_true, if_false, true_and, false_and, and_true, and_false, and_self, true_or, or_true, false_or, or_false, reduceIte, eq_self]
    · replace hc := h_ne0 hc
      have hc13 := hc
      refine g_getS X hx hZ hown (hw _ (List.mem_of_getElem? (i := 57) rfl)) eT S_READ (hb hby d9_16) (pc' := 19) rfl (fun T X eT => ?_)
      refine g_retA X hx rfl hret rfl hlk (hb hby d9_19) (by decide) (by decide) ?_
      rw [eT]
      refine ⟨congrArg some ?_, N, eh⟩
      unfold ofL
      simp +decide only [eq_false hc3, eq_true hc13, not_true_eq_false, not_false_eq_true, if_true, if_false, true_and, false_and, and_true, and_false, and_self, true_or, or_true, false_or, or_false, reduceIte, eq_self]
  · replace hc := h_ne0 hc
    have hc3 := hc
    refine g_getS X hx hZ hown (hw _ (List.mem_of_getElem? (i := 58) rfl)) eT S_CREATE (hb hby d9_6) (pc' := 9) rfl (fun T X eT => ?_)
    refine g_retA X hx rfl hret rfl hlk (hb hby d9_9) (by decide) (by decide) ?_
    rw [eT]
    refine ⟨congrArg some ?_, N, eh⟩
    unfold ofL
    simp +decide only [eq_true hc3, not_true_eq_false, not_false_eq_true, if_true, if_false, true_and, false_and, and_true, and_false, and_self, true_or, or_true, false_or, or_false, reduceIte, eq_self]
theorem pl_0 : plainFor x = true := plainFor_of_name (by first | (simp [plainName, overriddenIn, x]; done) | decide +kernel)
theorem ef_rm0 (m : MethodId) (z0 : Int32) (z1 : Int32) : entryFrame m #[(.int z0), (.int z1)] maxLocals = mkF m 0 #[.val (.int z0), .val (.int z1), .unset, .unset] [] := by first | (simp [entryFrame, mkF, argsToLocals, Value.category, maxLocals]; done) | rfl
set_option maxRecDepth 65536 in
set_option maxHeartbeats 40000000 in
theorem rm0 (l : Launch) (Z : State) (a0 : Array Value) (hw : ∀ d ∈ tables_1, d.before a0 Z = true) (ws : List Jvm.Cond) (p0 p1 cs : Int32) (fm : Value) (hfm : fm.isRef = true) (va c0 c1 c2 c3 c4 : Addr) (fV : Nat → Value) (S_COMPACT_STRINGS : Sta Z Z.heap "java/lang/String" "COMPACT_STRINGS" "Z" (.int cs)) (S_SIOOBE_FORMATTER : Sta Z Z.heap "jdk/internal/util/Preconditions" "SIOOBE_FORMATTER" "Ljava/util/function/BiFunction;" fm) (S_VALUES : Sta Z Z.heap "com/example/scopewright/scopewright/Permission" "VALUES" "[Lcom/example/scopewright/scopewright/Permission;" (.ref va)) (S_CREATE : Sta Z Z.heap "com/example/scopewright/scopewright/Permission" "CREATE" "Lcom/example/scopewright/scopewright/Permission;" (.ref c0)) (S_READ : Sta Z Z.heap "com/example/scopewright/scopewright/Permission" "READ" "Lcom/example/scopewright/scopewright/Permission;" (.ref c1)) (S_UPDATE : Sta Z Z.heap "com/example/scopewright/scopewright/Permission" "UPDATE" "Lcom/example/scopewright/scopewright/Permission;" (.ref c2)) (S_DELETE : Sta Z Z.heap "com/example/scopewright/scopewright/Permission" "DELETE" "Lcom/example/scopewright/scopewright/Permission;" (.ref c3)) (S_SEARCH : Sta Z Z.heap "com/example/scopewright/scopewright/Permission" "SEARCH" "Lcom/example/scopewright/scopewright/Permission;" (.ref c4)) (A_va : Ai Z Z.heap va (.object "com/example/scopewright/scopewright/Permission") 5 fV) (F_c0_letter : Fld Z Z.heap c0 "com/example/scopewright/scopewright/Permission" "letter" "C" (.int (99 : Int32))) (F_c1_letter : Fld Z Z.heap c1 "com/example/scopewright/scopewright/Permission" "letter" "C" (.int (114 : Int32))) (F_c2_letter : Fld Z Z.heap c2 "com/example/scopewright/scopewright/Permission" "letter" "C" (.int (117 : Int32))) (F_c3_letter : Fld Z Z.heap c3 "com/example/scopewright/scopewright/Permission" "letter" "C" (.int (100 : Int32))) (F_c4_letter : Fld Z Z.heap c4 "com/example/scopewright/scopewright/Permission" "letter" "C" (.int (115 : Int32))) (hcs : ¬ cs = 0) (hf0 : fV 0 = .ref c0) (hf1 : fV 1 = .ref c1) (hf2 : fV 2 = .ref c2) (hf3 : fV 3 = .ref c3) (hf4 : fV 4 = .ref c4) (hh : Jvm.Lit.constHeld Z "com/example/scopewright/scopewright/PermissionOfLetterPinLaw" 7) (hcw : Jvm.Lit.compactW.before a0 Z = true) :
    MetFree l x (head1 (Jvm.Cond.code x code maxLocals ret :: ws) room_1) (fun a U => a = #[(.int p0), (.int p1)] ∧ U = Z) (fun _ _ _ _ _ => True) (fun _ U o U' => ∃ v L, o = .returned v ∧ (fun vv hh LL => vv = some (.int (1 : Int32)) ∧ Fr Z.heap.size LL) v U'.heap L ∧ FramedW U o U' L room_1.cells room_1.slots) := by
  refine MetFree.of_bodySF pl_0 hisR ?_
  intro p e s m args below meth c T Bd hml0 hP hK
  obtain ⟨rfl, rfl⟩ := hP
  have hx := Bd.exec
  have hby := Bd.bytes
  have hml : c.maxLocals = 4 := hml0
  have hown : s.vm.findClass "com/example/scopewright/scopewright/PermissionOfLetterPinLaw" = some m.cls := findClass_of_methodNamed Bd.named
  have hret : meth.sig.returnType = some .boolean := Bd.returns
  have hlk := BodyLoose.notSynchronized Bd
  have X : Stand p l e room_1 s m #[(.int p0), (.int p1)] below meth c T [] 0 0 := Stand.of_body Bd
  obtain ⟨h, eh⟩ : ∃ h, h = s.heap := ⟨_, rfl⟩
  have eT : T.heap = h := by rw [eh, Bd.state]; rfl
  obtain ⟨n0, en0⟩ : ∃ n, n = s.heap.size := ⟨_, rfl⟩
  have Zn : n0 ≤ h.size := by rw [en0, eh]; exact Nat.le_refl _
  have N := Fr.nil n0
  have hZ : s.Warmed39 s.vm := State.Warmed39.refl s
  rw [← eh] at S_COMPACT_STRINGS S_SIOOBE_FORMATTER S_VALUES S_CREATE S_READ S_UPDATE S_DELETE S_SEARCH A_va F_c0_letter F_c1_letter F_c2_letter F_c3_letter F_c4_letter
  show GW p e below s room_1.cells room_1.slots (fun vv hh LL => vv = some (.int (1 : Int32)) ∧ Fr s.heap.size LL) T (entryFrame m #[(.int p0), (.int p1)] maxLocals)
  rw [← en0]
  refine GW.cast (ef_rm0 m p0 p1) ?_
  refine GW.go (fun t k => XS.iloadN X.here hx rfl (hb hby at_0) rfl k) ?_
  refine GW.go (fun t k => XT.i2c X.here hx rfl (hb hby at_1) rfl k) ?_
  refine GW.go (fun t k => XS.istoreN X.here hx rfl (hb hby at_2) rfl (l' := #[.val (.int p0), .val (.int p1), .val (.int p0.toUInt32.toUInt16.toUInt32.toInt32), .unset]) rfl k) ?_
  refine GW.go (fun t k => XS.iloadN X.here hx rfl (hb hby at_3) rfl k) ?_
  refine GW.go (fun t k => XS.iconst X.here hx rfl (hb hby at_4) k) ?_
  refine GW.go (fun t k => XS.iand X.here hx rfl (hb hby at_5) rfl k) ?_
  cases hq : ifCond.holds .eq (p1 &&& Int32.ofInt 1)
  · refine GW.go (fun t k => XS.ifNo X.here hx rfl (hb hby at_6) rfl hq k) ?_
    have wS : ∀ a ∈ Bundle.stringAtoms, a.before a0 s = true := by
      intro a ha
      simp only [Bundle.stringAtoms, Bundle.sN, List.mem_cons, List.not_mem_nil, or_false] at ha
      rcases ha with rfl | rfl | rfl | rfl | rfl | rfl | rfl
      · exact hw _ (List.mem_of_getElem? (i := 1) rfl)
      · exact hw _ (List.mem_of_getElem? (i := 2) rfl)
      · exact hw _ (List.mem_of_getElem? (i := 3) rfl)
      · exact hw _ (List.mem_of_getElem? (i := 4) rfl)
      · exact hw _ (List.mem_of_getElem? (i := 5) rfl)
      · exact hw _ (List.mem_of_getElem? (i := 6) rfl)
      · exact hw _ (List.mem_of_getElem? (i := 7) rfl)
    have X' : Stand p l e room_1 (s.setVm s.vm) m #[(.int p0), (.int p1)] below meth c T [] 0 0 := X
    obtain ⟨sa, T', h1, k1, sb, kb, Y, eT', Ex, hS, hk1, hZ', hown', E_sa, F_sa_coder, F_sa_value, V, -, -, -, stp⟩ := ldcSV (s := s) (vm0 := s.vm) (Z := s) X' hx hZ hown (hw _ (List.mem_of_getElem? (i := 0) rfl)) wS eT (k0 := 0) ((State.WarmedH.refl s).since 0) (Nat.zero_le _) (Fr.nil _) (fun _ _ q => q) IB.start (by simp) hh hcw (vs := _) (z := 11) ⟨by decide, rfl⟩ (by decide) (by decide) (g := (mkF m 9 #[.val (.int p0), .val (.int p1), .val (.int p0.toUInt32.toUInt16.toUInt32.toInt32), .unset] [])) rfl (hb hby at_9) (n := 44) (by decide) (by decide) (by decide) (by decide)
    obtain ⟨L, A_sb⟩ := arv_ex V (n := 11) (by decide) (by decide)
    refine GW.go stp ?_
    refine GW.since hS ?_
    clear X X' hZ hown
    have X := Y; have hZ := hZ'; have hown := hown'
    replace S_COMPACT_STRINGS := S_COMPACT_STRINGS.ext Ex
    replace S_SIOOBE_FORMATTER := S_SIOOBE_FORMATTER.ext Ex
    replace S_VALUES := S_VALUES.ext Ex
    replace S_CREATE := S_CREATE.ext Ex
    replace S_READ := S_READ.ext Ex
    replace S_UPDATE := S_UPDATE.ext Ex
    replace S_DELETE := S_DELETE.ext Ex
    replace S_SEARCH := S_SEARCH.ext Ex
    replace A_va := A_va.ext Ex
    replace F_c0_letter := F_c0_letter.ext Ex
    replace F_c1_letter := F_c1_letter.ext Ex
    replace F_c2_letter := F_c2_letter.ext Ex
    replace F_c3_letter := F_c3_letter.ext Ex
    replace F_c4_letter := F_c4_letter.ext Ex
    replace Zn := Nat.le_trans Zn Ex.1
    clear eT eh
    show WGo _ _ _ _ _ _ _ _ (mkF m 11 #[.val (.int p0), .val (.int p1), .val (.int p0.toUInt32.toUInt16.toUInt32.toInt32), .unset] [(.ref sa)])
    have eT := eT'
    refine g_astoreN X hx (hb hby at_11) rfl (Ls' := #[.val (.int p0), .val (.int p1), .val (.int p0.toUInt32.toUInt16.toUInt32.toInt32), .val (.ref sa)]) rfl (pc' := 12) rfl ?_
    refine g_aloadN X hx (hb hby at_12) rfl rfl (pc' := 13) rfl ?_
    refine g_iloadN X hx (hb hby at_13) rfl (pc' := 14) rfl ?_
    refine g_iconst X hx (hb hby at_14) (x := (1 : Int32)) (by decide) (pc' := 15) rfl ?_
    refine g_iushr X hx (hb hby at_15) (pc' := 16) rfl ?_
    refine g_aloadN X hx (hb hby at_16) rfl rfl (pc' := 17) rfl ?_
    refine g_virt (W := 2) (argsL := []) (st := [(.int (XT.ushr p1 (1 : Int32))), (.ref sa)]) X hx hZ hown (hw _ (List.mem_of_getElem? (i := 8) rfl)) (hw _ (List.mem_of_getElem? (i := 9) rfl)) (notFace_of_selects (args := #[]) (mvT hZ (hw _ (List.mem_of_getElem? (i := 11) rfl)))) (hw _ (List.mem_of_getElem? (i := 11) rfl)) (hw _ (List.mem_of_getElem? (i := 10) rfl)) (hw _ (List.mem_of_getElem? (i := 12) rfl)) (hw _ (List.mem_of_getElem? (i := 1) rfl)) (by decide) E_sa (rmLen l s a0 hw sa sb L cs h1 n0 Zn E_sa F_sa_value F_sa_coder A_sb S_COMPACT_STRINGS hcs) eT (by decide) (by decide) (by decide) (by decide) (lenOf pd_5 rfl) (by rw [hml]; rfl) rfl (Nat.le_of_eq rfl) (hb hby at_17) (pc' := 20) rfl (fun T hn vq Lq X eT hQ => ?_)
    obtain ⟨rfl, Nq, hE⟩ := hQ
    replace N := Fr.app N Nq
    rw [hE] at eT; clear hE
    show WGo _ _ _ _ _ _ _ _ (mkF m 20 #[.val (.int p0), .val (.int p1), .val (.int p0.toUInt32.toUInt16.toUInt32.toInt32), .val (.ref sa)] [(.int (11 : Int32)), (.int (XT.ushr p1 (1 : Int32))), (.ref sa)])
    refine g_irem X hx (hb hby at_20) (by decide) (pc' := 21) rfl ?_
    obtain ⟨ix0, ix1, ix2⟩ := ix_ok p1
    refine g_virt (W := 0) (argsL := [(.int ((XT.ushr p1 (1 : Int32)) % (11 : Int32)))]) (st := []) X hx hZ hown (hw _ (List.mem_of_getElem? (i := 21) rfl)) (hw _ (List.mem_of_getElem? (i := 22) rfl)) (notFace_of_selects (args := #[]) (mvT hZ (hw _ (List.mem_of_getElem? (i := 24) rfl)))) (hw _ (List.mem_of_getElem? (i := 24) rfl)) (hw _ (List.mem_of_getElem? (i := 23) rfl)) (hw _ (List.mem_of_getElem? (i := 25) rfl)) (hw _ (List.mem_of_getElem? (i := 1) rfl)) (by decide) E_sa (rmChA l s a0 hw sa sb L cs ((XT.ushr p1 (1 : Int32)) % (11 : Int32)) fm hfm h1 n0 Zn E_sa F_sa_value F_sa_coder A_sb S_COMPACT_STRINGS S_SIOOBE_FORMATTER hcs ix0 ix1 ix2) eT (by decide) (by decide) (by decide) (by decide) (lenOf pd_6 rfl) (by rw [hml]; rfl) rfl (Nat.le_of_eq rfl) (hb hby at_21) (pc' := 24) rfl (fun T hn vq Lq X eT hQ => ?_)
    obtain ⟨dd, rfl, Nq, hE⟩ := hQ
    replace N := Fr.app N Nq
    rw [hE] at eT; clear hE
    show WGo _ _ _ _ _ _ _ _ (mkF m 24 #[.val (.int p0), .val (.int p1), .val (.int p0.toUInt32.toUInt16.toUInt32.toInt32), .val (.ref sa)] [(.int dd)])
    refine g_istoreN X hx (hb hby at_24) (Ls' := #[.val (.int p0), .val (.int p1), .val (.int dd), .val (.ref sa)]) rfl (pc' := 25) rfl ?_
    refine g_iloadN X hx (hb hby at_25) rfl (pc' := 26) rfl ?_
    refine g_stat (W := 0) (argsL := [(.int dd)]) (st := []) X hx hZ hown (hw _ (List.mem_of_getElem? (i := 43) rfl)) (hw _ (List.mem_of_getElem? (i := 44) rfl)) (hw _ (List.mem_of_getElem? (i := 45) rfl)) (hw _ (List.mem_of_getElem? (i := 46) rfl)) (by decide) (rmOf l s a0 hw va fV c0 c1 c2 c3 c4 dd h1 n0 Zn S_VALUES A_va F_c0_letter F_c1_letter F_c2_letter F_c3_letter F_c4_letter hf0 hf1 hf2 hf3 hf4) eT (by decide) (by decide) (by decide) (by decide) (lenOf pd_7 rfl) (by rw [hml]; rfl) rfl (Nat.le_of_eq rfl) (hb hby at_26) (pc' := 29) rfl (fun T hn vq Lq X eT hQ => ?_)
    obtain ⟨rfl, Nq, hE⟩ := hQ
    replace N := Fr.app N Nq
    rw [hE] at eT; clear hE
    show WGo _ _ _ _ _ _ _ _ (mkF m 29 #[.val (.int p0), .val (.int p1), .val (.int dd), .val (.ref sa)] [(ofL c0 c1 c2 c3 c4 dd)])
    refine g_astoreN X hx (hb hby at_29) (ofL_ref c0 c1 c2 c3 c4 dd) (Ls' := #[.val (.int p0), .val (.int p1), .val (.int dd), .val (ofL c0 c1 c2 c3 c4 dd)]) (by rcases ref_cases (ofL_ref c0 c1 c2 c3 c4 dd) with q | ⟨_, q⟩ <;> rw [q] <;> rfl) (pc' := 30) rfl ?_
    refine g_aloadN X hx (hb hby at_30) rfl (ofL_ref c0 c1 c2 c3 c4 dd) (pc' := 31) rfl ?_
    refine g_iloadN X hx (hb hby at_31) rfl (pc' := 32) rfl ?_
    refine g_stat (W := 1) (argsL := [(.int dd)]) (st := [(ofL c0 c1 c2 c3 c4 dd)]) X hx hZ hown (hw _ (List.mem_of_getElem? (i := 53) rfl)) (hw _ (List.mem_of_getElem? (i := 54) rfl)) (hw _ (List.mem_of_getElem? (i := 55) rfl)) (hw _ (List.mem_of_getElem? (i := 56) rfl)) (by decide) (rmEx l s a0 hw c0 c1 c2 c3 c4 dd h1 n0 Zn S_CREATE S_READ S_UPDATE S_DELETE S_SEARCH ) eT (by decide) (by decide) (by decide) (by decide) (lenOf pd_7 rfl) (by rw [hml]; rfl) rfl (by rcases ref_cases (ofL_ref c0 c1 c2 c3 c4 dd) with q | ⟨_, q⟩ <;> simp only [q] <;> exact Nat.le_of_eq rfl) (hb hby at_32) (pc' := 35) rfl (fun T hn vq Lq X eT hQ => ?_)
    obtain ⟨rfl, Nq, hE⟩ := hQ
    replace N := Fr.app N Nq
    rw [hE] at eT; clear hE
    show WGo _ _ _ _ _ _ _ _ (mkF m 35 #[.val (.int p0), .val (.int p1), .val (.int dd), .val (ofL c0 c1 c2 c3 c4 dd)] [(ofL c0 c1 c2 c3 c4 dd), (ofL c0 c1 c2 c3 c4 dd)])
    refine g_acmp X hx (ofL_ref c0 c1 c2 c3 c4 dd) (ofL_ref c0 c1 c2 c3 c4 dd) (hb hby at_35) (by decide) (pc' := 42) (by decide) (pc2 := 38) rfl (fun hc => ?_) (fun hc => ?_)
    · skip
      have hc35 := hc
      exfalso
      exact hc rfl
    · skip
      have hc35 := hc
      refine g_iconst X hx (hb hby at_38) (x := (1 : Int32)) (by decide) (pc' := 39) rfl ?_
      refine g_goto X hx (hb hby at_39) (by decide) (pc' := 43) (by decide) ?_
      refine g_retN (t := .boolean) X hx hret (by simp) hlk (hb hby at_43) (by decide) (by decide) ?_
      rw [eT]
      exact ⟨⟨rfl, N⟩, hk1⟩
  · refine GW.go (fun t k => XS.ifYes X.here hx rfl (pc0 := 6) (pc' := 25) rfl (hb hby at_6) rfl hq (by decide) (by decide) k) ?_
    refine GW.of ?_
    show WGo _ _ _ _ _ _ _ _ (mkF m 25 #[.val (.int p0), .val (.int p1), .val (.int p0.toUInt32.toUInt16.toUInt32.toInt32), .unset] [])
    refine g_iloadN X hx (hb hby at_25) rfl (pc' := 26) rfl ?_
    refine g_stat (W := 0) (argsL := [(.int (p0.toUInt32.toUInt16.toUInt32.toInt32))]) (st := []) X hx hZ hown (hw _ (List.mem_of_getElem? (i := 43) rfl)) (hw _ (List.mem_of_getElem? (i := 44) rfl)) (hw _ (List.mem_of_getElem? (i := 45) rfl)) (hw _ (List.mem_of_getElem? (i := 46) rfl)) (by decide) (rmOf l s a0 hw va fV c0 c1 c2 c3 c4 (p0.toUInt32.toUInt16.toUInt32.toInt32) h n0 Zn S_VALUES A_va F_c0_letter F_c1_letter F_c2_letter F_c3_letter F_c4_letter hf0 hf1 hf2 hf3 hf4) eT (by decide) (by decide) (by decide) (by decide) (lenOf pd_7 rfl) (by rw [hml]; rfl) rfl (Nat.le_of_eq rfl) (hb hby at_26) (pc' := 29) rfl (fun T hn vq Lq X eT hQ => ?_)
    obtain ⟨rfl, Nq, hE⟩ := hQ
    replace N := Fr.app N Nq
    rw [hE] at eT; clear hE
    show WGo _ _ _ _ _ _ _ _ (mkF m 29 #[.val (.int p0), .val (.int p1), .val (.int p0.toUInt32.toUInt16.toUInt32.toInt32), .unset] [(ofL c0 c1 c2 c3 c4 (p0.toUInt32.toUInt16.toUInt32.toInt32))])
    refine g_astoreN X hx (hb hby at_29) (ofL_ref c0 c1 c2 c3 c4 (p0.toUInt32.toUInt16.toUInt32.toInt32)) (Ls' := #[.val (.int p0), .val (.int p1), .val (.int p0.toUInt32.toUInt16.toUInt32.toInt32), .val (ofL c0 c1 c2 c3 c4 (p0.toUInt32.toUInt16.toUInt32.toInt32))]) (by rcases ref_cases (ofL_ref c0 c1 c2 c3 c4 (p0.toUInt32.toUInt16.toUInt32.toInt32)) with q | ⟨_, q⟩ <;> rw [q] <;> rfl) (pc' := 30) rfl ?_
    refine g_aloadN X hx (hb hby at_30) rfl (ofL_ref c0 c1 c2 c3 c4 (p0.toUInt32.toUInt16.toUInt32.toInt32)) (pc' := 31) rfl ?_
    refine g_iloadN X hx (hb hby at_31) rfl (pc' := 32) rfl ?_
    refine g_stat (W := 1) (argsL := [(.int (p0.toUInt32.toUInt16.toUInt32.toInt32))]) (st := [(ofL c0 c1 c2 c3 c4 (p0.toUInt32.toUInt16.toUInt32.toInt32))]) X hx hZ hown (hw _ (List.mem_of_getElem? (i := 53) rfl)) (hw _ (List.mem_of_getElem? (i := 54) rfl)) (hw _ (List.mem_of_getElem? (i := 55) rfl)) (hw _ (List.mem_of_getElem? (i := 56) rfl)) (by decide) (rmEx l s a0 hw c0 c1 c2 c3 c4 (p0.toUInt32.toUInt16.toUInt32.toInt32) h n0 Zn S_CREATE S_READ S_UPDATE S_DELETE S_SEARCH ) eT (by decide) (by decide) (by decide) (by decide) (lenOf pd_7 rfl) (by rw [hml]; rfl) rfl (by rcases ref_cases (ofL_ref c0 c1 c2 c3 c4 (p0.toUInt32.toUInt16.toUInt32.toInt32)) with q | ⟨_, q⟩ <;> simp only [q] <;> exact Nat.le_of_eq rfl) (hb hby at_32) (pc' := 35) rfl (fun T hn vq Lq X eT hQ => ?_)
    obtain ⟨rfl, Nq, hE⟩ := hQ
    replace N := Fr.app N Nq
    rw [hE] at eT; clear hE
    show WGo _ _ _ _ _ _ _ _ (mkF m 35 #[.val (.int p0), .val (.int p1), .val (.int p0.toUInt32.toUInt16.toUInt32.toInt32), .val (ofL c0 c1 c2 c3 c4 (p0.toUInt32.toUInt16.toUInt32.toInt32))] [(ofL c0 c1 c2 c3 c4 (p0.toUInt32.toUInt16.toUInt32.toInt32)), (ofL c0 c1 c2 c3 c4 (p0.toUInt32.toUInt16.toUInt32.toInt32))])
    refine g_acmp X hx (ofL_ref c0 c1 c2 c3 c4 (p0.toUInt32.toUInt16.toUInt32.toInt32)) (ofL_ref c0 c1 c2 c3 c4 (p0.toUInt32.toUInt16.toUInt32.toInt32)) (hb hby at_35) (by decide) (pc' := 42) (by decide) (pc2 := 38) rfl (fun hc => ?_) (fun hc => ?_)
    · skip
      have hc35 := hc
      exfalso
      exact hc rfl
    · skip
      have hc35 := hc
      refine g_iconst X hx (hb hby at_38) (x := (1 : Int32)) (by decide) (pc' := 39) rfl ?_
      refine g_goto X hx (hb hby at_39) (by decide) (pc' := 43) (by decide) ?_
      refine g_retN (t := .boolean) X hx hret (by simp) hlk (hb hby at_43) (by decide) (by decide) ?_
      exact ⟨rfl, N⟩
set_option maxRecDepth 65536 in
set_option maxHeartbeats 40000000 in
theorem comes_1 {Post : Tables → Env → Array Value → State → Outcome → State → Prop} (hpost : ∀ tb e args s v u, (limb_1_1.after args s (.returned v) u = true ∧ limb_1_2.after args s (.returned v) u = true ∧ True) → FramedW s (.returned v) u (Jvm.fieldLocs frame_1_writes args s ++ Jvm.arrayLocs frame_1_arrays args s ++ Jvm.staticLocs frame_1_statics s) 8 1088 → Post tb e args s (.returned v) u) :
    ArmFor flags0 classFile x code maxLocals ret World_1 tables_1 room_1 Calls_1 rest_1 Pre_1 Post := by
  intro l hfl _ _ p e ha hc hk s m args below hf hA hF happ hP
  obtain ⟨hcalls, hrest, hpre⟩ := hP
  obtain ⟨-, -, -, hnamed, -, -, -, hat⟩ := (Spec.applies_iff hf).mp happ
  obtain ⟨hg, hn⟩ := and_e (Cond.before_iff.mp (show (Jvm.Cond.and given_1 narrow_1).before args s = true from hpre))
  obtain ⟨gc, gr0⟩ := and_e hg
  obtain ⟨ga0, gr1⟩ := and_e gr0
  obtain ⟨w0, w1, rfl⟩ : ∃ w0 w1 : Value, args = #[w0, w1] := by
    have hs : args.size = 2 := by simpa [Cond.value, given_1] using gc
    obtain ⟨L⟩ := args
    match L, hs with
    | [w0, w1], _ => exact ⟨w0, w1, rfl⟩
  have hw := fun d (hd : d ∈ tables_1) => atoms_spec (ws := Jvm.Cond.code x code maxLocals ret :: tables_1) hat d (List.mem_cons_of_mem _ hd)
  obtain ⟨i0, ei0⟩ := is_v ga0
  obtain rfl : w0 = (.int i0) := Option.some.inj ei0
  obtain ⟨i1, ei1⟩ := is_v gr1
  obtain rfl : w1 = (.int i1) := Option.some.inj ei1
  obtain ⟨hsets, hown0⟩ := atoms_of _ (rest_1_c_eq ▸ (show rest_1_c.before _ s = true from hrest))
  obtain ⟨cs, ecs⟩ := is_v (Cond.before_iff.mp (hsets _ (List.mem_of_getElem? (i := 1) rfl)))
  have S_COMPACT_STRINGS := Sta.start ecs (Or.inl (hsets _ (List.mem_of_getElem? (i := 0) rfl)))
  have hcs : ¬ cs = (0 : Int32) := gotF (Cond.eq_ints ecs (Term.int_eval (0))) (not_v (Cond.before_iff.mp (hsets _ (List.mem_of_getElem? (i := 2) rfl))))
  obtain ⟨fm, efm, hfm⟩ := isR_v (Cond.before_iff.mp (hsets _ (List.mem_of_getElem? (i := 8) rfl)))
  have S_SIOOBE_FORMATTER := Sta.start efm (Or.inl (hsets _ (List.mem_of_getElem? (i := 7) rfl)))
  obtain ⟨m1, m2⟩ := and_e hn
  obtain ⟨m3, m4⟩ := and_e m2
  obtain ⟨va, eva⟩ : ∃ va, (Jvm.Term.static "com/example/scopewright/scopewright/Permission" "VALUES" "[Lcom/example/scopewright/scopewright/Permission;").eval #[.int i0, .int i1] s none [] s = some (.ref va) := len_v (eqv_i (Term.int_eval (5)) m3)
  obtain ⟨cc, Ac⟩ := Arr.start eva m1
  have hac := Ac.fin (Vm.Alike.refl _)
  have el := eqv_i (Term.int_eval (5)) m3
  have h31 := SBG.length_lt eva hac el
  have e3 : cc.slots.size.toInt32 = 5 := Value.int.inj (Option.some.inj ((len_f eva hac h31).symm.trans el))
  have hsz : cc.slots.size = 5 := by
    have q := congrArg Int32.toInt e3
    rw [len_toInt h31] at q
    simp only [Int32.reduceToInt] at q
    omega
  have S_VALUES := Sta.start eva (Or.inr ⟨hw _ (List.mem_of_getElem? (i := 45) rfl), hw _ (List.mem_of_getElem? (i := 48) rfl)⟩)
  obtain ⟨x0, r0⟩ := and_e m4
  obtain ⟨y0, t0⟩ := and_e r0
  obtain ⟨z0, u0⟩ := and_e t0
  obtain ⟨c0, ec0⟩ := exa_v x0
  have S_CREATE := Sta.start ec0 (Or.inr ⟨hw _ (List.mem_of_getElem? (i := 45) rfl), hw _ (List.mem_of_getElem? (i := 49) rfl)⟩)
  have F_c0_letter : Fld s s.heap c0 "com/example/scopewright/scopewright/Permission" "letter" "C" (.int (99 : Int32)) := Fld.start ((fld_at ec0).symm.trans (eqv_i (Term.int_eval (99)) z0))
  obtain ⟨x1, r1⟩ := and_e u0
  obtain ⟨y1, t1⟩ := and_e r1
  obtain ⟨z1, u1⟩ := and_e t1
  obtain ⟨c1, ec1⟩ := exa_v x1
  have S_READ := Sta.start ec1 (Or.inr ⟨hw _ (List.mem_of_getElem? (i := 45) rfl), hw _ (List.mem_of_getElem? (i := 52) rfl)⟩)
  have F_c1_letter : Fld s s.heap c1 "com/example/scopewright/scopewright/Permission" "letter" "C" (.int (114 : Int32)) := Fld.start ((fld_at ec1).symm.trans (eqv_i (Term.int_eval (114)) z1))
  obtain ⟨x2, r2⟩ := and_e u1
  obtain ⟨y2, t2⟩ := and_e r2
  obtain ⟨z2, u2⟩ := and_e t2
  obtain ⟨c2, ec2⟩ := exa_v x2
  have S_UPDATE := Sta.start ec2 (Or.inr ⟨hw _ (List.mem_of_getElem? (i := 45) rfl), hw _ (List.mem_of_getElem? (i := 59) rfl)⟩)
  have F_c2_letter : Fld s s.heap c2 "com/example/scopewright/scopewright/Permission" "letter" "C" (.int (117 : Int32)) := Fld.start ((fld_at ec2).symm.trans (eqv_i (Term.int_eval (117)) z2))
  obtain ⟨x3, r3⟩ := and_e u2
  obtain ⟨y3, t3⟩ := and_e r3
  obtain ⟨z3, u3⟩ := and_e t3
  obtain ⟨c3, ec3⟩ := exa_v x3
  have S_DELETE := Sta.start ec3 (Or.inr ⟨hw _ (List.mem_of_getElem? (i := 45) rfl), hw _ (List.mem_of_getElem? (i := 60) rfl)⟩)
  have F_c3_letter : Fld s s.heap c3 "com/example/scopewright/scopewright/Permission" "letter" "C" (.int (100 : Int32)) := Fld.start ((fld_at ec3).symm.trans (eqv_i (Term.int_eval (100)) z3))
  obtain ⟨x4, r4⟩ := and_e u3
  obtain ⟨y4, t4⟩ := and_e r4
  obtain ⟨c4, ec4⟩ := exa_v x4
  have S_SEARCH := Sta.start ec4 (Or.inr ⟨hw _ (List.mem_of_getElem? (i := 45) rfl), hw _ (List.mem_of_getElem? (i := 61) rfl)⟩)
  have F_c4_letter : Fld s s.heap c4 "com/example/scopewright/scopewright/Permission" "letter" "C" (.int (115 : Int32)) := Fld.start ((fld_at ec4).symm.trans (eqv_i (Term.int_eval (115)) t4))
  obtain ⟨fV, hfV⟩ : ∃ fV : Nat → Value, fV = fun i => (cc.slots[i]?).getD .null := ⟨_, rfl⟩
  have A_va : Ai s s.heap va (.object "com/example/scopewright/scopewright/Permission") 5 fV := ⟨cc, Ac, hsz, by decide, fun i hi => by
    rw [hfV]
    show cc.slots[i]? = some ((cc.slots[i]?).getD .null)
    rw [Array.getElem?_eq_getElem (by omega)]
    rfl⟩
  have hf0 : fV 0 = .ref c0 := by
    have q := (elem_f eva (Term.int_eval (0)) hac (j := (0 : Int32)) (by decide)).symm.trans (eqv_r ec0 y0)
    rw [hfV]; show (cc.slots[0]?).getD .null = _
    rw [show cc.slots[0]? = some (.ref c0) from q]; rfl
  have hf1 : fV 1 = .ref c1 := by
    have q := (elem_f eva (Term.int_eval (1)) hac (j := (1 : Int32)) (by decide)).symm.trans (eqv_r ec1 y1)
    rw [hfV]; show (cc.slots[1]?).getD .null = _
    rw [show cc.slots[1]? = some (.ref c1) from q]; rfl
  have hf2 : fV 2 = .ref c2 := by
    have q := (elem_f eva (Term.int_eval (2)) hac (j := (2 : Int32)) (by decide)).symm.trans (eqv_r ec2 y2)
    rw [hfV]; show (cc.slots[2]?).getD .null = _
    rw [show cc.slots[2]? = some (.ref c2) from q]; rfl
  have hf3 : fV 3 = .ref c3 := by
    have q := (elem_f eva (Term.int_eval (3)) hac (j := (3 : Int32)) (by decide)).symm.trans (eqv_r ec3 y3)
    rw [hfV]; show (cc.slots[3]?).getD .null = _
    rw [show cc.slots[3]? = some (.ref c3) from q]; rfl
  have hf4 : fV 4 = .ref c4 := by
    have q := (elem_f eva (Term.int_eval (4)) hac (j := (4 : Int32)) (by decide)).symm.trans (eqv_r ec4 y4)
    rw [hfV]; show (cc.slots[4]?).getD .null = _
    rw [show cc.slots[4]? = some (.ref c4) from q]; rfl
  have hcw : Jvm.Lit.compactW.before #[.int i0, .int i1] s = true := (hsets _ (List.mem_of_getElem? (i := 2) rfl))
  have hh : Jvm.Lit.constHeld s "com/example/scopewright/scopewright/PermissionOfLetterPinLaw" 7 := hcalls.1 ("com/example/scopewright/scopewright/PermissionOfLetterPinLaw", 7) (List.mem_cons_self ..)
  obtain ⟨n, o, h1, h2, h3, _, L, rfl, ⟨rfl, N⟩, hq⟩ := rm0 l s _ hw tables_1 i0 i1 cs fm hfm va c0 c1 c2 c3 c4 fV S_COMPACT_STRINGS S_SIOOBE_FORMATTER S_VALUES S_CREATE S_READ S_UPDATE S_DELETE S_SEARCH A_va F_c0_letter F_c1_letter F_c2_letter F_c3_letter F_c4_letter hcs hf0 hf1 hf2 hf3 hf4 hh hcw p e ha hc hk s m _ below hf ((Spec.applies_iff_loose hf).mp happ).1 ⟨rfl, rfl⟩ trivial
  refine ⟨n, _, h1, h2, h3, hpost _ _ _ _ _ _ ⟨Cond.after_iff.mpr rfl, Cond.after_iff.mpr (eq_i res_at (Term.int_eval (1)) rfl), trivial⟩ ⟨hq.1, hq.2.1, hq.2.2.1, (hq.2.2.2.sift fun y hy => Or.inr (N y hy)).mono (by decide) (by decide)⟩⟩
theorem main_1_1 : Claimed_1_1 := comes_1 fun _ _ _ _ _ _ h hF => ⟨h.1, hF⟩
theorem main_1_2 : Claimed_1_2 := comes_1 fun _ _ _ _ _ _ h hF => ⟨h.2.1, hF⟩
end Jvm.Pilot.@@N@@
namespace Jvm.Pilot.@@N@@
open Jvm Jvm.ClassFile Sem Op Lib Jvm.Free Jvm.Stand Jvm.Pilot.@@N@@.Jvm.D
/-! MADE BY PROGRAM (witnessworld.py) out of the Statement's table words and the real class files: 19 classes; the members and pool entries that the words name. The judged class is class 1, her method 1. -/
namespace start1
open Jvm.ClassFile
def u (s : String) : CpInfo := .utf8 (stringToUtf16 s)
/-- a pool by its gaps: so many unusable entries, then the entry; so many at the end -/
def gap : Nat → List CpInfo → List CpInfo
  | 0, r => r
  | n + 1, r => .unusable :: gap n r
def poolList (es : List (Nat × CpInfo)) (last : Nat) : List CpInfo := es.foldr (fun e r => gap e.1 (e.2 :: r)) (gap last [])
def pool (es : List (Nat × CpInfo)) (last : Nat) : Array CpInfo := ⟨poolList es last⟩
def fileOf (pool : Array CpInfo) (this : Nat) (attrs : Array Attribute := #[]) (ms : Array MethodInfo := #[]) (fl : Nat := 33) (sup : Nat := 0) (ifs : Array Nat := #[]) (fds : Array FieldInfo := #[]) : ClassFile where
  minorVersion := 0
  majorVersion := 65
  constantPool := pool
  accessFlags := fl
  thisClass := this
  superClass := sup
  interfaces := ifs
  fields := fds
  methods := ms
  attributes := attrs
def plain (name : String) (sup : Option ClassId) : Class where
  name := name
  kind := .ordinary
  loader := none
  accessFlags := 33
  super := sup
  interfaces := #[]
  cf := none
  fields := #[]
  methods := #[]
  instanceTypes := #[]
  staticTypes := #[]
  resolved := #[]
  callSites := []
  init := .initialized
  statics := none
  mirror := none

def pool0 : Array CpInfo := pool [(5, u "<init>"), (0, u "()V"), (1, .class_ 10), (1, u "java/lang/Object")] 113

def k0m0 : Method := { name := "<init>", desc := "()V", sig := { parameters := [], returnType := none }, accessFlags := 1, code := none }
/-- java/lang/Object -/
def k0 : Class := { plain "java/lang/Object" none with
  accessFlags := 33
  interfaces := #[]
  cf := some (fileOf pool0 8 #[] #[{ accessFlags := 1, nameIndex := 5, descriptorIndex := 6, attributes := #[] }] 33 0 #[] #[])
  fields := #[]
  methods := #[k0m0]
  instanceTypes := #[]
  staticTypes := #[]
  resolved := Array.replicate 124 none
  statics := none }

def pool1 : Array CpInfo := pool [(2, .class_ 4), (1, u "java/lang/Object"), (0, u "<init>"), (0, u "()V"), (0, .string 8), (0, u "crudsCRUDSa"), (0, .methodref 10 11), (0, .class_ 12), (0, .nameAndType 13 14), (0, u "java/lang/String"), (0, u "length"), (0, u "()I"), (0, .methodref 10 16), (0, .nameAndType 17 18), (0, u "charAt"), (0, u "(I)C"), (0, .methodref 20 21), (0, .class_ 22), (0, .nameAndType 23 24), (0, u "com/example/scopewright/scopewright/Permission"), (0, u "ofLetter"), (0, u "(C)Lcom/example/scopewright/scopewright/Permission;"), (0, .methodref 26 27), (0, .class_ 28), (0, .nameAndType 29 24), (0, u "com/example/scopewright/scopewright/PermissionOfLetterPinLaw"), (0, u "expected"), (0, .fieldref 20 31), (0, .nameAndType 32 33), (0, u "CREATE"), (0, u "Lcom/example/scopewright/scopewright/Permission;"), (0, .fieldref 20 35), (0, .nameAndType 36 33), (0, u "READ"), (0, .fieldref 20 38), (0, .nameAndType 39 33), (0, u "UPDATE"), (0, .fieldref 20 41), (0, .nameAndType 42 33), (0, u "DELETE"), (0, .fieldref 20 44), (0, .nameAndType 45 33), (0, u "SEARCH"), (2, u "law"), (0, u "(II)Z")] 3

def k1m0 : Method := { name := "<init>", desc := "()V", sig := { parameters := [], returnType := none }, accessFlags := 1, code := none }
def k1c1 : Code := { maxStack := 3, maxLocals := 4, code := code, exceptionTable := #[], attributes := #[] }
def k1m1 : Method := { name := "law", desc := "(II)Z", sig := { parameters := [.int, .int], returnType := some .boolean }, accessFlags := 9, code := some k1c1 }
def k1c2 : Code := { maxStack := 2, maxLocals := 1, code := method_3_code, exceptionTable := #[], attributes := #[] }
def k1m2 : Method := { name := "expected", desc := "(C)Lcom/example/scopewright/scopewright/Permission;", sig := { parameters := [.char], returnType := some (.object "com/example/scopewright/scopewright/Permission") }, accessFlags := 10, code := some k1c2 }
/-- com/example/scopewright/scopewright/PermissionOfLetterPinLaw -/
def k1 : Class := { plain "com/example/scopewright/scopewright/PermissionOfLetterPinLaw" (some 0) with
  accessFlags := 49
  interfaces := #[]
  cf := some (fileOf pool1 26 #[] #[{ accessFlags := 1, nameIndex := 5, descriptorIndex := 6, attributes := #[] }, { accessFlags := 9, nameIndex := 48, descriptorIndex := 49, attributes := #[] }, { accessFlags := 10, nameIndex := 29, descriptorIndex := 24, attributes := #[] }] 49 2 #[] #[])
  fields := #[]
  methods := #[k1m0, k1m1, k1m2]
  instanceTypes := #[]
  staticTypes := #[]
  resolved := Array.replicate 53 none
  statics := none }

def pool2 : Array CpInfo := pool [(1, .class_ 2), (0, u "java/io/Serializable"), (0, .class_ 4), (0, u "java/lang/Object")] 2

/-- java/io/Serializable -/
def k2 : Class := { plain "java/io/Serializable" (some 0) with
  accessFlags := 1537
  interfaces := #[]
  cf := some (fileOf pool2 1 #[] #[] 1537 3 #[] #[])
  fields := #[]
  methods := #[]
  instanceTypes := #[]
  staticTypes := #[]
  resolved := Array.replicate 7 none
  statics := none }

def pool3 : Array CpInfo := pool [(1, .class_ 2), (0, u "java/lang/Comparable"), (0, .class_ 4), (0, u "java/lang/Object")] 7

/-- java/lang/Comparable -/
def k3 : Class := { plain "java/lang/Comparable" (some 0) with
  accessFlags := 1537
  interfaces := #[]
  cf := some (fileOf pool3 1 #[] #[] 1537 3 #[] #[])
  fields := #[]
  methods := #[]
  instanceTypes := #[]
  staticTypes := #[]
  resolved := Array.replicate 12 none
  statics := none }

def pool4 : Array CpInfo := pool [(2, .class_ 4), (1, u "java/lang/CharSequence"), (42, .class_ 48), (0, u "java/lang/CharSequence$1CodePointIterator"), (10, .class_ 60), (0, u "java/lang/CharSequence$1CharIterator"), (5, .class_ 67), (0, u "java/lang/Object")] 63

/-- java/lang/CharSequence -/
def k4 : Class := { plain "java/lang/CharSequence" (some 0) with
  accessFlags := 1537
  interfaces := #[]
  cf := some (fileOf pool4 2 #[.nestMembers #[47, 59]] #[] 1537 66 #[] #[])
  fields := #[]
  methods := #[]
  instanceTypes := #[]
  staticTypes := #[]
  resolved := Array.replicate 131 none
  statics := none }

def pool5 : Array CpInfo := pool [(1, .class_ 2), (0, u "java/lang/constant/Constable"), (0, .class_ 4), (0, u "java/lang/Object")] 6

/-- java/lang/constant/Constable -/
def k5 : Class := { plain "java/lang/constant/Constable" (some 0) with
  accessFlags := 1537
  interfaces := #[]
  cf := some (fileOf pool5 1 #[] #[] 1537 3 #[] #[])
  fields := #[]
  methods := #[]
  instanceTypes := #[]
  staticTypes := #[]
  resolved := Array.replicate 11 none
  statics := none }

def pool6 : Array CpInfo := pool [(1, .class_ 2), (0, u "java/lang/constant/ConstantDesc"), (0, .class_ 4), (0, u "java/lang/Object")] 32

/-- java/lang/constant/ConstantDesc -/
def k6 : Class := { plain "java/lang/constant/ConstantDesc" (some 0) with
  accessFlags := 1537
  interfaces := #[]
  cf := some (fileOf pool6 1 #[] #[] 1537 3 #[] #[])
  fields := #[]
  methods := #[]
  instanceTypes := #[]
  staticTypes := #[]
  resolved := Array.replicate 37 none
  statics := none }

def pool7 : Array CpInfo := pool [(2, .class_ 4), (1, u "java/lang/Object"), (0, u "<init>"), (0, u "()V"), (2, .fieldref 10 11), (0, .class_ 12), (0, .nameAndType 13 14), (0, u "java/lang/String"), (0, u "value"), (0, u "[B"), (0, .fieldref 10 16), (0, .nameAndType 17 18), (0, u "coder"), (0, u "B"), (2, u "hash"), (0, u "I"), (2, u "hashIsZero"), (0, u "Z"), (11, .fieldref 10 39), (0, .nameAndType 40 26), (0, u "COMPACT_STRINGS"), (66, .class_ 109), (1, u "java/lang/StringLatin1"), (32, u "()Z"), (191, u "()I"), (0, .methodref 10 336), (0, .nameAndType 17 337), (0, u "()B"), (25, u "([BI)C"), (27, u "(II)V"), (35, u "(I)C"), (64, .methodref 10 493), (0, .nameAndType 494 142), (0, u "isLatin1"), (0, .methodref 107 496), (0, .nameAndType 497 363), (0, u "charAt"), (3, u "checkIndex"), (5, u "length"), (67, .class_ 576), (0, u "java/lang/CharSequence"), (22, u "CASE_INSENSITIVE_ORDER"), (0, u "Ljava/util/Comparator;"), (452, .fieldref 1054 1055), (0, .class_ 1056), (0, .nameAndType 1057 1058), (0, u "jdk/internal/util/Preconditions"), (0, u "SIOOBE_FORMATTER"), (0, u "Ljava/util/function/BiFunction;"), (0, .methodref 1054 1060), (0, .nameAndType 501 1061), (0, u "(IILjava/util/function/BiFunction;)I"), (39, u "serialPersistentFields"), (0, u "[Ljava/io/ObjectStreamField;"), (0, .class_ 1104), (0, u "java/lang/String$CaseInsensitiveComparator"), (1, .class_ 1107), (0, u "java/io/Serializable"), (0, .class_ 1109), (0, u "java/lang/Comparable"), (0, .class_ 1111), (0, u "java/lang/constant/Constable"), (0, .class_ 1113), (0, u "java/lang/constant/ConstantDesc"), (2, u "serialVersionUID"), (0, u "J"), (3, u "REPL"), (0, u "C"), (2, u "LATIN1"), (1, u "UTF16")] 323

def k7m0 : Method := { name := "<init>", desc := "()V", sig := { parameters := [], returnType := none }, accessFlags := 1, code := none }
def k7c1 : Code := { maxStack := 2, maxLocals := 1, code := jdk_42_method_54_code, exceptionTable := #[], attributes := #[] }
def k7m1 : Method := { name := "length", desc := "()I", sig := { parameters := [], returnType := some .int }, accessFlags := 1, code := some k7c1 }
def k7c2 : Code := { maxStack := 2, maxLocals := 2, code := jdk_42_method_56_code, exceptionTable := #[], attributes := #[] }
def k7m2 : Method := { name := "charAt", desc := "(I)C", sig := { parameters := [.int], returnType := some .char }, accessFlags := 1, code := some k7c2 }
def k7c3 : Code := { maxStack := 1, maxLocals := 1, code := jdk_42_method_152_code, exceptionTable := #[], attributes := #[] }
def k7m3 : Method := { name := "coder", desc := "()B", sig := { parameters := [], returnType := some .byte }, accessFlags := 0, code := some k7c3 }
def k7c4 : Code := { maxStack := 1, maxLocals := 1, code := jdk_42_method_154_code, exceptionTable := #[], attributes := #[] }
def k7m4 : Method := { name := "isLatin1", desc := "()Z", sig := { parameters := [], returnType := some .boolean }, accessFlags := 0, code := some k7c4 }
def k7c5 : Code := { maxStack := 3, maxLocals := 2, code := jdk_42_method_155_code, exceptionTable := #[], attributes := #[] }
def k7m5 : Method := { name := "checkIndex", desc := "(II)V", sig := { parameters := [.int, .int], returnType := none }, accessFlags := 8, code := some k7c5 }
/-- java/lang/String -/
def k7 : Class := { plain "java/lang/String" (some 0) with
  accessFlags := 49
  interfaces := #[2, 3, 4, 5, 6]
  cf := some (fileOf pool7 10 #[.nestMembers #[1103]] #[{ accessFlags := 1, nameIndex := 5, descriptorIndex := 6, attributes := #[] }, { accessFlags := 1, nameIndex := 507, descriptorIndex := 334, attributes := #[] }, { accessFlags := 1, nameIndex := 497, descriptorIndex := 427, attributes := #[] }, { accessFlags := 0, nameIndex := 17, descriptorIndex := 337, attributes := #[] }, { accessFlags := 0, nameIndex := 494, descriptorIndex := 142, attributes := #[] }, { accessFlags := 8, nameIndex := 501, descriptorIndex := 391, attributes := #[] }] 49 2 #[1106, 1108, 575, 1110, 1112] #[{ accessFlags := 18, nameIndex := 13, descriptorIndex := 14, attributes := #[] }, { accessFlags := 18, nameIndex := 17, descriptorIndex := 18, attributes := #[] }, { accessFlags := 2, nameIndex := 21, descriptorIndex := 22, attributes := #[] }, { accessFlags := 2, nameIndex := 25, descriptorIndex := 26, attributes := #[] }, { accessFlags := 26, nameIndex := 1116, descriptorIndex := 1117, attributes := #[] }, { accessFlags := 24, nameIndex := 40, descriptorIndex := 26, attributes := #[] }, { accessFlags := 26, nameIndex := 1101, descriptorIndex := 1102, attributes := #[] }, { accessFlags := 26, nameIndex := 1121, descriptorIndex := 1122, attributes := #[] }, { accessFlags := 25, nameIndex := 599, descriptorIndex := 600, attributes := #[] }, { accessFlags := 24, nameIndex := 1125, descriptorIndex := 18, attributes := #[] }, { accessFlags := 24, nameIndex := 1127, descriptorIndex := 18, attributes := #[] }])
  fields := #[{ name := "value", type := (.array .byte), accessFlags := 18, slot := 0, constantValue := 0 }, { name := "coder", type := .byte, accessFlags := 18, slot := 1, constantValue := 0 }, { name := "hash", type := .int, accessFlags := 2, slot := 2, constantValue := 0 }, { name := "hashIsZero", type := .boolean, accessFlags := 2, slot := 3, constantValue := 0 }, { name := "serialVersionUID", type := .long, accessFlags := 26, slot := 0, constantValue := 0 }, { name := "COMPACT_STRINGS", type := .boolean, accessFlags := 24, slot := 1, constantValue := 0 }, { name := "serialPersistentFields", type := (.array (.object "java/io/ObjectStreamField")), accessFlags := 26, slot := 2, constantValue := 0 }, { name := "REPL", type := .char, accessFlags := 26, slot := 3, constantValue := 0 }, { name := "CASE_INSENSITIVE_ORDER", type := (.object "java/util/Comparator"), accessFlags := 25, slot := 4, constantValue := 0 }, { name := "LATIN1", type := .byte, accessFlags := 24, slot := 5, constantValue := 0 }, { name := "UTF16", type := .byte, accessFlags := 24, slot := 6, constantValue := 0 }]
  methods := #[k7m0, k7m1, k7m2, k7m3, k7m4, k7m5]
  instanceTypes := #[(.array .byte), .byte, .int, .boolean]
  staticTypes := #[.long, .boolean, (.array (.object "java/io/ObjectStreamField")), .char, (.object "java/util/Comparator"), .byte, .byte]
  resolved := Array.replicate 1451 none
  statics := some 0 }

def pool8 : Array CpInfo := pool [(1, .class_ 2), (0, u "java/lang/String"), (1, .class_ 6), (1, u "java/lang/Object"), (0, u "<init>"), (0, u "()V"), (0, .methodref 1 10), (0, .nameAndType 11 12), (0, u "checkIndex"), (0, u "(II)V"), (1, .class_ 16), (1, u "java/lang/StringLatin1"), (36, u "([BI)C"), (67, u "$assertionsDisabled"), (0, u "Z"), (98, .class_ 223), (1, u "java/lang/StringLatin1$LinesSpliterator"), (28, u "charAt"), (137, .class_ 391), (0, u "java/lang/StringLatin1$CharsSpliterator")] 3

def k8m0 : Method := { name := "<init>", desc := "()V", sig := { parameters := [], returnType := none }, accessFlags := 0, code := none }
def k8c1 : Code := { maxStack := 2, maxLocals := 2, code := jdk_43_method_2_code, exceptionTable := #[], attributes := #[] }
def k8m1 : Method := { name := "charAt", desc := "([BI)C", sig := { parameters := [(.array .byte), .int], returnType := some .char }, accessFlags := 9, code := some k8c1 }
/-- java/lang/StringLatin1 -/
def k8 : Class := { plain "java/lang/StringLatin1" (some 0) with
  accessFlags := 48
  interfaces := #[]
  cf := some (fileOf pool8 14 #[.nestMembers #[390, 221]] #[{ accessFlags := 0, nameIndex := 7, descriptorIndex := 8, attributes := #[] }, { accessFlags := 9, nameIndex := 252, descriptorIndex := 53, attributes := #[] }] 48 4 #[] #[{ accessFlags := 4120, nameIndex := 121, descriptorIndex := 122, attributes := #[] }])
  fields := #[{ name := "$assertionsDisabled", type := .boolean, accessFlags := 4120, slot := 0, constantValue := 0 }]
  methods := #[k8m0, k8m1]
  instanceTypes := #[]
  staticTypes := #[.boolean]
  resolved := Array.replicate 395 none
  statics := none }

def pool9 : Array CpInfo := pool [(2, .class_ 4), (1, u "java/lang/Object"), (0, u "<init>"), (0, u "()V"), (17, .class_ 26), (1, u "jdk/internal/util/Preconditions"), (6, u "checkIndex"), (21, .class_ 56), (0, u "jdk/internal/util/Preconditions$4"), (57, .class_ 115), (0, u "jdk/internal/util/Preconditions$1"), (7, u "SIOOBE_FORMATTER"), (0, u "Ljava/util/function/BiFunction;"), (0, .class_ 126), (0, u "jdk/internal/util/Preconditions$2"), (3, u "AIOOBE_FORMATTER"), (0, .class_ 132), (0, u "jdk/internal/util/Preconditions$3"), (3, u "IOOBE_FORMATTER"), (41, u "(IILjava/util/function/BiFunction;)I")] 15

def k9m0 : Method := { name := "<init>", desc := "()V", sig := { parameters := [], returnType := none }, accessFlags := 1, code := none }
def k9c1 : Code := { maxStack := 3, maxLocals := 3, code := jdk_41_method_11_code, exceptionTable := #[], attributes := #[] }
def k9m1 : Method := { name := "checkIndex", desc := "(IILjava/util/function/BiFunction;)I", sig := { parameters := [.int, .int, (.object "java/util/function/BiFunction")], returnType := some .int }, accessFlags := 9, code := some k9c1 }
/-- jdk/internal/util/Preconditions -/
def k9 : Class := { plain "jdk/internal/util/Preconditions" (some 0) with
  accessFlags := 33
  interfaces := #[]
  cf := some (fileOf pool9 24 #[.nestMembers #[55, 131, 125, 114]] #[{ accessFlags := 1, nameIndex := 5, descriptorIndex := 6, attributes := #[] }, { accessFlags := 9, nameIndex := 33, descriptorIndex := 178, attributes := #[] }] 33 2 #[] #[{ accessFlags := 25, nameIndex := 123, descriptorIndex := 124, attributes := #[] }, { accessFlags := 25, nameIndex := 130, descriptorIndex := 124, attributes := #[] }, { accessFlags := 25, nameIndex := 136, descriptorIndex := 124, attributes := #[] }])
  fields := #[{ name := "SIOOBE_FORMATTER", type := (.object "java/util/function/BiFunction"), accessFlags := 25, slot := 0, constantValue := 0 }, { name := "AIOOBE_FORMATTER", type := (.object "java/util/function/BiFunction"), accessFlags := 25, slot := 1, constantValue := 0 }, { name := "IOOBE_FORMATTER", type := (.object "java/util/function/BiFunction"), accessFlags := 25, slot := 2, constantValue := 0 }]
  methods := #[k9m0, k9m1]
  instanceTypes := #[]
  staticTypes := #[(.object "java/util/function/BiFunction"), (.object "java/util/function/BiFunction"), (.object "java/util/function/BiFunction")]
  resolved := Array.replicate 194 none
  statics := some 1 }

def pool10 : Array CpInfo := pool [(2, .class_ 4), (1, u "java/lang/Enum"), (0, u "name"), (0, u "Ljava/lang/String;"), (2, u "ordinal"), (0, u "I"), (1, .class_ 14), (1, u "java/lang/Object"), (4, u "hash"), (86, .class_ 108), (1, u "java/lang/Enum$EnumDesc"), (2, .class_ 112), (0, u "java/lang/constant/Constable"), (0, .class_ 114), (0, u "java/lang/Comparable"), (0, .class_ 116), (0, u "java/io/Serializable")] 87

/-- java/lang/Enum -/
def k10 : Class := { plain "java/lang/Enum" (some 0) with
  accessFlags := 1057
  interfaces := #[5, 3, 2]
  cf := some (fileOf pool10 2 #[.nestMembers #[106]] #[] 1057 12 #[111, 113, 115] #[{ accessFlags := 18, nameIndex := 5, descriptorIndex := 6, attributes := #[] }, { accessFlags := 18, nameIndex := 9, descriptorIndex := 10, attributes := #[] }, { accessFlags := 2, nameIndex := 19, descriptorIndex := 10, attributes := #[] }])
  fields := #[{ name := "name", type := (.object "java/lang/String"), accessFlags := 18, slot := 0, constantValue := 0 }, { name := "ordinal", type := .int, accessFlags := 18, slot := 1, constantValue := 0 }, { name := "hash", type := .int, accessFlags := 2, slot := 2, constantValue := 0 }]
  methods := #[]
  instanceTypes := #[(.object "java/lang/String"), .int, .int]
  staticTypes := #[]
  resolved := Array.replicate 204 none
  statics := none }

def pool11 : Array CpInfo := pool [(1, .class_ 2), (0, u "com/example/scopewright/scopewright/Permission"), (2, u "CREATE"), (0, u "Lcom/example/scopewright/scopewright/Permission;"), (2, u "READ"), (2, u "UPDATE"), (2, u "DELETE"), (2, u "SEARCH"), (2, u "$VALUES"), (0, u "[Lcom/example/scopewright/scopewright/Permission;"), (6, .class_ 31), (1, u "java/lang/Enum"), (6, .fieldref 1 39), (0, .nameAndType 40 41), (0, u "letter"), (0, u "C"), (0, .fieldref 1 43), (0, .nameAndType 44 22), (0, u "VALUES"), (42, u "ofLetter"), (0, u "(C)Lcom/example/scopewright/scopewright/Permission;")] 8

def k11c0 : Code := { maxStack := 2, maxLocals := 5, code := prog_44_method_5_code, exceptionTable := #[], attributes := #[] }
def k11m0 : Method := { name := "ofLetter", desc := "(C)Lcom/example/scopewright/scopewright/Permission;", sig := { parameters := [.char], returnType := some (.object "com/example/scopewright/scopewright/Permission") }, accessFlags := 8, code := some k11c0 }
/-- com/example/scopewright/scopewright/Permission -/
def k11 : Class := { plain "com/example/scopewright/scopewright/Permission" (some 10) with
  accessFlags := 16433
  interfaces := #[]
  cf := some (fileOf pool11 1 #[] #[{ accessFlags := 8, nameIndex := 87, descriptorIndex := 88, attributes := #[] }] 16433 29 #[] #[{ accessFlags := 16409, nameIndex := 5, descriptorIndex := 6, attributes := #[] }, { accessFlags := 16409, nameIndex := 9, descriptorIndex := 6, attributes := #[] }, { accessFlags := 16409, nameIndex := 12, descriptorIndex := 6, attributes := #[] }, { accessFlags := 16409, nameIndex := 15, descriptorIndex := 6, attributes := #[] }, { accessFlags := 16409, nameIndex := 18, descriptorIndex := 6, attributes := #[] }, { accessFlags := 26, nameIndex := 44, descriptorIndex := 22, attributes := #[] }, { accessFlags := 18, nameIndex := 40, descriptorIndex := 41, attributes := #[] }, { accessFlags := 4122, nameIndex := 21, descriptorIndex := 22, attributes := #[] }])
  fields := #[{ name := "CREATE", type := (.object "com/example/scopewright/scopewright/Permission"), accessFlags := 16409, slot := 0, constantValue := 0 }, { name := "READ", type := (.object "com/example/scopewright/scopewright/Permission"), accessFlags := 16409, slot := 1, constantValue := 0 }, { name := "UPDATE", type := (.object "com/example/scopewright/scopewright/Permission"), accessFlags := 16409, slot := 2, constantValue := 0 }, { name := "DELETE", type := (.object "com/example/scopewright/scopewright/Permission"), accessFlags := 16409, slot := 3, constantValue := 0 }, { name := "SEARCH", type := (.object "com/example/scopewright/scopewright/Permission"), accessFlags := 16409, slot := 4, constantValue := 0 }, { name := "VALUES", type := (.array (.object "com/example/scopewright/scopewright/Permission")), accessFlags := 26, slot := 5, constantValue := 0 }, { name := "letter", type := .char, accessFlags := 18, slot := 3, constantValue := 0 }, { name := "$VALUES", type := (.array (.object "com/example/scopewright/scopewright/Permission")), accessFlags := 4122, slot := 6, constantValue := 0 }]
  methods := #[k11m0]
  instanceTypes := #[(.object "java/lang/String"), .int, .int, .char]
  staticTypes := #[(.object "com/example/scopewright/scopewright/Permission"), (.object "com/example/scopewright/scopewright/Permission"), (.object "com/example/scopewright/scopewright/Permission"), (.object "com/example/scopewright/scopewright/Permission"), (.object "com/example/scopewright/scopewright/Permission"), (.array (.object "com/example/scopewright/scopewright/Permission")), (.array (.object "com/example/scopewright/scopewright/Permission"))]
  resolved := Array.replicate 97 none
  statics := some 2 }

def pool12 : Array CpInfo := pool [(9, u "<init>"), (6, .class_ 18), (1, u "java/lang/Object"), (0, u "()V"), (1, .class_ 23), (1, u "jdk/internal/util/ArraysSupport"), (0, u "LOG2_ARRAY_LONG_INDEX_SCALE"), (0, u "I"), (2, u "U"), (0, u "Ljdk/internal/misc/Unsafe;"), (8, u "BIG_ENDIAN"), (0, u "Z"), (8, u "LOG2_BYTE_BIT_SIZE"), (4, u "LOG2_ARRAY_INT_INDEX_SCALE"), (54, u "JLA"), (0, u "Ljdk/internal/access/JavaLangAccess;"), (11, u "LOG2_ARRAY_BOOLEAN_INDEX_SCALE"), (9, u "LOG2_ARRAY_BYTE_INDEX_SCALE"), (5, u "LOG2_ARRAY_CHAR_INDEX_SCALE"), (5, u "LOG2_ARRAY_SHORT_INDEX_SCALE"), (18, u "LOG2_ARRAY_FLOAT_INDEX_SCALE"), (24, u "LOG2_ARRAY_DOUBLE_INDEX_SCALE"), (89, u "T_BOOLEAN"), (2, u "T_CHAR"), (1, u "T_FLOAT"), (1, u "T_DOUBLE"), (1, u "T_BYTE"), (1, u "T_SHORT"), (1, u "T_INT"), (1, u "T_LONG"), (1, u "SOFT_MAX_ARRAY_LENGTH")] 83

def k12m0 : Method := { name := "<init>", desc := "()V", sig := { parameters := [], returnType := none }, accessFlags := 2, code := none }
/-- jdk/internal/util/ArraysSupport -/
def k12 : Class := { plain "jdk/internal/util/ArraysSupport" (some 0) with
  accessFlags := 33
  interfaces := #[]
  cf := some (fileOf pool12 21 #[] #[{ accessFlags := 2, nameIndex := 9, descriptorIndex := 19, attributes := #[] }] 33 16 #[] #[{ accessFlags := 24, nameIndex := 28, descriptorIndex := 29, attributes := #[] }, { accessFlags := 26, nameIndex := 38, descriptorIndex := 39, attributes := #[] }, { accessFlags := 25, nameIndex := 121, descriptorIndex := 25, attributes := #[] }, { accessFlags := 25, nameIndex := 131, descriptorIndex := 25, attributes := #[] }, { accessFlags := 25, nameIndex := 137, descriptorIndex := 25, attributes := #[] }, { accessFlags := 25, nameIndex := 143, descriptorIndex := 25, attributes := #[] }, { accessFlags := 25, nameIndex := 53, descriptorIndex := 25, attributes := #[] }, { accessFlags := 25, nameIndex := 24, descriptorIndex := 25, attributes := #[] }, { accessFlags := 25, nameIndex := 162, descriptorIndex := 25, attributes := #[] }, { accessFlags := 25, nameIndex := 187, descriptorIndex := 25, attributes := #[] }, { accessFlags := 26, nameIndex := 48, descriptorIndex := 25, attributes := #[] }, { accessFlags := 25, nameIndex := 277, descriptorIndex := 25, attributes := #[] }, { accessFlags := 25, nameIndex := 280, descriptorIndex := 25, attributes := #[] }, { accessFlags := 25, nameIndex := 282, descriptorIndex := 25, attributes := #[] }, { accessFlags := 25, nameIndex := 284, descriptorIndex := 25, attributes := #[] }, { accessFlags := 25, nameIndex := 286, descriptorIndex := 25, attributes := #[] }, { accessFlags := 25, nameIndex := 288, descriptorIndex := 25, attributes := #[] }, { accessFlags := 25, nameIndex := 290, descriptorIndex := 25, attributes := #[] }, { accessFlags := 25, nameIndex := 292, descriptorIndex := 25, attributes := #[] }, { accessFlags := 26, nameIndex := 108, descriptorIndex := 109, attributes := #[] }, { accessFlags := 25, nameIndex := 294, descriptorIndex := 25, attributes := #[] }])
  fields := #[{ name := "U", type := (.object "jdk/internal/misc/Unsafe"), accessFlags := 24, slot := 0, constantValue := 0 }, { name := "BIG_ENDIAN", type := .boolean, accessFlags := 26, slot := 1, constantValue := 0 }, { name := "LOG2_ARRAY_BOOLEAN_INDEX_SCALE", type := .int, accessFlags := 25, slot := 2, constantValue := 0 }, { name := "LOG2_ARRAY_BYTE_INDEX_SCALE", type := .int, accessFlags := 25, slot := 3, constantValue := 0 }, { name := "LOG2_ARRAY_CHAR_INDEX_SCALE", type := .int, accessFlags := 25, slot := 4, constantValue := 0 }, { name := "LOG2_ARRAY_SHORT_INDEX_SCALE", type := .int, accessFlags := 25, slot := 5, constantValue := 0 }, { name := "LOG2_ARRAY_INT_INDEX_SCALE", type := .int, accessFlags := 25, slot := 6, constantValue := 0 }, { name := "LOG2_ARRAY_LONG_INDEX_SCALE", type := .int, accessFlags := 25, slot := 7, constantValue := 0 }, { name := "LOG2_ARRAY_FLOAT_INDEX_SCALE", type := .int, accessFlags := 25, slot := 8, constantValue := 0 }, { name := "LOG2_ARRAY_DOUBLE_INDEX_SCALE", type := .int, accessFlags := 25, slot := 9, constantValue := 0 }, { name := "LOG2_BYTE_BIT_SIZE", type := .int, accessFlags := 26, slot := 10, constantValue := 0 }, { name := "T_BOOLEAN", type := .int, accessFlags := 25, slot := 11, constantValue := 0 }, { name := "T_CHAR", type := .int, accessFlags := 25, slot := 12, constantValue := 0 }, { name := "T_FLOAT", type := .int, accessFlags := 25, slot := 13, constantValue := 0 }, { name := "T_DOUBLE", type := .int, accessFlags := 25, slot := 14, constantValue := 0 }, { name := "T_BYTE", type := .int, accessFlags := 25, slot := 15, constantValue := 0 }, { name := "T_SHORT", type := .int, accessFlags := 25, slot := 16, constantValue := 0 }, { name := "T_INT", type := .int, accessFlags := 25, slot := 17, constantValue := 0 }, { name := "T_LONG", type := .int, accessFlags := 25, slot := 18, constantValue := 0 }, { name := "JLA", type := (.object "jdk/internal/access/JavaLangAccess"), accessFlags := 26, slot := 19, constantValue := 0 }, { name := "SOFT_MAX_ARRAY_LENGTH", type := .int, accessFlags := 25, slot := 20, constantValue := 0 }]
  methods := #[k12m0]
  instanceTypes := #[]
  staticTypes := #[(.object "jdk/internal/misc/Unsafe"), .boolean, .int, .int, .int, .int, .int, .int, .int, .int, .int, .int, .int, .int, .int, .int, .int, .int, .int, (.object "jdk/internal/access/JavaLangAccess"), .int]
  resolved := Array.replicate 378 none
  statics := none }

def pool13 : Array CpInfo := pool [(1, u "java/lang/Cloneable"), (0, .class_ 1), (0, u "java/lang/Object"), (0, .class_ 3)] 3

/-- java/lang/Cloneable -/
def k13 : Class := { plain "java/lang/Cloneable" (some 0) with
  accessFlags := 1537
  interfaces := #[]
  cf := some (fileOf pool13 2 #[] #[] 1537 4 #[] #[])
  fields := #[]
  methods := #[]
  instanceTypes := #[]
  staticTypes := #[]
  resolved := Array.replicate 8 none
  statics := none }

/-- the primitive byte -/
def k14 : Class := { plain "byte" none with kind := .primitive 'B', accessFlags := 0x411 }
/-- [B -/
def k15 : Class := { plain "[B" (some 0) with kind := .array 14 .byte, interfaces := #[13, 2], accessFlags := 1041 }

/-- the primitive int -/
def k16 : Class := { plain "int" none with kind := .primitive 'I', accessFlags := 0x411 }
/-- [I -/
def k17 : Class := { plain "[I" (some 0) with kind := .array 16 .int, interfaces := #[13, 2], accessFlags := 1041 }

/-- [Lcom/example/scopewright/scopewright/Permission; -/
def k18 : Class := { plain "[Lcom/example/scopewright/scopewright/Permission;" (some 0) with kind := .array 11 (.object "com/example/scopewright/scopewright/Permission"), interfaces := #[13, 2], accessFlags := 1041 }

def heap : Heap := #[{ cls := 7, slots := #[.long 0, .int 1, .null, .int 0, .null, .int 0, .int 0], vm := .statics 7 },
  { cls := 9, slots := #[.null, .null, .null], vm := .statics 9 },
  { cls := 11, slots := #[.ref 4, .ref 5, .ref 6, .ref 7, .ref 8, .ref 3, .null], vm := .statics 11 },
  { cls := 18, slots := #[.ref 4, .ref 5, .ref 6, .ref 7, .ref 8], vm := .none },
  { cls := 11, slots := #[.null, .int 0, .int 0, .int 99], vm := .none },
  { cls := 11, slots := #[.null, .int 0, .int 0, .int 114], vm := .none },
  { cls := 11, slots := #[.null, .int 0, .int 0, .int 117], vm := .none },
  { cls := 11, slots := #[.null, .int 0, .int 0, .int 100], vm := .none },
  { cls := 11, slots := #[.null, .int 0, .int 0, .int 115], vm := .none }]
def classes : Array Class := #[k0, k1, k2, k3, k4, k5, k6, k7, k8, k9, k10, k11, k12, k13, k14, k15, k16, k17, k18]
def interned : List (Array UInt16 × Addr) := []
def slotsUsed : Nat := 42
def theMethod : MethodId := ⟨1, 1⟩
def args0 : Array Value := #[.int 5, .int 3]
def aboutOver (below : List Frame) : State where
  vm := { classes := classes, interned := interned.toArray }
  heap := heap
  slotsUsed := slotsUsed
  threads := #[{ frames := .invoking theMethod args0 :: below }]
def below0 : List Frame := [.native { method := ⟨0, 0⟩, args := #[] }]
def about1 : State := aboutOver below0
def p0 : Program := .bare "" "" ""
def e0 : Env := launch0.env 0 0 0
theorem w_frames : about1.frames = Frame.invoking theMethod args0 :: below0 := rfl
set_option maxRecDepth 65536 in
theorem w_args : argsFit about1.vm theMethod args0 = true := by decide +kernel
set_option maxRecDepth 65536 in
theorem w_heap : heapFits about1 = true := by decide +kernel
set_option maxRecDepth 65536 in
theorem w_runnable : about1.curStatus? = some .runnable := by decide +kernel
set_option maxRecDepth 65536 in
theorem w_alone : about1.alone = true := by decide +kernel
set_option maxRecDepth 65536 in
theorem w_named : about1.methodNamed? x = some theMethod := by decide +kernel
set_option maxRecDepth 65536 in
theorem w_hears : about1.hears theMethod below0 = true := by decide +kernel
set_option maxRecDepth 65536 in
theorem w_ripe : about1.ripe theMethod args0 below0 = true := by decide +kernel
theorem w_running : about1.status = .running := rfl
set_option maxRecDepth 65536 in
theorem w_room : about1.hasRoom e0.platform room_1 = true :=
  launch0.hasRoom_least _ room_1 (by decide +kernel) (by decide +kernel) (by decide +kernel) (by decide +kernel) (by decide +kernel) (by decide +kernel)
theorem allAtoms_all (ts : List Jvm.Cond) (a : Array Jvm.Value) (st : Jvm.State) : (allAtoms ts).before a st = ts.all (fun c => c.before a st) := by
  induction ts with
  | nil => rfl
  | cons c t ih =>
    show (Jvm.Cond.and c (allAtoms t)).before a st = _
    rw [Jvm.Cond.before_and, ih, List.all_cons]
def words1 : List Jvm.Cond := Jvm.Cond.code x code maxLocals ret :: tables_1
/-- a 'code' word, met by the world's own term for the bytes: nothing is compared byte by byte -/
theorem code_word {y : MethodName} {bytes : ByteArray} {mx : Nat} {rt : Option FieldType} {a : Array Value} {s : State} {m : MethodId} {meth : Method} {c : Code} (h1 : s.methodNamed? y = some m) (h2 : s.vm.method? m = some meth) (h3 : meth.code = some c) (h4 : c.code = bytes)
    (h5 : (c.maxLocals == mx && c.exceptionTable.isEmpty && decide (c.maxStack ≤ mostOperands) && decide (meth.sig.returnType = rt) && !meth.locks && decide (parseMethodDescriptor y.desc = some meth.sig)) = true) : (Jvm.Cond.code y bytes mx rt).before a s = true := by
  simp only [Bool.and_eq_true, beq_iff_eq, Bool.not_eq_true', decide_eq_true_eq] at h5
  obtain ⟨⟨⟨⟨⟨g1, g2⟩, g3⟩, g4⟩, g5⟩, g6⟩ := h5
  simp [Cond.before, Cond.holds, Cond.value, h1, h2, h3, h4, g1, g2, g3, g4, g5, g6]
def isCode : Jvm.Cond → Bool
  | .code _ _ _ _ => true
  | _ => false
theorem all_split {L : List Jvm.Cond} {P : Jvm.Cond → Bool} (h1 : L.all (fun c => isCode c || P c) = true) (h2 : ∀ c ∈ L.filter isCode, P c = true) : L.all P = true := by
  refine List.all_eq_true.mpr fun c hc => ?_
  have h := List.all_eq_true.mp h1 c hc
  rcases Bool.eq_false_or_eq_true (isCode c) with hi | hi
  · exact h2 c (List.mem_filter.mpr ⟨hc, hi⟩)
  · simpa [hi] using h
set_option maxRecDepth 65536 in
theorem w_c0 : (Jvm.Cond.code x code maxLocals ret).before args0 about1 = true := code_word (m := ⟨1, 1⟩) (meth := k1m1) (c := k1c1) (by decide +kernel) rfl rfl rfl (by decide +kernel)
set_option maxRecDepth 65536 in
theorem w_c1 : (Jvm.Cond.code ({ cls := "java/lang/String", name := "length", desc := "()I" } : Jvm.MethodName) jdk_42_method_54_code (1 : Nat) (Option.some Jvm.ClassFile.FieldType.int)).before args0 about1 = true := code_word (m := ⟨7, 1⟩) (meth := k7m1) (c := k7c1) (by decide +kernel) rfl rfl rfl (by decide +kernel)
set_option maxRecDepth 65536 in
theorem w_c2 : (Jvm.Cond.code ({ cls := "java/lang/String", name := "coder", desc := "()B" } : Jvm.MethodName) jdk_42_method_152_code (1 : Nat) (Option.some Jvm.ClassFile.FieldType.byte)).before args0 about1 = true := code_word (m := ⟨7, 3⟩) (meth := k7m3) (c := k7c3) (by decide +kernel) rfl rfl rfl (by decide +kernel)
set_option maxRecDepth 65536 in
theorem w_c3 : (Jvm.Cond.code ({ cls := "java/lang/String", name := "charAt", desc := "(I)C" } : Jvm.MethodName) jdk_42_method_56_code (2 : Nat) (Option.some Jvm.ClassFile.FieldType.char)).before args0 about1 = true := code_word (m := ⟨7, 2⟩) (meth := k7m2) (c := k7c2) (by decide +kernel) rfl rfl rfl (by decide +kernel)
set_option maxRecDepth 65536 in
theorem w_c4 : (Jvm.Cond.code ({ cls := "java/lang/String", name := "isLatin1", desc := "()Z" } : Jvm.MethodName) jdk_42_method_154_code (1 : Nat) (Option.some Jvm.ClassFile.FieldType.boolean)).before args0 about1 = true := code_word (m := ⟨7, 4⟩) (meth := k7m4) (c := k7c4) (by decide +kernel) rfl rfl rfl (by decide +kernel)
set_option maxRecDepth 65536 in
theorem w_c5 : (Jvm.Cond.code ({ cls := "java/lang/StringLatin1", name := "charAt", desc := "([BI)C" } : Jvm.MethodName) jdk_43_method_2_code (2 : Nat) (Option.some Jvm.ClassFile.FieldType.char)).before args0 about1 = true := code_word (m := ⟨8, 1⟩) (meth := k8m1) (c := k8c1) (by decide +kernel) rfl rfl rfl (by decide +kernel)
set_option maxRecDepth 65536 in
theorem w_c6 : (Jvm.Cond.code ({ cls := "java/lang/String", name := "checkIndex", desc := "(II)V" } : Jvm.MethodName) jdk_42_method_155_code (2 : Nat) (Option.none : Option Jvm.ClassFile.FieldType)).before args0 about1 = true := code_word (m := ⟨7, 5⟩) (meth := k7m5) (c := k7c5) (by decide +kernel) rfl rfl rfl (by decide +kernel)
set_option maxRecDepth 65536 in
theorem w_c7 : (Jvm.Cond.code ({ cls := "jdk/internal/util/Preconditions", name := "checkIndex", desc := "(IILjava/util/function/BiFunction;)I" } : Jvm.MethodName) jdk_41_method_11_code (3 : Nat) (Option.some Jvm.ClassFile.FieldType.int)).before args0 about1 = true := code_word (m := ⟨9, 1⟩) (meth := k9m1) (c := k9c1) (by decide +kernel) rfl rfl rfl (by decide +kernel)
set_option maxRecDepth 65536 in
theorem w_c8 : (Jvm.Cond.code ({ cls := "com/example/scopewright/scopewright/Permission", name := "ofLetter", desc := "(C)Lcom/example/scopewright/scopewright/Permission;" } : Jvm.MethodName) prog_44_method_5_code (5 : Nat) (Option.some (Jvm.ClassFile.FieldType.object "com/example/scopewright/scopewright/Permission"))).before args0 about1 = true := code_word (m := ⟨11, 0⟩) (meth := k11m0) (c := k11c0) (by decide +kernel) rfl rfl rfl (by decide +kernel)
set_option maxRecDepth 65536 in
theorem w_c9 : (Jvm.Cond.code ({ cls := "com/example/scopewright/scopewright/PermissionOfLetterPinLaw", name := "expected", desc := "(C)Lcom/example/scopewright/scopewright/Permission;" } : Jvm.MethodName) method_3_code (1 : Nat) (Option.some (Jvm.ClassFile.FieldType.object "com/example/scopewright/scopewright/Permission"))).before args0 about1 = true := code_word (m := ⟨1, 2⟩) (meth := k1m2) (c := k1c2) (by decide +kernel) rfl rfl rfl (by decide +kernel)
def codes1 : List Jvm.Cond := [Jvm.Cond.code x code maxLocals ret, Jvm.Cond.code ({ cls := "java/lang/String", name := "length", desc := "()I" } : Jvm.MethodName) jdk_42_method_54_code (1 : Nat) (Option.some Jvm.ClassFile.FieldType.int), Jvm.Cond.code ({ cls := "java/lang/String", name := "coder", desc := "()B" } : Jvm.MethodName) jdk_42_method_152_code (1 : Nat) (Option.some Jvm.ClassFile.FieldType.byte), Jvm.Cond.code ({ cls := "java/lang/String", name := "charAt", desc := "(I)C" } : Jvm.MethodName) jdk_42_method_56_code (2 : Nat) (Option.some Jvm.ClassFile.FieldType.char), Jvm.Cond.code ({ cls := "java/lang/String", name := "isLatin1", desc := "()Z" } : Jvm.MethodName) jdk_42_method_154_code (1 : Nat) (Option.some Jvm.ClassFile.FieldType.boolean), Jvm.Cond.code ({ cls := "java/lang/StringLatin1", name := "charAt", desc := "([BI)C" } : Jvm.MethodName) jdk_43_method_2_code (2 : Nat) (Option.some Jvm.ClassFile.FieldType.char), Jvm.Cond.code ({ cls := "java/lang/String", name := "checkIndex", desc := "(II)V" } : Jvm.MethodName) jdk_42_method_155_code (2 : Nat) (Option.none : Option Jvm.ClassFile.FieldType), Jvm.Cond.code ({ cls := "jdk/internal/util/Preconditions", name := "checkIndex", desc := "(IILjava/util/function/BiFunction;)I" } : Jvm.MethodName) jdk_41_method_11_code (3 : Nat) (Option.some Jvm.ClassFile.FieldType.int), Jvm.Cond.code ({ cls := "com/example/scopewright/scopewright/Permission", name := "ofLetter", desc := "(C)Lcom/example/scopewright/scopewright/Permission;" } : Jvm.MethodName) prog_44_method_5_code (5 : Nat) (Option.some (Jvm.ClassFile.FieldType.object "com/example/scopewright/scopewright/Permission")), Jvm.Cond.code ({ cls := "com/example/scopewright/scopewright/PermissionOfLetterPinLaw", name := "expected", desc := "(C)Lcom/example/scopewright/scopewright/Permission;" } : Jvm.MethodName) method_3_code (1 : Nat) (Option.some (Jvm.ClassFile.FieldType.object "com/example/scopewright/scopewright/Permission"))]
set_option maxRecDepth 65536 in
theorem codes_eq : words1.filter isCode = codes1 := rfl
theorem w_codes : ∀ c ∈ words1.filter isCode, c.before args0 about1 = true := by
  rw [codes_eq]
  intro c hc
  simp only [codes1, List.mem_cons, List.not_mem_nil, or_false] at hc
  rcases hc with rfl | rfl | rfl | rfl | rfl | rfl | rfl | rfl | rfl | rfl
  · exact w_c0
  · exact w_c1
  · exact w_c2
  · exact w_c3
  · exact w_c4
  · exact w_c5
  · exact w_c6
  · exact w_c7
  · exact w_c8
  · exact w_c9
set_option maxRecDepth 65536 in
theorem w_t1 : (words1.take 24).all (fun c => isCode c || c.before args0 about1) = true := by decide +kernel
set_option maxRecDepth 65536 in
theorem w_t2 : ((words1.drop 24).take 24).all (fun c => isCode c || c.before args0 about1) = true := by decide +kernel
set_option maxRecDepth 65536 in
theorem w_t3 : ((words1.drop 24).drop 24).all (fun c => isCode c || c.before args0 about1) = true := by decide +kernel
theorem w_tables : (allAtoms (Jvm.Cond.code x code maxLocals ret :: tables_1)).before args0 about1 = true := by
  rw [allAtoms_all]
  show words1.all (fun c => c.before args0 about1) = true
  refine all_split ?_ w_codes
  rw [← List.take_append_drop 24 words1, List.all_append, w_t1, ← List.take_append_drop 24 (words1.drop 24), List.all_append, w_t2, w_t3]
  rfl
set_option maxRecDepth 65536 in
theorem w_rest : rest_1_c.before args0 about1 = true := by decide +kernel
set_option maxRecDepth 65536 in
theorem w_case : (Jvm.Cond.and given_1 narrow_1).before args0 about1 = true := by decide +kernel
set_option maxRecDepth 65536 in
theorem w_consts : constsHeld consts_1 about1 := Jvm.Lit.constsHeldB_iff.mp (by decide +kernel)
theorem w_applies : (headSpec (Jvm.Cond.code x code maxLocals ret :: tables_1) room_1).applies x e0.platform about1 = true :=
  (Spec.applies_iff w_frames).mpr ⟨w_running, w_runnable, w_alone, w_named, w_hears, w_ripe, w_room, w_tables⟩
theorem atStart : AtStart classFile x code maxLocals ret World_1 tables_1 room_1 Calls_1 rest_1 Pre_1 launch0 p0 e0 about1 theMethod args0 below0 :=
  ⟨lists_1, trivial, launch0.admits_env _ _ _, launch0.least_env, fairChoices_fair.cas, fairChoices_fair.clock, w_frames, w_args, w_heap, w_applies, ⟨w_consts, trivial⟩, w_rest, w_case⟩
end start1
theorem witness_1 : WitnessClaimed_1 := ⟨start1.p0, start1.e0, start1.about1, start1.theMethod, start1.args0, start1.below0, start1.atStart⟩
end Jvm.Pilot.@@N@@
