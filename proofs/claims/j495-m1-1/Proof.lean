import JvmDerived
import JvmDerived.Pilot.@@N@@Statement
import JvmDerived.Pilot.@@N@@Code
set_option linter.unusedVariables false
set_option linter.unusedSimpArgs false
namespace Jvm.RoadKit
open Sem ClassFile Op Lib Jvm.Stand Jvm.Free Jvm.LawKit
section New
variable {p : Program} {l : Launch} {e : Env} {R : Room} {s : State} {m : MethodId} {args : Array Value} {below : List Frame} {meth : Method} {c : Code} {T : State} {locs : List Loc} {cells slots : Nat}
theorem retI (X : Stand p l e R s m args below meth c T locs cells slots) (hx : p.tables.exec = Jvm.exec) {pc : Nat} {Ls : Array Slot} {z : Int32} {rest : List Value} (hret : meth.sig.returnType = some .int) (hd : decode c.code pc = .ok (.ireturn, 1)) {fs : List Frame}
    (hl : ∀ (f : JFrame) (acts : List Action), f.method = m → f.locked = none → f.entered = [] → (doReturn e (T.setTop f) acts (some (.int z))).1 = T.setFrames fs) : Steps p.tables e below (T.setTop (mkF m pc Ls (.int z :: rest))) (T.setFrames fs) := by
  have hm' : T.vm.method? m = some meth := X.method'
  have hn : narrow .int (.int z) = .int z := rfl
  show Steps p.tables e below (T.setTop { method := m, pc := pc, locals := Ls, stack := _ :: rest, locked := none }) _
  jvm_step X.here [X.here.top, hx, hd, hm', hret, hn]
  first | (intro acts; rw [hl _ acts rfl rfl rfl]) | rw [hl _ _ rfl rfl rfl]
  exact Steps.refl _
end New
end Jvm.RoadKit
namespace Jvm.Pilot.@@N@@
open Jvm Jvm.ClassFile Sem Op Lib Jvm.Free Jvm.Stand Jvm.LawKit Jvm.RoadKit Bundle Jvm.Pilot.@@N@@.Jvm.D
/-! OWN KIT: a walk told forwards. `WGo T f`: from the frame f over the state T the body runs to its return, and what it returns meets Q. -/
section OwnKit
variable {p : Program} {l : Launch} {e : Env} {R : Room} {s : State} {m : MethodId} {args : Array Value} {below : List Frame} {meth : Method} {c : Code} {T : State} {locs : List Loc} {cells slots : Nat} {Z : State} {a0 : Array Value} {h : Heap} {kc ks : Nat} {Q : Option Value → Heap → List Loc → Prop} {pc pc' : Nat} {Ls Ls' : Array Slot} {st : List Value} {x y : Int32} {u w : Int64}
def WGo (p : Program) (e : Env) (below : List Frame) (s : State) (kc ks : Nat) (Q : Option Value → Heap → List Loc → Prop) (T : State) (f : JFrame) : Prop :=
  ∃ s₂ o, Steps p.tables e below (T.setTop f) s₂ ∧ s₂.status = .running ∧ Ended s₂ below o ∧ ∃ v L, o = .returned v ∧ Q v s₂.heap L ∧ FrameEnd s o s₂ L kc ks
theorem WGo.go {T' : State} {f f' : JFrame} (k : ∀ t, Steps p.tables e below (T'.setTop f') t → Steps p.tables e below (T.setTop f) t) (r : WGo p e below s kc ks Q T' f') : WGo p e below s kc ks Q T f := by
  obtain ⟨s₂, o, h1, r⟩ := r
  exact ⟨s₂, o, k _ h1, r⟩
theorem WGo.cast {f f' : JFrame} (q : f = f') (r : WGo p e below s kc ks Q T f') : WGo p e below s kc ks Q T f := q ▸ r
theorem WGo.mono {f : JFrame} {Q' : Option Value → Heap → List Loc → Prop} (r : WGo p e below s kc ks Q' T f) (q : ∀ v h L, Q' v h L → Q v h L) : WGo p e below s kc ks Q T f := by
  obtain ⟨s₂, o, h1, h2, h3, v, L, h4, h5, h6⟩ := r
  exact ⟨s₂, o, h1, h2, h3, v, L, h4, q _ _ _ h5, h6⟩
/-- a body's contract -/
def WCt (l : Launch) (Z : State) (y : MethodName) (bytes : ByteArray) (maxL : Nat) (ret : Option FieldType) (rm : Room) (as' : Array Value) (h0 : Heap) (Q : Option Value → Heap → List Loc → Prop) : Prop :=
  ∀ ws : List Jvm.Cond, MetFree l y (head1 (Jvm.Cond.code y bytes maxL ret :: ws) rm) (fun a U => a = as' ∧ Z.Warmed39 U.vm ∧ U.heap = h0) (fun _ _ _ _ _ => True) (fun _ U o U' => ∃ v L, o = .returned v ∧ Q v U'.heap L ∧ FrameEnd U o U' L rm.cells rm.slots)
theorem WCt.of {y : MethodName} {bytes : ByteArray} {maxL : Nat} {ret : Option FieldType} {rm : Room} {as' : Array Value} {h0 : Heap} (hpl : plainFor y = true)
    (body : ∀ (p : Program) (e : Env) (s : State) (m : MethodId) (below : List Frame) (meth : Method) (c : Code) (T : State), p.tables.exec = Jvm.exec → c.code = bytes → c.maxLocals = maxL → s.vm.findClass y.cls = some m.cls → meth.name = y.name → meth.sig.returnType = ret → meth.locks = false → Z.Warmed39 s.vm → s.heap = h0 →
      Stand p l e rm s m as' below meth c T [] 0 0 → T.heap = h0 → WGo p e below s rm.cells rm.slots Q T (entryFrame m as' maxL)) : WCt l Z y bytes maxL ret rm as' h0 Q := by
  intro ws
  refine MetFree.of_bodySF hpl hisR ?_
  intro p e s m args below meth c s₁ Bd hml0 hP hK
  obtain ⟨rfl, hZ, hh⟩ := hP
  have X0 : Stand p l e rm s m _ below meth c s₁ [] 0 0 := Stand.of_body Bd
  exact body p e s m below meth c s₁ Bd.exec Bd.bytes hml0 (findClass_of_methodNamed Bd.named) (name_of_methodNamed Bd.named Bd.method).1 Bd.returns (BodyLoose.notSynchronized Bd) hZ hh X0 (by rw [← hh, Bd.state]; rfl)
/-! returns -/
theorem g_ret0 (X : Stand p l e R s m args below meth c T locs cells slots) (hx : p.tables.exec = Jvm.exec) (hret : meth.sig.returnType = none) (hlk : meth.locks = false) (hd : decode c.code pc = .ok (.return_, 1)) (hc : cells ≤ kc) (hs : slots ≤ ks) (q : Q none T.heap locs) : WGo p e below s kc ks Q T (mkF m pc Ls []) := by
  obtain ⟨fs, hr, hrun, hended, hW, hsame⟩ := X.leave (v := none) (fun _ => rfl) hlk
  exact ⟨_, _, X.returnOut hx hret hd hr, hrun, hended, _, _, rfl, q, ⟨_, rfl⟩, hW, hsame.mono hc hs⟩
theorem g_retI (X : Stand p l e R s m args below meth c T locs cells slots) (hx : p.tables.exec = Jvm.exec) (hret : meth.sig.returnType = some .int) (hlk : meth.locks = false) (hd : decode c.code pc = .ok (.ireturn, 1)) (hc : cells ≤ kc) (hs : slots ≤ ks) (q : Q (some (.int x)) T.heap locs) : WGo p e below s kc ks Q T (mkF m pc Ls (.int x :: st)) := by
  obtain ⟨fs, hr, hrun, hended, hW, hsame⟩ := X.leave (v := some (.int x)) (fun h => by rw [hret] at h; cases h) hlk
  exact ⟨_, _, retI X hx hret hd hr, hrun, hended, _, _, rfl, q, ⟨_, rfl⟩, hW, hsame.mono hc hs⟩
theorem g_retN {t : FieldType} (X : Stand p l e R s m args below meth c T locs cells slots) (hx : p.tables.exec = Jvm.exec) (hret : meth.sig.returnType = some t) (ht : t = .boolean ∨ t = .byte ∨ t = .char ∨ t = .short) (hlk : meth.locks = false) (hd : decode c.code pc = .ok (.ireturn, 1)) (hc : cells ≤ kc) (hs : slots ≤ ks) (q : Q (some (.int (nar t x))) T.heap locs) : WGo p e below s kc ks Q T (mkF m pc Ls (.int x :: st)) := by
  obtain ⟨fs, hr, hrun, hended, hW, hsame⟩ := X.leave (v := some (.int (nar t x))) (fun h => by rw [hret] at h; cases h) hlk
  exact ⟨_, _, retN X hx hret ht hd hr, hrun, hended, _, _, rfl, q, ⟨_, rfl⟩, hW, hsame.mono hc hs⟩
theorem g_retJ (X : Stand p l e R s m args below meth c T locs cells slots) (hx : p.tables.exec = Jvm.exec) (hret : meth.sig.returnType = some .long) (hlk : meth.locks = false) (hd : decode c.code pc = .ok (.lreturn, 1)) (hc : cells ≤ kc) (hs : slots ≤ ks) (q : Q (some (.long u)) T.heap locs) : WGo p e below s kc ks Q T (mkF m pc Ls [.long u]) := by
  obtain ⟨fs, hr, hrun, hended, hW, hsame⟩ := X.leave (v := some (.long u)) (fun h => by rw [hret] at h; cases h) hlk
  exact ⟨_, _, X.lreturnOut hx hret hd hr, hrun, hended, _, _, rfl, q, ⟨_, rfl⟩, hW, hsame.mono hc hs⟩
theorem g_retA {t : FieldType} {v : Value} (X : Stand p l e R s m args below meth c T locs cells slots) (hx : p.tables.exec = Jvm.exec) (hv : v.isRef = true) (hret : meth.sig.returnType = some t) (ht : t.isReference = true) (hlk : meth.locks = false) (hd : decode c.code pc = .ok (.areturn, 1)) (hc : cells ≤ kc) (hs : slots ≤ ks) (q : Q (some v) T.heap locs) : WGo p e below s kc ks Q T (mkF m pc Ls [v]) := by
  obtain ⟨fs, hr, hrun, hended, hW, hsame⟩ := X.leave (v := some v) (fun h => by rw [hret] at h; cases h) hlk
  exact ⟨_, _, X.areturnOut hx hv hret ht hd hr, hrun, hended, _, _, rfl, q, ⟨_, rfl⟩, hW, hsame.mono hc hs⟩
/-! loads and stores of locals -/
theorem g_iloadN (X : Stand p l e R s m args below meth c T locs cells slots) (hx : p.tables.exec = Jvm.exec) {k : Fin 4} (hd : decode c.code pc = .ok (.iload_n k, 1)) (hl : Ls[k.val]? = some (.val (.int x))) (hp : pc + 1 = pc') (r : WGo p e below s kc ks Q T (mkF m pc' Ls (.int x :: st))) : WGo p e below s kc ks Q T (mkF m pc Ls st) := by
  subst hp; exact r.go fun t k => XS.iloadN X.here hx rfl hd hl k
theorem g_iload (X : Stand p l e R s m args below meth c T locs cells slots) (hx : p.tables.exec = Jvm.exec) {k : Nat} (hd : decode c.code pc = .ok (.iload k, 2)) (hl : Ls[k]? = some (.val (.int x))) (hp : pc + 2 = pc') (r : WGo p e below s kc ks Q T (mkF m pc' Ls (.int x :: st))) : WGo p e below s kc ks Q T (mkF m pc Ls st) := by
  subst hp; exact r.go fun t k => XS.iload X.here hx rfl hd hl k
theorem g_lloadN (X : Stand p l e R s m args below meth c T locs cells slots) (hx : p.tables.exec = Jvm.exec) {k : Fin 4} (hd : decode c.code pc = .ok (.lload_n k, 1)) (hl : Ls[k.val]? = some (.val (.long u))) (hp : pc + 1 = pc') (r : WGo p e below s kc ks Q T (mkF m pc' Ls (.long u :: st))) : WGo p e below s kc ks Q T (mkF m pc Ls st) := by
  subst hp; exact r.go fun t k => XT.lloadN X.here hx rfl hd hl k
theorem g_lload (X : Stand p l e R s m args below meth c T locs cells slots) (hx : p.tables.exec = Jvm.exec) {k : Nat} (hd : decode c.code pc = .ok (.lload k, 2)) (hl : Ls[k]? = some (.val (.long u))) (hp : pc + 2 = pc') (r : WGo p e below s kc ks Q T (mkF m pc' Ls (.long u :: st))) : WGo p e below s kc ks Q T (mkF m pc Ls st) := by
  subst hp; exact r.go fun t k => XT.lload X.here hx rfl hd hl k
theorem g_aloadN {v : Value} (X : Stand p l e R s m args below meth c T locs cells slots) (hx : p.tables.exec = Jvm.exec) {k : Fin 4} (hd : decode c.code pc = .ok (.aload_n k, 1)) (hl : Ls[k.val]? = some (.val v)) (hv : v.isRef = true) (hp : pc + 1 = pc') (r : WGo p e below s kc ks Q T (mkF m pc' Ls (v :: st))) : WGo p e below s kc ks Q T (mkF m pc Ls st) := by
  subst hp; exact r.go fun t k => XS.aloadN X.here hx rfl hd hl hv k
theorem g_aload {v : Value} (X : Stand p l e R s m args below meth c T locs cells slots) (hx : p.tables.exec = Jvm.exec) {k : Nat} (hd : decode c.code pc = .ok (.aload k, 2)) (hl : Ls[k]? = some (.val v)) (hv : v.isRef = true) (hp : pc + 2 = pc') (r : WGo p e below s kc ks Q T (mkF m pc' Ls (v :: st))) : WGo p e below s kc ks Q T (mkF m pc Ls st) := by
  subst hp; exact r.go fun t k => XS.aload X.here hx rfl hd hl hv k
theorem g_istoreN (X : Stand p l e R s m args below meth c T locs cells slots) (hx : p.tables.exec = Jvm.exec) {k : Fin 4} (hd : decode c.code pc = .ok (.istore_n k, 1)) (hl : storeLocals Ls k.val (.int x) = some Ls') (hp : pc + 1 = pc') (r : WGo p e below s kc ks Q T (mkF m pc' Ls' st)) : WGo p e below s kc ks Q T (mkF m pc Ls (.int x :: st)) := by
  subst hp; exact r.go fun t k => XS.istoreN X.here hx rfl hd rfl hl k
theorem g_istore (X : Stand p l e R s m args below meth c T locs cells slots) (hx : p.tables.exec = Jvm.exec) {k : Nat} (hd : decode c.code pc = .ok (.istore k, 2)) (hl : storeLocals Ls k (.int x) = some Ls') (hp : pc + 2 = pc') (r : WGo p e below s kc ks Q T (mkF m pc' Ls' st)) : WGo p e below s kc ks Q T (mkF m pc Ls (.int x :: st)) := by
  subst hp; exact r.go fun t k => XS.istore X.here hx rfl hd rfl hl k
theorem g_lstoreN (X : Stand p l e R s m args below meth c T locs cells slots) (hx : p.tables.exec = Jvm.exec) {k : Fin 4} (hd : decode c.code pc = .ok (.lstore_n k, 1)) (hl : storeLocals Ls k.val (.long u) = some Ls') (hp : pc + 1 = pc') (r : WGo p e below s kc ks Q T (mkF m pc' Ls' st)) : WGo p e below s kc ks Q T (mkF m pc Ls (.long u :: st)) := by
  subst hp; exact r.go fun t k => XT.lstoreN X.here hx rfl hd rfl hl k
theorem g_lstore (X : Stand p l e R s m args below meth c T locs cells slots) (hx : p.tables.exec = Jvm.exec) {k : Nat} (hd : decode c.code pc = .ok (.lstore k, 2)) (hl : storeLocals Ls k (.long u) = some Ls') (hp : pc + 2 = pc') (r : WGo p e below s kc ks Q T (mkF m pc' Ls' st)) : WGo p e below s kc ks Q T (mkF m pc Ls (.long u :: st)) := by
  subst hp; exact r.go fun t k => XT.lstore X.here hx rfl hd rfl hl k
theorem g_astoreN {v : Value} (X : Stand p l e R s m args below meth c T locs cells slots) (hx : p.tables.exec = Jvm.exec) {k : Fin 4} (hd : decode c.code pc = .ok (.astore_n k, 1)) (hv : v.isRef = true) (hl : storeLocals Ls k.val v = some Ls') (hp : pc + 1 = pc') (r : WGo p e below s kc ks Q T (mkF m pc' Ls' st)) : WGo p e below s kc ks Q T (mkF m pc Ls (v :: st)) := by
  subst hp; exact r.go fun t k => XS.astoreN X.here hx rfl hd rfl hv hl k
theorem g_astore {v : Value} (X : Stand p l e R s m args below meth c T locs cells slots) (hx : p.tables.exec = Jvm.exec) {k : Nat} (hd : decode c.code pc = .ok (.astore k, 2)) (hv : v.isRef = true) (hl : storeLocals Ls k v = some Ls') (hp : pc + 2 = pc') (r : WGo p e below s kc ks Q T (mkF m pc' Ls' st)) : WGo p e below s kc ks Q T (mkF m pc Ls (v :: st)) := by
  subst hp; exact r.go fun t k => XS.astore X.here hx rfl hd rfl hv hl k
theorem g_iinc (X : Stand p l e R s m args below meth c T locs cells slots) (hx : p.tables.exec = Jvm.exec) {k : Nat} {cst : Int} {z : Int32} (hd : decode c.code pc = .ok (.iinc k cst, 3)) (hl : Ls[k]? = some (.val (.int x))) (hz : x + Int32.ofInt cst = z) (hl' : storeLocals Ls k (.int z) = some Ls') (hp : pc + 3 = pc') (r : WGo p e below s kc ks Q T (mkF m pc' Ls' st)) : WGo p e below s kc ks Q T (mkF m pc Ls st) := by
  subst hp hz; exact r.go fun t k => XS.iinc X.here hx rfl hd hl hl' k
/-! constants -/
theorem g_iconst (X : Stand p l e R s m args below meth c T locs cells slots) (hx : p.tables.exec = Jvm.exec) {i : Int} (hd : decode c.code pc = .ok (.iconst i, 1)) (hv : Int32.ofInt i = x) (hp : pc + 1 = pc') (r : WGo p e below s kc ks Q T (mkF m pc' Ls (.int x :: st))) : WGo p e below s kc ks Q T (mkF m pc Ls st) := by
  subst hp hv; exact r.go fun t k => XS.iconst X.here hx rfl hd k
theorem g_bipush (X : Stand p l e R s m args below meth c T locs cells slots) (hx : p.tables.exec = Jvm.exec) {i : Int} (hd : decode c.code pc = .ok (.bipush i, 2)) (hv : (Int8.ofInt i).toInt32 = x) (hp : pc + 2 = pc') (r : WGo p e below s kc ks Q T (mkF m pc' Ls (.int x :: st))) : WGo p e below s kc ks Q T (mkF m pc Ls st) := by
  subst hp hv; exact r.go fun t k => XS.bipush X.here hx rfl hd k
theorem g_sipush (X : Stand p l e R s m args below meth c T locs cells slots) (hx : p.tables.exec = Jvm.exec) {i : Int} (hd : decode c.code pc = .ok (.sipush i, 3)) (hv : (Int16.ofInt i).toInt32 = x) (hp : pc + 3 = pc') (r : WGo p e below s kc ks Q T (mkF m pc' Ls (.int x :: st))) : WGo p e below s kc ks Q T (mkF m pc Ls st) := by
  subst hp hv; exact r.go fun t k => XS.sipush X.here hx rfl hd k
theorem g_lconst (X : Stand p l e R s m args below meth c T locs cells slots) (hx : p.tables.exec = Jvm.exec) {i : Fin 2} (hd : decode c.code pc = .ok (.lconst i, 1)) (hv : Int64.ofNat i = u) (hp : pc + 1 = pc') (r : WGo p e below s kc ks Q T (mkF m pc' Ls (.long u :: st))) : WGo p e below s kc ks Q T (mkF m pc Ls st) := by
  subst hp hv; exact r.go fun t k => XT.lconst X.here hx rfl hd k
theorem g_null (X : Stand p l e R s m args below meth c T locs cells slots) (hx : p.tables.exec = Jvm.exec) (hd : decode c.code pc = .ok (.aconst_null, 1)) (hp : pc + 1 = pc') (r : WGo p e below s kc ks Q T (mkF m pc' Ls (.null :: st))) : WGo p e below s kc ks Q T (mkF m pc Ls st) := by
  subst hp; exact r.go fun t k => XS.aconstNull X.here hx rfl hd k
theorem g_ldcI {own : String} {index : Nat} (X : Stand p l e R s m args below meth c T locs cells slots) (hx : p.tables.exec = Jvm.exec) (hZ : Z.Warmed39 s.vm) (hown : s.vm.findClass own = some m.cls) (wd : (Jvm.Cond.constant own index x).before a0 Z = true) (hd : decode c.code pc = .ok (.ldc index, 2)) (hp : pc + 2 = pc') (r : WGo p e below s kc ks Q T (mkF m pc' Ls (.int x :: st))) : WGo p e below s kc ks Q T (mkF m pc Ls st) := by
  subst hp; exact r.go fun t k => X.ldcInt hx hown (mvT hZ wd) (g := mkF m pc Ls st) rfl hd t k
theorem g_ldcJ {own : String} {index : Nat} (X : Stand p l e R s m args below meth c T locs cells slots) (hx : p.tables.exec = Jvm.exec) (hZ : Z.Warmed39 s.vm) (hown : s.vm.findClass own = some m.cls) (wd : (Jvm.Cond.constantLong own index u).before a0 Z = true) (hd : decode c.code pc = .ok (.ldc2_w index, 3)) (hp : pc + 3 = pc') (r : WGo p e below s kc ks Q T (mkF m pc' Ls (.long u :: st))) : WGo p e below s kc ks Q T (mkF m pc Ls st) := by
  subst hp; exact r.go fun t k => X.ldc2Long hx hown (mvT hZ wd) (g := mkF m pc Ls st) rfl hd t k
/-! reckoning -/
theorem g_iadd (X : Stand p l e R s m args below meth c T locs cells slots) (hx : p.tables.exec = Jvm.exec) (hd : decode c.code pc = .ok (.iadd, 1)) (hp : pc + 1 = pc') (r : WGo p e below s kc ks Q T (mkF m pc' Ls (.int (x + y) :: st))) : WGo p e below s kc ks Q T (mkF m pc Ls (.int y :: .int x :: st)) := by
  subst hp; exact r.go fun t k => XS.iadd X.here hx rfl hd rfl k
theorem g_isub (X : Stand p l e R s m args below meth c T locs cells slots) (hx : p.tables.exec = Jvm.exec) (hd : decode c.code pc = .ok (.isub, 1)) (hp : pc + 1 = pc') (r : WGo p e below s kc ks Q T (mkF m pc' Ls (.int (x - y) :: st))) : WGo p e below s kc ks Q T (mkF m pc Ls (.int y :: .int x :: st)) := by
  subst hp; exact r.go fun t k => XS.isub X.here hx rfl hd rfl k
theorem g_iand (X : Stand p l e R s m args below meth c T locs cells slots) (hx : p.tables.exec = Jvm.exec) (hd : decode c.code pc = .ok (.iand, 1)) (hp : pc + 1 = pc') (r : WGo p e below s kc ks Q T (mkF m pc' Ls (.int (x &&& y) :: st))) : WGo p e below s kc ks Q T (mkF m pc Ls (.int y :: .int x :: st)) := by
  subst hp; exact r.go fun t k => XS.iand X.here hx rfl hd rfl k
theorem g_imul (X : Stand p l e R s m args below meth c T locs cells slots) (hx : p.tables.exec = Jvm.exec) (hd : decode c.code pc = .ok (.imul, 1)) (hp : pc + 1 = pc') (r : WGo p e below s kc ks Q T (mkF m pc' Ls (.int (x * y) :: st))) : WGo p e below s kc ks Q T (mkF m pc Ls (.int y :: .int x :: st)) := by
  subst hp; exact r.go fun t k => XS.imul X.here hx rfl hd rfl k
theorem g_ixor (X : Stand p l e R s m args below meth c T locs cells slots) (hx : p.tables.exec = Jvm.exec) (hd : decode c.code pc = .ok (.ixor, 1)) (hp : pc + 1 = pc') (r : WGo p e below s kc ks Q T (mkF m pc' Ls (.int (x ^^^ y) :: st))) : WGo p e below s kc ks Q T (mkF m pc Ls (.int y :: .int x :: st)) := by
  subst hp; exact r.go fun t k => XT.ixor X.here hx rfl hd rfl k
theorem g_ior (X : Stand p l e R s m args below meth c T locs cells slots) (hx : p.tables.exec = Jvm.exec) (hd : decode c.code pc = .ok (.ior, 1)) (hp : pc + 1 = pc') (r : WGo p e below s kc ks Q T (mkF m pc' Ls (.int (x ||| y) :: st))) : WGo p e below s kc ks Q T (mkF m pc Ls (.int y :: .int x :: st)) := by
  subst hp; exact r.go fun t k => XT.ior X.here hx rfl hd rfl k
theorem g_ishl (X : Stand p l e R s m args below meth c T locs cells slots) (hx : p.tables.exec = Jvm.exec) (hd : decode c.code pc = .ok (.ishl, 1)) (hp : pc + 1 = pc') (r : WGo p e below s kc ks Q T (mkF m pc' Ls (.int (x <<< (y &&& 31)) :: st))) : WGo p e below s kc ks Q T (mkF m pc Ls (.int y :: .int x :: st)) := by
  subst hp; exact r.go fun t k => XT.ishl X.here hx rfl hd rfl k
theorem g_ishr (X : Stand p l e R s m args below meth c T locs cells slots) (hx : p.tables.exec = Jvm.exec) (hd : decode c.code pc = .ok (.ishr, 1)) (hp : pc + 1 = pc') (r : WGo p e below s kc ks Q T (mkF m pc' Ls (.int (x >>> (y &&& 31)) :: st))) : WGo p e below s kc ks Q T (mkF m pc Ls (.int y :: .int x :: st)) := by
  subst hp; exact r.go fun t k => XT.ishr X.here hx rfl hd rfl k
theorem g_iushr (X : Stand p l e R s m args below meth c T locs cells slots) (hx : p.tables.exec = Jvm.exec) (hd : decode c.code pc = .ok (.iushr, 1)) (hp : pc + 1 = pc') (r : WGo p e below s kc ks Q T (mkF m pc' Ls (.int (XT.ushr x y) :: st))) : WGo p e below s kc ks Q T (mkF m pc Ls (.int y :: .int x :: st)) := by
  subst hp; exact r.go fun t k => XT.iushr X.here hx rfl hd rfl k
theorem g_ladd (X : Stand p l e R s m args below meth c T locs cells slots) (hx : p.tables.exec = Jvm.exec) (hd : decode c.code pc = .ok (.ladd, 1)) (hp : pc + 1 = pc') (r : WGo p e below s kc ks Q T (mkF m pc' Ls (.long (u + w) :: st))) : WGo p e below s kc ks Q T (mkF m pc Ls (.long w :: .long u :: st)) := by
  subst hp; exact r.go fun t k => XT.ladd X.here hx rfl hd rfl k
theorem g_lsub (X : Stand p l e R s m args below meth c T locs cells slots) (hx : p.tables.exec = Jvm.exec) (hd : decode c.code pc = .ok (.lsub, 1)) (hp : pc + 1 = pc') (r : WGo p e below s kc ks Q T (mkF m pc' Ls (.long (u - w) :: st))) : WGo p e below s kc ks Q T (mkF m pc Ls (.long w :: .long u :: st)) := by
  subst hp; exact r.go fun t k => XT.lsub X.here hx rfl hd rfl k
theorem g_lmul (X : Stand p l e R s m args below meth c T locs cells slots) (hx : p.tables.exec = Jvm.exec) (hd : decode c.code pc = .ok (.lmul, 1)) (hp : pc + 1 = pc') (r : WGo p e below s kc ks Q T (mkF m pc' Ls (.long (u * w) :: st))) : WGo p e below s kc ks Q T (mkF m pc Ls (.long w :: .long u :: st)) := by
  subst hp; exact r.go fun t k => XT.lmul X.here hx rfl hd rfl k
theorem g_land (X : Stand p l e R s m args below meth c T locs cells slots) (hx : p.tables.exec = Jvm.exec) (hd : decode c.code pc = .ok (.land, 1)) (hp : pc + 1 = pc') (r : WGo p e below s kc ks Q T (mkF m pc' Ls (.long (u &&& w) :: st))) : WGo p e below s kc ks Q T (mkF m pc Ls (.long w :: .long u :: st)) := by
  subst hp; exact r.go fun t k => XT.land X.here hx rfl hd rfl k
theorem g_lxor (X : Stand p l e R s m args below meth c T locs cells slots) (hx : p.tables.exec = Jvm.exec) (hd : decode c.code pc = .ok (.lxor, 1)) (hp : pc + 1 = pc') (r : WGo p e below s kc ks Q T (mkF m pc' Ls (.long (u ^^^ w) :: st))) : WGo p e below s kc ks Q T (mkF m pc Ls (.long w :: .long u :: st)) := by
  subst hp; exact r.go fun t k => XT.lxor X.here hx rfl hd rfl k
theorem g_lushr (X : Stand p l e R s m args below meth c T locs cells slots) (hx : p.tables.exec = Jvm.exec) (hd : decode c.code pc = .ok (.lushr, 1)) (hp : pc + 1 = pc') (r : WGo p e below s kc ks Q T (mkF m pc' Ls (.long (XT.ushrL u y) :: st))) : WGo p e below s kc ks Q T (mkF m pc Ls (.int y :: .long u :: st)) := by
  subst hp; exact r.go fun t k => XT.lushr X.here hx rfl hd rfl k
theorem g_lcmp (X : Stand p l e R s m args below meth c T locs cells slots) (hx : p.tables.exec = Jvm.exec) (hd : decode c.code pc = .ok (.lcmp, 1)) (hp : pc + 1 = pc') (r : WGo p e below s kc ks Q T (mkF m pc' Ls (.int (XT.cmpL u w) :: st))) : WGo p e below s kc ks Q T (mkF m pc Ls (.long w :: .long u :: st)) := by
  subst hp; exact r.go fun t k => XT.lcmp X.here hx rfl hd rfl k
theorem g_i2l (X : Stand p l e R s m args below meth c T locs cells slots) (hx : p.tables.exec = Jvm.exec) (hd : decode c.code pc = .ok (.i2l, 1)) (hp : pc + 1 = pc') (r : WGo p e below s kc ks Q T (mkF m pc' Ls (.long (x.toInt64) :: st))) : WGo p e below s kc ks Q T (mkF m pc Ls (.int x :: st)) := by
  subst hp; exact r.go fun t k => XT.i2l X.here hx rfl hd rfl k
theorem g_l2i (X : Stand p l e R s m args below meth c T locs cells slots) (hx : p.tables.exec = Jvm.exec) (hd : decode c.code pc = .ok (.l2i, 1)) (hp : pc + 1 = pc') (r : WGo p e below s kc ks Q T (mkF m pc' Ls (.int (u.toInt32) :: st))) : WGo p e below s kc ks Q T (mkF m pc Ls (.long u :: st)) := by
  subst hp; exact r.go fun t k => XT.l2i X.here hx rfl hd rfl k
theorem g_i2b (X : Stand p l e R s m args below meth c T locs cells slots) (hx : p.tables.exec = Jvm.exec) (hd : decode c.code pc = .ok (.i2b, 1)) (hp : pc + 1 = pc') (r : WGo p e below s kc ks Q T (mkF m pc' Ls (.int (x.toInt8.toInt32) :: st))) : WGo p e below s kc ks Q T (mkF m pc Ls (.int x :: st)) := by
  subst hp; exact r.go fun t k => XT.i2b X.here hx rfl hd rfl k
theorem g_i2c (X : Stand p l e R s m args below meth c T locs cells slots) (hx : p.tables.exec = Jvm.exec) (hd : decode c.code pc = .ok (.i2c, 1)) (hp : pc + 1 = pc') (r : WGo p e below s kc ks Q T (mkF m pc' Ls (.int (x.toUInt32.toUInt16.toUInt32.toInt32) :: st))) : WGo p e below s kc ks Q T (mkF m pc Ls (.int x :: st)) := by
  subst hp; exact r.go fun t k => XT.i2c X.here hx rfl hd rfl k
theorem g_i2s (X : Stand p l e R s m args below meth c T locs cells slots) (hx : p.tables.exec = Jvm.exec) (hd : decode c.code pc = .ok (.i2s, 1)) (hp : pc + 1 = pc') (r : WGo p e below s kc ks Q T (mkF m pc' Ls (.int (x.toInt16.toInt32) :: st))) : WGo p e below s kc ks Q T (mkF m pc Ls (.int x :: st)) := by
  subst hp; exact r.go fun t k => XT.i2s X.here hx rfl hd rfl k
theorem g_irem (X : Stand p l e R s m args below meth c T locs cells slots) (hx : p.tables.exec = Jvm.exec) (hd : decode c.code pc = .ok (.irem, 1)) (hy : y ≠ 0) (hp : pc + 1 = pc') (r : WGo p e below s kc ks Q T (mkF m pc' Ls (.int (x % y) :: st))) : WGo p e below s kc ks Q T (mkF m pc Ls (.int y :: .int x :: st)) := by
  subst hp; exact r.go fun t k => iremM X hx rfl hd rfl hy k
theorem g_ldiv (X : Stand p l e R s m args below meth c T locs cells slots) (hx : p.tables.exec = Jvm.exec) (hd : decode c.code pc = .ok (.ldiv, 1)) (hy : w ≠ 0) (hp : pc + 1 = pc') (r : WGo p e below s kc ks Q T (mkF m pc' Ls (.long (u / w) :: st))) : WGo p e below s kc ks Q T (mkF m pc Ls (.long w :: .long u :: st)) := by
  subst hp; exact r.go fun t k => XT.ldiv X.here hx rfl hd rfl hy k
theorem g_lrem (X : Stand p l e R s m args below meth c T locs cells slots) (hx : p.tables.exec = Jvm.exec) (hd : decode c.code pc = .ok (.lrem, 1)) (hy : w ≠ 0) (hp : pc + 1 = pc') (r : WGo p e below s kc ks Q T (mkF m pc' Ls (.long (u % w) :: st))) : WGo p e below s kc ks Q T (mkF m pc Ls (.long w :: .long u :: st)) := by
  subst hp; rw [← lrem_mod] at r; exact r.go fun t k => XT.lrem X.here hx rfl hd rfl hy k
/-! the stack -/
theorem g_dup {v : Value} (X : Stand p l e R s m args below meth c T locs cells slots) (hx : p.tables.exec = Jvm.exec) (hd : decode c.code pc = .ok (.dup, 1)) (hc : v.category = 1) (hp : pc + 1 = pc') (r : WGo p e below s kc ks Q T (mkF m pc' Ls (v :: v :: st))) : WGo p e below s kc ks Q T (mkF m pc Ls (v :: st)) := by
  subst hp; exact r.go fun t k => XS.dup X.here hx rfl hd rfl hc k
theorem g_dup2 {v v' : Value} (X : Stand p l e R s m args below meth c T locs cells slots) (hx : p.tables.exec = Jvm.exec) (hd : decode c.code pc = .ok (.dup2, 1)) (hc : v.category = 1) (hc' : v'.category = 1) (hp : pc + 1 = pc') (r : WGo p e below s kc ks Q T (mkF m pc' Ls (v :: v' :: v :: v' :: st))) : WGo p e below s kc ks Q T (mkF m pc Ls (v :: v' :: st)) := by
  subst hp; exact r.go fun t k => XT.dup2 X.here hx rfl hd rfl hc hc' k
theorem g_pop {v : Value} (X : Stand p l e R s m args below meth c T locs cells slots) (hx : p.tables.exec = Jvm.exec) (hd : decode c.code pc = .ok (.pop, 1)) (hc : v.category = 1) (hp : pc + 1 = pc') (r : WGo p e below s kc ks Q T (mkF m pc' Ls st)) : WGo p e below s kc ks Q T (mkF m pc Ls (v :: st)) := by
  subst hp; exact r.go fun t k => XT.pop X.here hx rfl hd rfl hc k
/-! jumps -/
theorem g_join {α : Type} {P : α → Prop} {F : JFrame} {J : α → JFrame} (k : (∀ z, P z → WGo p e below s kc ks Q T (J z)) → WGo p e below s kc ks Q T F) (r : ∀ z, P z → WGo p e below s kc ks Q T (J z)) : WGo p e below s kc ks Q T F := k r
theorem g_goto (X : Stand p l e R s m args below meth c T locs cells slots) (hx : p.tables.exec = Jvm.exec) {o : Int} (hd : decode c.code pc = .ok (.goto o, 3)) (ho : 0 ≤ (pc : Int) + o) (hp : ((pc : Int) + o).toNat = pc') (r : WGo p e below s kc ks Q T (mkF m pc' Ls st)) : WGo p e below s kc ks Q T (mkF m pc Ls st) :=
  r.go fun t k => XS.goto X.here hx rfl rfl hd ho hp k
theorem g_joinT {α : Type} {P : α → Prop} {F : JFrame} {J : α → JFrame} {n0 : Nat} (k : (∀ T' L z, Stand p l e R s m args below meth c T' L cells slots → T'.heap = h → Fr n0 L → P z → WGo p e below s kc ks Q T' (J z)) → WGo p e below s kc ks Q T F) (r : ∀ T' L z, Stand p l e R s m args below meth c T' L cells slots → T'.heap = h → Fr n0 L → P z → WGo p e below s kc ks Q T' (J z)) : WGo p e below s kc ks Q T F := k r
theorem g_ind {α : Type} {P : Nat → α → Prop} {J : α → JFrame} (step : ∀ k, (∀ k' z, k' < k → P k' z → WGo p e below s kc ks Q T (J z)) → ∀ z, P k z → WGo p e below s kc ks Q T (J z)) (k0 : Nat) (z0 : α) (h0 : P k0 z0) : WGo p e below s kc ks Q T (J z0) := by
  have all : ∀ n k, k < n → ∀ z, P k z → WGo p e below s kc ks Q T (J z) := by
    intro n
    induction n with
    | zero => intro k hk; exact absurd hk (Nat.not_lt_zero _)
    | succ n ih => intro k hk z hz; exact step k (fun k' z' hk' hz' => ih k' (Nat.lt_of_lt_of_le hk' (Nat.le_of_lt_succ hk)) z' hz') z hz
  exact all (k0 + 1) k0 (Nat.lt_succ_self _) z0 h0
theorem g_icmp (X : Stand p l e R s m args below meth c T locs cells slots) (hx : p.tables.exec = Jvm.exec) {cd : ClassFile.Cond} {o : Int} {pc2 : Nat} (hd : decode c.code pc = .ok (.if_icmp cd o, 3)) (ho : 0 ≤ (pc : Int) + o) (hp : ((pc : Int) + o).toNat = pc') (hp2 : pc + 3 = pc2) (r1 : if_icmp.holds cd x y = true → WGo p e below s kc ks Q T (mkF m pc' Ls st)) (r2 : if_icmp.holds cd x y = false → WGo p e below s kc ks Q T (mkF m pc2 Ls st)) : WGo p e below s kc ks Q T (mkF m pc Ls (.int y :: .int x :: st)) := by
  subst hp2
  cases hc : if_icmp.holds cd x y
  · exact (r2 hc).go fun t k => XS.icmpNo X.here hx rfl hd rfl hc k
  · exact (r1 hc).go fun t k => XS.icmpYes X.here hx rfl rfl hd rfl hc ho hp k
theorem g_if (X : Stand p l e R s m args below meth c T locs cells slots) (hx : p.tables.exec = Jvm.exec) {cd : ClassFile.Cond} {o : Int} {pc2 : Nat} (hd : decode c.code pc = .ok (.ifCond cd o, 3)) (ho : 0 ≤ (pc : Int) + o) (hp : ((pc : Int) + o).toNat = pc') (hp2 : pc + 3 = pc2) (r1 : if_icmp.holds cd x 0 = true → WGo p e below s kc ks Q T (mkF m pc' Ls st)) (r2 : if_icmp.holds cd x 0 = false → WGo p e below s kc ks Q T (mkF m pc2 Ls st)) : WGo p e below s kc ks Q T (mkF m pc Ls (.int x :: st)) := by
  subst hp2
  cases hc : if_icmp.holds cd x 0
  · exact (r2 hc).go fun t k => XS.ifNo X.here hx rfl hd rfl ((if0 _ _).trans hc) k
  · exact (r1 hc).go fun t k => XS.ifYes X.here hx rfl rfl hd rfl ((if0 _ _).trans hc) ho hp k
theorem h_eq1 (q : if_icmp.holds .eq x y = true) : x = y := by simpa [if_icmp.holds] using q
theorem h_eq0 (q : if_icmp.holds .eq x y = false) : ¬ x = y := by simpa [if_icmp.holds] using q
theorem h_ne1 (q : if_icmp.holds .ne x y = true) : ¬ x = y := by simpa [if_icmp.holds] using q
theorem h_ne0 (q : if_icmp.holds .ne x y = false) : x = y := by simpa [if_icmp.holds] using q
theorem h_lt1 (q : if_icmp.holds .lt x y = true) : x < y := by simpa [if_icmp.holds] using q
theorem h_lt0 (q : if_icmp.holds .lt x y = false) : ¬ x < y := by simpa [if_icmp.holds] using q
theorem h_ge1 (q : if_icmp.holds .ge x y = true) : ¬ x < y := fun z => by rw [(tlt z).2.1] at q; cases q
theorem h_ge0 (q : if_icmp.holds .ge x y = false) : x < y := Classical.byContradiction fun z => by rw [(flt z).2.1] at q; cases q
theorem h_gt1 (q : if_icmp.holds .gt x y = true) : y < x := Classical.byContradiction fun z => by rw [(flt z).2.2.1] at q; cases q
theorem h_gt0 (q : if_icmp.holds .gt x y = false) : ¬ y < x := fun z => by rw [(tlt z).2.2.1] at q; cases q
theorem h_le1 (q : if_icmp.holds .le x y = true) : ¬ y < x := fun z => by rw [(tlt z).2.2.2] at q; cases q
theorem h_le0 (q : if_icmp.holds .le x y = false) : y < x := Classical.byContradiction fun z => by rw [(flt z).2.2.2] at q; cases q
theorem g_acmp {v v' : Value} (X : Stand p l e R s m args below meth c T locs cells slots) (hx : p.tables.exec = Jvm.exec) (h1 : v.isRef = true) (h2 : v'.isRef = true) {o : Int} {pc2 : Nat} (hd : decode c.code pc = .ok (.if_acmp .ne o, 3)) (ho : 0 ≤ (pc : Int) + o) (hp : ((pc : Int) + o).toNat = pc') (hp2 : pc + 3 = pc2) (r1 : ¬ v = v' → WGo p e below s kc ks Q T (mkF m pc' Ls st)) (r2 : v = v' → WGo p e below s kc ks Q T (mkF m pc2 Ls st)) : WGo p e below s kc ks Q T (mkF m pc Ls (v' :: v :: st)) := by
  by_cases hc : v = v'
  · exact (r2 hc).go fun t k => Jvm.RoadKit.acmp X hx rfl h1 h2 rfl hd rfl (decide_eq_true hc) ho (by simp [acV, hp2]) k
  · exact (r1 hc).go fun t k => Jvm.RoadKit.acmp X hx rfl h1 h2 rfl hd rfl (decide_eq_false hc) ho (by simp [acV, hp]) k
theorem cl_lt (u w : Int64) : XT.cmpL u w < 0 ↔ u < w := lw_lt u w
theorem cl_gt (u w : Int64) : 0 < XT.cmpL u w ↔ w < u := lw_gt u w
theorem cl_eq (u w : Int64) : XT.cmpL u w = 0 ↔ u = w := lw_eq u w
/-! fields -/
theorem g_getF {own O n d : String} {index : Nat} {a : Addr} {v : Value} (X : Stand p l e R s m args below meth c T locs cells slots) (hx : p.tables.exec = Jvm.exec) (hZ : Z.Warmed39 s.vm) (hown : s.vm.findClass own = some m.cls) (wd : (Jvm.Cond.fieldLink own index O n d).before a0 Z = true) (eT : T.heap = h) (F : Fld Z h a O n d v) (hd : decode c.code pc = .ok (.getfield index, 3)) (hp : pc + 3 = pc')
    (r : ∀ T', Stand p l e R s m args below meth c T' locs cells slots → T'.heap = h → WGo p e below s kc ks Q T' (mkF m pc' Ls (v :: st))) : WGo p e below s kc ks Q T (mkF m pc Ls (.ref a :: st)) := by
  subst hp
  obtain ⟨T', X', e', k⟩ := getF X hx hZ hown (host := "") (Or.inl wd) Via.refl eT F (g := mkF m pc Ls (.ref a :: st)) rfl rfl hd
  exact (r T' X' e').go k
theorem g_putF {own O n d C : String} {index kk : Nat} {ty : FieldType} {a : Addr} {v old : Value} (X : Stand p l e R s m args below meth c T locs cells slots) (hx : p.tables.exec = Jvm.exec) (hZ : Z.Warmed39 s.vm) (hown : s.vm.findClass own = some m.cls) (wd : (Jvm.Cond.fieldLink own index O n d).before a0 Z = true) (eT : T.heap = h) (F : Fld Z h a O n d old) (E : Exa Z h a C)
    (L : (Jvm.Cond.lays C O n d).before a0 Z = true ∨ ((Jvm.Cond.laysFinal C O n d).before a0 Z = true ∧ own = O ∧ meth.name = "<init>")) (wi : (Jvm.Cond.instantiable C kk).before a0 Z = true) (hty : parseFieldDescriptor d = some ty) (hn : narrow ty v = v) (hf : fits ty v = true) (hd : decode c.code pc = .ok (.putfield index, 3)) (hp : pc + 3 = pc')
    (r : ∀ T' h', Stand p l e R s m args below meth c T' (locs ++ [⟨a, Jvm.RoadKit.slotOf Z O n d⟩]) cells slots → T'.heap = h' → Wr h h' a (Jvm.RoadKit.slotOf Z O n d) v → WGo p e below s kc ks Q T' (mkF m pc' Ls st)) : WGo p e below s kc ks Q T (mkF m pc Ls (v :: .ref a :: st)) := by
  subst hp
  obtain ⟨T', h', X', e', W, k⟩ := putF X hx hZ hown (host := "") (Or.inl wd) Via.refl eT F E L wi hty hn hf (g := mkF m pc Ls (v :: .ref a :: st)) rfl rfl hd
  exact (r T' h' X' e' W).go k
theorem g_getS {own O n d : String} {index : Nat} {v : Value} (X : Stand p l e R s m args below meth c T locs cells slots) (hx : p.tables.exec = Jvm.exec) (hZ : Z.Warmed39 s.vm) (hown : s.vm.findClass own = some m.cls) (wd : (Jvm.Cond.fieldLink own index O n d).before a0 Z = true) (eT : T.heap = h) (F : Sta Z h O n d v) (hd : decode c.code pc = .ok (.getstatic index, 3)) (hp : pc + 3 = pc')
    (r : ∀ T', Stand p l e R s m args below meth c T' locs cells slots → T'.heap = h → WGo p e below s kc ks Q T' (mkF m pc' Ls (v :: st))) : WGo p e below s kc ks Q T (mkF m pc Ls st) := by
  subst hp
  obtain ⟨T', X', e', k⟩ := getS (host := "") X hx hZ hown wd Via.refl eT F (g := mkF m pc Ls st) rfl hd
  exact (r T' X' e').go k
/-! new -/
theorem g_new {own C : String} {index n : Nat} (X : Stand p l e R s m args below meth c T locs cells slots) (hx : p.tables.exec = Jvm.exec) (hZ : Z.Warmed39 s.vm) (hown : s.vm.findClass own = some m.cls) (w1 : (Jvm.Cond.classLink own index C).before a0 Z = true) (w2 : (Jvm.Cond.instantiable C n).before a0 Z = true) (w3 : (Jvm.Cond.initialized C).before a0 Z = true) (eT : T.heap = h) (hd : decode c.code pc = .ok (.new index, 3)) (hc : cells + 1 ≤ R.cells) (hl : slots + n ≤ R.slots) (hp : pc + 3 = pc')
    (r : ∀ T' h' a, a = h.size → Stand p l e R s m args below meth c T' locs (cells + 1) (slots + n) → T'.heap = h' → Ext h h' → Exa Z h' a C → (∀ {O nm d : String} {ty : FieldType}, Laid Z a0 C O nm d → parseFieldDescriptor d = some ty → Fld Z h' a O nm d (defaultValue ty)) → WGo p e below s kc ks Q T' (mkF m pc' Ls (.ref a :: st))) : WGo p e below s kc ks Q T (mkF m pc Ls st) := by
  subst hp
  obtain ⟨T', h', X', e', E, A, D, -, k⟩ := newO X hx hZ hown w1 w2 w3 eT (g := mkF m pc Ls st) rfl hd hc hl
  exact (r T' h' _ rfl X' e' E A D).go k
/-- a step that a law of the library hands out whole -/
theorem g_move {g g' : JFrame} (k : ∃ T', Stand p l e R s m args below meth c T' locs cells slots ∧ T'.heap = h ∧ ∀ target, Steps p.tables e below (T'.setTop g') target → Steps p.tables e below (T.setTop g) target) (r : ∀ T', Stand p l e R s m args below meth c T' locs cells slots → T'.heap = h → WGo p e below s kc ks Q T' g') : WGo p e below s kc ks Q T g := by
  obtain ⟨T', X', e', k⟩ := k
  exact (r T' X' e').go k
/-! calls by contract -/
theorem g_init {own : String} {index : Nat} {yy : MethodName} {bytes : ByteArray} {maxL : Nat} {rm : Room} {a : Addr} {argsL as' : List Value} {Q' : Option Value → Heap → List Loc → Prop} {W : Nat} (X : Stand p l e R s m args below meth c T locs cells slots) (hx : p.tables.exec = Jvm.exec) (hZ : Z.Warmed39 s.vm) (hown : s.vm.findClass own = some m.cls) (hy1 : yy.name = "<init>") (w1 : (Jvm.Cond.methodLink own index yy).before a0 Z = true) (w2 : (Jvm.Cond.instanceMethod yy).before a0 Z = true) (w3 : (Jvm.Cond.code yy bytes maxL none).before a0 Z = true) (w4 : (Jvm.Cond.initialized yy.cls).before a0 Z = true)
    (hy : yy.cls ≠ "java/lang/invoke/MethodHandle" ∧ yy.cls ≠ "java/lang/invoke/VarHandle") (ct : WCt l Z yy bytes maxL none rm (.ref a :: argsL).toArray h Q') (eT : T.heap = h) (hf : rm.frames + 1 ≤ R.frames) (hl : W + (maxL + 11) + rm.locals ≤ R.locals) (hc : cells + rm.cells ≤ R.cells) (hs : slots + rm.slots ≤ R.slots) (hlen : ∀ sig, parseMethodDescriptor yy.desc = some sig → argsL.length = sig.parameters.length) (hsize : Ls.size = c.maxLocals) (has : as' = argsL.reverse ++ .ref a :: st) (hW : 2 * 0 + (st.map fun v => v.category).sum ≤ W) (hd : decode c.code pc = .ok (.invokespecial index, 3)) (hp : pc + 3 = pc')
    (r : ∀ T' h' v L, Stand p l e R s m args below meth c T' (locs ++ L) (cells + rm.cells) (slots + rm.slots) → T'.heap = h' → Q' v h' L → WGo p e below s kc ks Q T' (mkF m pc' Ls (v.toList ++ st))) : WGo p e below s kc ks Q T (mkF m pc Ls as') := by
  subst hp has
  obtain ⟨v, _, ⟨T', L, k1, k2⟩, -, X', ⟨Lc, hQ, l1, y1, z1⟩, k⟩ := X.specialBack hx (y := yy) hy1 hown (mvT hZ w1) (mvT hZ w2) (mvT hZ w3) hy (backOf (W := W) (ct []) hZ w3 w4 hf hl) (g := mkF m pc Ls (argsL.reverse ++ .ref a :: st)) rfl hsize (Steps.refl _) (a := a) (argsL := argsL) (rest := st) hlen rfl hW hd (fun _ _ => ⟨rfl, eT, hc, hs⟩)
  dsimp only [Pt.U, Pt.locs, Pt.cells, Pt.slots] at X' l1 y1 z1 k hQ
  subst l1 y1 z1
  exact (r T' _ v Lc X' rfl hQ).go fun t q => k.trans q
theorem g_virt {own C : String} {index : Nat} {yy zz : MethodName} {bytes : ByteArray} {maxL : Nat} {ret : Option FieldType} {rm : Room} {a : Addr} {argsL as' : List Value} {Q' : Option Value → Heap → List Loc → Prop} {W : Nat} (X : Stand p l e R s m args below meth c T locs cells slots) (hx : p.tables.exec = Jvm.exec) (hZ : Z.Warmed39 s.vm) (hown : s.vm.findClass own = some m.cls) (w1 : (Jvm.Cond.methodLink own index yy).before a0 Z = true) (w2 : (Jvm.Cond.declares yy).before a0 Z = true) (nf : NotFace s yy) (w3 : (Jvm.Cond.selects C yy zz).before a0 Z = true) (w4 : (Jvm.Cond.instanceMethod zz).before a0 Z = true) (w5 : (Jvm.Cond.code zz bytes maxL ret).before a0 Z = true) (w6 : (Jvm.Cond.initialized zz.cls).before a0 Z = true)
    (hy : yy.cls ≠ "java/lang/invoke/MethodHandle" ∧ yy.cls ≠ "java/lang/invoke/VarHandle") (E : Exa Z h a C) (ct : WCt l Z zz bytes maxL ret rm (.ref a :: argsL).toArray h Q') (eT : T.heap = h) (hf : rm.frames + 1 ≤ R.frames) (hl : W + (maxL + 11) + rm.locals ≤ R.locals) (hc : cells + rm.cells ≤ R.cells) (hs : slots + rm.slots ≤ R.slots) (hlen : ∀ sig, parseMethodDescriptor yy.desc = some sig → argsL.length = sig.parameters.length) (hsize : Ls.size = c.maxLocals) (has : as' = argsL.reverse ++ .ref a :: st) (hW : 2 * 0 + (st.map fun v => v.category).sum ≤ W) (hd : decode c.code pc = .ok (.invokevirtual index, 3)) (hp : pc + 3 = pc')
    (r : ∀ T' h' v L, Stand p l e R s m args below meth c T' (locs ++ L) (cells + rm.cells) (slots + rm.slots) → T'.heap = h' → Q' v h' L → WGo p e below s kc ks Q T' (mkF m pc' Ls (v.toList ++ st))) : WGo p e below s kc ks Q T (mkF m pc Ls as') := by
  subst hp has
  obtain ⟨cq, kq, qa, -, qc⟩ := isOf hZ eT E
  obtain ⟨v, _, ⟨T', L, k1, k2⟩, -, X', ⟨Lc, hQ, l1, y1, z1⟩, k⟩ := X.virtualBack hx (y := yy) (z := zz) hown (mvT hZ w1) (mvT hZ w2) nf (mvT hZ w3) (mvT hZ w4) hy (backOf (W := W) (ct []) hZ w5 w6 hf hl) qa qc (g := mkF m pc Ls (argsL.reverse ++ .ref a :: st)) rfl hsize (Steps.refl _) (argsL := argsL) (rest := st) hlen rfl hW hd (fun _ _ => ⟨rfl, eT, hc, hs⟩)
  dsimp only [Pt.U, Pt.locs, Pt.cells, Pt.slots] at X' l1 y1 z1 k hQ
  subst l1 y1 z1
  exact (r T' _ v Lc X' rfl hQ).go fun t q => k.trans q
theorem g_stat {own : String} {index : Nat} {yy : MethodName} {bytes : ByteArray} {maxL : Nat} {ret : Option FieldType} {rm : Room} {argsL as' : List Value} {Q' : Option Value → Heap → List Loc → Prop} {W : Nat} (X : Stand p l e R s m args below meth c T locs cells slots) (hx : p.tables.exec = Jvm.exec) (hZ : Z.Warmed39 s.vm) (hown : s.vm.findClass own = some m.cls) (w1 : (Jvm.Cond.methodLink own index yy).before a0 Z = true) (w2 : (Jvm.Cond.static yy).before a0 Z = true) (w3 : (Jvm.Cond.initialized yy.cls).before a0 Z = true) (w4 : (Jvm.Cond.code yy bytes maxL ret).before a0 Z = true)
    (hy : yy.cls ≠ "java/lang/invoke/MethodHandle" ∧ yy.cls ≠ "java/lang/invoke/VarHandle") (ct : WCt l Z yy bytes maxL ret rm argsL.toArray h Q') (eT : T.heap = h) (hf : rm.frames + 1 ≤ R.frames) (hl : W + (maxL + 11) + rm.locals ≤ R.locals) (hc : cells + rm.cells ≤ R.cells) (hs : slots + rm.slots ≤ R.slots) (hlen : ∀ sig, parseMethodDescriptor yy.desc = some sig → argsL.length = sig.parameters.length) (hsize : Ls.size = c.maxLocals) (has : as' = argsL.reverse ++ st) (hW : 2 * 0 + (st.map fun v => v.category).sum ≤ W) (hd : decode c.code pc = .ok (.invokestatic index, 3)) (hp : pc + 3 = pc')
    (r : ∀ T' h' v L, Stand p l e R s m args below meth c T' (locs ++ L) (cells + rm.cells) (slots + rm.slots) → T'.heap = h' → Q' v h' L → WGo p e below s kc ks Q T' (mkF m pc' Ls (v.toList ++ st))) : WGo p e below s kc ks Q T (mkF m pc Ls as') := by
  subst hp has
  obtain ⟨v, _, ⟨T', L, k1, k2⟩, -, X', ⟨Lc, hQ, l1, y1, z1⟩, k⟩ := Jvm.LawKit.callS X hx (y := yy) hown (mvT hZ w1) (mvT hZ w2) (mvT hZ w3) (mvT hZ w4) hy (backOf (W := W) (ct []) hZ w4 w3 hf hl) (g := mkF m pc Ls (argsL.reverse ++ st)) rfl hsize (argsL := argsL) (rest := st) hlen rfl hW hd (fun _ _ => ⟨rfl, eT, hc, hs⟩)
  dsimp only [Pt.U, Pt.locs, Pt.cells, Pt.slots] at X' l1 y1 z1 k hQ
  subst l1 y1 z1
  exact (r T' _ v Lc X' rfl hQ).go fun t q => k t q
theorem own_selp {yy : MethodName} {n : Nat} (hins : (Jvm.Cond.instantiable yy.cls n).before args s = true) (hpriv : (Jvm.Cond.privateMethod yy).before args s = true) (hinst : (Jvm.Cond.instanceMethod yy).before args s = true) (hy : yy.cls ≠ "java/lang/invoke/MethodHandle" ∧ yy.cls ≠ "java/lang/invoke/VarHandle") :
    (Jvm.Cond.selects yy.cls yy yy).before args s = true := by
  obtain ⟨c, k, hc, hk, -, hniab, -, -⟩ := Cond.instantiable_spec hins
  have hni : k.isInterface = false := (Bool.or_eq_false_iff.mp hniab).1
  obtain ⟨mk, methM, hnamed, hmethM, -, -⟩ := Cond.instanceMethod_spec hinst
  have hfound : s.methodFound? yy.cls yy.name yy.desc = some mk := State.methodFound?_of_named hnamed hy
  have hcls : mk.cls = c := Option.some.inj ((findClass_of_methodNamed hnamed).symm.trans hc)
  have hsel : selectMethod {} s.vm c mk = .method mk := selectMethod_private hmethM (Cond.privateMethod_at hpriv mk methM hnamed hmethM)
  simp only [Cond.before, Cond.holds, Cond.value, hc, hfound, hnamed, hsel, hcls, hk]
  simp; exact hni
theorem g_priv {own C : String} {index kk : Nat} {yy : MethodName} {bytes : ByteArray} {maxL : Nat} {ret : Option FieldType} {rm : Room} {a : Addr} {argsL as' : List Value} {Q' : Option Value → Heap → List Loc → Prop} {W : Nat} (X : Stand p l e R s m args below meth c T locs cells slots) (hx : p.tables.exec = Jvm.exec) (hZ : Z.Warmed39 s.vm) (hown : s.vm.findClass own = some m.cls) (w1 : (Jvm.Cond.methodLink own index yy).before a0 Z = true) (w2 : (Jvm.Cond.instanceMethod yy).before a0 Z = true) (w3 : (Jvm.Cond.privateMethod yy).before a0 Z = true) (w4 : (Jvm.Cond.code yy bytes maxL ret).before a0 Z = true) (w5 : (Jvm.Cond.initialized yy.cls).before a0 Z = true) (w6 : (Jvm.Cond.instantiable yy.cls kk).before a0 Z = true)
    (hy : yy.cls ≠ "java/lang/invoke/MethodHandle" ∧ yy.cls ≠ "java/lang/invoke/VarHandle") (E : Exa Z h a C) (ct : WCt l Z yy bytes maxL ret rm (.ref a :: argsL).toArray h Q') (eT : T.heap = h) (hf : rm.frames + 1 ≤ R.frames) (hl : W + (maxL + 11) + rm.locals ≤ R.locals) (hc : cells + rm.cells ≤ R.cells) (hs : slots + rm.slots ≤ R.slots) (hlen : ∀ sig, parseMethodDescriptor yy.desc = some sig → argsL.length = sig.parameters.length) (hsize : Ls.size = c.maxLocals) (has : as' = argsL.reverse ++ .ref a :: st) (hW : 2 * 0 + (st.map fun v => v.category).sum ≤ W) (hd : decode c.code pc = .ok (.invokevirtual index, 3)) (hp : pc + 3 = pc')
    (r : ∀ T' h' v L, Stand p l e R s m args below meth c T' (locs ++ L) (cells + rm.cells) (slots + rm.slots) → T'.heap = h' → Q' v h' L → WGo p e below s kc ks Q T' (mkF m pc' Ls (v.toList ++ st))) : WGo p e below s kc ks Q T (mkF m pc Ls as') := by
  subst hp has
  obtain ⟨cq, qa, qb⟩ := E.cell
  obtain ⟨v, _, ⟨T', L, k1, k2⟩, -, X', ⟨Lc, hQ, l1, y1, z1⟩, k⟩ := X.privateBack hx (y := yy) hown (mvT hZ w1) (mvT hZ w2) (own_selp (mvT hZ w6) (mvP hZ w3) (mvT hZ w2) hy) (Cond.privateMethod_at (mvP hZ w3 (args := #[]))) (mvT hZ w4) hy (backOf (W := W) (ct []) hZ w4 w5 hf hl) (g := mkF m pc Ls (argsL.reverse ++ .ref a :: st)) rfl hsize (Steps.refl _) (a := a) (by rw [eT]; exact qa) qb (argsL := argsL) (rest := st) hlen rfl hW hd (fun _ _ => ⟨rfl, eT, hc, hs⟩)
  dsimp only [Pt.U, Pt.locs, Pt.cells, Pt.slots] at X' l1 y1 z1 k hQ
  subst l1 y1 z1
  exact (r T' _ v Lc X' rfl hQ).go fun t q => k.trans q
/-! arrays: the place i holds f i -/
def Ai (Z : State) (h : Heap) (a : Addr) (ty : FieldType) (n : Nat) (f : Nat → Value) : Prop := ∃ cl : Cell, Arr Z h a cl ty ∧ cl.slots.size = n ∧ n < 2 ^ 31 ∧ ∀ i, i < n → cl.slots[i]? = some (f i)
def upd (f : Nat → Value) (i : Nat) (v : Value) : Nat → Value := fun j => if j = i then v else f j
theorem upd_at (f : Nat → Value) (i : Nat) (v : Value) : upd f i v i = v := by simp [upd]
theorem upd_ne (f : Nat → Value) {i j : Nat} (v : Value) (q : j ≠ i) : upd f i v j = f j := by simp [upd, q]
theorem Ai.lt {a : Addr} {ty : FieldType} {n : Nat} {f : Nat → Value} (A : Ai Z h a ty n f) : a < h.size := by obtain ⟨_, A, -⟩ := A; exact A.lt
theorem Ai.ext {h' : Heap} {a : Addr} {ty : FieldType} {n : Nat} {f : Nat → Value} (A : Ai Z h a ty n f) (E : Ext h h') : Ai Z h' a ty n f := by obtain ⟨cl, A, r⟩ := A; exact ⟨cl, A.ext E, r⟩
theorem Ai.other {h' : Heap} {a b : Addr} {ty : FieldType} {n sl : Nat} {v : Value} {f : Nat → Value} (A : Ai Z h b ty n f) (W : Wr h h' a sl v) (q : b ≠ a) : Ai Z h' b ty n f := by obtain ⟨cl, A, r⟩ := A; exact ⟨cl, A.other W q, r⟩
theorem Ai.keep {h' : Heap} {a : Addr} {ty : FieldType} {n : Nat} {f : Nat → Value} {ws : List Addr} (A : Ai Z h a ty n f) (K : Keep h h' ws) (q : a ∉ ws) : Ai Z h' a ty n f := by obtain ⟨cl, A, r⟩ := A; exact ⟨cl, ⟨K.2.1 a cl A.1 q, A.2⟩, r⟩
theorem Ai.set {h' : Heap} {a : Addr} {ty : FieldType} {n : Nat} {f : Nat → Value} {i : Nat} {v : Value} (A : Ai Z h a ty n f) (W : Wr h h' a i v) : Ai Z h' a ty n (upd f i v) := by
  obtain ⟨cl, A, S, B, H⟩ := A
  refine ⟨_, A.same W, by rw [sz_set]; exact S, B, fun j hj => ?_⟩
  by_cases q : j = i
  · subst q
    rw [upd_at]
    simp [Cell.setSlot, S, hj]
  · rw [upd_ne f v q]
    show (cl.slots.setIfInBounds i v)[j]? = _
    rw [Array.getElem?_setIfInBounds_ne (Ne.symm q)]
    exact H j hj
theorem Ai.fn {a : Addr} {ty : FieldType} {n : Nat} {f f' : Nat → Value} (A : Ai Z h a ty n f) (q : ∀ i, i < n → f i = f' i) : Ai Z h a ty n f' := by
  obtain ⟨cl, A, S, B, H⟩ := A
  exact ⟨cl, A, S, B, fun j hj => by rw [← q j hj]; exact H j hj⟩
theorem Ai.inb {cl : Cell} {n : Nat} {j : Int32} (S : cl.slots.size = n) (h0 : ¬ j < 0) (hn : j.toNatClampNeg < n) : ¬ (j < 0 ∨ cl.slots.size ≤ j.toNatClampNeg) := fun q => q.elim h0 fun z => absurd hn (Nat.not_lt.mpr (S ▸ z))
theorem g_newP {aty : ArrayType} {n : Int32} {cap : Nat} (X : Stand p l e R s m args below meth c T locs cells slots) (hx : p.tables.exec = Jvm.exec) (hZ : Z.Warmed39 s.vm) (wd : (Jvm.Cond.arrayClass (newarray.typeOf aty)).before a0 Z = true) (eT : T.heap = h) (hd : decode c.code pc = .ok (.newarray aty, 2)) (hn : ¬ n < 0) (hcap : n.toNatClampNeg ≤ cap) (hb : cap * 8 ≤ 536870912) (hc : cells + 1 ≤ R.cells) (hl : slots + cap ≤ R.slots) (hp : pc + 2 = pc')
    (r : ∀ T' h' a, a = h.size → Stand p l e R s m args below meth c T' locs (cells + 1) (slots + cap) → T'.heap = h' → Ext h h' → Ai Z h' a (newarray.typeOf aty) n.toNatClampNeg (fun _ => defaultValue (newarray.typeOf aty)) → WGo p e below s kc ks Q T' (mkF m pc' Ls (.ref a :: st))) : WGo p e below s kc ks Q T (mkF m pc Ls (.int n :: st)) := by
  subst hp
  obtain ⟨T', h', cA, X', e', E, A, k⟩ := newP X hx hZ wd eT (g := mkF m pc Ls (.int n :: st)) rfl hd rfl hn hcap hb hc hl
  refine (r T' h' _ rfl X' e' E ⟨_, A, sz_new _ _ _, (back32 hn).2, fun i hi => ?_⟩).go k
  simp [newA, hi]
theorem g_len {a : Addr} {ty : FieldType} {n : Nat} {f : Nat → Value} (X : Stand p l e R s m args below meth c T locs cells slots) (hx : p.tables.exec = Jvm.exec) (hZ : Z.Warmed39 s.vm) (eT : T.heap = h) (A : Ai Z h a ty n f) (hd : decode c.code pc = .ok (.arraylength, 1)) (hn : Nat.toInt32 n = x) (hp : pc + 1 = pc') (r : WGo p e below s kc ks Q T (mkF m pc' Ls (.int x :: st))) : WGo p e below s kc ks Q T (mkF m pc Ls (.ref a :: st)) := by
  subst hp
  obtain ⟨cl, A, S, B, H⟩ := A
  rw [← hn, ← S] at r
  exact r.go fun t k => X.arraylength hx (by rw [eT]; exact A.1) (State.isArrayOf_alike hZ.alike A.2.1) (g := mkF m pc Ls (.ref a :: st)) rfl rfl hd t k
theorem g_iaload {a : Addr} {n : Nat} {f : Nat → Value} {j : Int32} {v : Value} (X : Stand p l e R s m args below meth c T locs cells slots) (hx : p.tables.exec = Jvm.exec) (hZ : Z.Warmed39 s.vm) (eT : T.heap = h) (A : Ai Z h a .int n f) (hd : decode c.code pc = .ok (.iaload, 1)) (h0 : ¬ j < 0) (hn : j.toNatClampNeg < n) (hv : f j.toNatClampNeg = v) (hp : pc + 1 = pc') (r : WGo p e below s kc ks Q T (mkF m pc' Ls (v :: st))) : WGo p e below s kc ks Q T (mkF m pc Ls (.int j :: .ref a :: st)) := by
  subst hp hv
  obtain ⟨cl, A, S, B, H⟩ := A
  exact r.go fun t k => X.iaload hx (by rw [eT]; exact A.1) (State.isArrayOf_alike hZ.alike A.2.1) A.2.2 (Ai.inb S h0 hn) (H _ hn) (g := mkF m pc Ls (.int j :: .ref a :: st)) rfl rfl hd t k
theorem g_laload {a : Addr} {n : Nat} {f : Nat → Value} {j : Int32} {v : Value} (X : Stand p l e R s m args below meth c T locs cells slots) (hx : p.tables.exec = Jvm.exec) (hZ : Z.Warmed39 s.vm) (eT : T.heap = h) (A : Ai Z h a .long n f) (hd : decode c.code pc = .ok (.laload, 1)) (h0 : ¬ j < 0) (hn : j.toNatClampNeg < n) (hv : f j.toNatClampNeg = v) (hp : pc + 1 = pc') (r : WGo p e below s kc ks Q T (mkF m pc' Ls (v :: st))) : WGo p e below s kc ks Q T (mkF m pc Ls (.int j :: .ref a :: st)) := by
  subst hp hv
  obtain ⟨cl, A, S, B, H⟩ := A
  exact r.go fun t k => X.laload hx (by rw [eT]; exact A.1) (State.isArrayOf_alike hZ.alike A.2.1) A.2.2 (Ai.inb S h0 hn) (H _ hn) (g := mkF m pc Ls (.int j :: .ref a :: st)) rfl rfl hd t k
theorem g_baloadB {a : Addr} {n : Nat} {f : Nat → Value} {j : Int32} {v : Value} (X : Stand p l e R s m args below meth c T locs cells slots) (hx : p.tables.exec = Jvm.exec) (hZ : Z.Warmed39 s.vm) (eT : T.heap = h) (A : Ai Z h a .byte n f) (hd : decode c.code pc = .ok (.baload, 1)) (h0 : ¬ j < 0) (hn : j.toNatClampNeg < n) (hv : f j.toNatClampNeg = v) (hp : pc + 1 = pc') (r : WGo p e below s kc ks Q T (mkF m pc' Ls (v :: st))) : WGo p e below s kc ks Q T (mkF m pc Ls (.int j :: .ref a :: st)) := by
  subst hp hv
  obtain ⟨cl, A, S, B, H⟩ := A
  exact r.go fun t k => X.baloadBytes hx (by rw [eT]; exact A.1) (State.isArrayOf_alike hZ.alike A.2.1) A.2.2 (Ai.inb S h0 hn) (H _ hn) (g := mkF m pc Ls (.int j :: .ref a :: st)) rfl rfl hd t k
theorem g_baloadZ {a : Addr} {n : Nat} {f : Nat → Value} {j : Int32} {v : Value} (X : Stand p l e R s m args below meth c T locs cells slots) (hx : p.tables.exec = Jvm.exec) (hZ : Z.Warmed39 s.vm) (eT : T.heap = h) (A : Ai Z h a .boolean n f) (hd : decode c.code pc = .ok (.baload, 1)) (h0 : ¬ j < 0) (hn : j.toNatClampNeg < n) (hv : f j.toNatClampNeg = v) (hp : pc + 1 = pc') (r : WGo p e below s kc ks Q T (mkF m pc' Ls (v :: st))) : WGo p e below s kc ks Q T (mkF m pc Ls (.int j :: .ref a :: st)) := by
  subst hp hv
  obtain ⟨cl, A, S, B, H⟩ := A
  exact r.go fun t k => X.baloadBooleans hx (by rw [eT]; exact A.1) (State.isArrayOf_alike hZ.alike A.2.1) A.2.2 (Ai.inb S h0 hn) (H _ hn) (g := mkF m pc Ls (.int j :: .ref a :: st)) rfl rfl hd t k
theorem g_aaload {a : Addr} {ty : FieldType} {n : Nat} {f : Nat → Value} {j : Int32} {v : Value} (X : Stand p l e R s m args below meth c T locs cells slots) (hx : p.tables.exec = Jvm.exec) (hZ : Z.Warmed39 s.vm) (eT : T.heap = h) (hty : ty.isReference = true) (A : Ai Z h a ty n f) (hd : decode c.code pc = .ok (.aaload, 1)) (h0 : ¬ j < 0) (hn : j.toNatClampNeg < n) (hv : f j.toNatClampNeg = v) (hp : pc + 1 = pc') (r : WGo p e below s kc ks Q T (mkF m pc' Ls (v :: st))) : WGo p e below s kc ks Q T (mkF m pc Ls (.int j :: .ref a :: st)) := by
  subst hp hv
  obtain ⟨cl, A, S, B, H⟩ := A
  exact r.go fun t k => X.aaload hx (by rw [eT]; exact A.1) (State.isArrayOf_alike hZ.alike A.2.1) hty A.2.2 (Ai.inb S h0 hn) (H _ hn) (g := mkF m pc Ls (.int j :: .ref a :: st)) rfl rfl hd t k
theorem g_iastore {a : Addr} {n : Nat} {f : Nat → Value} {j : Int32} (X : Stand p l e R s m args below meth c T locs cells slots) (hx : p.tables.exec = Jvm.exec) (hZ : Z.Warmed39 s.vm) (eT : T.heap = h) (A : Ai Z h a .int n f) (hd : decode c.code pc = .ok (.iastore, 1)) (h0 : ¬ j < 0) (hn : j.toNatClampNeg < n) (hp : pc + 1 = pc')
    (r : ∀ T' h', Stand p l e R s m args below meth c T' (locs ++ [⟨a, j.toNatClampNeg⟩]) cells slots → T'.heap = h' → Wr h h' a j.toNatClampNeg (.int x) → Ai Z h' a .int n (upd f j.toNatClampNeg (.int x)) → WGo p e below s kc ks Q T' (mkF m pc' Ls st)) : WGo p e below s kc ks Q T (mkF m pc Ls (.int x :: .int j :: .ref a :: st)) := by
  subst hp
  have A0 := A
  obtain ⟨cl, A, S, B, H⟩ := A
  obtain ⟨T', h', X', e', W, k⟩ := stI X hx hZ eT A (Ai.inb S h0 hn) (g := mkF m pc Ls (.int x :: .int j :: .ref a :: st)) rfl rfl hd
  exact (r T' h' X' e' W (A0.set W)).go k
theorem g_lastore {a : Addr} {n : Nat} {f : Nat → Value} {j : Int32} (X : Stand p l e R s m args below meth c T locs cells slots) (hx : p.tables.exec = Jvm.exec) (hZ : Z.Warmed39 s.vm) (eT : T.heap = h) (A : Ai Z h a .long n f) (hd : decode c.code pc = .ok (.lastore, 1)) (h0 : ¬ j < 0) (hn : j.toNatClampNeg < n) (hp : pc + 1 = pc')
    (r : ∀ T' h', Stand p l e R s m args below meth c T' (locs ++ [⟨a, j.toNatClampNeg⟩]) cells slots → T'.heap = h' → Wr h h' a j.toNatClampNeg (.long u) → Ai Z h' a .long n (upd f j.toNatClampNeg (.long u)) → WGo p e below s kc ks Q T' (mkF m pc' Ls st)) : WGo p e below s kc ks Q T (mkF m pc Ls (.long u :: .int j :: .ref a :: st)) := by
  subst hp
  have A0 := A
  obtain ⟨cl, A, S, B, H⟩ := A
  obtain ⟨T', h', X', e', W, k⟩ := stJ X hx hZ eT A (Ai.inb S h0 hn) (g := mkF m pc Ls (.long u :: .int j :: .ref a :: st)) rfl rfl hd
  exact (r T' h' X' e' W (A0.set W)).go k
theorem g_bastoreB {a : Addr} {n : Nat} {f : Nat → Value} {j : Int32} (X : Stand p l e R s m args below meth c T locs cells slots) (hx : p.tables.exec = Jvm.exec) (hZ : Z.Warmed39 s.vm) (eT : T.heap = h) (A : Ai Z h a .byte n f) (hd : decode c.code pc = .ok (.bastore, 1)) (h0 : ¬ j < 0) (hn : j.toNatClampNeg < n) (hp : pc + 1 = pc')
    (r : ∀ T' h', Stand p l e R s m args below meth c T' (locs ++ [⟨a, j.toNatClampNeg⟩]) cells slots → T'.heap = h' → Wr h h' a j.toNatClampNeg (.int (nar .byte x)) → Ai Z h' a .byte n (upd f j.toNatClampNeg (.int (nar .byte x))) → WGo p e below s kc ks Q T' (mkF m pc' Ls st)) : WGo p e below s kc ks Q T (mkF m pc Ls (.int x :: .int j :: .ref a :: st)) := by
  subst hp
  have A0 := A
  obtain ⟨cl, A, S, B, H⟩ := A
  obtain ⟨T', h', X', e', W, k⟩ := stB X hx hZ eT A (Ai.inb S h0 hn) (g := mkF m pc Ls (.int x :: .int j :: .ref a :: st)) rfl rfl hd
  exact (r T' h' X' e' W (A0.set W)).go k
theorem g_bastoreZ {a : Addr} {n : Nat} {f : Nat → Value} {j : Int32} (X : Stand p l e R s m args below meth c T locs cells slots) (hx : p.tables.exec = Jvm.exec) (hZ : Z.Warmed39 s.vm) (eT : T.heap = h) (A : Ai Z h a .boolean n f) (hd : decode c.code pc = .ok (.bastore, 1)) (h0 : ¬ j < 0) (hn : j.toNatClampNeg < n) (hp : pc + 1 = pc')
    (r : ∀ T' h', Stand p l e R s m args below meth c T' (locs ++ [⟨a, j.toNatClampNeg⟩]) cells slots → T'.heap = h' → Wr h h' a j.toNatClampNeg (.int (nar .boolean x)) → Ai Z h' a .boolean n (upd f j.toNatClampNeg (.int (nar .boolean x))) → WGo p e below s kc ks Q T' (mkF m pc' Ls st)) : WGo p e below s kc ks Q T (mkF m pc Ls (.int x :: .int j :: .ref a :: st)) := by
  subst hp
  have A0 := A
  obtain ⟨cl, A, S, B, H⟩ := A
  obtain ⟨T', h', X', e', W, k⟩ := stZ X hx hZ eT A (Ai.inb S h0 hn) (g := mkF m pc Ls (.int x :: .int j :: .ref a :: st)) rfl rfl hd
  exact (r T' h' X' e' W (A0.set W)).go k
theorem g_aastore {a : Addr} {ty : FieldType} {v : Value} {n : Nat} {f : Nat → Value} {j : Int32} (X : Stand p l e R s m args below meth c T locs cells slots) (hx : p.tables.exec = Jvm.exec) (hZ : Z.Warmed39 s.vm) (eT : T.heap = h) (hty : ty.isReference = true) (F : Sto Z h a v) (A : Ai Z h a ty n f) (hd : decode c.code pc = .ok (.aastore, 1)) (h0 : ¬ j < 0) (hn : j.toNatClampNeg < n) (hp : pc + 1 = pc')
    (r : ∀ T' h', Stand p l e R s m args below meth c T' (locs ++ [⟨a, j.toNatClampNeg⟩]) cells slots → T'.heap = h' → Wr h h' a j.toNatClampNeg (v) → Ai Z h' a ty n (upd f j.toNatClampNeg (v)) → WGo p e below s kc ks Q T' (mkF m pc' Ls st)) : WGo p e below s kc ks Q T (mkF m pc Ls (v :: .int j :: .ref a :: st)) := by
  subst hp
  have A0 := A
  obtain ⟨cl, A, S, B, H⟩ := A
  obtain ⟨T', h', X', e', W, k⟩ := stR X hx hZ eT A (Ai.inb S h0 hn) hty F (g := mkF m pc Ls (v :: .int j :: .ref a :: st)) rfl rfl hd
  exact (r T' h' X' e' W (A0.set W)).go k
/-! arrays of ints, bytes, booleans by the list of what they hold; arrays of longs too -/
def Al (Z : State) (h : Heap) (a : Addr) (ty : FieldType) (n : Nat) (L : List Int32) : Prop := L.length = n ∧ Ai Z h a ty n (fun i => .int (L.getD i 0))
def Aj (Z : State) (h : Heap) (a : Addr) (ty : FieldType) (n : Nat) (L : List Int64) : Prop := L.length = n ∧ Ai Z h a ty n (fun i => .long (L.getD i 0))
section Lists
variable {h' : Heap} {a b : Addr} {ty : FieldType} {n sl k : Nat} {v : Value} {L : List Int32} {M : List Int64} {ws : List Addr}
theorem Al.lt (A : Al Z h a ty n L) : a < h.size := A.2.lt
theorem Aj.lt (A : Aj Z h a ty n M) : a < h.size := A.2.lt
theorem Al.ext (A : Al Z h a ty n L) (E : Ext h h') : Al Z h' a ty n L := ⟨A.1, A.2.ext E⟩
theorem Aj.ext (A : Aj Z h a ty n M) (E : Ext h h') : Aj Z h' a ty n M := ⟨A.1, A.2.ext E⟩
theorem Al.other (A : Al Z h b ty n L) (W : Wr h h' a sl v) (q : b ≠ a) : Al Z h' b ty n L := ⟨A.1, A.2.other W q⟩
theorem Aj.other (A : Aj Z h b ty n M) (W : Wr h h' a sl v) (q : b ≠ a) : Aj Z h' b ty n M := ⟨A.1, A.2.other W q⟩
theorem Al.keep (A : Al Z h a ty n L) (K : Keep h h' ws) (q : a ∉ ws) : Al Z h' a ty n L := ⟨A.1, A.2.keep K q⟩
theorem Aj.keep (A : Aj Z h a ty n M) (K : Keep h h' ws) (q : a ∉ ws) : Aj Z h' a ty n M := ⟨A.1, A.2.keep K q⟩
theorem Al.new (A : Ai Z h a ty n (fun _ => .int 0)) : Al Z h a ty n (List.replicate n 0) := ⟨by simp, A.fn fun i hi => by simp [List.getD, hi]⟩
theorem Aj.new (A : Ai Z h a ty n (fun _ => .long 0)) : Aj Z h a ty n (List.replicate n 0) := ⟨by simp, A.fn fun i hi => by simp [List.getD, hi]⟩
theorem Al.set (A : Al Z h a ty n L) (B : Ai Z h' a ty n (upd (fun i => .int (L.getD i 0)) k (.int x))) : Al Z h' a ty n (L.set k x) := ⟨by simp [A.1], B.fn fun i hi => by
  by_cases q : i = k
  · subst q; rw [upd_at]; simp [List.getD, A.1, hi]
  · rw [upd_ne _ _ q]; simp [List.getD, List.getElem?_set_ne (Ne.symm q)]⟩
theorem Aj.set (A : Aj Z h a ty n M) (B : Ai Z h' a ty n (upd (fun i => .long (M.getD i 0)) k (.long u))) : Aj Z h' a ty n (M.set k u) := ⟨by simp [A.1], B.fn fun i hi => by
  by_cases q : i = k
  · subst q; rw [upd_at]; simp [List.getD, A.1, hi]
  · rw [upd_ne _ _ q]; simp [List.getD, List.getElem?_set_ne (Ne.symm q)]⟩
end Lists
/-! instanceof, checkcast -/
theorem g_instY {own K : String} {index : Nat} {a : Addr} (X : Stand p l e R s m args below meth c T locs cells slots) (hx : p.tables.exec = Jvm.exec) (hZ : Z.Warmed39 s.vm) (hown : s.vm.findClass own = some m.cls) (wd : (Jvm.Cond.classLink own index K).before a0 Z = true) (eT : T.heap = h) (F : Ins Z h a K true) (hd : decode c.code pc = .ok (.instanceof index, 3)) (hp : pc + 3 = pc')
    (r : ∀ T', Stand p l e R s m args below meth c T' locs cells slots → T'.heap = h → WGo p e below s kc ks Q T' (mkF m pc' Ls (.int 1 :: st))) : WGo p e below s kc ks Q T (mkF m pc Ls (.ref a :: st)) := by
  subst hp
  obtain ⟨T', X', e', k⟩ := instY X hx hZ hown wd eT F (g := mkF m pc Ls (.ref a :: st)) rfl rfl hd
  exact (r T' X' e').go k
theorem g_instN {own K C : String} {index : Nat} {a : Addr} (X : Stand p l e R s m args below meth c T locs cells slots) (hx : p.tables.exec = Jvm.exec) (hZ : Z.Warmed39 s.vm) (hown : s.vm.findClass own = some m.cls) (wd : (Jvm.Cond.classLink own index K).before a0 Z = true) (eT : T.heap = h) (E : Exa Z h a C) (F : ∃ c t, Z.vm.findClass C = some c ∧ Z.vm.findClass K = some t ∧ Z.vm.assignable c t = false) (hd : decode c.code pc = .ok (.instanceof index, 3)) (hp : pc + 3 = pc')
    (r : ∀ T', Stand p l e R s m args below meth c T' locs cells slots → T'.heap = h → WGo p e below s kc ks Q T' (mkF m pc' Ls (.int 0 :: st))) : WGo p e below s kc ks Q T (mkF m pc Ls (.ref a :: st)) := by
  subst hp
  obtain ⟨T', X', e', k⟩ := instNo X hx hZ hown wd eT E F (g := mkF m pc Ls (.ref a :: st)) rfl rfl hd
  exact (r T' X' e').go k
theorem g_inst0 {index : Nat} (X : Stand p l e R s m args below meth c T locs cells slots) (hx : p.tables.exec = Jvm.exec) (hd : decode c.code pc = .ok (.instanceof index, 3)) (hp : pc + 3 = pc') (r : WGo p e below s kc ks Q T (mkF m pc' Ls (.int 0 :: st))) : WGo p e below s kc ks Q T (mkF m pc Ls (.null :: st)) := by
  subst hp; exact r.go fun t k => X.instanceofNull hx (g := mkF m pc Ls (.null :: st)) rfl rfl hd t k
theorem g_castY {own K : String} {index : Nat} {a : Addr} (X : Stand p l e R s m args below meth c T locs cells slots) (hx : p.tables.exec = Jvm.exec) (hZ : Z.Warmed39 s.vm) (hown : s.vm.findClass own = some m.cls) (wd : (Jvm.Cond.classLink own index K).before a0 Z = true) (eT : T.heap = h) (F : Ins Z h a K true) (hd : decode c.code pc = .ok (.checkcast index, 3)) (hp : pc + 3 = pc')
    (r : ∀ T', Stand p l e R s m args below meth c T' locs cells slots → T'.heap = h → WGo p e below s kc ks Q T' (mkF m pc' Ls (.ref a :: st))) : WGo p e below s kc ks Q T (mkF m pc Ls (.ref a :: st)) := by
  subst hp
  obtain ⟨T', X', e', k⟩ := castY X hx hZ hown wd eT F (g := mkF m pc Ls (.ref a :: st)) rfl rfl hd
  exact (r T' X' e').go k
end OwnKit

theorem pd_0 : parseMethodDescriptor "()V" = some ⟨[], none⟩ := by decide +kernel
theorem pd_1 : parseMethodDescriptor "(I)V" = some ⟨[.int], none⟩ := by decide +kernel
theorem pd_2 : parseMethodDescriptor "(II)I" = some ⟨[.int, .int], some .int⟩ := by decide +kernel
theorem pd_3 : parseMethodDescriptor "(II)V" = some ⟨[.int, .int], none⟩ := by decide +kernel
theorem pd_4 : parseMethodDescriptor "(Ljava/lang/Object;)Z" = some ⟨[(.object "java/lang/Object")], some .boolean⟩ := by decide +kernel
theorem pd_5 : parseMethodDescriptor "(I)Ljava/lang/Integer;" = some ⟨[.int], some (.object "java/lang/Integer")⟩ := by decide +kernel

/-- a class C, its superclass D, D's superclass O, which has none: none of them is K, so a C is no K -/
theorem own_isnt {Z : State} {a0 : Array Value} {C D O K : String} {n : Nat} (w1 : (Jvm.Cond.superclass C D).before a0 Z = true) (w2 : (Jvm.Cond.superclass D O).before a0 Z = true) (w3 : (Jvm.Cond.noSuperclass O).before a0 Z = true) (wk : (Jvm.Cond.instantiable K n).before a0 Z = true) (n1 : C ≠ K) (n2 : D ≠ K) (n3 : O ≠ K) :
    ∃ c t, Z.vm.findClass C = some c ∧ Z.vm.findClass K = some t ∧ Z.vm.assignable c t = false := by
  obtain ⟨t, kt, ft, at', kindT, flagsT, -⟩ := Cond.instantiable_spec wk
  obtain ⟨c, fc⟩ := found_sup w1
  obtain ⟨d, kc, -, fd, ac, -, sc, kindC, -, -⟩ := Cond.superclass_spec fc w1
  obtain ⟨o, kd, -, fo, ad, -, sd, -⟩ := Cond.superclass_spec fd w2
  obtain ⟨o', ko, fo', ao, so, -⟩ := Cond.noSuperclass_spec w3
  obtain rfl : o = o' := Option.some.inj (fo.symm.trans fo')
  have faceT : kt.isInterface = false := (Bool.or_eq_false_iff.mp flagsT).1
  have ct := ids_ne fc ft n1
  have dt := ids_ne fd ft n2
  have ot := ids_ne fo ft n3
  have up0 : ∀ f, Z.vm.isSubclassAux f o t = false := fun f => by cases f <;> simp [Vm.isSubclassAux, ot, ao, so]
  have up1 : ∀ f, Z.vm.isSubclassAux f d t = false := fun f => by cases f <;> simp [Vm.isSubclassAux, dt, ad, sd, up0]
  have up2 : ∀ f, Z.vm.isSubclassAux f c t = false := fun f => by cases f <;> simp [Vm.isSubclassAux, ct, ac, sc, up1]
  exact ⟨c, t, fc, ft, by show Z.vm.assignableAux (255 + 1) c t = false; simp [Vm.assignableAux, Vm.isSubclass, ct, ac, at', kindC, kindT, faceT, up2]⟩


def minI (a b : Int32) : Int32 := if b < a then b else a
def maxI (a b : Int32) : Int32 := if a < b then b else a
theorem minI_int (a b : Int32) : (minI a b).toInt = if b.toInt < a.toInt then b.toInt else a.toInt := by
  unfold minI; by_cases q : b < a
  · rw [if_pos q, if_pos (Int32.lt_iff_toInt_lt.mp q)]
  · rw [if_neg q, if_neg (fun z => q (Int32.lt_iff_toInt_lt.mpr z))]
theorem maxI_int (a b : Int32) : (maxI a b).toInt = if a.toInt < b.toInt then b.toInt else a.toInt := by
  unfold maxI; by_cases q : a < b
  · rw [if_pos q, if_pos (Int32.lt_iff_toInt_lt.mp q)]
  · rw [if_neg q, if_neg (fun z => q (Int32.lt_iff_toInt_lt.mpr z))]
def Ok (s e : Int32) : Prop := 0 ≤ s.toInt ∧ s.toInt ≤ e.toInt ∧ e.toInt ≤ 65535
theorem m16 (y : Int32) : 0 ≤ (y &&& (65535 : Int32)).toInt ∧ (y &&& (65535 : Int32)).toInt ≤ 65535 := by
  have q := c_and y 65535 (by decide); simp only [Int32.reduceToInt] at q; exact q
theorem ok_mm {a b : Int32} (ha : 0 ≤ a.toInt ∧ a.toInt ≤ 65535) (hb : 0 ≤ b.toInt ∧ b.toInt ≤ 65535) : Ok (minI a b) (maxI a b) := by
  unfold Ok; rw [minI_int, maxI_int]; refine ⟨?_, ?_, ?_⟩ <;> (repeat' split) <;> omega
theorem ok_1 {s e b : Int32} (h : Ok s e) (hb : 0 ≤ b.toInt ∧ b.toInt ≤ 65535) : Ok s (maxI s b) := by
  obtain ⟨h1, h2, h3⟩ := h
  unfold Ok; rw [maxI_int]; refine ⟨?_, ?_, ?_⟩ <;> (repeat' split) <;> omega
theorem ok_2 {s e b : Int32} (h : Ok s e) (hb : 0 ≤ b.toInt ∧ b.toInt ≤ 65535) : Ok (minI e b) e := by
  obtain ⟨h1, h2, h3⟩ := h
  unfold Ok; rw [minI_int]; refine ⟨?_, ?_, ?_⟩ <;> (repeat' split) <;> omega
theorem ix_ok {y : Int32} (h0 : 0 ≤ y.toInt) (h1 : ¬ (127 : Int32) < y) : (¬ (y + (128 : Int32)) < 0) ∧ (y + (128 : Int32)).toNatClampNeg < 256 := by
  have e := c_iadd y 128
  have r := rng32 (y + 128)
  simp only [Int32.lt_iff_toInt_lt, Int32.reduceToInt] at *
  refine ⟨by omega, ?_⟩
  show Int.toNat _ < 256
  omega

theorem d1_0 : decode jdk_29_method_69_code 0 = .ok (.iload_n 0, 1) := by decide +kernel
theorem d1_1 : decode jdk_29_method_69_code 1 = .ok (.iload_n 1, 1) := by decide +kernel
theorem d1_2 : decode jdk_29_method_69_code 2 = .ok (.if_icmp .gt 7, 3) := by decide +kernel
theorem d1_5 : decode jdk_29_method_69_code 5 = .ok (.iload_n 0, 1) := by decide +kernel
theorem d1_6 : decode jdk_29_method_69_code 6 = .ok (.goto 4, 3) := by decide +kernel
theorem d1_9 : decode jdk_29_method_69_code 9 = .ok (.iload_n 1, 1) := by decide +kernel
theorem d1_10 : decode jdk_29_method_69_code 10 = .ok (.ireturn, 1) := by decide +kernel
theorem pl_1 : plainFor (⟨"java/lang/Math", "min", "(II)I"⟩ : MethodName) = true := Jvm.Free.JP.mathPlain rfl (by decide +kernel)
theorem ef_rmMin (m : MethodId) (z0 : Int32) (z1 : Int32) : entryFrame m #[(.int z0), (.int z1)] 2 = mkF m 0 #[.val (.int z0), .val (.int z1)] [] := by first | (simp [entryFrame, mkF, argsToLocals, Value.category]; done) | rfl
set_option maxRecDepth 65536 in
set_option maxHeartbeats 40000000 in
theorem rmMin (l : Launch) (Z : State) (a0 : Array Value) (hw : ∀ d ∈ tables_1, d.before a0 Z = true) (u : Int32) (w : Int32) (h0 : Heap) (n0 : Nat) (Zn : n0 ≤ h0.size)   :
    WCt l Z (⟨"java/lang/Math", "min", "(II)I"⟩ : MethodName) jdk_29_method_69_code 2 (some .int) ({ frames := 0, cells := 0, slots := 0, locals := 0 } : Room) #[(.int u), (.int w)] h0 (fun vv hh LL => (vv = some (.int (minI u w))) ∧ (Fr n0 LL) ∧ (hh = h0)) := by
  refine WCt.of pl_1 ?_
  intro p e s m below meth c T hx hby hml hown hnm hret hlk hZ hh0 X eT
  have hown : s.vm.findClass "java/lang/Math" = some m.cls := hown
  have hnm : meth.name = "min" := hnm
  have N := Fr.nil n0
  obtain ⟨h, eh⟩ : ∃ h, h = h0 := ⟨_, rfl⟩
  have K : Keep h0 h [] := by rw [eh]; exact Keep.refl _ _
  refine WGo.cast (ef_rmMin m u w) ?_
  rw [← eh] at eT Zn 
  refine g_iloadN X hx (hb hby d1_0) rfl (pc' := 1) rfl ?_
  refine g_iloadN X hx (hb hby d1_1) rfl (pc' := 2) rfl ?_
  refine g_icmp X hx (hb hby d1_2) (by decide) (pc' := 9) (by decide) (pc2 := 5) rfl (fun hc => ?_) (fun hc => ?_)
  · replace hc := h_gt1 hc
    have hc2 := hc
    refine g_iloadN X hx (hb hby d1_9) rfl (pc' := 10) rfl ?_
    refine g_retI X hx hret hlk (hb hby d1_10) (by decide) (by decide) ?_
    rw [eT]
    refine ⟨?_, N, eh⟩
    simp [minI, hc2]
  · replace hc := h_gt0 hc
    have hc2 := hc
    refine g_iloadN X hx (hb hby d1_5) rfl (pc' := 6) rfl ?_
    refine g_goto X hx (hb hby d1_6) (by decide) (pc' := 10) (by decide) ?_
    refine g_retI X hx hret hlk (hb hby d1_10) (by decide) (by decide) ?_
    rw [eT]
    refine ⟨?_, N, eh⟩
    simp [minI, hc2]
theorem d2_0 : decode jdk_29_method_65_code 0 = .ok (.iload_n 0, 1) := by decide +kernel
theorem d2_1 : decode jdk_29_method_65_code 1 = .ok (.iload_n 1, 1) := by decide +kernel
theorem d2_2 : decode jdk_29_method_65_code 2 = .ok (.if_icmp .lt 7, 3) := by decide +kernel
theorem d2_5 : decode jdk_29_method_65_code 5 = .ok (.iload_n 0, 1) := by decide +kernel
theorem d2_6 : decode jdk_29_method_65_code 6 = .ok (.goto 4, 3) := by decide +kernel
theorem d2_9 : decode jdk_29_method_65_code 9 = .ok (.iload_n 1, 1) := by decide +kernel
theorem d2_10 : decode jdk_29_method_65_code 10 = .ok (.ireturn, 1) := by decide +kernel
theorem pl_2 : plainFor (⟨"java/lang/Math", "max", "(II)I"⟩ : MethodName) = true := Jvm.Free.JP.mathPlain rfl (by decide +kernel)
theorem ef_rmMax (m : MethodId) (z0 : Int32) (z1 : Int32) : entryFrame m #[(.int z0), (.int z1)] 2 = mkF m 0 #[.val (.int z0), .val (.int z1)] [] := by first | (simp [entryFrame, mkF, argsToLocals, Value.category]; done) | rfl
set_option maxRecDepth 65536 in
set_option maxHeartbeats 40000000 in
theorem rmMax (l : Launch) (Z : State) (a0 : Array Value) (hw : ∀ d ∈ tables_1, d.before a0 Z = true) (u : Int32) (w : Int32) (h0 : Heap) (n0 : Nat) (Zn : n0 ≤ h0.size)   :
    WCt l Z (⟨"java/lang/Math", "max", "(II)I"⟩ : MethodName) jdk_29_method_65_code 2 (some .int) ({ frames := 0, cells := 0, slots := 0, locals := 0 } : Room) #[(.int u), (.int w)] h0 (fun vv hh LL => (vv = some (.int (maxI u w))) ∧ (Fr n0 LL) ∧ (hh = h0)) := by
  refine WCt.of pl_2 ?_
  intro p e s m below meth c T hx hby hml hown hnm hret hlk hZ hh0 X eT
  have hown : s.vm.findClass "java/lang/Math" = some m.cls := hown
  have hnm : meth.name = "max" := hnm
  have N := Fr.nil n0
  obtain ⟨h, eh⟩ : ∃ h, h = h0 := ⟨_, rfl⟩
  have K : Keep h0 h [] := by rw [eh]; exact Keep.refl _ _
  refine WGo.cast (ef_rmMax m u w) ?_
  rw [← eh] at eT Zn 
  refine g_iloadN X hx (hb hby d2_0) rfl (pc' := 1) rfl ?_
  refine g_iloadN X hx (hb hby d2_1) rfl (pc' := 2) rfl ?_
  refine g_icmp X hx (hb hby d2_2) (by decide) (pc' := 9) (by decide) (pc2 := 5) rfl (fun hc => ?_) (fun hc => ?_)
  · replace hc := h_lt1 hc
    have hc2 := hc
    refine g_iloadN X hx (hb hby d2_9) rfl (pc' := 10) rfl ?_
    refine g_retI X hx hret hlk (hb hby d2_10) (by decide) (by decide) ?_
    rw [eT]
    refine ⟨?_, N, eh⟩
    simp [maxI, hc2]
  · replace hc := h_lt0 hc
    have hc2 := hc
    refine g_iloadN X hx (hb hby d2_5) rfl (pc' := 6) rfl ?_
    refine g_goto X hx (hb hby d2_6) (by decide) (pc' := 10) (by decide) ?_
    refine g_retI X hx hret hlk (hb hby d2_10) (by decide) (by decide) ?_
    rw [eT]
    refine ⟨?_, N, eh⟩
    simp [maxI, hc2]
theorem d3_0 : decode prog_24_method_1_code 0 = .ok (.aload_n 0, 1) := by decide +kernel
theorem d3_1 : decode prog_24_method_1_code 1 = .ok (.invokespecial 1, 3) := by decide +kernel
theorem d3_4 : decode prog_24_method_1_code 4 = .ok (.iload_n 1, 1) := by decide +kernel
theorem d3_5 : decode prog_24_method_1_code 5 = .ok (.ifCond .lt 14, 3) := by decide +kernel
theorem d3_8 : decode prog_24_method_1_code 8 = .ok (.iload_n 1, 1) := by decide +kernel
theorem d3_9 : decode prog_24_method_1_code 9 = .ok (.iload_n 2, 1) := by decide +kernel
theorem d3_10 : decode prog_24_method_1_code 10 = .ok (.if_icmp .gt 9, 3) := by decide +kernel
theorem d3_13 : decode prog_24_method_1_code 13 = .ok (.iload_n 2, 1) := by decide +kernel
theorem d3_14 : decode prog_24_method_1_code 14 = .ok (.ldc 9, 2) := by decide +kernel
theorem d3_16 : decode prog_24_method_1_code 16 = .ok (.if_icmp .lt 18, 3) := by decide +kernel
theorem d3_19 : decode prog_24_method_1_code 19 = .ok (.new 10, 3) := by decide +kernel
theorem d3_22 : decode prog_24_method_1_code 22 = .ok (.dup, 1) := by decide +kernel
theorem d3_23 : decode prog_24_method_1_code 23 = .ok (.iload_n 1, 1) := by decide +kernel
theorem d3_24 : decode prog_24_method_1_code 24 = .ok (.iload_n 2, 1) := by decide +kernel
theorem d3_30 : decode prog_24_method_1_code 30 = .ok (.invokespecial 16, 3) := by decide +kernel
theorem d3_33 : decode prog_24_method_1_code 33 = .ok (.athrow, 1) := by decide +kernel
theorem d3_34 : decode prog_24_method_1_code 34 = .ok (.aload_n 0, 1) := by decide +kernel
theorem d3_35 : decode prog_24_method_1_code 35 = .ok (.iload_n 1, 1) := by decide +kernel
theorem d3_36 : decode prog_24_method_1_code 36 = .ok (.putfield 19, 3) := by decide +kernel
theorem d3_39 : decode prog_24_method_1_code 39 = .ok (.aload_n 0, 1) := by decide +kernel
theorem d3_40 : decode prog_24_method_1_code 40 = .ok (.iload_n 2, 1) := by decide +kernel
theorem d3_41 : decode prog_24_method_1_code 41 = .ok (.putfield 25, 3) := by decide +kernel
theorem d3_44 : decode prog_24_method_1_code 44 = .ok (.return_, 1) := by decide +kernel
theorem pl_3 : plainFor (⟨"com/example/varuna/varuna/layout/HashRange", "<init>", "(II)V"⟩ : MethodName) = true := plainFor_of_name (by first | (simp [plainName, overriddenIn]; done) | decide +kernel)
theorem ef_rmH (m : MethodId) (z0 : Addr) (z1 : Int32) (z2 : Int32) : entryFrame m #[(.ref z0), (.int z1), (.int z2)] 3 = mkF m 0 #[.val (.ref z0), .val (.int z1), .val (.int z2)] [] := by first | (simp [entryFrame, mkF, argsToLocals, Value.category]; done) | rfl
set_option maxRecDepth 65536 in
set_option maxHeartbeats 40000000 in
theorem rmH (l : Launch) (Z : State) (a0 : Array Value) (hw : ∀ d ∈ tables_1, d.before a0 Z = true) (q : Addr) (u : Int32) (w : Int32) (h0 : Heap) (n0 : Nat) (Zn : n0 ≤ h0.size) (E_q : Exa Z h0 q "com/example/varuna/varuna/layout/HashRange") (F_q_start : Fld Z h0 q "com/example/varuna/varuna/layout/HashRange" "start" "I" (.int (0 : Int32))) (F_q_end : Fld Z h0 q "com/example/varuna/varuna/layout/HashRange" "end" "I" (.int (0 : Int32))) (g_q : n0 ≤ q) (hok : Ok u w) :
    WCt l Z (⟨"com/example/varuna/varuna/layout/HashRange", "<init>", "(II)V"⟩ : MethodName) prog_24_method_1_code 3 none ({ frames := 1, cells := 0, slots := 0, locals := 12 } : Room) #[(.ref q), (.int u), (.int w)] h0 (fun vv hh LL => (vv = none) ∧ (Fr n0 LL) ∧ (Keep h0 hh [q]) ∧ (Fld Z hh q "com/example/varuna/varuna/layout/HashRange" "start" "I" (.int u)) ∧ (Fld Z hh q "com/example/varuna/varuna/layout/HashRange" "end" "I" (.int w))) := by
  refine WCt.of pl_3 ?_
  intro p e s m below meth c T hx hby hml hown hnm hret hlk hZ hh0 X eT
  have hown : s.vm.findClass "com/example/varuna/varuna/layout/HashRange" = some m.cls := hown
  have hnm : meth.name = "<init>" := hnm
  have N := Fr.nil n0
  obtain ⟨h, eh⟩ : ∃ h, h = h0 := ⟨_, rfl⟩
  have K : Keep h0 h [q] := by rw [eh]; exact Keep.refl _ _
  refine WGo.cast (ef_rmH m q u w) ?_
  rw [← eh] at eT Zn E_q F_q_start F_q_end
  obtain ⟨k1, k2, k3⟩ := hok
  refine g_aloadN X hx (hb hby d3_0) rfl rfl (pc' := 1) rfl ?_
  refine g_move (initO (W := 0) X hx hZ hown (hw _ (List.mem_of_getElem? (i := 14) rfl)) (hw _ (List.mem_of_getElem? (i := 15) rfl)) (hw _ (List.mem_of_getElem? (i := 16) rfl)) eT (g := (mkF m 1 #[.val (.ref q), .val (.int u), .val (.int w)] [(.ref q)])) rfl (by rw [hml]; rfl) rfl (hb hby d3_1) (by decide) (Nat.le_of_eq rfl) (by decide)) (fun T X eT => ?_)
  show WGo _ _ _ _ _ _ _ _ (mkF m 4 #[.val (.ref q), .val (.int u), .val (.int w)] [])
  refine g_iloadN X hx (hb hby d3_4) rfl (pc' := 5) rfl ?_
  refine g_if X hx (hb hby d3_5) (by decide) (pc' := 19) (by decide) (pc2 := 8) rfl (fun hc => ?_) (fun hc => ?_)
  · replace hc := h_lt1 hc
    have hc5 := hc
    exfalso
    rw [Int32.lt_iff_toInt_lt] at hc; simp only [Int32.reduceToInt] at hc; omega
  · replace hc := h_lt0 hc
    have hc5 := hc
    refine g_iloadN X hx (hb hby d3_8) rfl (pc' := 9) rfl ?_
    refine g_iloadN X hx (hb hby d3_9) rfl (pc' := 10) rfl ?_
    refine g_icmp X hx (hb hby d3_10) (by decide) (pc' := 19) (by decide) (pc2 := 13) rfl (fun hc => ?_) (fun hc => ?_)
    · replace hc := h_gt1 hc
      have hc10 := hc
      exfalso
      rw [Int32.lt_iff_toInt_lt] at hc; omega
    · replace hc := h_gt0 hc
      have hc10 := hc
      refine g_iloadN X hx (hb hby d3_13) rfl (pc' := 14) rfl ?_
      refine g_ldcI X hx hZ hown (hw _ (List.mem_of_getElem? (i := 17) rfl)) (hb hby d3_14) (pc' := 16) rfl ?_
      refine g_icmp X hx (hb hby d3_16) (by decide) (pc' := 34) (by decide) (pc2 := 19) rfl (fun hc => ?_) (fun hc => ?_)
      · replace hc := h_lt1 hc
        have hc16 := hc
        refine g_aloadN X hx (hb hby d3_34) rfl rfl (pc' := 35) rfl ?_
        refine g_iloadN X hx (hb hby d3_35) rfl (pc' := 36) rfl ?_
        refine g_putF X hx hZ hown (hw _ (List.mem_of_getElem? (i := 18) rfl)) eT F_q_start E_q (Or.inr ⟨(hw _ (List.mem_of_getElem? (i := 19) rfl)), rfl, hnm⟩) (hw _ (List.mem_of_getElem? (i := 9) rfl)) (ty := .int) (by decide) rfl rfl (hb hby d3_36) (pc' := 39) rfl (fun T h X eT W => ?_)
        replace F_q_start := F_q_start.same W
        replace F_q_end := F_q_end.other W (Or.inr (slot_ne (t := .int) (t' := .int) (Or.inr (hw _ (List.mem_of_getElem? (i := 21) rfl))) (Or.inr (hw _ (List.mem_of_getElem? (i := 19) rfl))) (by decide) (by decide) (by decide)))
        replace E_q := E_q.wr W
        replace N := Fr.snoc X N g_q
        replace Zn := Nat.le_trans Zn (Nat.le_of_eq W.size.symm)
        replace K := K.wr W (Or.inl (List.mem_of_getElem? (i := 0) rfl))
        refine g_aloadN X hx (hb hby d3_39) rfl rfl (pc' := 40) rfl ?_
        refine g_iloadN X hx (hb hby d3_40) rfl (pc' := 41) rfl ?_
        refine g_putF X hx hZ hown (hw _ (List.mem_of_getElem? (i := 20) rfl)) eT F_q_end E_q (Or.inr ⟨(hw _ (List.mem_of_getElem? (i := 21) rfl)), rfl, hnm⟩) (hw _ (List.mem_of_getElem? (i := 9) rfl)) (ty := .int) (by decide) rfl rfl (hb hby d3_41) (pc' := 44) rfl (fun T h X eT W => ?_)
        replace F_q_start := F_q_start.other W (Or.inr (slot_ne (t := .int) (t' := .int) (Or.inr (hw _ (List.mem_of_getElem? (i := 19) rfl))) (Or.inr (hw _ (List.mem_of_getElem? (i := 21) rfl))) (by decide) (by decide) (by decide)))
        replace F_q_end := F_q_end.same W
        replace E_q := E_q.wr W
        replace N := Fr.snoc X N g_q
        replace Zn := Nat.le_trans Zn (Nat.le_of_eq W.size.symm)
        replace K := K.wr W (Or.inl (List.mem_of_getElem? (i := 0) rfl))
        refine g_ret0 X hx hret hlk (hb hby d3_44) (by decide) (by decide) ?_
        rw [eT]
        exact ⟨rfl, N, K, F_q_start, F_q_end⟩
      · replace hc := h_lt0 hc
        have hc16 := hc
        exfalso
        rw [Int32.lt_iff_toInt_lt] at hc; simp only [Int32.reduceToInt] at hc; omega
theorem d8_0 : decode jdk_18_method_1_code 0 = .ok (.aload_n 0, 1) := by decide +kernel
theorem d8_1 : decode jdk_18_method_1_code 1 = .ok (.invokespecial 1, 3) := by decide +kernel
theorem d8_4 : decode jdk_18_method_1_code 4 = .ok (.return_, 1) := by decide +kernel
theorem pl_8 : plainFor (⟨"java/lang/Number", "<init>", "()V"⟩ : MethodName) = true := plainFor_of_name (by first | (simp [plainName, overriddenIn]; done) | decide +kernel)
theorem ef_rmN (m : MethodId) (z0 : Addr) : entryFrame m #[(.ref z0)] 1 = mkF m 0 #[.val (.ref z0)] [] := by first | (simp [entryFrame, mkF, argsToLocals, Value.category]; done) | rfl
set_option maxRecDepth 65536 in
set_option maxHeartbeats 40000000 in
theorem rmN (l : Launch) (Z : State) (a0 : Array Value) (hw : ∀ d ∈ tables_1, d.before a0 Z = true) (q : Addr) (h0 : Heap) (n0 : Nat) (Zn : n0 ≤ h0.size)   :
    WCt l Z (⟨"java/lang/Number", "<init>", "()V"⟩ : MethodName) jdk_18_method_1_code 1 none ({ frames := 1, cells := 0, slots := 0, locals := 12 } : Room) #[(.ref q)] h0 (fun vv hh LL => (vv = none) ∧ (Fr n0 LL) ∧ (hh = h0)) := by
  refine WCt.of pl_8 ?_
  intro p e s m below meth c T hx hby hml hown hnm hret hlk hZ hh0 X eT
  have hown : s.vm.findClass "java/lang/Number" = some m.cls := hown
  have hnm : meth.name = "<init>" := hnm
  have N := Fr.nil n0
  obtain ⟨h, eh⟩ : ∃ h, h = h0 := ⟨_, rfl⟩
  have K : Keep h0 h [] := by rw [eh]; exact Keep.refl _ _
  refine WGo.cast (ef_rmN m q) ?_
  rw [← eh] at eT Zn 
  refine g_aloadN X hx (hb hby d8_0) rfl rfl (pc' := 1) rfl ?_
  refine g_move (initO (W := 0) X hx hZ hown (hw _ (List.mem_of_getElem? (i := 47) rfl)) (hw _ (List.mem_of_getElem? (i := 15) rfl)) (hw _ (List.mem_of_getElem? (i := 16) rfl)) eT (g := (mkF m 1 #[.val (.ref q)] [(.ref q)])) rfl (by rw [hml]; rfl) rfl (hb hby d8_1) (by decide) (Nat.le_of_eq rfl) (by decide)) (fun T X eT => ?_)
  show WGo _ _ _ _ _ _ _ _ (mkF m 4 #[.val (.ref q)] [])
  refine g_ret0 X hx hret hlk (hb hby d8_4) (by decide) (by decide) ?_
  rw [eT]
  exact ⟨rfl, N, eh⟩
theorem d7_0 : decode jdk_33_method_23_code 0 = .ok (.aload_n 0, 1) := by decide +kernel
theorem d7_1 : decode jdk_33_method_23_code 1 = .ok (.invokespecial 202, 3) := by decide +kernel
theorem d7_4 : decode jdk_33_method_23_code 4 = .ok (.aload_n 0, 1) := by decide +kernel
theorem d7_5 : decode jdk_33_method_23_code 5 = .ok (.iload_n 1, 1) := by decide +kernel
theorem d7_6 : decode jdk_33_method_23_code 6 = .ok (.putfield 205, 3) := by decide +kernel
theorem d7_9 : decode jdk_33_method_23_code 9 = .ok (.return_, 1) := by decide +kernel
theorem pl_7 : plainFor (⟨"java/lang/Integer", "<init>", "(I)V"⟩ : MethodName) = true := plainFor_of_name (by first | (simp [plainName, overriddenIn]; done) | decide +kernel)
theorem ef_rmJ (m : MethodId) (z0 : Addr) (z1 : Int32) : entryFrame m #[(.ref z0), (.int z1)] 2 = mkF m 0 #[.val (.ref z0), .val (.int z1)] [] := by first | (simp [entryFrame, mkF, argsToLocals, Value.category]; done) | rfl
set_option maxRecDepth 65536 in
set_option maxHeartbeats 40000000 in
theorem rmJ (l : Launch) (Z : State) (a0 : Array Value) (hw : ∀ d ∈ tables_1, d.before a0 Z = true) (q : Addr) (u : Int32) (h0 : Heap) (n0 : Nat) (Zn : n0 ≤ h0.size) (E_q : Exa Z h0 q "java/lang/Integer") (F_q_value : Fld Z h0 q "java/lang/Integer" "value" "I" (.int (0 : Int32))) (g_q : n0 ≤ q)  :
    WCt l Z (⟨"java/lang/Integer", "<init>", "(I)V"⟩ : MethodName) jdk_33_method_23_code 2 none ({ frames := 2, cells := 0, slots := 0, locals := 24 } : Room) #[(.ref q), (.int u)] h0 (fun vv hh LL => (vv = none) ∧ (Fr n0 LL) ∧ (Keep h0 hh [q])) := by
  refine WCt.of pl_7 ?_
  intro p e s m below meth c T hx hby hml hown hnm hret hlk hZ hh0 X eT
  have hown : s.vm.findClass "java/lang/Integer" = some m.cls := hown
  have hnm : meth.name = "<init>" := hnm
  have N := Fr.nil n0
  obtain ⟨h, eh⟩ : ∃ h, h = h0 := ⟨_, rfl⟩
  have K : Keep h0 h [q] := by rw [eh]; exact Keep.refl _ _
  refine WGo.cast (ef_rmJ m q u) ?_
  rw [← eh] at eT Zn E_q F_q_value
  refine g_aloadN X hx (hb hby d7_0) rfl rfl (pc' := 1) rfl ?_
  refine g_init (W := 0) (argsL := []) (st := []) X hx hZ hown rfl (hw _ (List.mem_of_getElem? (i := 41) rfl)) (hw _ (List.mem_of_getElem? (i := 42) rfl)) (hw _ (List.mem_of_getElem? (i := 46) rfl)) (hw _ (List.mem_of_getElem? (i := 45) rfl)) (by decide) (rmN l Z a0 hw q h n0 Zn  ) eT (by decide) (by decide) (by decide) (by decide) (lenOf pd_0 rfl) (by rw [hml]; rfl) rfl (Nat.le_of_eq rfl) (hb hby d7_1) (pc' := 4) rfl (fun T hn vq Lq X eT hQ => ?_)
  obtain ⟨rfl, Nq, hE⟩ := hQ
  replace N := Fr.app N Nq
  rw [hE] at eT; clear hE
  show WGo _ _ _ _ _ _ _ _ (mkF m 4 #[.val (.ref q), .val (.int u)] [])
  refine g_aloadN X hx (hb hby d7_4) rfl rfl (pc' := 5) rfl ?_
  refine g_iloadN X hx (hb hby d7_5) rfl (pc' := 6) rfl ?_
  refine g_putF X hx hZ hown (hw _ (List.mem_of_getElem? (i := 48) rfl)) eT F_q_value E_q (Or.inr ⟨(hw _ (List.mem_of_getElem? (i := 49) rfl)), rfl, hnm⟩) (hw _ (List.mem_of_getElem? (i := 36) rfl)) (ty := .int) (by decide) rfl rfl (hb hby d7_6) (pc' := 9) rfl (fun T h X eT W => ?_)
  replace F_q_value := F_q_value.same W
  replace E_q := E_q.wr W
  replace N := Fr.snoc X N g_q
  replace Zn := Nat.le_trans Zn (Nat.le_of_eq W.size.symm)
  replace K := K.wr W (Or.inl (List.mem_of_getElem? (i := 0) rfl))
  refine g_ret0 X hx hret hlk (hb hby d7_9) (by decide) (by decide) ?_
  rw [eT]
  exact ⟨rfl, N, K⟩
theorem d6_0 : decode jdk_33_method_22_code 0 = .ok (.iload_n 0, 1) := by decide +kernel
theorem d6_1 : decode jdk_33_method_22_code 1 = .ok (.bipush (-128), 2) := by decide +kernel
theorem d6_3 : decode jdk_33_method_22_code 3 = .ok (.if_icmp .lt 20, 3) := by decide +kernel
theorem d6_6 : decode jdk_33_method_22_code 6 = .ok (.iload_n 0, 1) := by decide +kernel
theorem d6_7 : decode jdk_33_method_22_code 7 = .ok (.getstatic 191, 3) := by decide +kernel
theorem d6_10 : decode jdk_33_method_22_code 10 = .ok (.if_icmp .gt 13, 3) := by decide +kernel
theorem d6_13 : decode jdk_33_method_22_code 13 = .ok (.getstatic 195, 3) := by decide +kernel
theorem d6_16 : decode jdk_33_method_22_code 16 = .ok (.iload_n 0, 1) := by decide +kernel
theorem d6_17 : decode jdk_33_method_22_code 17 = .ok (.sipush 128, 3) := by decide +kernel
theorem d6_20 : decode jdk_33_method_22_code 20 = .ok (.iadd, 1) := by decide +kernel
theorem d6_21 : decode jdk_33_method_22_code 21 = .ok (.aaload, 1) := by decide +kernel
theorem d6_22 : decode jdk_33_method_22_code 22 = .ok (.areturn, 1) := by decide +kernel
theorem d6_23 : decode jdk_33_method_22_code 23 = .ok (.new 1, 3) := by decide +kernel
theorem d6_26 : decode jdk_33_method_22_code 26 = .ok (.dup, 1) := by decide +kernel
theorem d6_27 : decode jdk_33_method_22_code 27 = .ok (.iload_n 0, 1) := by decide +kernel
theorem d6_28 : decode jdk_33_method_22_code 28 = .ok (.invokespecial 199, 3) := by decide +kernel
theorem d6_31 : decode jdk_33_method_22_code 31 = .ok (.areturn, 1) := by decide +kernel
theorem pl_6 : plainFor (⟨"java/lang/Integer", "valueOf", "(I)Ljava/lang/Integer;"⟩ : MethodName) = true := plainFor_of_name (by first | (simp [plainName, overriddenIn]; done) | decide +kernel)
theorem ef_rmV (m : MethodId) (z0 : Int32) : entryFrame m #[(.int z0)] 1 = mkF m 0 #[.val (.int z0)] [] := by first | (simp [entryFrame, mkF, argsToLocals, Value.category]; done) | rfl
set_option maxRecDepth 65536 in
set_option maxHeartbeats 40000000 in
theorem rmV (l : Launch) (Z : State) (a0 : Array Value) (hw : ∀ d ∈ tables_1, d.before a0 Z = true) (u : Int32) (ca : Addr) (fC : Nat → Value) (h0 : Heap) (n0 : Nat) (Zn : n0 ≤ h0.size) (S_high : Sta Z h0 "java/lang/Integer$IntegerCache" "high" "I" (.int (127 : Int32))) (S_cache : Sta Z h0 "java/lang/Integer$IntegerCache" "cache" "[Ljava/lang/Integer;" (.ref ca)) (A_ca : Ai Z h0 ca (.object "java/lang/Integer") 256 fC) (hcache : ∀ j : Int32, (¬ j < 0) → j.toNatClampNeg < 256 → ∃ b : Addr, fC j.toNatClampNeg = .ref b ∧ Exa Z h0 b "java/lang/Integer") (hu : 0 ≤ u.toInt) :
    WCt l Z (⟨"java/lang/Integer", "valueOf", "(I)Ljava/lang/Integer;"⟩ : MethodName) jdk_33_method_22_code 1 (some (.object "java/lang/Integer")) ({ frames := 3, cells := 1, slots := 1, locals := 38 } : Room) #[(.int u)] h0 (fun vv hh LL => ∃ (a : Addr), (vv = some (.ref a)) ∧ (Fr n0 LL) ∧ (Keep h0 hh []) ∧ (Exa Z hh a "java/lang/Integer")) := by
  refine WCt.of pl_6 ?_
  intro p e s m below meth c T hx hby hml hown hnm hret hlk hZ hh0 X eT
  have hown : s.vm.findClass "java/lang/Integer" = some m.cls := hown
  have hnm : meth.name = "valueOf" := hnm
  have N := Fr.nil n0
  obtain ⟨h, eh⟩ : ∃ h, h = h0 := ⟨_, rfl⟩
  have K : Keep h0 h [] := by rw [eh]; exact Keep.refl _ _
  refine WGo.cast (ef_rmV m u) ?_
  rw [← eh] at eT Zn S_high S_cache A_ca hcache
  refine g_iloadN X hx (hb hby d6_0) rfl (pc' := 1) rfl ?_
  refine g_bipush X hx (hb hby d6_1) (x := (-128 : Int32)) (by decide) (pc' := 3) rfl ?_
  refine g_icmp X hx (hb hby d6_3) (by decide) (pc' := 23) (by decide) (pc2 := 6) rfl (fun hc => ?_) (fun hc => ?_)
  · replace hc := h_lt1 hc
    have hc3 := hc
    exfalso
    rw [Int32.lt_iff_toInt_lt] at hc; simp only [Int32.reduceToInt] at hc; omega
  · replace hc := h_lt0 hc
    have hc3 := hc
    refine g_iloadN X hx (hb hby d6_6) rfl (pc' := 7) rfl ?_
    refine g_getS X hx hZ hown (hw _ (List.mem_of_getElem? (i := 33) rfl)) eT S_high (hb hby d6_7) (pc' := 10) rfl (fun T X eT => ?_)
    refine g_icmp X hx (hb hby d6_10) (by decide) (pc' := 23) (by decide) (pc2 := 13) rfl (fun hc => ?_) (fun hc => ?_)
    · replace hc := h_gt1 hc
      have hc10 := hc
      refine g_new X hx hZ hown (hw _ (List.mem_of_getElem? (i := 35) rfl)) (hw _ (List.mem_of_getElem? (i := 36) rfl)) (hw _ (List.mem_of_getElem? (i := 31) rfl)) eT (hb hby d6_23) (by decide) (by decide) (pc' := 26) rfl (fun T h a ha X eT Ex E_a Df => ?_)
      have g_a : n0 ≤ a := by rw [ha]; exact Zn
      have sz_a : h0.size ≤ a := by rw [ha]; exact K.1
      have ne_ca_a : ca ≠ a := by rw [ha]; exact Nat.ne_of_lt A_ca.lt
      replace A_ca := A_ca.ext Ex
      replace S_high := S_high.ext Ex
      replace S_cache := S_cache.ext Ex
      replace Zn := Nat.le_trans Zn Ex.1
      replace K := K.ext Ex
      have F_a_value : Fld Z h a "java/lang/Integer" "value" "I" (.int (0 : Int32)) := Df (Or.inr (hw _ (List.mem_of_getElem? (i := 49) rfl))) (ty := .int) (by decide)
      refine g_dup X hx (hb hby d6_26) rfl (pc' := 27) rfl ?_
      refine g_iloadN X hx (hb hby d6_27) rfl (pc' := 28) rfl ?_
      refine g_init (W := 1) (argsL := [(.int u)]) (st := [(.ref a)]) X hx hZ hown rfl (hw _ (List.mem_of_getElem? (i := 37) rfl)) (hw _ (List.mem_of_getElem? (i := 38) rfl)) (hw _ (List.mem_of_getElem? (i := 40) rfl)) (hw _ (List.mem_of_getElem? (i := 31) rfl)) (by decide) (rmJ l Z a0 hw a u h n0 Zn E_a F_a_value g_a ) eT (by decide) (by decide) (by decide) (by decide) (lenOf pd_1 rfl) (by rw [hml]; rfl) rfl (Nat.le_of_eq rfl) (hb hby d6_28) (pc' := 31) rfl (fun T h vq Lq X eT hQ => ?_)
      obtain ⟨rfl, Nq, Kc⟩ := hQ
      replace N := Fr.app N Nq
      replace E_a := E_a.keep Kc
      replace A_ca := A_ca.keep Kc (ninS ne_ca_a nin0)
      replace Zn := Nat.le_trans Zn Kc.1
      replace K := K.trans Kc (allS (Or.inr sz_a) all0)
      show WGo _ _ _ _ _ _ _ _ (mkF m 31 #[.val (.int u)] [(.ref a)])
      refine g_retA X hx rfl hret rfl hlk (hb hby d6_31) (by decide) (by decide) ?_
      rw [eT]
      exact ⟨_, rfl, N, K, E_a⟩
    · replace hc := h_gt0 hc
      have hc10 := hc
      obtain ⟨ix0, ix1⟩ := ix_ok hu hc10
      obtain ⟨cb, hcb, E_cb⟩ := hcache _ ix0 ix1
      refine g_getS X hx hZ hown (hw _ (List.mem_of_getElem? (i := 53) rfl)) eT S_cache (hb hby d6_13) (pc' := 16) rfl (fun T X eT => ?_)
      refine g_iloadN X hx (hb hby d6_16) rfl (pc' := 17) rfl ?_
      refine g_sipush X hx (hb hby d6_17) (x := (128 : Int32)) (by decide) (pc' := 20) rfl ?_
      refine g_iadd X hx (hb hby d6_20) (pc' := 21) rfl ?_
      refine g_aaload X hx hZ eT rfl A_ca (hb hby d6_21) ix0 ix1 (v := (.ref cb)) hcb (pc' := 22) rfl ?_
      refine g_retA X hx rfl hret rfl hlk (hb hby d6_22) (by decide) (by decide) ?_
      rw [eT]
      exact ⟨_, rfl, N, K, E_cb⟩
theorem d5_0 : decode prog_24_method_5_code 0 = .ok (.aload_n 1, 1) := by decide +kernel
theorem d5_1 : decode prog_24_method_5_code 1 = .ok (.instanceof 20, 3) := by decide +kernel
theorem d5_4 : decode prog_24_method_5_code 4 = .ok (.ifCond .eq 35, 3) := by decide +kernel
theorem d5_7 : decode prog_24_method_5_code 7 = .ok (.aload_n 0, 1) := by decide +kernel
theorem d5_8 : decode prog_24_method_5_code 8 = .ok (.getfield 19, 3) := by decide +kernel
theorem d5_11 : decode prog_24_method_5_code 11 = .ok (.aload_n 1, 1) := by decide +kernel
theorem d5_12 : decode prog_24_method_5_code 12 = .ok (.checkcast 20, 3) := by decide +kernel
theorem d5_15 : decode prog_24_method_5_code 15 = .ok (.getfield 19, 3) := by decide +kernel
theorem d5_18 : decode prog_24_method_5_code 18 = .ok (.if_icmp .ne 21, 3) := by decide +kernel
theorem d5_21 : decode prog_24_method_5_code 21 = .ok (.aload_n 0, 1) := by decide +kernel
theorem d5_22 : decode prog_24_method_5_code 22 = .ok (.getfield 25, 3) := by decide +kernel
theorem d5_25 : decode prog_24_method_5_code 25 = .ok (.aload_n 1, 1) := by decide +kernel
theorem d5_26 : decode prog_24_method_5_code 26 = .ok (.checkcast 20, 3) := by decide +kernel
theorem d5_29 : decode prog_24_method_5_code 29 = .ok (.getfield 25, 3) := by decide +kernel
theorem d5_32 : decode prog_24_method_5_code 32 = .ok (.if_icmp .ne 7, 3) := by decide +kernel
theorem d5_35 : decode prog_24_method_5_code 35 = .ok (.iconst 1, 1) := by decide +kernel
theorem d5_36 : decode prog_24_method_5_code 36 = .ok (.goto 4, 3) := by decide +kernel
theorem d5_39 : decode prog_24_method_5_code 39 = .ok (.iconst 0, 1) := by decide +kernel
theorem d5_40 : decode prog_24_method_5_code 40 = .ok (.ireturn, 1) := by decide +kernel
theorem pl_5 : plainFor (⟨"com/example/varuna/varuna/layout/HashRange", "equals", "(Ljava/lang/Object;)Z"⟩ : MethodName) = true := plainFor_of_name (by first | (simp [plainName, overriddenIn]; done) | decide +kernel)
theorem ef_rmE0 (m : MethodId) (z0 : Addr) : entryFrame m #[(.ref z0), .null] 2 = mkF m 0 #[.val (.ref z0), .val .null] [] := by first | (simp [entryFrame, mkF, argsToLocals, Value.category]; done) | rfl
set_option maxRecDepth 65536 in
set_option maxHeartbeats 40000000 in
theorem rmE0 (l : Launch) (Z : State) (a0 : Array Value) (hw : ∀ d ∈ tables_1, d.before a0 Z = true) (q : Addr) (h0 : Heap) (n0 : Nat) (Zn : n0 ≤ h0.size)   :
    WCt l Z (⟨"com/example/varuna/varuna/layout/HashRange", "equals", "(Ljava/lang/Object;)Z"⟩ : MethodName) prog_24_method_5_code 2 (some .boolean) ({ frames := 0, cells := 0, slots := 0, locals := 0 } : Room) #[(.ref q), .null] h0 (fun vv hh LL => (vv = some (.int (0 : Int32))) ∧ (Fr n0 LL) ∧ (hh = h0)) := by
  refine WCt.of pl_5 ?_
  intro p e s m below meth c T hx hby hml hown hnm hret hlk hZ hh0 X eT
  have hown : s.vm.findClass "com/example/varuna/varuna/layout/HashRange" = some m.cls := hown
  have hnm : meth.name = "equals" := hnm
  have N := Fr.nil n0
  obtain ⟨h, eh⟩ : ∃ h, h = h0 := ⟨_, rfl⟩
  have K : Keep h0 h [] := by rw [eh]; exact Keep.refl _ _
  refine WGo.cast (ef_rmE0 m q) ?_
  rw [← eh] at eT Zn 
  refine g_aloadN X hx (hb hby d5_0) rfl rfl (pc' := 1) rfl ?_
  refine g_inst0 X hx (hb hby d5_1) (pc' := 4) rfl ?_
  refine g_if X hx (hb hby d5_4) (by decide) (pc' := 39) (by decide) (pc2 := 7) rfl (fun hc => ?_) (fun hc => ?_)
  · replace hc := h_eq1 hc
    have hc4 := hc
    refine g_iconst X hx (hb hby d5_39) (x := (0 : Int32)) (by decide) (pc' := 40) rfl ?_
    refine g_retN (t := .boolean) X hx hret (by simp) hlk (hb hby d5_40) (by decide) (by decide) ?_
    rw [eT]
    refine ⟨?_, N, eh⟩
    have q0 : nar .boolean (0 : Int32) = (0 : Int32) := by decide
    simp [q0]
  · replace hc := h_eq0 hc
    have hc4 := hc
    exfalso
    clear hc4; revert hc; decide
theorem ef_rmE1 (m : MethodId) (z0 : Addr) (z1 : Addr) : entryFrame m #[(.ref z0), (.ref z1)] 2 = mkF m 0 #[.val (.ref z0), .val (.ref z1)] [] := by first | (simp [entryFrame, mkF, argsToLocals, Value.category]; done) | rfl
set_option maxRecDepth 65536 in
set_option maxHeartbeats 40000000 in
theorem rmE1 (l : Launch) (Z : State) (a0 : Array Value) (hw : ∀ d ∈ tables_1, d.before a0 Z = true) (q : Addr) (o : Addr) (s1 : Int32) (e1 : Int32) (s2 : Int32) (e2 : Int32) (h0 : Heap) (n0 : Nat) (Zn : n0 ≤ h0.size) (F_q_start : Fld Z h0 q "com/example/varuna/varuna/layout/HashRange" "start" "I" (.int s1)) (F_q_end : Fld Z h0 q "com/example/varuna/varuna/layout/HashRange" "end" "I" (.int e1)) (F_o_start : Fld Z h0 o "com/example/varuna/varuna/layout/HashRange" "start" "I" (.int s2)) (F_o_end : Fld Z h0 o "com/example/varuna/varuna/layout/HashRange" "end" "I" (.int e2)) (E_o : Exa Z h0 o "com/example/varuna/varuna/layout/HashRange")  :
    WCt l Z (⟨"com/example/varuna/varuna/layout/HashRange", "equals", "(Ljava/lang/Object;)Z"⟩ : MethodName) prog_24_method_5_code 2 (some .boolean) ({ frames := 0, cells := 0, slots := 0, locals := 0 } : Room) #[(.ref q), (.ref o)] h0 (fun vv hh LL => (vv = some (.int (if s1 = s2 then (if e1 = e2 then (1 : Int32) else 0) else 0))) ∧ (Fr n0 LL) ∧ (hh = h0)) := by
  refine WCt.of pl_5 ?_
  intro p e s m below meth c T hx hby hml hown hnm hret hlk hZ hh0 X eT
  have hown : s.vm.findClass "com/example/varuna/varuna/layout/HashRange" = some m.cls := hown
  have hnm : meth.name = "equals" := hnm
  have N := Fr.nil n0
  obtain ⟨h, eh⟩ : ∃ h, h = h0 := ⟨_, rfl⟩
  have K : Keep h0 h [] := by rw [eh]; exact Keep.refl _ _
  refine WGo.cast (ef_rmE1 m q o) ?_
  rw [← eh] at eT Zn F_q_start F_q_end F_o_start F_o_end E_o
  refine g_aloadN X hx (hb hby d5_0) rfl rfl (pc' := 1) rfl ?_
  refine g_instY X hx hZ hown (hw _ (List.mem_of_getElem? (i := 27) rfl)) eT (Ins.self E_o) (hb hby d5_1) (pc' := 4) rfl (fun T X eT => ?_)
  refine g_if X hx (hb hby d5_4) (by decide) (pc' := 39) (by decide) (pc2 := 7) rfl (fun hc => ?_) (fun hc => ?_)
  · replace hc := h_eq1 hc
    have hc4 := hc
    exfalso
    clear hc4; revert hc; decide
  · replace hc := h_eq0 hc
    have hc4 := hc
    refine g_aloadN X hx (hb hby d5_7) rfl rfl (pc' := 8) rfl ?_
    refine g_getF X hx hZ hown (hw _ (List.mem_of_getElem? (i := 18) rfl)) eT F_q_start (hb hby d5_8) (pc' := 11) rfl (fun T X eT => ?_)
    refine g_aloadN X hx (hb hby d5_11) rfl rfl (pc' := 12) rfl ?_
    refine g_castY X hx hZ hown (hw _ (List.mem_of_getElem? (i := 27) rfl)) eT (Ins.self E_o) (hb hby d5_12) (pc' := 15) rfl (fun T X eT => ?_)
    refine g_getF X hx hZ hown (hw _ (List.mem_of_getElem? (i := 18) rfl)) eT F_o_start (hb hby d5_15) (pc' := 18) rfl (fun T X eT => ?_)
    refine g_icmp X hx (hb hby d5_18) (by decide) (pc' := 39) (by decide) (pc2 := 21) rfl (fun hc => ?_) (fun hc => ?_)
    · replace hc := h_ne1 hc
      have hc18 := hc
      refine g_iconst X hx (hb hby d5_39) (x := (0 : Int32)) (by decide) (pc' := 40) rfl ?_
      refine g_retN (t := .boolean) X hx hret (by simp) hlk (hb hby d5_40) (by decide) (by decide) ?_
      rw [eT]
      refine ⟨?_, N, eh⟩
      have q0 : nar .boolean (0 : Int32) = (0 : Int32) := by decide
      simp [q0, hc18]
    · replace hc := h_ne0 hc
      have hc18 := hc
      refine g_aloadN X hx (hb hby d5_21) rfl rfl (pc' := 22) rfl ?_
      refine g_getF X hx hZ hown (hw _ (List.mem_of_getElem? (i := 20) rfl)) eT F_q_end (hb hby d5_22) (pc' := 25) rfl (fun T X eT => ?_)
      refine g_aloadN X hx (hb hby d5_25) rfl rfl (pc' := 26) rfl ?_
      refine g_castY X hx hZ hown (hw _ (List.mem_of_getElem? (i := 27) rfl)) eT (Ins.self E_o) (hb hby d5_26) (pc' := 29) rfl (fun T X eT => ?_)
      refine g_getF X hx hZ hown (hw _ (List.mem_of_getElem? (i := 20) rfl)) eT F_o_end (hb hby d5_29) (pc' := 32) rfl (fun T X eT => ?_)
      refine g_icmp X hx (hb hby d5_32) (by decide) (pc' := 39) (by decide) (pc2 := 35) rfl (fun hc => ?_) (fun hc => ?_)
      · replace hc := h_ne1 hc
        have hc32 := hc
        refine g_iconst X hx (hb hby d5_39) (x := (0 : Int32)) (by decide) (pc' := 40) rfl ?_
        refine g_retN (t := .boolean) X hx hret (by simp) hlk (hb hby d5_40) (by decide) (by decide) ?_
        rw [eT]
        refine ⟨?_, N, eh⟩
        have q0 : nar .boolean (0 : Int32) = (0 : Int32) := by decide
        simp [q0, hc18, hc32]
      · replace hc := h_ne0 hc
        have hc32 := hc
        refine g_iconst X hx (hb hby d5_35) (x := (1 : Int32)) (by decide) (pc' := 36) rfl ?_
        refine g_goto X hx (hb hby d5_36) (by decide) (pc' := 40) (by decide) ?_
        refine g_retN (t := .boolean) X hx hret (by simp) hlk (hb hby d5_40) (by decide) (by decide) ?_
        rw [eT]
        refine ⟨?_, N, eh⟩
        have q0 : nar .boolean (1 : Int32) = (1 : Int32) := by decide
        simp [q0, hc18, hc32]
theorem ef_rmE2 (m : MethodId) (z0 : Addr) (z1 : Addr) : entryFrame m #[(.ref z0), (.ref z1)] 2 = mkF m 0 #[.val (.ref z0), .val (.ref z1)] [] := by first | (simp [entryFrame, mkF, argsToLocals, Value.category]; done) | rfl
set_option maxRecDepth 65536 in
set_option maxHeartbeats 40000000 in
theorem rmE2 (l : Launch) (Z : State) (a0 : Array Value) (hw : ∀ d ∈ tables_1, d.before a0 Z = true) (q : Addr) (o : Addr) (h0 : Heap) (n0 : Nat) (Zn : n0 ≤ h0.size) (E_o : Exa Z h0 o "java/lang/Integer")  :
    WCt l Z (⟨"com/example/varuna/varuna/layout/HashRange", "equals", "(Ljava/lang/Object;)Z"⟩ : MethodName) prog_24_method_5_code 2 (some .boolean) ({ frames := 0, cells := 0, slots := 0, locals := 0 } : Room) #[(.ref q), (.ref o)] h0 (fun vv hh LL => (vv = some (.int (0 : Int32))) ∧ (Fr n0 LL) ∧ (hh = h0)) := by
  refine WCt.of pl_5 ?_
  intro p e s m below meth c T hx hby hml hown hnm hret hlk hZ hh0 X eT
  have hown : s.vm.findClass "com/example/varuna/varuna/layout/HashRange" = some m.cls := hown
  have hnm : meth.name = "equals" := hnm
  have N := Fr.nil n0
  obtain ⟨h, eh⟩ : ∃ h, h = h0 := ⟨_, rfl⟩
  have K : Keep h0 h [] := by rw [eh]; exact Keep.refl _ _
  refine WGo.cast (ef_rmE2 m q o) ?_
  rw [← eh] at eT Zn E_o
  refine g_aloadN X hx (hb hby d5_0) rfl rfl (pc' := 1) rfl ?_
  refine g_instN X hx hZ hown (hw _ (List.mem_of_getElem? (i := 27) rfl)) eT E_o (own_isnt (hw _ (List.mem_of_getElem? (i := 50) rfl)) (hw _ (List.mem_of_getElem? (i := 51) rfl)) (hw _ (List.mem_of_getElem? (i := 52) rfl)) (hw _ (List.mem_of_getElem? (i := 9) rfl)) (by decide) (by decide) (by decide)) (hb hby d5_1) (pc' := 4) rfl (fun T X eT => ?_)
  refine g_if X hx (hb hby d5_4) (by decide) (pc' := 39) (by decide) (pc2 := 7) rfl (fun hc => ?_) (fun hc => ?_)
  · replace hc := h_eq1 hc
    have hc4 := hc
    refine g_iconst X hx (hb hby d5_39) (x := (0 : Int32)) (by decide) (pc' := 40) rfl ?_
    refine g_retN (t := .boolean) X hx hret (by simp) hlk (hb hby d5_40) (by decide) (by decide) ?_
    rw [eT]
    refine ⟨?_, N, eh⟩
    have q0 : nar .boolean (0 : Int32) = (0 : Int32) := by decide
    simp [q0]
  · replace hc := h_eq0 hc
    have hc4 := hc
    exfalso
    clear hc4; revert hc; decide
theorem pl_0 : plainFor x = true := plainFor_of_name (by first | (simp [plainName, overriddenIn, x]; done) | decide +kernel)
theorem ef_rm0 (m : MethodId) (z0 : Int32) (z1 : Int32) (z2 : Int32) (z3 : Int32) (z4 : Int32) : entryFrame m #[(.int z0), (.int z1), (.int z2), (.int z3), (.int z4)] maxLocals = mkF m 0 #[.val (.int z0), .val (.int z1), .val (.int z2), .val (.int z3), .val (.int z4), .unset, .unset, .unset, .unset, .unset, .unset, .unset, .unset, .unset, .unset, .unset, .unset, .unset] [] := by first | (simp [entryFrame, mkF, argsToLocals, Value.category, maxLocals]; done) | rfl
set_option maxRecDepth 65536 in
set_option maxHeartbeats 40000000 in
theorem rm0 (l : Launch) (Z : State) (a0 : Array Value) (hw : ∀ d ∈ tables_1, d.before a0 Z = true) (p0 : Int32) (p1 : Int32) (p2 : Int32) (p3 : Int32) (p4 : Int32) (ca : Addr) (fC : Nat → Value) (h0 : Heap) (n0 : Nat) (Zn : n0 ≤ h0.size) (O : Old Z n0 h0) (S_high : Sta Z Z.heap "java/lang/Integer$IntegerCache" "high" "I" (.int (127 : Int32))) (S_cache : Sta Z Z.heap "java/lang/Integer$IntegerCache" "cache" "[Ljava/lang/Integer;" (.ref ca)) (A_ca : Ai Z Z.heap ca (.object "java/lang/Integer") 256 fC) (hcache : ∀ j : Int32, (¬ j < 0) → j.toNatClampNeg < 256 → ∃ b : Addr, fC j.toNatClampNeg = .ref b ∧ Exa Z Z.heap b "java/lang/Integer") :
    WCt l Z x code maxLocals ret room_1 #[(.int p0), (.int p1), (.int p2), (.int p3), (.int p4)] h0 (fun vv hh LL => (vv = some (.int (1 : Int32))) ∧ (Fr n0 LL)) := by
  refine WCt.of pl_0 ?_
  intro p e s m below meth c T hx hby hml hown hnm hret hlk hZ hh0 X eT
  have hown : s.vm.findClass "com/example/varuna/varuna/layout/HashRangeEqualsPinLaw" = some m.cls := hown
  have hnm : meth.name = "law" := hnm
  have N := Fr.nil n0
  obtain ⟨h, eh⟩ : ∃ h, h = h0 := ⟨_, rfl⟩
  refine WGo.cast (ef_rm0 m p0 p1 p2 p3 p4) ?_
  rw [← eh] at eT Zn O
  refine g_iloadN X hx (hb hby at_0) rfl (pc' := 1) rfl ?_
  refine g_ldcI X hx hZ hown (hw _ (List.mem_of_getElem? (i := 0) rfl)) (hb hby at_1) (pc' := 3) rfl ?_
  refine g_iand X hx (hb hby at_3) (pc' := 4) rfl ?_
  refine g_istore X hx (hb hby at_4) (Ls' := #[.val (.int p0), .val (.int p1), .val (.int p2), .val (.int p3), .val (.int p4), .val (.int (p0 &&& (65535 : Int32))), .unset, .unset, .unset, .unset, .unset, .unset, .unset, .unset, .unset, .unset, .unset, .unset]) rfl (pc' := 6) rfl ?_
  refine g_iloadN X hx (hb hby at_6) rfl (pc' := 7) rfl ?_
  refine g_ldcI X hx hZ hown (hw _ (List.mem_of_getElem? (i := 0) rfl)) (hb hby at_7) (pc' := 9) rfl ?_
  refine g_iand X hx (hb hby at_9) (pc' := 10) rfl ?_
  refine g_istore X hx (hb hby at_10) (Ls' := #[.val (.int p0), .val (.int p1), .val (.int p2), .val (.int p3), .val (.int p4), .val (.int (p0 &&& (65535 : Int32))), .val (.int (p1 &&& (65535 : Int32))), .unset, .unset, .unset, .unset, .unset, .unset, .unset, .unset, .unset, .unset, .unset]) rfl (pc' := 12) rfl ?_
  refine g_iload X hx (hb hby at_12) rfl (pc' := 14) rfl ?_
  refine g_iload X hx (hb hby at_14) rfl (pc' := 16) rfl ?_
  refine g_stat (W := 0) (argsL := [(.int (p0 &&& (65535 : Int32))), (.int (p1 &&& (65535 : Int32)))]) (st := []) X hx hZ hown (hw _ (List.mem_of_getElem? (i := 1) rfl)) (hw _ (List.mem_of_getElem? (i := 2) rfl)) (hw _ (List.mem_of_getElem? (i := 3) rfl)) (hw _ (List.mem_of_getElem? (i := 4) rfl)) (by decide) (rmMin l Z a0 hw (p0 &&& (65535 : Int32)) (p1 &&& (65535 : Int32)) h n0 Zn  ) eT (by decide) (by decide) (by decide) (by decide) (lenOf pd_2 rfl) (by rw [hml]; rfl) rfl (Nat.le_of_eq rfl) (hb hby at_16) (pc' := 19) rfl (fun T hn vq Lq X eT hQ => ?_)
  obtain ⟨rfl, Nq, hE⟩ := hQ
  replace N := Fr.app N Nq
  rw [hE] at eT; clear hE
  show WGo _ _ _ _ _ _ _ _ (mkF m 19 #[.val (.int p0), .val (.int p1), .val (.int p2), .val (.int p3), .val (.int p4), .val (.int (p0 &&& (65535 : Int32))), .val (.int (p1 &&& (65535 : Int32))), .unset, .unset, .unset, .unset, .unset, .unset, .unset, .unset, .unset, .unset, .unset] [(.int (minI (p0 &&& (65535 : Int32)) (p1 &&& (65535 : Int32))))])
  refine g_istore X hx (hb hby at_19) (Ls' := #[.val (.int p0), .val (.int p1), .val (.int p2), .val (.int p3), .val (.int p4), .val (.int (p0 &&& (65535 : Int32))), .val (.int (p1 &&& (65535 : Int32))), .val (.int (minI (p0 &&& (65535 : Int32)) (p1 &&& (65535 : Int32)))), .unset, .unset, .unset, .unset, .unset, .unset, .unset, .unset, .unset, .unset]) rfl (pc' := 21) rfl ?_
  refine g_iload X hx (hb hby at_21) rfl (pc' := 23) rfl ?_
  refine g_iload X hx (hb hby at_23) rfl (pc' := 25) rfl ?_
  refine g_stat (W := 0) (argsL := [(.int (p0 &&& (65535 : Int32))), (.int (p1 &&& (65535 : Int32)))]) (st := []) X hx hZ hown (hw _ (List.mem_of_getElem? (i := 5) rfl)) (hw _ (List.mem_of_getElem? (i := 6) rfl)) (hw _ (List.mem_of_getElem? (i := 3) rfl)) (hw _ (List.mem_of_getElem? (i := 7) rfl)) (by decide) (rmMax l Z a0 hw (p0 &&& (65535 : Int32)) (p1 &&& (65535 : Int32)) h n0 Zn  ) eT (by decide) (by decide) (by decide) (by decide) (lenOf pd_2 rfl) (by rw [hml]; rfl) rfl (Nat.le_of_eq rfl) (hb hby at_25) (pc' := 28) rfl (fun T hn vq Lq X eT hQ => ?_)
  obtain ⟨rfl, Nq, hE⟩ := hQ
  replace N := Fr.app N Nq
  rw [hE] at eT; clear hE
  show WGo _ _ _ _ _ _ _ _ (mkF m 28 #[.val (.int p0), .val (.int p1), .val (.int p2), .val (.int p3), .val (.int p4), .val (.int (p0 &&& (65535 : Int32))), .val (.int (p1 &&& (65535 : Int32))), .val (.int (minI (p0 &&& (65535 : Int32)) (p1 &&& (65535 : Int32)))), .unset, .unset, .unset, .unset, .unset, .unset, .unset, .unset, .unset, .unset] [(.int (maxI (p0 &&& (65535 : Int32)) (p1 &&& (65535 : Int32))))])
  refine g_istore X hx (hb hby at_28) (Ls' := #[.val (.int p0), .val (.int p1), .val (.int p2), .val (.int p3), .val (.int p4), .val (.int (p0 &&& (65535 : Int32))), .val (.int (p1 &&& (65535 : Int32))), .val (.int (minI (p0 &&& (65535 : Int32)) (p1 &&& (65535 : Int32)))), .val (.int (maxI (p0 &&& (65535 : Int32)) (p1 &&& (65535 : Int32)))), .unset, .unset, .unset, .unset, .unset, .unset, .unset, .unset, .unset]) rfl (pc' := 30) rfl ?_
  have ok1 := ok_mm (m16 p0) (m16 p1)
  generalize (minI (p0 &&& (65535 : Int32)) (p1 &&& (65535 : Int32))) = s1 at *
  generalize (maxI (p0 &&& (65535 : Int32)) (p1 &&& (65535 : Int32))) = e1 at *
  refine g_iloadN X hx (hb hby at_30) rfl (pc' := 31) rfl ?_
  refine g_ldcI X hx hZ hown (hw _ (List.mem_of_getElem? (i := 0) rfl)) (hb hby at_31) (pc' := 33) rfl ?_
  refine g_iand X hx (hb hby at_33) (pc' := 34) rfl ?_
  refine g_istore X hx (hb hby at_34) (Ls' := #[.val (.int p0), .val (.int p1), .val (.int p2), .val (.int p3), .val (.int p4), .val (.int (p0 &&& (65535 : Int32))), .val (.int (p1 &&& (65535 : Int32))), .val (.int s1), .val (.int e1), .val (.int (p2 &&& (65535 : Int32))), .unset, .unset, .unset, .unset, .unset, .unset, .unset, .unset]) rfl (pc' := 36) rfl ?_
  refine g_iloadN X hx (hb hby at_36) rfl (pc' := 37) rfl ?_
  refine g_ldcI X hx hZ hown (hw _ (List.mem_of_getElem? (i := 0) rfl)) (hb hby at_37) (pc' := 39) rfl ?_
  refine g_iand X hx (hb hby at_39) (pc' := 40) rfl ?_
  refine g_istore X hx (hb hby at_40) (Ls' := #[.val (.int p0), .val (.int p1), .val (.int p2), .val (.int p3), .val (.int p4), .val (.int (p0 &&& (65535 : Int32))), .val (.int (p1 &&& (65535 : Int32))), .val (.int s1), .val (.int e1), .val (.int (p2 &&& (65535 : Int32))), .val (.int (p3 &&& (65535 : Int32))), .unset, .unset, .unset, .unset, .unset, .unset, .unset]) rfl (pc' := 42) rfl ?_
  refine g_iload X hx (hb hby at_42) rfl (pc' := 44) rfl ?_
  refine g_iconst X hx (hb hby at_44) (x := (3 : Int32)) (by decide) (pc' := 45) rfl ?_
  refine g_iand X hx (hb hby at_45) (pc' := 46) rfl ?_
  refine g_istore X hx (hb hby at_46) (Ls' := #[.val (.int p0), .val (.int p1), .val (.int p2), .val (.int p3), .val (.int p4), .val (.int (p0 &&& (65535 : Int32))), .val (.int (p1 &&& (65535 : Int32))), .val (.int s1), .val (.int e1), .val (.int (p2 &&& (65535 : Int32))), .val (.int (p3 &&& (65535 : Int32))), .val (.int (p4 &&& (3 : Int32))), .unset, .unset, .unset, .unset, .unset, .unset]) rfl (pc' := 48) rfl ?_
  refine g_iload X hx (hb hby at_48) rfl (pc' := 50) rfl ?_
  refine g_joinT (m := m) (R := room_1) (l := l) (args := #[(.int p0), (.int p1), (.int p2), (.int p3), (.int p4)]) (meth := meth) (c := c) (cells := 0) (slots := 0) (h := h) (n0 := n0) (J := fun z : Int32 × Int32 => (mkF m 126 #[.val (.int p0), .val (.int p1), .val (.int p2), .val (.int p3), .val (.int p4), .val (.int (p0 &&& (65535 : Int32))), .val (.int (p1 &&& (65535 : Int32))), .val (.int s1), .val (.int e1), .val (.int (p2 &&& (65535 : Int32))), .val (.int (p3 &&& (65535 : Int32))), .val (.int (p4 &&& (3 : Int32))), .val (.int (z.1)), .val (.int (z.2)), .unset, .unset, .unset, .unset] [])) (P := fun z => Ok z.1 z.2) (fun KK => ?_) (fun T Lq z X eT N hj50 => ?_)
  · skip
    refine g_if X hx (hb hby at_50) (by decide) (pc' := 64) (by decide) (pc2 := 53) rfl (fun hc => ?_) (fun hc => ?_)
    · replace hc := h_ne1 hc
      have hc50 := hc
      refine g_iload X hx (hb hby at_64) rfl (pc' := 66) rfl ?_
      refine g_iconst X hx (hb hby at_66) (x := (1 : Int32)) (by decide) (pc' := 67) rfl ?_
      refine g_icmp X hx (hb hby at_67) (by decide) (pc' := 86) (by decide) (pc2 := 70) rfl (fun hc => ?_) (fun hc => ?_)
      · replace hc := h_ne1 hc
        have hc67 := hc
        refine g_iload X hx (hb hby at_86) rfl (pc' := 88) rfl ?_
        refine g_iconst X hx (hb hby at_88) (x := (2 : Int32)) (by decide) (pc' := 89) rfl ?_
        refine g_icmp X hx (hb hby at_89) (by decide) (pc' := 108) (by decide) (pc2 := 92) rfl (fun hc => ?_) (fun hc => ?_)
        · replace hc := h_ne1 hc
          have hc89 := hc
          refine g_iload X hx (hb hby at_108) rfl (pc' := 110) rfl ?_
          refine g_iload X hx (hb hby at_110) rfl (pc' := 112) rfl ?_
          refine g_stat (W := 0) (argsL := [(.int (p2 &&& (65535 : Int32))), (.int (p3 &&& (65535 : Int32)))]) (st := []) X hx hZ hown (hw _ (List.mem_of_getElem? (i := 1) rfl)) (hw _ (List.mem_of_getElem? (i := 2) rfl)) (hw _ (List.mem_of_getElem? (i := 3) rfl)) (hw _ (List.mem_of_getElem? (i := 4) rfl)) (by decide) (rmMin l Z a0 hw (p2 &&& (65535 : Int32)) (p3 &&& (65535 : Int32)) h n0 Zn  ) eT (by decide) (by decide) (by decide) (by decide) (lenOf pd_2 rfl) (by rw [hml]; rfl) rfl (Nat.le_of_eq rfl) (hb hby at_112) (pc' := 115) rfl (fun T hn vq Lq X eT hQ => ?_)
          obtain ⟨rfl, Nq, hE⟩ := hQ
          replace N := Fr.app N Nq
          rw [hE] at eT; clear hE
          show WGo _ _ _ _ _ _ _ _ (mkF m 115 #[.val (.int p0), .val (.int p1), .val (.int p2), .val (.int p3), .val (.int p4), .val (.int (p0 &&& (65535 : Int32))), .val (.int (p1 &&& (65535 : Int32))), .val (.int s1), .val (.int e1), .val (.int (p2 &&& (65535 : Int32))), .val (.int (p3 &&& (65535 : Int32))), .val (.int (p4 &&& (3 : Int32))), .unset, .unset, .unset, .unset, .unset, .unset] [(.int (minI (p2 &&& (65535 : Int32)) (p3 &&& (65535 : Int32))))])
          refine g_istore X hx (hb hby at_115) (Ls' := #[.val (.int p0), .val (.int p1), .val (.int p2), .val (.int p3), .val (.int p4), .val (.int (p0 &&& (65535 : Int32))), .val (.int (p1 &&& (65535 : Int32))), .val (.int s1), .val (.int e1), .val (.int (p2 &&& (65535 : Int32))), .val (.int (p3 &&& (65535 : Int32))), .val (.int (p4 &&& (3 : Int32))), .val (.int (minI (p2 &&& (65535 : Int32)) (p3 &&& (65535 : Int32)))), .unset, .unset, .unset, .unset, .unset]) rfl (pc' := 117) rfl ?_
          refine g_iload X hx (hb hby at_117) rfl (pc' := 119) rfl ?_
          refine g_iload X hx (hb hby at_119) rfl (pc' := 121) rfl ?_
          refine g_stat (W := 0) (argsL := [(.int (p2 &&& (65535 : Int32))), (.int (p3 &&& (65535 : Int32)))]) (st := []) X hx hZ hown (hw _ (List.mem_of_getElem? (i := 5) rfl)) (hw _ (List.mem_of_getElem? (i := 6) rfl)) (hw _ (List.mem_of_getElem? (i := 3) rfl)) (hw _ (List.mem_of_getElem? (i := 7) rfl)) (by decide) (rmMax l Z a0 hw (p2 &&& (65535 : Int32)) (p3 &&& (65535 : Int32)) h n0 Zn  ) eT (by decide) (by decide) (by decide) (by decide) (lenOf pd_2 rfl) (by rw [hml]; rfl) rfl (Nat.le_of_eq rfl) (hb hby at_121) (pc' := 124) rfl (fun T hn vq Lq X eT hQ => ?_)
          obtain ⟨rfl, Nq, hE⟩ := hQ
          replace N := Fr.app N Nq
          rw [hE] at eT; clear hE
          show WGo _ _ _ _ _ _ _ _ (mkF m 124 #[.val (.int p0), .val (.int p1), .val (.int p2), .val (.int p3), .val (.int p4), .val (.int (p0 &&& (65535 : Int32))), .val (.int (p1 &&& (65535 : Int32))), .val (.int s1), .val (.int e1), .val (.int (p2 &&& (65535 : Int32))), .val (.int (p3 &&& (65535 : Int32))), .val (.int (p4 &&& (3 : Int32))), .val (.int (minI (p2 &&& (65535 : Int32)) (p3 &&& (65535 : Int32)))), .unset, .unset, .unset, .unset, .unset] [(.int (maxI (p2 &&& (65535 : Int32)) (p3 &&& (65535 : Int32))))])
          refine g_istore X hx (hb hby at_124) (Ls' := #[.val (.int p0), .val (.int p1), .val (.int p2), .val (.int p3), .val (.int p4), .val (.int (p0 &&& (65535 : Int32))), .val (.int (p1 &&& (65535 : Int32))), .val (.int s1), .val (.int e1), .val (.int (p2 &&& (65535 : Int32))), .val (.int (p3 &&& (65535 : Int32))), .val (.int (p4 &&& (3 : Int32))), .val (.int (minI (p2 &&& (65535 : Int32)) (p3 &&& (65535 : Int32)))), .val (.int (maxI (p2 &&& (65535 : Int32)) (p3 &&& (65535 : Int32)))), .unset, .unset, .unset, .unset]) rfl (pc' := 126) rfl ?_
          exact KK _ _ ((minI (p2 &&& (65535 : Int32)) (p3 &&& (65535 : Int32))), (maxI (p2 &&& (65535 : Int32)) (p3 &&& (65535 : Int32)))) X eT N (ok_mm (m16 _) (m16 _))
        · replace hc := h_ne0 hc
          have hc89 := hc
          refine g_iload X hx (hb hby at_92) rfl (pc' := 94) rfl ?_
          refine g_iload X hx (hb hby at_94) rfl (pc' := 96) rfl ?_
          refine g_stat (W := 0) (argsL := [(.int e1), (.int (p2 &&& (65535 : Int32)))]) (st := []) X hx hZ hown (hw _ (List.mem_of_getElem? (i := 1) rfl)) (hw _ (List.mem_of_getElem? (i := 2) rfl)) (hw _ (List.mem_of_getElem? (i := 3) rfl)) (hw _ (List.mem_of_getElem? (i := 4) rfl)) (by decide) (rmMin l Z a0 hw e1 (p2 &&& (65535 : Int32)) h n0 Zn  ) eT (by decide) (by decide) (by decide) (by decide) (lenOf pd_2 rfl) (by rw [hml]; rfl) rfl (Nat.le_of_eq rfl) (hb hby at_96) (pc' := 99) rfl (fun T hn vq Lq X eT hQ => ?_)
          obtain ⟨rfl, Nq, hE⟩ := hQ
          replace N := Fr.app N Nq
          rw [hE] at eT; clear hE
          show WGo _ _ _ _ _ _ _ _ (mkF m 99 #[.val (.int p0), .val (.int p1), .val (.int p2), .val (.int p3), .val (.int p4), .val (.int (p0 &&& (65535 : Int32))), .val (.int (p1 &&& (65535 : Int32))), .val (.int s1), .val (.int e1), .val (.int (p2 &&& (65535 : Int32))), .val (.int (p3 &&& (65535 : Int32))), .val (.int (p4 &&& (3 : Int32))), .unset, .unset, .unset, .unset, .unset, .unset] [(.int (minI e1 (p2 &&& (65535 : Int32))))])
          refine g_istore X hx (hb hby at_99) (Ls' := #[.val (.int p0), .val (.int p1), .val (.int p2), .val (.int p3), .val (.int p4), .val (.int (p0 &&& (65535 : Int32))), .val (.int (p1 &&& (65535 : Int32))), .val (.int s1), .val (.int e1), .val (.int (p2 &&& (65535 : Int32))), .val (.int (p3 &&& (65535 : Int32))), .val (.int (p4 &&& (3 : Int32))), .val (.int (minI e1 (p2 &&& (65535 : Int32)))), .unset, .unset, .unset, .unset, .unset]) rfl (pc' := 101) rfl ?_
          refine g_iload X hx (hb hby at_101) rfl (pc' := 103) rfl ?_
          refine g_istore X hx (hb hby at_103) (Ls' := #[.val (.int p0), .val (.int p1), .val (.int p2), .val (.int p3), .val (.int p4), .val (.int (p0 &&& (65535 : Int32))), .val (.int (p1 &&& (65535 : Int32))), .val (.int s1), .val (.int e1), .val (.int (p2 &&& (65535 : Int32))), .val (.int (p3 &&& (65535 : Int32))), .val (.int (p4 &&& (3 : Int32))), .val (.int (minI e1 (p2 &&& (65535 : Int32)))), .val (.int e1), .unset, .unset, .unset, .unset]) rfl (pc' := 105) rfl ?_
          refine g_goto X hx (hb hby at_105) (by decide) (pc' := 126) (by decide) ?_
          exact KK _ _ ((minI e1 (p2 &&& (65535 : Int32))), e1) X eT N (ok_2 ok1 (m16 _))
      · replace hc := h_ne0 hc
        have hc67 := hc
        refine g_iload X hx (hb hby at_70) rfl (pc' := 72) rfl ?_
        refine g_istore X hx (hb hby at_72) (Ls' := #[.val (.int p0), .val (.int p1), .val (.int p2), .val (.int p3), .val (.int p4), .val (.int (p0 &&& (65535 : Int32))), .val (.int (p1 &&& (65535 : Int32))), .val (.int s1), .val (.int e1), .val (.int (p2 &&& (65535 : Int32))), .val (.int (p3 &&& (65535 : Int32))), .val (.int (p4 &&& (3 : Int32))), .val (.int s1), .unset, .unset, .unset, .unset, .unset]) rfl (pc' := 74) rfl ?_
        refine g_iload X hx (hb hby at_74) rfl (pc' := 76) rfl ?_
        refine g_iload X hx (hb hby at_76) rfl (pc' := 78) rfl ?_
        refine g_stat (W := 0) (argsL := [(.int s1), (.int (p3 &&& (65535 : Int32)))]) (st := []) X hx hZ hown (hw _ (List.mem_of_getElem? (i := 5) rfl)) (hw _ (List.mem_of_getElem? (i := 6) rfl)) (hw _ (List.mem_of_getElem? (i := 3) rfl)) (hw _ (List.mem_of_getElem? (i := 7) rfl)) (by decide) (rmMax l Z a0 hw s1 (p3 &&& (65535 : Int32)) h n0 Zn  ) eT (by decide) (by decide) (by decide) (by decide) (lenOf pd_2 rfl) (by rw [hml]; rfl) rfl (Nat.le_of_eq rfl) (hb hby at_78) (pc' := 81) rfl (fun T hn vq Lq X eT hQ => ?_)
        obtain ⟨rfl, Nq, hE⟩ := hQ
        replace N := Fr.app N Nq
        rw [hE] at eT; clear hE
        show WGo _ _ _ _ _ _ _ _ (mkF m 81 #[.val (.int p0), .val (.int p1), .val (.int p2), .val (.int p3), .val (.int p4), .val (.int (p0 &&& (65535 : Int32))), .val (.int (p1 &&& (65535 : Int32))), .val (.int s1), .val (.int e1), .val (.int (p2 &&& (65535 : Int32))), .val (.int (p3 &&& (65535 : Int32))), .val (.int (p4 &&& (3 : Int32))), .val (.int s1), .unset, .unset, .unset, .unset, .unset] [(.int (maxI s1 (p3 &&& (65535 : Int32))))])
        refine g_istore X hx (hb hby at_81) (Ls' := #[.val (.int p0), .val (.int p1), .val (.int p2), .val (.int p3), .val (.int p4), .val (.int (p0 &&& (65535 : Int32))), .val (.int (p1 &&& (65535 : Int32))), .val (.int s1), .val (.int e1), .val (.int (p2 &&& (65535 : Int32))), .val (.int (p3 &&& (65535 : Int32))), .val (.int (p4 &&& (3 : Int32))), .val (.int s1), .val (.int (maxI s1 (p3 &&& (65535 : Int32)))), .unset, .unset, .unset, .unset]) rfl (pc' := 83) rfl ?_
        refine g_goto X hx (hb hby at_83) (by decide) (pc' := 126) (by decide) ?_
        exact KK _ _ (s1, (maxI s1 (p3 &&& (65535 : Int32)))) X eT N (ok_1 ok1 (m16 _))
    · replace hc := h_ne0 hc
      have hc50 := hc
      refine g_iload X hx (hb hby at_53) rfl (pc' := 55) rfl ?_
      refine g_istore X hx (hb hby at_55) (Ls' := #[.val (.int p0), .val (.int p1), .val (.int p2), .val (.int p3), .val (.int p4), .val (.int (p0 &&& (65535 : Int32))), .val (.int (p1 &&& (65535 : Int32))), .val (.int s1), .val (.int e1), .val (.int (p2 &&& (65535 : Int32))), .val (.int (p3 &&& (65535 : Int32))), .val (.int (p4 &&& (3 : Int32))), .val (.int s1), .unset, .unset, .unset, .unset, .unset]) rfl (pc' := 57) rfl ?_
      refine g_iload X hx (hb hby at_57) rfl (pc' := 59) rfl ?_
      refine g_istore X hx (hb hby at_59) (Ls' := #[.val (.int p0), .val (.int p1), .val (.int p2), .val (.int p3), .val (.int p4), .val (.int (p0 &&& (65535 : Int32))), .val (.int (p1 &&& (65535 : Int32))), .val (.int s1), .val (.int e1), .val (.int (p2 &&& (65535 : Int32))), .val (.int (p3 &&& (65535 : Int32))), .val (.int (p4 &&& (3 : Int32))), .val (.int s1), .val (.int e1), .unset, .unset, .unset, .unset]) rfl (pc' := 61) rfl ?_
      refine g_goto X hx (hb hby at_61) (by decide) (pc' := 126) (by decide) ?_
      exact KK _ _ (s1, e1) X eT N ok1
  · skip
    obtain ⟨s2, e2⟩ := z
    have ok2 : Ok s2 e2 := hj50
    show WGo _ _ _ _ _ _ _ _ (mkF m 126 #[.val (.int p0), .val (.int p1), .val (.int p2), .val (.int p3), .val (.int p4), .val (.int (p0 &&& (65535 : Int32))), .val (.int (p1 &&& (65535 : Int32))), .val (.int s1), .val (.int e1), .val (.int (p2 &&& (65535 : Int32))), .val (.int (p3 &&& (65535 : Int32))), .val (.int (p4 &&& (3 : Int32))), .val (.int s2), .val (.int e2), .unset, .unset, .unset, .unset] [])
    refine g_new X hx hZ hown (hw _ (List.mem_of_getElem? (i := 8) rfl)) (hw _ (List.mem_of_getElem? (i := 9) rfl)) (hw _ (List.mem_of_getElem? (i := 10) rfl)) eT (hb hby at_126) (by decide) (by decide) (pc' := 129) rfl (fun T h q1 ha X eT Ex E_q1 Df => ?_)
    have g_q1 : n0 ≤ q1 := by rw [ha]; exact Zn
    replace Zn := Nat.le_trans Zn Ex.1
    replace O := O.ext Ex
    have F_q1_start : Fld Z h q1 "com/example/varuna/varuna/layout/HashRange" "start" "I" (.int (0 : Int32)) := Df (Or.inr (hw _ (List.mem_of_getElem? (i := 19) rfl))) (ty := .int) (by decide)
    have F_q1_end : Fld Z h q1 "com/example/varuna/varuna/layout/HashRange" "end" "I" (.int (0 : Int32)) := Df (Or.inr (hw _ (List.mem_of_getElem? (i := 21) rfl))) (ty := .int) (by decide)
    refine g_dup X hx (hb hby at_129) rfl (pc' := 130) rfl ?_
    refine g_iload X hx (hb hby at_130) rfl (pc' := 132) rfl ?_
    refine g_iload X hx (hb hby at_132) rfl (pc' := 134) rfl ?_
    refine g_init (W := 1) (argsL := [(.int s1), (.int e1)]) (st := [(.ref q1)]) X hx hZ hown rfl (hw _ (List.mem_of_getElem? (i := 11) rfl)) (hw _ (List.mem_of_getElem? (i := 12) rfl)) (hw _ (List.mem_of_getElem? (i := 13) rfl)) (hw _ (List.mem_of_getElem? (i := 10) rfl)) (by decide) (rmH l Z a0 hw q1 s1 e1 h n0 Zn E_q1 F_q1_start F_q1_end g_q1 ok1) eT (by decide) (by decide) (by decide) (by decide) (lenOf pd_3 rfl) (by rw [hml]; rfl) rfl (Nat.le_of_eq rfl) (hb hby at_134) (pc' := 137) rfl (fun T h vq Lq X eT hQ => ?_)
    obtain ⟨rfl, Nq, Kc, q_F_q1_start, q_F_q1_end⟩ := hQ
    replace N := Fr.app N Nq
    replace E_q1 := E_q1.keep Kc
    have F_q1_start := q_F_q1_start
    have F_q1_end := q_F_q1_end
    replace Zn := Nat.le_trans Zn Kc.1
    replace O := O.keep Kc (allS g_q1 all0)
    show WGo _ _ _ _ _ _ _ _ (mkF m 137 #[.val (.int p0), .val (.int p1), .val (.int p2), .val (.int p3), .val (.int p4), .val (.int (p0 &&& (65535 : Int32))), .val (.int (p1 &&& (65535 : Int32))), .val (.int s1), .val (.int e1), .val (.int (p2 &&& (65535 : Int32))), .val (.int (p3 &&& (65535 : Int32))), .val (.int (p4 &&& (3 : Int32))), .val (.int s2), .val (.int e2), .unset, .unset, .unset, .unset] [(.ref q1)])
    refine g_astore X hx (hb hby at_137) rfl (Ls' := #[.val (.int p0), .val (.int p1), .val (.int p2), .val (.int p3), .val (.int p4), .val (.int (p0 &&& (65535 : Int32))), .val (.int (p1 &&& (65535 : Int32))), .val (.int s1), .val (.int e1), .val (.int (p2 &&& (65535 : Int32))), .val (.int (p3 &&& (65535 : Int32))), .val (.int (p4 &&& (3 : Int32))), .val (.int s2), .val (.int e2), .val (.ref q1), .unset, .unset, .unset]) rfl (pc' := 139) rfl ?_
    refine g_new X hx hZ hown (hw _ (List.mem_of_getElem? (i := 8) rfl)) (hw _ (List.mem_of_getElem? (i := 9) rfl)) (hw _ (List.mem_of_getElem? (i := 10) rfl)) eT (hb hby at_139) (by decide) (by decide) (pc' := 142) rfl (fun T h q2 ha X eT Ex E_q2 Df => ?_)
    have g_q2 : n0 ≤ q2 := by rw [ha]; exact Zn
    have ne_q1_q2 : q1 ≠ q2 := by rw [ha]; exact Nat.ne_of_lt F_q1_start.lt
    replace F_q1_start := F_q1_start.ext Ex
    replace F_q1_end := F_q1_end.ext Ex
    replace E_q1 := E_q1.ext Ex
    replace Zn := Nat.le_trans Zn Ex.1
    replace O := O.ext Ex
    have F_q2_start : Fld Z h q2 "com/example/varuna/varuna/layout/HashRange" "start" "I" (.int (0 : Int32)) := Df (Or.inr (hw _ (List.mem_of_getElem? (i := 19) rfl))) (ty := .int) (by decide)
    have F_q2_end : Fld Z h q2 "com/example/varuna/varuna/layout/HashRange" "end" "I" (.int (0 : Int32)) := Df (Or.inr (hw _ (List.mem_of_getElem? (i := 21) rfl))) (ty := .int) (by decide)
    refine g_dup X hx (hb hby at_142) rfl (pc' := 143) rfl ?_
    refine g_iload X hx (hb hby at_143) rfl (pc' := 145) rfl ?_
    refine g_iload X hx (hb hby at_145) rfl (pc' := 147) rfl ?_
    refine g_init (W := 1) (argsL := [(.int s2), (.int e2)]) (st := [(.ref q2)]) X hx hZ hown rfl (hw _ (List.mem_of_getElem? (i := 11) rfl)) (hw _ (List.mem_of_getElem? (i := 12) rfl)) (hw _ (List.mem_of_getElem? (i := 13) rfl)) (hw _ (List.mem_of_getElem? (i := 10) rfl)) (by decide) (rmH l Z a0 hw q2 s2 e2 h n0 Zn E_q2 F_q2_start F_q2_end g_q2 ok2) eT (by decide) (by decide) (by decide) (by decide) (lenOf pd_3 rfl) (by rw [hml]; rfl) rfl (Nat.le_of_eq rfl) (hb hby at_147) (pc' := 150) rfl (fun T h vq Lq X eT hQ => ?_)
    obtain ⟨rfl, Nq, Kc, q_F_q2_start, q_F_q2_end⟩ := hQ
    replace N := Fr.app N Nq
    replace F_q1_start := F_q1_start.keep Kc (ninS ne_q1_q2 nin0)
    replace F_q1_end := F_q1_end.keep Kc (ninS ne_q1_q2 nin0)
    replace E_q1 := E_q1.keep Kc
    replace E_q2 := E_q2.keep Kc
    have F_q2_start := q_F_q2_start
    have F_q2_end := q_F_q2_end
    replace Zn := Nat.le_trans Zn Kc.1
    replace O := O.keep Kc (allS g_q2 all0)
    show WGo _ _ _ _ _ _ _ _ (mkF m 150 #[.val (.int p0), .val (.int p1), .val (.int p2), .val (.int p3), .val (.int p4), .val (.int (p0 &&& (65535 : Int32))), .val (.int (p1 &&& (65535 : Int32))), .val (.int s1), .val (.int e1), .val (.int (p2 &&& (65535 : Int32))), .val (.int (p3 &&& (65535 : Int32))), .val (.int (p4 &&& (3 : Int32))), .val (.int s2), .val (.int e2), .val (.ref q1), .unset, .unset, .unset] [(.ref q2)])
    refine g_astore X hx (hb hby at_150) rfl (Ls' := #[.val (.int p0), .val (.int p1), .val (.int p2), .val (.int p3), .val (.int p4), .val (.int (p0 &&& (65535 : Int32))), .val (.int (p1 &&& (65535 : Int32))), .val (.int s1), .val (.int e1), .val (.int (p2 &&& (65535 : Int32))), .val (.int (p3 &&& (65535 : Int32))), .val (.int (p4 &&& (3 : Int32))), .val (.int s2), .val (.int e2), .val (.ref q1), .val (.ref q2), .unset, .unset]) rfl (pc' := 152) rfl ?_
    refine g_iload X hx (hb hby at_152) rfl (pc' := 154) rfl ?_
    refine g_iconst X hx (hb hby at_154) (x := (2 : Int32)) (by decide) (pc' := 155) rfl ?_
    refine g_iushr X hx (hb hby at_155) (pc' := 156) rfl ?_
    refine g_iconst X hx (hb hby at_156) (x := (3 : Int32)) (by decide) (pc' := 157) rfl ?_
    refine g_iand X hx (hb hby at_157) (pc' := 158) rfl ?_
    refine g_istore X hx (hb hby at_158) (Ls' := #[.val (.int p0), .val (.int p1), .val (.int p2), .val (.int p3), .val (.int p4), .val (.int (p0 &&& (65535 : Int32))), .val (.int (p1 &&& (65535 : Int32))), .val (.int s1), .val (.int e1), .val (.int (p2 &&& (65535 : Int32))), .val (.int (p3 &&& (65535 : Int32))), .val (.int (p4 &&& (3 : Int32))), .val (.int s2), .val (.int e2), .val (.ref q1), .val (.ref q2), .val (.int ((XT.ushr p4 (2 : Int32)) &&& (3 : Int32))), .unset]) rfl (pc' := 160) rfl ?_
    refine g_iload X hx (hb hby at_160) rfl (pc' := 162) rfl ?_
    refine g_if X hx (hb hby at_162) (by decide) (pc' := 216) (by decide) (pc2 := 165) rfl (fun hc => ?_) (fun hc => ?_)
    · replace hc := h_ne1 hc
      have hc162 := hc
      refine g_iload X hx (hb hby at_216) rfl (pc' := 218) rfl ?_
      refine g_iconst X hx (hb hby at_218) (x := (1 : Int32)) (by decide) (pc' := 219) rfl ?_
      refine g_icmp X hx (hb hby at_219) (by decide) (pc' := 237) (by decide) (pc2 := 222) rfl (fun hc => ?_) (fun hc => ?_)
      · replace hc := h_ne1 hc
        have hc219 := hc
        refine g_iload X hx (hb hby at_237) rfl (pc' := 239) rfl ?_
        refine g_iconst X hx (hb hby at_239) (x := (2 : Int32)) (by decide) (pc' := 240) rfl ?_
        refine g_icmp X hx (hb hby at_240) (by decide) (pc' := 262) (by decide) (pc2 := 243) rfl (fun hc => ?_) (fun hc => ?_)
        · replace hc := h_ne1 hc
          have hc240 := hc
          refine g_aload X hx (hb hby at_262) rfl rfl (pc' := 264) rfl ?_
          refine g_aload X hx (hb hby at_264) rfl rfl (pc' := 266) rfl ?_
          refine g_virt (W := 0) (argsL := [(.ref q1)]) (st := []) X hx hZ hown (hw _ (List.mem_of_getElem? (i := 22) rfl)) (hw _ (List.mem_of_getElem? (i := 23) rfl)) (notFace_of_selects (args := #[]) (mvT hZ (hw _ (List.mem_of_getElem? (i := 25) rfl)))) (hw _ (List.mem_of_getElem? (i := 25) rfl)) (hw _ (List.mem_of_getElem? (i := 24) rfl)) (hw _ (List.mem_of_getElem? (i := 26) rfl)) (hw _ (List.mem_of_getElem? (i := 10) rfl)) (by decide) E_q1 (rmE1 l Z a0 hw q1 q1 s1 e1 s1 e1 h n0 Zn F_q1_start F_q1_end F_q1_start F_q1_end E_q1 ) eT (by decide) (by decide) (by decide) (by decide) (lenOf pd_4 rfl) (by rw [hml]; rfl) rfl (Nat.le_of_eq rfl) (hb hby at_266) (pc' := 269) rfl (fun T hn vq Lq X eT hQ => ?_)
          obtain ⟨rfl, Nq, hE⟩ := hQ
          replace N := Fr.app N Nq
          rw [hE] at eT; clear hE
          show WGo _ _ _ _ _ _ _ _ (mkF m 269 #[.val (.int p0), .val (.int p1), .val (.int p2), .val (.int p3), .val (.int p4), .val (.int (p0 &&& (65535 : Int32))), .val (.int (p1 &&& (65535 : Int32))), .val (.int s1), .val (.int e1), .val (.int (p2 &&& (65535 : Int32))), .val (.int (p3 &&& (65535 : Int32))), .val (.int (p4 &&& (3 : Int32))), .val (.int s2), .val (.int e2), .val (.ref q1), .val (.ref q2), .val (.int ((XT.ushr p4 (2 : Int32)) &&& (3 : Int32))), .unset] [(.int (if s1 = s1 then (if e1 = e1 then (1 : Int32) else 0) else 0))])
          refine g_retN (t := .boolean) X hx hret (by simp) hlk (hb hby at_269) (by decide) (by decide) ?_
          refine ⟨?_, N⟩
          rw [if_pos rfl, if_pos rfl]; rfl
        · replace hc := h_ne0 hc
          have hc240 := hc
          refine g_aload X hx (hb hby at_243) rfl rfl (pc' := 245) rfl ?_
          refine g_iload X hx (hb hby at_245) rfl (pc' := 247) rfl ?_
          refine g_stat (W := 1) (argsL := [(.int s1)]) (st := [(.ref q1)]) X hx hZ hown (hw _ (List.mem_of_getElem? (i := 29) rfl)) (hw _ (List.mem_of_getElem? (i := 30) rfl)) (hw _ (List.mem_of_getElem? (i := 31) rfl)) (hw _ (List.mem_of_getElem? (i := 32) rfl)) (by decide) (rmV l Z a0 hw s1 ca fC h n0 Zn (S_high.ext O.2) (S_cache.ext O.2) (A_ca.ext O.2) (fun j g1 g2 => (hcache j g1 g2).imp fun _ w => ⟨w.1, w.2.ext O.2⟩) ok1.1) eT (by decide) (by decide) (by decide) (by decide) (lenOf pd_5 rfl) (by rw [hml]; rfl) rfl (Nat.le_of_eq rfl) (hb hby at_247) (pc' := 250) rfl (fun T h vq Lq X eT hQ => ?_)
          obtain ⟨bx, rfl, Nq, Kc, q_E_bx⟩ := hQ
          replace N := Fr.app N Nq
          replace F_q1_start := F_q1_start.keep Kc nin0
          replace F_q1_end := F_q1_end.keep Kc nin0
          replace F_q2_start := F_q2_start.keep Kc nin0
          replace F_q2_end := F_q2_end.keep Kc nin0
          replace E_q1 := E_q1.keep Kc
          replace E_q2 := E_q2.keep Kc
          have E_bx := q_E_bx
          replace Zn := Nat.le_trans Zn Kc.1
          replace O := O.keep Kc all0
          show WGo _ _ _ _ _ _ _ _ (mkF m 250 #[.val (.int p0), .val (.int p1), .val (.int p2), .val (.int p3), .val (.int p4), .val (.int (p0 &&& (65535 : Int32))), .val (.int (p1 &&& (65535 : Int32))), .val (.int s1), .val (.int e1), .val (.int (p2 &&& (65535 : Int32))), .val (.int (p3 &&& (65535 : Int32))), .val (.int (p4 &&& (3 : Int32))), .val (.int s2), .val (.int e2), .val (.ref q1), .val (.ref q2), .val (.int ((XT.ushr p4 (2 : Int32)) &&& (3 : Int32))), .unset] [(.ref bx), (.ref q1)])
          refine g_virt (W := 0) (argsL := [(.ref bx)]) (st := []) X hx hZ hown (hw _ (List.mem_of_getElem? (i := 22) rfl)) (hw _ (List.mem_of_getElem? (i := 23) rfl)) (notFace_of_selects (args := #[]) (mvT hZ (hw _ (List.mem_of_getElem? (i := 25) rfl)))) (hw _ (List.mem_of_getElem? (i := 25) rfl)) (hw _ (List.mem_of_getElem? (i := 24) rfl)) (hw _ (List.mem_of_getElem? (i := 26) rfl)) (hw _ (List.mem_of_getElem? (i := 10) rfl)) (by decide) E_q1 (rmE2 l Z a0 hw q1 bx h n0 Zn E_bx ) eT (by decide) (by decide) (by decide) (by decide) (lenOf pd_4 rfl) (by rw [hml]; rfl) rfl (Nat.le_of_eq rfl) (hb hby at_250) (pc' := 253) rfl (fun T hn vq Lq X eT hQ => ?_)
          obtain ⟨rfl, Nq, hE⟩ := hQ
          replace N := Fr.app N Nq
          rw [hE] at eT; clear hE
          show WGo _ _ _ _ _ _ _ _ (mkF m 253 #[.val (.int p0), .val (.int p1), .val (.int p2), .val (.int p3), .val (.int p4), .val (.int (p0 &&& (65535 : Int32))), .val (.int (p1 &&& (65535 : Int32))), .val (.int s1), .val (.int e1), .val (.int (p2 &&& (65535 : Int32))), .val (.int (p3 &&& (65535 : Int32))), .val (.int (p4 &&& (3 : Int32))), .val (.int s2), .val (.int e2), .val (.ref q1), .val (.ref q2), .val (.int ((XT.ushr p4 (2 : Int32)) &&& (3 : Int32))), .unset] [(.int (0 : Int32))])
          refine g_if X hx (hb hby at_253) (by decide) (pc' := 260) (by decide) (pc2 := 256) rfl (fun hc => ?_) (fun hc => ?_)
          · replace hc := h_ne1 hc
            have hc253 := hc
            exfalso
            clear hc253; revert hc; decide
          · replace hc := h_ne0 hc
            have hc253 := hc
            refine g_iconst X hx (hb hby at_256) (x := (1 : Int32)) (by decide) (pc' := 257) rfl ?_
            refine g_goto X hx (hb hby at_257) (by decide) (pc' := 261) (by decide) ?_
            refine g_retN (t := .boolean) X hx hret (by simp) hlk (hb hby at_261) (by decide) (by decide) ?_
            exact ⟨rfl, N⟩
      · replace hc := h_ne0 hc
        have hc219 := hc
        refine g_aload X hx (hb hby at_222) rfl rfl (pc' := 224) rfl ?_
        refine g_null X hx (hb hby at_224) (pc' := 225) rfl ?_
        refine g_virt (W := 0) (argsL := [.null]) (st := []) X hx hZ hown (hw _ (List.mem_of_getElem? (i := 22) rfl)) (hw _ (List.mem_of_getElem? (i := 23) rfl)) (notFace_of_selects (args := #[]) (mvT hZ (hw _ (List.mem_of_getElem? (i := 25) rfl)))) (hw _ (List.mem_of_getElem? (i := 25) rfl)) (hw _ (List.mem_of_getElem? (i := 24) rfl)) (hw _ (List.mem_of_getElem? (i := 26) rfl)) (hw _ (List.mem_of_getElem? (i := 10) rfl)) (by decide) E_q1 (rmE0 l Z a0 hw q1 h n0 Zn  ) eT (by decide) (by decide) (by decide) (by decide) (lenOf pd_4 rfl) (by rw [hml]; rfl) rfl (Nat.le_of_eq rfl) (hb hby at_225) (pc' := 228) rfl (fun T hn vq Lq X eT hQ => ?_)
        obtain ⟨rfl, Nq, hE⟩ := hQ
        replace N := Fr.app N Nq
        rw [hE] at eT; clear hE
        show WGo _ _ _ _ _ _ _ _ (mkF m 228 #[.val (.int p0), .val (.int p1), .val (.int p2), .val (.int p3), .val (.int p4), .val (.int (p0 &&& (65535 : Int32))), .val (.int (p1 &&& (65535 : Int32))), .val (.int s1), .val (.int e1), .val (.int (p2 &&& (65535 : Int32))), .val (.int (p3 &&& (65535 : Int32))), .val (.int (p4 &&& (3 : Int32))), .val (.int s2), .val (.int e2), .val (.ref q1), .val (.ref q2), .val (.int ((XT.ushr p4 (2 : Int32)) &&& (3 : Int32))), .unset] [(.int (0 : Int32))])
        refine g_if X hx (hb hby at_228) (by decide) (pc' := 235) (by decide) (pc2 := 231) rfl (fun hc => ?_) (fun hc => ?_)
        · replace hc := h_ne1 hc
          have hc228 := hc
          exfalso
          clear hc228; revert hc; decide
        · replace hc := h_ne0 hc
          have hc228 := hc
          refine g_iconst X hx (hb hby at_231) (x := (1 : Int32)) (by decide) (pc' := 232) rfl ?_
          refine g_goto X hx (hb hby at_232) (by decide) (pc' := 236) (by decide) ?_
          refine g_retN (t := .boolean) X hx hret (by simp) hlk (hb hby at_236) (by decide) (by decide) ?_
          exact ⟨rfl, N⟩
    · replace hc := h_ne0 hc
      have hc162 := hc
      refine g_iload X hx (hb hby at_165) rfl (pc' := 167) rfl ?_
      refine g_iload X hx (hb hby at_167) rfl (pc' := 169) rfl ?_
      refine g_icmp X hx (hb hby at_169) (by decide) (pc' := 183) (by decide) (pc2 := 172) rfl (fun hc => ?_) (fun hc => ?_)
      · replace hc := h_ne1 hc
        have hc169 := hc
        refine g_iconst X hx (hb hby at_183) (x := (0 : Int32)) (by decide) (pc' := 184) rfl ?_
        refine g_istore X hx (hb hby at_184) (Ls' := #[.val (.int p0), .val (.int p1), .val (.int p2), .val (.int p3), .val (.int p4), .val (.int (p0 &&& (65535 : Int32))), .val (.int (p1 &&& (65535 : Int32))), .val (.int s1), .val (.int e1), .val (.int (p2 &&& (65535 : Int32))), .val (.int (p3 &&& (65535 : Int32))), .val (.int (p4 &&& (3 : Int32))), .val (.int s2), .val (.int e2), .val (.ref q1), .val (.ref q2), .val (.int ((XT.ushr p4 (2 : Int32)) &&& (3 : Int32))), .val (.int (0 : Int32))]) rfl (pc' := 186) rfl ?_
        refine g_aload X hx (hb hby at_186) rfl rfl (pc' := 188) rfl ?_
        refine g_aload X hx (hb hby at_188) rfl rfl (pc' := 190) rfl ?_
        refine g_virt (W := 0) (argsL := [(.ref q2)]) (st := []) X hx hZ hown (hw _ (List.mem_of_getElem? (i := 22) rfl)) (hw _ (List.mem_of_getElem? (i := 23) rfl)) (notFace_of_selects (args := #[]) (mvT hZ (hw _ (List.mem_of_getElem? (i := 25) rfl)))) (hw _ (List.mem_of_getElem? (i := 25) rfl)) (hw _ (List.mem_of_getElem? (i := 24) rfl)) (hw _ (List.mem_of_getElem? (i := 26) rfl)) (hw _ (List.mem_of_getElem? (i := 10) rfl)) (by decide) E_q1 (rmE1 l Z a0 hw q1 q2 s1 e1 s2 e2 h n0 Zn F_q1_start F_q1_end F_q2_start F_q2_end E_q2 ) eT (by decide) (by decide) (by decide) (by decide) (lenOf pd_4 rfl) (by rw [hml]; rfl) rfl (Nat.le_of_eq rfl) (hb hby at_190) (pc' := 193) rfl (fun T hn vq Lq X eT hQ => ?_)
        obtain ⟨rfl, Nq, hE⟩ := hQ
        replace N := Fr.app N Nq
        rw [hE] at eT; clear hE
        show WGo _ _ _ _ _ _ _ _ (mkF m 193 #[.val (.int p0), .val (.int p1), .val (.int p2), .val (.int p3), .val (.int p4), .val (.int (p0 &&& (65535 : Int32))), .val (.int (p1 &&& (65535 : Int32))), .val (.int s1), .val (.int e1), .val (.int (p2 &&& (65535 : Int32))), .val (.int (p3 &&& (65535 : Int32))), .val (.int (p4 &&& (3 : Int32))), .val (.int s2), .val (.int e2), .val (.ref q1), .val (.ref q2), .val (.int ((XT.ushr p4 (2 : Int32)) &&& (3 : Int32))), .val (.int (0 : Int32))] [(.int (if s1 = s2 then (if e1 = e2 then (1 : Int32) else 0) else 0))])
        refine g_iload X hx (hb hby at_193) rfl (pc' := 195) rfl ?_
        refine g_icmp X hx (hb hby at_195) (by decide) (pc' := 214) (by decide) (pc2 := 198) rfl (fun hc => ?_) (fun hc => ?_)
        · replace hc := h_ne1 hc
          have hc195 := hc
          exfalso
          first | exact hc (by rw [if_neg hc169]) | exact hc (by rw [if_pos hc169, if_neg hc176]) | exact hc (by rw [if_pos hc169, if_pos hc176])
        · replace hc := h_ne0 hc
          have hc195 := hc
          refine g_aload X hx (hb hby at_198) rfl rfl (pc' := 200) rfl ?_
          refine g_aload X hx (hb hby at_200) rfl rfl (pc' := 202) rfl ?_
          refine g_virt (W := 0) (argsL := [(.ref q1)]) (st := []) X hx hZ hown (hw _ (List.mem_of_getElem? (i := 22) rfl)) (hw _ (List.mem_of_getElem? (i := 23) rfl)) (notFace_of_selects (args := #[]) (mvT hZ (hw _ (List.mem_of_getElem? (i := 25) rfl)))) (hw _ (List.mem_of_getElem? (i := 25) rfl)) (hw _ (List.mem_of_getElem? (i := 24) rfl)) (hw _ (List.mem_of_getElem? (i := 26) rfl)) (hw _ (List.mem_of_getElem? (i := 10) rfl)) (by decide) E_q2 (rmE1 l Z a0 hw q2 q1 s2 e2 s1 e1 h n0 Zn F_q2_start F_q2_end F_q1_start F_q1_end E_q1 ) eT (by decide) (by decide) (by decide) (by decide) (lenOf pd_4 rfl) (by rw [hml]; rfl) rfl (Nat.le_of_eq rfl) (hb hby at_202) (pc' := 205) rfl (fun T hn vq Lq X eT hQ => ?_)
          obtain ⟨rfl, Nq, hE⟩ := hQ
          replace N := Fr.app N Nq
          rw [hE] at eT; clear hE
          show WGo _ _ _ _ _ _ _ _ (mkF m 205 #[.val (.int p0), .val (.int p1), .val (.int p2), .val (.int p3), .val (.int p4), .val (.int (p0 &&& (65535 : Int32))), .val (.int (p1 &&& (65535 : Int32))), .val (.int s1), .val (.int e1), .val (.int (p2 &&& (65535 : Int32))), .val (.int (p3 &&& (65535 : Int32))), .val (.int (p4 &&& (3 : Int32))), .val (.int s2), .val (.int e2), .val (.ref q1), .val (.ref q2), .val (.int ((XT.ushr p4 (2 : Int32)) &&& (3 : Int32))), .val (.int (0 : Int32))] [(.int (if s2 = s1 then (if e2 = e1 then (1 : Int32) else 0) else 0))])
          refine g_iload X hx (hb hby at_205) rfl (pc' := 207) rfl ?_
          refine g_icmp X hx (hb hby at_207) (by decide) (pc' := 214) (by decide) (pc2 := 210) rfl (fun hc => ?_) (fun hc => ?_)
          · replace hc := h_ne1 hc
            have hc207 := hc
            exfalso
            first | exact hc (by rw [if_neg (Ne.symm hc169)]) | exact hc (by rw [if_pos hc169.symm, if_neg (Ne.symm hc176)]) | exact hc (by rw [if_pos hc169.symm, if_pos hc176.symm])
          · replace hc := h_ne0 hc
            have hc207 := hc
            refine g_iconst X hx (hb hby at_210) (x := (1 : Int32)) (by decide) (pc' := 211) rfl ?_
            refine g_goto X hx (hb hby at_211) (by decide) (pc' := 215) (by decide) ?_
            refine g_retN (t := .boolean) X hx hret (by simp) hlk (hb hby at_215) (by decide) (by decide) ?_
            exact ⟨rfl, N⟩
      · replace hc := h_ne0 hc
        have hc169 := hc
        refine g_iload X hx (hb hby at_172) rfl (pc' := 174) rfl ?_
        refine g_iload X hx (hb hby at_174) rfl (pc' := 176) rfl ?_
        refine g_icmp X hx (hb hby at_176) (by decide) (pc' := 183) (by decide) (pc2 := 179) rfl (fun hc => ?_) (fun hc => ?_)
        · replace hc := h_ne1 hc
          have hc176 := hc
          refine g_iconst X hx (hb hby at_183) (x := (0 : Int32)) (by decide) (pc' := 184) rfl ?_
          refine g_istore X hx (hb hby at_184) (Ls' := #[.val (.int p0), .val (.int p1), .val (.int p2), .val (.int p3), .val (.int p4), .val (.int (p0 &&& (65535 : Int32))), .val (.int (p1 &&& (65535 : Int32))), .val (.int s1), .val (.int e1), .val (.int (p2 &&& (65535 : Int32))), .val (.int (p3 &&& (65535 : Int32))), .val (.int (p4 &&& (3 : Int32))), .val (.int s2), .val (.int e2), .val (.ref q1), .val (.ref q2), .val (.int ((XT.ushr p4 (2 : Int32)) &&& (3 : Int32))), .val (.int (0 : Int32))]) rfl (pc' := 186) rfl ?_
          refine g_aload X hx (hb hby at_186) rfl rfl (pc' := 188) rfl ?_
          refine g_aload X hx (hb hby at_188) rfl rfl (pc' := 190) rfl ?_
          refine g_virt (W := 0) (argsL := [(.ref q2)]) (st := []) X hx hZ hown (hw _ (List.mem_of_getElem? (i := 22) rfl)) (hw _ (List.mem_of_getElem? (i := 23) rfl)) (notFace_of_selects (args := #[]) (mvT hZ (hw _ (List.mem_of_getElem? (i := 25) rfl)))) (hw _ (List.mem_of_getElem? (i := 25) rfl)) (hw _ (List.mem_of_getElem? (i := 24) rfl)) (hw _ (List.mem_of_getElem? (i := 26) rfl)) (hw _ (List.mem_of_getElem? (i := 10) rfl)) (by decide) E_q1 (rmE1 l Z a0 hw q1 q2 s1 e1 s2 e2 h n0 Zn F_q1_start F_q1_end F_q2_start F_q2_end E_q2 ) eT (by decide) (by decide) (by decide) (by decide) (lenOf pd_4 rfl) (by rw [hml]; rfl) rfl (Nat.le_of_eq rfl) (hb hby at_190) (pc' := 193) rfl (fun T hn vq Lq X eT hQ => ?_)
          obtain ⟨rfl, Nq, hE⟩ := hQ
          replace N := Fr.app N Nq
          rw [hE] at eT; clear hE
          show WGo _ _ _ _ _ _ _ _ (mkF m 193 #[.val (.int p0), .val (.int p1), .val (.int p2), .val (.int p3), .val (.int p4), .val (.int (p0 &&& (65535 : Int32))), .val (.int (p1 &&& (65535 : Int32))), .val (.int s1), .val (.int e1), .val (.int (p2 &&& (65535 : Int32))), .val (.int (p3 &&& (65535 : Int32))), .val (.int (p4 &&& (3 : Int32))), .val (.int s2), .val (.int e2), .val (.ref q1), .val (.ref q2), .val (.int ((XT.ushr p4 (2 : Int32)) &&& (3 : Int32))), .val (.int (0 : Int32))] [(.int (if s1 = s2 then (if e1 = e2 then (1 : Int32) else 0) else 0))])
          refine g_iload X hx (hb hby at_193) rfl (pc' := 195) rfl ?_
          refine g_icmp X hx (hb hby at_195) (by decide) (pc' := 214) (by decide) (pc2 := 198) rfl (fun hc => ?_) (fun hc => ?_)
          · replace hc := h_ne1 hc
            have hc195 := hc
            exfalso
            first | exact hc (by rw [if_neg hc169]) | exact hc (by rw [if_pos hc169, if_neg hc176]) | exact hc (by rw [if_pos hc169, if_pos hc176])
          · replace hc := h_ne0 hc
            have hc195 := hc
            refine g_aload X hx (hb hby at_198) rfl rfl (pc' := 200) rfl ?_
            refine g_aload X hx (hb hby at_200) rfl rfl (pc' := 202) rfl ?_
            refine g_virt (W := 0) (argsL := [(.ref q1)]) (st := []) X hx hZ hown (hw _ (List.mem_of_getElem? (i := 22) rfl)) (hw _ (List.mem_of_getElem? (i := 23) rfl)) (notFace_of_selects (args := #[]) (mvT hZ (hw _ (List.mem_of_getElem? (i := 25) rfl)))) (hw _ (List.mem_of_getElem? (i := 25) rfl)) (hw _ (List.mem_of_getElem? (i := 24) rfl)) (hw _ (List.mem_of_getElem? (i := 26) rfl)) (hw _ (List.mem_of_getElem? (i := 10) rfl)) (by decide) E_q2 (rmE1 l Z a0 hw q2 q1 s2 e2 s1 e1 h n0 Zn F_q2_start F_q2_end F_q1_start F_q1_end E_q1 ) eT (by decide) (by decide) (by decide) (by decide) (lenOf pd_4 rfl) (by rw [hml]; rfl) rfl (Nat.le_of_eq rfl) (hb hby at_202) (pc' := 205) rfl (fun T hn vq Lq X eT hQ => ?_)
            obtain ⟨rfl, Nq, hE⟩ := hQ
            replace N := Fr.app N Nq
            rw [hE] at eT; clear hE
            show WGo _ _ _ _ _ _ _ _ (mkF m 205 #[.val (.int p0), .val (.int p1), .val (.int p2), .val (.int p3), .val (.int p4), .val (.int (p0 &&& (65535 : Int32))), .val (.int (p1 &&& (65535 : Int32))), .val (.int s1), .val (.int e1), .val (.int (p2 &&& (65535 : Int32))), .val (.int (p3 &&& (65535 : Int32))), .val (.int (p4 &&& (3 : Int32))), .val (.int s2), .val (.int e2), .val (.ref q1), .val (.ref q2), .val (.int ((XT.ushr p4 (2 : Int32)) &&& (3 : Int32))), .val (.int (0 : Int32))] [(.int (if s2 = s1 then (if e2 = e1 then (1 : Int32) else 0) else 0))])
            refine g_iload X hx (hb hby at_205) rfl (pc' := 207) rfl ?_
            refine g_icmp X hx (hb hby at_207) (by decide) (pc' := 214) (by decide) (pc2 := 210) rfl (fun hc => ?_) (fun hc => ?_)
            · replace hc := h_ne1 hc
              have hc207 := hc
              exfalso
              first | exact hc (by rw [if_neg (Ne.symm hc169)]) | exact hc (by rw [if_pos hc169.symm, if_neg (Ne.symm hc176)]) | exact hc (by rw [if_pos hc169.symm, if_pos hc176.symm])
            · replace hc := h_ne0 hc
              have hc207 := hc
              refine g_iconst X hx (hb hby at_210) (x := (1 : Int32)) (by decide) (pc' := 211) rfl ?_
              refine g_goto X hx (hb hby at_211) (by decide) (pc' := 215) (by decide) ?_
              refine g_retN (t := .boolean) X hx hret (by simp) hlk (hb hby at_215) (by decide) (by decide) ?_
              exact ⟨rfl, N⟩
        · replace hc := h_ne0 hc
          have hc176 := hc
          refine g_iconst X hx (hb hby at_179) (x := (1 : Int32)) (by decide) (pc' := 180) rfl ?_
          refine g_goto X hx (hb hby at_180) (by decide) (pc' := 184) (by decide) ?_
          refine g_istore X hx (hb hby at_184) (Ls' := #[.val (.int p0), .val (.int p1), .val (.int p2), .val (.int p3), .val (.int p4), .val (.int (p0 &&& (65535 : Int32))), .val (.int (p1 &&& (65535 : Int32))), .val (.int s1), .val (.int e1), .val (.int (p2 &&& (65535 : Int32))), .val (.int (p3 &&& (65535 : Int32))), .val (.int (p4 &&& (3 : Int32))), .val (.int s2), .val (.int e2), .val (.ref q1), .val (.ref q2), .val (.int ((XT.ushr p4 (2 : Int32)) &&& (3 : Int32))), .val (.int (1 : Int32))]) rfl (pc' := 186) rfl ?_
          refine g_aload X hx (hb hby at_186) rfl rfl (pc' := 188) rfl ?_
          refine g_aload X hx (hb hby at_188) rfl rfl (pc' := 190) rfl ?_
          refine g_virt (W := 0) (argsL := [(.ref q2)]) (st := []) X hx hZ hown (hw _ (List.mem_of_getElem? (i := 22) rfl)) (hw _ (List.mem_of_getElem? (i := 23) rfl)) (notFace_of_selects (args := #[]) (mvT hZ (hw _ (List.mem_of_getElem? (i := 25) rfl)))) (hw _ (List.mem_of_getElem? (i := 25) rfl)) (hw _ (List.mem_of_getElem? (i := 24) rfl)) (hw _ (List.mem_of_getElem? (i := 26) rfl)) (hw _ (List.mem_of_getElem? (i := 10) rfl)) (by decide) E_q1 (rmE1 l Z a0 hw q1 q2 s1 e1 s2 e2 h n0 Zn F_q1_start F_q1_end F_q2_start F_q2_end E_q2 ) eT (by decide) (by decide) (by decide) (by decide) (lenOf pd_4 rfl) (by rw [hml]; rfl) rfl (Nat.le_of_eq rfl) (hb hby at_190) (pc' := 193) rfl (fun T hn vq Lq X eT hQ => ?_)
          obtain ⟨rfl, Nq, hE⟩ := hQ
          replace N := Fr.app N Nq
          rw [hE] at eT; clear hE
          show WGo _ _ _ _ _ _ _ _ (mkF m 193 #[.val (.int p0), .val (.int p1), .val (.int p2), .val (.int p3), .val (.int p4), .val (.int (p0 &&& (65535 : Int32))), .val (.int (p1 &&& (65535 : Int32))), .val (.int s1), .val (.int e1), .val (.int (p2 &&& (65535 : Int32))), .val (.int (p3 &&& (65535 : Int32))), .val (.int (p4 &&& (3 : Int32))), .val (.int s2), .val (.int e2), .val (.ref q1), .val (.ref q2), .val (.int ((XT.ushr p4 (2 : Int32)) &&& (3 : Int32))), .val (.int (1 : Int32))] [(.int (if s1 = s2 then (if e1 = e2 then (1 : Int32) else 0) else 0))])
          refine g_iload X hx (hb hby at_193) rfl (pc' := 195) rfl ?_
          refine g_icmp X hx (hb hby at_195) (by decide) (pc' := 214) (by decide) (pc2 := 198) rfl (fun hc => ?_) (fun hc => ?_)
          · replace hc := h_ne1 hc
            have hc195 := hc
            exfalso
            first | exact hc (by rw [if_neg hc169]) | exact hc (by rw [if_pos hc169, if_neg hc176]) | exact hc (by rw [if_pos hc169, if_pos hc176])
          · replace hc := h_ne0 hc
            have hc195 := hc
            refine g_aload X hx (hb hby at_198) rfl rfl (pc' := 200) rfl ?_
            refine g_aload X hx (hb hby at_200) rfl rfl (pc' := 202) rfl ?_
            refine g_virt (W := 0) (argsL := [(.ref q1)]) (st := []) X hx hZ hown (hw _ (List.mem_of_getElem? (i := 22) rfl)) (hw _ (List.mem_of_getElem? (i := 23) rfl)) (notFace_of_selects (args := #[]) (mvT hZ (hw _ (List.mem_of_getElem? (i := 25) rfl)))) (hw _ (List.mem_of_getElem? (i := 25) rfl)) (hw _ (List.mem_of_getElem? (i := 24) rfl)) (hw _ (List.mem_of_getElem? (i := 26) rfl)) (hw _ (List.mem_of_getElem? (i := 10) rfl)) (by decide) E_q2 (rmE1 l Z a0 hw q2 q1 s2 e2 s1 e1 h n0 Zn F_q2_start F_q2_end F_q1_start F_q1_end E_q1 ) eT (by decide) (by decide) (by decide) (by decide) (lenOf pd_4 rfl) (by rw [hml]; rfl) rfl (Nat.le_of_eq rfl) (hb hby at_202) (pc' := 205) rfl (fun T hn vq Lq X eT hQ => ?_)
            obtain ⟨rfl, Nq, hE⟩ := hQ
            replace N := Fr.app N Nq
            rw [hE] at eT; clear hE
            show WGo _ _ _ _ _ _ _ _ (mkF m 205 #[.val (.int p0), .val (.int p1), .val (.int p2), .val (.int p3), .val (.int p4), .val (.int (p0 &&& (65535 : Int32))), .val (.int (p1 &&& (65535 : Int32))), .val (.int s1), .val (.int e1), .val (.int (p2 &&& (65535 : Int32))), .val (.int (p3 &&& (65535 : Int32))), .val (.int (p4 &&& (3 : Int32))), .val (.int s2), .val (.int e2), .val (.ref q1), .val (.ref q2), .val (.int ((XT.ushr p4 (2 : Int32)) &&& (3 : Int32))), .val (.int (1 : Int32))] [(.int (if s2 = s1 then (if e2 = e1 then (1 : Int32) else 0) else 0))])
            refine g_iload X hx (hb hby at_205) rfl (pc' := 207) rfl ?_
            refine g_icmp X hx (hb hby at_207) (by decide) (pc' := 214) (by decide) (pc2 := 210) rfl (fun hc => ?_) (fun hc => ?_)
            · replace hc := h_ne1 hc
              have hc207 := hc
              exfalso
              first | exact hc (by rw [if_neg (Ne.symm hc169)]) | exact hc (by rw [if_pos hc169.symm, if_neg (Ne.symm hc176)]) | exact hc (by rw [if_pos hc169.symm, if_pos hc176.symm])
            · replace hc := h_ne0 hc
              have hc207 := hc
              refine g_iconst X hx (hb hby at_210) (x := (1 : Int32)) (by decide) (pc' := 211) rfl ?_
              refine g_goto X hx (hb hby at_211) (by decide) (pc' := 215) (by decide) ?_
              refine g_retN (t := .boolean) X hx hret (by simp) hlk (hb hby at_215) (by decide) (by decide) ?_
              exact ⟨rfl, N⟩
set_option maxRecDepth 65536 in
set_option maxHeartbeats 40000000 in
theorem comes_1 {Post : Tables → Env → Array Value → State → Outcome → State → Prop} (hpost : ∀ tb e args s v u, (limb_1_1.after args s (.returned v) u = true ∧ limb_1_2.after args s (.returned v) u = true ∧ True) → FrameEnd s (.returned v) u (Jvm.fieldLocs frame_1_writes args s ++ Jvm.arrayLocs frame_1_arrays args s ++ Jvm.staticLocs frame_1_statics s) 16 128 → Post tb e args s (.returned v) u) :
    ArmFor flags0 classFile x code maxLocals ret World_1 tables_1 room_1 Calls_1 rest_1 Pre_1 Post := by
  intro l hfl _ _ p e ha hc hk s m args below hf hA hF happ hP
  obtain ⟨hcalls, hrest, hpre⟩ := hP
  obtain ⟨-, -, -, hnamed, -, -, -, hat⟩ := (Spec.applies_iff hf).mp happ
  obtain ⟨hg, hn⟩ := and_e (Cond.before_iff.mp (show (Jvm.Cond.and given_1 narrow_1).before args s = true from hpre))
  obtain ⟨gc, gr0⟩ := and_e hg
  obtain ⟨ga0, gr1⟩ := and_e gr0
  obtain ⟨ga1, gr2⟩ := and_e gr1
  obtain ⟨ga2, gr3⟩ := and_e gr2
  obtain ⟨ga3, gr4⟩ := and_e gr3
  obtain ⟨w0, w1, w2, w3, w4, rfl⟩ : ∃ w0 w1 w2 w3 w4 : Value, args = #[w0, w1, w2, w3, w4] := by
    have hs : args.size = 5 := by simpa [Cond.value, given_1] using gc
    obtain ⟨L⟩ := args
    match L, hs with
    | [w0, w1, w2, w3, w4], _ => exact ⟨w0, w1, w2, w3, w4, rfl⟩
  have hw := fun d (hd : d ∈ tables_1) => atoms_spec (ws := Jvm.Cond.code x code maxLocals ret :: tables_1) hat d (List.mem_cons_of_mem _ hd)
  obtain ⟨i0, ei0⟩ := is_v ga0
  obtain rfl : w0 = (.int i0) := Option.some.inj ei0
  obtain ⟨i1, ei1⟩ := is_v ga1
  obtain rfl : w1 = (.int i1) := Option.some.inj ei1
  obtain ⟨i2, ei2⟩ := is_v ga2
  obtain rfl : w2 = (.int i2) := Option.some.inj ei2
  obtain ⟨i3, ei3⟩ := is_v ga3
  obtain rfl : w3 = (.int i3) := Option.some.inj ei3
  obtain ⟨i4, ei4⟩ := is_v gr4
  obtain rfl : w4 = (.int i4) := Option.some.inj ei4
  obtain ⟨hsets, hown0⟩ := atoms_of _ (rest_1_c_eq ▸ (show rest_1_c.before _ s = true from hrest))
  have hfit : Fit s := fun {y c} hc i hi => by
    obtain ⟨ha, rfl⟩ := Array.getElem?_eq_some_iff.mp hc
    have q := List.all_eq_true.mp ((Array.all_eq_true_iff_forall_mem.mp hF) _ (Array.getElem_mem ha)) i (List.mem_range.mpr hi)
    simpa [Array.getElem?_eq_getElem hi] using q
  have eh := eqv_i (Term.int_eval (127)) (Cond.before_iff.mp (hsets _ (List.mem_of_getElem? (i := 3) rfl)))
  have S_high := Sta.start eh (Or.inl (hsets _ (List.mem_of_getElem? (i := 1) rfl)))
  obtain ⟨ca, ec⟩ := exa_v (Cond.before_iff.mp (hsets _ (List.mem_of_getElem? (i := 5) rfl)))
  have S_cache := Sta.start ec (Or.inr ⟨hw _ (List.mem_of_getElem? (i := 34) rfl), (hsets _ (List.mem_of_getElem? (i := 2) rfl))⟩)
  obtain ⟨cc, Ac⟩ := Arr.start ec (Cond.before_iff.mp (hsets _ (List.mem_of_getElem? (i := 4) rfl)))
  have el := eqv_i (Term.int_eval (256)) (Cond.before_iff.mp (hsets _ (List.mem_of_getElem? (i := 6) rfl)))
  have ha' := Ac.fin (Vm.Alike.refl _)
  have h31 := SBG.length_lt ec ha' el
  have e3 : cc.slots.size.toInt32 = 256 := Value.int.inj (Option.some.inj ((len_f ec ha' h31).symm.trans el))
  have hsz : cc.slots.size = 256 := by
    have q := congrArg Int32.toInt e3
    rw [len_toInt h31] at q
    simp only [Int32.reduceToInt] at q
    omega
  have B : Bxs s ca cc "java/lang/Integer" "I" 256 (fun j => .int (j - 128)) := Bxs.start (fun idx => by simpa [Term.eval] using ec) Ac h31 e3 (by decide) (Cond.before_iff.mp (hsets _ (List.mem_of_getElem? (i := 7) rfl))) (fun X j hj h => eqv_i (by
    have q := idx_at (args := #[.int i0, .int i1, .int i2, .int i3, .int i4]) (s := s) (first := s) (o := none) hj
    simp only [Term.eval] at q ⊢
    simp [q]
    exact (back32 hj).1) h)
  obtain ⟨fC, hfC⟩ : ∃ fC : Nat → Value, fC = fun i => (cc.slots[i]?).getD .null := ⟨_, rfl⟩
  have A_ca : Ai s s.heap ca (.object "java/lang/Integer") 256 fC := ⟨cc, Ac, hsz, by decide, fun i hi => by
    rw [hfC]
    show cc.slots[i]? = some ((cc.slots[i]?).getD .null)
    rw [Array.getElem?_eq_getElem (by omega)]
    rfl⟩
  have hcache : ∀ j : Int32, (¬ j < 0) → j.toNatClampNeg < 256 → ∃ b : Addr, fC j.toNatClampNeg = .ref b ∧ Exa s s.heap b "java/lang/Integer" := fun j g1 g2 => by
    obtain ⟨b, q1, q2, -⟩ := B.2.2.2 j (fun z => z.elim g1 fun y => absurd g2 (Nat.not_lt.mpr (hsz ▸ y)))
    exact ⟨b, by rw [hfC]; simp [q1], q2⟩
  obtain ⟨n, o, h1, h2, h3, _, L, rfl, ⟨rfl, N⟩, hq⟩ := rm0 l s _ hw i0 i1 i2 i3 i4 ca fC s.heap s.heap.size (Nat.le_refl _) (Old.start s) S_high S_cache A_ca hcache tables_1 p e ha hc hk s m _ below hf ((Spec.applies_iff_loose hf).mp happ).1 ⟨rfl, State.Warmed39.refl s, rfl⟩ trivial
  refine ⟨n, _, h1, h2, h3, hpost _ _ _ _ _ _ ⟨Cond.after_iff.mpr rfl, Cond.after_iff.mpr (eq_i res_at (Term.int_eval (1)) rfl), trivial⟩ ⟨hq.1, hq.2.1, (hq.2.2.sift fun y hy => Or.inr (N y hy)).mono (by decide) (by decide)⟩⟩
theorem main_1_1 : Claimed_1_1 := comes_1 fun _ _ _ _ _ _ h hF => ⟨h.1, hF⟩
theorem main_1_2 : Claimed_1_2 := comes_1 fun _ _ _ _ _ _ h hF => ⟨h.2.1, hF⟩
end Jvm.Pilot.@@N@@
namespace Jvm.Pilot.@@N@@
open Jvm Jvm.ClassFile Sem Op Lib Jvm.Free Jvm.Stand Jvm.Pilot.@@N@@.Jvm.D
/-! MADE BY PROGRAM (witnessworld.py) out of the Statement's table words and the real class files: 17 classes; the members and pool entries that the words name. The judged class is class 1, her method 1. -/
namespace start1
open Jvm.ClassFile
def u (s : String) : CpInfo := .utf8 (stringToUtf16 s)
/-- a pool by its gaps: so many unusable entries, then the entry; so many at the end -/
def gap : Nat → List CpInfo → List CpInfo
  | 0, r => r
  | n + 1, r => .unusable :: gap n r
def poolList (es : List (Nat × CpInfo)) (last : Nat) : List CpInfo := es.foldr (fun e r => gap e.1 (e.2 :: r)) (gap last [])
def pool (es : List (Nat × CpInfo)) (last : Nat) : Array CpInfo := ⟨poolList es last⟩
def fileOf (pool : Array CpInfo) (this : Nat) (attrs : Array Attribute := #[]) (ms : Array MethodInfo := #[]) (fl : Nat := 33) (sup : Nat := 0) (ifs : Array Nat := #[]) (fds : Array FieldInfo := #[]) : ClassFile where
  minorVersion := 0
  majorVersion := 65
  constantPool := pool
  accessFlags := fl
  thisClass := this
  superClass := sup
  interfaces := ifs
  fields := fds
  methods := ms
  attributes := attrs
def plain (name : String) (sup : Option ClassId) : Class where
  name := name
  kind := .ordinary
  loader := none
  accessFlags := 33
  super := sup
  interfaces := #[]
  cf := none
  fields := #[]
  methods := #[]
  instanceTypes := #[]
  staticTypes := #[]
  resolved := #[]
  callSites := []
  init := .initialized
  statics := none
  mirror := none

def pool0 : Array CpInfo := pool [(5, u "<init>"), (0, u "()V"), (1, .class_ 10), (1, u "java/lang/Object")] 113

def k0c0 : Code := { maxStack := 0, maxLocals := 1, code := object_method_1_code, exceptionTable := #[], attributes := #[] }
def k0m0 : Method := { name := "<init>", desc := "()V", sig := { parameters := [], returnType := none }, accessFlags := 1, code := some k0c0 }
/-- java/lang/Object -/
def k0 : Class := { plain "java/lang/Object" none with
  accessFlags := 33
  interfaces := #[]
  cf := some (fileOf pool0 8 #[] #[{ accessFlags := 1, nameIndex := 5, descriptorIndex := 6, attributes := #[] }] 33 0 #[] #[])
  fields := #[]
  methods := #[k0m0]
  instanceTypes := #[]
  staticTypes := #[]
  resolved := Array.replicate 124 none
  statics := none }

def pool1 : Array CpInfo := pool [(2, .class_ 4), (1, u "java/lang/Object"), (0, u "<init>"), (0, u "()V"), (0, .integer 65535), (0, .methodref 9 10), (0, .class_ 11), (0, .nameAndType 12 13), (0, u "java/lang/Math"), (0, u "min"), (0, u "(II)I"), (0, .methodref 9 15), (0, .nameAndType 16 13), (0, u "max"), (0, .class_ 18), (0, u "com/example/varuna/varuna/layout/HashRange"), (0, .methodref 17 20), (0, .nameAndType 5 21), (0, u "(II)V"), (0, .methodref 17 23), (0, .nameAndType 24 25), (0, u "equals"), (0, u "(Ljava/lang/Object;)Z"), (0, .methodref 27 28), (0, .class_ 29), (0, .nameAndType 30 31), (0, u "java/lang/Integer"), (0, u "valueOf"), (0, u "(I)Ljava/lang/Integer;"), (0, .class_ 33), (0, u "com/example/varuna/varuna/layout/HashRangeEqualsPinLaw"), (2, u "law"), (0, u "(IIIII)Z")] 3

def k1m0 : Method := { name := "<init>", desc := "()V", sig := { parameters := [], returnType := none }, accessFlags := 1, code := none }
def k1c1 : Code := { maxStack := 4, maxLocals := 18, code := code, exceptionTable := #[], attributes := #[] }
def k1m1 : Method := { name := "law", desc := "(IIIII)Z", sig := { parameters := [.int, .int, .int, .int, .int], returnType := some .boolean }, accessFlags := 9, code := some k1c1 }
/-- com/example/varuna/varuna/layout/HashRangeEqualsPinLaw -/
def k1 : Class := { plain "com/example/varuna/varuna/layout/HashRangeEqualsPinLaw" (some 0) with
  accessFlags := 49
  interfaces := #[]
  cf := some (fileOf pool1 32 #[] #[{ accessFlags := 1, nameIndex := 5, descriptorIndex := 6, attributes := #[] }, { accessFlags := 9, nameIndex := 36, descriptorIndex := 37, attributes := #[] }] 49 2 #[] #[])
  fields := #[]
  methods := #[k1m0, k1m1]
  instanceTypes := #[]
  staticTypes := #[]
  resolved := Array.replicate 41 none
  statics := none }

def pool2 : Array CpInfo := pool [(1, .class_ 2), (0, u "java/lang/Math"), (1, .class_ 6), (1, u "java/lang/Object"), (0, u "<init>"), (0, u "()V"), (89, .class_ 100), (1, u "java/lang/Math$RandomNumberGeneratorHolder"), (71, u "negativeZeroFloatBits"), (0, u "J"), (2, u "negativeZeroDoubleBits"), (21, u "max"), (2, u "min"), (43, u "$assertionsDisabled"), (0, u "Z"), (88, u "(II)I"), (2, u "twoToTheDoubleScaleDown"), (0, u "D"), (4, u "twoToTheDoubleScaleUp"), (9, u "E"), (3, u "PI"), (2, u "TAU"), (2, u "DEGREES_TO_RADIANS"), (0, u "RADIANS_TO_DEGREES")] 94

def k2m0 : Method := { name := "<init>", desc := "()V", sig := { parameters := [], returnType := none }, accessFlags := 2, code := none }
def k2c1 : Code := { maxStack := 2, maxLocals := 2, code := jdk_29_method_65_code, exceptionTable := #[], attributes := #[] }
def k2m1 : Method := { name := "max", desc := "(II)I", sig := { parameters := [.int, .int], returnType := some .int }, accessFlags := 9, code := some k2c1 }
def k2c2 : Code := { maxStack := 2, maxLocals := 2, code := jdk_29_method_69_code, exceptionTable := #[], attributes := #[] }
def k2m2 : Method := { name := "min", desc := "(II)I", sig := { parameters := [.int, .int], returnType := some .int }, accessFlags := 9, code := some k2c2 }
/-- java/lang/Math -/
def k2 : Class := { plain "java/lang/Math" (some 0) with
  accessFlags := 49
  interfaces := #[]
  cf := some (fileOf pool2 1 #[.nestMembers #[98]] #[{ accessFlags := 2, nameIndex := 7, descriptorIndex := 8, attributes := #[] }, { accessFlags := 9, nameIndex := 198, descriptorIndex := 335, attributes := #[] }, { accessFlags := 9, nameIndex := 201, descriptorIndex := 335, attributes := #[] }] 49 4 #[] #[{ accessFlags := 25, nameIndex := 354, descriptorIndex := 339, attributes := #[] }, { accessFlags := 25, nameIndex := 358, descriptorIndex := 339, attributes := #[] }, { accessFlags := 25, nameIndex := 361, descriptorIndex := 339, attributes := #[] }, { accessFlags := 26, nameIndex := 364, descriptorIndex := 339, attributes := #[] }, { accessFlags := 26, nameIndex := 365, descriptorIndex := 339, attributes := #[] }, { accessFlags := 26, nameIndex := 172, descriptorIndex := 173, attributes := #[] }, { accessFlags := 26, nameIndex := 176, descriptorIndex := 173, attributes := #[] }, { accessFlags := 8, nameIndex := 344, descriptorIndex := 339, attributes := #[] }, { accessFlags := 8, nameIndex := 338, descriptorIndex := 339, attributes := #[] }, { accessFlags := 4120, nameIndex := 245, descriptorIndex := 246, attributes := #[] }])
  fields := #[{ name := "E", type := .double, accessFlags := 25, slot := 0, constantValue := 0 }, { name := "PI", type := .double, accessFlags := 25, slot := 1, constantValue := 0 }, { name := "TAU", type := .double, accessFlags := 25, slot := 2, constantValue := 0 }, { name := "DEGREES_TO_RADIANS", type := .double, accessFlags := 26, slot := 3, constantValue := 0 }, { name := "RADIANS_TO_DEGREES", type := .double, accessFlags := 26, slot := 4, constantValue := 0 }, { name := "negativeZeroFloatBits", type := .long, accessFlags := 26, slot := 5, constantValue := 0 }, { name := "negativeZeroDoubleBits", type := .long, accessFlags := 26, slot := 6, constantValue := 0 }, { name := "twoToTheDoubleScaleUp", type := .double, accessFlags := 8, slot := 7, constantValue := 0 }, { name := "twoToTheDoubleScaleDown", type := .double, accessFlags := 8, slot := 8, constantValue := 0 }, { name := "$assertionsDisabled", type := .boolean, accessFlags := 4120, slot := 9, constantValue := 0 }]
  methods := #[k2m0, k2m1, k2m2]
  instanceTypes := #[]
  staticTypes := #[.double, .double, .double, .double, .double, .long, .long, .double, .double, .boolean]
  resolved := Array.replicate 460 none
  statics := none }

def pool3 : Array CpInfo := pool [(1, .methodref 2 3), (0, .class_ 4), (0, .nameAndType 5 6), (0, u "java/lang/Object"), (0, u "<init>"), (0, u "()V"), (2, .integer 65536), (9, .fieldref 20 21), (0, .class_ 22), (0, .nameAndType 23 24), (0, u "com/example/varuna/varuna/layout/HashRange"), (0, u "start"), (0, u "I"), (0, .fieldref 20 26), (0, .nameAndType 27 24), (0, u "end"), (1, u "(II)V"), (6, u "equals"), (0, u "(Ljava/lang/Object;)Z")] 22

def k3c0 : Code := { maxStack := 4, maxLocals := 3, code := prog_24_method_1_code, exceptionTable := #[], attributes := #[] }
def k3m0 : Method := { name := "<init>", desc := "(II)V", sig := { parameters := [.int, .int], returnType := none }, accessFlags := 1, code := some k3c0 }
def k3c1 : Code := { maxStack := 2, maxLocals := 2, code := prog_24_method_5_code, exceptionTable := #[], attributes := #[] }
def k3m1 : Method := { name := "equals", desc := "(Ljava/lang/Object;)Z", sig := { parameters := [(.object "java/lang/Object")], returnType := some .boolean }, accessFlags := 1, code := some k3c1 }
/-- com/example/varuna/varuna/layout/HashRange -/
def k3 : Class := { plain "com/example/varuna/varuna/layout/HashRange" (some 0) with
  accessFlags := 33
  interfaces := #[]
  cf := some (fileOf pool3 20 #[] #[{ accessFlags := 1, nameIndex := 5, descriptorIndex := 29, attributes := #[] }, { accessFlags := 1, nameIndex := 36, descriptorIndex := 37, attributes := #[] }] 33 2 #[] #[{ accessFlags := 18, nameIndex := 23, descriptorIndex := 24, attributes := #[] }, { accessFlags := 18, nameIndex := 27, descriptorIndex := 24, attributes := #[] }])
  fields := #[{ name := "start", type := .int, accessFlags := 18, slot := 0, constantValue := 0 }, { name := "end", type := .int, accessFlags := 18, slot := 1, constantValue := 0 }]
  methods := #[k3m0, k3m1]
  instanceTypes := #[.int, .int]
  staticTypes := #[]
  resolved := Array.replicate 60 none
  statics := none }

def pool4 : Array CpInfo := pool [(1, .class_ 2), (0, u "java/io/Serializable"), (0, .class_ 4), (0, u "java/lang/Object")] 2

/-- java/io/Serializable -/
def k4 : Class := { plain "java/io/Serializable" (some 0) with
  accessFlags := 1537
  interfaces := #[]
  cf := some (fileOf pool4 1 #[] #[] 1537 3 #[] #[])
  fields := #[]
  methods := #[]
  instanceTypes := #[]
  staticTypes := #[]
  resolved := Array.replicate 7 none
  statics := none }

def pool5 : Array CpInfo := pool [(1, .methodref 2 3), (0, .class_ 4), (0, .nameAndType 5 6), (0, u "java/lang/Object"), (0, u "<init>"), (0, u "()V"), (1, .class_ 10), (1, u "java/lang/Number"), (2, .class_ 14), (0, u "java/io/Serializable"), (0, u "serialVersionUID"), (0, u "J")] 20

def k5c0 : Code := { maxStack := 1, maxLocals := 1, code := jdk_18_method_1_code, exceptionTable := #[], attributes := #[] }
def k5m0 : Method := { name := "<init>", desc := "()V", sig := { parameters := [], returnType := none }, accessFlags := 1, code := some k5c0 }
/-- java/lang/Number -/
def k5 : Class := { plain "java/lang/Number" (some 0) with
  accessFlags := 1057
  interfaces := #[4]
  cf := some (fileOf pool5 8 #[] #[{ accessFlags := 1, nameIndex := 5, descriptorIndex := 6, attributes := #[] }] 1057 2 #[13] #[{ accessFlags := 26, nameIndex := 15, descriptorIndex := 16, attributes := #[] }])
  fields := #[{ name := "serialVersionUID", type := .long, accessFlags := 26, slot := 0, constantValue := 0 }]
  methods := #[k5m0]
  instanceTypes := #[]
  staticTypes := #[.long]
  resolved := Array.replicate 37 none
  statics := none }

def pool6 : Array CpInfo := pool [(1, .class_ 2), (0, u "java/lang/Comparable"), (0, .class_ 4), (0, u "java/lang/Object")] 7

/-- java/lang/Comparable -/
def k6 : Class := { plain "java/lang/Comparable" (some 0) with
  accessFlags := 1537
  interfaces := #[]
  cf := some (fileOf pool6 1 #[] #[] 1537 3 #[] #[])
  fields := #[]
  methods := #[]
  instanceTypes := #[]
  staticTypes := #[]
  resolved := Array.replicate 12 none
  statics := none }

def pool7 : Array CpInfo := pool [(1, .class_ 2), (0, u "java/lang/constant/Constable"), (0, .class_ 4), (0, u "java/lang/Object")] 6

/-- java/lang/constant/Constable -/
def k7 : Class := { plain "java/lang/constant/Constable" (some 0) with
  accessFlags := 1537
  interfaces := #[]
  cf := some (fileOf pool7 1 #[] #[] 1537 3 #[] #[])
  fields := #[]
  methods := #[]
  instanceTypes := #[]
  staticTypes := #[]
  resolved := Array.replicate 11 none
  statics := none }

def pool8 : Array CpInfo := pool [(1, .class_ 2), (0, u "java/lang/constant/ConstantDesc"), (0, .class_ 4), (0, u "java/lang/Object")] 32

/-- java/lang/constant/ConstantDesc -/
def k8 : Class := { plain "java/lang/constant/ConstantDesc" (some 0) with
  accessFlags := 1537
  interfaces := #[]
  cf := some (fileOf pool8 1 #[] #[] 1537 3 #[] #[])
  fields := #[]
  methods := #[]
  instanceTypes := #[]
  staticTypes := #[]
  resolved := Array.replicate 37 none
  statics := none }

def pool9 : Array CpInfo := pool [(1, .class_ 2), (0, u "java/lang/Integer"), (16, u "digits"), (0, u "[C"), (46, u "<init>"), (17, u "DigitOnes"), (0, u "[B"), (2, u "DigitTens"), (10, .nameAndType 67 101), (0, u "()V"), (85, u "valueOf"), (0, u "(I)Ljava/lang/Integer;"), (0, .class_ 190), (0, u "java/lang/Integer$IntegerCache"), (0, .fieldref 189 192), (0, .nameAndType 193 194), (0, u "high"), (0, u "I"), (0, .fieldref 189 196), (0, .nameAndType 197 198), (0, u "cache"), (0, u "[Ljava/lang/Integer;"), (0, .methodref 1 200), (0, .nameAndType 67 201), (0, u "(I)V"), (0, .methodref 203 100), (0, .class_ 204), (0, u "java/lang/Number"), (0, .fieldref 1 206), (0, .nameAndType 207 194), (0, u "value"), (94, u "TYPE"), (0, u "Ljava/lang/Class;"), (0, .class_ 305), (0, u "java/lang/Comparable"), (0, .class_ 307), (0, u "java/lang/constant/Constable"), (0, .class_ 309), (0, u "java/lang/constant/ConstantDesc"), (0, u "MIN_VALUE"), (1, u "MAX_VALUE"), (3, u "SIZE"), (1, u "BYTES"), (1, u "serialVersionUID"), (0, u "J")] 131

def k9c0 : Code := { maxStack := 3, maxLocals := 1, code := jdk_33_method_22_code, exceptionTable := #[], attributes := #[] }
def k9m0 : Method := { name := "valueOf", desc := "(I)Ljava/lang/Integer;", sig := { parameters := [.int], returnType := some (.object "java/lang/Integer") }, accessFlags := 9, code := some k9c0 }
def k9c1 : Code := { maxStack := 2, maxLocals := 2, code := jdk_33_method_23_code, exceptionTable := #[], attributes := #[] }
def k9m1 : Method := { name := "<init>", desc := "(I)V", sig := { parameters := [.int], returnType := none }, accessFlags := 1, code := some k9c1 }
/-- java/lang/Integer -/
def k9 : Class := { plain "java/lang/Integer" (some 5) with
  accessFlags := 49
  interfaces := #[6, 7, 8]
  cf := some (fileOf pool9 1 #[.nestMembers #[189]] #[{ accessFlags := 9, nameIndex := 187, descriptorIndex := 188, attributes := #[] }, { accessFlags := 1, nameIndex := 67, descriptorIndex := 201, attributes := #[] }] 49 203 #[304, 306, 308] #[{ accessFlags := 25, nameIndex := 310, descriptorIndex := 194, attributes := #[] }, { accessFlags := 25, nameIndex := 312, descriptorIndex := 194, attributes := #[] }, { accessFlags := 25, nameIndex := 302, descriptorIndex := 303, attributes := #[] }, { accessFlags := 24, nameIndex := 19, descriptorIndex := 20, attributes := #[] }, { accessFlags := 24, nameIndex := 89, descriptorIndex := 86, attributes := #[] }, { accessFlags := 24, nameIndex := 85, descriptorIndex := 86, attributes := #[] }, { accessFlags := 18, nameIndex := 207, descriptorIndex := 194, attributes := #[] }, { accessFlags := 25, nameIndex := 316, descriptorIndex := 194, attributes := #[] }, { accessFlags := 25, nameIndex := 318, descriptorIndex := 194, attributes := #[] }, { accessFlags := 26, nameIndex := 320, descriptorIndex := 321, attributes := #[] }])
  fields := #[{ name := "MIN_VALUE", type := .int, accessFlags := 25, slot := 0, constantValue := 0 }, { name := "MAX_VALUE", type := .int, accessFlags := 25, slot := 1, constantValue := 0 }, { name := "TYPE", type := (.object "java/lang/Class"), accessFlags := 25, slot := 2, constantValue := 0 }, { name := "digits", type := (.array .char), accessFlags := 24, slot := 3, constantValue := 0 }, { name := "DigitTens", type := (.array .byte), accessFlags := 24, slot := 4, constantValue := 0 }, { name := "DigitOnes", type := (.array .byte), accessFlags := 24, slot := 5, constantValue := 0 }, { name := "value", type := .int, accessFlags := 18, slot := 0, constantValue := 0 }, { name := "SIZE", type := .int, accessFlags := 25, slot := 6, constantValue := 0 }, { name := "BYTES", type := .int, accessFlags := 25, slot := 7, constantValue := 0 }, { name := "serialVersionUID", type := .long, accessFlags := 26, slot := 8, constantValue := 0 }]
  methods := #[k9m0, k9m1]
  instanceTypes := #[.int]
  staticTypes := #[.int, .int, (.object "java/lang/Class"), (.array .char), (.array .byte), (.array .byte), .int, .int, .long]
  resolved := Array.replicate 453 none
  statics := none }

def pool10 : Array CpInfo := pool [(2, .class_ 4), (1, u "java/lang/Object"), (0, u "<init>"), (0, u "()V"), (0, .class_ 8), (0, u "java/lang/Integer"), (7, .class_ 18), (1, u "java/lang/Integer$IntegerCache"), (0, u "$assertionsDisabled"), (0, u "Z"), (26, u "high"), (0, u "I"), (8, u "archivedCache"), (0, u "[Ljava/lang/Integer;"), (12, u "cache"), (0, u "low")] 27

def k10m0 : Method := { name := "<init>", desc := "()V", sig := { parameters := [], returnType := none }, accessFlags := 2, code := none }
/-- java/lang/Integer$IntegerCache -/
def k10 : Class := { plain "java/lang/Integer$IntegerCache" (some 0) with
  accessFlags := 48
  interfaces := #[]
  cf := some (fileOf pool10 16 #[.nestHost 7] #[{ accessFlags := 2, nameIndex := 5, descriptorIndex := 6, attributes := #[] }] 48 2 #[] #[{ accessFlags := 24, nameIndex := 72, descriptorIndex := 48, attributes := #[] }, { accessFlags := 24, nameIndex := 47, descriptorIndex := 48, attributes := #[] }, { accessFlags := 24, nameIndex := 71, descriptorIndex := 58, attributes := #[] }, { accessFlags := 8, nameIndex := 57, descriptorIndex := 58, attributes := #[] }, { accessFlags := 4120, nameIndex := 19, descriptorIndex := 20, attributes := #[] }])
  fields := #[{ name := "low", type := .int, accessFlags := 24, slot := 0, constantValue := 0 }, { name := "high", type := .int, accessFlags := 24, slot := 1, constantValue := 0 }, { name := "cache", type := (.array (.object "java/lang/Integer")), accessFlags := 24, slot := 2, constantValue := 0 }, { name := "archivedCache", type := (.array (.object "java/lang/Integer")), accessFlags := 8, slot := 3, constantValue := 0 }, { name := "$assertionsDisabled", type := .boolean, accessFlags := 4120, slot := 4, constantValue := 0 }]
  methods := #[k10m0]
  instanceTypes := #[]
  staticTypes := #[.int, .int, (.array (.object "java/lang/Integer")), (.array (.object "java/lang/Integer")), .boolean]
  resolved := Array.replicate 100 none
  statics := some 0 }

def pool11 : Array CpInfo := pool [(1, u "java/lang/Cloneable"), (0, .class_ 1), (0, u "java/lang/Object"), (0, .class_ 3)] 3

/-- java/lang/Cloneable -/
def k11 : Class := { plain "java/lang/Cloneable" (some 0) with
  accessFlags := 1537
  interfaces := #[]
  cf := some (fileOf pool11 2 #[] #[] 1537 4 #[] #[])
  fields := #[]
  methods := #[]
  instanceTypes := #[]
  staticTypes := #[]
  resolved := Array.replicate 8 none
  statics := none }

/-- the primitive byte -/
def k12 : Class := { plain "byte" none with kind := .primitive 'B', accessFlags := 0x411 }
/-- [B -/
def k13 : Class := { plain "[B" (some 0) with kind := .array 12 .byte, interfaces := #[11, 4], accessFlags := 1041 }

/-- the primitive int -/
def k14 : Class := { plain "int" none with kind := .primitive 'I', accessFlags := 0x411 }
/-- [I -/
def k15 : Class := { plain "[I" (some 0) with kind := .array 14 .int, interfaces := #[11, 4], accessFlags := 1041 }

/-- [Ljava/lang/Integer; -/
def k16 : Class := { plain "[Ljava/lang/Integer;" (some 0) with kind := .array 9 (.object "java/lang/Integer"), interfaces := #[11, 4], accessFlags := 1041 }

def heap : Heap := #[{ cls := 10, slots := #[.int 0, .int 127, .ref 1, .null, .int 0], vm := .statics 10 },
  { cls := 16, slots := #[.ref 2, .ref 3, .ref 4, .ref 5, .ref 6, .ref 7, .ref 8, .ref 9, .ref 10, .ref 11, .ref 12, .ref 13, .ref 14, .ref 15, .ref 16, .ref 17, .ref 18, .ref 19, .ref 20, .ref 21, .ref 22, .ref 23, .ref 24, .ref 25, .ref 26, .ref 27, .ref 28, .ref 29, .ref 30, .ref 31, .ref 32, .ref 33, .ref 34, .ref 35, .ref 36, .ref 37, .ref 38, .ref 39, .ref 40, .ref 41, .ref 42, .ref 43, .ref 44, .ref 45, .ref 46, .ref 47, .ref 48, .ref 49, .ref 50, .ref 51, .ref 52, .ref 53, .ref 54, .ref 55, .ref 56, .ref 57, .ref 58, .ref 59, .ref 60, .ref 61, .ref 62, .ref 63, .ref 64, .ref 65, .ref 66, .ref 67, .ref 68, .ref 69, .ref 70, .ref 71, .ref 72, .ref 73, .ref 74, .ref 75, .ref 76, .ref 77, .ref 78, .ref 79, .ref 80, .ref 81, .ref 82, .ref 83, .ref 84, .ref 85, .ref 86, .ref 87, .ref 88, .ref 89, .ref 90, .ref 91, .ref 92, .ref 93, .ref 94, .ref 95, .ref 96, .ref 97, .ref 98, .ref 99, .ref 100, .ref 101, .ref 102, .ref 103, .ref 104, .ref 105, .ref 106, .ref 107, .ref 108, .ref 109, .ref 110, .ref 111, .ref 112, .ref 113, .ref 114, .ref 115, .ref 116, .ref 117, .ref 118, .ref 119, .ref 120, .ref 121, .ref 122, .ref 123, .ref 124, .ref 125, .ref 126, .ref 127, .ref 128, .ref 129, .ref 130, .ref 131, .ref 132, .ref 133, .ref 134, .ref 135, .ref 136, .ref 137, .ref 138, .ref 139, .ref 140, .ref 141, .ref 142, .ref 143, .ref 144, .ref 145, .ref 146, .ref 147, .ref 148, .ref 149, .ref 150, .ref 151, .ref 152, .ref 153, .ref 154, .ref 155, .ref 156, .ref 157, .ref 158, .ref 159, .ref 160, .ref 161, .ref 162, .ref 163, .ref 164, .ref 165, .ref 166, .ref 167, .ref 168, .ref 169, .ref 170, .ref 171, .ref 172, .ref 173, .ref 174, .ref 175, .ref 176, .ref 177, .ref 178, .ref 179, .ref 180, .ref 181, .ref 182, .ref 183, .ref 184, .ref 185, .ref 186, .ref 187, .ref 188, .ref 189, .ref 190, .ref 191, .ref 192, .ref 193, .ref 194, .ref 195, .ref 196, .ref 197, .ref 198, .ref 199, .ref 200, .ref 201, .ref 202, .ref 203, .ref 204, .ref 205, .ref 206, .ref 207, .ref 208, .ref 209, .ref 210, .ref 211, .ref 212, .ref 213, .ref 214, .ref 215, .ref 216, .ref 217, .ref 218, .ref 219, .ref 220, .ref 221, .ref 222, .ref 223, .ref 224, .ref 225, .ref 226, .ref 227, .ref 228, .ref 229, .ref 230, .ref 231, .ref 232, .ref 233, .ref 234, .ref 235, .ref 236, .ref 237, .ref 238, .ref 239, .ref 240, .ref 241, .ref 242, .ref 243, .ref 244, .ref 245, .ref 246, .ref 247, .ref 248, .ref 249, .ref 250, .ref 251, .ref 252, .ref 253, .ref 254, .ref 255, .ref 256, .ref 257], vm := .none },
  { cls := 9, slots := #[.int (-128)], vm := .none },
  { cls := 9, slots := #[.int (-127)], vm := .none },
  { cls := 9, slots := #[.int (-126)], vm := .none },
  { cls := 9, slots := #[.int (-125)], vm := .none },
  { cls := 9, slots := #[.int (-124)], vm := .none },
  { cls := 9, slots := #[.int (-123)], vm := .none },
  { cls := 9, slots := #[.int (-122)], vm := .none },
  { cls := 9, slots := #[.int (-121)], vm := .none },
  { cls := 9, slots := #[.int (-120)], vm := .none },
  { cls := 9, slots := #[.int (-119)], vm := .none },
  { cls := 9, slots := #[.int (-118)], vm := .none },
  { cls := 9, slots := #[.int (-117)], vm := .none },
  { cls := 9, slots := #[.int (-116)], vm := .none },
  { cls := 9, slots := #[.int (-115)], vm := .none },
  { cls := 9, slots := #[.int (-114)], vm := .none },
  { cls := 9, slots := #[.int (-113)], vm := .none },
  { cls := 9, slots := #[.int (-112)], vm := .none },
  { cls := 9, slots := #[.int (-111)], vm := .none },
  { cls := 9, slots := #[.int (-110)], vm := .none },
  { cls := 9, slots := #[.int (-109)], vm := .none },
  { cls := 9, slots := #[.int (-108)], vm := .none },
  { cls := 9, slots := #[.int (-107)], vm := .none },
  { cls := 9, slots := #[.int (-106)], vm := .none },
  { cls := 9, slots := #[.int (-105)], vm := .none },
  { cls := 9, slots := #[.int (-104)], vm := .none },
  { cls := 9, slots := #[.int (-103)], vm := .none },
  { cls := 9, slots := #[.int (-102)], vm := .none },
  { cls := 9, slots := #[.int (-101)], vm := .none },
  { cls := 9, slots := #[.int (-100)], vm := .none },
  { cls := 9, slots := #[.int (-99)], vm := .none },
  { cls := 9, slots := #[.int (-98)], vm := .none },
  { cls := 9, slots := #[.int (-97)], vm := .none },
  { cls := 9, slots := #[.int (-96)], vm := .none },
  { cls := 9, slots := #[.int (-95)], vm := .none },
  { cls := 9, slots := #[.int (-94)], vm := .none },
  { cls := 9, slots := #[.int (-93)], vm := .none },
  { cls := 9, slots := #[.int (-92)], vm := .none },
  { cls := 9, slots := #[.int (-91)], vm := .none },
  { cls := 9, slots := #[.int (-90)], vm := .none },
  { cls := 9, slots := #[.int (-89)], vm := .none },
  { cls := 9, slots := #[.int (-88)], vm := .none },
  { cls := 9, slots := #[.int (-87)], vm := .none },
  { cls := 9, slots := #[.int (-86)], vm := .none },
  { cls := 9, slots := #[.int (-85)], vm := .none },
  { cls := 9, slots := #[.int (-84)], vm := .none },
  { cls := 9, slots := #[.int (-83)], vm := .none },
  { cls := 9, slots := #[.int (-82)], vm := .none },
  { cls := 9, slots := #[.int (-81)], vm := .none },
  { cls := 9, slots := #[.int (-80)], vm := .none },
  { cls := 9, slots := #[.int (-79)], vm := .none },
  { cls := 9, slots := #[.int (-78)], vm := .none },
  { cls := 9, slots := #[.int (-77)], vm := .none },
  { cls := 9, slots := #[.int (-76)], vm := .none },
  { cls := 9, slots := #[.int (-75)], vm := .none },
  { cls := 9, slots := #[.int (-74)], vm := .none },
  { cls := 9, slots := #[.int (-73)], vm := .none },
  { cls := 9, slots := #[.int (-72)], vm := .none },
  { cls := 9, slots := #[.int (-71)], vm := .none },
  { cls := 9, slots := #[.int (-70)], vm := .none },
  { cls := 9, slots := #[.int (-69)], vm := .none },
  { cls := 9, slots := #[.int (-68)], vm := .none },
  { cls := 9, slots := #[.int (-67)], vm := .none },
  { cls := 9, slots := #[.int (-66)], vm := .none },
  { cls := 9, slots := #[.int (-65)], vm := .none },
  { cls := 9, slots := #[.int (-64)], vm := .none },
  { cls := 9, slots := #[.int (-63)], vm := .none },
  { cls := 9, slots := #[.int (-62)], vm := .none },
  { cls := 9, slots := #[.int (-61)], vm := .none },
  { cls := 9, slots := #[.int (-60)], vm := .none },
  { cls := 9, slots := #[.int (-59)], vm := .none },
  { cls := 9, slots := #[.int (-58)], vm := .none },
  { cls := 9, slots := #[.int (-57)], vm := .none },
  { cls := 9, slots := #[.int (-56)], vm := .none },
  { cls := 9, slots := #[.int (-55)], vm := .none },
  { cls := 9, slots := #[.int (-54)], vm := .none },
  { cls := 9, slots := #[.int (-53)], vm := .none },
  { cls := 9, slots := #[.int (-52)], vm := .none },
  { cls := 9, slots := #[.int (-51)], vm := .none },
  { cls := 9, slots := #[.int (-50)], vm := .none },
  { cls := 9, slots := #[.int (-49)], vm := .none },
  { cls := 9, slots := #[.int (-48)], vm := .none },
  { cls := 9, slots := #[.int (-47)], vm := .none },
  { cls := 9, slots := #[.int (-46)], vm := .none },
  { cls := 9, slots := #[.int (-45)], vm := .none },
  { cls := 9, slots := #[.int (-44)], vm := .none },
  { cls := 9, slots := #[.int (-43)], vm := .none },
  { cls := 9, slots := #[.int (-42)], vm := .none },
  { cls := 9, slots := #[.int (-41)], vm := .none },
  { cls := 9, slots := #[.int (-40)], vm := .none },
  { cls := 9, slots := #[.int (-39)], vm := .none },
  { cls := 9, slots := #[.int (-38)], vm := .none },
  { cls := 9, slots := #[.int (-37)], vm := .none },
  { cls := 9, slots := #[.int (-36)], vm := .none },
  { cls := 9, slots := #[.int (-35)], vm := .none },
  { cls := 9, slots := #[.int (-34)], vm := .none },
  { cls := 9, slots := #[.int (-33)], vm := .none },
  { cls := 9, slots := #[.int (-32)], vm := .none },
  { cls := 9, slots := #[.int (-31)], vm := .none },
  { cls := 9, slots := #[.int (-30)], vm := .none },
  { cls := 9, slots := #[.int (-29)], vm := .none },
  { cls := 9, slots := #[.int (-28)], vm := .none },
  { cls := 9, slots := #[.int (-27)], vm := .none },
  { cls := 9, slots := #[.int (-26)], vm := .none },
  { cls := 9, slots := #[.int (-25)], vm := .none },
  { cls := 9, slots := #[.int (-24)], vm := .none },
  { cls := 9, slots := #[.int (-23)], vm := .none },
  { cls := 9, slots := #[.int (-22)], vm := .none },
  { cls := 9, slots := #[.int (-21)], vm := .none },
  { cls := 9, slots := #[.int (-20)], vm := .none },
  { cls := 9, slots := #[.int (-19)], vm := .none },
  { cls := 9, slots := #[.int (-18)], vm := .none },
  { cls := 9, slots := #[.int (-17)], vm := .none },
  { cls := 9, slots := #[.int (-16)], vm := .none },
  { cls := 9, slots := #[.int (-15)], vm := .none },
  { cls := 9, slots := #[.int (-14)], vm := .none },
  { cls := 9, slots := #[.int (-13)], vm := .none },
  { cls := 9, slots := #[.int (-12)], vm := .none },
  { cls := 9, slots := #[.int (-11)], vm := .none },
  { cls := 9, slots := #[.int (-10)], vm := .none },
  { cls := 9, slots := #[.int (-9)], vm := .none },
  { cls := 9, slots := #[.int (-8)], vm := .none },
  { cls := 9, slots := #[.int (-7)], vm := .none },
  { cls := 9, slots := #[.int (-6)], vm := .none },
  { cls := 9, slots := #[.int (-5)], vm := .none },
  { cls := 9, slots := #[.int (-4)], vm := .none },
  { cls := 9, slots := #[.int (-3)], vm := .none },
  { cls := 9, slots := #[.int (-2)], vm := .none },
  { cls := 9, slots := #[.int (-1)], vm := .none },
  { cls := 9, slots := #[.int 0], vm := .none },
  { cls := 9, slots := #[.int 1], vm := .none },
  { cls := 9, slots := #[.int 2], vm := .none },
  { cls := 9, slots := #[.int 3], vm := .none },
  { cls := 9, slots := #[.int 4], vm := .none },
  { cls := 9, slots := #[.int 5], vm := .none },
  { cls := 9, slots := #[.int 6], vm := .none },
  { cls := 9, slots := #[.int 7], vm := .none },
  { cls := 9, slots := #[.int 8], vm := .none },
  { cls := 9, slots := #[.int 9], vm := .none },
  { cls := 9, slots := #[.int 10], vm := .none },
  { cls := 9, slots := #[.int 11], vm := .none },
  { cls := 9, slots := #[.int 12], vm := .none },
  { cls := 9, slots := #[.int 13], vm := .none },
  { cls := 9, slots := #[.int 14], vm := .none },
  { cls := 9, slots := #[.int 15], vm := .none },
  { cls := 9, slots := #[.int 16], vm := .none },
  { cls := 9, slots := #[.int 17], vm := .none },
  { cls := 9, slots := #[.int 18], vm := .none },
  { cls := 9, slots := #[.int 19], vm := .none },
  { cls := 9, slots := #[.int 20], vm := .none },
  { cls := 9, slots := #[.int 21], vm := .none },
  { cls := 9, slots := #[.int 22], vm := .none },
  { cls := 9, slots := #[.int 23], vm := .none },
  { cls := 9, slots := #[.int 24], vm := .none },
  { cls := 9, slots := #[.int 25], vm := .none },
  { cls := 9, slots := #[.int 26], vm := .none },
  { cls := 9, slots := #[.int 27], vm := .none },
  { cls := 9, slots := #[.int 28], vm := .none },
  { cls := 9, slots := #[.int 29], vm := .none },
  { cls := 9, slots := #[.int 30], vm := .none },
  { cls := 9, slots := #[.int 31], vm := .none },
  { cls := 9, slots := #[.int 32], vm := .none },
  { cls := 9, slots := #[.int 33], vm := .none },
  { cls := 9, slots := #[.int 34], vm := .none },
  { cls := 9, slots := #[.int 35], vm := .none },
  { cls := 9, slots := #[.int 36], vm := .none },
  { cls := 9, slots := #[.int 37], vm := .none },
  { cls := 9, slots := #[.int 38], vm := .none },
  { cls := 9, slots := #[.int 39], vm := .none },
  { cls := 9, slots := #[.int 40], vm := .none },
  { cls := 9, slots := #[.int 41], vm := .none },
  { cls := 9, slots := #[.int 42], vm := .none },
  { cls := 9, slots := #[.int 43], vm := .none },
  { cls := 9, slots := #[.int 44], vm := .none },
  { cls := 9, slots := #[.int 45], vm := .none },
  { cls := 9, slots := #[.int 46], vm := .none },
  { cls := 9, slots := #[.int 47], vm := .none },
  { cls := 9, slots := #[.int 48], vm := .none },
  { cls := 9, slots := #[.int 49], vm := .none },
  { cls := 9, slots := #[.int 50], vm := .none },
  { cls := 9, slots := #[.int 51], vm := .none },
  { cls := 9, slots := #[.int 52], vm := .none },
  { cls := 9, slots := #[.int 53], vm := .none },
  { cls := 9, slots := #[.int 54], vm := .none },
  { cls := 9, slots := #[.int 55], vm := .none },
  { cls := 9, slots := #[.int 56], vm := .none },
  { cls := 9, slots := #[.int 57], vm := .none },
  { cls := 9, slots := #[.int 58], vm := .none },
  { cls := 9, slots := #[.int 59], vm := .none },
  { cls := 9, slots := #[.int 60], vm := .none },
  { cls := 9, slots := #[.int 61], vm := .none },
  { cls := 9, slots := #[.int 62], vm := .none },
  { cls := 9, slots := #[.int 63], vm := .none },
  { cls := 9, slots := #[.int 64], vm := .none },
  { cls := 9, slots := #[.int 65], vm := .none },
  { cls := 9, slots := #[.int 66], vm := .none },
  { cls := 9, slots := #[.int 67], vm := .none },
  { cls := 9, slots := #[.int 68], vm := .none },
  { cls := 9, slots := #[.int 69], vm := .none },
  { cls := 9, slots := #[.int 70], vm := .none },
  { cls := 9, slots := #[.int 71], vm := .none },
  { cls := 9, slots := #[.int 72], vm := .none },
  { cls := 9, slots := #[.int 73], vm := .none },
  { cls := 9, slots := #[.int 74], vm := .none },
  { cls := 9, slots := #[.int 75], vm := .none },
  { cls := 9, slots := #[.int 76], vm := .none },
  { cls := 9, slots := #[.int 77], vm := .none },
  { cls := 9, slots := #[.int 78], vm := .none },
  { cls := 9, slots := #[.int 79], vm := .none },
  { cls := 9, slots := #[.int 80], vm := .none },
  { cls := 9, slots := #[.int 81], vm := .none },
  { cls := 9, slots := #[.int 82], vm := .none },
  { cls := 9, slots := #[.int 83], vm := .none },
  { cls := 9, slots := #[.int 84], vm := .none },
  { cls := 9, slots := #[.int 85], vm := .none },
  { cls := 9, slots := #[.int 86], vm := .none },
  { cls := 9, slots := #[.int 87], vm := .none },
  { cls := 9, slots := #[.int 88], vm := .none },
  { cls := 9, slots := #[.int 89], vm := .none },
  { cls := 9, slots := #[.int 90], vm := .none },
  { cls := 9, slots := #[.int 91], vm := .none },
  { cls := 9, slots := #[.int 92], vm := .none },
  { cls := 9, slots := #[.int 93], vm := .none },
  { cls := 9, slots := #[.int 94], vm := .none },
  { cls := 9, slots := #[.int 95], vm := .none },
  { cls := 9, slots := #[.int 96], vm := .none },
  { cls := 9, slots := #[.int 97], vm := .none },
  { cls := 9, slots := #[.int 98], vm := .none },
  { cls := 9, slots := #[.int 99], vm := .none },
  { cls := 9, slots := #[.int 100], vm := .none },
  { cls := 9, slots := #[.int 101], vm := .none },
  { cls := 9, slots := #[.int 102], vm := .none },
  { cls := 9, slots := #[.int 103], vm := .none },
  { cls := 9, slots := #[.int 104], vm := .none },
  { cls := 9, slots := #[.int 105], vm := .none },
  { cls := 9, slots := #[.int 106], vm := .none },
  { cls := 9, slots := #[.int 107], vm := .none },
  { cls := 9, slots := #[.int 108], vm := .none },
  { cls := 9, slots := #[.int 109], vm := .none },
  { cls := 9, slots := #[.int 110], vm := .none },
  { cls := 9, slots := #[.int 111], vm := .none },
  { cls := 9, slots := #[.int 112], vm := .none },
  { cls := 9, slots := #[.int 113], vm := .none },
  { cls := 9, slots := #[.int 114], vm := .none },
  { cls := 9, slots := #[.int 115], vm := .none },
  { cls := 9, slots := #[.int 116], vm := .none },
  { cls := 9, slots := #[.int 117], vm := .none },
  { cls := 9, slots := #[.int 118], vm := .none },
  { cls := 9, slots := #[.int 119], vm := .none },
  { cls := 9, slots := #[.int 120], vm := .none },
  { cls := 9, slots := #[.int 121], vm := .none },
  { cls := 9, slots := #[.int 122], vm := .none },
  { cls := 9, slots := #[.int 123], vm := .none },
  { cls := 9, slots := #[.int 124], vm := .none },
  { cls := 9, slots := #[.int 125], vm := .none },
  { cls := 9, slots := #[.int 126], vm := .none },
  { cls := 9, slots := #[.int 127], vm := .none }]
def classes : Array Class := #[k0, k1, k2, k3, k4, k5, k6, k7, k8, k9, k10, k11, k12, k13, k14, k15, k16]
def interned : List (Array UInt16 × Addr) := []
def slotsUsed : Nat := 517
def theMethod : MethodId := ⟨1, 1⟩
def args0 : Array Value := #[.int 5, .int 3, .int 2, .int 7, .int 9]
def aboutOver (below : List Frame) : State where
  vm := { classes := classes, interned := interned.toArray }
  heap := heap
  slotsUsed := slotsUsed
  threads := #[{ frames := .invoking theMethod args0 :: below }]
def below0 : List Frame := [.native { method := ⟨0, 0⟩, args := #[] }]
def about1 : State := aboutOver below0
def p0 : Program := .bare "" "" ""
def e0 : Env := launch0.env 0 0 0
theorem w_frames : about1.frames = Frame.invoking theMethod args0 :: below0 := rfl
set_option maxRecDepth 65536 in
theorem w_args : argsFit about1.vm theMethod args0 = true := by decide +kernel
set_option maxRecDepth 65536 in
theorem w_heap : heapFits about1 = true := by decide +kernel
set_option maxRecDepth 65536 in
theorem w_runnable : about1.curStatus? = some .runnable := by decide +kernel
set_option maxRecDepth 65536 in
theorem w_alone : about1.alone = true := by decide +kernel
set_option maxRecDepth 65536 in
theorem w_named : about1.methodNamed? x = some theMethod := by decide +kernel
set_option maxRecDepth 65536 in
theorem w_hears : about1.hears theMethod below0 = true := by decide +kernel
set_option maxRecDepth 65536 in
theorem w_ripe : about1.ripe theMethod args0 below0 = true := by decide +kernel
theorem w_running : about1.status = .running := rfl
set_option maxRecDepth 65536 in
theorem w_room : about1.hasRoom e0.platform room_1 = true :=
  launch0.hasRoom_least _ room_1 (by decide +kernel) (by decide +kernel) (by decide +kernel) (by decide +kernel) (by decide +kernel) (by decide +kernel)
theorem allAtoms_all (ts : List Jvm.Cond) (a : Array Jvm.Value) (st : Jvm.State) : (allAtoms ts).before a st = ts.all (fun c => c.before a st) := by
  induction ts with
  | nil => rfl
  | cons c t ih =>
    show (Jvm.Cond.and c (allAtoms t)).before a st = _
    rw [Jvm.Cond.before_and, ih, List.all_cons]
def words1 : List Jvm.Cond := Jvm.Cond.code x code maxLocals ret :: tables_1
/-- a 'code' word, met by the world's own term for the bytes: nothing is compared byte by byte -/
theorem code_word {y : MethodName} {bytes : ByteArray} {mx : Nat} {rt : Option FieldType} {a : Array Value} {s : State} {m : MethodId} {meth : Method} {c : Code} (h1 : s.methodNamed? y = some m) (h2 : s.vm.method? m = some meth) (h3 : meth.code = some c) (h4 : c.code = bytes)
    (h5 : (c.maxLocals == mx && c.exceptionTable.isEmpty && decide (c.maxStack ≤ mostOperands) && decide (meth.sig.returnType = rt) && !meth.locks && decide (parseMethodDescriptor y.desc = some meth.sig)) = true) : (Jvm.Cond.code y bytes mx rt).before a s = true := by
  simp only [Bool.and_eq_true, beq_iff_eq, Bool.not_eq_true', decide_eq_true_eq] at h5
  obtain ⟨⟨⟨⟨⟨g1, g2⟩, g3⟩, g4⟩, g5⟩, g6⟩ := h5
  simp [Cond.before, Cond.holds, Cond.value, h1, h2, h3, h4, g1, g2, g3, g4, g5, g6]
def isCode : Jvm.Cond → Bool
  | .code _ _ _ _ => true
  | _ => false
theorem all_split {L : List Jvm.Cond} {P : Jvm.Cond → Bool} (h1 : L.all (fun c => isCode c || P c) = true) (h2 : ∀ c ∈ L.filter isCode, P c = true) : L.all P = true := by
  refine List.all_eq_true.mpr fun c hc => ?_
  have h := List.all_eq_true.mp h1 c hc
  rcases Bool.eq_false_or_eq_true (isCode c) with hi | hi
  · exact h2 c (List.mem_filter.mpr ⟨hc, hi⟩)
  · simpa [hi] using h
set_option maxRecDepth 65536 in
theorem w_c0 : (Jvm.Cond.code x code maxLocals ret).before args0 about1 = true := code_word (m := ⟨1, 1⟩) (meth := k1m1) (c := k1c1) (by decide +kernel) rfl rfl rfl (by decide +kernel)
set_option maxRecDepth 65536 in
theorem w_c1 : (Jvm.Cond.code ({ cls := "java/lang/Math", name := "min", desc := "(II)I" } : Jvm.MethodName) jdk_29_method_69_code (2 : Nat) (Option.some Jvm.ClassFile.FieldType.int)).before args0 about1 = true := code_word (m := ⟨2, 2⟩) (meth := k2m2) (c := k2c2) (by decide +kernel) rfl rfl rfl (by decide +kernel)
set_option maxRecDepth 65536 in
theorem w_c2 : (Jvm.Cond.code ({ cls := "java/lang/Math", name := "max", desc := "(II)I" } : Jvm.MethodName) jdk_29_method_65_code (2 : Nat) (Option.some Jvm.ClassFile.FieldType.int)).before args0 about1 = true := code_word (m := ⟨2, 1⟩) (meth := k2m1) (c := k2c1) (by decide +kernel) rfl rfl rfl (by decide +kernel)
set_option maxRecDepth 65536 in
theorem w_c3 : (Jvm.Cond.code ({ cls := "com/example/varuna/varuna/layout/HashRange", name := "<init>", desc := "(II)V" } : Jvm.MethodName) prog_24_method_1_code (3 : Nat) (Option.none : Option Jvm.ClassFile.FieldType)).before args0 about1 = true := code_word (m := ⟨3, 0⟩) (meth := k3m0) (c := k3c0) (by decide +kernel) rfl rfl rfl (by decide +kernel)
set_option maxRecDepth 65536 in
theorem w_c4 : (Jvm.Cond.code ({ cls := "java/lang/Object", name := "<init>", desc := "()V" } : Jvm.MethodName) object_method_1_code (1 : Nat) (Option.none : Option Jvm.ClassFile.FieldType)).before args0 about1 = true := code_word (m := ⟨0, 0⟩) (meth := k0m0) (c := k0c0) (by decide +kernel) rfl rfl rfl (by decide +kernel)
set_option maxRecDepth 65536 in
theorem w_c5 : (Jvm.Cond.code ({ cls := "com/example/varuna/varuna/layout/HashRange", name := "equals", desc := "(Ljava/lang/Object;)Z" } : Jvm.MethodName) prog_24_method_5_code (2 : Nat) (Option.some Jvm.ClassFile.FieldType.boolean)).before args0 about1 = true := code_word (m := ⟨3, 1⟩) (meth := k3m1) (c := k3c1) (by decide +kernel) rfl rfl rfl (by decide +kernel)
set_option maxRecDepth 65536 in
theorem w_c6 : (Jvm.Cond.code ({ cls := "java/lang/Integer", name := "valueOf", desc := "(I)Ljava/lang/Integer;" } : Jvm.MethodName) jdk_33_method_22_code (1 : Nat) (Option.some (Jvm.ClassFile.FieldType.object "java/lang/Integer"))).before args0 about1 = true := code_word (m := ⟨9, 0⟩) (meth := k9m0) (c := k9c0) (by decide +kernel) rfl rfl rfl (by decide +kernel)
set_option maxRecDepth 65536 in
theorem w_c7 : (Jvm.Cond.code ({ cls := "java/lang/Integer", name := "<init>", desc := "(I)V" } : Jvm.MethodName) jdk_33_method_23_code (2 : Nat) (Option.none : Option Jvm.ClassFile.FieldType)).before args0 about1 = true := code_word (m := ⟨9, 1⟩) (meth := k9m1) (c := k9c1) (by decide +kernel) rfl rfl rfl (by decide +kernel)
set_option maxRecDepth 65536 in
theorem w_c8 : (Jvm.Cond.code ({ cls := "java/lang/Number", name := "<init>", desc := "()V" } : Jvm.MethodName) jdk_18_method_1_code (1 : Nat) (Option.none : Option Jvm.ClassFile.FieldType)).before args0 about1 = true := code_word (m := ⟨5, 0⟩) (meth := k5m0) (c := k5c0) (by decide +kernel) rfl rfl rfl (by decide +kernel)
def codes1 : List Jvm.Cond := [Jvm.Cond.code x code maxLocals ret, Jvm.Cond.code ({ cls := "java/lang/Math", name := "min", desc := "(II)I" } : Jvm.MethodName) jdk_29_method_69_code (2 : Nat) (Option.some Jvm.ClassFile.FieldType.int), Jvm.Cond.code ({ cls := "java/lang/Math", name := "max", desc := "(II)I" } : Jvm.MethodName) jdk_29_method_65_code (2 : Nat) (Option.some Jvm.ClassFile.FieldType.int), Jvm.Cond.code ({ cls := "com/example/varuna/varuna/layout/HashRange", name := "<init>", desc := "(II)V" } : Jvm.MethodName) prog_24_method_1_code (3 : Nat) (Option.none : Option Jvm.ClassFile.FieldType), Jvm.Cond.code ({ cls := "java/lang/Object", name := "<init>", desc := "()V" } : Jvm.MethodName) object_method_1_code (1 : Nat) (Option.none : Option Jvm.ClassFile.FieldType), Jvm.Cond.code ({ cls := "com/example/varuna/varuna/layout/HashRange", name := "equals", desc := "(Ljava/lang/Object;)Z" } : Jvm.MethodName) prog_24_method_5_code (2 : Nat) (Option.some Jvm.ClassFile.FieldType.boolean), Jvm.Cond.code ({ cls := "java/lang/Integer", name := "valueOf", desc := "(I)Ljava/lang/Integer;" } : Jvm.MethodName) jdk_33_method_22_code (1 : Nat) (Option.some (Jvm.ClassFile.FieldType.object "java/lang/Integer")), Jvm.Cond.code ({ cls := "java/lang/Integer", name := "<init>", desc := "(I)V" } : Jvm.MethodName) jdk_33_method_23_code (2 : Nat) (Option.none : Option Jvm.ClassFile.FieldType), Jvm.Cond.code ({ cls := "java/lang/Number", name := "<init>", desc := "()V" } : Jvm.MethodName) jdk_18_method_1_code (1 : Nat) (Option.none : Option Jvm.ClassFile.FieldType)]
set_option maxRecDepth 65536 in
theorem codes_eq : words1.filter isCode = codes1 := rfl
theorem w_codes : ∀ c ∈ words1.filter isCode, c.before args0 about1 = true := by
  rw [codes_eq]
  intro c hc
  simp only [codes1, List.mem_cons, List.not_mem_nil, or_false] at hc
  rcases hc with rfl | rfl | rfl | rfl | rfl | rfl | rfl | rfl | rfl
  · exact w_c0
  · exact w_c1
  · exact w_c2
  · exact w_c3
  · exact w_c4
  · exact w_c5
  · exact w_c6
  · exact w_c7
  · exact w_c8
set_option maxRecDepth 65536 in
theorem w_t1 : (words1.take 24).all (fun c => isCode c || c.before args0 about1) = true := by decide +kernel
set_option maxRecDepth 65536 in
theorem w_t2 : ((words1.drop 24).take 24).all (fun c => isCode c || c.before args0 about1) = true := by decide +kernel
set_option maxRecDepth 65536 in
theorem w_t3 : ((words1.drop 24).drop 24).all (fun c => isCode c || c.before args0 about1) = true := by decide +kernel
theorem w_tables : (allAtoms (Jvm.Cond.code x code maxLocals ret :: tables_1)).before args0 about1 = true := by
  rw [allAtoms_all]
  show words1.all (fun c => c.before args0 about1) = true
  refine all_split ?_ w_codes
  rw [← List.take_append_drop 24 words1, List.all_append, w_t1, ← List.take_append_drop 24 (words1.drop 24), List.all_append, w_t2, w_t3]
  rfl
set_option maxRecDepth 65536 in
theorem w_rest : rest_1_c.before args0 about1 = true := by decide +kernel
set_option maxRecDepth 65536 in
theorem w_case : (Jvm.Cond.and given_1 narrow_1).before args0 about1 = true := by decide +kernel
theorem w_applies : (headSpec (Jvm.Cond.code x code maxLocals ret :: tables_1) room_1).applies x e0.platform about1 = true :=
  (Spec.applies_iff w_frames).mpr ⟨w_running, w_runnable, w_alone, w_named, w_hears, w_ripe, w_room, w_tables⟩
theorem atStart : AtStart classFile x code maxLocals ret World_1 tables_1 room_1 Calls_1 rest_1 Pre_1 launch0 p0 e0 about1 theMethod args0 below0 :=
  ⟨lists_1, trivial, launch0.admits_env _ _ _, launch0.least_env, fairChoices_fair.cas, fairChoices_fair.clock, w_frames, w_args, w_heap, w_applies, trivial, w_rest, w_case⟩
end start1
theorem witness_1 : WitnessClaimed_1 := ⟨start1.p0, start1.e0, start1.about1, start1.theMethod, start1.args0, start1.below0, start1.atStart⟩
end Jvm.Pilot.@@N@@
