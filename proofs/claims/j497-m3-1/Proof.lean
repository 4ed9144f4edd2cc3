import JvmDerived
import JvmDerived.Pilot.@@N@@Statement
import JvmDerived.Pilot.@@N@@Code
set_option linter.unusedVariables false
set_option linter.unusedSimpArgs false
namespace Jvm.RoadKit
open Sem ClassFile Op Lib Jvm.Stand Jvm.Free Jvm.LawKit
section New
variable {p : Program} {l : Launch} {e : Env} {R : Room} {s : State} {m : MethodId} {args : Array Value} {below : List Frame} {meth : Method} {c : Code} {T : State} {locs : List Loc} {cells slots : Nat}
theorem retI (X : Stand p l e R s m args below meth c T locs cells slots) (hx : p.tables.exec = Jvm.exec) {pc : Nat} {Ls : Array Slot} {z : Int32} {rest : List Value} (hret : meth.sig.returnType = some .int) (hd : decode c.code pc = .ok (.ireturn, 1)) {fs : List Frame}
    (hl : ∀ (f : JFrame) (acts : List Action), f.method = m → f.locked = none → f.entered = [] → (doReturn e (T.setTop f) acts (some (.int z))).1 = T.setFrames fs) : Steps p.tables e below (T.setTop (mkF m pc Ls (.int z :: rest))) (T.setFrames fs) := by
  have hm' : T.vm.method? m = some meth := X.method'
  have hn : narrow .int (.int z) = .int z := rfl
  show Steps p.tables e below (T.setTop { method := m, pc := pc, locals := Ls, stack := _ :: rest, locked := none }) _
  jvm_step X.here [X.here.top, hx, hd, hm', hret, hn]
  first | (intro acts; rw [hl _ acts rfl rfl rfl]) | rw [hl _ _ rfl rfl rfl]
  exact Steps.refl _
end New
end Jvm.RoadKit
namespace Jvm.Pilot.@@N@@
open Jvm Jvm.ClassFile Sem Op Lib Jvm.Free Jvm.Stand Jvm.LawKit Jvm.RoadKit Bundle Jvm.Pilot.@@N@@.Jvm.D
/-! OWN KIT: a walk told forwards. `WGo T f`: from the frame f over the state T the body runs to its return, and what it returns meets Q. -/
section OwnKit
variable {p : Program} {l : Launch} {e : Env} {R : Room} {s : State} {m : MethodId} {args : Array Value} {below : List Frame} {meth : Method} {c : Code} {T : State} {locs : List Loc} {cells slots : Nat} {Z : State} {a0 : Array Value} {h : Heap} {kc ks : Nat} {Q : Option Value → Heap → List Loc → Prop} {pc pc' : Nat} {Ls Ls' : Array Slot} {st : List Value} {x y : Int32} {u w : Int64}
def WGo (p : Program) (e : Env) (below : List Frame) (s : State) (kc ks : Nat) (Q : Option Value → Heap → List Loc → Prop) (T : State) (f : JFrame) : Prop :=
  ∃ s₂ o, Steps p.tables e below (T.setTop f) s₂ ∧ s₂.status = .running ∧ Ended s₂ below o ∧ ∃ v L, o = .returned v ∧ Q v s₂.heap L ∧ FrameEnd s o s₂ L kc ks
theorem WGo.go {T' : State} {f f' : JFrame} (k : ∀ t, Steps p.tables e below (T'.setTop f') t → Steps p.tables e below (T.setTop f) t) (r : WGo p e below s kc ks Q T' f') : WGo p e below s kc ks Q T f := by
  obtain ⟨s₂, o, h1, r⟩ := r
  exact ⟨s₂, o, k _ h1, r⟩
theorem WGo.cast {f f' : JFrame} (q : f = f') (r : WGo p e below s kc ks Q T f') : WGo p e below s kc ks Q T f := q ▸ r
theorem WGo.mono {f : JFrame} {Q' : Option Value → Heap → List Loc → Prop} (r : WGo p e below s kc ks Q' T f) (q : ∀ v h L, Q' v h L → Q v h L) : WGo p e below s kc ks Q T f := by
  obtain ⟨s₂, o, h1, h2, h3, v, L, h4, h5, h6⟩ := r
  exact ⟨s₂, o, h1, h2, h3, v, L, h4, q _ _ _ h5, h6⟩
/-- a body's contract -/
def WCt (l : Launch) (Z : State) (y : MethodName) (bytes : ByteArray) (maxL : Nat) (ret : Option FieldType) (rm : Room) (as' : Array Value) (h0 : Heap) (Q : Option Value → Heap → List Loc → Prop) : Prop :=
  ∀ ws : List Jvm.Cond, MetFree l y (head1 (Jvm.Cond.code y bytes maxL ret :: ws) rm) (fun a U => a = as' ∧ Z.Warmed39 U.vm ∧ U.heap = h0) (fun _ _ _ _ _ => True) (fun _ U o U' => ∃ v L, o = .returned v ∧ Q v U'.heap L ∧ FrameEnd U o U' L rm.cells rm.slots)
theorem WCt.of {y : MethodName} {bytes : ByteArray} {maxL : Nat} {ret : Option FieldType} {rm : Room} {as' : Array Value} {h0 : Heap} (hpl : plainFor y = true)
    (body : ∀ (p : Program) (e : Env) (s : State) (m : MethodId) (below : List Frame) (meth : Method) (c : Code) (T : State), p.tables.exec = Jvm.exec → c.code = bytes → c.maxLocals = maxL → s.vm.findClass y.cls = some m.cls → meth.name = y.name → meth.sig.returnType = ret → meth.locks = false → Z.Warmed39 s.vm → s.heap = h0 →
      Stand p l e rm s m as' below meth c T [] 0 0 → T.heap = h0 → WGo p e below s rm.cells rm.slots Q T (entryFrame m as' maxL)) : WCt l Z y bytes maxL ret rm as' h0 Q := by
  intro ws
  refine MetFree.of_bodySF hpl hisR ?_
  intro p e s m args below meth c s₁ Bd hml0 hP hK
  obtain ⟨rfl, hZ, hh⟩ := hP
  have X0 : Stand p l e rm s m _ below meth c s₁ [] 0 0 := Stand.of_body Bd
  exact body p e s m below meth c s₁ Bd.exec Bd.bytes hml0 (findClass_of_methodNamed Bd.named) (name_of_methodNamed Bd.named Bd.method).1 Bd.returns (BodyLoose.notSynchronized Bd) hZ hh X0 (by rw [← hh, Bd.state]; rfl)
/-! returns -/
theorem g_ret0 (X : Stand p l e R s m args below meth c T locs cells slots) (hx : p.tables.exec = Jvm.exec) (hret : meth.sig.returnType = none) (hlk : meth.locks = false) (hd : decode c.code pc = .ok (.return_, 1)) (hc : cells ≤ kc) (hs : slots ≤ ks) (q : Q none T.heap locs) : WGo p e below s kc ks Q T (mkF m pc Ls []) := by
  obtain ⟨fs, hr, hrun, hended, hW, hsame⟩ := X.leave (v := none) (fun _ => rfl) hlk
  exact ⟨_, _, X.returnOut hx hret hd hr, hrun, hended, _, _, rfl, q, ⟨_, rfl⟩, hW, hsame.mono hc hs⟩
theorem g_retI (X : Stand p l e R s m args below meth c T locs cells slots) (hx : p.tables.exec = Jvm.exec) (hret : meth.sig.returnType = some .int) (hlk : meth.locks = false) (hd : decode c.code pc = .ok (.ireturn, 1)) (hc : cells ≤ kc) (hs : slots ≤ ks) (q : Q (some (.int x)) T.heap locs) : WGo p e below s kc ks Q T (mkF m pc Ls (.int x :: st)) := by
  obtain ⟨fs, hr, hrun, hended, hW, hsame⟩ := X.leave (v := some (.int x)) (fun h => by rw [hret] at h; cases h) hlk
  exact ⟨_, _, retI X hx hret hd hr, hrun, hended, _, _, rfl, q, ⟨_, rfl⟩, hW, hsame.mono hc hs⟩
theorem g_retN {t : FieldType} (X : Stand p l e R s m args below meth c T locs cells slots) (hx : p.tables.exec = Jvm.exec) (hret : meth.sig.returnType = some t) (ht : t = .boolean ∨ t = .byte ∨ t = .char ∨ t = .short) (hlk : meth.locks = false) (hd : decode c.code pc = .ok (.ireturn, 1)) (hc : cells ≤ kc) (hs : slots ≤ ks) (q : Q (some (.int (nar t x))) T.heap locs) : WGo p e below s kc ks Q T (mkF m pc Ls (.int x :: st)) := by
  obtain ⟨fs, hr, hrun, hended, hW, hsame⟩ := X.leave (v := some (.int (nar t x))) (fun h => by rw [hret] at h; cases h) hlk
  exact ⟨_, _, retN X hx hret ht hd hr, hrun, hended, _, _, rfl, q, ⟨_, rfl⟩, hW, hsame.mono hc hs⟩
theorem g_retJ (X : Stand p l e R s m args below meth c T locs cells slots) (hx : p.tables.exec = Jvm.exec) (hret : meth.sig.returnType = some .long) (hlk : meth.locks = false) (hd : decode c.code pc = .ok (.lreturn, 1)) (hc : cells ≤ kc) (hs : slots ≤ ks) (q : Q (some (.long u)) T.heap locs) : WGo p e below s kc ks Q T (mkF m pc Ls [.long u]) := by
  obtain ⟨fs, hr, hrun, hended, hW, hsame⟩ := X.leave (v := some (.long u)) (fun h => by rw [hret] at h; cases h) hlk
  exact ⟨_, _, X.lreturnOut hx hret hd hr, hrun, hended, _, _, rfl, q, ⟨_, rfl⟩, hW, hsame.mono hc hs⟩
theorem g_retA {t : FieldType} {v : Value} (X : Stand p l e R s m args below meth c T locs cells slots) (hx : p.tables.exec = Jvm.exec) (hv : v.isRef = true) (hret : meth.sig.returnType = some t) (ht : t.isReference = true) (hlk : meth.locks = false) (hd : decode c.code pc = .ok (.areturn, 1)) (hc : cells ≤ kc) (hs : slots ≤ ks) (q : Q (some v) T.heap locs) : WGo p e below s kc ks Q T (mkF m pc Ls [v]) := by
  obtain ⟨fs, hr, hrun, hended, hW, hsame⟩ := X.leave (v := some v) (fun h => by rw [hret] at h; cases h) hlk
  exact ⟨_, _, X.areturnOut hx hv hret ht hd hr, hrun, hended, _, _, rfl, q, ⟨_, rfl⟩, hW, hsame.mono hc hs⟩
/-! loads and stores of locals -/
theorem g_iloadN (X : Stand p l e R s m args below meth c T locs cells slots) (hx : p.tables.exec = Jvm.exec) {k : Fin 4} (hd : decode c.code pc = .ok (.iload_n k, 1)) (hl : Ls[k.val]? = some (.val (.int x))) (hp : pc + 1 = pc') (r : WGo p e below s kc ks Q T (mkF m pc' Ls (.int x :: st))) : WGo p e below s kc ks Q T (mkF m pc Ls st) := by
  subst hp; exact r.go fun t k => XS.iloadN X.here hx rfl hd hl k
theorem g_iload (X : Stand p l e R s m args below meth c T locs cells slots) (hx : p.tables.exec = Jvm.exec) {k : Nat} (hd : decode c.code pc = .ok (.iload k, 2)) (hl : Ls[k]? = some (.val (.int x))) (hp : pc + 2 = pc') (r : WGo p e below s kc ks Q T (mkF m pc' Ls (.int x :: st))) : WGo p e below s kc ks Q T (mkF m pc Ls st) := by
  subst hp; exact r.go fun t k => XS.iload X.here hx rfl hd hl k
theorem g_lloadN (X : Stand p l e R s m args below meth c T locs cells slots) (hx : p.tables.exec = Jvm.exec) {k : Fin 4} (hd : decode c.code pc = .ok (.lload_n k, 1)) (hl : Ls[k.val]? = some (.val (.long u))) (hp : pc + 1 = pc') (r : WGo p e below s kc ks Q T (mkF m pc' Ls (.long u :: st))) : WGo p e below s kc ks Q T (mkF m pc Ls st) := by
  subst hp; exact r.go fun t k => XT.lloadN X.here hx rfl hd hl k
theorem g_lload (X : Stand p l e R s m args below meth c T locs cells slots) (hx : p.tables.exec = Jvm.exec) {k : Nat} (hd : decode c.code pc = .ok (.lload k, 2)) (hl : Ls[k]? = some (.val (.long u))) (hp : pc + 2 = pc') (r : WGo p e below s kc ks Q T (mkF m pc' Ls (.long u :: st))) : WGo p e below s kc ks Q T (mkF m pc Ls st) := by
  subst hp; exact r.go fun t k => XT.lload X.here hx rfl hd hl k
theorem g_aloadN {v : Value} (X : Stand p l e R s m args below meth c T locs cells slots) (hx : p.tables.exec = Jvm.exec) {k : Fin 4} (hd : decode c.code pc = .ok (.aload_n k, 1)) (hl : Ls[k.val]? = some (.val v)) (hv : v.isRef = true) (hp : pc + 1 = pc') (r : WGo p e below s kc ks Q T (mkF m pc' Ls (v :: st))) : WGo p e below s kc ks Q T (mkF m pc Ls st) := by
  subst hp; exact r.go fun t k => XS.aloadN X.here hx rfl hd hl hv k
theorem g_aload {v : Value} (X : Stand p l e R s m args below meth c T locs cells slots) (hx : p.tables.exec = Jvm.exec) {k : Nat} (hd : decode c.code pc = .ok (.aload k, 2)) (hl : Ls[k]? = some (.val v)) (hv : v.isRef = true) (hp : pc + 2 = pc') (r : WGo p e below s kc ks Q T (mkF m pc' Ls (v :: st))) : WGo p e below s kc ks Q T (mkF m pc Ls st) := by
  subst hp; exact r.go fun t k => XS.aload X.here hx rfl hd hl hv k
theorem g_istoreN (X : Stand p l e R s m args below meth c T locs cells slots) (hx : p.tables.exec = Jvm.exec) {k : Fin 4} (hd : decode c.code pc = .ok (.istore_n k, 1)) (hl : storeLocals Ls k.val (.int x) = some Ls') (hp : pc + 1 = pc') (r : WGo p e below s kc ks Q T (mkF m pc' Ls' st)) : WGo p e below s kc ks Q T (mkF m pc Ls (.int x :: st)) := by
  subst hp; exact r.go fun t k => XS.istoreN X.here hx rfl hd rfl hl k
theorem g_istore (X : Stand p l e R s m args below meth c T locs cells slots) (hx : p.tables.exec = Jvm.exec) {k : Nat} (hd : decode c.code pc = .ok (.istore k, 2)) (hl : storeLocals Ls k (.int x) = some Ls') (hp : pc + 2 = pc') (r : WGo p e below s kc ks Q T (mkF m pc' Ls' st)) : WGo p e below s kc ks Q T (mkF m pc Ls (.int x :: st)) := by
  subst hp; exact r.go fun t k => XS.istore X.here hx rfl hd rfl hl k
theorem g_lstoreN (X : Stand p l e R s m args below meth c T locs cells slots) (hx : p.tables.exec = Jvm.exec) {k : Fin 4} (hd : decode c.code pc = .ok (.lstore_n k, 1)) (hl : storeLocals Ls k.val (.long u) = some Ls') (hp : pc + 1 = pc') (r : WGo p e below s kc ks Q T (mkF m pc' Ls' st)) : WGo p e below s kc ks Q T (mkF m pc Ls (.long u :: st)) := by
  subst hp; exact r.go fun t k => XT.lstoreN X.here hx rfl hd rfl hl k
theorem g_lstore (X : Stand p l e R s m args below meth c T locs cells slots) (hx : p.tables.exec = Jvm.exec) {k : Nat} (hd : decode c.code pc = .ok (.lstore k, 2)) (hl : storeLocals Ls k (.long u) = some Ls') (hp : pc + 2 = pc') (r : WGo p e below s kc ks Q T (mkF m pc' Ls' st)) : WGo p e below s kc ks Q T (mkF m pc Ls (.long u :: st)) := by
  subst hp; exact r.go fun t k => XT.lstore X.here hx rfl hd rfl hl k
theorem g_astoreN {v : Value} (X : Stand p l e R s m args below meth c T locs cells slots) (hx : p.tables.exec = Jvm.exec) {k : Fin 4} (hd : decode c.code pc = .ok (.astore_n k, 1)) (hv : v.isRef = true) (hl : storeLocals Ls k.val v = some Ls') (hp : pc + 1 = pc') (r : WGo p e below s kc ks Q T (mkF m pc' Ls' st)) : WGo p e below s kc ks Q T (mkF m pc Ls (v :: st)) := by
  subst hp; exact r.go fun t k => XS.astoreN X.here hx rfl hd rfl hv hl k
theorem g_astore {v : Value} (X : Stand p l e R s m args below meth c T locs cells slots) (hx : p.tables.exec = Jvm.exec) {k : Nat} (hd : decode c.code pc = .ok (.astore k, 2)) (hv : v.isRef = true) (hl : storeLocals Ls k v = some Ls') (hp : pc + 2 = pc') (r : WGo p e below s kc ks Q T (mkF m pc' Ls' st)) : WGo p e below s kc ks Q T (mkF m pc Ls (v :: st)) := by
  subst hp; exact r.go fun t k => XS.astore X.here hx rfl hd rfl hv hl k
theorem g_iinc (X : Stand p l e R s m args below meth c T locs cells slots) (hx : p.tables.exec = Jvm.exec) {k : Nat} {cst : Int} {z : Int32} (hd : decode c.code pc = .ok (.iinc k cst, 3)) (hl : Ls[k]? = some (.val (.int x))) (hz : x + Int32.ofInt cst = z) (hl' : storeLocals Ls k (.int z) = some Ls') (hp : pc + 3 = pc') (r : WGo p e below s kc ks Q T (mkF m pc' Ls' st)) : WGo p e below s kc ks Q T (mkF m pc Ls st) := by
  subst hp hz; exact r.go fun t k => XS.iinc X.here hx rfl hd hl hl' k
/-! constants -/
theorem g_iconst (X : Stand p l e R s m args below meth c T locs cells slots) (hx : p.tables.exec = Jvm.exec) {i : Int} (hd : decode c.code pc = .ok (.iconst i, 1)) (hv : Int32.ofInt i = x) (hp : pc + 1 = pc') (r : WGo p e below s kc ks Q T (mkF m pc' Ls (.int x :: st))) : WGo p e below s kc ks Q T (mkF m pc Ls st) := by
  subst hp hv; exact r.go fun t k => XS.iconst X.here hx rfl hd k
theorem g_bipush (X : Stand p l e R s m args below meth c T locs cells slots) (hx : p.tables.exec = Jvm.exec) {i : Int} (hd : decode c.code pc = .ok (.bipush i, 2)) (hv : (Int8.ofInt i).toInt32 = x) (hp : pc + 2 = pc') (r : WGo p e below s kc ks Q T (mkF m pc' Ls (.int x :: st))) : WGo p e below s kc ks Q T (mkF m pc Ls st) := by
  subst hp hv; exact r.go fun t k => XS.bipush X.here hx rfl hd k
theorem g_sipush (X : Stand p l e R s m args below meth c T locs cells slots) (hx : p.tables.exec = Jvm.exec) {i : Int} (hd : decode c.code pc = .ok (.sipush i, 3)) (hv : (Int16.ofInt i).toInt32 = x) (hp : pc + 3 = pc') (r : WGo p e below s kc ks Q T (mkF m pc' Ls (.int x :: st))) : WGo p e below s kc ks Q T (mkF m pc Ls st) := by
  subst hp hv; exact r.go fun t k => XS.sipush X.here hx rfl hd k
theorem g_lconst (X : Stand p l e R s m args below meth c T locs cells slots) (hx : p.tables.exec = Jvm.exec) {i : Fin 2} (hd : decode c.code pc = .ok (.lconst i, 1)) (hv : Int64.ofNat i = u) (hp : pc + 1 = pc') (r : WGo p e below s kc ks Q T (mkF m pc' Ls (.long u :: st))) : WGo p e below s kc ks Q T (mkF m pc Ls st) := by
  subst hp hv; exact r.go fun t k => XT.lconst X.here hx rfl hd k
theorem g_null (X : Stand p l e R s m args below meth c T locs cells slots) (hx : p.tables.exec = Jvm.exec) (hd : decode c.code pc = .ok (.aconst_null, 1)) (hp : pc + 1 = pc') (r : WGo p e below s kc ks Q T (mkF m pc' Ls (.null :: st))) : WGo p e below s kc ks Q T (mkF m pc Ls st) := by
  subst hp; exact r.go fun t k => XS.aconstNull X.here hx rfl hd k
theorem g_ldcI {own : String} {index : Nat} (X : Stand p l e R s m args below meth c T locs cells slots) (hx : p.tables.exec = Jvm.exec) (hZ : Z.Warmed39 s.vm) (hown : s.vm.findClass own = some m.cls) (wd : (Jvm.Cond.constant own index x).before a0 Z = true) (hd : decode c.code pc = .ok (.ldc index, 2)) (hp : pc + 2 = pc') (r : WGo p e below s kc ks Q T (mkF m pc' Ls (.int x :: st))) : WGo p e below s kc ks Q T (mkF m pc Ls st) := by
  subst hp; exact r.go fun t k => X.ldcInt hx hown (mvT hZ wd) (g := mkF m pc Ls st) rfl hd t k
theorem g_ldcJ {own : String} {index : Nat} (X : Stand p l e R s m args below meth c T locs cells slots) (hx : p.tables.exec = Jvm.exec) (hZ : Z.Warmed39 s.vm) (hown : s.vm.findClass own = some m.cls) (wd : (Jvm.Cond.constantLong own index u).before a0 Z = true) (hd : decode c.code pc = .ok (.ldc2_w index, 3)) (hp : pc + 3 = pc') (r : WGo p e below s kc ks Q T (mkF m pc' Ls (.long u :: st))) : WGo p e below s kc ks Q T (mkF m pc Ls st) := by
  subst hp; exact r.go fun t k => X.ldc2Long hx hown (mvT hZ wd) (g := mkF m pc Ls st) rfl hd t k
/-! reckoning -/
theorem g_iadd (X : Stand p l e R s m args below meth c T locs cells slots) (hx : p.tables.exec = Jvm.exec) (hd : decode c.code pc = .ok (.iadd, 1)) (hp : pc + 1 = pc') (r : WGo p e below s kc ks Q T (mkF m pc' Ls (.int (x + y) :: st))) : WGo p e below s kc ks Q T (mkF m pc Ls (.int y :: .int x :: st)) := by
  subst hp; exact r.go fun t k => XS.iadd X.here hx rfl hd rfl k
theorem g_isub (X : Stand p l e R s m args below meth c T locs cells slots) (hx : p.tables.exec = Jvm.exec) (hd : decode c.code pc = .ok (.isub, 1)) (hp : pc + 1 = pc') (r : WGo p e below s kc ks Q T (mkF m pc' Ls (.int (x - y) :: st))) : WGo p e below s kc ks Q T (mkF m pc Ls (.int y :: .int x :: st)) := by
  subst hp; exact r.go fun t k => XS.isub X.here hx rfl hd rfl k
theorem g_iand (X : Stand p l e R s m args below meth c T locs cells slots) (hx : p.tables.exec = Jvm.exec) (hd : decode c.code pc = .ok (.iand, 1)) (hp : pc + 1 = pc') (r : WGo p e below s kc ks Q T (mkF m pc' Ls (.int (x &&& y) :: st))) : WGo p e below s kc ks Q T (mkF m pc Ls (.int y :: .int x :: st)) := by
  subst hp; exact r.go fun t k => XS.iand X.here hx rfl hd rfl k
theorem g_imul (X : Stand p l e R s m args below meth c T locs cells slots) (hx : p.tables.exec = Jvm.exec) (hd : decode c.code pc = .ok (.imul, 1)) (hp : pc + 1 = pc') (r : WGo p e below s kc ks Q T (mkF m pc' Ls (.int (x * y) :: st))) : WGo p e below s kc ks Q T (mkF m pc Ls (.int y :: .int x :: st)) := by
  subst hp; exact r.go fun t k => XS.imul X.here hx rfl hd rfl k
theorem g_ixor (X : Stand p l e R s m args below meth c T locs cells slots) (hx : p.tables.exec = Jvm.exec) (hd : decode c.code pc = .ok (.ixor, 1)) (hp : pc + 1 = pc') (r : WGo p e below s kc ks Q T (mkF m pc' Ls (.int (x ^^^ y) :: st))) : WGo p e below s kc ks Q T (mkF m pc Ls (.int y :: .int x :: st)) := by
  subst hp; exact r.go fun t k => XT.ixor X.here hx rfl hd rfl k
theorem g_ior (X : Stand p l e R s m args below meth c T locs cells slots) (hx : p.tables.exec = Jvm.exec) (hd : decode c.code pc = .ok (.ior, 1)) (hp : pc + 1 = pc') (r : WGo p e below s kc ks Q T (mkF m pc' Ls (.int (x ||| y) :: st))) : WGo p e below s kc ks Q T (mkF m pc Ls (.int y :: .int x :: st)) := by
  subst hp; exact r.go fun t k => XT.ior X.here hx rfl hd rfl k
theorem g_ishl (X : Stand p l e R s m args below meth c T locs cells slots) (hx : p.tables.exec = Jvm.exec) (hd : decode c.code pc = .ok (.ishl, 1)) (hp : pc + 1 = pc') (r : WGo p e below s kc ks Q T (mkF m pc' Ls (.int (x <<< (y &&& 31)) :: st))) : WGo p e below s kc ks Q T (mkF m pc Ls (.int y :: .int x :: st)) := by
  subst hp; exact r.go fun t k => XT.ishl X.here hx rfl hd rfl k
theorem g_ishr (X : Stand p l e R s m args below meth c T locs cells slots) (hx : p.tables.exec = Jvm.exec) (hd : decode c.code pc = .ok (.ishr, 1)) (hp : pc + 1 = pc') (r : WGo p e below s kc ks Q T (mkF m pc' Ls (.int (x >>> (y &&& 31)) :: st))) : WGo p e below s kc ks Q T (mkF m pc Ls (.int y :: .int x :: st)) := by
  subst hp; exact r.go fun t k => XT.ishr X.here hx rfl hd rfl k
theorem g_iushr (X : Stand p l e R s m args below meth c T locs cells slots) (hx : p.tables.exec = Jvm.exec) (hd : decode c.code pc = .ok (.iushr, 1)) (hp : pc + 1 = pc') (r : WGo p e below s kc ks Q T (mkF m pc' Ls (.int (XT.ushr x y) :: st))) : WGo p e below s kc ks Q T (mkF m pc Ls (.int y :: .int x :: st)) := by
  subst hp; exact r.go fun t k => XT.iushr X.here hx rfl hd rfl k
theorem g_ladd (X : Stand p l e R s m args below meth c T locs cells slots) (hx : p.tables.exec = Jvm.exec) (hd : decode c.code pc = .ok (.ladd, 1)) (hp : pc + 1 = pc') (r : WGo p e below s kc ks Q T (mkF m pc' Ls (.long (u + w) :: st))) : WGo p e below s kc ks Q T (mkF m pc Ls (.long w :: .long u :: st)) := by
  subst hp; exact r.go fun t k => XT.ladd X.here hx rfl hd rfl k
theorem g_lsub (X : Stand p l e R s m args below meth c T locs cells slots) (hx : p.tables.exec = Jvm.exec) (hd : decode c.code pc = .ok (.lsub, 1)) (hp : pc + 1 = pc') (r : WGo p e below s kc ks Q T (mkF m pc' Ls (.long (u - w) :: st))) : WGo p e below s kc ks Q T (mkF m pc Ls (.long w :: .long u :: st)) := by
  subst hp; exact r.go fun t k => XT.lsub X.here hx rfl hd rfl k
theorem g_lmul (X : Stand p l e R s m args below meth c T locs cells slots) (hx : p.tables.exec = Jvm.exec) (hd : decode c.code pc = .ok (.lmul, 1)) (hp : pc + 1 = pc') (r : WGo p e below s kc ks Q T (mkF m pc' Ls (.long (u * w) :: st))) : WGo p e below s kc ks Q T (mkF m pc Ls (.long w :: .long u :: st)) := by
  subst hp; exact r.go fun t k => XT.lmul X.here hx rfl hd rfl k
theorem g_land (X : Stand p l e R s m args below meth c T locs cells slots) (hx : p.tables.exec = Jvm.exec) (hd : decode c.code pc = .ok (.land, 1)) (hp : pc + 1 = pc') (r : WGo p e below s kc ks Q T (mkF m pc' Ls (.long (u &&& w) :: st))) : WGo p e below s kc ks Q T (mkF m pc Ls (.long w :: .long u :: st)) := by
  subst hp; exact r.go fun t k => XT.land X.here hx rfl hd rfl k
theorem g_lxor (X : Stand p l e R s m args below meth c T locs cells slots) (hx : p.tables.exec = Jvm.exec) (hd : decode c.code pc = .ok (.lxor, 1)) (hp : pc + 1 = pc') (r : WGo p e below s kc ks Q T (mkF m pc' Ls (.long (u ^^^ w) :: st))) : WGo p e below s kc ks Q T (mkF m pc Ls (.long w :: .long u :: st)) := by
  subst hp; exact r.go fun t k => XT.lxor X.here hx rfl hd rfl k
theorem g_lushr (X : Stand p l e R s m args below meth c T locs cells slots) (hx : p.tables.exec = Jvm.exec) (hd : decode c.code pc = .ok (.lushr, 1)) (hp : pc + 1 = pc') (r : WGo p e below s kc ks Q T (mkF m pc' Ls (.long (XT.ushrL u y) :: st))) : WGo p e below s kc ks Q T (mkF m pc Ls (.int y :: .long u :: st)) := by
  subst hp; exact r.go fun t k => XT.lushr X.here hx rfl hd rfl k
theorem g_lcmp (X : Stand p l e R s m args below meth c T locs cells slots) (hx : p.tables.exec = Jvm.exec) (hd : decode c.code pc = .ok (.lcmp, 1)) (hp : pc + 1 = pc') (r : WGo p e below s kc ks Q T (mkF m pc' Ls (.int (XT.cmpL u w) :: st))) : WGo p e below s kc ks Q T (mkF m pc Ls (.long w :: .long u :: st)) := by
  subst hp; exact r.go fun t k => XT.lcmp X.here hx rfl hd rfl k
theorem g_i2l (X : Stand p l e R s m args below meth c T locs cells slots) (hx : p.tables.exec = Jvm.exec) (hd : decode c.code pc = .ok (.i2l, 1)) (hp : pc + 1 = pc') (r : WGo p e below s kc ks Q T (mkF m pc' Ls (.long (x.toInt64) :: st))) : WGo p e below s kc ks Q T (mkF m pc Ls (.int x :: st)) := by
  subst hp; exact r.go fun t k => XT.i2l X.here hx rfl hd rfl k
theorem g_l2i (X : Stand p l e R s m args below meth c T locs cells slots) (hx : p.tables.exec = Jvm.exec) (hd : decode c.code pc = .ok (.l2i, 1)) (hp : pc + 1 = pc') (r : WGo p e below s kc ks Q T (mkF m pc' Ls (.int (u.toInt32) :: st))) : WGo p e below s kc ks Q T (mkF m pc Ls (.long u :: st)) := by
  subst hp; exact r.go fun t k => XT.l2i X.here hx rfl hd rfl k
theorem g_i2b (X : Stand p l e R s m args below meth c T locs cells slots) (hx : p.tables.exec = Jvm.exec) (hd : decode c.code pc = .ok (.i2b, 1)) (hp : pc + 1 = pc') (r : WGo p e below s kc ks Q T (mkF m pc' Ls (.int (x.toInt8.toInt32) :: st))) : WGo p e below s kc ks Q T (mkF m pc Ls (.int x :: st)) := by
  subst hp; exact r.go fun t k => XT.i2b X.here hx rfl hd rfl k
theorem g_i2c (X : Stand p l e R s m args below meth c T locs cells slots) (hx : p.tables.exec = Jvm.exec) (hd : decode c.code pc = .ok (.i2c, 1)) (hp : pc + 1 = pc') (r : WGo p e below s kc ks Q T (mkF m pc' Ls (.int (x.toUInt32.toUInt16.toUInt32.toInt32) :: st))) : WGo p e below s kc ks Q T (mkF m pc Ls (.int x :: st)) := by
  subst hp; exact r.go fun t k => XT.i2c X.here hx rfl hd rfl k
theorem g_i2s (X : Stand p l e R s m args below meth c T locs cells slots) (hx : p.tables.exec = Jvm.exec) (hd : decode c.code pc = .ok (.i2s, 1)) (hp : pc + 1 = pc') (r : WGo p e below s kc ks Q T (mkF m pc' Ls (.int (x.toInt16.toInt32) :: st))) : WGo p e below s kc ks Q T (mkF m pc Ls (.int x :: st)) := by
  subst hp; exact r.go fun t k => XT.i2s X.here hx rfl hd rfl k
theorem g_irem (X : Stand p l e R s m args below meth c T locs cells slots) (hx : p.tables.exec = Jvm.exec) (hd : decode c.code pc = .ok (.irem, 1)) (hy : y ≠ 0) (hp : pc + 1 = pc') (r : WGo p e below s kc ks Q T (mkF m pc' Ls (.int (x % y) :: st))) : WGo p e below s kc ks Q T (mkF m pc Ls (.int y :: .int x :: st)) := by
  subst hp; exact r.go fun t k => iremM X hx rfl hd rfl hy k
theorem g_ldiv (X : Stand p l e R s m args below meth c T locs cells slots) (hx : p.tables.exec = Jvm.exec) (hd : decode c.code pc = .ok (.ldiv, 1)) (hy : w ≠ 0) (hp : pc + 1 = pc') (r : WGo p e below s kc ks Q T (mkF m pc' Ls (.long (u / w) :: st))) : WGo p e below s kc ks Q T (mkF m pc Ls (.long w :: .long u :: st)) := by
  subst hp; exact r.go fun t k => XT.ldiv X.here hx rfl hd rfl hy k
theorem g_lrem (X : Stand p l e R s m args below meth c T locs cells slots) (hx : p.tables.exec = Jvm.exec) (hd : decode c.code pc = .ok (.lrem, 1)) (hy : w ≠ 0) (hp : pc + 1 = pc') (r : WGo p e below s kc ks Q T (mkF m pc' Ls (.long (u % w) :: st))) : WGo p e below s kc ks Q T (mkF m pc Ls (.long w :: .long u :: st)) := by
  subst hp; rw [← lrem_mod] at r; exact r.go fun t k => XT.lrem X.here hx rfl hd rfl hy k
/-! the stack -/
theorem g_dup {v : Value} (X : Stand p l e R s m args below meth c T locs cells slots) (hx : p.tables.exec = Jvm.exec) (hd : decode c.code pc = .ok (.dup, 1)) (hc : v.category = 1) (hp : pc + 1 = pc') (r : WGo p e below s kc ks Q T (mkF m pc' Ls (v :: v :: st))) : WGo p e below s kc ks Q T (mkF m pc Ls (v :: st)) := by
  subst hp; exact r.go fun t k => XS.dup X.here hx rfl hd rfl hc k
theorem g_dup2 {v v' : Value} (X : Stand p l e R s m args below meth c T locs cells slots) (hx : p.tables.exec = Jvm.exec) (hd : decode c.code pc = .ok (.dup2, 1)) (hc : v.category = 1) (hc' : v'.category = 1) (hp : pc + 1 = pc') (r : WGo p e below s kc ks Q T (mkF m pc' Ls (v :: v' :: v :: v' :: st))) : WGo p e below s kc ks Q T (mkF m pc Ls (v :: v' :: st)) := by
  subst hp; exact r.go fun t k => XT.dup2 X.here hx rfl hd rfl hc hc' k
theorem g_pop {v : Value} (X : Stand p l e R s m args below meth c T locs cells slots) (hx : p.tables.exec = Jvm.exec) (hd : decode c.code pc = .ok (.pop, 1)) (hc : v.category = 1) (hp : pc + 1 = pc') (r : WGo p e below s kc ks Q T (mkF m pc' Ls st)) : WGo p e below s kc ks Q T (mkF m pc Ls (v :: st)) := by
  subst hp; exact r.go fun t k => XT.pop X.here hx rfl hd rfl hc k
/-! jumps -/
theorem g_join {α : Type} {P : α → Prop} {F : JFrame} {J : α → JFrame} (k : (∀ z, P z → WGo p e below s kc ks Q T (J z)) → WGo p e below s kc ks Q T F) (r : ∀ z, P z → WGo p e below s kc ks Q T (J z)) : WGo p e below s kc ks Q T F := k r
theorem g_goto (X : Stand p l e R s m args below meth c T locs cells slots) (hx : p.tables.exec = Jvm.exec) {o : Int} (hd : decode c.code pc = .ok (.goto o, 3)) (ho : 0 ≤ (pc : Int) + o) (hp : ((pc : Int) + o).toNat = pc') (r : WGo p e below s kc ks Q T (mkF m pc' Ls st)) : WGo p e below s kc ks Q T (mkF m pc Ls st) :=
  r.go fun t k => XS.goto X.here hx rfl rfl hd ho hp k
theorem g_joinT {α : Type} {P : α → Prop} {F : JFrame} {J : α → JFrame} {n0 : Nat} (k : (∀ T' L z, Stand p l e R s m args below meth c T' L cells slots → T'.heap = h → Fr n0 L → P z → WGo p e below s kc ks Q T' (J z)) → WGo p e below s kc ks Q T F) (r : ∀ T' L z, Stand p l e R s m args below meth c T' L cells slots → T'.heap = h → Fr n0 L → P z → WGo p e below s kc ks Q T' (J z)) : WGo p e below s kc ks Q T F := k r
theorem g_ind {α : Type} {P : Nat → α → Prop} {J : α → JFrame} (step : ∀ k, (∀ k' z, k' < k → P k' z → WGo p e below s kc ks Q T (J z)) → ∀ z, P k z → WGo p e below s kc ks Q T (J z)) (k0 : Nat) (z0 : α) (h0 : P k0 z0) : WGo p e below s kc ks Q T (J z0) := by
  have all : ∀ n k, k < n → ∀ z, P k z → WGo p e below s kc ks Q T (J z) := by
    intro n
    induction n with
    | zero => intro k hk; exact absurd hk (Nat.not_lt_zero _)
    | succ n ih => intro k hk z hz; exact step k (fun k' z' hk' hz' => ih k' (Nat.lt_of_lt_of_le hk' (Nat.le_of_lt_succ hk)) z' hz') z hz
  exact all (k0 + 1) k0 (Nat.lt_succ_self _) z0 h0
theorem g_icmp (X : Stand p l e R s m args below meth c T locs cells slots) (hx : p.tables.exec = Jvm.exec) {cd : ClassFile.Cond} {o : Int} {pc2 : Nat} (hd : decode c.code pc = .ok (.if_icmp cd o, 3)) (ho : 0 ≤ (pc : Int) + o) (hp : ((pc : Int) + o).toNat = pc') (hp2 : pc + 3 = pc2) (r1 : if_icmp.holds cd x y = true → WGo p e below s kc ks Q T (mkF m pc' Ls st)) (r2 : if_icmp.holds cd x y = false → WGo p e below s kc ks Q T (mkF m pc2 Ls st)) : WGo p e below s kc ks Q T (mkF m pc Ls (.int y :: .int x :: st)) := by
  subst hp2
  cases hc : if_icmp.holds cd x y
  · exact (r2 hc).go fun t k => XS.icmpNo X.here hx rfl hd rfl hc k
  · exact (r1 hc).go fun t k => XS.icmpYes X.here hx rfl rfl hd rfl hc ho hp k
theorem g_if (X : Stand p l e R s m args below meth c T locs cells slots) (hx : p.tables.exec = Jvm.exec) {cd : ClassFile.Cond} {o : Int} {pc2 : Nat} (hd : decode c.code pc = .ok (.ifCond cd o, 3)) (ho : 0 ≤ (pc : Int) + o) (hp : ((pc : Int) + o).toNat = pc') (hp2 : pc + 3 = pc2) (r1 : if_icmp.holds cd x 0 = true → WGo p e below s kc ks Q T (mkF m pc' Ls st)) (r2 : if_icmp.holds cd x 0 = false → WGo p e below s kc ks Q T (mkF m pc2 Ls st)) : WGo p e below s kc ks Q T (mkF m pc Ls (.int x :: st)) := by
  subst hp2
  cases hc : if_icmp.holds cd x 0
  · exact (r2 hc).go fun t k => XS.ifNo X.here hx rfl hd rfl ((if0 _ _).trans hc) k
  · exact (r1 hc).go fun t k => XS.ifYes X.here hx rfl rfl hd rfl ((if0 _ _).trans hc) ho hp k
theorem h_eq1 (q : if_icmp.holds .eq x y = true) : x = y := by simpa [if_icmp.holds] using q
theorem h_eq0 (q : if_icmp.holds .eq x y = false) : ¬ x = y := by simpa [if_icmp.holds] using q
theorem h_ne1 (q : if_icmp.holds .ne x y = true) : ¬ x = y := by simpa [if_icmp.holds] using q
theorem h_ne0 (q : if_icmp.holds .ne x y = false) : x = y := by simpa [if_icmp.holds] using q
theorem h_lt1 (q : if_icmp.holds .lt x y = true) : x < y := by simpa [if_icmp.holds] using q
theorem h_lt0 (q : if_icmp.holds .lt x y = false) : ¬ x < y := by simpa [if_icmp.holds] using q
theorem h_ge1 (q : if_icmp.holds .ge x y = true) : ¬ x < y := fun z => by rw [(tlt z).2.1] at q; cases q
theorem h_ge0 (q : if_icmp.holds .ge x y = false) : x < y := Classical.byContradiction fun z => by rw [(flt z).2.1] at q; cases q
theorem h_gt1 (q : if_icmp.holds .gt x y = true) : y < x := Classical.byContradiction fun z => by rw [(flt z).2.2.1] at q; cases q
theorem h_gt0 (q : if_icmp.holds .gt x y = false) : ¬ y < x := fun z => by rw [(tlt z).2.2.1] at q; cases q
theorem h_le1 (q : if_icmp.holds .le x y = true) : ¬ y < x := fun z => by rw [(tlt z).2.2.2] at q; cases q
theorem h_le0 (q : if_icmp.holds .le x y = false) : y < x := Classical.byContradiction fun z => by rw [(flt z).2.2.2] at q; cases q
theorem g_acmp {v v' : Value} (X : Stand p l e R s m args below meth c T locs cells slots) (hx : p.tables.exec = Jvm.exec) (h1 : v.isRef = true) (h2 : v'.isRef = true) {o : Int} {pc2 : Nat} (hd : decode c.code pc = .ok (.if_acmp .ne o, 3)) (ho : 0 ≤ (pc : Int) + o) (hp : ((pc : Int) + o).toNat = pc') (hp2 : pc + 3 = pc2) (r1 : ¬ v = v' → WGo p e below s kc ks Q T (mkF m pc' Ls st)) (r2 : v = v' → WGo p e below s kc ks Q T (mkF m pc2 Ls st)) : WGo p e below s kc ks Q T (mkF m pc Ls (v' :: v :: st)) := by
  by_cases hc : v = v'
  · exact (r2 hc).go fun t k => Jvm.RoadKit.acmp X hx rfl h1 h2 rfl hd rfl (decide_eq_true hc) ho (by simp [acV, hp2]) k
  · exact (r1 hc).go fun t k => Jvm.RoadKit.acmp X hx rfl h1 h2 rfl hd rfl (decide_eq_false hc) ho (by simp [acV, hp]) k
theorem cl_lt (u w : Int64) : XT.cmpL u w < 0 ↔ u < w := lw_lt u w
theorem cl_gt (u w : Int64) : 0 < XT.cmpL u w ↔ w < u := lw_gt u w
theorem cl_eq (u w : Int64) : XT.cmpL u w = 0 ↔ u = w := lw_eq u w
/-! fields -/
theorem g_getF {own O n d : String} {index : Nat} {a : Addr} {v : Value} (X : Stand p l e R s m args below meth c T locs cells slots) (hx : p.tables.exec = Jvm.exec) (hZ : Z.Warmed39 s.vm) (hown : s.vm.findClass own = some m.cls) (wd : (Jvm.Cond.fieldLink own index O n d).before a0 Z = true) (eT : T.heap = h) (F : Fld Z h a O n d v) (hd : decode c.code pc = .ok (.getfield index, 3)) (hp : pc + 3 = pc')
    (r : ∀ T', Stand p l e R s m args below meth c T' locs cells slots → T'.heap = h → WGo p e below s kc ks Q T' (mkF m pc' Ls (v :: st))) : WGo p e below s kc ks Q T (mkF m pc Ls (.ref a :: st)) := by
  subst hp
  obtain ⟨T', X', e', k⟩ := getF X hx hZ hown (host := "") (Or.inl wd) Via.refl eT F (g := mkF m pc Ls (.ref a :: st)) rfl rfl hd
  exact (r T' X' e').go k
theorem g_putF {own O n d C : String} {index kk : Nat} {ty : FieldType} {a : Addr} {v old : Value} (X : Stand p l e R s m args below meth c T locs cells slots) (hx : p.tables.exec = Jvm.exec) (hZ : Z.Warmed39 s.vm) (hown : s.vm.findClass own = some m.cls) (wd : (Jvm.Cond.fieldLink own index O n d).before a0 Z = true) (eT : T.heap = h) (F : Fld Z h a O n d old) (E : Exa Z h a C)
    (L : (Jvm.Cond.lays C O n d).before a0 Z = true ∨ ((Jvm.Cond.laysFinal C O n d).before a0 Z = true ∧ own = O ∧ meth.name = "<init>")) (wi : (Jvm.Cond.instantiable C kk).before a0 Z = true) (hty : parseFieldDescriptor d = some ty) (hn : narrow ty v = v) (hf : fits ty v = true) (hd : decode c.code pc = .ok (.putfield index, 3)) (hp : pc + 3 = pc')
    (r : ∀ T' h', Stand p l e R s m args below meth c T' (locs ++ [⟨a, Jvm.RoadKit.slotOf Z O n d⟩]) cells slots → T'.heap = h' → Wr h h' a (Jvm.RoadKit.slotOf Z O n d) v → WGo p e below s kc ks Q T' (mkF m pc' Ls st)) : WGo p e below s kc ks Q T (mkF m pc Ls (v :: .ref a :: st)) := by
  subst hp
  obtain ⟨T', h', X', e', W, k⟩ := putF X hx hZ hown (host := "") (Or.inl wd) Via.refl eT F E L wi hty hn hf (g := mkF m pc Ls (v :: .ref a :: st)) rfl rfl hd
  exact (r T' h' X' e' W).go k
theorem g_getS {own O n d : String} {index : Nat} {v : Value} (X : Stand p l e R s m args below meth c T locs cells slots) (hx : p.tables.exec = Jvm.exec) (hZ : Z.Warmed39 s.vm) (hown : s.vm.findClass own = some m.cls) (wd : (Jvm.Cond.fieldLink own index O n d).before a0 Z = true) (eT : T.heap = h) (F : Sta Z h O n d v) (hd : decode c.code pc = .ok (.getstatic index, 3)) (hp : pc + 3 = pc')
    (r : ∀ T', Stand p l e R s m args below meth c T' locs cells slots → T'.heap = h → WGo p e below s kc ks Q T' (mkF m pc' Ls (v :: st))) : WGo p e below s kc ks Q T (mkF m pc Ls st) := by
  subst hp
  obtain ⟨T', X', e', k⟩ := getS (host := "") X hx hZ hown wd Via.refl eT F (g := mkF m pc Ls st) rfl hd
  exact (r T' X' e').go k
/-! new -/
theorem g_new {own C : String} {index n : Nat} (X : Stand p l e R s m args below meth c T locs cells slots) (hx : p.tables.exec = Jvm.exec) (hZ : Z.Warmed39 s.vm) (hown : s.vm.findClass own = some m.cls) (w1 : (Jvm.Cond.classLink own index C).before a0 Z = true) (w2 : (Jvm.Cond.instantiable C n).before a0 Z = true) (w3 : (Jvm.Cond.initialized C).before a0 Z = true) (eT : T.heap = h) (hd : decode c.code pc = .ok (.new index, 3)) (hc : cells + 1 ≤ R.cells) (hl : slots + n ≤ R.slots) (hp : pc + 3 = pc')
    (r : ∀ T' h' a, a = h.size → Stand p l e R s m args below meth c T' locs (cells + 1) (slots + n) → T'.heap = h' → Ext h h' → Exa Z h' a C → (∀ {O nm d : String} {ty : FieldType}, Laid Z a0 C O nm d → parseFieldDescriptor d = some ty → Fld Z h' a O nm d (defaultValue ty)) → WGo p e below s kc ks Q T' (mkF m pc' Ls (.ref a :: st))) : WGo p e below s kc ks Q T (mkF m pc Ls st) := by
  subst hp
  obtain ⟨T', h', X', e', E, A, D, -, k⟩ := newO X hx hZ hown w1 w2 w3 eT (g := mkF m pc Ls st) rfl hd hc hl
  exact (r T' h' _ rfl X' e' E A D).go k
/-- a step that a law of the library hands out whole -/
theorem g_move {g g' : JFrame} (k : ∃ T', Stand p l e R s m args below meth c T' locs cells slots ∧ T'.heap = h ∧ ∀ target, Steps p.tables e below (T'.setTop g') target → Steps p.tables e below (T.setTop g) target) (r : ∀ T', Stand p l e R s m args below meth c T' locs cells slots → T'.heap = h → WGo p e below s kc ks Q T' g') : WGo p e below s kc ks Q T g := by
  obtain ⟨T', X', e', k⟩ := k
  exact (r T' X' e').go k
/-! calls by contract -/
theorem g_init {own : String} {index : Nat} {yy : MethodName} {bytes : ByteArray} {maxL : Nat} {rm : Room} {a : Addr} {argsL as' : List Value} {Q' : Option Value → Heap → List Loc → Prop} {W : Nat} (X : Stand p l e R s m args below meth c T locs cells slots) (hx : p.tables.exec = Jvm.exec) (hZ : Z.Warmed39 s.vm) (hown : s.vm.findClass own = some m.cls) (hy1 : yy.name = "<init>") (w1 : (Jvm.Cond.methodLink own index yy).before a0 Z = true) (w2 : (Jvm.Cond.instanceMethod yy).before a0 Z = true) (w3 : (Jvm.Cond.code yy bytes maxL none).before a0 Z = true) (w4 : (Jvm.Cond.initialized yy.cls).before a0 Z = true)
    (hy : yy.cls ≠ "java/lang/invoke/MethodHandle" ∧ yy.cls ≠ "java/lang/invoke/VarHandle") (ct : WCt l Z yy bytes maxL none rm (.ref a :: argsL).toArray h Q') (eT : T.heap = h) (hf : rm.frames + 1 ≤ R.frames) (hl : W + (maxL + 11) + rm.locals ≤ R.locals) (hc : cells + rm.cells ≤ R.cells) (hs : slots + rm.slots ≤ R.slots) (hlen : ∀ sig, parseMethodDescriptor yy.desc = some sig → argsL.length = sig.parameters.length) (hsize : Ls.size = c.maxLocals) (has : as' = argsL.reverse ++ .ref a :: st) (hW : 2 * 0 + (st.map fun v => v.category).sum ≤ W) (hd : decode c.code pc = .ok (.invokespecial index, 3)) (hp : pc + 3 = pc')
    (r : ∀ T' h' v L, Stand p l e R s m args below meth c T' (locs ++ L) (cells + rm.cells) (slots + rm.slots) → T'.heap = h' → Q' v h' L → WGo p e below s kc ks Q T' (mkF m pc' Ls (v.toList ++ st))) : WGo p e below s kc ks Q T (mkF m pc Ls as') := by
  subst hp has
  obtain ⟨v, _, ⟨T', L, k1, k2⟩, -, X', ⟨Lc, hQ, l1, y1, z1⟩, k⟩ := X.specialBack hx (y := yy) hy1 hown (mvT hZ w1) (mvT hZ w2) (mvT hZ w3) hy (backOf (W := W) (ct []) hZ w3 w4 hf hl) (g := mkF m pc Ls (argsL.reverse ++ .ref a :: st)) rfl hsize (Steps.refl _) (a := a) (argsL := argsL) (rest := st) hlen rfl hW hd (fun _ _ => ⟨rfl, eT, hc, hs⟩)
  dsimp only [Pt.U, Pt.locs, Pt.cells, Pt.slots] at X' l1 y1 z1 k hQ
  subst l1 y1 z1
  exact (r T' _ v Lc X' rfl hQ).go fun t q => k.trans q
theorem g_virt {own C : String} {index : Nat} {yy zz : MethodName} {bytes : ByteArray} {maxL : Nat} {ret : Option FieldType} {rm : Room} {a : Addr} {argsL as' : List Value} {Q' : Option Value → Heap → List Loc → Prop} {W : Nat} (X : Stand p l e R s m args below meth c T locs cells slots) (hx : p.tables.exec = Jvm.exec) (hZ : Z.Warmed39 s.vm) (hown : s.vm.findClass own = some m.cls) (w1 : (Jvm.Cond.methodLink own index yy).before a0 Z = true) (w2 : (Jvm.Cond.declares yy).before a0 Z = true) (nf : NotFace s yy) (w3 : (Jvm.Cond.selects C yy zz).before a0 Z = true) (w4 : (Jvm.Cond.instanceMethod zz).before a0 Z = true) (w5 : (Jvm.Cond.code zz bytes maxL ret).before a0 Z = true) (w6 : (Jvm.Cond.initialized zz.cls).before a0 Z = true)
    (hy : yy.cls ≠ "java/lang/invoke/MethodHandle" ∧ yy.cls ≠ "java/lang/invoke/VarHandle") (E : Exa Z h a C) (ct : WCt l Z zz bytes maxL ret rm (.ref a :: argsL).toArray h Q') (eT : T.heap = h) (hf : rm.frames + 1 ≤ R.frames) (hl : W + (maxL + 11) + rm.locals ≤ R.locals) (hc : cells + rm.cells ≤ R.cells) (hs : slots + rm.slots ≤ R.slots) (hlen : ∀ sig, parseMethodDescriptor yy.desc = some sig → argsL.length = sig.parameters.length) (hsize : Ls.size = c.maxLocals) (has : as' = argsL.reverse ++ .ref a :: st) (hW : 2 * 0 + (st.map fun v => v.category).sum ≤ W) (hd : decode c.code pc = .ok (.invokevirtual index, 3)) (hp : pc + 3 = pc')
    (r : ∀ T' h' v L, Stand p l e R s m args below meth c T' (locs ++ L) (cells + rm.cells) (slots + rm.slots) → T'.heap = h' → Q' v h' L → WGo p e below s kc ks Q T' (mkF m pc' Ls (v.toList ++ st))) : WGo p e below s kc ks Q T (mkF m pc Ls as') := by
  subst hp has
  obtain ⟨cq, kq, qa, -, qc⟩ := isOf hZ eT E
  obtain ⟨v, _, ⟨T', L, k1, k2⟩, -, X', ⟨Lc, hQ, l1, y1, z1⟩, k⟩ := X.virtualBack hx (y := yy) (z := zz) hown (mvT hZ w1) (mvT hZ w2) nf (mvT hZ w3) (mvT hZ w4) hy (backOf (W := W) (ct []) hZ w5 w6 hf hl) qa qc (g := mkF m pc Ls (argsL.reverse ++ .ref a :: st)) rfl hsize (Steps.refl _) (argsL := argsL) (rest := st) hlen rfl hW hd (fun _ _ => ⟨rfl, eT, hc, hs⟩)
  dsimp only [Pt.U, Pt.locs, Pt.cells, Pt.slots] at X' l1 y1 z1 k hQ
  subst l1 y1 z1
  exact (r T' _ v Lc X' rfl hQ).go fun t q => k.trans q
theorem g_stat {own : String} {index : Nat} {yy : MethodName} {bytes : ByteArray} {maxL : Nat} {ret : Option FieldType} {rm : Room} {argsL as' : List Value} {Q' : Option Value → Heap → List Loc → Prop} {W : Nat} (X : Stand p l e R s m args below meth c T locs cells slots) (hx : p.tables.exec = Jvm.exec) (hZ : Z.Warmed39 s.vm) (hown : s.vm.findClass own = some m.cls) (w1 : (Jvm.Cond.methodLink own index yy).before a0 Z = true) (w2 : (Jvm.Cond.static yy).before a0 Z = true) (w3 : (Jvm.Cond.initialized yy.cls).before a0 Z = true) (w4 : (Jvm.Cond.code yy bytes maxL ret).before a0 Z = true)
    (hy : yy.cls ≠ "java/lang/invoke/MethodHandle" ∧ yy.cls ≠ "java/lang/invoke/VarHandle") (ct : WCt l Z yy bytes maxL ret rm argsL.toArray h Q') (eT : T.heap = h) (hf : rm.frames + 1 ≤ R.frames) (hl : W + (maxL + 11) + rm.locals ≤ R.locals) (hc : cells + rm.cells ≤ R.cells) (hs : slots + rm.slots ≤ R.slots) (hlen : ∀ sig, parseMethodDescriptor yy.desc = some sig → argsL.length = sig.parameters.length) (hsize : Ls.size = c.maxLocals) (has : as' = argsL.reverse ++ st) (hW : 2 * 0 + (st.map fun v => v.category).sum ≤ W) (hd : decode c.code pc = .ok (.invokestatic index, 3)) (hp : pc + 3 = pc')
    (r : ∀ T' h' v L, Stand p l e R s m args below meth c T' (locs ++ L) (cells + rm.cells) (slots + rm.slots) → T'.heap = h' → Q' v h' L → WGo p e below s kc ks Q T' (mkF m pc' Ls (v.toList ++ st))) : WGo p e below s kc ks Q T (mkF m pc Ls as') := by
  subst hp has
  obtain ⟨v, _, ⟨T', L, k1, k2⟩, -, X', ⟨Lc, hQ, l1, y1, z1⟩, k⟩ := Jvm.LawKit.callS X hx (y := yy) hown (mvT hZ w1) (mvT hZ w2) (mvT hZ w3) (mvT hZ w4) hy (backOf (W := W) (ct []) hZ w4 w3 hf hl) (g := mkF m pc Ls (argsL.reverse ++ st)) rfl hsize (argsL := argsL) (rest := st) hlen rfl hW hd (fun _ _ => ⟨rfl, eT, hc, hs⟩)
  dsimp only [Pt.U, Pt.locs, Pt.cells, Pt.slots] at X' l1 y1 z1 k hQ
  subst l1 y1 z1
  exact (r T' _ v Lc X' rfl hQ).go fun t q => k t q
theorem own_selp {yy : MethodName} {n : Nat} (hins : (Jvm.Cond.instantiable yy.cls n).before args s = true) (hpriv : (Jvm.Cond.privateMethod yy).before args s = true) (hinst : (Jvm.Cond.instanceMethod yy).before args s = true) (hy : yy.cls ≠ "java/lang/invoke/MethodHandle" ∧ yy.cls ≠ "java/lang/invoke/VarHandle") :
    (Jvm.Cond.selects yy.cls yy yy).before args s = true := by
  obtain ⟨c, k, hc, hk, -, hniab, -, -⟩ := Cond.instantiable_spec hins
  have hni : k.isInterface = false := (Bool.or_eq_false_iff.mp hniab).1
  obtain ⟨mk, methM, hnamed, hmethM, -, -⟩ := Cond.instanceMethod_spec hinst
  have hfound : s.methodFound? yy.cls yy.name yy.desc = some mk := State.methodFound?_of_named hnamed hy
  have hcls : mk.cls = c := Option.some.inj ((findClass_of_methodNamed hnamed).symm.trans hc)
  have hsel : selectMethod {} s.vm c mk = .method mk := selectMethod_private hmethM (Cond.privateMethod_at hpriv mk methM hnamed hmethM)
  simp only [Cond.before, Cond.holds, Cond.value, hc, hfound, hnamed, hsel, hcls, hk]
  simp; exact hni
theorem g_priv {own C : String} {index kk : Nat} {yy : MethodName} {bytes : ByteArray} {maxL : Nat} {ret : Option FieldType} {rm : Room} {a : Addr} {argsL as' : List Value} {Q' : Option Value → Heap → List Loc → Prop} {W : Nat} (X : Stand p l e R s m args below meth c T locs cells slots) (hx : p.tables.exec = Jvm.exec) (hZ : Z.Warmed39 s.vm) (hown : s.vm.findClass own = some m.cls) (w1 : (Jvm.Cond.methodLink own index yy).before a0 Z = true) (w2 : (Jvm.Cond.instanceMethod yy).before a0 Z = true) (w3 : (Jvm.Cond.privateMethod yy).before a0 Z = true) (w4 : (Jvm.Cond.code yy bytes maxL ret).before a0 Z = true) (w5 : (Jvm.Cond.initialized yy.cls).before a0 Z = true) (w6 : (Jvm.Cond.instantiable yy.cls kk).before a0 Z = true)
    (hy : yy.cls ≠ "java/lang/invoke/MethodHandle" ∧ yy.cls ≠ "java/lang/invoke/VarHandle") (E : Exa Z h a C) (ct : WCt l Z yy bytes maxL ret rm (.ref a :: argsL).toArray h Q') (eT : T.heap = h) (hf : rm.frames + 1 ≤ R.frames) (hl : W + (maxL + 11) + rm.locals ≤ R.locals) (hc : cells + rm.cells ≤ R.cells) (hs : slots + rm.slots ≤ R.slots) (hlen : ∀ sig, parseMethodDescriptor yy.desc = some sig → argsL.length = sig.parameters.length) (hsize : Ls.size = c.maxLocals) (has : as' = argsL.reverse ++ .ref a :: st) (hW : 2 * 0 + (st.map fun v => v.category).sum ≤ W) (hd : decode c.code pc = .ok (.invokevirtual index, 3)) (hp : pc + 3 = pc')
    (r : ∀ T' h' v L, Stand p l e R s m args below meth c T' (locs ++ L) (cells + rm.cells) (slots + rm.slots) → T'.heap = h' → Q' v h' L → WGo p e below s kc ks Q T' (mkF m pc' Ls (v.toList ++ st))) : WGo p e below s kc ks Q T (mkF m pc Ls as') := by
  subst hp has
  obtain ⟨cq, qa, qb⟩ := E.cell
  obtain ⟨v, _, ⟨T', L, k1, k2⟩, -, X', ⟨Lc, hQ, l1, y1, z1⟩, k⟩ := X.privateBack hx (y := yy) hown (mvT hZ w1) (mvT hZ w2) (own_selp (mvT hZ w6) (mvP hZ w3) (mvT hZ w2) hy) (Cond.privateMethod_at (mvP hZ w3 (args := #[]))) (mvT hZ w4) hy (backOf (W := W) (ct []) hZ w4 w5 hf hl) (g := mkF m pc Ls (argsL.reverse ++ .ref a :: st)) rfl hsize (Steps.refl _) (a := a) (by rw [eT]; exact qa) qb (argsL := argsL) (rest := st) hlen rfl hW hd (fun _ _ => ⟨rfl, eT, hc, hs⟩)
  dsimp only [Pt.U, Pt.locs, Pt.cells, Pt.slots] at X' l1 y1 z1 k hQ
  subst l1 y1 z1
  exact (r T' _ v Lc X' rfl hQ).go fun t q => k.trans q
/-! arrays: the place i holds f i -/
def Ai (Z : State) (h : Heap) (a : Addr) (ty : FieldType) (n : Nat) (f : Nat → Value) : Prop := ∃ cl : Cell, Arr Z h a cl ty ∧ cl.slots.size = n ∧ n < 2 ^ 31 ∧ ∀ i, i < n → cl.slots[i]? = some (f i)
def upd (f : Nat → Value) (i : Nat) (v : Value) : Nat → Value := fun j => if j = i then v else f j
theorem upd_at (f : Nat → Value) (i : Nat) (v : Value) : upd f i v i = v := by simp [upd]
theorem upd_ne (f : Nat → Value) {i j : Nat} (v : Value) (q : j ≠ i) : upd f i v j = f j := by simp [upd, q]
theorem Ai.lt {a : Addr} {ty : FieldType} {n : Nat} {f : Nat → Value} (A : Ai Z h a ty n f) : a < h.size := by obtain ⟨_, A, -⟩ := A; exact A.lt
theorem Ai.ext {h' : Heap} {a : Addr} {ty : FieldType} {n : Nat} {f : Nat → Value} (A : Ai Z h a ty n f) (E : Ext h h') : Ai Z h' a ty n f := by obtain ⟨cl, A, r⟩ := A; exact ⟨cl, A.ext E, r⟩
theorem Ai.other {h' : Heap} {a b : Addr} {ty : FieldType} {n sl : Nat} {v : Value} {f : Nat → Value} (A : Ai Z h b ty n f) (W : Wr h h' a sl v) (q : b ≠ a) : Ai Z h' b ty n f := by obtain ⟨cl, A, r⟩ := A; exact ⟨cl, A.other W q, r⟩
theorem Ai.keep {h' : Heap} {a : Addr} {ty : FieldType} {n : Nat} {f : Nat → Value} {ws : List Addr} (A : Ai Z h a ty n f) (K : Keep h h' ws) (q : a ∉ ws) : Ai Z h' a ty n f := by obtain ⟨cl, A, r⟩ := A; exact ⟨cl, ⟨K.2.1 a cl A.1 q, A.2⟩, r⟩
theorem Ai.set {h' : Heap} {a : Addr} {ty : FieldType} {n : Nat} {f : Nat → Value} {i : Nat} {v : Value} (A : Ai Z h a ty n f) (W : Wr h h' a i v) : Ai Z h' a ty n (upd f i v) := by
  obtain ⟨cl, A, S, B, H⟩ := A
  refine ⟨_, A.same W, by rw [sz_set]; exact S, B, fun j hj => ?_⟩
  by_cases q : j = i
  · subst q
    rw [upd_at]
    simp [Cell.setSlot, S, hj]
  · rw [upd_ne f v q]
    show (cl.slots.setIfInBounds i v)[j]? = _
    rw [Array.getElem?_setIfInBounds_ne (Ne.symm q)]
    exact H j hj
theorem Ai.fn {a : Addr} {ty : FieldType} {n : Nat} {f f' : Nat → Value} (A : Ai Z h a ty n f) (q : ∀ i, i < n → f i = f' i) : Ai Z h a ty n f' := by
  obtain ⟨cl, A, S, B, H⟩ := A
  exact ⟨cl, A, S, B, fun j hj => by rw [← q j hj]; exact H j hj⟩
theorem Ai.inb {cl : Cell} {n : Nat} {j : Int32} (S : cl.slots.size = n) (h0 : ¬ j < 0) (hn : j.toNatClampNeg < n) : ¬ (j < 0 ∨ cl.slots.size ≤ j.toNatClampNeg) := fun q => q.elim h0 fun z => absurd hn (Nat.not_lt.mpr (S ▸ z))
theorem g_newP {aty : ArrayType} {n : Int32} {cap : Nat} (X : Stand p l e R s m args below meth c T locs cells slots) (hx : p.tables.exec = Jvm.exec) (hZ : Z.Warmed39 s.vm) (wd : (Jvm.Cond.arrayClass (newarray.typeOf aty)).before a0 Z = true) (eT : T.heap = h) (hd : decode c.code pc = .ok (.newarray aty, 2)) (hn : ¬ n < 0) (hcap : n.toNatClampNeg ≤ cap) (hb : cap * 8 ≤ 536870912) (hc : cells + 1 ≤ R.cells) (hl : slots + cap ≤ R.slots) (hp : pc + 2 = pc')
    (r : ∀ T' h' a, a = h.size → Stand p l e R s m args below meth c T' locs (cells + 1) (slots + cap) → T'.heap = h' → Ext h h' → Ai Z h' a (newarray.typeOf aty) n.toNatClampNeg (fun _ => defaultValue (newarray.typeOf aty)) → WGo p e below s kc ks Q T' (mkF m pc' Ls (.ref a :: st))) : WGo p e below s kc ks Q T (mkF m pc Ls (.int n :: st)) := by
  subst hp
  obtain ⟨T', h', cA, X', e', E, A, k⟩ := newP X hx hZ wd eT (g := mkF m pc Ls (.int n :: st)) rfl hd rfl hn hcap hb hc hl
  refine (r T' h' _ rfl X' e' E ⟨_, A, sz_new _ _ _, (back32 hn).2, fun i hi => ?_⟩).go k
  simp [newA, hi]
theorem g_len {a : Addr} {ty : FieldType} {n : Nat} {f : Nat → Value} (X : Stand p l e R s m args below meth c T locs cells slots) (hx : p.tables.exec = Jvm.exec) (hZ : Z.Warmed39 s.vm) (eT : T.heap = h) (A : Ai Z h a ty n f) (hd : decode c.code pc = .ok (.arraylength, 1)) (hn : Nat.toInt32 n = x) (hp : pc + 1 = pc') (r : WGo p e below s kc ks Q T (mkF m pc' Ls (.int x :: st))) : WGo p e below s kc ks Q T (mkF m pc Ls (.ref a :: st)) := by
  subst hp
  obtain ⟨cl, A, S, B, H⟩ := A
  rw [← hn, ← S] at r
  exact r.go fun t k => X.arraylength hx (by rw [eT]; exact A.1) (State.isArrayOf_alike hZ.alike A.2.1) (g := mkF m pc Ls (.ref a :: st)) rfl rfl hd t k
theorem g_iaload {a : Addr} {n : Nat} {f : Nat → Value} {j : Int32} {v : Value} (X : Stand p l e R s m args below meth c T locs cells slots) (hx : p.tables.exec = Jvm.exec) (hZ : Z.Warmed39 s.vm) (eT : T.heap = h) (A : Ai Z h a .int n f) (hd : decode c.code pc = .ok (.iaload, 1)) (h0 : ¬ j < 0) (hn : j.toNatClampNeg < n) (hv : f j.toNatClampNeg = v) (hp : pc + 1 = pc') (r : WGo p e below s kc ks Q T (mkF m pc' Ls (v :: st))) : WGo p e below s kc ks Q T (mkF m pc Ls (.int j :: .ref a :: st)) := by
  subst hp hv
  obtain ⟨cl, A, S, B, H⟩ := A
  exact r.go fun t k => X.iaload hx (by rw [eT]; exact A.1) (State.isArrayOf_alike hZ.alike A.2.1) A.2.2 (Ai.inb S h0 hn) (H _ hn) (g := mkF m pc Ls (.int j :: .ref a :: st)) rfl rfl hd t k
theorem g_laload {a : Addr} {n : Nat} {f : Nat → Value} {j : Int32} {v : Value} (X : Stand p l e R s m args below meth c T locs cells slots) (hx : p.tables.exec = Jvm.exec) (hZ : Z.Warmed39 s.vm) (eT : T.heap = h) (A : Ai Z h a .long n f) (hd : decode c.code pc = .ok (.laload, 1)) (h0 : ¬ j < 0) (hn : j.toNatClampNeg < n) (hv : f j.toNatClampNeg = v) (hp : pc + 1 = pc') (r : WGo p e below s kc ks Q T (mkF m pc' Ls (v :: st))) : WGo p e below s kc ks Q T (mkF m pc Ls (.int j :: .ref a :: st)) := by
  subst hp hv
  obtain ⟨cl, A, S, B, H⟩ := A
  exact r.go fun t k => X.laload hx (by rw [eT]; exact A.1) (State.isArrayOf_alike hZ.alike A.2.1) A.2.2 (Ai.inb S h0 hn) (H _ hn) (g := mkF m pc Ls (.int j :: .ref a :: st)) rfl rfl hd t k
theorem g_baloadB {a : Addr} {n : Nat} {f : Nat → Value} {j : Int32} {v : Value} (X : Stand p l e R s m args below meth c T locs cells slots) (hx : p.tables.exec = Jvm.exec) (hZ : Z.Warmed39 s.vm) (eT : T.heap = h) (A : Ai Z h a .byte n f) (hd : decode c.code pc = .ok (.baload, 1)) (h0 : ¬ j < 0) (hn : j.toNatClampNeg < n) (hv : f j.toNatClampNeg = v) (hp : pc + 1 = pc') (r : WGo p e below s kc ks Q T (mkF m pc' Ls (v :: st))) : WGo p e below s kc ks Q T (mkF m pc Ls (.int j :: .ref a :: st)) := by
  subst hp hv
  obtain ⟨cl, A, S, B, H⟩ := A
  exact r.go fun t k => X.baloadBytes hx (by rw [eT]; exact A.1) (State.isArrayOf_alike hZ.alike A.2.1) A.2.2 (Ai.inb S h0 hn) (H _ hn) (g := mkF m pc Ls (.int j :: .ref a :: st)) rfl rfl hd t k
theorem g_baloadZ {a : Addr} {n : Nat} {f : Nat → Value} {j : Int32} {v : Value} (X : Stand p l e R s m args below meth c T locs cells slots) (hx : p.tables.exec = Jvm.exec) (hZ : Z.Warmed39 s.vm) (eT : T.heap = h) (A : Ai Z h a .boolean n f) (hd : decode c.code pc = .ok (.baload, 1)) (h0 : ¬ j < 0) (hn : j.toNatClampNeg < n) (hv : f j.toNatClampNeg = v) (hp : pc + 1 = pc') (r : WGo p e below s kc ks Q T (mkF m pc' Ls (v :: st))) : WGo p e below s kc ks Q T (mkF m pc Ls (.int j :: .ref a :: st)) := by
  subst hp hv
  obtain ⟨cl, A, S, B, H⟩ := A
  exact r.go fun t k => X.baloadBooleans hx (by rw [eT]; exact A.1) (State.isArrayOf_alike hZ.alike A.2.1) A.2.2 (Ai.inb S h0 hn) (H _ hn) (g := mkF m pc Ls (.int j :: .ref a :: st)) rfl rfl hd t k
theorem g_aaload {a : Addr} {ty : FieldType} {n : Nat} {f : Nat → Value} {j : Int32} {v : Value} (X : Stand p l e R s m args below meth c T locs cells slots) (hx : p.tables.exec = Jvm.exec) (hZ : Z.Warmed39 s.vm) (eT : T.heap = h) (hty : ty.isReference = true) (A : Ai Z h a ty n f) (hd : decode c.code pc = .ok (.aaload, 1)) (h0 : ¬ j < 0) (hn : j.toNatClampNeg < n) (hv : f j.toNatClampNeg = v) (hp : pc + 1 = pc') (r : WGo p e below s kc ks Q T (mkF m pc' Ls (v :: st))) : WGo p e below s kc ks Q T (mkF m pc Ls (.int j :: .ref a :: st)) := by
  subst hp hv
  obtain ⟨cl, A, S, B, H⟩ := A
  exact r.go fun t k => X.aaload hx (by rw [eT]; exact A.1) (State.isArrayOf_alike hZ.alike A.2.1) hty A.2.2 (Ai.inb S h0 hn) (H _ hn) (g := mkF m pc Ls (.int j :: .ref a :: st)) rfl rfl hd t k
theorem g_iastore {a : Addr} {n : Nat} {f : Nat → Value} {j : Int32} (X : Stand p l e R s m args below meth c T locs cells slots) (hx : p.tables.exec = Jvm.exec) (hZ : Z.Warmed39 s.vm) (eT : T.heap = h) (A : Ai Z h a .int n f) (hd : decode c.code pc = .ok (.iastore, 1)) (h0 : ¬ j < 0) (hn : j.toNatClampNeg < n) (hp : pc + 1 = pc')
    (r : ∀ T' h', Stand p l e R s m args below meth c T' (locs ++ [⟨a, j.toNatClampNeg⟩]) cells slots → T'.heap = h' → Wr h h' a j.toNatClampNeg (.int x) → Ai Z h' a .int n (upd f j.toNatClampNeg (.int x)) → WGo p e below s kc ks Q T' (mkF m pc' Ls st)) : WGo p e below s kc ks Q T (mkF m pc Ls (.int x :: .int j :: .ref a :: st)) := by
  subst hp
  have A0 := A
  obtain ⟨cl, A, S, B, H⟩ := A
  obtain ⟨T', h', X', e', W, k⟩ := stI X hx hZ eT A (Ai.inb S h0 hn) (g := mkF m pc Ls (.int x :: .int j :: .ref a :: st)) rfl rfl hd
  exact (r T' h' X' e' W (A0.set W)).go k
theorem g_lastore {a : Addr} {n : Nat} {f : Nat → Value} {j : Int32} (X : Stand p l e R s m args below meth c T locs cells slots) (hx : p.tables.exec = Jvm.exec) (hZ : Z.Warmed39 s.vm) (eT : T.heap = h) (A : Ai Z h a .long n f) (hd : decode c.code pc = .ok (.lastore, 1)) (h0 : ¬ j < 0) (hn : j.toNatClampNeg < n) (hp : pc + 1 = pc')
    (r : ∀ T' h', Stand p l e R s m args below meth c T' (locs ++ [⟨a, j.toNatClampNeg⟩]) cells slots → T'.heap = h' → Wr h h' a j.toNatClampNeg (.long u) → Ai Z h' a .long n (upd f j.toNatClampNeg (.long u)) → WGo p e below s kc ks Q T' (mkF m pc' Ls st)) : WGo p e below s kc ks Q T (mkF m pc Ls (.long u :: .int j :: .ref a :: st)) := by
  subst hp
  have A0 := A
  obtain ⟨cl, A, S, B, H⟩ := A
  obtain ⟨T', h', X', e', W, k⟩ := stJ X hx hZ eT A (Ai.inb S h0 hn) (g := mkF m pc Ls (.long u :: .int j :: .ref a :: st)) rfl rfl hd
  exact (r T' h' X' e' W (A0.set W)).go k
theorem g_bastoreB {a : Addr} {n : Nat} {f : Nat → Value} {j : Int32} (X : Stand p l e R s m args below meth c T locs cells slots) (hx : p.tables.exec = Jvm.exec) (hZ : Z.Warmed39 s.vm) (eT : T.heap = h) (A : Ai Z h a .byte n f) (hd : decode c.code pc = .ok (.bastore, 1)) (h0 : ¬ j < 0) (hn : j.toNatClampNeg < n) (hp : pc + 1 = pc')
    (r : ∀ T' h', Stand p l e R s m args below meth c T' (locs ++ [⟨a, j.toNatClampNeg⟩]) cells slots → T'.heap = h' → Wr h h' a j.toNatClampNeg (.int (nar .byte x)) → Ai Z h' a .byte n (upd f j.toNatClampNeg (.int (nar .byte x))) → WGo p e below s kc ks Q T' (mkF m pc' Ls st)) : WGo p e below s kc ks Q T (mkF m pc Ls (.int x :: .int j :: .ref a :: st)) := by
  subst hp
  have A0 := A
  obtain ⟨cl, A, S, B, H⟩ := A
  obtain ⟨T', h', X', e', W, k⟩ := stB X hx hZ eT A (Ai.inb S h0 hn) (g := mkF m pc Ls (.int x :: .int j :: .ref a :: st)) rfl rfl hd
  exact (r T' h' X' e' W (A0.set W)).go k
theorem g_bastoreZ {a : Addr} {n : Nat} {f : Nat → Value} {j : Int32} (X : Stand p l e R s m args below meth c T locs cells slots) (hx : p.tables.exec = Jvm.exec) (hZ : Z.Warmed39 s.vm) (eT : T.heap = h) (A : Ai Z h a .boolean n f) (hd : decode c.code pc = .ok (.bastore, 1)) (h0 : ¬ j < 0) (hn : j.toNatClampNeg < n) (hp : pc + 1 = pc')
    (r : ∀ T' h', Stand p l e R s m args below meth c T' (locs ++ [⟨a, j.toNatClampNeg⟩]) cells slots → T'.heap = h' → Wr h h' a j.toNatClampNeg (.int (nar .boolean x)) → Ai Z h' a .boolean n (upd f j.toNatClampNeg (.int (nar .boolean x))) → WGo p e below s kc ks Q T' (mkF m pc' Ls st)) : WGo p e below s kc ks Q T (mkF m pc Ls (.int x :: .int j :: .ref a :: st)) := by
  subst hp
  have A0 := A
  obtain ⟨cl, A, S, B, H⟩ := A
  obtain ⟨T', h', X', e', W, k⟩ := stZ X hx hZ eT A (Ai.inb S h0 hn) (g := mkF m pc Ls (.int x :: .int j :: .ref a :: st)) rfl rfl hd
  exact (r T' h' X' e' W (A0.set W)).go k
theorem g_aastore {a : Addr} {ty : FieldType} {v : Value} {n : Nat} {f : Nat → Value} {j : Int32} (X : Stand p l e R s m args below meth c T locs cells slots) (hx : p.tables.exec = Jvm.exec) (hZ : Z.Warmed39 s.vm) (eT : T.heap = h) (hty : ty.isReference = true) (F : Sto Z h a v) (A : Ai Z h a ty n f) (hd : decode c.code pc = .ok (.aastore, 1)) (h0 : ¬ j < 0) (hn : j.toNatClampNeg < n) (hp : pc + 1 = pc')
    (r : ∀ T' h', Stand p l e R s m args below meth c T' (locs ++ [⟨a, j.toNatClampNeg⟩]) cells slots → T'.heap = h' → Wr h h' a j.toNatClampNeg (v) → Ai Z h' a ty n (upd f j.toNatClampNeg (v)) → WGo p e below s kc ks Q T' (mkF m pc' Ls st)) : WGo p e below s kc ks Q T (mkF m pc Ls (v :: .int j :: .ref a :: st)) := by
  subst hp
  have A0 := A
  obtain ⟨cl, A, S, B, H⟩ := A
  obtain ⟨T', h', X', e', W, k⟩ := stR X hx hZ eT A (Ai.inb S h0 hn) hty F (g := mkF m pc Ls (v :: .int j :: .ref a :: st)) rfl rfl hd
  exact (r T' h' X' e' W (A0.set W)).go k
/-! arrays of ints, bytes, booleans by the list of what they hold; arrays of longs too -/
def Al (Z : State) (h : Heap) (a : Addr) (ty : FieldType) (n : Nat) (L : List Int32) : Prop := L.length = n ∧ Ai Z h a ty n (fun i => .int (L.getD i 0))
def Aj (Z : State) (h : Heap) (a : Addr) (ty : FieldType) (n : Nat) (L : List Int64) : Prop := L.length = n ∧ Ai Z h a ty n (fun i => .long (L.getD i 0))
section Lists
variable {h' : Heap} {a b : Addr} {ty : FieldType} {n sl k : Nat} {v : Value} {L : List Int32} {M : List Int64} {ws : List Addr}
theorem Al.lt (A : Al Z h a ty n L) : a < h.size := A.2.lt
theorem Aj.lt (A : Aj Z h a ty n M) : a < h.size := A.2.lt
theorem Al.ext (A : Al Z h a ty n L) (E : Ext h h') : Al Z h' a ty n L := ⟨A.1, A.2.ext E⟩
theorem Aj.ext (A : Aj Z h a ty n M) (E : Ext h h') : Aj Z h' a ty n M := ⟨A.1, A.2.ext E⟩
theorem Al.other (A : Al Z h b ty n L) (W : Wr h h' a sl v) (q : b ≠ a) : Al Z h' b ty n L := ⟨A.1, A.2.other W q⟩
theorem Aj.other (A : Aj Z h b ty n M) (W : Wr h h' a sl v) (q : b ≠ a) : Aj Z h' b ty n M := ⟨A.1, A.2.other W q⟩
theorem Al.keep (A : Al Z h a ty n L) (K : Keep h h' ws) (q : a ∉ ws) : Al Z h' a ty n L := ⟨A.1, A.2.keep K q⟩
theorem Aj.keep (A : Aj Z h a ty n M) (K : Keep h h' ws) (q : a ∉ ws) : Aj Z h' a ty n M := ⟨A.1, A.2.keep K q⟩
theorem Al.new (A : Ai Z h a ty n (fun _ => .int 0)) : Al Z h a ty n (List.replicate n 0) := ⟨by simp, A.fn fun i hi => by simp [List.getD, hi]⟩
theorem Aj.new (A : Ai Z h a ty n (fun _ => .long 0)) : Aj Z h a ty n (List.replicate n 0) := ⟨by simp, A.fn fun i hi => by simp [List.getD, hi]⟩
theorem Al.set (A : Al Z h a ty n L) (B : Ai Z h' a ty n (upd (fun i => .int (L.getD i 0)) k (.int x))) : Al Z h' a ty n (L.set k x) := ⟨by simp [A.1], B.fn fun i hi => by
  by_cases q : i = k
  · subst q; rw [upd_at]; simp [List.getD, A.1, hi]
  · rw [upd_ne _ _ q]; simp [List.getD, List.getElem?_set_ne (Ne.symm q)]⟩
theorem Aj.set (A : Aj Z h a ty n M) (B : Ai Z h' a ty n (upd (fun i => .long (M.getD i 0)) k (.long u))) : Aj Z h' a ty n (M.set k u) := ⟨by simp [A.1], B.fn fun i hi => by
  by_cases q : i = k
  · subst q; rw [upd_at]; simp [List.getD, A.1, hi]
  · rw [upd_ne _ _ q]; simp [List.getD, List.getElem?_set_ne (Ne.symm q)]⟩
end Lists
/-! instanceof, checkcast -/
theorem g_instY {own K : String} {index : Nat} {a : Addr} (X : Stand p l e R s m args below meth c T locs cells slots) (hx : p.tables.exec = Jvm.exec) (hZ : Z.Warmed39 s.vm) (hown : s.vm.findClass own = some m.cls) (wd : (Jvm.Cond.classLink own index K).before a0 Z = true) (eT : T.heap = h) (F : Ins Z h a K true) (hd : decode c.code pc = .ok (.instanceof index, 3)) (hp : pc + 3 = pc')
    (r : ∀ T', Stand p l e R s m args below meth c T' locs cells slots → T'.heap = h → WGo p e below s kc ks Q T' (mkF m pc' Ls (.int 1 :: st))) : WGo p e below s kc ks Q T (mkF m pc Ls (.ref a :: st)) := by
  subst hp
  obtain ⟨T', X', e', k⟩ := instY X hx hZ hown wd eT F (g := mkF m pc Ls (.ref a :: st)) rfl rfl hd
  exact (r T' X' e').go k
theorem g_instN {own K C : String} {index : Nat} {a : Addr} (X : Stand p l e R s m args below meth c T locs cells slots) (hx : p.tables.exec = Jvm.exec) (hZ : Z.Warmed39 s.vm) (hown : s.vm.findClass own = some m.cls) (wd : (Jvm.Cond.classLink own index K).before a0 Z = true) (eT : T.heap = h) (E : Exa Z h a C) (F : ∃ c t, Z.vm.findClass C = some c ∧ Z.vm.findClass K = some t ∧ Z.vm.assignable c t = false) (hd : decode c.code pc = .ok (.instanceof index, 3)) (hp : pc + 3 = pc')
    (r : ∀ T', Stand p l e R s m args below meth c T' locs cells slots → T'.heap = h → WGo p e below s kc ks Q T' (mkF m pc' Ls (.int 0 :: st))) : WGo p e below s kc ks Q T (mkF m pc Ls (.ref a :: st)) := by
  subst hp
  obtain ⟨T', X', e', k⟩ := instNo X hx hZ hown wd eT E F (g := mkF m pc Ls (.ref a :: st)) rfl rfl hd
  exact (r T' X' e').go k
theorem g_inst0 {index : Nat} (X : Stand p l e R s m args below meth c T locs cells slots) (hx : p.tables.exec = Jvm.exec) (hd : decode c.code pc = .ok (.instanceof index, 3)) (hp : pc + 3 = pc') (r : WGo p e below s kc ks Q T (mkF m pc' Ls (.int 0 :: st))) : WGo p e below s kc ks Q T (mkF m pc Ls (.null :: st)) := by
  subst hp; exact r.go fun t k => X.instanceofNull hx (g := mkF m pc Ls (.null :: st)) rfl rfl hd t k
theorem g_castY {own K : String} {index : Nat} {a : Addr} (X : Stand p l e R s m args below meth c T locs cells slots) (hx : p.tables.exec = Jvm.exec) (hZ : Z.Warmed39 s.vm) (hown : s.vm.findClass own = some m.cls) (wd : (Jvm.Cond.classLink own index K).before a0 Z = true) (eT : T.heap = h) (F : Ins Z h a K true) (hd : decode c.code pc = .ok (.checkcast index, 3)) (hp : pc + 3 = pc')
    (r : ∀ T', Stand p l e R s m args below meth c T' locs cells slots → T'.heap = h → WGo p e below s kc ks Q T' (mkF m pc' Ls (.ref a :: st))) : WGo p e below s kc ks Q T (mkF m pc Ls (.ref a :: st)) := by
  subst hp
  obtain ⟨T', X', e', k⟩ := castY X hx hZ hown wd eT F (g := mkF m pc Ls (.ref a :: st)) rfl rfl hd
  exact (r T' X' e').go k
end OwnKit

theorem pd_0 : parseMethodDescriptor "(I)V" = some ⟨[.int], none⟩ := by decide +kernel
theorem pd_1 : parseMethodDescriptor "(I)I" = some ⟨[.int], some .int⟩ := by decide +kernel
theorem pd_2 : parseMethodDescriptor "([III)I" = some ⟨[(.array .int), .int, .int], some .int⟩ := by decide +kernel
theorem pd_3 : parseMethodDescriptor "([I[III)I" = some ⟨[(.array .int), (.array .int), .int, .int], some .int⟩ := by decide +kernel
theorem pd_4 : parseMethodDescriptor "(II)V" = some ⟨[.int, .int], none⟩ := by decide +kernel
theorem pd_5 : parseMethodDescriptor "(II)I" = some ⟨[.int, .int], some .int⟩ := by decide +kernel

section OwnArr
variable {p : Program} {l : Launch} {e : Env} {R : Room} {s : State} {m : MethodId} {args : Array Value} {below : List Frame} {meth : Method} {c : Code} {T : State} {locs : List Loc} {cells slots : Nat} {Z : State} {a0 : Array Value} {h : Heap} {kc ks : Nat} {Q : Option Value → Heap → List Loc → Prop} {pc pc' : Nat} {Ls Ls' : Array Slot} {st : List Value}
theorem g_newRA {own C ad : String} {ty : FieldType} {index : Nat} {n : Int32} {cap : Nat} (X : Stand p l e R s m args below meth c T locs cells slots) (hx : p.tables.exec = Jvm.exec) (hZ : Z.Warmed39 s.vm) (hown : s.vm.findClass own = some m.cls) (hC : (FieldType.array ty).toString = C) (w1 : (Jvm.Cond.classLink own index C).before a0 Z = true) (w2 : (Jvm.Cond.arrayOver (.array ty)).before a0 Z = true) (eT : T.heap = h) (hd : decode c.code pc = .ok (.anewarray index, 3)) (hn : ¬ n < 0) (hcap : n.toNatClampNeg ≤ cap) (hb : cap * 8 ≤ 536870912) (hc : cells + 1 ≤ R.cells) (hl : slots + cap ≤ R.slots) (had : "[" ++ C = ad) (hp : pc + 3 = pc')
    (r : ∀ T' h' a, a = h.size → Stand p l e R s m args below meth c T' locs (cells + 1) (slots + cap) → T'.heap = h' → Ext h h' → Ai Z h' a (.array ty) n.toNatClampNeg (fun _ => .null) → Exa Z h' a ad → (∃ cA, Z.vm.findClass ad = some cA ∧ OvrA Z cA ty C) → WGo p e below s kc ks Q T' (mkF m pc' Ls (.ref a :: st))) : WGo p e below s kc ks Q T (mkF m pc Ls (.int n :: st)) := by
  subst hp
  obtain ⟨T', h', cA, X', e', E, A, EX, O, k⟩ := newRA X hx hZ hown hC w1 w2 eT (g := mkF m pc Ls (.int n :: st)) rfl hd rfl hn hcap hb hc hl had
  refine (r T' h' _ rfl X' e' E ⟨_, A, sz_new _ _ _, (back32 hn).2, fun i hi => ?_⟩ EX ⟨cA, ?_, O⟩).go k
  · simp [newA, hi, defaultValue]
  · obtain ⟨cell, kk, q1, q2, -⟩ := EX
    cases q1.symm.trans A.1
    exact q2
theorem g_newPE {aty : ArrayType} {n : Int32} {cap : Nat} {ad : String} (X : Stand p l e R s m args below meth c T locs cells slots) (hx : p.tables.exec = Jvm.exec) (hZ : Z.Warmed39 s.vm) (wd : (Jvm.Cond.arrayClass (newarray.typeOf aty)).before a0 Z = true) (eT : T.heap = h) (hd : decode c.code pc = .ok (.newarray aty, 2)) (hn : ¬ n < 0) (hcap : n.toNatClampNeg ≤ cap) (hb : cap * 8 ≤ 536870912) (hc : cells + 1 ≤ R.cells) (hl : slots + cap ≤ R.slots) (had : "[" ++ (newarray.typeOf aty).toString = ad) (hp : pc + 2 = pc')
    (r : ∀ T' h' a, a = h.size → Stand p l e R s m args below meth c T' locs (cells + 1) (slots + cap) → T'.heap = h' → Ext h h' → Ai Z h' a (newarray.typeOf aty) n.toNatClampNeg (fun _ => defaultValue (newarray.typeOf aty)) → Exa Z h' a ad → WGo p e below s kc ks Q T' (mkF m pc' Ls (.ref a :: st))) : WGo p e below s kc ks Q T (mkF m pc Ls (.int n :: st)) := by
  subst hp
  obtain ⟨T', h', cA, X', e', E, A, EX, k⟩ := newPE X hx hZ wd eT (g := mkF m pc Ls (.int n :: st)) rfl hd rfl hn hcap hb hc hl had
  refine (r T' h' _ rfl X' e' E ⟨_, A, sz_new _ _ _, (back32 hn).2, fun i hi => ?_⟩ EX).go k
  simp [newA, hi]
theorem own_sto {a y : Addr} {t0 ty : FieldType} {n : Nat} {f : Nat → Value} {C ad : String} (A : Ai Z h a t0 n f) (E : Exa Z h a ad) (O : ∃ cA, Z.vm.findClass ad = some cA ∧ OvrA Z cA ty C) (I : Ins Z h y C true) : Sto Z h a (.ref y) := by
  obtain ⟨cl, A, -⟩ := A
  obtain ⟨cA, q1, q2⟩ := O
  obtain ⟨cell, kk, w1, w2, -⟩ := E
  cases w1.symm.trans A.1
  cases q1.symm.trans w2
  exact Sto.ofVA A rfl q2 I
end OwnArr
def W3 : List Int32 := [0, 1, 2]
def PERMS : List (Int32 × Int32 × Int32) := [(0, 1, 2), (0, 2, 1), (1, 0, 2), (1, 2, 0), (2, 0, 1), (2, 1, 0)]
abbrev S3 : Type := List Int32 × List Int32 × List Int32
def entN (L1 L2 : List Int32) (w r : Int32) : List Int32 := if L1.getD w.toNatClampNeg 0 - (1 : Int32) < 0 then L2.set r.toNatClampNeg r else (L2.set r.toNatClampNeg (L2.getD (L1.getD w.toNatClampNeg 0 - (1 : Int32)).toNatClampNeg 0)).set (L1.getD w.toNatClampNeg 0 - (1 : Int32)).toNatClampNeg r
def stp (S : S3) (w r : Int32) : S3 := (S.1.set w.toNatClampNeg (r + (1 : Int32)), entN S.1 S.2.1 w r, S.2.2.set w.toNatClampNeg (S.2.2.getD w.toNatClampNeg 0 + (1 : Int32)))
def S0 : S3 := ([0, 0, 0], [0, 0, 0], [0, 0, 0])
def Sn (n : Nat) (w r : Int32 × Int32 × Int32) : S3 := match n with
  | 0 => S0
  | 1 => stp S0 w.1 r.1
  | 2 => stp (stp S0 w.1 r.1) w.2.1 r.2.1
  | _ => stp (stp (stp S0 w.1 r.1) w.2.1 r.2.1) w.2.2 r.2.2
def firV (S : S3) (v : Int32) : Int32 := if S.1.getD v.toNatClampNeg 0 - (1 : Int32) < 0 then (-1) else S.2.1.getD (S.1.getD v.toNatClampNeg 0 - (1 : Int32)).toNatClampNeg 0
def aftV (S : S3) (w r : Int32) : Int32 := if r = S.1.getD w.toNatClampNeg 0 - (1 : Int32) then (-1) else S.2.1.getD r.toNatClampNeg 0
def expC (n v w0 w1 w2 : Int32) : Int32 := (if (0 : Int32) < n ∧ w0 = v then 1 else 0) + (if (1 : Int32) < n ∧ w1 = v then 1 else 0) + (if (2 : Int32) < n ∧ w2 = v then 1 else 0)
def expF (n v w0 w1 w2 r0 r1 r2 : Int32) : Int32 := if (0 : Int32) < n ∧ w0 = v then r0 else if (1 : Int32) < n ∧ w1 = v then r1 else if (2 : Int32) < n ∧ w2 = v then r2 else (-1)
def expA (n i w0 w1 w2 r0 r1 r2 : Int32) : Int32 := if i = 0 then (if (1 : Int32) < n ∧ w1 = w0 then r1 else if (2 : Int32) < n ∧ w2 = w0 then r2 else (-1)) else if i = (1 : Int32) then (if (2 : Int32) < n ∧ w2 = w1 then r2 else (-1)) else (-1)
/-- a place that may be read -/
def okV (S : S3) (v : Int32) : Bool := !(decide (v < 0)) && decide (v.toNatClampNeg < 3) && (decide (S.1.getD v.toNatClampNeg 0 - (1 : Int32) < 0) || decide ((S.1.getD v.toNatClampNeg 0 - (1 : Int32)).toNatClampNeg < 3))
def NN : List (Nat × Int32) := [(0, 0), (1, 1), (2, 2), (3, 3)]
def chk (a : Nat × Int32) (w r : Int32 × Int32 × Int32) : Bool := W3.all (fun v => okV (Sn a.1 w r) v && ((Sn a.1 w r).2.2.getD v.toNatClampNeg 0 == expC a.2 v w.1 w.2.1 w.2.2) && (firV (Sn a.1 w r) v == expF a.2 v w.1 w.2.1 w.2.2 r.1 r.2.1 r.2.2)) &&
  (!(decide ((0 : Int32) < a.2)) || aftV (Sn a.1 w r) w.1 r.1 == expA a.2 0 w.1 w.2.1 w.2.2 r.1 r.2.1 r.2.2) && (!(decide ((1 : Int32) < a.2)) || aftV (Sn a.1 w r) w.2.1 r.2.1 == expA a.2 1 w.1 w.2.1 w.2.2 r.1 r.2.1 r.2.2) && (!(decide ((2 : Int32) < a.2)) || aftV (Sn a.1 w r) w.2.2 r.2.2 == expA a.2 2 w.1 w.2.1 w.2.2 r.1 r.2.1 r.2.2)
theorem chk_all : (NN.all fun a => W3.all fun w0 => W3.all fun w1 => W3.all fun w2 => PERMS.all fun r => chk a (w0, w1, w2) r) = true := by decide +kernel
theorem chk_at {a : Nat × Int32} {w0 w1 w2 : Int32} {r : Int32 × Int32 × Int32} (ha : a ∈ NN) (h0 : w0 ∈ W3) (h1 : w1 ∈ W3) (h2 : w2 ∈ W3) (hr : r ∈ PERMS) : chk a (w0, w1, w2) r = true :=
  List.all_eq_true.mp (List.all_eq_true.mp (List.all_eq_true.mp (List.all_eq_true.mp (List.all_eq_true.mp chk_all _ ha) _ h0) _ h1) _ h2) _ hr
theorem ok_at {a : Nat × Int32} {w0 w1 w2 : Int32} {r : Int32 × Int32 × Int32} {v : Int32} (ha : a ∈ NN) (h0 : w0 ∈ W3) (h1 : w1 ∈ W3) (h2 : w2 ∈ W3) (hr : r ∈ PERMS) (hv : v ∈ W3) : okV (Sn a.1 (w0, w1, w2) r) v = true ∧ (Sn a.1 (w0, w1, w2) r).2.2.getD v.toNatClampNeg 0 = expC a.2 v w0 w1 w2 ∧ firV (Sn a.1 (w0, w1, w2) r) v = expF a.2 v w0 w1 w2 r.1 r.2.1 r.2.2 := by
  have q := chk_at ha h0 h1 h2 hr
  simp only [chk, Bool.and_eq_true] at q
  have w := List.all_eq_true.mp q.1.1.1 v hv
  simp only [Bool.and_eq_true, beq_iff_eq] at w
  exact ⟨w.1.1, w.1.2, w.2⟩
theorem aft_at {a : Nat × Int32} {w0 w1 w2 : Int32} {r : Int32 × Int32 × Int32} (ha : a ∈ NN) (h0 : w0 ∈ W3) (h1 : w1 ∈ W3) (h2 : w2 ∈ W3) (hr : r ∈ PERMS) : ((0 : Int32) < a.2 → aftV (Sn a.1 (w0, w1, w2) r) w0 r.1 = expA a.2 0 w0 w1 w2 r.1 r.2.1 r.2.2) ∧ ((1 : Int32) < a.2 → aftV (Sn a.1 (w0, w1, w2) r) w1 r.2.1 = expA a.2 1 w0 w1 w2 r.1 r.2.1 r.2.2) ∧ ((2 : Int32) < a.2 → aftV (Sn a.1 (w0, w1, w2) r) w2 r.2.2 = expA a.2 2 w0 w1 w2 r.1 r.2.1 r.2.2) := by
  have q := chk_at ha h0 h1 h2 hr
  simp only [chk, Bool.and_eq_true] at q
  refine ⟨fun z => ?_, fun z => ?_, fun z => ?_⟩
  · have w := q.1.1.2; simp only [z, decide_true, Bool.not_true, Bool.false_or, beq_iff_eq] at w; exact w
  · have w := q.1.2; simp only [z, decide_true, Bool.not_true, Bool.false_or, beq_iff_eq] at w; exact w
  · have w := q.2; simp only [z, decide_true, Bool.not_true, Bool.false_or, beq_iff_eq] at w; exact w
theorem okV_e {S : S3} {v : Int32} (h : okV S v = true) : (¬ v < 0) ∧ v.toNatClampNeg < 3 ∧ ((¬ S.1.getD v.toNatClampNeg 0 - (1 : Int32) < 0) → (S.1.getD v.toNatClampNeg 0 - (1 : Int32)).toNatClampNeg < 3) := by
  simp only [okV, Bool.and_eq_true, Bool.or_eq_true, Bool.not_eq_true', decide_eq_false_iff_not, decide_eq_true_eq] at h
  exact ⟨h.1.1, h.1.2, fun z => h.2.resolve_left z⟩
theorem perm_in {r : Int32 × Int32 × Int32} (h : r ∈ PERMS) : (r.1 ∈ W3) ∧ (r.2.1 ∈ W3) ∧ r.2.2 ∈ W3 := by
  have q : (PERMS.all fun r => W3.contains r.1 && W3.contains r.2.1 && W3.contains r.2.2) = true := by decide +kernel
  have w := List.all_eq_true.mp q _ h
  simp only [Bool.and_eq_true, List.contains_iff_mem] at w
  exact ⟨w.1.1, w.1.2, w.2⟩
theorem w3_in {v : Int32} (h : v ∈ W3) : (¬ v < 0) ∧ v.toNatClampNeg < 3 := by
  have q : (W3.all fun v => !(decide (v < 0)) && decide (v.toNatClampNeg < 3)) = true := by decide +kernel
  have w := List.all_eq_true.mp q _ h
  simp only [Bool.and_eq_true, Bool.not_eq_true', decide_eq_false_iff_not, decide_eq_true_eq] at w
  exact w
theorem mod_in (y k : Int32) (L : List Int32) (d : Int) (hk : k.toInt = d) (hd : 0 < d) (hL : ∀ z : Int32, 0 ≤ z.toInt → z.toInt < d → z ∈ L) : (y &&& (2147483647 : Int32)) % k ∈ L := by
  have a := c_and y 2147483647 (by decide)
  have b := (c_irem (y &&& (2147483647 : Int32)) k d hk).1 a.1
  exact hL _ (by rw [b]; exact Int.emod_nonneg _ (by omega)) (by rw [b]; exact Int.emod_lt_of_pos _ hd)
theorem in_list (L : List Int32) (d : Nat) (hL : ((List.range d).all fun i => L.contains (Int32.ofInt (i : Int))) = true) (z : Int32) (h0 : 0 ≤ z.toInt) (h : z.toInt < (d : Int)) : z ∈ L := by
  have w := List.all_eq_true.mp hL z.toInt.toNat (List.mem_range.mpr (by omega))
  rw [List.contains_iff_mem] at w
  have e : Int32.ofInt ((z.toInt.toNat : Nat) : Int) = z := by
    rw [show ((z.toInt.toNat : Nat) : Int) = z.toInt from by omega]; exact Int32.ofInt_toInt z
  rw [e] at w; exact w
theorem p_in (y : Int32) : (y &&& (2147483647 : Int32)) % (6 : Int32) ∈ ([0, 1, 2, 3, 4, 5] : List Int32) := mod_in y 6 _ 6 (by decide) (by decide) fun z a b => in_list _ 6 (by decide +kernel) z a b
theorem n_in (y : Int32) : (y &&& (2147483647 : Int32)) % (4 : Int32) ∈ ([0, 1, 2, 3] : List Int32) := mod_in y 4 _ 4 (by decide) (by decide) fun z a b => in_list _ 4 (by decide +kernel) z a b
theorem w_in (y : Int32) : (y &&& (2147483647 : Int32)) % (3 : Int32) ∈ W3 := mod_in y 3 _ 3 (by decide) (by decide) fun z a b => in_list _ 3 (by decide +kernel) z a b

theorem d1_0 : decode prog_23_method_1_code 0 = .ok (.aload_n 0, 1) := by decide +kernel
theorem d1_1 : decode prog_23_method_1_code 1 = .ok (.invokespecial 1, 3) := by decide +kernel
theorem d1_4 : decode prog_23_method_1_code 4 = .ok (.aload_n 0, 1) := by decide +kernel
theorem d1_5 : decode prog_23_method_1_code 5 = .ok (.iload_n 1, 1) := by decide +kernel
theorem d1_6 : decode prog_23_method_1_code 6 = .ok (.newarray .int, 2) := by decide +kernel
theorem d1_8 : decode prog_23_method_1_code 8 = .ok (.putfield 7, 3) := by decide +kernel
theorem d1_11 : decode prog_23_method_1_code 11 = .ok (.aload_n 0, 1) := by decide +kernel
theorem d1_12 : decode prog_23_method_1_code 12 = .ok (.iload_n 1, 1) := by decide +kernel
theorem d1_13 : decode prog_23_method_1_code 13 = .ok (.newarray .int, 2) := by decide +kernel
theorem d1_15 : decode prog_23_method_1_code 15 = .ok (.putfield 13, 3) := by decide +kernel
theorem d1_18 : decode prog_23_method_1_code 18 = .ok (.aload_n 0, 1) := by decide +kernel
theorem d1_19 : decode prog_23_method_1_code 19 = .ok (.iload_n 1, 1) := by decide +kernel
theorem d1_20 : decode prog_23_method_1_code 20 = .ok (.newarray .int, 2) := by decide +kernel
theorem d1_22 : decode prog_23_method_1_code 22 = .ok (.putfield 16, 3) := by decide +kernel
theorem d1_25 : decode prog_23_method_1_code 25 = .ok (.return_, 1) := by decide +kernel
theorem pl_1 : plainFor (⟨"com/example/storewatch/storewatch/check/Readers", "<init>", "(I)V"⟩ : MethodName) = true := plainFor_of_name (by first | (simp [plainName, overriddenIn]; done) | decide +kernel)
theorem ef_rmI (m : MethodId) (z0 : Addr) (z1 : Int32) : entryFrame m #[(.ref z0), (.int z1)] 2 = mkF m 0 #[.val (.ref z0), .val (.int z1)] [] := by first | (simp [entryFrame, mkF, argsToLocals, Value.category]; done) | rfl
set_option maxRecDepth 65536 in
set_option maxHeartbeats 40000000 in
theorem rmI (l : Launch) (Z : State) (a0 : Array Value) (hw : ∀ d ∈ tables_1, d.before a0 Z = true) (q : Addr) (h0 : Heap) (n0 : Nat) (Zn : n0 ≤ h0.size) (E_q : Exa Z h0 q "com/example/storewatch/storewatch/check/Readers") (F_q_lastPlusOne : Fld Z h0 q "com/example/storewatch/storewatch/check/Readers" "lastPlusOne" "[I" .null) (F_q_next : Fld Z h0 q "com/example/storewatch/storewatch/check/Readers" "next" "[I" .null) (F_q_counts : Fld Z h0 q "com/example/storewatch/storewatch/check/Readers" "counts" "[I" .null) (g_q : n0 ≤ q)  :
    WCt l Z (⟨"com/example/storewatch/storewatch/check/Readers", "<init>", "(I)V"⟩ : MethodName) prog_23_method_1_code 2 none ({ frames := 1, cells := 3, slots := 9, locals := 14 } : Room) #[(.ref q), (.int (3 : Int32))] h0 (fun vv hh LL => ∃ (r1 : Addr) (r2 : Addr) (r3 : Addr), (vv = none) ∧ (Fr n0 LL) ∧ (Keep h0 hh [q]) ∧ (Fld Z hh q "com/example/storewatch/storewatch/check/Readers" "lastPlusOne" "[I" (.ref r1)) ∧ (Fld Z hh q "com/example/storewatch/storewatch/check/Readers" "next" "[I" (.ref r2)) ∧ (Fld Z hh q "com/example/storewatch/storewatch/check/Readers" "counts" "[I" (.ref r3)) ∧ (Al Z hh r1 .int 3 (S0.1)) ∧ (Al Z hh r2 .int 3 (S0.2.1)) ∧ (Al Z hh r3 .int 3 (S0.2.2)) ∧ (q ≠ r1) ∧ (q ≠ r2) ∧ (q ≠ r3) ∧ (r1 ≠ r2) ∧ (r1 ≠ r3) ∧ (r2 ≠ r3) ∧ (n0 ≤ r1) ∧ (n0 ≤ r2) ∧ (n0 ≤ r3) ∧ (h0.size ≤ r1) ∧ (h0.size ≤ r2) ∧ (h0.size ≤ r3)) := by
  refine WCt.of pl_1 ?_
  intro p e s m below meth c T hx hby hml hown hnm hret hlk hZ hh0 X eT
  have hown : s.vm.findClass "com/example/storewatch/storewatch/check/Readers" = some m.cls := hown
  have hnm : meth.name = "<init>" := hnm
  have N := Fr.nil n0
  obtain ⟨h, eh⟩ : ∃ h, h = h0 := ⟨_, rfl⟩
  have K : Keep h0 h [q] := by rw [eh]; exact Keep.refl _ _
  refine WGo.cast (ef_rmI m q (3 : Int32)) ?_
  rw [← eh] at eT Zn E_q F_q_lastPlusOne F_q_next F_q_counts
  refine g_aloadN X hx (hb hby d1_0) rfl rfl (pc' := 1) rfl ?_
  refine g_move (initO (W := 0) X hx hZ hown (hw _ (List.mem_of_getElem? (i := 11) rfl)) (hw _ (List.mem_of_getElem? (i := 12) rfl)) (hw _ (List.mem_of_getElem? (i := 13) rfl)) eT (g := (mkF m 1 #[.val (.ref q), .val (.int (3 : Int32))] [(.ref q)])) rfl (by rw [hml]; rfl) rfl (hb hby d1_1) (by decide) (Nat.le_of_eq rfl) (by decide)) (fun T X eT => ?_)
  show WGo _ _ _ _ _ _ _ _ (mkF m 4 #[.val (.ref q), .val (.int (3 : Int32))] [])
  refine g_aloadN X hx (hb hby d1_4) rfl rfl (pc' := 5) rfl ?_
  refine g_iloadN X hx (hb hby d1_5) rfl (pc' := 6) rfl ?_
  refine g_newP (cap := 3) X hx hZ (hw _ (List.mem_of_getElem? (i := 3) rfl)) eT (hb hby d1_6) (by decide) (by decide) (by decide) (by decide) (by decide) (pc' := 8) rfl (fun T h r1 ha X eT Ex A_r1 => ?_)
  have g_r1 : n0 ≤ r1 := by rw [ha]; exact Zn
  have sz_r1 : h0.size ≤ r1 := by rw [ha]; exact K.1
  have ne_q_r1 : q ≠ r1 := by rw [ha]; exact Nat.ne_of_lt F_q_lastPlusOne.lt
  replace F_q_lastPlusOne := F_q_lastPlusOne.ext Ex
  replace F_q_next := F_q_next.ext Ex
  replace F_q_counts := F_q_counts.ext Ex
  replace E_q := E_q.ext Ex
  replace Zn := Nat.le_trans Zn Ex.1
  replace K := K.ext Ex
  replace A_r1 : Al Z h r1 .int 3 [0, 0, 0] := Al.new A_r1
  refine g_putF X hx hZ hown (hw _ (List.mem_of_getElem? (i := 14) rfl)) eT F_q_lastPlusOne E_q (Or.inr ⟨(hw _ (List.mem_of_getElem? (i := 15) rfl)), rfl, hnm⟩) (hw _ (List.mem_of_getElem? (i := 6) rfl)) (ty := (.array .int)) (by decide) rfl rfl (hb hby d1_8) (pc' := 11) rfl (fun T h X eT W => ?_)
  replace F_q_lastPlusOne := F_q_lastPlusOne.same W
  replace F_q_next := F_q_next.other W (Or.inr (slot_ne (t := (.array .int)) (t' := (.array .int)) (Or.inr (hw _ (List.mem_of_getElem? (i := 17) rfl))) (Or.inr (hw _ (List.mem_of_getElem? (i := 15) rfl))) (by decide) (by decide) (by decide)))
  replace F_q_counts := F_q_counts.other W (Or.inr (slot_ne (t := (.array .int)) (t' := (.array .int)) (Or.inr (hw _ (List.mem_of_getElem? (i := 19) rfl))) (Or.inr (hw _ (List.mem_of_getElem? (i := 15) rfl))) (by decide) (by decide) (by decide)))
  replace E_q := E_q.wr W
  replace A_r1 := A_r1.other W (Ne.symm ne_q_r1)
  replace N := Fr.snoc X N g_q
  replace Zn := Nat.le_trans Zn (Nat.le_of_eq W.size.symm)
  replace K := K.wr W (Or.inl (List.mem_of_getElem? (i := 0) rfl))
  refine g_aloadN X hx (hb hby d1_11) rfl rfl (pc' := 12) rfl ?_
  refine g_iloadN X hx (hb hby d1_12) rfl (pc' := 13) rfl ?_
  refine g_newP (cap := 3) X hx hZ (hw _ (List.mem_of_getElem? (i := 3) rfl)) eT (hb hby d1_13) (by decide) (by decide) (by decide) (by decide) (by decide) (pc' := 15) rfl (fun T h r2 ha X eT Ex A_r2 => ?_)
  have g_r2 : n0 ≤ r2 := by rw [ha]; exact Zn
  have sz_r2 : h0.size ≤ r2 := by rw [ha]; exact K.1
  have ne_q_r2 : q ≠ r2 := by rw [ha]; exact Nat.ne_of_lt F_q_lastPlusOne.lt
  have ne_r1_r2 : r1 ≠ r2 := by rw [ha]; exact Nat.ne_of_lt A_r1.lt
  replace F_q_lastPlusOne := F_q_lastPlusOne.ext Ex
  replace F_q_next := F_q_next.ext Ex
  replace F_q_counts := F_q_counts.ext Ex
  replace E_q := E_q.ext Ex
  replace A_r1 := A_r1.ext Ex
  replace Zn := Nat.le_trans Zn Ex.1
  replace K := K.ext Ex
  replace A_r2 : Al Z h r2 .int 3 [0, 0, 0] := Al.new A_r2
  refine g_putF X hx hZ hown (hw _ (List.mem_of_getElem? (i := 16) rfl)) eT F_q_next E_q (Or.inr ⟨(hw _ (List.mem_of_getElem? (i := 17) rfl)), rfl, hnm⟩) (hw _ (List.mem_of_getElem? (i := 6) rfl)) (ty := (.array .int)) (by decide) rfl rfl (hb hby d1_15) (pc' := 18) rfl (fun T h X eT W => ?_)
  replace F_q_lastPlusOne := F_q_lastPlusOne.other W (Or.inr (slot_ne (t := (.array .int)) (t' := (.array .int)) (Or.inr (hw _ (List.mem_of_getElem? (i := 15) rfl))) (Or.inr (hw _ (List.mem_of_getElem? (i := 17) rfl))) (by decide) (by decide) (by decide)))
  replace F_q_next := F_q_next.same W
  replace F_q_counts := F_q_counts.other W (Or.inr (slot_ne (t := (.array .int)) (t' := (.array .int)) (Or.inr (hw _ (List.mem_of_getElem? (i := 19) rfl))) (Or.inr (hw _ (List.mem_of_getElem? (i := 17) rfl))) (by decide) (by decide) (by decide)))
  replace E_q := E_q.wr W
  replace A_r1 := A_r1.other W (Ne.symm ne_q_r1)
  replace A_r2 := A_r2.other W (Ne.symm ne_q_r2)
  replace N := Fr.snoc X N g_q
  replace Zn := Nat.le_trans Zn (Nat.le_of_eq W.size.symm)
  replace K := K.wr W (Or.inl (List.mem_of_getElem? (i := 0) rfl))
  refine g_aloadN X hx (hb hby d1_18) rfl rfl (pc' := 19) rfl ?_
  refine g_iloadN X hx (hb hby d1_19) rfl (pc' := 20) rfl ?_
  refine g_newP (cap := 3) X hx hZ (hw _ (List.mem_of_getElem? (i := 3) rfl)) eT (hb hby d1_20) (by decide) (by decide) (by decide) (by decide) (by decide) (pc' := 22) rfl (fun T h r3 ha X eT Ex A_r3 => ?_)
  have g_r3 : n0 ≤ r3 := by rw [ha]; exact Zn
  have sz_r3 : h0.size ≤ r3 := by rw [ha]; exact K.1
  have ne_q_r3 : q ≠ r3 := by rw [ha]; exact Nat.ne_of_lt F_q_lastPlusOne.lt
  have ne_r1_r3 : r1 ≠ r3 := by rw [ha]; exact Nat.ne_of_lt A_r1.lt
  have ne_r2_r3 : r2 ≠ r3 := by rw [ha]; exact Nat.ne_of_lt A_r2.lt
  replace F_q_lastPlusOne := F_q_lastPlusOne.ext Ex
  replace F_q_next := F_q_next.ext Ex
  replace F_q_counts := F_q_counts.ext Ex
  replace E_q := E_q.ext Ex
  replace A_r1 := A_r1.ext Ex
  replace A_r2 := A_r2.ext Ex
  replace Zn := Nat.le_trans Zn Ex.1
  replace K := K.ext Ex
  replace A_r3 : Al Z h r3 .int 3 [0, 0, 0] := Al.new A_r3
  refine g_putF X hx hZ hown (hw _ (List.mem_of_getElem? (i := 18) rfl)) eT F_q_counts E_q (Or.inr ⟨(hw _ (List.mem_of_getElem? (i := 19) rfl)), rfl, hnm⟩) (hw _ (List.mem_of_getElem? (i := 6) rfl)) (ty := (.array .int)) (by decide) rfl rfl (hb hby d1_22) (pc' := 25) rfl (fun T h X eT W => ?_)
  replace F_q_lastPlusOne := F_q_lastPlusOne.other W (Or.inr (slot_ne (t := (.array .int)) (t' := (.array .int)) (Or.inr (hw _ (List.mem_of_getElem? (i := 15) rfl))) (Or.inr (hw _ (List.mem_of_getElem? (i := 19) rfl))) (by decide) (by decide) (by decide)))
  replace F_q_next := F_q_next.other W (Or.inr (slot_ne (t := (.array .int)) (t' := (.array .int)) (Or.inr (hw _ (List.mem_of_getElem? (i := 17) rfl))) (Or.inr (hw _ (List.mem_of_getElem? (i := 19) rfl))) (by decide) (by decide) (by decide)))
  replace F_q_counts := F_q_counts.same W
  replace E_q := E_q.wr W
  replace A_r1 := A_r1.other W (Ne.symm ne_q_r1)
  replace A_r2 := A_r2.other W (Ne.symm ne_q_r2)
  replace A_r3 := A_r3.other W (Ne.symm ne_q_r3)
  replace N := Fr.snoc X N g_q
  replace Zn := Nat.le_trans Zn (Nat.le_of_eq W.size.symm)
  replace K := K.wr W (Or.inl (List.mem_of_getElem? (i := 0) rfl))
  refine g_ret0 X hx hret hlk (hb hby d1_25) (by decide) (by decide) ?_
  rw [eT]
  exact ⟨_, _, _, rfl, N, K, F_q_lastPlusOne, F_q_next, F_q_counts, A_r1, A_r2, A_r3, ne_q_r1, ne_q_r2, ne_q_r3, ne_r1_r2, ne_r1_r3, ne_r2_r3, g_r1, g_r2, g_r3, sz_r1, sz_r2, sz_r3⟩
theorem d3_0 : decode prog_23_method_2_code 0 = .ok (.aload_n 0, 1) := by decide +kernel
theorem d3_1 : decode prog_23_method_2_code 1 = .ok (.getfield 7, 3) := by decide +kernel
theorem d3_4 : decode prog_23_method_2_code 4 = .ok (.iload_n 1, 1) := by decide +kernel
theorem d3_5 : decode prog_23_method_2_code 5 = .ok (.iaload, 1) := by decide +kernel
theorem d3_6 : decode prog_23_method_2_code 6 = .ok (.iconst 1, 1) := by decide +kernel
theorem d3_7 : decode prog_23_method_2_code 7 = .ok (.isub, 1) := by decide +kernel
theorem d3_8 : decode prog_23_method_2_code 8 = .ok (.istore_n 3, 1) := by decide +kernel
theorem d3_9 : decode prog_23_method_2_code 9 = .ok (.iload_n 3, 1) := by decide +kernel
theorem d3_10 : decode prog_23_method_2_code 10 = .ok (.ifCond .ge 13, 3) := by decide +kernel
theorem d3_13 : decode prog_23_method_2_code 13 = .ok (.aload_n 0, 1) := by decide +kernel
theorem d3_14 : decode prog_23_method_2_code 14 = .ok (.getfield 13, 3) := by decide +kernel
theorem d3_17 : decode prog_23_method_2_code 17 = .ok (.iload_n 2, 1) := by decide +kernel
theorem d3_18 : decode prog_23_method_2_code 18 = .ok (.iload_n 2, 1) := by decide +kernel
theorem d3_19 : decode prog_23_method_2_code 19 = .ok (.iastore, 1) := by decide +kernel
theorem d3_20 : decode prog_23_method_2_code 20 = .ok (.goto 22, 3) := by decide +kernel
theorem d3_23 : decode prog_23_method_2_code 23 = .ok (.aload_n 0, 1) := by decide +kernel
theorem d3_24 : decode prog_23_method_2_code 24 = .ok (.getfield 13, 3) := by decide +kernel
theorem d3_27 : decode prog_23_method_2_code 27 = .ok (.iload_n 2, 1) := by decide +kernel
theorem d3_28 : decode prog_23_method_2_code 28 = .ok (.aload_n 0, 1) := by decide +kernel
theorem d3_29 : decode prog_23_method_2_code 29 = .ok (.getfield 13, 3) := by decide +kernel
theorem d3_32 : decode prog_23_method_2_code 32 = .ok (.iload_n 3, 1) := by decide +kernel
theorem d3_33 : decode prog_23_method_2_code 33 = .ok (.iaload, 1) := by decide +kernel
theorem d3_34 : decode prog_23_method_2_code 34 = .ok (.iastore, 1) := by decide +kernel
theorem d3_35 : decode prog_23_method_2_code 35 = .ok (.aload_n 0, 1) := by decide +kernel
theorem d3_36 : decode prog_23_method_2_code 36 = .ok (.getfield 13, 3) := by decide +kernel
theorem d3_39 : decode prog_23_method_2_code 39 = .ok (.iload_n 3, 1) := by decide +kernel
theorem d3_40 : decode prog_23_method_2_code 40 = .ok (.iload_n 2, 1) := by decide +kernel
theorem d3_41 : decode prog_23_method_2_code 41 = .ok (.iastore, 1) := by decide +kernel
theorem d3_42 : decode prog_23_method_2_code 42 = .ok (.aload_n 0, 1) := by decide +kernel
theorem d3_43 : decode prog_23_method_2_code 43 = .ok (.getfield 7, 3) := by decide +kernel
theorem d3_46 : decode prog_23_method_2_code 46 = .ok (.iload_n 1, 1) := by decide +kernel
theorem d3_47 : decode prog_23_method_2_code 47 = .ok (.iload_n 2, 1) := by decide +kernel
theorem d3_48 : decode prog_23_method_2_code 48 = .ok (.iconst 1, 1) := by decide +kernel
theorem d3_49 : decode prog_23_method_2_code 49 = .ok (.iadd, 1) := by decide +kernel
theorem d3_50 : decode prog_23_method_2_code 50 = .ok (.iastore, 1) := by decide +kernel
theorem d3_51 : decode prog_23_method_2_code 51 = .ok (.aload_n 0, 1) := by decide +kernel
theorem d3_52 : decode prog_23_method_2_code 52 = .ok (.getfield 16, 3) := by decide +kernel
theorem d3_55 : decode prog_23_method_2_code 55 = .ok (.iload_n 1, 1) := by decide +kernel
theorem d3_56 : decode prog_23_method_2_code 56 = .ok (.dup2, 1) := by decide +kernel
theorem d3_57 : decode prog_23_method_2_code 57 = .ok (.iaload, 1) := by decide +kernel
theorem d3_58 : decode prog_23_method_2_code 58 = .ok (.iconst 1, 1) := by decide +kernel
theorem d3_59 : decode prog_23_method_2_code 59 = .ok (.iadd, 1) := by decide +kernel
theorem d3_60 : decode prog_23_method_2_code 60 = .ok (.iastore, 1) := by decide +kernel
theorem d3_61 : decode prog_23_method_2_code 61 = .ok (.return_, 1) := by decide +kernel
theorem pl_3 : plainFor (⟨"com/example/storewatch/storewatch/check/Readers", "enter", "(II)V"⟩ : MethodName) = true := plainFor_of_name (by first | (simp [plainName, overriddenIn]; done) | decide +kernel)
theorem ef_rmEn (m : MethodId) (z0 : Addr) (z1 : Int32) (z2 : Int32) : entryFrame m #[(.ref z0), (.int z1), (.int z2)] 4 = mkF m 0 #[.val (.ref z0), .val (.int z1), .val (.int z2), .unset] [] := by first | (simp [entryFrame, mkF, argsToLocals, Value.category]; done) | rfl
set_option maxRecDepth 65536 in
set_option maxHeartbeats 40000000 in
theorem rmEn (l : Launch) (Z : State) (a0 : Array Value) (hw : ∀ d ∈ tables_1, d.before a0 Z = true) (q : Addr) (r1 : Addr) (r2 : Addr) (r3 : Addr) (S : S3) (w : Int32) (r : Int32) (h0 : Heap) (n0 : Nat) (Zn : n0 ≤ h0.size) (F_q_lastPlusOne : Fld Z h0 q "com/example/storewatch/storewatch/check/Readers" "lastPlusOne" "[I" (.ref r1)) (F_q_next : Fld Z h0 q "com/example/storewatch/storewatch/check/Readers" "next" "[I" (.ref r2)) (F_q_counts : Fld Z h0 q "com/example/storewatch/storewatch/check/Readers" "counts" "[I" (.ref r3)) (A_r1 : Al Z h0 r1 .int 3 (S.1)) (A_r2 : Al Z h0 r2 .int 3 (S.2.1)) (A_r3 : Al Z h0 r3 .int 3 (S.2.2)) (ne_q_r1 : q ≠ r1) (ne_q_r2 : q ≠ r2) (ne_q_r3 : q ≠ r3) (ne_r1_r2 : r1 ≠ r2) (ne_r1_r3 : r1 ≠ r3) (ne_r2_r3 : r2 ≠ r3) (g_q : n0 ≤ q) (g_r1 : n0 ≤ r1) (g_r2 : n0 ≤ r2) (g_r3 : n0 ≤ r3) (hv : okV S w = true) (hr : r ∈ W3) :
    WCt l Z (⟨"com/example/storewatch/storewatch/check/Readers", "enter", "(II)V"⟩ : MethodName) prog_23_method_2_code 4 none ({ frames := 0, cells := 0, slots := 0, locals := 0 } : Room) #[(.ref q), (.int w), (.int r)] h0 (fun vv hh LL => (vv = none) ∧ (Fr n0 LL) ∧ (Keep h0 hh [r1, r2, r3]) ∧ (Al Z hh r1 .int 3 ((stp S w r).1)) ∧ (Al Z hh r2 .int 3 ((stp S w r).2.1)) ∧ (Al Z hh r3 .int 3 ((stp S w r).2.2))) := by
  refine WCt.of pl_3 ?_
  intro p e s m below meth c T hx hby hml hown hnm hret hlk hZ hh0 X eT
  have hown : s.vm.findClass "com/example/storewatch/storewatch/check/Readers" = some m.cls := hown
  have hnm : meth.name = "enter" := hnm
  have N := Fr.nil n0
  obtain ⟨h, eh⟩ : ∃ h, h = h0 := ⟨_, rfl⟩
  have K : Keep h0 h [r1, r2, r3] := by rw [eh]; exact Keep.refl _ _
  refine WGo.cast (ef_rmEn m q w r) ?_
  rw [← eh] at eT Zn F_q_lastPlusOne F_q_next F_q_counts A_r1 A_r2 A_r3
  obtain ⟨w0, w1, w2⟩ := okV_e hv
  obtain ⟨u0, u1⟩ := w3_in hr
  refine g_aloadN X hx (hb hby d3_0) rfl rfl (pc' := 1) rfl ?_
  refine g_getF X hx hZ hown (hw _ (List.mem_of_getElem? (i := 14) rfl)) eT F_q_lastPlusOne (hb hby d3_1) (pc' := 4) rfl (fun T X eT => ?_)
  refine g_iloadN X hx (hb hby d3_4) rfl (pc' := 5) rfl ?_
  refine g_iaload X hx hZ eT A_r1.2 (hb hby d3_5) w0 w1 (v := (.int (S.1.getD w.toNatClampNeg 0))) rfl (pc' := 6) rfl ?_
  refine g_iconst X hx (hb hby d3_6) (x := (1 : Int32)) (by decide) (pc' := 7) rfl ?_
  refine g_isub X hx (hb hby d3_7) (pc' := 8) rfl ?_
  refine g_istoreN X hx (hb hby d3_8) (Ls' := #[.val (.ref q), .val (.int w), .val (.int r), .val (.int ((S.1.getD w.toNatClampNeg 0) - (1 : Int32)))]) rfl (pc' := 9) rfl ?_
  refine g_iloadN X hx (hb hby d3_9) rfl (pc' := 10) rfl ?_
  refine g_if X hx (hb hby d3_10) (by decide) (pc' := 23) (by decide) (pc2 := 13) rfl (fun hc => ?_) (fun hc => ?_)
  · replace hc := h_ge1 hc
    have hc10 := hc
    refine g_aloadN X hx (hb hby d3_23) rfl rfl (pc' := 24) rfl ?_
    refine g_getF X hx hZ hown (hw _ (List.mem_of_getElem? (i := 16) rfl)) eT F_q_next (hb hby d3_24) (pc' := 27) rfl (fun T X eT => ?_)
    refine g_iloadN X hx (hb hby d3_27) rfl (pc' := 28) rfl ?_
    refine g_aloadN X hx (hb hby d3_28) rfl rfl (pc' := 29) rfl ?_
    refine g_getF X hx hZ hown (hw _ (List.mem_of_getElem? (i := 16) rfl)) eT F_q_next (hb hby d3_29) (pc' := 32) rfl (fun T X eT => ?_)
    refine g_iloadN X hx (hb hby d3_32) rfl (pc' := 33) rfl ?_
    refine g_iaload X hx hZ eT A_r2.2 (hb hby d3_33) hc10 (w2 hc10) (v := (.int (S.2.1.getD ((S.1.getD w.toNatClampNeg 0) - (1 : Int32)).toNatClampNeg 0))) rfl (pc' := 34) rfl ?_
    refine g_iastore X hx hZ eT A_r2.2 (hb hby d3_34) u0 u1 (pc' := 35) rfl (fun T h X eT W A' => ?_)
    replace F_q_lastPlusOne := F_q_lastPlusOne.other W (Or.inl ne_q_r2)
    replace F_q_next := F_q_next.other W (Or.inl ne_q_r2)
    replace F_q_counts := F_q_counts.other W (Or.inl ne_q_r2)
    replace A_r1 := A_r1.other W ne_r1_r2
    replace A_r3 := A_r3.other W (Ne.symm ne_r2_r3)
    replace N := Fr.snoc X N g_r2
    replace Zn := Nat.le_trans Zn (Nat.le_of_eq W.size.symm)
    replace K := K.wr W (Or.inl (List.mem_of_getElem? (i := 1) rfl))
    replace A_r2 : Al Z h r2 .int 3 (S.2.1.set r.toNatClampNeg (S.2.1.getD ((S.1.getD w.toNatClampNeg 0) - (1 : Int32)).toNatClampNeg 0)) := A_r2.set A'
    refine g_aloadN X hx (hb hby d3_35) rfl rfl (pc' := 36) rfl ?_
    refine g_getF X hx hZ hown (hw _ (List.mem_of_getElem? (i := 16) rfl)) eT F_q_next (hb hby d3_36) (pc' := 39) rfl (fun T X eT => ?_)
    refine g_iloadN X hx (hb hby d3_39) rfl (pc' := 40) rfl ?_
    refine g_iloadN X hx (hb hby d3_40) rfl (pc' := 41) rfl ?_
    refine g_iastore X hx hZ eT A_r2.2 (hb hby d3_41) hc10 (w2 hc10) (pc' := 42) rfl (fun T h X eT W A' => ?_)
    replace F_q_lastPlusOne := F_q_lastPlusOne.other W (Or.inl ne_q_r2)
    replace F_q_next := F_q_next.other W (Or.inl ne_q_r2)
    replace F_q_counts := F_q_counts.other W (Or.inl ne_q_r2)
    replace A_r1 := A_r1.other W ne_r1_r2
    replace A_r3 := A_r3.other W (Ne.symm ne_r2_r3)
    replace N := Fr.snoc X N g_r2
    replace Zn := Nat.le_trans Zn (Nat.le_of_eq W.size.symm)
    replace K := K.wr W (Or.inl (List.mem_of_getElem? (i := 1) rfl))
    replace A_r2 : Al Z h r2 .int 3 ((S.2.1.set r.toNatClampNeg (S.2.1.getD ((S.1.getD w.toNatClampNeg 0) - (1 : Int32)).toNatClampNeg 0)).set ((S.1.getD w.toNatClampNeg 0) - (1 : Int32)).toNatClampNeg r) := A_r2.set A'
    refine g_aloadN X hx (hb hby d3_42) rfl rfl (pc' := 43) rfl ?_
    refine g_getF X hx hZ hown (hw _ (List.mem_of_getElem? (i := 14) rfl)) eT F_q_lastPlusOne (hb hby d3_43) (pc' := 46) rfl (fun T X eT => ?_)
    refine g_iloadN X hx (hb hby d3_46) rfl (pc' := 47) rfl ?_
    refine g_iloadN X hx (hb hby d3_47) rfl (pc' := 48) rfl ?_
    refine g_iconst X hx (hb hby d3_48) (x := (1 : Int32)) (by decide) (pc' := 49) rfl ?_
    refine g_iadd X hx (hb hby d3_49) (pc' := 50) rfl ?_
    refine g_iastore X hx hZ eT A_r1.2 (hb hby d3_50) w0 w1 (pc' := 51) rfl (fun T h X eT W A' => ?_)
    replace F_q_lastPlusOne := F_q_lastPlusOne.other W (Or.inl ne_q_r1)
    replace F_q_next := F_q_next.other W (Or.inl ne_q_r1)
    replace F_q_counts := F_q_counts.other W (Or.inl ne_q_r1)
    replace A_r2 := A_r2.other W (Ne.symm ne_r1_r2)
    replace A_r3 := A_r3.other W (Ne.symm ne_r1_r3)
    replace N := Fr.snoc X N g_r1
    replace Zn := Nat.le_trans Zn (Nat.le_of_eq W.size.symm)
    replace K := K.wr W (Or.inl (List.mem_of_getElem? (i := 0) rfl))
    replace A_r1 : Al Z h r1 .int 3 (S.1.set w.toNatClampNeg (r + (1 : Int32))) := A_r1.set A'
    refine g_aloadN X hx (hb hby d3_51) rfl rfl (pc' := 52) rfl ?_
    refine g_getF X hx hZ hown (hw _ (List.mem_of_getElem? (i := 18) rfl)) eT F_q_counts (hb hby d3_52) (pc' := 55) rfl (fun T X eT => ?_)
    refine g_iloadN X hx (hb hby d3_55) rfl (pc' := 56) rfl ?_
    refine g_dup2 X hx (hb hby d3_56) rfl rfl (pc' := 57) rfl ?_
    refine g_iaload X hx hZ eT A_r3.2 (hb hby d3_57) w0 w1 (v := (.int (S.2.2.getD w.toNatClampNeg 0))) rfl (pc' := 58) rfl ?_
    refine g_iconst X hx (hb hby d3_58) (x := (1 : Int32)) (by decide) (pc' := 59) rfl ?_
    refine g_iadd X hx (hb hby d3_59) (pc' := 60) rfl ?_
    refine g_iastore X hx hZ eT A_r3.2 (hb hby d3_60) w0 w1 (pc' := 61) rfl (fun T h X eT W A' => ?_)
    replace F_q_lastPlusOne := F_q_lastPlusOne.other W (Or.inl ne_q_r3)
    replace F_q_next := F_q_next.other W (Or.inl ne_q_r3)
    replace F_q_counts := F_q_counts.other W (Or.inl ne_q_r3)
    replace A_r1 := A_r1.other W ne_r1_r3
    replace A_r2 := A_r2.other W ne_r2_r3
    replace N := Fr.snoc X N g_r3
    replace Zn := Nat.le_trans Zn (Nat.le_of_eq W.size.symm)
    replace K := K.wr W (Or.inl (List.mem_of_getElem? (i := 2) rfl))
    replace A_r3 : Al Z h r3 .int 3 (S.2.2.set w.toNatClampNeg ((S.2.2.getD w.toNatClampNeg 0) + (1 : Int32))) := A_r3.set A'
    refine g_ret0 X hx hret hlk (hb hby d3_61) (by decide) (by decide) ?_
    have A_r2 : Al Z h r2 .int 3 (entN S.1 S.2.1 w r) := by unfold entN; rw [if_neg hc10]; exact A_r2
    rw [eT]
    exact ⟨rfl, N, K, A_r1, A_r2, A_r3⟩
  · replace hc := h_ge0 hc
    have hc10 := hc
    refine g_aloadN X hx (hb hby d3_13) rfl rfl (pc' := 14) rfl ?_
    refine g_getF X hx hZ hown (hw _ (List.mem_of_getElem? (i := 16) rfl)) eT F_q_next (hb hby d3_14) (pc' := 17) rfl (fun T X eT => ?_)
    refine g_iloadN X hx (hb hby d3_17) rfl (pc' := 18) rfl ?_
    refine g_iloadN X hx (hb hby d3_18) rfl (pc' := 19) rfl ?_
    refine g_iastore X hx hZ eT A_r2.2 (hb hby d3_19) u0 u1 (pc' := 20) rfl (fun T h X eT W A' => ?_)
    replace F_q_lastPlusOne := F_q_lastPlusOne.other W (Or.inl ne_q_r2)
    replace F_q_next := F_q_next.other W (Or.inl ne_q_r2)
    replace F_q_counts := F_q_counts.other W (Or.inl ne_q_r2)
    replace A_r1 := A_r1.other W ne_r1_r2
    replace A_r3 := A_r3.other W (Ne.symm ne_r2_r3)
    replace N := Fr.snoc X N g_r2
    replace Zn := Nat.le_trans Zn (Nat.le_of_eq W.size.symm)
    replace K := K.wr W (Or.inl (List.mem_of_getElem? (i := 1) rfl))
    replace A_r2 : Al Z h r2 .int 3 (S.2.1.set r.toNatClampNeg r) := A_r2.set A'
    refine g_goto X hx (hb hby d3_20) (by decide) (pc' := 42) (by decide) ?_
    refine g_aloadN X hx (hb hby d3_42) rfl rfl (pc' := 43) rfl ?_
    refine g_getF X hx hZ hown (hw _ (List.mem_of_getElem? (i := 14) rfl)) eT F_q_lastPlusOne (hb hby d3_43) (pc' := 46) rfl (fun T X eT => ?_)
    refine g_iloadN X hx (hb hby d3_46) rfl (pc' := 47) rfl ?_
    refine g_iloadN X hx (hb hby d3_47) rfl (pc' := 48) rfl ?_
    refine g_iconst X hx (hb hby d3_48) (x := (1 : Int32)) (by decide) (pc' := 49) rfl ?_
    refine g_iadd X hx (hb hby d3_49) (pc' := 50) rfl ?_
    refine g_iastore X hx hZ eT A_r1.2 (hb hby d3_50) w0 w1 (pc' := 51) rfl (fun T h X eT W A' => ?_)
    replace F_q_lastPlusOne := F_q_lastPlusOne.other W (Or.inl ne_q_r1)
    replace F_q_next := F_q_next.other W (Or.inl ne_q_r1)
    replace F_q_counts := F_q_counts.other W (Or.inl ne_q_r1)
    replace A_r2 := A_r2.other W (Ne.symm ne_r1_r2)
    replace A_r3 := A_r3.other W (Ne.symm ne_r1_r3)
    replace N := Fr.snoc X N g_r1
    replace Zn := Nat.le_trans Zn (Nat.le_of_eq W.size.symm)
    replace K := K.wr W (Or.inl (List.mem_of_getElem? (i := 0) rfl))
    replace A_r1 : Al Z h r1 .int 3 (S.1.set w.toNatClampNeg (r + (1 : Int32))) := A_r1.set A'
    refine g_aloadN X hx (hb hby d3_51) rfl rfl (pc' := 52) rfl ?_
    refine g_getF X hx hZ hown (hw _ (List.mem_of_getElem? (i := 18) rfl)) eT F_q_counts (hb hby d3_52) (pc' := 55) rfl (fun T X eT => ?_)
    refine g_iloadN X hx (hb hby d3_55) rfl (pc' := 56) rfl ?_
    refine g_dup2 X hx (hb hby d3_56) rfl rfl (pc' := 57) rfl ?_
    refine g_iaload X hx hZ eT A_r3.2 (hb hby d3_57) w0 w1 (v := (.int (S.2.2.getD w.toNatClampNeg 0))) rfl (pc' := 58) rfl ?_
    refine g_iconst X hx (hb hby d3_58) (x := (1 : Int32)) (by decide) (pc' := 59) rfl ?_
    refine g_iadd X hx (hb hby d3_59) (pc' := 60) rfl ?_
    refine g_iastore X hx hZ eT A_r3.2 (hb hby d3_60) w0 w1 (pc' := 61) rfl (fun T h X eT W A' => ?_)
    replace F_q_lastPlusOne := F_q_lastPlusOne.other W (Or.inl ne_q_r3)
    replace F_q_next := F_q_next.other W (Or.inl ne_q_r3)
    replace F_q_counts := F_q_counts.other W (Or.inl ne_q_r3)
    replace A_r1 := A_r1.other W ne_r1_r3
    replace A_r2 := A_r2.other W ne_r2_r3
    replace N := Fr.snoc X N g_r3
    replace Zn := Nat.le_trans Zn (Nat.le_of_eq W.size.symm)
    replace K := K.wr W (Or.inl (List.mem_of_getElem? (i := 2) rfl))
    replace A_r3 : Al Z h r3 .int 3 (S.2.2.set w.toNatClampNeg ((S.2.2.getD w.toNatClampNeg 0) + (1 : Int32))) := A_r3.set A'
    refine g_ret0 X hx hret hlk (hb hby d3_61) (by decide) (by decide) ?_
    have A_r2 : Al Z h r2 .int 3 (entN S.1 S.2.1 w r) := by unfold entN; rw [if_pos hc10]; exact A_r2
    rw [eT]
    exact ⟨rfl, N, K, A_r1, A_r2, A_r3⟩
theorem d4_0 : decode prog_23_method_3_code 0 = .ok (.aload_n 0, 1) := by decide +kernel
theorem d4_1 : decode prog_23_method_3_code 1 = .ok (.getfield 16, 3) := by decide +kernel
theorem d4_4 : decode prog_23_method_3_code 4 = .ok (.iload_n 1, 1) := by decide +kernel
theorem d4_5 : decode prog_23_method_3_code 5 = .ok (.iaload, 1) := by decide +kernel
theorem d4_6 : decode prog_23_method_3_code 6 = .ok (.ireturn, 1) := by decide +kernel
theorem pl_4 : plainFor (⟨"com/example/storewatch/storewatch/check/Readers", "count", "(I)I"⟩ : MethodName) = true := plainFor_of_name (by first | (simp [plainName, overriddenIn]; done) | decide +kernel)
theorem ef_rmCo (m : MethodId) (z0 : Addr) (z1 : Int32) : entryFrame m #[(.ref z0), (.int z1)] 2 = mkF m 0 #[.val (.ref z0), .val (.int z1)] [] := by first | (simp [entryFrame, mkF, argsToLocals, Value.category]; done) | rfl
set_option maxRecDepth 65536 in
set_option maxHeartbeats 40000000 in
theorem rmCo (l : Launch) (Z : State) (a0 : Array Value) (hw : ∀ d ∈ tables_1, d.before a0 Z = true) (q : Addr) (r1 : Addr) (r2 : Addr) (r3 : Addr) (S : S3) (v : Int32) (h0 : Heap) (n0 : Nat) (Zn : n0 ≤ h0.size) (F_q_lastPlusOne : Fld Z h0 q "com/example/storewatch/storewatch/check/Readers" "lastPlusOne" "[I" (.ref r1)) (F_q_next : Fld Z h0 q "com/example/storewatch/storewatch/check/Readers" "next" "[I" (.ref r2)) (F_q_counts : Fld Z h0 q "com/example/storewatch/storewatch/check/Readers" "counts" "[I" (.ref r3)) (A_r1 : Al Z h0 r1 .int 3 (S.1)) (A_r2 : Al Z h0 r2 .int 3 (S.2.1)) (A_r3 : Al Z h0 r3 .int 3 (S.2.2)) (hv : okV S v = true) :
    WCt l Z (⟨"com/example/storewatch/storewatch/check/Readers", "count", "(I)I"⟩ : MethodName) prog_23_method_3_code 2 (some .int) ({ frames := 0, cells := 0, slots := 0, locals := 0 } : Room) #[(.ref q), (.int v)] h0 (fun vv hh LL => (vv = some (.int (S.2.2.getD v.toNatClampNeg 0))) ∧ (Fr n0 LL) ∧ (hh = h0)) := by
  refine WCt.of pl_4 ?_
  intro p e s m below meth c T hx hby hml hown hnm hret hlk hZ hh0 X eT
  have hown : s.vm.findClass "com/example/storewatch/storewatch/check/Readers" = some m.cls := hown
  have hnm : meth.name = "count" := hnm
  have N := Fr.nil n0
  obtain ⟨h, eh⟩ : ∃ h, h = h0 := ⟨_, rfl⟩
  have K : Keep h0 h [] := by rw [eh]; exact Keep.refl _ _
  refine WGo.cast (ef_rmCo m q v) ?_
  rw [← eh] at eT Zn F_q_lastPlusOne F_q_next F_q_counts A_r1 A_r2 A_r3
  refine g_aloadN X hx (hb hby d4_0) rfl rfl (pc' := 1) rfl ?_
  refine g_getF X hx hZ hown (hw _ (List.mem_of_getElem? (i := 18) rfl)) eT F_q_counts (hb hby d4_1) (pc' := 4) rfl (fun T X eT => ?_)
  refine g_iloadN X hx (hb hby d4_4) rfl (pc' := 5) rfl ?_
  refine g_iaload X hx hZ eT A_r3.2 (hb hby d4_5) (okV_e hv).1 (okV_e hv).2.1 (v := (.int (S.2.2.getD v.toNatClampNeg 0))) rfl (pc' := 6) rfl ?_
  refine g_retI X hx hret hlk (hb hby d4_6) (by decide) (by decide) ?_
  rw [eT]
  exact ⟨rfl, N, eh⟩
theorem d6_0 : decode prog_23_method_5_code 0 = .ok (.aload_n 0, 1) := by decide +kernel
theorem d6_1 : decode prog_23_method_5_code 1 = .ok (.getfield 7, 3) := by decide +kernel
theorem d6_4 : decode prog_23_method_5_code 4 = .ok (.iload_n 1, 1) := by decide +kernel
theorem d6_5 : decode prog_23_method_5_code 5 = .ok (.iaload, 1) := by decide +kernel
theorem d6_6 : decode prog_23_method_5_code 6 = .ok (.iconst 1, 1) := by decide +kernel
theorem d6_7 : decode prog_23_method_5_code 7 = .ok (.isub, 1) := by decide +kernel
theorem d6_8 : decode prog_23_method_5_code 8 = .ok (.istore_n 2, 1) := by decide +kernel
theorem d6_9 : decode prog_23_method_5_code 9 = .ok (.iload_n 2, 1) := by decide +kernel
theorem d6_10 : decode prog_23_method_5_code 10 = .ok (.ifCond .ge 7, 3) := by decide +kernel
theorem d6_13 : decode prog_23_method_5_code 13 = .ok (.iconst (-1), 1) := by decide +kernel
theorem d6_14 : decode prog_23_method_5_code 14 = .ok (.goto 9, 3) := by decide +kernel
theorem d6_17 : decode prog_23_method_5_code 17 = .ok (.aload_n 0, 1) := by decide +kernel
theorem d6_18 : decode prog_23_method_5_code 18 = .ok (.getfield 13, 3) := by decide +kernel
theorem d6_21 : decode prog_23_method_5_code 21 = .ok (.iload_n 2, 1) := by decide +kernel
theorem d6_22 : decode prog_23_method_5_code 22 = .ok (.iaload, 1) := by decide +kernel
theorem d6_23 : decode prog_23_method_5_code 23 = .ok (.ireturn, 1) := by decide +kernel
theorem pl_6 : plainFor (⟨"com/example/storewatch/storewatch/check/Readers", "first", "(I)I"⟩ : MethodName) = true := plainFor_of_name (by first | (simp [plainName, overriddenIn]; done) | decide +kernel)
theorem ef_rmFi (m : MethodId) (z0 : Addr) (z1 : Int32) : entryFrame m #[(.ref z0), (.int z1)] 3 = mkF m 0 #[.val (.ref z0), .val (.int z1), .unset] [] := by first | (simp [entryFrame, mkF, argsToLocals, Value.category]; done) | rfl
set_option maxRecDepth 65536 in
set_option maxHeartbeats 40000000 in
theorem rmFi (l : Launch) (Z : State) (a0 : Array Value) (hw : ∀ d ∈ tables_1, d.before a0 Z = true) (q : Addr) (r1 : Addr) (r2 : Addr) (r3 : Addr) (S : S3) (v : Int32) (h0 : Heap) (n0 : Nat) (Zn : n0 ≤ h0.size) (F_q_lastPlusOne : Fld Z h0 q "com/example/storewatch/storewatch/check/Readers" "lastPlusOne" "[I" (.ref r1)) (F_q_next : Fld Z h0 q "com/example/storewatch/storewatch/check/Readers" "next" "[I" (.ref r2)) (F_q_counts : Fld Z h0 q "com/example/storewatch/storewatch/check/Readers" "counts" "[I" (.ref r3)) (A_r1 : Al Z h0 r1 .int 3 (S.1)) (A_r2 : Al Z h0 r2 .int 3 (S.2.1)) (A_r3 : Al Z h0 r3 .int 3 (S.2.2)) (hv : okV S v = true) :
    WCt l Z (⟨"com/example/storewatch/storewatch/check/Readers", "first", "(I)I"⟩ : MethodName) prog_23_method_5_code 3 (some .int) ({ frames := 0, cells := 0, slots := 0, locals := 0 } : Room) #[(.ref q), (.int v)] h0 (fun vv hh LL => (vv = some (.int (firV S v))) ∧ (Fr n0 LL) ∧ (hh = h0)) := by
  refine WCt.of pl_6 ?_
  intro p e s m below meth c T hx hby hml hown hnm hret hlk hZ hh0 X eT
  have hown : s.vm.findClass "com/example/storewatch/storewatch/check/Readers" = some m.cls := hown
  have hnm : meth.name = "first" := hnm
  have N := Fr.nil n0
  obtain ⟨h, eh⟩ : ∃ h, h = h0 := ⟨_, rfl⟩
  have K : Keep h0 h [] := by rw [eh]; exact Keep.refl _ _
  refine WGo.cast (ef_rmFi m q v) ?_
  rw [← eh] at eT Zn F_q_lastPlusOne F_q_next F_q_counts A_r1 A_r2 A_r3
  refine g_aloadN X hx (hb hby d6_0) rfl rfl (pc' := 1) rfl ?_
  refine g_getF X hx hZ hown (hw _ (List.mem_of_getElem? (i := 14) rfl)) eT F_q_lastPlusOne (hb hby d6_1) (pc' := 4) rfl (fun T X eT => ?_)
  refine g_iloadN X hx (hb hby d6_4) rfl (pc' := 5) rfl ?_
  refine g_iaload X hx hZ eT A_r1.2 (hb hby d6_5) (okV_e hv).1 (okV_e hv).2.1 (v := (.int (S.1.getD v.toNatClampNeg 0))) rfl (pc' := 6) rfl ?_
  refine g_iconst X hx (hb hby d6_6) (x := (1 : Int32)) (by decide) (pc' := 7) rfl ?_
  refine g_isub X hx (hb hby d6_7) (pc' := 8) rfl ?_
  refine g_istoreN X hx (hb hby d6_8) (Ls' := #[.val (.ref q), .val (.int v), .val (.int ((S.1.getD v.toNatClampNeg 0) - (1 : Int32)))]) rfl (pc' := 9) rfl ?_
  refine g_iloadN X hx (hb hby d6_9) rfl (pc' := 10) rfl ?_
  refine g_if X hx (hb hby d6_10) (by decide) (pc' := 17) (by decide) (pc2 := 13) rfl (fun hc => ?_) (fun hc => ?_)
  · replace hc := h_ge1 hc
    have hc10 := hc
    refine g_aloadN X hx (hb hby d6_17) rfl rfl (pc' := 18) rfl ?_
    refine g_getF X hx hZ hown (hw _ (List.mem_of_getElem? (i := 16) rfl)) eT F_q_next (hb hby d6_18) (pc' := 21) rfl (fun T X eT => ?_)
    refine g_iloadN X hx (hb hby d6_21) rfl (pc' := 22) rfl ?_
    refine g_iaload X hx hZ eT A_r2.2 (hb hby d6_22) hc10 ((okV_e hv).2.2 hc10) (v := (.int (S.2.1.getD ((S.1.getD v.toNatClampNeg 0) - (1 : Int32)).toNatClampNeg 0))) rfl (pc' := 23) rfl ?_
    refine g_retI X hx hret hlk (hb hby d6_23) (by decide) (by decide) ?_
    rw [eT]
    refine ⟨?_, N, eh⟩
    unfold firV; rw [if_neg hc10]
  · replace hc := h_ge0 hc
    have hc10 := hc
    refine g_iconst X hx (hb hby d6_13) (x := (-1 : Int32)) (by decide) (pc' := 14) rfl ?_
    refine g_goto X hx (hb hby d6_14) (by decide) (pc' := 23) (by decide) ?_
    refine g_retI X hx hret hlk (hb hby d6_23) (by decide) (by decide) ?_
    rw [eT]
    refine ⟨?_, N, eh⟩
    unfold firV; rw [if_pos hc10]
theorem d8_0 : decode prog_23_method_6_code 0 = .ok (.iload_n 2, 1) := by decide +kernel
theorem d8_1 : decode prog_23_method_6_code 1 = .ok (.aload_n 0, 1) := by decide +kernel
theorem d8_2 : decode prog_23_method_6_code 2 = .ok (.getfield 7, 3) := by decide +kernel
theorem d8_5 : decode prog_23_method_6_code 5 = .ok (.iload_n 1, 1) := by decide +kernel
theorem d8_6 : decode prog_23_method_6_code 6 = .ok (.iaload, 1) := by decide +kernel
theorem d8_7 : decode prog_23_method_6_code 7 = .ok (.iconst 1, 1) := by decide +kernel
theorem d8_8 : decode prog_23_method_6_code 8 = .ok (.isub, 1) := by decide +kernel
theorem d8_9 : decode prog_23_method_6_code 9 = .ok (.if_icmp .ne 7, 3) := by decide +kernel
theorem d8_12 : decode prog_23_method_6_code 12 = .ok (.iconst (-1), 1) := by decide +kernel
theorem d8_13 : decode prog_23_method_6_code 13 = .ok (.goto 9, 3) := by decide +kernel
theorem d8_16 : decode prog_23_method_6_code 16 = .ok (.aload_n 0, 1) := by decide +kernel
theorem d8_17 : decode prog_23_method_6_code 17 = .ok (.getfield 13, 3) := by decide +kernel
theorem d8_20 : decode prog_23_method_6_code 20 = .ok (.iload_n 2, 1) := by decide +kernel
theorem d8_21 : decode prog_23_method_6_code 21 = .ok (.iaload, 1) := by decide +kernel
theorem d8_22 : decode prog_23_method_6_code 22 = .ok (.ireturn, 1) := by decide +kernel
theorem pl_8 : plainFor (⟨"com/example/storewatch/storewatch/check/Readers", "after", "(II)I"⟩ : MethodName) = true := plainFor_of_name (by first | (simp [plainName, overriddenIn]; done) | decide +kernel)
theorem ef_rmAf (m : MethodId) (z0 : Addr) (z1 : Int32) (z2 : Int32) : entryFrame m #[(.ref z0), (.int z1), (.int z2)] 3 = mkF m 0 #[.val (.ref z0), .val (.int z1), .val (.int z2)] [] := by first | (simp [entryFrame, mkF, argsToLocals, Value.category]; done) | rfl
set_option maxRecDepth 65536 in
set_option maxHeartbeats 40000000 in
theorem rmAf (l : Launch) (Z : State) (a0 : Array Value) (hw : ∀ d ∈ tables_1, d.before a0 Z = true) (q : Addr) (r1 : Addr) (r2 : Addr) (r3 : Addr) (S : S3) (w : Int32) (r : Int32) (h0 : Heap) (n0 : Nat) (Zn : n0 ≤ h0.size) (F_q_lastPlusOne : Fld Z h0 q "com/example/storewatch/storewatch/check/Readers" "lastPlusOne" "[I" (.ref r1)) (F_q_next : Fld Z h0 q "com/example/storewatch/storewatch/check/Readers" "next" "[I" (.ref r2)) (F_q_counts : Fld Z h0 q "com/example/storewatch/storewatch/check/Readers" "counts" "[I" (.ref r3)) (A_r1 : Al Z h0 r1 .int 3 (S.1)) (A_r2 : Al Z h0 r2 .int 3 (S.2.1)) (A_r3 : Al Z h0 r3 .int 3 (S.2.2)) (hv : okV S w = true) (hr : r ∈ W3) :
    WCt l Z (⟨"com/example/storewatch/storewatch/check/Readers", "after", "(II)I"⟩ : MethodName) prog_23_method_6_code 3 (some .int) ({ frames := 0, cells := 0, slots := 0, locals := 0 } : Room) #[(.ref q), (.int w), (.int r)] h0 (fun vv hh LL => (vv = some (.int (aftV S w r))) ∧ (Fr n0 LL) ∧ (hh = h0)) := by
  refine WCt.of pl_8 ?_
  intro p e s m below meth c T hx hby hml hown hnm hret hlk hZ hh0 X eT
  have hown : s.vm.findClass "com/example/storewatch/storewatch/check/Readers" = some m.cls := hown
  have hnm : meth.name = "after" := hnm
  have N := Fr.nil n0
  obtain ⟨h, eh⟩ : ∃ h, h = h0 := ⟨_, rfl⟩
  have K : Keep h0 h [] := by rw [eh]; exact Keep.refl _ _
  refine WGo.cast (ef_rmAf m q w r) ?_
  rw [← eh] at eT Zn F_q_lastPlusOne F_q_next F_q_counts A_r1 A_r2 A_r3
  refine g_iloadN X hx (hb hby d8_0) rfl (pc' := 1) rfl ?_
  refine g_aloadN X hx (hb hby d8_1) rfl rfl (pc' := 2) rfl ?_
  refine g_getF X hx hZ hown (hw _ (List.mem_of_getElem? (i := 14) rfl)) eT F_q_lastPlusOne (hb hby d8_2) (pc' := 5) rfl (fun T X eT => ?_)
  refine g_iloadN X hx (hb hby d8_5) rfl (pc' := 6) rfl ?_
  refine g_iaload X hx hZ eT A_r1.2 (hb hby d8_6) (okV_e hv).1 (okV_e hv).2.1 (v := (.int (S.1.getD w.toNatClampNeg 0))) rfl (pc' := 7) rfl ?_
  refine g_iconst X hx (hb hby d8_7) (x := (1 : Int32)) (by decide) (pc' := 8) rfl ?_
  refine g_isub X hx (hb hby d8_8) (pc' := 9) rfl ?_
  refine g_icmp X hx (hb hby d8_9) (by decide) (pc' := 16) (by decide) (pc2 := 12) rfl (fun hc => ?_) (fun hc => ?_)
  · replace hc := h_ne1 hc
    have hc9 := hc
    refine g_aloadN X hx (hb hby d8_16) rfl rfl (pc' := 17) rfl ?_
    refine g_getF X hx hZ hown (hw _ (List.mem_of_getElem? (i := 16) rfl)) eT F_q_next (hb hby d8_17) (pc' := 20) rfl (fun T X eT => ?_)
    refine g_iloadN X hx (hb hby d8_20) rfl (pc' := 21) rfl ?_
    refine g_iaload X hx hZ eT A_r2.2 (hb hby d8_21) (w3_in hr).1 (w3_in hr).2 (v := (.int (S.2.1.getD r.toNatClampNeg 0))) rfl (pc' := 22) rfl ?_
    refine g_retI X hx hret hlk (hb hby d8_22) (by decide) (by decide) ?_
    rw [eT]
    refine ⟨?_, N, eh⟩
    unfold aftV; rw [if_neg hc9]
  · replace hc := h_ne0 hc
    have hc9 := hc
    refine g_iconst X hx (hb hby d8_12) (x := (-1 : Int32)) (by decide) (pc' := 13) rfl ?_
    refine g_goto X hx (hb hby d8_13) (by decide) (pc' := 22) (by decide) ?_
    refine g_retI X hx hret hlk (hb hby d8_22) (by decide) (by decide) ?_
    rw [eT]
    refine ⟨?_, N, eh⟩
    unfold aftV; rw [if_pos hc9]
theorem d5_0 : decode method_3_code 0 = .ok (.iconst 0, 1) := by decide +kernel
theorem d5_1 : decode method_3_code 1 = .ok (.istore_n 3, 1) := by decide +kernel
theorem d5_2 : decode method_3_code 2 = .ok (.iload_n 1, 1) := by decide +kernel
theorem d5_3 : decode method_3_code 3 = .ok (.ifCond .le 14, 3) := by decide +kernel
theorem d5_6 : decode method_3_code 6 = .ok (.aload_n 0, 1) := by decide +kernel
theorem d5_7 : decode method_3_code 7 = .ok (.iconst 0, 1) := by decide +kernel
theorem d5_8 : decode method_3_code 8 = .ok (.iaload, 1) := by decide +kernel
theorem d5_9 : decode method_3_code 9 = .ok (.iload_n 2, 1) := by decide +kernel
theorem d5_10 : decode method_3_code 10 = .ok (.if_icmp .ne 7, 3) := by decide +kernel
theorem d5_13 : decode method_3_code 13 = .ok (.iload_n 3, 1) := by decide +kernel
theorem d5_14 : decode method_3_code 14 = .ok (.iconst 1, 1) := by decide +kernel
theorem d5_15 : decode method_3_code 15 = .ok (.iadd, 1) := by decide +kernel
theorem d5_16 : decode method_3_code 16 = .ok (.istore_n 3, 1) := by decide +kernel
theorem d5_17 : decode method_3_code 17 = .ok (.iload_n 1, 1) := by decide +kernel
theorem d5_18 : decode method_3_code 18 = .ok (.iconst 1, 1) := by decide +kernel
theorem d5_19 : decode method_3_code 19 = .ok (.if_icmp .le 14, 3) := by decide +kernel
theorem d5_22 : decode method_3_code 22 = .ok (.aload_n 0, 1) := by decide +kernel
theorem d5_23 : decode method_3_code 23 = .ok (.iconst 1, 1) := by decide +kernel
theorem d5_24 : decode method_3_code 24 = .ok (.iaload, 1) := by decide +kernel
theorem d5_25 : decode method_3_code 25 = .ok (.iload_n 2, 1) := by decide +kernel
theorem d5_26 : decode method_3_code 26 = .ok (.if_icmp .ne 7, 3) := by decide +kernel
theorem d5_29 : decode method_3_code 29 = .ok (.iload_n 3, 1) := by decide +kernel
theorem d5_30 : decode method_3_code 30 = .ok (.iconst 1, 1) := by decide +kernel
theorem d5_31 : decode method_3_code 31 = .ok (.iadd, 1) := by decide +kernel
theorem d5_32 : decode method_3_code 32 = .ok (.istore_n 3, 1) := by decide +kernel
theorem d5_33 : decode method_3_code 33 = .ok (.iload_n 1, 1) := by decide +kernel
theorem d5_34 : decode method_3_code 34 = .ok (.iconst 2, 1) := by decide +kernel
theorem d5_35 : decode method_3_code 35 = .ok (.if_icmp .le 14, 3) := by decide +kernel
theorem d5_38 : decode method_3_code 38 = .ok (.aload_n 0, 1) := by decide +kernel
theorem d5_39 : decode method_3_code 39 = .ok (.iconst 2, 1) := by decide +kernel
theorem d5_40 : decode method_3_code 40 = .ok (.iaload, 1) := by decide +kernel
theorem d5_41 : decode method_3_code 41 = .ok (.iload_n 2, 1) := by decide +kernel
theorem d5_42 : decode method_3_code 42 = .ok (.if_icmp .ne 7, 3) := by decide +kernel
theorem d5_45 : decode method_3_code 45 = .ok (.iload_n 3, 1) := by decide +kernel
theorem d5_46 : decode method_3_code 46 = .ok (.iconst 1, 1) := by decide +kernel
theorem d5_47 : decode method_3_code 47 = .ok (.iadd, 1) := by decide +kernel
theorem d5_48 : decode method_3_code 48 = .ok (.istore_n 3, 1) := by decide +kernel
theorem d5_49 : decode method_3_code 49 = .ok (.iload_n 3, 1) := by decide +kernel
theorem d5_50 : decode method_3_code 50 = .ok (.ireturn, 1) := by decide +kernel
theorem pl_5 : plainFor (⟨"com/example/storewatch/storewatch/check/ReadersEnterPinLaw", "expCount", "([III)I"⟩ : MethodName) = true := plainFor_of_name (by first | (simp [plainName, overriddenIn]; done) | decide +kernel)
theorem ef_rmXC (m : MethodId) (z0 : Addr) (z1 : Int32) (z2 : Int32) : entryFrame m #[(.ref z0), (.int z1), (.int z2)] 4 = mkF m 0 #[.val (.ref z0), .val (.int z1), .val (.int z2), .unset] [] := by first | (simp [entryFrame, mkF, argsToLocals, Value.category]; done) | rfl
set_option maxRecDepth 65536 in
set_option maxHeartbeats 40000000 in
theorem rmXC (l : Launch) (Z : State) (a0 : Array Value) (hw : ∀ d ∈ tables_1, d.before a0 Z = true) (g : Addr) (w0 : Int32) (w1 : Int32) (w2 : Int32) (n : Int32) (v : Int32) (h0 : Heap) (n0 : Nat) (Zn : n0 ≤ h0.size) (A_g : Al Z h0 g .int 3 [w0, w1, w2])  :
    WCt l Z (⟨"com/example/storewatch/storewatch/check/ReadersEnterPinLaw", "expCount", "([III)I"⟩ : MethodName) method_3_code 4 (some .int) ({ frames := 0, cells := 0, slots := 0, locals := 0 } : Room) #[(.ref g), (.int n), (.int v)] h0 (fun vv hh LL => (vv = some (.int (expC n v w0 w1 w2))) ∧ (Fr n0 LL) ∧ (hh = h0)) := by
  refine WCt.of pl_5 ?_
  intro p e s m below meth c T hx hby hml hown hnm hret hlk hZ hh0 X eT
  have hown : s.vm.findClass "com/example/storewatch/storewatch/check/ReadersEnterPinLaw" = some m.cls := hown
  have hnm : meth.name = "expCount" := hnm
  have N := Fr.nil n0
  obtain ⟨h, eh⟩ : ∃ h, h = h0 := ⟨_, rfl⟩
  have K : Keep h0 h [] := by rw [eh]; exact Keep.refl _ _
  refine WGo.cast (ef_rmXC m g n v) ?_
  rw [← eh] at eT Zn A_g
  refine g_iconst X hx (hb hby d5_0) (x := (0 : Int32)) (by decide) (pc' := 1) rfl ?_
  refine g_istoreN X hx (hb hby d5_1) (Ls' := #[.val (.ref g), .val (.int n), .val (.int v), .val (.int (0 : Int32))]) rfl (pc' := 2) rfl ?_
  refine g_iloadN X hx (hb hby d5_2) rfl (pc' := 3) rfl ?_
  refine g_if X hx (hb hby d5_3) (by decide) (pc' := 17) (by decide) (pc2 := 6) rfl (fun hc => ?_) (fun hc => ?_)
  · replace hc := h_le1 hc
    have hc3 := hc
    refine g_iloadN X hx (hb hby d5_17) rfl (pc' := 18) rfl ?_
    refine g_iconst X hx (hb hby d5_18) (x := (1 : Int32)) (by decide) (pc' := 19) rfl ?_
    refine g_icmp X hx (hb hby d5_19) (by decide) (pc' := 33) (by decide) (pc2 := 22) rfl (fun hc => ?_) (fun hc => ?_)
    · replace hc := h_le1 hc
      have hc19 := hc
      refine g_iloadN X hx (hb hby d5_33) rfl (pc' := 34) rfl ?_
      refine g_iconst X hx (hb hby d5_34) (x := (2 : Int32)) (by decide) (pc' := 35) rfl ?_
      refine g_icmp X hx (hb hby d5_35) (by decide) (pc' := 49) (by decide) (pc2 := 38) rfl (fun hc => ?_) (fun hc => ?_)
      · replace hc := h_le1 hc
        have hc35 := hc
        refine g_iloadN X hx (hb hby d5_49) rfl (pc' := 50) rfl ?_
        refine g_retI X hx hret hlk (hb hby d5_50) (by decide) (by decide) ?_
        rw [eT]
        refine ⟨?_, N, eh⟩
        simp +decide [expC, hc3, hc19, hc35]
      · replace hc := h_le0 hc
        have hc35 := hc
        refine g_aloadN X hx (hb hby d5_38) rfl rfl (pc' := 39) rfl ?_
        refine g_iconst X hx (hb hby d5_39) (x := (2 : Int32)) (by decide) (pc' := 40) rfl ?_
        refine g_iaload X hx hZ eT A_g.2 (hb hby d5_40) (by decide) (by decide) (v := (.int w2)) rfl (pc' := 41) rfl ?_
        refine g_iloadN X hx (hb hby d5_41) rfl (pc' := 42) rfl ?_
        refine g_icmp X hx (hb hby d5_42) (by decide) (pc' := 49) (by decide) (pc2 := 45) rfl (fun hc => ?_) (fun hc => ?_)
        · replace hc := h_ne1 hc
          have hc42 := hc
          refine g_iloadN X hx (hb hby d5_49) rfl (pc' := 50) rfl ?_
          refine g_retI X hx hret hlk (hb hby d5_50) (by decide) (by decide) ?_
          rw [eT]
          refine ⟨?_, N, eh⟩
          simp +decide [expC, hc3, hc19, hc35, hc42]
        · replace hc := h_ne0 hc
          have hc42 := hc
          refine g_iloadN X hx (hb hby d5_45) rfl (pc' := 46) rfl ?_
          refine g_iconst X hx (hb hby d5_46) (x := (1 : Int32)) (by decide) (pc' := 47) rfl ?_
          refine g_iadd X hx (hb hby d5_47) (pc' := 48) rfl ?_
          rw [show ((0 : Int32) + (1 : Int32)) = (1 : Int32) from by decide]
          refine g_istoreN X hx (hb hby d5_48) (Ls' := #[.val (.ref g), .val (.int n), .val (.int v), .val (.int (1 : Int32))]) rfl (pc' := 49) rfl ?_
          refine g_iloadN X hx (hb hby d5_49) rfl (pc' := 50) rfl ?_
          refine g_retI X hx hret hlk (hb hby d5_50) (by decide) (by decide) ?_
          rw [eT]
          refine ⟨?_, N, eh⟩
          simp +decide [expC, hc3, hc19, hc35, hc42]
    · replace hc := h_le0 hc
      have hc19 := hc
      refine g_aloadN X hx (hb hby d5_22) rfl rfl (pc' := 23) rfl ?_
      refine g_iconst X hx (hb hby d5_23) (x := (1 : Int32)) (by decide) (pc' := 24) rfl ?_
      refine g_iaload X hx hZ eT A_g.2 (hb hby d5_24) (by decide) (by decide) (v := (.int w1)) rfl (pc' := 25) rfl ?_
      refine g_iloadN X hx (hb hby d5_25) rfl (pc' := 26) rfl ?_
      refine g_icmp X hx (hb hby d5_26) (by decide) (pc' := 33) (by decide) (pc2 := 29) rfl (fun hc => ?_) (fun hc => ?_)
      · replace hc := h_ne1 hc
        have hc26 := hc
        refine g_iloadN X hx (hb hby d5_33) rfl (pc' := 34) rfl ?_
        refine g_iconst X hx (hb hby d5_34) (x := (2 : Int32)) (by decide) (pc' := 35) rfl ?_
        refine g_icmp X hx (hb hby d5_35) (by decide) (pc' := 49) (by decide) (pc2 := 38) rfl (fun hc => ?_) (fun hc => ?_)
        · replace hc := h_le1 hc
          have hc35 := hc
          refine g_iloadN X hx (hb hby d5_49) rfl (pc' := 50) rfl ?_
          refine g_retI X hx hret hlk (hb hby d5_50) (by decide) (by decide) ?_
          rw [eT]
          refine ⟨?_, N, eh⟩
          simp +decide [expC, hc3, hc19, hc26, hc35]
        · replace hc := h_le0 hc
          have hc35 := hc
          refine g_aloadN X hx (hb hby d5_38) rfl rfl (pc' := 39) rfl ?_
          refine g_iconst X hx (hb hby d5_39) (x := (2 : Int32)) (by decide) (pc' := 40) rfl ?_
          refine g_iaload X hx hZ eT A_g.2 (hb hby d5_40) (by decide) (by decide) (v := (.int w2)) rfl (pc' := 41) rfl ?_
          refine g_iloadN X hx (hb hby d5_41) rfl (pc' := 42) rfl ?_
          refine g_icmp X hx (hb hby d5_42) (by decide) (pc' := 49) (by decide) (pc2 := 45) rfl (fun hc => ?_) (fun hc => ?_)
          · replace hc := h_ne1 hc
            have hc42 := hc
            refine g_iloadN X hx (hb hby d5_49) rfl (pc' := 50) rfl ?_
            refine g_retI X hx hret hlk (hb hby d5_50) (by decide) (by decide) ?_
            rw [eT]
            refine ⟨?_, N, eh⟩
            simp +decide [expC, hc3, hc19, hc26, hc35, hc42]
          · replace hc := h_ne0 hc
            have hc42 := hc
            refine g_iloadN X hx (hb hby d5_45) rfl (pc' := 46) rfl ?_
            refine g_iconst X hx (hb hby d5_46) (x := (1 : Int32)) (by decide) (pc' := 47) rfl ?_
            refine g_iadd X hx (hb hby d5_47) (pc' := 48) rfl ?_
            rw [show ((0 : Int32) + (1 : Int32)) = (1 : Int32) from by decide]
            refine g_istoreN X hx (hb hby d5_48) (Ls' := #[.val (.ref g), .val (.int n), .val (.int v), .val (.int (1 : Int32))]) rfl (pc' := 49) rfl ?_
            refine g_iloadN X hx (hb hby d5_49) rfl (pc' := 50) rfl ?_
            refine g_retI X hx hret hlk (hb hby d5_50) (by decide) (by decide) ?_
            rw [eT]
            refine ⟨?_, N, eh⟩
            simp +decide [expC, hc3, hc19, hc26, hc35, hc42]
      · replace hc := h_ne0 hc
        have hc26 := hc
        refine g_iloadN X hx (hb hby d5_29) rfl (pc' := 30) rfl ?_
        refine g_iconst X hx (hb hby d5_30) (x := (1 : Int32)) (by decide) (pc' := 31) rfl ?_
        refine g_iadd X hx (hb hby d5_31) (pc' := 32) rfl ?_
        rw [show ((0 : Int32) + (1 : Int32)) = (1 : Int32) from by decide]
        refine g_istoreN X hx (hb hby d5_32) (Ls' := #[.val (.ref g), .val (.int n), .val (.int v), .val (.int (1 : Int32))]) rfl (pc' := 33) rfl ?_
        refine g_iloadN X hx (hb hby d5_33) rfl (pc' := 34) rfl ?_
        refine g_iconst X hx (hb hby d5_34) (x := (2 : Int32)) (by decide) (pc' := 35) rfl ?_
        refine g_icmp X hx (hb hby d5_35) (by decide) (pc' := 49) (by decide) (pc2 := 38) rfl (fun hc => ?_) (fun hc => ?_)
        · replace hc := h_le1 hc
          have hc35 := hc
          refine g_iloadN X hx (hb hby d5_49) rfl (pc' := 50) rfl ?_
          refine g_retI X hx hret hlk (hb hby d5_50) (by decide) (by decide) ?_
          rw [eT]
          refine ⟨?_, N, eh⟩
          simp +decide [expC, hc3, hc19, hc26, hc35]
        · replace hc := h_le0 hc
          have hc35 := hc
          refine g_aloadN X hx (hb hby d5_38) rfl rfl (pc' := 39) rfl ?_
          refine g_iconst X hx (hb hby d5_39) (x := (2 : Int32)) (by decide) (pc' := 40) rfl ?_
          refine g_iaload X hx hZ eT A_g.2 (hb hby d5_40) (by decide) (by decide) (v := (.int w2)) rfl (pc' := 41) rfl ?_
          refine g_iloadN X hx (hb hby d5_41) rfl (pc' := 42) rfl ?_
          refine g_icmp X hx (hb hby d5_42) (by decide) (pc' := 49) (by decide) (pc2 := 45) rfl (fun hc => ?_) (fun hc => ?_)
          · replace hc := h_ne1 hc
            have hc42 := hc
            refine g_iloadN X hx (hb hby d5_49) rfl (pc' := 50) rfl ?_
            refine g_retI X hx hret hlk (hb hby d5_50) (by decide) (by decide) ?_
            rw [eT]
            refine ⟨?_, N, eh⟩
            simp +decide [expC, hc3, hc19, hc26, hc35, hc42]
          · replace hc := h_ne0 hc
            have hc42 := hc
            refine g_iloadN X hx (hb hby d5_45) rfl (pc' := 46) rfl ?_
            refine g_iconst X hx (hb hby d5_46) (x := (1 : Int32)) (by decide) (pc' := 47) rfl ?_
            refine g_iadd X hx (hb hby d5_47) (pc' := 48) rfl ?_
            rw [show ((1 : Int32) + (1 : Int32)) = (2 : Int32) from by decide]
            refine g_istoreN X hx (hb hby d5_48) (Ls' := #[.val (.ref g), .val (.int n), .val (.int v), .val (.int (2 : Int32))]) rfl (pc' := 49) rfl ?_
            refine g_iloadN X hx (hb hby d5_49) rfl (pc' := 50) rfl ?_
            refine g_retI X hx hret hlk (hb hby d5_50) (by decide) (by decide) ?_
            rw [eT]
            refine ⟨?_, N, eh⟩
            simp +decide [expC, hc3, hc19, hc26, hc35, hc42]
  · replace hc := h_le0 hc
    have hc3 := hc
    refine g_aloadN X hx (hb hby d5_6) rfl rfl (pc' := 7) rfl ?_
    refine g_iconst X hx (hb hby d5_7) (x := (0 : Int32)) (by decide) (pc' := 8) rfl ?_
    refine g_iaload X hx hZ eT A_g.2 (hb hby d5_8) (by decide) (by decide) (v := (.int w0)) rfl (pc' := 9) rfl ?_
    refine g_iloadN X hx (hb hby d5_9) rfl (pc' := 10) rfl ?_
    refine g_icmp X hx (hb hby d5_10) (by decide) (pc' := 17) (by decide) (pc2 := 13) rfl (fun hc => ?_) (fun hc => ?_)
    · replace hc := h_ne1 hc
      have hc10 := hc
      refine g_iloadN X hx (hb hby d5_17) rfl (pc' := 18) rfl ?_
      refine g_iconst X hx (hb hby d5_18) (x := (1 : Int32)) (by decide) (pc' := 19) rfl ?_
      refine g_icmp X hx (hb hby d5_19) (by decide) (pc' := 33) (by decide) (pc2 := 22) rfl (fun hc => ?_) (fun hc => ?_)
      · replace hc := h_le1 hc
        have hc19 := hc
        refine g_iloadN X hx (hb hby d5_33) rfl (pc' := 34) rfl ?_
        refine g_iconst X hx (hb hby d5_34) (x := (2 : Int32)) (by decide) (pc' := 35) rfl ?_
        refine g_icmp X hx (hb hby d5_35) (by decide) (pc' := 49) (by decide) (pc2 := 38) rfl (fun hc => ?_) (fun hc => ?_)
        · replace hc := h_le1 hc
          have hc35 := hc
          refine g_iloadN X hx (hb hby d5_49) rfl (pc' := 50) rfl ?_
          refine g_retI X hx hret hlk (hb hby d5_50) (by decide) (by decide) ?_
          rw [eT]
          refine ⟨?_, N, eh⟩
          simp +decide [expC, hc3, hc10, hc19, hc35]
        · replace hc := h_le0 hc
          have hc35 := hc
          refine g_aloadN X hx (hb hby d5_38) rfl rfl (pc' := 39) rfl ?_
          refine g_iconst X hx (hb hby d5_39) (x := (2 : Int32)) (by decide) (pc' := 40) rfl ?_
          refine g_iaload X hx hZ eT A_g.2 (hb hby d5_40) (by decide) (by decide) (v := (.int w2)) rfl (pc' := 41) rfl ?_
          refine g_iloadN X hx (hb hby d5_41) rfl (pc' := 42) rfl ?_
          refine g_icmp X hx (hb hby d5_42) (by decide) (pc' := 49) (by decide) (pc2 := 45) rfl (fun hc => ?_) (fun hc => ?_)
          · replace hc := h_ne1 hc
            have hc42 := hc
            refine g_iloadN X hx (hb hby d5_49) rfl (pc' := 50) rfl ?_
            refine g_retI X hx hret hlk (hb hby d5_50) (by decide) (by decide) ?_
            rw [eT]
            refine ⟨?_, N, eh⟩
            simp +decide [expC, hc3, hc10, hc19, hc35, hc42]
          · replace hc := h_ne0 hc
            have hc42 := hc
            refine g_iloadN X hx (hb hby d5_45) rfl (pc' := 46) rfl ?_
            refine g_iconst X hx (hb hby d5_46) (x := (1 : Int32)) (by decide) (pc' := 47) rfl ?_
            refine g_iadd X hx (hb hby d5_47) (pc' := 48) rfl ?_
            rw [show ((0 : Int32) + (1 : Int32)) = (1 : Int32) from by decide]
            refine g_istoreN X hx (hb hby d5_48) (Ls' := #[.val (.ref g), .val (.int n), .val (.int v), .val (.int (1 : Int32))]) rfl (pc' := 49) rfl ?_
            refine g_iloadN X hx (hb hby d5_49) rfl (pc' := 50) rfl ?_
            refine g_retI X hx hret hlk (hb hby d5_50) (by decide) (by decide) ?_
            rw [eT]
            refine ⟨?_, N, eh⟩
            simp +decide [expC, hc3, hc10, hc19, hc35, hc42]
      · replace hc := h_le0 hc
        have hc19 := hc
        refine g_aloadN X hx (hb hby d5_22) rfl rfl (pc' := 23) rfl ?_
        refine g_iconst X hx (hb hby d5_23) (x := (1 : Int32)) (by decide) (pc' := 24) rfl ?_
        refine g_iaload X hx hZ eT A_g.2 (hb hby d5_24) (by decide) (by decide) (v := (.int w1)) rfl (pc' := 25) rfl ?_
        refine g_iloadN X hx (hb hby d5_25) rfl (pc' := 26) rfl ?_
        refine g_icmp X hx (hb hby d5_26) (by decide) (pc' := 33) (by decide) (pc2 := 29) rfl (fun hc => ?_) (fun hc => ?_)
        · replace hc := h_ne1 hc
          have hc26 := hc
          refine g_iloadN X hx (hb hby d5_33) rfl (pc' := 34) rfl ?_
          refine g_iconst X hx (hb hby d5_34) (x := (2 : Int32)) (by decide) (pc' := 35) rfl ?_
          refine g_icmp X hx (hb hby d5_35) (by decide) (pc' := 49) (by decide) (pc2 := 38) rfl (fun hc => ?_) (fun hc => ?_)
          · replace hc := h_le1 hc
            have hc35 := hc
            refine g_iloadN X hx (hb hby d5_49) rfl (pc' := 50) rfl ?_
            refine g_retI X hx hret hlk (hb hby d5_50) (by decide) (by decide) ?_
            rw [eT]
            refine ⟨?_, N, eh⟩
            simp +decide [expC, hc3, hc10, hc19, hc26, hc35]
          · replace hc := h_le0 hc
            have hc35 := hc
            refine g_aloadN X hx (hb hby d5_38) rfl rfl (pc' := 39) rfl ?_
            refine g_iconst X hx (hb hby d5_39) (x := (2 : Int32)) (by decide) (pc' := 40) rfl ?_
            refine g_iaload X hx hZ eT A_g.2 (hb hby d5_40) (by decide) (by decide) (v := (.int w2)) rfl (pc' := 41) rfl ?_
            refine g_iloadN X hx (hb hby d5_41) rfl (pc' := 42) rfl ?_
            refine g_icmp X hx (hb hby d5_42) (by decide) (pc' := 49) (by decide) (pc2 := 45) rfl (fun hc => ?_) (fun hc => ?_)
            · replace hc := h_ne1 hc
              have hc42 := hc
              refine g_iloadN X hx (hb hby d5_49) rfl (pc' := 50) rfl ?_
              refine g_retI X hx hret hlk (hb hby d5_50) (by decide) (by decide) ?_
              rw [eT]
              refine ⟨?_, N, eh⟩
              simp +decide [expC, hc3, hc10, hc19, hc26, hc35, hc42]
            · replace hc := h_ne0 hc
              have hc42 := hc
              refine g_iloadN X hx (hb hby d5_45) rfl (pc' := 46) rfl ?_
              refine g_iconst X hx (hb hby d5_46) (x := (1 : Int32)) (by decide) (pc' := 47) rfl ?_
              refine g_iadd X hx (hb hby d5_47) (pc' := 48) rfl ?_
              rw [show ((0 : Int32) + (1 : Int32)) = (1 : Int32) from by decide]
              refine g_istoreN X hx (hb hby d5_48) (Ls' := #[.val (.ref g), .val (.int n), .val (.int v), .val (.int (1 : Int32))]) rfl (pc' := 49) rfl ?_
              refine g_iloadN X hx (hb hby d5_49) rfl (pc' := 50) rfl ?_
              refine g_retI X hx hret hlk (hb hby d5_50) (by decide) (by decide) ?_
              rw [eT]
              refine ⟨?_, N, eh⟩
              simp +decide [expC, hc3, hc10, hc19, hc26, hc35, hc42]
        · replace hc := h_ne0 hc
          have hc26 := hc
          refine g_iloadN X hx (hb hby d5_29) rfl (pc' := 30) rfl ?_
          refine g_iconst X hx (hb hby d5_30) (x := (1 : Int32)) (by decide) (pc' := 31) rfl ?_
          refine g_iadd X hx (hb hby d5_31) (pc' := 32) rfl ?_
          rw [show ((0 : Int32) + (1 : Int32)) = (1 : Int32) from by decide]
          refine g_istoreN X hx (hb hby d5_32) (Ls' := #[.val (.ref g), .val (.int n), .val (.int v), .val (.int (1 : Int32))]) rfl (pc' := 33) rfl ?_
          refine g_iloadN X hx (hb hby d5_33) rfl (pc' := 34) rfl ?_
          refine g_iconst X hx (hb hby d5_34) (x := (2 : Int32)) (by decide) (pc' := 35) rfl ?_
          refine g_icmp X hx (hb hby d5_35) (by decide) (pc' := 49) (by decide) (pc2 := 38) rfl (fun hc => ?_) (fun hc => ?_)
          · replace hc := h_le1 hc
            have hc35 := hc
            refine g_iloadN X hx (hb hby d5_49) rfl (pc' := 50) rfl ?_
            refine g_retI X hx hret hlk (hb hby d5_50) (by decide) (by decide) ?_
            rw [eT]
            refine ⟨?_, N, eh⟩
            simp +decide [expC, hc3, hc10, hc19, hc26, hc35]
          · replace hc := h_le0 hc
            have hc35 := hc
            refine g_aloadN X hx (hb hby d5_38) rfl rfl (pc' := 39) rfl ?_
            refine g_iconst X hx (hb hby d5_39) (x := (2 : Int32)) (by decide) (pc' := 40) rfl ?_
            refine g_iaload X hx hZ eT A_g.2 (hb hby d5_40) (by decide) (by decide) (v := (.int w2)) rfl (pc' := 41) rfl ?_
            refine g_iloadN X hx (hb hby d5_41) rfl (pc' := 42) rfl ?_
            refine g_icmp X hx (hb hby d5_42) (by decide) (pc' := 49) (by decide) (pc2 := 45) rfl (fun hc => ?_) (fun hc => ?_)
            · replace hc := h_ne1 hc
              have hc42 := hc
              refine g_iloadN X hx (hb hby d5_49) rfl (pc' := 50) rfl ?_
              refine g_retI X hx hret hlk (hb hby d5_50) (by decide) (by decide) ?_
              rw [eT]
              refine ⟨?_, N, eh⟩
              simp +decide [expC, hc3, hc10, hc19, hc26, hc35, hc42]
            · replace hc := h_ne0 hc
              have hc42 := hc
              refine g_iloadN X hx (hb hby d5_45) rfl (pc' := 46) rfl ?_
              refine g_iconst X hx (hb hby d5_46) (x := (1 : Int32)) (by decide) (pc' := 47) rfl ?_
              refine g_iadd X hx (hb hby d5_47) (pc' := 48) rfl ?_
              rw [show ((1 : Int32) + (1 : Int32)) = (2 : Int32) from by decide]
              refine g_istoreN X hx (hb hby d5_48) (Ls' := #[.val (.ref g), .val (.int n), .val (.int v), .val (.int (2 : Int32))]) rfl (pc' := 49) rfl ?_
              refine g_iloadN X hx (hb hby d5_49) rfl (pc' := 50) rfl ?_
              refine g_retI X hx hret hlk (hb hby d5_50) (by decide) (by decide) ?_
              rw [eT]
              refine ⟨?_, N, eh⟩
              simp +decide [expC, hc3, hc10, hc19, hc26, hc35, hc42]
    · replace hc := h_ne0 hc
      have hc10 := hc
      refine g_iloadN X hx (hb hby d5_13) rfl (pc' := 14) rfl ?_
      refine g_iconst X hx (hb hby d5_14) (x := (1 : Int32)) (by decide) (pc' := 15) rfl ?_
      refine g_iadd X hx (hb hby d5_15) (pc' := 16) rfl ?_
      rw [show ((0 : Int32) + (1 : Int32)) = (1 : Int32) from by decide]
      refine g_istoreN X hx (hb hby d5_16) (Ls' := #[.val (.ref g), .val (.int n), .val (.int v), .val (.int (1 : Int32))]) rfl (pc' := 17) rfl ?_
      refine g_iloadN X hx (hb hby d5_17) rfl (pc' := 18) rfl ?_
      refine g_iconst X hx (hb hby d5_18) (x := (1 : Int32)) (by decide) (pc' := 19) rfl ?_
      refine g_icmp X hx (hb hby d5_19) (by decide) (pc' := 33) (by decide) (pc2 := 22) rfl (fun hc => ?_) (fun hc => ?_)
      · replace hc := h_le1 hc
        have hc19 := hc
        refine g_iloadN X hx (hb hby d5_33) rfl (pc' := 34) rfl ?_
        refine g_iconst X hx (hb hby d5_34) (x := (2 : Int32)) (by decide) (pc' := 35) rfl ?_
        refine g_icmp X hx (hb hby d5_35) (by decide) (pc' := 49) (by decide) (pc2 := 38) rfl (fun hc => ?_) (fun hc => ?_)
        · replace hc := h_le1 hc
          have hc35 := hc
          refine g_iloadN X hx (hb hby d5_49) rfl (pc' := 50) rfl ?_
          refine g_retI X hx hret hlk (hb hby d5_50) (by decide) (by decide) ?_
          rw [eT]
          refine ⟨?_, N, eh⟩
          simp +decide [expC, hc3, hc10, hc19, hc35]
        · replace hc := h_le0 hc
          have hc35 := hc
          refine g_aloadN X hx (hb hby d5_38) rfl rfl (pc' := 39) rfl ?_
          refine g_iconst X hx (hb hby d5_39) (x := (2 : Int32)) (by decide) (pc' := 40) rfl ?_
          refine g_iaload X hx hZ eT A_g.2 (hb hby d5_40) (by decide) (by decide) (v := (.int w2)) rfl (pc' := 41) rfl ?_
          refine g_iloadN X hx (hb hby d5_41) rfl (pc' := 42) rfl ?_
          refine g_icmp X hx (hb hby d5_42) (by decide) (pc' := 49) (by decide) (pc2 := 45) rfl (fun hc => ?_) (fun hc => ?_)
          · replace hc := h_ne1 hc
            have hc42 := hc
            refine g_iloadN X hx (hb hby d5_49) rfl (pc' := 50) rfl ?_
            refine g_retI X hx hret hlk (hb hby d5_50) (by decide) (by decide) ?_
            rw [eT]
            refine ⟨?_, N, eh⟩
            simp +decide [expC, hc3, hc10, hc19, hc35, hc42]
          · replace hc := h_ne0 hc
            have hc42 := hc
            refine g_iloadN X hx (hb hby d5_45) rfl (pc' := 46) rfl ?_
            refine g_iconst X hx (hb hby d5_46) (x := (1 : Int32)) (by decide) (pc' := 47) rfl ?_
            refine g_iadd X hx (hb hby d5_47) (pc' := 48) rfl ?_
            rw [show ((1 : Int32) + (1 : Int32)) = (2 : Int32) from by decide]
            refine g_istoreN X hx (hb hby d5_48) (Ls' := #[.val (.ref g), .val (.int n), .val (.int v), .val (.int (2 : Int32))]) rfl (pc' := 49) rfl ?_
            refine g_iloadN X hx (hb hby d5_49) rfl (pc' := 50) rfl ?_
            refine g_retI X hx hret hlk (hb hby d5_50) (by decide) (by decide) ?_
            rw [eT]
            refine ⟨?_, N, eh⟩
            simp +decide [expC, hc3, hc10, hc19, hc35, hc42]
      · replace hc := h_le0 hc
        have hc19 := hc
        refine g_aloadN X hx (hb hby d5_22) rfl rfl (pc' := 23) rfl ?_
        refine g_iconst X hx (hb hby d5_23) (x := (1 : Int32)) (by decide) (pc' := 24) rfl ?_
        refine g_iaload X hx hZ eT A_g.2 (hb hby d5_24) (by decide) (by decide) (v := (.int w1)) rfl (pc' := 25) rfl ?_
        refine g_iloadN X hx (hb hby d5_25) rfl (pc' := 26) rfl ?_
        refine g_icmp X hx (hb hby d5_26) (by decide) (pc' := 33) (by decide) (pc2 := 29) rfl (fun hc => ?_) (fun hc => ?_)
        · replace hc := h_ne1 hc
          have hc26 := hc
          refine g_iloadN X hx (hb hby d5_33) rfl (pc' := 34) rfl ?_
          refine g_iconst X hx (hb hby d5_34) (x := (2 : Int32)) (by decide) (pc' := 35) rfl ?_
          refine g_icmp X hx (hb hby d5_35) (by decide) (pc' := 49) (by decide) (pc2 := 38) rfl (fun hc => ?_) (fun hc => ?_)
          · replace hc := h_le1 hc
            have hc35 := hc
            refine g_iloadN X hx (hb hby d5_49) rfl (pc' := 50) rfl ?_
            refine g_retI X hx hret hlk (hb hby d5_50) (by decide) (by decide) ?_
            rw [eT]
            refine ⟨?_, N, eh⟩
            simp +decide [expC, hc3, hc10, hc19, hc26, hc35]
          · replace hc := h_le0 hc
            have hc35 := hc
            refine g_aloadN X hx (hb hby d5_38) rfl rfl (pc' := 39) rfl ?_
            refine g_iconst X hx (hb hby d5_39) (x := (2 : Int32)) (by decide) (pc' := 40) rfl ?_
            refine g_iaload X hx hZ eT A_g.2 (hb hby d5_40) (by decide) (by decide) (v := (.int w2)) rfl (pc' := 41) rfl ?_
            refine g_iloadN X hx (hb hby d5_41) rfl (pc' := 42) rfl ?_
            refine g_icmp X hx (hb hby d5_42) (by decide) (pc' := 49) (by decide) (pc2 := 45) rfl (fun hc => ?_) (fun hc => ?_)
            · replace hc := h_ne1 hc
              have hc42 := hc
              refine g_iloadN X hx (hb hby d5_49) rfl (pc' := 50) rfl ?_
              refine g_retI X hx hret hlk (hb hby d5_50) (by decide) (by decide) ?_
              rw [eT]
              refine ⟨?_, N, eh⟩
              simp +decide [expC, hc3, hc10, hc19, hc26, hc35, hc42]
            · replace hc := h_ne0 hc
              have hc42 := hc
              refine g_iloadN X hx (hb hby d5_45) rfl (pc' := 46) rfl ?_
              refine g_iconst X hx (hb hby d5_46) (x := (1 : Int32)) (by decide) (pc' := 47) rfl ?_
              refine g_iadd X hx (hb hby d5_47) (pc' := 48) rfl ?_
              rw [show ((1 : Int32) + (1 : Int32)) = (2 : Int32) from by decide]
              refine g_istoreN X hx (hb hby d5_48) (Ls' := #[.val (.ref g), .val (.int n), .val (.int v), .val (.int (2 : Int32))]) rfl (pc' := 49) rfl ?_
              refine g_iloadN X hx (hb hby d5_49) rfl (pc' := 50) rfl ?_
              refine g_retI X hx hret hlk (hb hby d5_50) (by decide) (by decide) ?_
              rw [eT]
              refine ⟨?_, N, eh⟩
              simp +decide [expC, hc3, hc10, hc19, hc26, hc35, hc42]
        · replace hc := h_ne0 hc
          have hc26 := hc
          refine g_iloadN X hx (hb hby d5_29) rfl (pc' := 30) rfl ?_
          refine g_iconst X hx (hb hby d5_30) (x := (1 : Int32)) (by decide) (pc' := 31) rfl ?_
          refine g_iadd X hx (hb hby d5_31) (pc' := 32) rfl ?_
          rw [show ((1 : Int32) + (1 : Int32)) = (2 : Int32) from by decide]
          refine g_istoreN X hx (hb hby d5_32) (Ls' := #[.val (.ref g), .val (.int n), .val (.int v), .val (.int (2 : Int32))]) rfl (pc' := 33) rfl ?_
          refine g_iloadN X hx (hb hby d5_33) rfl (pc' := 34) rfl ?_
          refine g_iconst X hx (hb hby d5_34) (x := (2 : Int32)) (by decide) (pc' := 35) rfl ?_
          refine g_icmp X hx (hb hby d5_35) (by decide) (pc' := 49) (by decide) (pc2 := 38) rfl (fun hc => ?_) (fun hc => ?_)
          · replace hc := h_le1 hc
            have hc35 := hc
            refine g_iloadN X hx (hb hby d5_49) rfl (pc' := 50) rfl ?_
            refine g_retI X hx hret hlk (hb hby d5_50) (by decide) (by decide) ?_
            rw [eT]
            refine ⟨?_, N, eh⟩
            simp +decide [expC, hc3, hc10, hc19, hc26, hc35]
          · replace hc := h_le0 hc
            have hc35 := hc
            refine g_aloadN X hx (hb hby d5_38) rfl rfl (pc' := 39) rfl ?_
            refine g_iconst X hx (hb hby d5_39) (x := (2 : Int32)) (by decide) (pc' := 40) rfl ?_
            refine g_iaload X hx hZ eT A_g.2 (hb hby d5_40) (by decide) (by decide) (v := (.int w2)) rfl (pc' := 41) rfl ?_
            refine g_iloadN X hx (hb hby d5_41) rfl (pc' := 42) rfl ?_
            refine g_icmp X hx (hb hby d5_42) (by decide) (pc' := 49) (by decide) (pc2 := 45) rfl (fun hc => ?_) (fun hc => ?_)
            · replace hc := h_ne1 hc
              have hc42 := hc
              refine g_iloadN X hx (hb hby d5_49) rfl (pc' := 50) rfl ?_
              refine g_retI X hx hret hlk (hb hby d5_50) (by decide) (by decide) ?_
              rw [eT]
              refine ⟨?_, N, eh⟩
              simp +decide [expC, hc3, hc10, hc19, hc26, hc35, hc42]
            · replace hc := h_ne0 hc
              have hc42 := hc
              refine g_iloadN X hx (hb hby d5_45) rfl (pc' := 46) rfl ?_
              refine g_iconst X hx (hb hby d5_46) (x := (1 : Int32)) (by decide) (pc' := 47) rfl ?_
              refine g_iadd X hx (hb hby d5_47) (pc' := 48) rfl ?_
              rw [show ((2 : Int32) + (1 : Int32)) = (3 : Int32) from by decide]
              refine g_istoreN X hx (hb hby d5_48) (Ls' := #[.val (.ref g), .val (.int n), .val (.int v), .val (.int (3 : Int32))]) rfl (pc' := 49) rfl ?_
              refine g_iloadN X hx (hb hby d5_49) rfl (pc' := 50) rfl ?_
              refine g_retI X hx hret hlk (hb hby d5_50) (by decide) (by decide) ?_
              rw [eT]
              refine ⟨?_, N, eh⟩
              simp +decide [expC, hc3, hc10, hc19, hc26, hc35, hc42]
theorem d7_0 : decode method_4_code 0 = .ok (.iload_n 2, 1) := by decide +kernel
theorem d7_1 : decode method_4_code 1 = .ok (.ifCond .le 14, 3) := by decide +kernel
theorem d7_4 : decode method_4_code 4 = .ok (.aload_n 0, 1) := by decide +kernel
theorem d7_5 : decode method_4_code 5 = .ok (.iconst 0, 1) := by decide +kernel
theorem d7_6 : decode method_4_code 6 = .ok (.iaload, 1) := by decide +kernel
theorem d7_7 : decode method_4_code 7 = .ok (.iload_n 3, 1) := by decide +kernel
theorem d7_8 : decode method_4_code 8 = .ok (.if_icmp .ne 7, 3) := by decide +kernel
theorem d7_11 : decode method_4_code 11 = .ok (.aload_n 1, 1) := by decide +kernel
theorem d7_12 : decode method_4_code 12 = .ok (.iconst 0, 1) := by decide +kernel
theorem d7_13 : decode method_4_code 13 = .ok (.iaload, 1) := by decide +kernel
theorem d7_14 : decode method_4_code 14 = .ok (.ireturn, 1) := by decide +kernel
theorem d7_15 : decode method_4_code 15 = .ok (.iload_n 2, 1) := by decide +kernel
theorem d7_16 : decode method_4_code 16 = .ok (.iconst 1, 1) := by decide +kernel
theorem d7_17 : decode method_4_code 17 = .ok (.if_icmp .le 14, 3) := by decide +kernel
theorem d7_20 : decode method_4_code 20 = .ok (.aload_n 0, 1) := by decide +kernel
theorem d7_21 : decode method_4_code 21 = .ok (.iconst 1, 1) := by decide +kernel
theorem d7_22 : decode method_4_code 22 = .ok (.iaload, 1) := by decide +kernel
theorem d7_23 : decode method_4_code 23 = .ok (.iload_n 3, 1) := by decide +kernel
theorem d7_24 : decode method_4_code 24 = .ok (.if_icmp .ne 7, 3) := by decide +kernel
theorem d7_27 : decode method_4_code 27 = .ok (.aload_n 1, 1) := by decide +kernel
theorem d7_28 : decode method_4_code 28 = .ok (.iconst 1, 1) := by decide +kernel
theorem d7_29 : decode method_4_code 29 = .ok (.iaload, 1) := by decide +kernel
theorem d7_30 : decode method_4_code 30 = .ok (.ireturn, 1) := by decide +kernel
theorem d7_31 : decode method_4_code 31 = .ok (.iload_n 2, 1) := by decide +kernel
theorem d7_32 : decode method_4_code 32 = .ok (.iconst 2, 1) := by decide +kernel
theorem d7_33 : decode method_4_code 33 = .ok (.if_icmp .le 14, 3) := by decide +kernel
theorem d7_36 : decode method_4_code 36 = .ok (.aload_n 0, 1) := by decide +kernel
theorem d7_37 : decode method_4_code 37 = .ok (.iconst 2, 1) := by decide +kernel
theorem d7_38 : decode method_4_code 38 = .ok (.iaload, 1) := by decide +kernel
theorem d7_39 : decode method_4_code 39 = .ok (.iload_n 3, 1) := by decide +kernel
theorem d7_40 : decode method_4_code 40 = .ok (.if_icmp .ne 7, 3) := by decide +kernel
theorem d7_43 : decode method_4_code 43 = .ok (.aload_n 1, 1) := by decide +kernel
theorem d7_44 : decode method_4_code 44 = .ok (.iconst 2, 1) := by decide +kernel
theorem d7_45 : decode method_4_code 45 = .ok (.iaload, 1) := by decide +kernel
theorem d7_46 : decode method_4_code 46 = .ok (.ireturn, 1) := by decide +kernel
theorem d7_47 : decode method_4_code 47 = .ok (.iconst (-1), 1) := by decide +kernel
theorem d7_48 : decode method_4_code 48 = .ok (.ireturn, 1) := by decide +kernel
theorem pl_7 : plainFor (⟨"com/example/storewatch/storewatch/check/ReadersEnterPinLaw", "expFirst", "([I[III)I"⟩ : MethodName) = true := plainFor_of_name (by first | (simp [plainName, overriddenIn]; done) | decide +kernel)
theorem ef_rmXF (m : MethodId) (z0 : Addr) (z1 : Addr) (z2 : Int32) (z3 : Int32) : entryFrame m #[(.ref z0), (.ref z1), (.int z2), (.int z3)] 4 = mkF m 0 #[.val (.ref z0), .val (.ref z1), .val (.int z2), .val (.int z3)] [] := by first | (simp [entryFrame, mkF, argsToLocals, Value.category]; done) | rfl
set_option maxRecDepth 65536 in
set_option maxHeartbeats 40000000 in
theorem rmXF (l : Launch) (Z : State) (a0 : Array Value) (hw : ∀ d ∈ tables_1, d.before a0 Z = true) (g : Addr) (w0 : Int32) (w1 : Int32) (w2 : Int32) (r : Addr) (r0 : Int32) (r1 : Int32) (r2 : Int32) (n : Int32) (v : Int32) (h0 : Heap) (n0 : Nat) (Zn : n0 ≤ h0.size) (A_g : Al Z h0 g .int 3 [w0, w1, w2]) (A_r : Al Z h0 r .int 3 [r0, r1, r2])  :
    WCt l Z (⟨"com/example/storewatch/storewatch/check/ReadersEnterPinLaw", "expFirst", "([I[III)I"⟩ : MethodName) method_4_code 4 (some .int) ({ frames := 0, cells := 0, slots := 0, locals := 0 } : Room) #[(.ref g), (.ref r), (.int n), (.int v)] h0 (fun vv hh LL => (vv = some (.int (expF n v w0 w1 w2 r0 r1 r2))) ∧ (Fr n0 LL) ∧ (hh = h0)) := by
  refine WCt.of pl_7 ?_
  intro p e s m below meth c T hx hby hml hown hnm hret hlk hZ hh0 X eT
  have hown : s.vm.findClass "com/example/storewatch/storewatch/check/ReadersEnterPinLaw" = some m.cls := hown
  have hnm : meth.name = "expFirst" := hnm
  have N := Fr.nil n0
  obtain ⟨h, eh⟩ : ∃ h, h = h0 := ⟨_, rfl⟩
  have K : Keep h0 h [] := by rw [eh]; exact Keep.refl _ _
  refine WGo.cast (ef_rmXF m g r n v) ?_
  rw [← eh] at eT Zn A_g A_r
  refine g_iloadN X hx (hb hby d7_0) rfl (pc' := 1) rfl ?_
  refine g_if X hx (hb hby d7_1) (by decide) (pc' := 15) (by decide) (pc2 := 4) rfl (fun hc => ?_) (fun hc => ?_)
  · replace hc := h_le1 hc
    have hc1 := hc
    refine g_iloadN X hx (hb hby d7_15) rfl (pc' := 16) rfl ?_
    refine g_iconst X hx (hb hby d7_16) (x := (1 : Int32)) (by decide) (pc' := 17) rfl ?_
    refine g_icmp X hx (hb hby d7_17) (by decide) (pc' := 31) (by decide) (pc2 := 20) rfl (fun hc => ?_) (fun hc => ?_)
    · replace hc := h_le1 hc
      have hc17 := hc
      refine g_iloadN X hx (hb hby d7_31) rfl (pc' := 32) rfl ?_
      refine g_iconst X hx (hb hby d7_32) (x := (2 : Int32)) (by decide) (pc' := 33) rfl ?_
      refine g_icmp X hx (hb hby d7_33) (by decide) (pc' := 47) (by decide) (pc2 := 36) rfl (fun hc => ?_) (fun hc => ?_)
      · replace hc := h_le1 hc
        have hc33 := hc
        refine g_iconst X hx (hb hby d7_47) (x := (-1 : Int32)) (by decide) (pc' := 48) rfl ?_
        refine g_retI X hx hret hlk (hb hby d7_48) (by decide) (by decide) ?_
        rw [eT]
        refine ⟨?_, N, eh⟩
        simp +decide [expF, hc1, hc17, hc33]
      · replace hc := h_le0 hc
        have hc33 := hc
        refine g_aloadN X hx (hb hby d7_36) rfl rfl (pc' := 37) rfl ?_
        refine g_iconst X hx (hb hby d7_37) (x := (2 : Int32)) (by decide) (pc' := 38) rfl ?_
        refine g_iaload X hx hZ eT A_g.2 (hb hby d7_38) (by decide) (by decide) (v := (.int w2)) rfl (pc' := 39) rfl ?_
        refine g_iloadN X hx (hb hby d7_39) rfl (pc' := 40) rfl ?_
        refine g_icmp X hx (hb hby d7_40) (by decide) (pc' := 47) (by decide) (pc2 := 43) rfl (fun hc => ?_) (fun hc => ?_)
        · replace hc := h_ne1 hc
          have hc40 := hc
          refine g_iconst X hx (hb hby d7_47) (x := (-1 : Int32)) (by decide) (pc' := 48) rfl ?_
          refine g_retI X hx hret hlk (hb hby d7_48) (by decide) (by decide) ?_
          rw [eT]
          refine ⟨?_, N, eh⟩
          simp +decide [expF, hc1, hc17, hc33, hc40]
        · replace hc := h_ne0 hc
          have hc40 := hc
          refine g_aloadN X hx (hb hby d7_43) rfl rfl (pc' := 44) rfl ?_
          refine g_iconst X hx (hb hby d7_44) (x := (2 : Int32)) (by decide) (pc' := 45) rfl ?_
          refine g_iaload X hx hZ eT A_r.2 (hb hby d7_45) (by decide) (by decide) (v := (.int r2)) rfl (pc' := 46) rfl ?_
          refine g_retI X hx hret hlk (hb hby d7_46) (by decide) (by decide) ?_
          rw [eT]
          refine ⟨?_, N, eh⟩
          simp +decide [expF, hc1, hc17, hc33, hc40]
    · replace hc := h_le0 hc
      have hc17 := hc
      refine g_aloadN X hx (hb hby d7_20) rfl rfl (pc' := 21) rfl ?_
      refine g_iconst X hx (hb hby d7_21) (x := (1 : Int32)) (by decide) (pc' := 22) rfl ?_
      refine g_iaload X hx hZ eT A_g.2 (hb hby d7_22) (by decide) (by decide) (v := (.int w1)) rfl (pc' := 23) rfl ?_
      refine g_iloadN X hx (hb hby d7_23) rfl (pc' := 24) rfl ?_
      refine g_icmp X hx (hb hby d7_24) (by decide) (pc' := 31) (by decide) (pc2 := 27) rfl (fun hc => ?_) (fun hc => ?_)
      · replace hc := h_ne1 hc
        have hc24 := hc
        refine g_iloadN X hx (hb hby d7_31) rfl (pc' := 32) rfl ?_
        refine g_iconst X hx (hb hby d7_32) (x := (2 : Int32)) (by decide) (pc' := 33) rfl ?_
        refine g_icmp X hx (hb hby d7_33) (by decide) (pc' := 47) (by decide) (pc2 := 36) rfl (fun hc => ?_) (fun hc => ?_)
        · replace hc := h_le1 hc
          have hc33 := hc
          refine g_iconst X hx (hb hby d7_47) (x := (-1 : Int32)) (by decide) (pc' := 48) rfl ?_
          refine g_retI X hx hret hlk (hb hby d7_48) (by decide) (by decide) ?_
          rw [eT]
          refine ⟨?_, N, eh⟩
          simp +decide [expF, hc1, hc17, hc24, hc33]
        · replace hc := h_le0 hc
          have hc33 := hc
          refine g_aloadN X hx (hb hby d7_36) rfl rfl (pc' := 37) rfl ?_
          refine g_iconst X hx (hb hby d7_37) (x := (2 : Int32)) (by decide) (pc' := 38) rfl ?_
          refine g_iaload X hx hZ eT A_g.2 (hb hby d7_38) (by decide) (by decide) (v := (.int w2)) rfl (pc' := 39) rfl ?_
          refine g_iloadN X hx (hb hby d7_39) rfl (pc' := 40) rfl ?_
          refine g_icmp X hx (hb hby d7_40) (by decide) (pc' := 47) (by decide) (pc2 := 43) rfl (fun hc => ?_) (fun hc => ?_)
          · replace hc := h_ne1 hc
            have hc40 := hc
            refine g_iconst X hx (hb hby d7_47) (x := (-1 : Int32)) (by decide) (pc' := 48) rfl ?_
            refine g_retI X hx hret hlk (hb hby d7_48) (by decide) (by decide) ?_
            rw [eT]
            refine ⟨?_, N, eh⟩
            simp +decide [expF, hc1, hc17, hc24, hc33, hc40]
          · replace hc := h_ne0 hc
            have hc40 := hc
            refine g_aloadN X hx (hb hby d7_43) rfl rfl (pc' := 44) rfl ?_
            refine g_iconst X hx (hb hby d7_44) (x := (2 : Int32)) (by decide) (pc' := 45) rfl ?_
            refine g_iaload X hx hZ eT A_r.2 (hb hby d7_45) (by decide) (by decide) (v := (.int r2)) rfl (pc' := 46) rfl ?_
            refine g_retI X hx hret hlk (hb hby d7_46) (by decide) (by decide) ?_
            rw [eT]
            refine ⟨?_, N, eh⟩
            simp +decide [expF, hc1, hc17, hc24, hc33, hc40]
      · replace hc := h_ne0 hc
        have hc24 := hc
        refine g_aloadN X hx (hb hby d7_27) rfl rfl (pc' := 28) rfl ?_
        refine g_iconst X hx (hb hby d7_28) (x := (1 : Int32)) (by decide) (pc' := 29) rfl ?_
        refine g_iaload X hx hZ eT A_r.2 (hb hby d7_29) (by decide) (by decide) (v := (.int r1)) rfl (pc' := 30) rfl ?_
        refine g_retI X hx hret hlk (hb hby d7_30) (by decide) (by decide) ?_
        rw [eT]
        refine ⟨?_, N, eh⟩
        simp +decide [expF, hc1, hc17, hc24]
  · replace hc := h_le0 hc
    have hc1 := hc
    refine g_aloadN X hx (hb hby d7_4) rfl rfl (pc' := 5) rfl ?_
    refine g_iconst X hx (hb hby d7_5) (x := (0 : Int32)) (by decide) (pc' := 6) rfl ?_
    refine g_iaload X hx hZ eT A_g.2 (hb hby d7_6) (by decide) (by decide) (v := (.int w0)) rfl (pc' := 7) rfl ?_
    refine g_iloadN X hx (hb hby d7_7) rfl (pc' := 8) rfl ?_
    refine g_icmp X hx (hb hby d7_8) (by decide) (pc' := 15) (by decide) (pc2 := 11) rfl (fun hc => ?_) (fun hc => ?_)
    · replace hc := h_ne1 hc
      have hc8 := hc
      refine g_iloadN X hx (hb hby d7_15) rfl (pc' := 16) rfl ?_
      refine g_iconst X hx (hb hby d7_16) (x := (1 : Int32)) (by decide) (pc' := 17) rfl ?_
      refine g_icmp X hx (hb hby d7_17) (by decide) (pc' := 31) (by decide) (pc2 := 20) rfl (fun hc => ?_) (fun hc => ?_)
      · replace hc := h_le1 hc
        have hc17 := hc
        refine g_iloadN X hx (hb hby d7_31) rfl (pc' := 32) rfl ?_
        refine g_iconst X hx (hb hby d7_32) (x := (2 : Int32)) (by decide) (pc' := 33) rfl ?_
        refine g_icmp X hx (hb hby d7_33) (by decide) (pc' := 47) (by decide) (pc2 := 36) rfl (fun hc => ?_) (fun hc => ?_)
        · replace hc := h_le1 hc
          have hc33 := hc
          refine g_iconst X hx (hb hby d7_47) (x := (-1 : Int32)) (by decide) (pc' := 48) rfl ?_
          refine g_retI X hx hret hlk (hb hby d7_48) (by decide) (by decide) ?_
          rw [eT]
          refine ⟨?_, N, eh⟩
          simp +decide [expF, hc1, hc8, hc17, hc33]
        · replace hc := h_le0 hc
          have hc33 := hc
          refine g_aloadN X hx (hb hby d7_36) rfl rfl (pc' := 37) rfl ?_
          refine g_iconst X hx (hb hby d7_37) (x := (2 : Int32)) (by decide) (pc' := 38) rfl ?_
          refine g_iaload X hx hZ eT A_g.2 (hb hby d7_38) (by decide) (by decide) (v := (.int w2)) rfl (pc' := 39) rfl ?_
          refine g_iloadN X hx (hb hby d7_39) rfl (pc' := 40) rfl ?_
          refine g_icmp X hx (hb hby d7_40) (by decide) (pc' := 47) (by decide) (pc2 := 43) rfl (fun hc => ?_) (fun hc => ?_)
          · replace hc := h_ne1 hc
            have hc40 := hc
            refine g_iconst X hx (hb hby d7_47) (x := (-1 : Int32)) (by decide) (pc' := 48) rfl ?_
            refine g_retI X hx hret hlk (hb hby d7_48) (by decide) (by decide) ?_
            rw [eT]
            refine ⟨?_, N, eh⟩
            simp +decide [expF, hc1, hc8, hc17, hc33, hc40]
          · replace hc := h_ne0 hc
            have hc40 := hc
            refine g_aloadN X hx (hb hby d7_43) rfl rfl (pc' := 44) rfl ?_
            refine g_iconst X hx (hb hby d7_44) (x := (2 : Int32)) (by decide) (pc' := 45) rfl ?_
            refine g_iaload X hx hZ eT A_r.2 (hb hby d7_45) (by decide) (by decide) (v := (.int r2)) rfl (pc' := 46) rfl ?_
            refine g_retI X hx hret hlk (hb hby d7_46) (by decide) (by decide) ?_
            rw [eT]
            refine ⟨?_, N, eh⟩
            simp +decide [expF, hc1, hc8, hc17, hc33, hc40]
      · replace hc := h_le0 hc
        have hc17 := hc
        refine g_aloadN X hx (hb hby d7_20) rfl rfl (pc' := 21) rfl ?_
        refine g_iconst X hx (hb hby d7_21) (x := (1 : Int32)) (by decide) (pc' := 22) rfl ?_
        refine g_iaload X hx hZ eT A_g.2 (hb hby d7_22) (by decide) (by decide) (v := (.int w1)) rfl (pc' := 23) rfl ?_
        refine g_iloadN X hx (hb hby d7_23) rfl (pc' := 24) rfl ?_
        refine g_icmp X hx (hb hby d7_24) (by decide) (pc' := 31) (by decide) (pc2 := 27) rfl (fun hc => ?_) (fun hc => ?_)
        · replace hc := h_ne1 hc
          have hc24 := hc
          refine g_iloadN X hx (hb hby d7_31) rfl (pc' := 32) rfl ?_
          refine g_iconst X hx (hb hby d7_32) (x := (2 : Int32)) (by decide) (pc' := 33) rfl ?_
          refine g_icmp X hx (hb hby d7_33) (by decide) (pc' := 47) (by decide) (pc2 := 36) rfl (fun hc => ?_) (fun hc => ?_)
          · replace hc := h_le1 hc
            have hc33 := hc
            refine g_iconst X hx (hb hby d7_47) (x := (-1 : Int32)) (by decide) (pc' := 48) rfl ?_
            refine g_retI X hx hret hlk (hb hby d7_48) (by decide) (by decide) ?_
            rw [eT]
            refine ⟨?_, N, eh⟩
            simp +decide [expF, hc1, hc8, hc17, hc24, hc33]
          · replace hc := h_le0 hc
            have hc33 := hc
            refine g_aloadN X hx (hb hby d7_36) rfl rfl (pc' := 37) rfl ?_
            refine g_iconst X hx (hb hby d7_37) (x := (2 : Int32)) (by decide) (pc' := 38) rfl ?_
            refine g_iaload X hx hZ eT A_g.2 (hb hby d7_38) (by decide) (by decide) (v := (.int w2)) rfl (pc' := 39) rfl ?_
            refine g_iloadN X hx (hb hby d7_39) rfl (pc' := 40) rfl ?_
            refine g_icmp X hx (hb hby d7_40) (by decide) (pc' := 47) (by decide) (pc2 := 43) rfl (fun hc => ?_) (fun hc => ?_)
            · replace hc := h_ne1 hc
              have hc40 := hc
              refine g_iconst X hx (hb hby d7_47) (x := (-1 : Int32)) (by decide) (pc' := 48) rfl ?_
              refine g_retI X hx hret hlk (hb hby d7_48) (by decide) (by decide) ?_
              rw [eT]
              refine ⟨?_, N, eh⟩
              simp +decide [expF, hc1, hc8, hc17, hc24, hc33, hc40]
            · replace hc := h_ne0 hc
              have hc40 := hc
              refine g_aloadN X hx (hb hby d7_43) rfl rfl (pc' := 44) rfl ?_
              refine g_iconst X hx (hb hby d7_44) (x := (2 : Int32)) (by decide) (pc' := 45) rfl ?_
              refine g_iaload X hx hZ eT A_r.2 (hb hby d7_45) (by decide) (by decide) (v := (.int r2)) rfl (pc' := 46) rfl ?_
              refine g_retI X hx hret hlk (hb hby d7_46) (by decide) (by decide) ?_
              rw [eT]
              refine ⟨?_, N, eh⟩
              simp +decide [expF, hc1, hc8, hc17, hc24, hc33, hc40]
        · replace hc := h_ne0 hc
          have hc24 := hc
          refine g_aloadN X hx (hb hby d7_27) rfl rfl (pc' := 28) rfl ?_
          refine g_iconst X hx (hb hby d7_28) (x := (1 : Int32)) (by decide) (pc' := 29) rfl ?_
          refine g_iaload X hx hZ eT A_r.2 (hb hby d7_29) (by decide) (by decide) (v := (.int r1)) rfl (pc' := 30) rfl ?_
          refine g_retI X hx hret hlk (hb hby d7_30) (by decide) (by decide) ?_
          rw [eT]
          refine ⟨?_, N, eh⟩
          simp +decide [expF, hc1, hc8, hc17, hc24]
    · replace hc := h_ne0 hc
      have hc8 := hc
      refine g_aloadN X hx (hb hby d7_11) rfl rfl (pc' := 12) rfl ?_
      refine g_iconst X hx (hb hby d7_12) (x := (0 : Int32)) (by decide) (pc' := 13) rfl ?_
      refine g_iaload X hx hZ eT A_r.2 (hb hby d7_13) (by decide) (by decide) (v := (.int r0)) rfl (pc' := 14) rfl ?_
      refine g_retI X hx hret hlk (hb hby d7_14) (by decide) (by decide) ?_
      rw [eT]
      refine ⟨?_, N, eh⟩
      simp +decide [expF, hc1, hc8]
theorem d9_0 : decode method_5_code 0 = .ok (.iload_n 3, 1) := by decide +kernel
theorem d9_1 : decode method_5_code 1 = .ok (.ifCond .ne 41, 3) := by decide +kernel
theorem d9_4 : decode method_5_code 4 = .ok (.iload_n 2, 1) := by decide +kernel
theorem d9_5 : decode method_5_code 5 = .ok (.iconst 1, 1) := by decide +kernel
theorem d9_6 : decode method_5_code 6 = .ok (.if_icmp .le 16, 3) := by decide +kernel
theorem d9_9 : decode method_5_code 9 = .ok (.aload_n 0, 1) := by decide +kernel
theorem d9_10 : decode method_5_code 10 = .ok (.iconst 1, 1) := by decide +kernel
theorem d9_11 : decode method_5_code 11 = .ok (.iaload, 1) := by decide +kernel
theorem d9_12 : decode method_5_code 12 = .ok (.aload_n 0, 1) := by decide +kernel
theorem d9_13 : decode method_5_code 13 = .ok (.iconst 0, 1) := by decide +kernel
theorem d9_14 : decode method_5_code 14 = .ok (.iaload, 1) := by decide +kernel
theorem d9_15 : decode method_5_code 15 = .ok (.if_icmp .ne 7, 3) := by decide +kernel
theorem d9_18 : decode method_5_code 18 = .ok (.aload_n 1, 1) := by decide +kernel
theorem d9_19 : decode method_5_code 19 = .ok (.iconst 1, 1) := by decide +kernel
theorem d9_20 : decode method_5_code 20 = .ok (.iaload, 1) := by decide +kernel
theorem d9_21 : decode method_5_code 21 = .ok (.ireturn, 1) := by decide +kernel
theorem d9_22 : decode method_5_code 22 = .ok (.iload_n 2, 1) := by decide +kernel
theorem d9_23 : decode method_5_code 23 = .ok (.iconst 2, 1) := by decide +kernel
theorem d9_24 : decode method_5_code 24 = .ok (.if_icmp .le 16, 3) := by decide +kernel
theorem d9_27 : decode method_5_code 27 = .ok (.aload_n 0, 1) := by decide +kernel
theorem d9_28 : decode method_5_code 28 = .ok (.iconst 2, 1) := by decide +kernel
theorem d9_29 : decode method_5_code 29 = .ok (.iaload, 1) := by decide +kernel
theorem d9_30 : decode method_5_code 30 = .ok (.aload_n 0, 1) := by decide +kernel
theorem d9_31 : decode method_5_code 31 = .ok (.iconst 0, 1) := by decide +kernel
theorem d9_32 : decode method_5_code 32 = .ok (.iaload, 1) := by decide +kernel
theorem d9_33 : decode method_5_code 33 = .ok (.if_icmp .ne 7, 3) := by decide +kernel
theorem d9_36 : decode method_5_code 36 = .ok (.aload_n 1, 1) := by decide +kernel
theorem d9_37 : decode method_5_code 37 = .ok (.iconst 2, 1) := by decide +kernel
theorem d9_38 : decode method_5_code 38 = .ok (.iaload, 1) := by decide +kernel
theorem d9_39 : decode method_5_code 39 = .ok (.ireturn, 1) := by decide +kernel
theorem d9_40 : decode method_5_code 40 = .ok (.iconst (-1), 1) := by decide +kernel
theorem d9_41 : decode method_5_code 41 = .ok (.ireturn, 1) := by decide +kernel
theorem d9_42 : decode method_5_code 42 = .ok (.iload_n 3, 1) := by decide +kernel
theorem d9_43 : decode method_5_code 43 = .ok (.iconst 1, 1) := by decide +kernel
theorem d9_44 : decode method_5_code 44 = .ok (.if_icmp .ne 23, 3) := by decide +kernel
theorem d9_47 : decode method_5_code 47 = .ok (.iload_n 2, 1) := by decide +kernel
theorem d9_48 : decode method_5_code 48 = .ok (.iconst 2, 1) := by decide +kernel
theorem d9_49 : decode method_5_code 49 = .ok (.if_icmp .le 16, 3) := by decide +kernel
theorem d9_52 : decode method_5_code 52 = .ok (.aload_n 0, 1) := by decide +kernel
theorem d9_53 : decode method_5_code 53 = .ok (.iconst 2, 1) := by decide +kernel
theorem d9_54 : decode method_5_code 54 = .ok (.iaload, 1) := by decide +kernel
theorem d9_55 : decode method_5_code 55 = .ok (.aload_n 0, 1) := by decide +kernel
theorem d9_56 : decode method_5_code 56 = .ok (.iconst 1, 1) := by decide +kernel
theorem d9_57 : decode method_5_code 57 = .ok (.iaload, 1) := by decide +kernel
theorem d9_58 : decode method_5_code 58 = .ok (.if_icmp .ne 7, 3) := by decide +kernel
theorem d9_61 : decode method_5_code 61 = .ok (.aload_n 1, 1) := by decide +kernel
theorem d9_62 : decode method_5_code 62 = .ok (.iconst 2, 1) := by decide +kernel
theorem d9_63 : decode method_5_code 63 = .ok (.iaload, 1) := by decide +kernel
theorem d9_64 : decode method_5_code 64 = .ok (.ireturn, 1) := by decide +kernel
theorem d9_65 : decode method_5_code 65 = .ok (.iconst (-1), 1) := by decide +kernel
theorem d9_66 : decode method_5_code 66 = .ok (.ireturn, 1) := by decide +kernel
theorem d9_67 : decode method_5_code 67 = .ok (.iconst (-1), 1) := by decide +kernel
theorem d9_68 : decode method_5_code 68 = .ok (.ireturn, 1) := by decide +kernel
theorem pl_9 : plainFor (⟨"com/example/storewatch/storewatch/check/ReadersEnterPinLaw", "expAfter", "([I[III)I"⟩ : MethodName) = true := plainFor_of_name (by first | (simp [plainName, overriddenIn]; done) | decide +kernel)
theorem ef_rmXA (m : MethodId) (z0 : Addr) (z1 : Addr) (z2 : Int32) (z3 : Int32) : entryFrame m #[(.ref z0), (.ref z1), (.int z2), (.int z3)] 4 = mkF m 0 #[.val (.ref z0), .val (.ref z1), .val (.int z2), .val (.int z3)] [] := by first | (simp [entryFrame, mkF, argsToLocals, Value.category]; done) | rfl
set_option maxRecDepth 65536 in
set_option maxHeartbeats 40000000 in
theorem rmXA (l : Launch) (Z : State) (a0 : Array Value) (hw : ∀ d ∈ tables_1, d.before a0 Z = true) (g : Addr) (w0 : Int32) (w1 : Int32) (w2 : Int32) (r : Addr) (r0 : Int32) (r1 : Int32) (r2 : Int32) (n : Int32) (i : Int32) (h0 : Heap) (n0 : Nat) (Zn : n0 ≤ h0.size) (A_g : Al Z h0 g .int 3 [w0, w1, w2]) (A_r : Al Z h0 r .int 3 [r0, r1, r2])  :
    WCt l Z (⟨"com/example/storewatch/storewatch/check/ReadersEnterPinLaw", "expAfter", "([I[III)I"⟩ : MethodName) method_5_code 4 (some .int) ({ frames := 0, cells := 0, slots := 0, locals := 0 } : Room) #[(.ref g), (.ref r), (.int n), (.int i)] h0 (fun vv hh LL => (vv = some (.int (expA n i w0 w1 w2 r0 r1 r2))) ∧ (Fr n0 LL) ∧ (hh = h0)) := by
  refine WCt.of pl_9 ?_
  intro p e s m below meth c T hx hby hml hown hnm hret hlk hZ hh0 X eT
  have hown : s.vm.findClass "com/example/storewatch/storewatch/check/ReadersEnterPinLaw" = some m.cls := hown
  have hnm : meth.name = "expAfter" := hnm
  have N := Fr.nil n0
  obtain ⟨h, eh⟩ : ∃ h, h = h0 := ⟨_, rfl⟩
  have K : Keep h0 h [] := by rw [eh]; exact Keep.refl _ _
  refine WGo.cast (ef_rmXA m g r n i) ?_
  rw [← eh] at eT Zn A_g A_r
  refine g_iloadN X hx (hb hby d9_0) rfl (pc' := 1) rfl ?_
  refine g_if X hx (hb hby d9_1) (by decide) (pc' := 42) (by decide) (pc2 := 4) rfl (fun hc => ?_) (fun hc => ?_)
  · replace hc := h_ne1 hc
    have hc1 := hc
    refine g_iloadN X hx (hb hby d9_42) rfl (pc' := 43) rfl ?_
    refine g_iconst X hx (hb hby d9_43) (x := (1 : Int32)) (by decide) (pc' := 44) rfl ?_
    refine g_icmp X hx (hb hby d9_44) (by decide) (pc' := 67) (by decide) (pc2 := 47) rfl (fun hc => ?_) (fun hc => ?_)
    · replace hc := h_ne1 hc
      have hc44 := hc
      refine g_iconst X hx (hb hby d9_67) (x := (-1 : Int32)) (by decide) (pc' := 68) rfl ?_
      refine g_retI X hx hret hlk (hb hby d9_68) (by decide) (by decide) ?_
      rw [eT]
      refine ⟨?_, N, eh⟩
      simp +decide [expA, hc1, hc44]
    · replace hc := h_ne0 hc
      have hc44 := hc
      refine g_iloadN X hx (hb hby d9_47) rfl (pc' := 48) rfl ?_
      refine g_iconst X hx (hb hby d9_48) (x := (2 : Int32)) (by decide) (pc' := 49) rfl ?_
      refine g_icmp X hx (hb hby d9_49) (by decide) (pc' := 65) (by decide) (pc2 := 52) rfl (fun hc => ?_) (fun hc => ?_)
      · replace hc := h_le1 hc
        have hc49 := hc
        refine g_iconst X hx (hb hby d9_65) (x := (-1 : Int32)) (by decide) (pc' := 66) rfl ?_
        refine g_retI X hx hret hlk (hb hby d9_66) (by decide) (by decide) ?_
        rw [eT]
        refine ⟨?_, N, eh⟩
        simp +decide [expA, hc1, hc44, hc49]
      · replace hc := h_le0 hc
        have hc49 := hc
        refine g_aloadN X hx (hb hby d9_52) rfl rfl (pc' := 53) rfl ?_
        refine g_iconst X hx (hb hby d9_53) (x := (2 : Int32)) (by decide) (pc' := 54) rfl ?_
        refine g_iaload X hx hZ eT A_g.2 (hb hby d9_54) (by decide) (by decide) (v := (.int w2)) rfl (pc' := 55) rfl ?_
        refine g_aloadN X hx (hb hby d9_55) rfl rfl (pc' := 56) rfl ?_
        refine g_iconst X hx (hb hby d9_56) (x := (1 : Int32)) (by decide) (pc' := 57) rfl ?_
        refine g_iaload X hx hZ eT A_g.2 (hb hby d9_57) (by decide) (by decide) (v := (.int w1)) rfl (pc' := 58) rfl ?_
        refine g_icmp X hx (hb hby d9_58) (by decide) (pc' := 65) (by decide) (pc2 := 61) rfl (fun hc => ?_) (fun hc => ?_)
        · replace hc := h_ne1 hc
          have hc58 := hc
          refine g_iconst X hx (hb hby d9_65) (x := (-1 : Int32)) (by decide) (pc' := 66) rfl ?_
          refine g_retI X hx hret hlk (hb hby d9_66) (by decide) (by decide) ?_
          rw [eT]
          refine ⟨?_, N, eh⟩
          simp +decide [expA, hc1, hc44, hc49, hc58]
        · replace hc := h_ne0 hc
          have hc58 := hc
          refine g_aloadN X hx (hb hby d9_61) rfl rfl (pc' := 62) rfl ?_
          refine g_iconst X hx (hb hby d9_62) (x := (2 : Int32)) (by decide) (pc' := 63) rfl ?_
          refine g_iaload X hx hZ eT A_r.2 (hb hby d9_63) (by decide) (by decide) (v := (.int r2)) rfl (pc' := 64) rfl ?_
          refine g_retI X hx hret hlk (hb hby d9_64) (by decide) (by decide) ?_
          rw [eT]
          refine ⟨?_, N, eh⟩
          simp +decide [expA, hc1, hc44, hc49, hc58]
  · replace hc := h_ne0 hc
    have hc1 := hc
    refine g_iloadN X hx (hb hby d9_4) rfl (pc' := 5) rfl ?_
    refine g_iconst X hx (hb hby d9_5) (x := (1 : Int32)) (by decide) (pc' := 6) rfl ?_
    refine g_icmp X hx (hb hby d9_6) (by decide) (pc' := 22) (by decide) (pc2 := 9) rfl (fun hc => ?_) (fun hc => ?_)
    · replace hc := h_le1 hc
      have hc6 := hc
      refine g_iloadN X hx (hb hby d9_22) rfl (pc' := 23) rfl ?_
      refine g_iconst X hx (hb hby d9_23) (x := (2 : Int32)) (by decide) (pc' := 24) rfl ?_
      refine g_icmp X hx (hb hby d9_24) (by decide) (pc' := 40) (by decide) (pc2 := 27) rfl (fun hc => ?_) (fun hc => ?_)
      · replace hc := h_le1 hc
        have hc24 := hc
        refine g_iconst X hx (hb hby d9_40) (x := (-1 : Int32)) (by decide) (pc' := 41) rfl ?_
        refine g_retI X hx hret hlk (hb hby d9_41) (by decide) (by decide) ?_
        rw [eT]
        refine ⟨?_, N, eh⟩
        simp +decide [expA, hc1, hc6, hc24]
      · replace hc := h_le0 hc
        have hc24 := hc
        refine g_aloadN X hx (hb hby d9_27) rfl rfl (pc' := 28) rfl ?_
        refine g_iconst X hx (hb hby d9_28) (x := (2 : Int32)) (by decide) (pc' := 29) rfl ?_
        refine g_iaload X hx hZ eT A_g.2 (hb hby d9_29) (by decide) (by decide) (v := (.int w2)) rfl (pc' := 30) rfl ?_
        refine g_aloadN X hx (hb hby d9_30) rfl rfl (pc' := 31) rfl ?_
        refine g_iconst X hx (hb hby d9_31) (x := (0 : Int32)) (by decide) (pc' := 32) rfl ?_
        refine g_iaload X hx hZ eT A_g.2 (hb hby d9_32) (by decide) (by decide) (v := (.int w0)) rfl (pc' := 33) rfl ?_
        refine g_icmp X hx (hb hby d9_33) (by decide) (pc' := 40) (by decide) (pc2 := 36) rfl (fun hc => ?_) (fun hc => ?_)
        · replace hc := h_ne1 hc
          have hc33 := hc
          refine g_iconst X hx (hb hby d9_40) (x := (-1 : Int32)) (by decide) (pc' := 41) rfl ?_
          refine g_retI X hx hret hlk (hb hby d9_41) (by decide) (by decide) ?_
          rw [eT]
          refine ⟨?_, N, eh⟩
          simp +decide [expA, hc1, hc6, hc24, hc33]
        · replace hc := h_ne0 hc
          have hc33 := hc
          refine g_aloadN X hx (hb hby d9_36) rfl rfl (pc' := 37) rfl ?_
          refine g_iconst X hx (hb hby d9_37) (x := (2 : Int32)) (by decide) (pc' := 38) rfl ?_
          refine g_iaload X hx hZ eT A_r.2 (hb hby d9_38) (by decide) (by decide) (v := (.int r2)) rfl (pc' := 39) rfl ?_
          refine g_retI X hx hret hlk (hb hby d9_39) (by decide) (by decide) ?_
          rw [eT]
          refine ⟨?_, N, eh⟩
          simp +decide [expA, hc1, hc6, hc24, hc33]
    · replace hc := h_le0 hc
      have hc6 := hc
      refine g_aloadN X hx (hb hby d9_9) rfl rfl (pc' := 10) rfl ?_
      refine g_iconst X hx (hb hby d9_10) (x := (1 : Int32)) (by decide) (pc' := 11) rfl ?_
      refine g_iaload X hx hZ eT A_g.2 (hb hby d9_11) (by decide) (by decide) (v := (.int w1)) rfl (pc' := 12) rfl ?_
      refine g_aloadN X hx (hb hby d9_12) rfl rfl (pc' := 13) rfl ?_
      refine g_iconst X hx (hb hby d9_13) (x := (0 : Int32)) (by decide) (pc' := 14) rfl ?_
      refine g_iaload X hx hZ eT A_g.2 (hb hby d9_14) (by decide) (by decide) (v := (.int w0)) rfl (pc' := 15) rfl ?_
      refine g_icmp X hx (hb hby d9_15) (by decide) (pc' := 22) (by decide) (pc2 := 18) rfl (fun hc => ?_) (fun hc => ?_)
      · replace hc := h_ne1 hc
        have hc15 := hc
        refine g_iloadN X hx (hb hby d9_22) rfl (pc' := 23) rfl ?_
        refine g_iconst X hx (hb hby d9_23) (x := (2 : Int32)) (by decide) (pc' := 24) rfl ?_
        refine g_icmp X hx (hb hby d9_24) (by decide) (pc' := 40) (by decide) (pc2 := 27) rfl (fun hc => ?_) (fun hc => ?_)
        · replace hc := h_le1 hc
          have hc24 := hc
          refine g_iconst X hx (hb hby d9_40) (x := (-1 : Int32)) (by decide) (pc' := 41) rfl ?_
          refine g_retI X hx hret hlk (hb hby d9_41) (by decide) (by decide) ?_
          rw [eT]
          refine ⟨?_, N, eh⟩
          simp +decide [expA, hc1, hc6, hc15, hc24]
        · replace hc := h_le0 hc
          have hc24 := hc
          refine g_aloadN X hx (hb hby d9_27) rfl rfl (pc' := 28) rfl ?_
          refine g_iconst X hx (hb hby d9_28) (x := (2 : Int32)) (by decide) (pc' := 29) rfl ?_
          refine g_iaload X hx hZ eT A_g.2 (hb hby d9_29) (by decide) (by decide) (v := (.int w2)) rfl (pc' := 30) rfl ?_
          refine g_aloadN X hx (hb hby d9_30) rfl rfl (pc' := 31) rfl ?_
          refine g_iconst X hx (hb hby d9_31) (x := (0 : Int32)) (by decide) (pc' := 32) rfl ?_
          refine g_iaload X hx hZ eT A_g.2 (hb hby d9_32) (by decide) (by decide) (v := (.int w0)) rfl (pc' := 33) rfl ?_
          refine g_icmp X hx (hb hby d9_33) (by decide) (pc' := 40) (by decide) (pc2 := 36) rfl (fun hc => ?_) (fun hc => ?_)
          · replace hc := h_ne1 hc
            have hc33 := hc
            refine g_iconst X hx (hb hby d9_40) (x := (-1 : Int32)) (by decide) (pc' := 41) rfl ?_
            refine g_retI X hx hret hlk (hb hby d9_41) (by decide) (by decide) ?_
            rw [eT]
            refine ⟨?_, N, eh⟩
            simp +decide [expA, hc1, hc6, hc15, hc24, hc33]
          · replace hc := h_ne0 hc
            have hc33 := hc
            refine g_aloadN X hx (hb hby d9_36) rfl rfl (pc' := 37) rfl ?_
            refine g_iconst X hx (hb hby d9_37) (x := (2 : Int32)) (by decide) (pc' := 38) rfl ?_
            refine g_iaload X hx hZ eT A_r.2 (hb hby d9_38) (by decide) (by decide) (v := (.int r2)) rfl (pc' := 39) rfl ?_
            refine g_retI X hx hret hlk (hb hby d9_39) (by decide) (by decide) ?_
            rw [eT]
            refine ⟨?_, N, eh⟩
            simp +decide [expA, hc1, hc6, hc15, hc24, hc33]
      · replace hc := h_ne0 hc
        have hc15 := hc
        refine g_aloadN X hx (hb hby d9_18) rfl rfl (pc' := 19) rfl ?_
        refine g_iconst X hx (hb hby d9_19) (x := (1 : Int32)) (by decide) (pc' := 20) rfl ?_
        refine g_iaload X hx hZ eT A_r.2 (hb hby d9_20) (by decide) (by decide) (v := (.int r1)) rfl (pc' := 21) rfl ?_
        refine g_retI X hx hret hlk (hb hby d9_21) (by decide) (by decide) ?_
        rw [eT]
        refine ⟨?_, N, eh⟩
        simp +decide [expA, hc1, hc6, hc15]
theorem pl_0 : plainFor x = true := plainFor_of_name (by first | (simp [plainName, overriddenIn, x]; done) | decide +kernel)
theorem ef_rm0 (m : MethodId) (z0 : Int32) (z1 : Int32) (z2 : Int32) (z3 : Int32) (z4 : Int32) : entryFrame m #[(.int z0), (.int z1), (.int z2), (.int z3), (.int z4)] maxLocals = mkF m 0 #[.val (.int z0), .val (.int z1), .val (.int z2), .val (.int z3), .val (.int z4), .unset, .unset, .unset, .unset, .unset, .unset, .unset] [] := by first | (simp [entryFrame, mkF, argsToLocals, Value.category, maxLocals]; done) | rfl
set_option maxRecDepth 65536 in
set_option maxHeartbeats 40000000 in
theorem rm0 (l : Launch) (Z : State) (a0 : Array Value) (hw : ∀ d ∈ tables_1, d.before a0 Z = true) (p0 : Int32) (p1 : Int32) (p2 : Int32) (p3 : Int32) (p4 : Int32) (h0 : Heap) (n0 : Nat) (Zn : n0 ≤ h0.size)   :
    WCt l Z x code maxLocals ret room_1 #[(.int p0), (.int p1), (.int p2), (.int p3), (.int p4)] h0 (fun vv hh LL => (vv = some (.int (1 : Int32))) ∧ (Fr n0 LL)) := by
  refine WCt.of pl_0 ?_
  intro p e s m below meth c T hx hby hml hown hnm hret hlk hZ hh0 X eT
  have hown : s.vm.findClass "com/example/storewatch/storewatch/check/ReadersEnterPinLaw" = some m.cls := hown
  have hnm : meth.name = "law" := hnm
  have N := Fr.nil n0
  obtain ⟨h, eh⟩ : ∃ h, h = h0 := ⟨_, rfl⟩
  refine WGo.cast (ef_rm0 m p0 p1 p2 p3 p4) ?_
  rw [← eh] at eT Zn 
  refine g_iloadN X hx (hb hby at_0) rfl (pc' := 1) rfl ?_
  refine g_ldcI X hx hZ hown (hw _ (List.mem_of_getElem? (i := 0) rfl)) (hb hby at_1) (pc' := 3) rfl ?_
  refine g_iand X hx (hb hby at_3) (pc' := 4) rfl ?_
  refine g_iconst X hx (hb hby at_4) (x := (4 : Int32)) (by decide) (pc' := 5) rfl ?_
  refine g_irem X hx (hb hby at_5) (by decide) (pc' := 6) rfl ?_
  obtain ⟨nn, hnn, pnn⟩ : ∃ z : Int32, z = ((p1 &&& (2147483647 : Int32)) % (4 : Int32)) ∧ z ∈ ([0, 1, 2, 3] : List Int32) := ⟨_, rfl, n_in _⟩
  rw [← hnn]
  refine g_istore X hx (hb hby at_6) (Ls' := #[.val (.int p0), .val (.int p1), .val (.int p2), .val (.int p3), .val (.int p4), .val (.int nn), .unset, .unset, .unset, .unset, .unset, .unset]) rfl (pc' := 8) rfl ?_
  refine g_iloadN X hx (hb hby at_8) rfl (pc' := 9) rfl ?_
  refine g_ldcI X hx hZ hown (hw _ (List.mem_of_getElem? (i := 0) rfl)) (hb hby at_9) (pc' := 11) rfl ?_
  refine g_iand X hx (hb hby at_11) (pc' := 12) rfl ?_
  refine g_bipush X hx (hb hby at_12) (x := (6 : Int32)) (by decide) (pc' := 14) rfl ?_
  refine g_irem X hx (hb hby at_14) (by decide) (pc' := 15) rfl ?_
  obtain ⟨pp, hpp, ppp⟩ : ∃ z : Int32, z = ((p0 &&& (2147483647 : Int32)) % (6 : Int32)) ∧ z ∈ ([0, 1, 2, 3, 4, 5] : List Int32) := ⟨_, rfl, p_in _⟩
  rw [← hpp]
  refine g_istore X hx (hb hby at_15) (Ls' := #[.val (.int p0), .val (.int p1), .val (.int p2), .val (.int p3), .val (.int p4), .val (.int nn), .val (.int pp), .unset, .unset, .unset, .unset, .unset]) rfl (pc' := 17) rfl ?_
  refine g_bipush X hx (hb hby at_17) (x := (6 : Int32)) (by decide) (pc' := 19) rfl ?_
  refine g_newRA (cap := 6) (ty := .int) (C := "[I") (ad := "[[I") X hx hZ hown (by decide) (hw _ (List.mem_of_getElem? (i := 1) rfl)) (hw _ (List.mem_of_getElem? (i := 2) rfl)) eT (hb hby at_19) (by decide) (by decide) (by decide) (by decide) (by decide) (by decide) (pc' := 22) rfl (fun T h ou ha X eT Ex A_ou E_ou hOv => ?_)
  have g_ou : n0 ≤ ou := by rw [ha]; exact Zn
  replace Zn := Nat.le_trans Zn Ex.1
  replace A_ou : Ai Z h ou (.array .int) 6 (fun _ => .null) := A_ou
  refine g_dup X hx (hb hby at_22) rfl (pc' := 23) rfl ?_
  refine g_iconst X hx (hb hby at_23) (x := (0 : Int32)) (by decide) (pc' := 24) rfl ?_
  refine g_iconst X hx (hb hby at_24) (x := (3 : Int32)) (by decide) (pc' := 25) rfl ?_
  refine g_newPE (cap := 3) (ad := "[I") X hx hZ (hw _ (List.mem_of_getElem? (i := 3) rfl)) eT (hb hby at_25) (by decide) (by decide) (by decide) (by decide) (by decide) (by decide) (pc' := 27) rfl (fun T h v0 ha X eT Ex A_v0 E_v0 => ?_)
  have g_v0 : n0 ≤ v0 := by rw [ha]; exact Zn
  have ne_ou_v0 : ou ≠ v0 := by rw [ha]; exact Nat.ne_of_lt E_ou.lt
  replace E_ou := E_ou.ext Ex
  replace A_ou := A_ou.ext Ex
  replace Zn := Nat.le_trans Zn Ex.1
  replace A_v0 : Al Z h v0 .int 3 [0, 0, 0] := Al.new A_v0
  refine g_dup X hx (hb hby at_27) rfl (pc' := 28) rfl ?_
  refine g_iconst X hx (hb hby at_28) (x := (0 : Int32)) (by decide) (pc' := 29) rfl ?_
  refine g_iconst X hx (hb hby at_29) (x := (0 : Int32)) (by decide) (pc' := 30) rfl ?_
  refine g_iastore X hx hZ eT A_v0.2 (hb hby at_30) (by decide) (by decide) (pc' := 31) rfl (fun T h X eT W A' => ?_)
  replace E_ou := E_ou.wr W
  replace E_v0 := E_v0.wr W
  replace A_ou := A_ou.other W ne_ou_v0
  replace N := Fr.snoc X N g_v0
  replace Zn := Nat.le_trans Zn (Nat.le_of_eq W.size.symm)
  replace A_v0 : Al Z h v0 .int 3 [(0 : Int32), (0 : Int32), (0 : Int32)] := A_v0.set A'
  refine g_dup X hx (hb hby at_31) rfl (pc' := 32) rfl ?_
  refine g_iconst X hx (hb hby at_32) (x := (1 : Int32)) (by decide) (pc' := 33) rfl ?_
  refine g_iconst X hx (hb hby at_33) (x := (1 : Int32)) (by decide) (pc' := 34) rfl ?_
  refine g_iastore X hx hZ eT A_v0.2 (hb hby at_34) (by decide) (by decide) (pc' := 35) rfl (fun T h X eT W A' => ?_)
  replace E_ou := E_ou.wr W
  replace E_v0 := E_v0.wr W
  replace A_ou := A_ou.other W ne_ou_v0
  replace N := Fr.snoc X N g_v0
  replace Zn := Nat.le_trans Zn (Nat.le_of_eq W.size.symm)
  replace A_v0 : Al Z h v0 .int 3 [(0 : Int32), (1 : Int32), (0 : Int32)] := A_v0.set A'
  refine g_dup X hx (hb hby at_35) rfl (pc' := 36) rfl ?_
  refine g_iconst X hx (hb hby at_36) (x := (2 : Int32)) (by decide) (pc' := 37) rfl ?_
  refine g_iconst X hx (hb hby at_37) (x := (2 : Int32)) (by decide) (pc' := 38) rfl ?_
  refine g_iastore X hx hZ eT A_v0.2 (hb hby at_38) (by decide) (by decide) (pc' := 39) rfl (fun T h X eT W A' => ?_)
  replace E_ou := E_ou.wr W
  replace E_v0 := E_v0.wr W
  replace A_ou := A_ou.other W ne_ou_v0
  replace N := Fr.snoc X N g_v0
  replace Zn := Nat.le_trans Zn (Nat.le_of_eq W.size.symm)
  replace A_v0 : Al Z h v0 .int 3 [(0 : Int32), (1 : Int32), (2 : Int32)] := A_v0.set A'
  refine g_aastore X hx hZ eT rfl (own_sto A_ou E_ou hOv (Ins.self E_v0)) A_ou (hb hby at_39) (by decide) (by decide) (pc' := 40) rfl (fun T h X eT W A' => ?_)
  replace E_ou := E_ou.wr W
  replace E_v0 := E_v0.wr W
  replace A_v0 := A_v0.other W (Ne.symm ne_ou_v0)
  replace N := Fr.snoc X N g_ou
  replace Zn := Nat.le_trans Zn (Nat.le_of_eq W.size.symm)
  have A_ou := A'
  refine g_dup X hx (hb hby at_40) rfl (pc' := 41) rfl ?_
  refine g_iconst X hx (hb hby at_41) (x := (1 : Int32)) (by decide) (pc' := 42) rfl ?_
  refine g_iconst X hx (hb hby at_42) (x := (3 : Int32)) (by decide) (pc' := 43) rfl ?_
  refine g_newPE (cap := 3) (ad := "[I") X hx hZ (hw _ (List.mem_of_getElem? (i := 3) rfl)) eT (hb hby at_43) (by decide) (by decide) (by decide) (by decide) (by decide) (by decide) (pc' := 45) rfl (fun T h v1 ha X eT Ex A_v1 E_v1 => ?_)
  have g_v1 : n0 ≤ v1 := by rw [ha]; exact Zn
  have ne_ou_v1 : ou ≠ v1 := by rw [ha]; exact Nat.ne_of_lt E_ou.lt
  have ne_v0_v1 : v0 ≠ v1 := by rw [ha]; exact Nat.ne_of_lt E_v0.lt
  replace E_ou := E_ou.ext Ex
  replace E_v0 := E_v0.ext Ex
  replace A_ou := A_ou.ext Ex
  replace A_v0 := A_v0.ext Ex
  replace Zn := Nat.le_trans Zn Ex.1
  replace A_v1 : Al Z h v1 .int 3 [0, 0, 0] := Al.new A_v1
  refine g_dup X hx (hb hby at_45) rfl (pc' := 46) rfl ?_
  refine g_iconst X hx (hb hby at_46) (x := (0 : Int32)) (by decide) (pc' := 47) rfl ?_
  refine g_iconst X hx (hb hby at_47) (x := (0 : Int32)) (by decide) (pc' := 48) rfl ?_
  refine g_iastore X hx hZ eT A_v1.2 (hb hby at_48) (by decide) (by decide) (pc' := 49) rfl (fun T h X eT W A' => ?_)
  replace E_ou := E_ou.wr W
  replace E_v0 := E_v0.wr W
  replace E_v1 := E_v1.wr W
  replace A_ou := A_ou.other W ne_ou_v1
  replace A_v0 := A_v0.other W ne_v0_v1
  replace N := Fr.snoc X N g_v1
  replace Zn := Nat.le_trans Zn (Nat.le_of_eq W.size.symm)
  replace A_v1 : Al Z h v1 .int 3 [(0 : Int32), (0 : Int32), (0 : Int32)] := A_v1.set A'
  refine g_dup X hx (hb hby at_49) rfl (pc' := 50) rfl ?_
  refine g_iconst X hx (hb hby at_50) (x := (1 : Int32)) (by decide) (pc' := 51) rfl ?_
  refine g_iconst X hx (hb hby at_51) (x := (2 : Int32)) (by decide) (pc' := 52) rfl ?_
  refine g_iastore X hx hZ eT A_v1.2 (hb hby at_52) (by decide) (by decide) (pc' := 53) rfl (fun T h X eT W A' => ?_)
  replace E_ou := E_ou.wr W
  replace E_v0 := E_v0.wr W
  replace E_v1 := E_v1.wr W
  replace A_ou := A_ou.other W ne_ou_v1
  replace A_v0 := A_v0.other W ne_v0_v1
  replace N := Fr.snoc X N g_v1
  replace Zn := Nat.le_trans Zn (Nat.le_of_eq W.size.symm)
  replace A_v1 : Al Z h v1 .int 3 [(0 : Int32), (2 : Int32), (0 : Int32)] := A_v1.set A'
  refine g_dup X hx (hb hby at_53) rfl (pc' := 54) rfl ?_
  refine g_iconst X hx (hb hby at_54) (x := (2 : Int32)) (by decide) (pc' := 55) rfl ?_
  refine g_iconst X hx (hb hby at_55) (x := (1 : Int32)) (by decide) (pc' := 56) rfl ?_
  refine g_iastore X hx hZ eT A_v1.2 (hb hby at_56) (by decide) (by decide) (pc' := 57) rfl (fun T h X eT W A' => ?_)
  replace E_ou := E_ou.wr W
  replace E_v0 := E_v0.wr W
  replace E_v1 := E_v1.wr W
  replace A_ou := A_ou.other W ne_ou_v1
  replace A_v0 := A_v0.other W ne_v0_v1
  replace N := Fr.snoc X N g_v1
  replace Zn := Nat.le_trans Zn (Nat.le_of_eq W.size.symm)
  replace A_v1 : Al Z h v1 .int 3 [(0 : Int32), (2 : Int32), (1 : Int32)] := A_v1.set A'
  refine g_aastore X hx hZ eT rfl (own_sto A_ou E_ou hOv (Ins.self E_v1)) A_ou (hb hby at_57) (by decide) (by decide) (pc' := 58) rfl (fun T h X eT W A' => ?_)
  replace E_ou := E_ou.wr W
  replace E_v0 := E_v0.wr W
  replace E_v1 := E_v1.wr W
  replace A_v0 := A_v0.other W (Ne.symm ne_ou_v0)
  replace A_v1 := A_v1.other W (Ne.symm ne_ou_v1)
  replace N := Fr.snoc X N g_ou
  replace Zn := Nat.le_trans Zn (Nat.le_of_eq W.size.symm)
  have A_ou := A'
  refine g_dup X hx (hb hby at_58) rfl (pc' := 59) rfl ?_
  refine g_iconst X hx (hb hby at_59) (x := (2 : Int32)) (by decide) (pc' := 60) rfl ?_
  refine g_iconst X hx (hb hby at_60) (x := (3 : Int32)) (by decide) (pc' := 61) rfl ?_
  refine g_newPE (cap := 3) (ad := "[I") X hx hZ (hw _ (List.mem_of_getElem? (i := 3) rfl)) eT (hb hby at_61) (by decide) (by decide) (by decide) (by decide) (by decide) (by decide) (pc' := 63) rfl (fun T h v2 ha X eT Ex A_v2 E_v2 => ?_)
  have g_v2 : n0 ≤ v2 := by rw [ha]; exact Zn
  have ne_ou_v2 : ou ≠ v2 := by rw [ha]; exact Nat.ne_of_lt E_ou.lt
  have ne_v0_v2 : v0 ≠ v2 := by rw [ha]; exact Nat.ne_of_lt E_v0.lt
  have ne_v1_v2 : v1 ≠ v2 := by rw [ha]; exact Nat.ne_of_lt E_v1.lt
  replace E_ou := E_ou.ext Ex
  replace E_v0 := E_v0.ext Ex
  replace E_v1 := E_v1.ext Ex
  replace A_ou := A_ou.ext Ex
  replace A_v0 := A_v0.ext Ex
  replace A_v1 := A_v1.ext Ex
  replace Zn := Nat.le_trans Zn Ex.1
  replace A_v2 : Al Z h v2 .int 3 [0, 0, 0] := Al.new A_v2
  refine g_dup X hx (hb hby at_63) rfl (pc' := 64) rfl ?_
  refine g_iconst X hx (hb hby at_64) (x := (0 : Int32)) (by decide) (pc' := 65) rfl ?_
  refine g_iconst X hx (hb hby at_65) (x := (1 : Int32)) (by decide) (pc' := 66) rfl ?_
  refine g_iastore X hx hZ eT A_v2.2 (hb hby at_66) (by decide) (by decide) (pc' := 67) rfl (fun T h X eT W A' => ?_)
  replace E_ou := E_ou.wr W
  replace E_v0 := E_v0.wr W
  replace E_v1 := E_v1.wr W
  replace E_v2 := E_v2.wr W
  replace A_ou := A_ou.other W ne_ou_v2
  replace A_v0 := A_v0.other W ne_v0_v2
  replace A_v1 := A_v1.other W ne_v1_v2
  replace N := Fr.snoc X N g_v2
  replace Zn := Nat.le_trans Zn (Nat.le_of_eq W.size.symm)
  replace A_v2 : Al Z h v2 .int 3 [(1 : Int32), (0 : Int32), (0 : Int32)] := A_v2.set A'
  refine g_dup X hx (hb hby at_67) rfl (pc' := 68) rfl ?_
  refine g_iconst X hx (hb hby at_68) (x := (1 : Int32)) (by decide) (pc' := 69) rfl ?_
  refine g_iconst X hx (hb hby at_69) (x := (0 : Int32)) (by decide) (pc' := 70) rfl ?_
  refine g_iastore X hx hZ eT A_v2.2 (hb hby at_70) (by decide) (by decide) (pc' := 71) rfl (fun T h X eT W A' => ?_)
  replace E_ou := E_ou.wr W
  replace E_v0 := E_v0.wr W
  replace E_v1 := E_v1.wr W
  replace E_v2 := E_v2.wr W
  replace A_ou := A_ou.other W ne_ou_v2
  replace A_v0 := A_v0.other W ne_v0_v2
  replace A_v1 := A_v1.other W ne_v1_v2
  replace N := Fr.snoc X N g_v2
  replace Zn := Nat.le_trans Zn (Nat.le_of_eq W.size.symm)
  replace A_v2 : Al Z h v2 .int 3 [(1 : Int32), (0 : Int32), (0 : Int32)] := A_v2.set A'
  refine g_dup X hx (hb hby at_71) rfl (pc' := 72) rfl ?_
  refine g_iconst X hx (hb hby at_72) (x := (2 : Int32)) (by decide) (pc' := 73) rfl ?_
  refine g_iconst X hx (hb hby at_73) (x := (2 : Int32)) (by decide) (pc' := 74) rfl ?_
  refine g_iastore X hx hZ eT A_v2.2 (hb hby at_74) (by decide) (by decide) (pc' := 75) rfl (fun T h X eT W A' => ?_)
  replace E_ou := E_ou.wr W
  replace E_v0 := E_v0.wr W
  replace E_v1 := E_v1.wr W
  replace E_v2 := E_v2.wr W
  replace A_ou := A_ou.other W ne_ou_v2
  replace A_v0 := A_v0.other W ne_v0_v2
  replace A_v1 := A_v1.other W ne_v1_v2
  replace N := Fr.snoc X N g_v2
  replace Zn := Nat.le_trans Zn (Nat.le_of_eq W.size.symm)
  replace A_v2 : Al Z h v2 .int 3 [(1 : Int32), (0 : Int32), (2 : Int32)] := A_v2.set A'
  refine g_aastore X hx hZ eT rfl (own_sto A_ou E_ou hOv (Ins.self E_v2)) A_ou (hb hby at_75) (by decide) (by decide) (pc' := 76) rfl (fun T h X eT W A' => ?_)
  replace E_ou := E_ou.wr W
  replace E_v0 := E_v0.wr W
  replace E_v1 := E_v1.wr W
  replace E_v2 := E_v2.wr W
  replace A_v0 := A_v0.other W (Ne.symm ne_ou_v0)
  replace A_v1 := A_v1.other W (Ne.symm ne_ou_v1)
  replace A_v2 := A_v2.other W (Ne.symm ne_ou_v2)
  replace N := Fr.snoc X N g_ou
  replace Zn := Nat.le_trans Zn (Nat.le_of_eq W.size.symm)
  have A_ou := A'
  refine g_dup X hx (hb hby at_76) rfl (pc' := 77) rfl ?_
  refine g_iconst X hx (hb hby at_77) (x := (3 : Int32)) (by decide) (pc' := 78) rfl ?_
  refine g_iconst X hx (hb hby at_78) (x := (3 : Int32)) (by decide) (pc' := 79) rfl ?_
  refine g_newPE (cap := 3) (ad := "[I") X hx hZ (hw _ (List.mem_of_getElem? (i := 3) rfl)) eT (hb hby at_79) (by decide) (by decide) (by decide) (by decide) (by decide) (by decide) (pc' := 81) rfl (fun T h v3 ha X eT Ex A_v3 E_v3 => ?_)
  have g_v3 : n0 ≤ v3 := by rw [ha]; exact Zn
  have ne_ou_v3 : ou ≠ v3 := by rw [ha]; exact Nat.ne_of_lt E_ou.lt
  have ne_v0_v3 : v0 ≠ v3 := by rw [ha]; exact Nat.ne_of_lt E_v0.lt
  have ne_v1_v3 : v1 ≠ v3 := by rw [ha]; exact Nat.ne_of_lt E_v1.lt
  have ne_v2_v3 : v2 ≠ v3 := by rw [ha]; exact Nat.ne_of_lt E_v2.lt
  replace E_ou := E_ou.ext Ex
  replace E_v0 := E_v0.ext Ex
  replace E_v1 := E_v1.ext Ex
  replace E_v2 := E_v2.ext Ex
  replace A_ou := A_ou.ext Ex
  replace A_v0 := A_v0.ext Ex
  replace A_v1 := A_v1.ext Ex
  replace A_v2 := A_v2.ext Ex
  replace Zn := Nat.le_trans Zn Ex.1
  replace A_v3 : Al Z h v3 .int 3 [0, 0, 0] := Al.new A_v3
  refine g_dup X hx (hb hby at_81) rfl (pc' := 82) rfl ?_
  refine g_iconst X hx (hb hby at_82) (x := (0 : Int32)) (by decide) (pc' := 83) rfl ?_
  refine g_iconst X hx (hb hby at_83) (x := (1 : Int32)) (by decide) (pc' := 84) rfl ?_
  refine g_iastore X hx hZ eT A_v3.2 (hb hby at_84) (by decide) (by decide) (pc' := 85) rfl (fun T h X eT W A' => ?_)
  replace E_ou := E_ou.wr W
  replace E_v0 := E_v0.wr W
  replace E_v1 := E_v1.wr W
  replace E_v2 := E_v2.wr W
  replace E_v3 := E_v3.wr W
  replace A_ou := A_ou.other W ne_ou_v3
  replace A_v0 := A_v0.other W ne_v0_v3
  replace A_v1 := A_v1.other W ne_v1_v3
  replace A_v2 := A_v2.other W ne_v2_v3
  replace N := Fr.snoc X N g_v3
  replace Zn := Nat.le_trans Zn (Nat.le_of_eq W.size.symm)
  replace A_v3 : Al Z h v3 .int 3 [(1 : Int32), (0 : Int32), (0 : Int32)] := A_v3.set A'
  refine g_dup X hx (hb hby at_85) rfl (pc' := 86) rfl ?_
  refine g_iconst X hx (hb hby at_86) (x := (1 : Int32)) (by decide) (pc' := 87) rfl ?_
  refine g_iconst X hx (hb hby at_87) (x := (2 : Int32)) (by decide) (pc' := 88) rfl ?_
  refine g_iastore X hx hZ eT A_v3.2 (hb hby at_88) (by decide) (by decide) (pc' := 89) rfl (fun T h X eT W A' => ?_)
  replace E_ou := E_ou.wr W
  replace E_v0 := E_v0.wr W
  replace E_v1 := E_v1.wr W
  replace E_v2 := E_v2.wr W
  replace E_v3 := E_v3.wr W
  replace A_ou := A_ou.other W ne_ou_v3
  replace A_v0 := A_v0.other W ne_v0_v3
  replace A_v1 := A_v1.other W ne_v1_v3
  replace A_v2 := A_v2.other W ne_v2_v3
  replace N := Fr.snoc X N g_v3
  replace Zn := Nat.le_trans Zn (Nat.le_of_eq W.size.symm)
  replace A_v3 : Al Z h v3 .int 3 [(1 : Int32), (2 : Int32), (0 : Int32)] := A_v3.set A'
  refine g_dup X hx (hb hby at_89) rfl (pc' := 90) rfl ?_
  refine g_iconst X hx (hb hby at_90) (x := (2 : Int32)) (by decide) (pc' := 91) rfl ?_
  refine g_iconst X hx (hb hby at_91) (x := (0 : Int32)) (by decide) (pc' := 92) rfl ?_
  refine g_iastore X hx hZ eT A_v3.2 (hb hby at_92) (by decide) (by decide) (pc' := 93) rfl (fun T h X eT W A' => ?_)
  replace E_ou := E_ou.wr W
  replace E_v0 := E_v0.wr W
  replace E_v1 := E_v1.wr W
  replace E_v2 := E_v2.wr W
  replace E_v3 := E_v3.wr W
  replace A_ou := A_ou.other W ne_ou_v3
  replace A_v0 := A_v0.other W ne_v0_v3
  replace A_v1 := A_v1.other W ne_v1_v3
  replace A_v2 := A_v2.other W ne_v2_v3
  replace N := Fr.snoc X N g_v3
  replace Zn := Nat.le_trans Zn (Nat.le_of_eq W.size.symm)
  replace A_v3 : Al Z h v3 .int 3 [(1 : Int32), (2 : Int32), (0 : Int32)] := A_v3.set A'
  refine g_aastore X hx hZ eT rfl (own_sto A_ou E_ou hOv (Ins.self E_v3)) A_ou (hb hby at_93) (by decide) (by decide) (pc' := 94) rfl (fun T h X eT W A' => ?_)
  replace E_ou := E_ou.wr W
  replace E_v0 := E_v0.wr W
  replace E_v1 := E_v1.wr W
  replace E_v2 := E_v2.wr W
  replace E_v3 := E_v3.wr W
  replace A_v0 := A_v0.other W (Ne.symm ne_ou_v0)
  replace A_v1 := A_v1.other W (Ne.symm ne_ou_v1)
  replace A_v2 := A_v2.other W (Ne.symm ne_ou_v2)
  replace A_v3 := A_v3.other W (Ne.symm ne_ou_v3)
  replace N := Fr.snoc X N g_ou
  replace Zn := Nat.le_trans Zn (Nat.le_of_eq W.size.symm)
  have A_ou := A'
  refine g_dup X hx (hb hby at_94) rfl (pc' := 95) rfl ?_
  refine g_iconst X hx (hb hby at_95) (x := (4 : Int32)) (by decide) (pc' := 96) rfl ?_
  refine g_iconst X hx (hb hby at_96) (x := (3 : Int32)) (by decide) (pc' := 97) rfl ?_
  refine g_newPE (cap := 3) (ad := "[I") X hx hZ (hw _ (List.mem_of_getElem? (i := 3) rfl)) eT (hb hby at_97) (by decide) (by decide) (by decide) (by decide) (by decide) (by decide) (pc' := 99) rfl (fun T h v4 ha X eT Ex A_v4 E_v4 => ?_)
  have g_v4 : n0 ≤ v4 := by rw [ha]; exact Zn
  have ne_ou_v4 : ou ≠ v4 := by rw [ha]; exact Nat.ne_of_lt E_ou.lt
  have ne_v0_v4 : v0 ≠ v4 := by rw [ha]; exact Nat.ne_of_lt E_v0.lt
  have ne_v1_v4 : v1 ≠ v4 := by rw [ha]; exact Nat.ne_of_lt E_v1.lt
  have ne_v2_v4 : v2 ≠ v4 := by rw [ha]; exact Nat.ne_of_lt E_v2.lt
  have ne_v3_v4 : v3 ≠ v4 := by rw [ha]; exact Nat.ne_of_lt E_v3.lt
  replace E_ou := E_ou.ext Ex
  replace E_v0 := E_v0.ext Ex
  replace E_v1 := E_v1.ext Ex
  replace E_v2 := E_v2.ext Ex
  replace E_v3 := E_v3.ext Ex
  replace A_ou := A_ou.ext Ex
  replace A_v0 := A_v0.ext Ex
  replace A_v1 := A_v1.ext Ex
  replace A_v2 := A_v2.ext Ex
  replace A_v3 := A_v3.ext Ex
  replace Zn := Nat.le_trans Zn Ex.1
  replace A_v4 : Al Z h v4 .int 3 [0, 0, 0] := Al.new A_v4
  refine g_dup X hx (hb hby at_99) rfl (pc' := 100) rfl ?_
  refine g_iconst X hx (hb hby at_100) (x := (0 : Int32)) (by decide) (pc' := 101) rfl ?_
  refine g_iconst X hx (hb hby at_101) (x := (2 : Int32)) (by decide) (pc' := 102) rfl ?_
  refine g_iastore X hx hZ eT A_v4.2 (hb hby at_102) (by decide) (by decide) (pc' := 103) rfl (fun T h X eT W A' => ?_)
  replace E_ou := E_ou.wr W
  replace E_v0 := E_v0.wr W
  replace E_v1 := E_v1.wr W
  replace E_v2 := E_v2.wr W
  replace E_v3 := E_v3.wr W
  replace E_v4 := E_v4.wr W
  replace A_ou := A_ou.other W ne_ou_v4
  replace A_v0 := A_v0.other W ne_v0_v4
  replace A_v1 := A_v1.other W ne_v1_v4
  replace A_v2 := A_v2.other W ne_v2_v4
  replace A_v3 := A_v3.other W ne_v3_v4
  replace N := Fr.snoc X N g_v4
  replace Zn := Nat.le_trans Zn (Nat.le_of_eq W.size.symm)
  replace A_v4 : Al Z h v4 .int 3 [(2 : Int32), (0 : Int32), (0 : Int32)] := A_v4.set A'
  refine g_dup X hx (hb hby at_103) rfl (pc' := 104) rfl ?_
  refine g_iconst X hx (hb hby at_104) (x := (1 : Int32)) (by decide) (pc' := 105) rfl ?_
  refine g_iconst X hx (hb hby at_105) (x := (0 : Int32)) (by decide) (pc' := 106) rfl ?_
  refine g_iastore X hx hZ eT A_v4.2 (hb hby at_106) (by decide) (by decide) (pc' := 107) rfl (fun T h X eT W A' => ?_)
  replace E_ou := E_ou.wr W
  replace E_v0 := E_v0.wr W
  replace E_v1 := E_v1.wr W
  replace E_v2 := E_v2.wr W
  replace E_v3 := E_v3.wr W
  replace E_v4 := E_v4.wr W
  replace A_ou := A_ou.other W ne_ou_v4
  replace A_v0 := A_v0.other W ne_v0_v4
  replace A_v1 := A_v1.other W ne_v1_v4
  replace A_v2 := A_v2.other W ne_v2_v4
  replace A_v3 := A_v3.other W ne_v3_v4
  replace N := Fr.snoc X N g_v4
  replace Zn := Nat.le_trans Zn (Nat.le_of_eq W.size.symm)
  replace A_v4 : Al Z h v4 .int 3 [(2 : Int32), (0 : Int32), (0 : Int32)] := A_v4.set A'
  refine g_dup X hx (hb hby at_107) rfl (pc' := 108) rfl ?_
  refine g_iconst X hx (hb hby at_108) (x := (2 : Int32)) (by decide) (pc' := 109) rfl ?_
  refine g_iconst X hx (hb hby at_109) (x := (1 : Int32)) (by decide) (pc' := 110) rfl ?_
  refine g_iastore X hx hZ eT A_v4.2 (hb hby at_110) (by decide) (by decide) (pc' := 111) rfl (fun T h X eT W A' => ?_)
  replace E_ou := E_ou.wr W
  replace E_v0 := E_v0.wr W
  replace E_v1 := E_v1.wr W
  replace E_v2 := E_v2.wr W
  replace E_v3 := E_v3.wr W
  replace E_v4 := E_v4.wr W
  replace A_ou := A_ou.other W ne_ou_v4
  replace A_v0 := A_v0.other W ne_v0_v4
  replace A_v1 := A_v1.other W ne_v1_v4
  replace A_v2 := A_v2.other W ne_v2_v4
  replace A_v3 := A_v3.other W ne_v3_v4
  replace N := Fr.snoc X N g_v4
  replace Zn := Nat.le_trans Zn (Nat.le_of_eq W.size.symm)
  replace A_v4 : Al Z h v4 .int 3 [(2 : Int32), (0 : Int32), (1 : Int32)] := A_v4.set A'
  refine g_aastore X hx hZ eT rfl (own_sto A_ou E_ou hOv (Ins.self E_v4)) A_ou (hb hby at_111) (by decide) (by decide) (pc' := 112) rfl (fun T h X eT W A' => ?_)
  replace E_ou := E_ou.wr W
  replace E_v0 := E_v0.wr W
  replace E_v1 := E_v1.wr W
  replace E_v2 := E_v2.wr W
  replace E_v3 := E_v3.wr W
  replace E_v4 := E_v4.wr W
  replace A_v0 := A_v0.other W (Ne.symm ne_ou_v0)
  replace A_v1 := A_v1.other W (Ne.symm ne_ou_v1)
  replace A_v2 := A_v2.other W (Ne.symm ne_ou_v2)
  replace A_v3 := A_v3.other W (Ne.symm ne_ou_v3)
  replace A_v4 := A_v4.other W (Ne.symm ne_ou_v4)
  replace N := Fr.snoc X N g_ou
  replace Zn := Nat.le_trans Zn (Nat.le_of_eq W.size.symm)
  have A_ou := A'
  refine g_dup X hx (hb hby at_112) rfl (pc' := 113) rfl ?_
  refine g_iconst X hx (hb hby at_113) (x := (5 : Int32)) (by decide) (pc' := 114) rfl ?_
  refine g_iconst X hx (hb hby at_114) (x := (3 : Int32)) (by decide) (pc' := 115) rfl ?_
  refine g_newPE (cap := 3) (ad := "[I") X hx hZ (hw _ (List.mem_of_getElem? (i := 3) rfl)) eT (hb hby at_115) (by decide) (by decide) (by decide) (by decide) (by decide) (by decide) (pc' := 117) rfl (fun T h v5 ha X eT Ex A_v5 E_v5 => ?_)
  have g_v5 : n0 ≤ v5 := by rw [ha]; exact Zn
  have ne_ou_v5 : ou ≠ v5 := by rw [ha]; exact Nat.ne_of_lt E_ou.lt
  have ne_v0_v5 : v0 ≠ v5 := by rw [ha]; exact Nat.ne_of_lt E_v0.lt
  have ne_v1_v5 : v1 ≠ v5 := by rw [ha]; exact Nat.ne_of_lt E_v1.lt
  have ne_v2_v5 : v2 ≠ v5 := by rw [ha]; exact Nat.ne_of_lt E_v2.lt
  have ne_v3_v5 : v3 ≠ v5 := by rw [ha]; exact Nat.ne_of_lt E_v3.lt
  have ne_v4_v5 : v4 ≠ v5 := by rw [ha]; exact Nat.ne_of_lt E_v4.lt
  replace E_ou := E_ou.ext Ex
  replace E_v0 := E_v0.ext Ex
  replace E_v1 := E_v1.ext Ex
  replace E_v2 := E_v2.ext Ex
  replace E_v3 := E_v3.ext Ex
  replace E_v4 := E_v4.ext Ex
  replace A_ou := A_ou.ext Ex
  replace A_v0 := A_v0.ext Ex
  replace A_v1 := A_v1.ext Ex
  replace A_v2 := A_v2.ext Ex
  replace A_v3 := A_v3.ext Ex
  replace A_v4 := A_v4.ext Ex
  replace Zn := Nat.le_trans Zn Ex.1
  replace A_v5 : Al Z h v5 .int 3 [0, 0, 0] := Al.new A_v5
  refine g_dup X hx (hb hby at_117) rfl (pc' := 118) rfl ?_
  refine g_iconst X hx (hb hby at_118) (x := (0 : Int32)) (by decide) (pc' := 119) rfl ?_
  refine g_iconst X hx (hb hby at_119) (x := (2 : Int32)) (by decide) (pc' := 120) rfl ?_
  refine g_iastore X hx hZ eT A_v5.2 (hb hby at_120) (by decide) (by decide) (pc' := 121) rfl (fun T h X eT W A' => ?_)
  replace E_ou := E_ou.wr W
  replace E_v0 := E_v0.wr W
  replace E_v1 := E_v1.wr W
  replace E_v2 := E_v2.wr W
  replace E_v3 := E_v3.wr W
  replace E_v4 := E_v4.wr W
  replace E_v5 := E_v5.wr W
  replace A_ou := A_ou.other W ne_ou_v5
  replace A_v0 := A_v0.other W ne_v0_v5
  replace A_v1 := A_v1.other W ne_v1_v5
  replace A_v2 := A_v2.other W ne_v2_v5
  replace A_v3 := A_v3.other W ne_v3_v5
  replace A_v4 := A_v4.other W ne_v4_v5
  replace N := Fr.snoc X N g_v5
  replace Zn := Nat.le_trans Zn (Nat.le_of_eq W.size.symm)
  replace A_v5 : Al Z h v5 .int 3 [(2 : Int32), (0 : Int32), (0 : Int32)] := A_v5.set A'
  refine g_dup X hx (hb hby at_121) rfl (pc' := 122) rfl ?_
  refine g_iconst X hx (hb hby at_122) (x := (1 : Int32)) (by decide) (pc' := 123) rfl ?_
  refine g_iconst X hx (hb hby at_123) (x := (1 : Int32)) (by decide) (pc' := 124) rfl ?_
  refine g_iastore X hx hZ eT A_v5.2 (hb hby at_124) (by decide) (by decide) (pc' := 125) rfl (fun T h X eT W A' => ?_)
  replace E_ou := E_ou.wr W
  replace E_v0 := E_v0.wr W
  replace E_v1 := E_v1.wr W
  replace E_v2 := E_v2.wr W
  replace E_v3 := E_v3.wr W
  replace E_v4 := E_v4.wr W
  replace E_v5 := E_v5.wr W
  replace A_ou := A_ou.other W ne_ou_v5
  replace A_v0 := A_v0.other W ne_v0_v5
  replace A_v1 := A_v1.other W ne_v1_v5
  replace A_v2 := A_v2.other W ne_v2_v5
  replace A_v3 := A_v3.other W ne_v3_v5
  replace A_v4 := A_v4.other W ne_v4_v5
  replace N := Fr.snoc X N g_v5
  replace Zn := Nat.le_trans Zn (Nat.le_of_eq W.size.symm)
  replace A_v5 : Al Z h v5 .int 3 [(2 : Int32), (1 : Int32), (0 : Int32)] := A_v5.set A'
  refine g_dup X hx (hb hby at_125) rfl (pc' := 126) rfl ?_
  refine g_iconst X hx (hb hby at_126) (x := (2 : Int32)) (by decide) (pc' := 127) rfl ?_
  refine g_iconst X hx (hb hby at_127) (x := (0 : Int32)) (by decide) (pc' := 128) rfl ?_
  refine g_iastore X hx hZ eT A_v5.2 (hb hby at_128) (by decide) (by decide) (pc' := 129) rfl (fun T h X eT W A' => ?_)
  replace E_ou := E_ou.wr W
  replace E_v0 := E_v0.wr W
  replace E_v1 := E_v1.wr W
  replace E_v2 := E_v2.wr W
  replace E_v3 := E_v3.wr W
  replace E_v4 := E_v4.wr W
  replace E_v5 := E_v5.wr W
  replace A_ou := A_ou.other W ne_ou_v5
  replace A_v0 := A_v0.other W ne_v0_v5
  replace A_v1 := A_v1.other W ne_v1_v5
  replace A_v2 := A_v2.other W ne_v2_v5
  replace A_v3 := A_v3.other W ne_v3_v5
  replace A_v4 := A_v4.other W ne_v4_v5
  replace N := Fr.snoc X N g_v5
  replace Zn := Nat.le_trans Zn (Nat.le_of_eq W.size.symm)
  replace A_v5 : Al Z h v5 .int 3 [(2 : Int32), (1 : Int32), (0 : Int32)] := A_v5.set A'
  refine g_aastore X hx hZ eT rfl (own_sto A_ou E_ou hOv (Ins.self E_v5)) A_ou (hb hby at_129) (by decide) (by decide) (pc' := 130) rfl (fun T h X eT W A' => ?_)
  replace E_ou := E_ou.wr W
  replace E_v0 := E_v0.wr W
  replace E_v1 := E_v1.wr W
  replace E_v2 := E_v2.wr W
  replace E_v3 := E_v3.wr W
  replace E_v4 := E_v4.wr W
  replace E_v5 := E_v5.wr W
  replace A_v0 := A_v0.other W (Ne.symm ne_ou_v0)
  replace A_v1 := A_v1.other W (Ne.symm ne_ou_v1)
  replace A_v2 := A_v2.other W (Ne.symm ne_ou_v2)
  replace A_v3 := A_v3.other W (Ne.symm ne_ou_v3)
  replace A_v4 := A_v4.other W (Ne.symm ne_ou_v4)
  replace A_v5 := A_v5.other W (Ne.symm ne_ou_v5)
  replace N := Fr.snoc X N g_ou
  replace Zn := Nat.le_trans Zn (Nat.le_of_eq W.size.symm)
  have A_ou := A'
  refine g_astore X hx (hb hby at_130) rfl (Ls' := #[.val (.int p0), .val (.int p1), .val (.int p2), .val (.int p3), .val (.int p4), .val (.int nn), .val (.int pp), .val (.ref ou), .unset, .unset, .unset, .unset]) rfl (pc' := 132) rfl ?_
  refine g_join (J := fun z : Addr × Int32 × Int32 × Int32 => (mkF m 139 #[.val (.int p0), .val (.int p1), .val (.int p2), .val (.int p3), .val (.int p4), .val (.int nn), .val (.int pp), .val (.ref ou), .val (.ref (z.1)), .unset, .unset, .unset] [])) (P := fun z => Al Z h z.1 .int 3 [z.2.1, z.2.2.1, z.2.2.2] ∧ z.2 ∈ PERMS) (fun KK => ?_) (fun z hj => ?_)
  · simp only [List.mem_cons, List.not_mem_nil, or_false] at ppp
    rcases ppp with rfl | rfl | rfl | rfl | rfl | rfl
    · skip
      refine g_aload X hx (hb hby at_132) rfl rfl (pc' := 134) rfl ?_
      refine g_iload X hx (hb hby at_134) rfl (pc' := 136) rfl ?_
      refine g_aaload X hx hZ eT rfl A_ou (hb hby at_136) (by decide) (by decide) (v := (.ref v0)) rfl (pc' := 137) rfl ?_
      refine g_astore X hx (hb hby at_137) rfl (Ls' := #[.val (.int p0), .val (.int p1), .val (.int p2), .val (.int p3), .val (.int p4), .val (.int nn), .val (.int (0 : Int32)), .val (.ref ou), .val (.ref v0), .unset, .unset, .unset]) rfl (pc' := 139) rfl ?_
      exact KK (v0, 0, 1, 2) ⟨A_v0, (by decide : ((0, 1, 2) : Int32 × Int32 × Int32) ∈ PERMS)⟩
    · skip
      refine g_aload X hx (hb hby at_132) rfl rfl (pc' := 134) rfl ?_
      refine g_iload X hx (hb hby at_134) rfl (pc' := 136) rfl ?_
      refine g_aaload X hx hZ eT rfl A_ou (hb hby at_136) (by decide) (by decide) (v := (.ref v1)) rfl (pc' := 137) rfl ?_
      refine g_astore X hx (hb hby at_137) rfl (Ls' := #[.val (.int p0), .val (.int p1), .val (.int p2), .val (.int p3), .val (.int p4), .val (.int nn), .val (.int (1 : Int32)), .val (.ref ou), .val (.ref v1), .unset, .unset, .unset]) rfl (pc' := 139) rfl ?_
      exact KK (v1, 0, 2, 1) ⟨A_v1, (by decide : ((0, 2, 1) : Int32 × Int32 × Int32) ∈ PERMS)⟩
    · skip
      refine g_aload X hx (hb hby at_132) rfl rfl (pc' := 134) rfl ?_
      refine g_iload X hx (hb hby at_134) rfl (pc' := 136) rfl ?_
      refine g_aaload X hx hZ eT rfl A_ou (hb hby at_136) (by decide) (by decide) (v := (.ref v2)) rfl (pc' := 137) rfl ?_
      refine g_astore X hx (hb hby at_137) rfl (Ls' := #[.val (.int p0), .val (.int p1), .val (.int p2), .val (.int p3), .val (.int p4), .val (.int nn), .val (.int (2 : Int32)), .val (.ref ou), .val (.ref v2), .unset, .unset, .unset]) rfl (pc' := 139) rfl ?_
      exact KK (v2, 1, 0, 2) ⟨A_v2, (by decide : ((1, 0, 2) : Int32 × Int32 × Int32) ∈ PERMS)⟩
    · skip
      refine g_aload X hx (hb hby at_132) rfl rfl (pc' := 134) rfl ?_
      refine g_iload X hx (hb hby at_134) rfl (pc' := 136) rfl ?_
      refine g_aaload X hx hZ eT rfl A_ou (hb hby at_136) (by decide) (by decide) (v := (.ref v3)) rfl (pc' := 137) rfl ?_
      refine g_astore X hx (hb hby at_137) rfl (Ls' := #[.val (.int p0), .val (.int p1), .val (.int p2), .val (.int p3), .val (.int p4), .val (.int nn), .val (.int (3 : Int32)), .val (.ref ou), .val (.ref v3), .unset, .unset, .unset]) rfl (pc' := 139) rfl ?_
      exact KK (v3, 1, 2, 0) ⟨A_v3, (by decide : ((1, 2, 0) : Int32 × Int32 × Int32) ∈ PERMS)⟩
    · skip
      refine g_aload X hx (hb hby at_132) rfl rfl (pc' := 134) rfl ?_
      refine g_iload X hx (hb hby at_134) rfl (pc' := 136) rfl ?_
      refine g_aaload X hx hZ eT rfl A_ou (hb hby at_136) (by decide) (by decide) (v := (.ref v4)) rfl (pc' := 137) rfl ?_
      refine g_astore X hx (hb hby at_137) rfl (Ls' := #[.val (.int p0), .val (.int p1), .val (.int p2), .val (.int p3), .val (.int p4), .val (.int nn), .val (.int (4 : Int32)), .val (.ref ou), .val (.ref v4), .unset, .unset, .unset]) rfl (pc' := 139) rfl ?_
      exact KK (v4, 2, 0, 1) ⟨A_v4, (by decide : ((2, 0, 1) : Int32 × Int32 × Int32) ∈ PERMS)⟩
    · skip
      refine g_aload X hx (hb hby at_132) rfl rfl (pc' := 134) rfl ?_
      refine g_iload X hx (hb hby at_134) rfl (pc' := 136) rfl ?_
      refine g_aaload X hx hZ eT rfl A_ou (hb hby at_136) (by decide) (by decide) (v := (.ref v5)) rfl (pc' := 137) rfl ?_
      refine g_astore X hx (hb hby at_137) rfl (Ls' := #[.val (.int p0), .val (.int p1), .val (.int p2), .val (.int p3), .val (.int p4), .val (.int nn), .val (.int (5 : Int32)), .val (.ref ou), .val (.ref v5), .unset, .unset, .unset]) rfl (pc' := 139) rfl ?_
      exact KK (v5, 2, 1, 0) ⟨A_v5, (by decide : ((2, 1, 0) : Int32 × Int32 × Int32) ∈ PERMS)⟩
  · obtain ⟨r, r0, r1, r2⟩ := z
    obtain ⟨A_r, hR⟩ := hj
    have A_r : Al Z h r .int 3 [r0, r1, r2] := A_r
    have hR : (r0, r1, r2) ∈ PERMS := hR
    clear A_ou E_ou A_v0 E_v0 A_v1 E_v1 A_v2 E_v2 A_v3 E_v3 A_v4 E_v4 A_v5 E_v5
    obtain ⟨hR0, hR1, hR2⟩ := perm_in hR
    show WGo _ _ _ _ _ _ _ _ (mkF m 139 #[.val (.int p0), .val (.int p1), .val (.int p2), .val (.int p3), .val (.int p4), .val (.int nn), .val (.int pp), .val (.ref ou), .val (.ref r), .unset, .unset, .unset] [])
    refine g_iconst X hx (hb hby at_139) (x := (3 : Int32)) (by decide) (pc' := 140) rfl ?_
    refine g_newP (cap := 3) X hx hZ (hw _ (List.mem_of_getElem? (i := 3) rfl)) eT (hb hby at_140) (by decide) (by decide) (by decide) (by decide) (by decide) (pc' := 142) rfl (fun T h g ha X eT Ex A_g => ?_)
    have g_g : n0 ≤ g := by rw [ha]; exact Zn
    have ne_r_g : r ≠ g := by rw [ha]; exact Nat.ne_of_lt A_r.lt
    replace A_r := A_r.ext Ex
    replace Zn := Nat.le_trans Zn Ex.1
    replace A_g : Al Z h g .int 3 [0, 0, 0] := Al.new A_g
    refine g_dup X hx (hb hby at_142) rfl (pc' := 143) rfl ?_
    refine g_iconst X hx (hb hby at_143) (x := (0 : Int32)) (by decide) (pc' := 144) rfl ?_
    refine g_iloadN X hx (hb hby at_144) rfl (pc' := 145) rfl ?_
    refine g_ldcI X hx hZ hown (hw _ (List.mem_of_getElem? (i := 0) rfl)) (hb hby at_145) (pc' := 147) rfl ?_
    refine g_iand X hx (hb hby at_147) (pc' := 148) rfl ?_
    refine g_iconst X hx (hb hby at_148) (x := (3 : Int32)) (by decide) (pc' := 149) rfl ?_
    refine g_irem X hx (hb hby at_149) (by decide) (pc' := 150) rfl ?_
    obtain ⟨w0, hw0, pw0⟩ : ∃ z : Int32, z = ((p2 &&& (2147483647 : Int32)) % (3 : Int32)) ∧ z ∈ W3 := ⟨_, rfl, w_in _⟩
    rw [← hw0]
    refine g_iastore X hx hZ eT A_g.2 (hb hby at_150) (by decide) (by decide) (pc' := 151) rfl (fun T h X eT W A' => ?_)
    replace A_r := A_r.other W ne_r_g
    replace N := Fr.snoc X N g_g
    replace Zn := Nat.le_trans Zn (Nat.le_of_eq W.size.symm)
    replace A_g : Al Z h g .int 3 [w0, (0 : Int32), (0 : Int32)] := A_g.set A'
    refine g_dup X hx (hb hby at_151) rfl (pc' := 152) rfl ?_
    refine g_iconst X hx (hb hby at_152) (x := (1 : Int32)) (by decide) (pc' := 153) rfl ?_
    refine g_iloadN X hx (hb hby at_153) rfl (pc' := 154) rfl ?_
    refine g_ldcI X hx hZ hown (hw _ (List.mem_of_getElem? (i := 0) rfl)) (hb hby at_154) (pc' := 156) rfl ?_
    refine g_iand X hx (hb hby at_156) (pc' := 157) rfl ?_
    refine g_iconst X hx (hb hby at_157) (x := (3 : Int32)) (by decide) (pc' := 158) rfl ?_
    refine g_irem X hx (hb hby at_158) (by decide) (pc' := 159) rfl ?_
    obtain ⟨w1, hw1, pw1⟩ : ∃ z : Int32, z = ((p3 &&& (2147483647 : Int32)) % (3 : Int32)) ∧ z ∈ W3 := ⟨_, rfl, w_in _⟩
    rw [← hw1]
    refine g_iastore X hx hZ eT A_g.2 (hb hby at_159) (by decide) (by decide) (pc' := 160) rfl (fun T h X eT W A' => ?_)
    replace A_r := A_r.other W ne_r_g
    replace N := Fr.snoc X N g_g
    replace Zn := Nat.le_trans Zn (Nat.le_of_eq W.size.symm)
    replace A_g : Al Z h g .int 3 [w0, w1, (0 : Int32)] := A_g.set A'
    refine g_dup X hx (hb hby at_160) rfl (pc' := 161) rfl ?_
    refine g_iconst X hx (hb hby at_161) (x := (2 : Int32)) (by decide) (pc' := 162) rfl ?_
    refine g_iload X hx (hb hby at_162) rfl (pc' := 164) rfl ?_
    refine g_ldcI X hx hZ hown (hw _ (List.mem_of_getElem? (i := 0) rfl)) (hb hby at_164) (pc' := 166) rfl ?_
    refine g_iand X hx (hb hby at_166) (pc' := 167) rfl ?_
    refine g_iconst X hx (hb hby at_167) (x := (3 : Int32)) (by decide) (pc' := 168) rfl ?_
    refine g_irem X hx (hb hby at_168) (by decide) (pc' := 169) rfl ?_
    obtain ⟨w2, hw2, pw2⟩ : ∃ z : Int32, z = ((p4 &&& (2147483647 : Int32)) % (3 : Int32)) ∧ z ∈ W3 := ⟨_, rfl, w_in _⟩
    rw [← hw2]
    refine g_iastore X hx hZ eT A_g.2 (hb hby at_169) (by decide) (by decide) (pc' := 170) rfl (fun T h X eT W A' => ?_)
    replace A_r := A_r.other W ne_r_g
    replace N := Fr.snoc X N g_g
    replace Zn := Nat.le_trans Zn (Nat.le_of_eq W.size.symm)
    replace A_g : Al Z h g .int 3 [w0, w1, w2] := A_g.set A'
    refine g_astore X hx (hb hby at_170) rfl (Ls' := #[.val (.int p0), .val (.int p1), .val (.int p2), .val (.int p3), .val (.int p4), .val (.int nn), .val (.int pp), .val (.ref ou), .val (.ref r), .val (.ref g), .unset, .unset]) rfl (pc' := 172) rfl ?_
    refine g_new X hx hZ hown (hw _ (List.mem_of_getElem? (i := 5) rfl)) (hw _ (List.mem_of_getElem? (i := 6) rfl)) (hw _ (List.mem_of_getElem? (i := 7) rfl)) eT (hb hby at_172) (by decide) (by decide) (pc' := 175) rfl (fun T h q ha X eT Ex E_q Df => ?_)
    have g_q : n0 ≤ q := by rw [ha]; exact Zn
    have ne_r_q : r ≠ q := by rw [ha]; exact Nat.ne_of_lt A_r.lt
    have ne_g_q : g ≠ q := by rw [ha]; exact Nat.ne_of_lt A_g.lt
    replace A_r := A_r.ext Ex
    replace A_g := A_g.ext Ex
    replace Zn := Nat.le_trans Zn Ex.1
    have F_q_lastPlusOne : Fld Z h q "com/example/storewatch/storewatch/check/Readers" "lastPlusOne" "[I" .null := Df (Or.inr (hw _ (List.mem_of_getElem? (i := 15) rfl))) (ty := (.array .int)) (by decide)
    have F_q_next : Fld Z h q "com/example/storewatch/storewatch/check/Readers" "next" "[I" .null := Df (Or.inr (hw _ (List.mem_of_getElem? (i := 17) rfl))) (ty := (.array .int)) (by decide)
    have F_q_counts : Fld Z h q "com/example/storewatch/storewatch/check/Readers" "counts" "[I" .null := Df (Or.inr (hw _ (List.mem_of_getElem? (i := 19) rfl))) (ty := (.array .int)) (by decide)
    refine g_dup X hx (hb hby at_175) rfl (pc' := 176) rfl ?_
    refine g_iconst X hx (hb hby at_176) (x := (3 : Int32)) (by decide) (pc' := 177) rfl ?_
    refine g_init (W := 1) (argsL := [(.int (3 : Int32))]) (st := [(.ref q)]) X hx hZ hown rfl (hw _ (List.mem_of_getElem? (i := 8) rfl)) (hw _ (List.mem_of_getElem? (i := 9) rfl)) (hw _ (List.mem_of_getElem? (i := 10) rfl)) (hw _ (List.mem_of_getElem? (i := 7) rfl)) (by decide) (rmI l Z a0 hw q h n0 Zn E_q F_q_lastPlusOne F_q_next F_q_counts g_q ) eT (by decide) (by decide) (by decide) (by decide) (lenOf pd_0 rfl) (by rw [hml]; rfl) rfl (Nat.le_of_eq rfl) (hb hby at_177) (pc' := 180) rfl (fun T h vq Lq X eT hQ => ?_)
    obtain ⟨x1, x2, x3, rfl, Nq, Kc, q_F_q_lastPlusOne, q_F_q_next, q_F_q_counts, q_A_x1, q_A_x2, q_A_x3, q_ne_q_x1, q_ne_q_x2, q_ne_q_x3, q_ne_x1_x2, q_ne_x1_x3, q_ne_x2_x3, q_g_x1, q_g_x2, q_g_x3, q_sz_x1, q_sz_x2, q_sz_x3⟩ := hQ
    replace N := Fr.app N Nq
    have ne_r_x1 : r ≠ x1 := Nat.ne_of_lt (Nat.lt_of_lt_of_le A_r.lt q_sz_x1)
    have ne_g_x1 : g ≠ x1 := Nat.ne_of_lt (Nat.lt_of_lt_of_le A_g.lt q_sz_x1)
    have ne_r_x2 : r ≠ x2 := Nat.ne_of_lt (Nat.lt_of_lt_of_le A_r.lt q_sz_x2)
    have ne_g_x2 : g ≠ x2 := Nat.ne_of_lt (Nat.lt_of_lt_of_le A_g.lt q_sz_x2)
    have ne_r_x3 : r ≠ x3 := Nat.ne_of_lt (Nat.lt_of_lt_of_le A_r.lt q_sz_x3)
    have ne_g_x3 : g ≠ x3 := Nat.ne_of_lt (Nat.lt_of_lt_of_le A_g.lt q_sz_x3)
    replace E_q := E_q.keep Kc
    replace A_r := A_r.keep Kc (ninS ne_r_q nin0)
    replace A_g := A_g.keep Kc (ninS ne_g_q nin0)
    have F_q_lastPlusOne := q_F_q_lastPlusOne
    have F_q_next := q_F_q_next
    have F_q_counts := q_F_q_counts
    have A_x1 := q_A_x1
    have A_x2 := q_A_x2
    have A_x3 := q_A_x3
    have ne_q_x1 := q_ne_q_x1
    have ne_q_x2 := q_ne_q_x2
    have ne_q_x3 := q_ne_q_x3
    have ne_x1_x2 := q_ne_x1_x2
    have ne_x1_x3 := q_ne_x1_x3
    have ne_x2_x3 := q_ne_x2_x3
    have g_x1 := q_g_x1
    have g_x2 := q_g_x2
    have g_x3 := q_g_x3
    replace Zn := Nat.le_trans Zn Kc.1
    show WGo _ _ _ _ _ _ _ _ (mkF m 180 #[.val (.int p0), .val (.int p1), .val (.int p2), .val (.int p3), .val (.int p4), .val (.int nn), .val (.int pp), .val (.ref ou), .val (.ref r), .val (.ref g), .unset, .unset] [(.ref q)])
    refine g_astore X hx (hb hby at_180) rfl (Ls' := #[.val (.int p0), .val (.int p1), .val (.int p2), .val (.int p3), .val (.int p4), .val (.int nn), .val (.int pp), .val (.ref ou), .val (.ref r), .val (.ref g), .val (.ref q), .unset]) rfl (pc' := 182) rfl ?_
    simp only [List.mem_cons, List.not_mem_nil, or_false] at pnn
    rcases pnn with rfl | rfl | rfl | rfl
    · skip
      have hNN : ((0, 0) : Nat × Int32) ∈ NN := by decide
      refine g_iload X hx (hb hby at_182) rfl (pc' := 184) rfl ?_
      refine g_if X hx (hb hby at_184) (by decide) (pc' := 200) (by decide) (pc2 := 187) rfl (fun hc => ?_) (fun hc => ?_)
      · replace hc := h_le1 hc
        have hc184 := hc
        refine g_iload X hx (hb hby at_200) rfl (pc' := 202) rfl ?_
        refine g_iconst X hx (hb hby at_202) (x := (1 : Int32)) (by decide) (pc' := 203) rfl ?_
        refine g_icmp X hx (hb hby at_203) (by decide) (pc' := 219) (by decide) (pc2 := 206) rfl (fun hc => ?_) (fun hc => ?_)
        · replace hc := h_le1 hc
          have hc203 := hc
          refine g_iload X hx (hb hby at_219) rfl (pc' := 221) rfl ?_
          refine g_iconst X hx (hb hby at_221) (x := (2 : Int32)) (by decide) (pc' := 222) rfl ?_
          refine g_icmp X hx (hb hby at_222) (by decide) (pc' := 238) (by decide) (pc2 := 225) rfl (fun hc => ?_) (fun hc => ?_)
          · replace hc := h_le1 hc
            have hc222 := hc
            refine g_iconst X hx (hb hby at_238) (x := (1 : Int32)) (by decide) (pc' := 239) rfl ?_
            refine g_istore X hx (hb hby at_239) (Ls' := #[.val (.int p0), .val (.int p1), .val (.int p2), .val (.int p3), .val (.int p4), .val (.int (0 : Int32)), .val (.int pp), .val (.ref ou), .val (.ref r), .val (.ref g), .val (.ref q), .val (.int (1 : Int32))]) rfl (pc' := 241) rfl ?_
            refine g_iload X hx (hb hby at_241) rfl (pc' := 243) rfl ?_
            refine g_aload X hx (hb hby at_243) rfl rfl (pc' := 245) rfl ?_
            refine g_iconst X hx (hb hby at_245) (x := (0 : Int32)) (by decide) (pc' := 246) rfl ?_
            refine g_virt (W := 1) (argsL := [(.int (0 : Int32))]) (st := [(.int (1 : Int32))]) X hx hZ hown (hw _ (List.mem_of_getElem? (i := 25) rfl)) (hw _ (List.mem_of_getElem? (i := 26) rfl)) (notFace_of_selects (args := #[]) (mvT hZ (hw _ (List.mem_of_getElem? (i := 28) rfl)))) (hw _ (List.mem_of_getElem? (i := 28) rfl)) (hw _ (List.mem_of_getElem? (i := 27) rfl)) (hw _ (List.mem_of_getElem? (i := 29) rfl)) (hw _ (List.mem_of_getElem? (i := 7) rfl)) (by decide) E_q (rmCo l Z a0 hw q x1 x2 x3 S0 (0 : Int32) h n0 Zn F_q_lastPlusOne F_q_next F_q_counts A_x1 A_x2 A_x3 (ok_at (a := (0, 0)) (by decide) pw0 pw1 pw2 hR (by decide)).1) eT (by decide) (by decide) (by decide) (by decide) (lenOf pd_1 rfl) (by rw [hml]; rfl) rfl (Nat.le_of_eq rfl) (hb hby at_246) (pc' := 249) rfl (fun T hn vq Lq X eT hQ => ?_)
            obtain ⟨rfl, Nq, hE⟩ := hQ
            replace N := Fr.app N Nq
            rw [hE] at eT; clear hE
            show WGo _ _ _ _ _ _ _ _ (mkF m 249 #[.val (.int p0), .val (.int p1), .val (.int p2), .val (.int p3), .val (.int p4), .val (.int (0 : Int32)), .val (.int pp), .val (.ref ou), .val (.ref r), .val (.ref g), .val (.ref q), .val (.int (1 : Int32))] [(.int (S0.2.2.getD (0 : Int32).toNatClampNeg 0)), (.int (1 : Int32))])
            refine g_aload X hx (hb hby at_249) rfl rfl (pc' := 251) rfl ?_
            refine g_iload X hx (hb hby at_251) rfl (pc' := 253) rfl ?_
            refine g_iconst X hx (hb hby at_253) (x := (0 : Int32)) (by decide) (pc' := 254) rfl ?_
            refine g_stat (W := 2) (argsL := [(.ref g), (.int (0 : Int32)), (.int (0 : Int32))]) (st := [(.int (S0.2.2.getD (0 : Int32).toNatClampNeg 0)), (.int (1 : Int32))]) X hx hZ hown (hw _ (List.mem_of_getElem? (i := 30) rfl)) (hw _ (List.mem_of_getElem? (i := 31) rfl)) (hw _ (List.mem_of_getElem? (i := 32) rfl)) (hw _ (List.mem_of_getElem? (i := 33) rfl)) (by decide) (rmXC l Z a0 hw g w0 w1 w2 (0 : Int32) (0 : Int32) h n0 Zn A_g ) eT (by decide) (by decide) (by decide) (by decide) (lenOf pd_2 rfl) (by rw [hml]; rfl) rfl (Nat.le_of_eq rfl) (hb hby at_254) (pc' := 257) rfl (fun T hn vq Lq X eT hQ => ?_)
            obtain ⟨rfl, Nq, hE⟩ := hQ
            replace N := Fr.app N Nq
            rw [hE] at eT; clear hE
            show WGo _ _ _ _ _ _ _ _ (mkF m 257 #[.val (.int p0), .val (.int p1), .val (.int p2), .val (.int p3), .val (.int p4), .val (.int (0 : Int32)), .val (.int pp), .val (.ref ou), .val (.ref r), .val (.ref g), .val (.ref q), .val (.int (1 : Int32))] [(.int (expC (0 : Int32) (0 : Int32) w0 w1 w2)), (.int (S0.2.2.getD (0 : Int32).toNatClampNeg 0)), (.int (1 : Int32))])
            refine g_icmp X hx (hb hby at_257) (by decide) (pc' := 264) (by decide) (pc2 := 260) rfl (fun hc => ?_) (fun hc => ?_)
            · replace hc := h_ne1 hc
              have hc257 := hc
              exfalso
              exact hc (ok_at (a := (0, 0)) (by decide) pw0 pw1 pw2 hR (by decide)).2.1
            · replace hc := h_ne0 hc
              have hc257 := hc
              refine g_iconst X hx (hb hby at_260) (x := (1 : Int32)) (by decide) (pc' := 261) rfl ?_
              refine g_goto X hx (hb hby at_261) (by decide) (pc' := 265) (by decide) ?_
              refine g_iand X hx (hb hby at_265) (pc' := 266) rfl ?_
              rw [show ((1 : Int32) &&& (1 : Int32)) = (1 : Int32) from by decide]
              refine g_istore X hx (hb hby at_266) (Ls' := #[.val (.int p0), .val (.int p1), .val (.int p2), .val (.int p3), .val (.int p4), .val (.int (0 : Int32)), .val (.int pp), .val (.ref ou), .val (.ref r), .val (.ref g), .val (.ref q), .val (.int (1 : Int32))]) rfl (pc' := 268) rfl ?_
              refine g_iload X hx (hb hby at_268) rfl (pc' := 270) rfl ?_
              refine g_aload X hx (hb hby at_270) rfl rfl (pc' := 272) rfl ?_
              refine g_iconst X hx (hb hby at_272) (x := (1 : Int32)) (by decide) (pc' := 273) rfl ?_
              refine g_virt (W := 1) (argsL := [(.int (1 : Int32))]) (st := [(.int (1 : Int32))]) X hx hZ hown (hw _ (List.mem_of_getElem? (i := 25) rfl)) (hw _ (List.mem_of_getElem? (i := 26) rfl)) (notFace_of_selects (args := #[]) (mvT hZ (hw _ (List.mem_of_getElem? (i := 28) rfl)))) (hw _ (List.mem_of_getElem? (i := 28) rfl)) (hw _ (List.mem_of_getElem? (i := 27) rfl)) (hw _ (List.mem_of_getElem? (i := 29) rfl)) (hw _ (List.mem_of_getElem? (i := 7) rfl)) (by decide) E_q (rmCo l Z a0 hw q x1 x2 x3 S0 (1 : Int32) h n0 Zn F_q_lastPlusOne F_q_next F_q_counts A_x1 A_x2 A_x3 (ok_at (a := (0, 0)) (by decide) pw0 pw1 pw2 hR (by decide)).1) eT (by decide) (by decide) (by decide) (by decide) (lenOf pd_1 rfl) (by rw [hml]; rfl) rfl (Nat.le_of_eq rfl) (hb hby at_273) (pc' := 276) rfl (fun T hn vq Lq X eT hQ => ?_)
              obtain ⟨rfl, Nq, hE⟩ := hQ
              replace N := Fr.app N Nq
              rw [hE] at eT; clear hE
              show WGo _ _ _ _ _ _ _ _ (mkF m 276 #[.val (.int p0), .val (.int p1), .val (.int p2), .val (.int p3), .val (.int p4), .val (.int (0 : Int32)), .val (.int pp), .val (.ref ou), .val (.ref r), .val (.ref g), .val (.ref q), .val (.int (1 : Int32))] [(.int (S0.2.2.getD (1 : Int32).toNatClampNeg 0)), (.int (1 : Int32))])
              refine g_aload X hx (hb hby at_276) rfl rfl (pc' := 278) rfl ?_
              refine g_iload X hx (hb hby at_278) rfl (pc' := 280) rfl ?_
              refine g_iconst X hx (hb hby at_280) (x := (1 : Int32)) (by decide) (pc' := 281) rfl ?_
              refine g_stat (W := 2) (argsL := [(.ref g), (.int (0 : Int32)), (.int (1 : Int32))]) (st := [(.int (S0.2.2.getD (1 : Int32).toNatClampNeg 0)), (.int (1 : Int32))]) X hx hZ hown (hw _ (List.mem_of_getElem? (i := 30) rfl)) (hw _ (List.mem_of_getElem? (i := 31) rfl)) (hw _ (List.mem_of_getElem? (i := 32) rfl)) (hw _ (List.mem_of_getElem? (i := 33) rfl)) (by decide) (rmXC l Z a0 hw g w0 w1 w2 (0 : Int32) (1 : Int32) h n0 Zn A_g ) eT (by decide) (by decide) (by decide) (by decide) (lenOf pd_2 rfl) (by rw [hml]; rfl) rfl (Nat.le_of_eq rfl) (hb hby at_281) (pc' := 284) rfl (fun T hn vq Lq X eT hQ => ?_)
              obtain ⟨rfl, Nq, hE⟩ := hQ
              replace N := Fr.app N Nq
              rw [hE] at eT; clear hE
              show WGo _ _ _ _ _ _ _ _ (mkF m 284 #[.val (.int p0), .val (.int p1), .val (.int p2), .val (.int p3), .val (.int p4), .val (.int (0 : Int32)), .val (.int pp), .val (.ref ou), .val (.ref r), .val (.ref g), .val (.ref q), .val (.int (1 : Int32))] [(.int (expC (0 : Int32) (1 : Int32) w0 w1 w2)), (.int (S0.2.2.getD (1 : Int32).toNatClampNeg 0)), (.int (1 : Int32))])
              refine g_icmp X hx (hb hby at_284) (by decide) (pc' := 291) (by decide) (pc2 := 287) rfl (fun hc => ?_) (fun hc => ?_)
              · replace hc := h_ne1 hc
                have hc284 := hc
                exfalso
                exact hc (ok_at (a := (0, 0)) (by decide) pw0 pw1 pw2 hR (by decide)).2.1
              · replace hc := h_ne0 hc
                have hc284 := hc
                refine g_iconst X hx (hb hby at_287) (x := (1 : Int32)) (by decide) (pc' := 288) rfl ?_
                refine g_goto X hx (hb hby at_288) (by decide) (pc' := 292) (by decide) ?_
                refine g_iand X hx (hb hby at_292) (pc' := 293) rfl ?_
                rw [show ((1 : Int32) &&& (1 : Int32)) = (1 : Int32) from by decide]
                refine g_istore X hx (hb hby at_293) (Ls' := #[.val (.int p0), .val (.int p1), .val (.int p2), .val (.int p3), .val (.int p4), .val (.int (0 : Int32)), .val (.int pp), .val (.ref ou), .val (.ref r), .val (.ref g), .val (.ref q), .val (.int (1 : Int32))]) rfl (pc' := 295) rfl ?_
                refine g_iload X hx (hb hby at_295) rfl (pc' := 297) rfl ?_
                refine g_aload X hx (hb hby at_297) rfl rfl (pc' := 299) rfl ?_
                refine g_iconst X hx (hb hby at_299) (x := (2 : Int32)) (by decide) (pc' := 300) rfl ?_
                refine g_virt (W := 1) (argsL := [(.int (2 : Int32))]) (st := [(.int (1 : Int32))]) X hx hZ hown (hw _ (List.mem_of_getElem? (i := 25) rfl)) (hw _ (List.mem_of_getElem? (i := 26) rfl)) (notFace_of_selects (args := #[]) (mvT hZ (hw _ (List.mem_of_getElem? (i := 28) rfl)))) (hw _ (List.mem_of_getElem? (i := 28) rfl)) (hw _ (List.mem_of_getElem? (i := 27) rfl)) (hw _ (List.mem_of_getElem? (i := 29) rfl)) (hw _ (List.mem_of_getElem? (i := 7) rfl)) (by decide) E_q (rmCo l Z a0 hw q x1 x2 x3 S0 (2 : Int32) h n0 Zn F_q_lastPlusOne F_q_next F_q_counts A_x1 A_x2 A_x3 (ok_at (a := (0, 0)) (by decide) pw0 pw1 pw2 hR (by decide)).1) eT (by decide) (by decide) (by decide) (by decide) (lenOf pd_1 rfl) (by rw [hml]; rfl) rfl (Nat.le_of_eq rfl) (hb hby at_300) (pc' := 303) rfl (fun T hn vq Lq X eT hQ => ?_)
                obtain ⟨rfl, Nq, hE⟩ := hQ
                replace N := Fr.app N Nq
                rw [hE] at eT; clear hE
                show WGo _ _ _ _ _ _ _ _ (mkF m 303 #[.val (.int p0), .val (.int p1), .val (.int p2), .val (.int p3), .val (.int p4), .val (.int (0 : Int32)), .val (.int pp), .val (.ref ou), .val (.ref r), .val (.ref g), .val (.ref q), .val (.int (1 : Int32))] [(.int (S0.2.2.getD (2 : Int32).toNatClampNeg 0)), (.int (1 : Int32))])
                refine g_aload X hx (hb hby at_303) rfl rfl (pc' := 305) rfl ?_
                refine g_iload X hx (hb hby at_305) rfl (pc' := 307) rfl ?_
                refine g_iconst X hx (hb hby at_307) (x := (2 : Int32)) (by decide) (pc' := 308) rfl ?_
                refine g_stat (W := 2) (argsL := [(.ref g), (.int (0 : Int32)), (.int (2 : Int32))]) (st := [(.int (S0.2.2.getD (2 : Int32).toNatClampNeg 0)), (.int (1 : Int32))]) X hx hZ hown (hw _ (List.mem_of_getElem? (i := 30) rfl)) (hw _ (List.mem_of_getElem? (i := 31) rfl)) (hw _ (List.mem_of_getElem? (i := 32) rfl)) (hw _ (List.mem_of_getElem? (i := 33) rfl)) (by decide) (rmXC l Z a0 hw g w0 w1 w2 (0 : Int32) (2 : Int32) h n0 Zn A_g ) eT (by decide) (by decide) (by decide) (by decide) (lenOf pd_2 rfl) (by rw [hml]; rfl) rfl (Nat.le_of_eq rfl) (hb hby at_308) (pc' := 311) rfl (fun T hn vq Lq X eT hQ => ?_)
                obtain ⟨rfl, Nq, hE⟩ := hQ
                replace N := Fr.app N Nq
                rw [hE] at eT; clear hE
                show WGo _ _ _ _ _ _ _ _ (mkF m 311 #[.val (.int p0), .val (.int p1), .val (.int p2), .val (.int p3), .val (.int p4), .val (.int (0 : Int32)), .val (.int pp), .val (.ref ou), .val (.ref r), .val (.ref g), .val (.ref q), .val (.int (1 : Int32))] [(.int (expC (0 : Int32) (2 : Int32) w0 w1 w2)), (.int (S0.2.2.getD (2 : Int32).toNatClampNeg 0)), (.int (1 : Int32))])
                refine g_icmp X hx (hb hby at_311) (by decide) (pc' := 318) (by decide) (pc2 := 314) rfl (fun hc => ?_) (fun hc => ?_)
                · replace hc := h_ne1 hc
                  have hc311 := hc
                  exfalso
                  exact hc (ok_at (a := (0, 0)) (by decide) pw0 pw1 pw2 hR (by decide)).2.1
                · replace hc := h_ne0 hc
                  have hc311 := hc
                  refine g_iconst X hx (hb hby at_314) (x := (1 : Int32)) (by decide) (pc' := 315) rfl ?_
                  refine g_goto X hx (hb hby at_315) (by decide) (pc' := 319) (by decide) ?_
                  refine g_iand X hx (hb hby at_319) (pc' := 320) rfl ?_
                  rw [show ((1 : Int32) &&& (1 : Int32)) = (1 : Int32) from by decide]
                  refine g_istore X hx (hb hby at_320) (Ls' := #[.val (.int p0), .val (.int p1), .val (.int p2), .val (.int p3), .val (.int p4), .val (.int (0 : Int32)), .val (.int pp), .val (.ref ou), .val (.ref r), .val (.ref g), .val (.ref q), .val (.int (1 : Int32))]) rfl (pc' := 322) rfl ?_
                  refine g_iload X hx (hb hby at_322) rfl (pc' := 324) rfl ?_
                  refine g_aload X hx (hb hby at_324) rfl rfl (pc' := 326) rfl ?_
                  refine g_iconst X hx (hb hby at_326) (x := (0 : Int32)) (by decide) (pc' := 327) rfl ?_
                  refine g_virt (W := 1) (argsL := [(.int (0 : Int32))]) (st := [(.int (1 : Int32))]) X hx hZ hown (hw _ (List.mem_of_getElem? (i := 34) rfl)) (hw _ (List.mem_of_getElem? (i := 35) rfl)) (notFace_of_selects (args := #[]) (mvT hZ (hw _ (List.mem_of_getElem? (i := 37) rfl)))) (hw _ (List.mem_of_getElem? (i := 37) rfl)) (hw _ (List.mem_of_getElem? (i := 36) rfl)) (hw _ (List.mem_of_getElem? (i := 38) rfl)) (hw _ (List.mem_of_getElem? (i := 7) rfl)) (by decide) E_q (rmFi l Z a0 hw q x1 x2 x3 S0 (0 : Int32) h n0 Zn F_q_lastPlusOne F_q_next F_q_counts A_x1 A_x2 A_x3 (ok_at (a := (0, 0)) (by decide) pw0 pw1 pw2 hR (by decide)).1) eT (by decide) (by decide) (by decide) (by decide) (lenOf pd_1 rfl) (by rw [hml]; rfl) rfl (Nat.le_of_eq rfl) (hb hby at_327) (pc' := 330) rfl (fun T hn vq Lq X eT hQ => ?_)
                  obtain ⟨rfl, Nq, hE⟩ := hQ
                  replace N := Fr.app N Nq
                  rw [hE] at eT; clear hE
                  show WGo _ _ _ _ _ _ _ _ (mkF m 330 #[.val (.int p0), .val (.int p1), .val (.int p2), .val (.int p3), .val (.int p4), .val (.int (0 : Int32)), .val (.int pp), .val (.ref ou), .val (.ref r), .val (.ref g), .val (.ref q), .val (.int (1 : Int32))] [(.int (firV S0 (0 : Int32))), (.int (1 : Int32))])
                  refine g_aload X hx (hb hby at_330) rfl rfl (pc' := 332) rfl ?_
                  refine g_aload X hx (hb hby at_332) rfl rfl (pc' := 334) rfl ?_
                  refine g_iload X hx (hb hby at_334) rfl (pc' := 336) rfl ?_
                  refine g_iconst X hx (hb hby at_336) (x := (0 : Int32)) (by decide) (pc' := 337) rfl ?_
                  refine g_stat (W := 2) (argsL := [(.ref g), (.ref r), (.int (0 : Int32)), (.int (0 : Int32))]) (st := [(.int (firV S0 (0 : Int32))), (.int (1 : Int32))]) X hx hZ hown (hw _ (List.mem_of_getElem? (i := 39) rfl)) (hw _ (List.mem_of_getElem? (i := 40) rfl)) (hw _ (List.mem_of_getElem? (i := 32) rfl)) (hw _ (List.mem_of_getElem? (i := 41) rfl)) (by decide) (rmXF l Z a0 hw g w0 w1 w2 r r0 r1 r2 (0 : Int32) (0 : Int32) h n0 Zn A_g A_r ) eT (by decide) (by decide) (by decide) (by decide) (lenOf pd_3 rfl) (by rw [hml]; rfl) rfl (Nat.le_of_eq rfl) (hb hby at_337) (pc' := 340) rfl (fun T hn vq Lq X eT hQ => ?_)
                  obtain ⟨rfl, Nq, hE⟩ := hQ
                  replace N := Fr.app N Nq
                  rw [hE] at eT; clear hE
                  show WGo _ _ _ _ _ _ _ _ (mkF m 340 #[.val (.int p0), .val (.int p1), .val (.int p2), .val (.int p3), .val (.int p4), .val (.int (0 : Int32)), .val (.int pp), .val (.ref ou), .val (.ref r), .val (.ref g), .val (.ref q), .val (.int (1 : Int32))] [(.int (expF (0 : Int32) (0 : Int32) w0 w1 w2 r0 r1 r2)), (.int (firV S0 (0 : Int32))), (.int (1 : Int32))])
                  refine g_icmp X hx (hb hby at_340) (by decide) (pc' := 347) (by decide) (pc2 := 343) rfl (fun hc => ?_) (fun hc => ?_)
                  · replace hc := h_ne1 hc
                    have hc340 := hc
                    exfalso
                    exact hc (ok_at (a := (0, 0)) (by decide) pw0 pw1 pw2 hR (by decide)).2.2
                  · replace hc := h_ne0 hc
                    have hc340 := hc
                    refine g_iconst X hx (hb hby at_343) (x := (1 : Int32)) (by decide) (pc' := 344) rfl ?_
                    refine g_goto X hx (hb hby at_344) (by decide) (pc' := 348) (by decide) ?_
                    refine g_iand X hx (hb hby at_348) (pc' := 349) rfl ?_
                    rw [show ((1 : Int32) &&& (1 : Int32)) = (1 : Int32) from by decide]
                    refine g_istore X hx (hb hby at_349) (Ls' := #[.val (.int p0), .val (.int p1), .val (.int p2), .val (.int p3), .val (.int p4), .val (.int (0 : Int32)), .val (.int pp), .val (.ref ou), .val (.ref r), .val (.ref g), .val (.ref q), .val (.int (1 : Int32))]) rfl (pc' := 351) rfl ?_
                    refine g_iload X hx (hb hby at_351) rfl (pc' := 353) rfl ?_
                    refine g_aload X hx (hb hby at_353) rfl rfl (pc' := 355) rfl ?_
                    refine g_iconst X hx (hb hby at_355) (x := (1 : Int32)) (by decide) (pc' := 356) rfl ?_
                    refine g_virt (W := 1) (argsL := [(.int (1 : Int32))]) (st := [(.int (1 : Int32))]) X hx hZ hown (hw _ (List.mem_of_getElem? (i := 34) rfl)) (hw _ (List.mem_of_getElem? (i := 35) rfl)) (notFace_of_selects (args := #[]) (mvT hZ (hw _ (List.mem_of_getElem? (i := 37) rfl)))) (hw _ (List.mem_of_getElem? (i := 37) rfl)) (hw _ (List.mem_of_getElem? (i := 36) rfl)) (hw _ (List.mem_of_getElem? (i := 38) rfl)) (hw _ (List.mem_of_getElem? (i := 7) rfl)) (by decide) E_q (rmFi l Z a0 hw q x1 x2 x3 S0 (1 : Int32) h n0 Zn F_q_lastPlusOne F_q_next F_q_counts A_x1 A_x2 A_x3 (ok_at (a := (0, 0)) (by decide) pw0 pw1 pw2 hR (by decide)).1) eT (by decide) (by decide) (by decide) (by decide) (lenOf pd_1 rfl) (by rw [hml]; rfl) rfl (Nat.le_of_eq rfl) (hb hby at_356) (pc' := 359) rfl (fun T hn vq Lq X eT hQ => ?_)
                    obtain ⟨rfl, Nq, hE⟩ := hQ
                    replace N := Fr.app N Nq
                    rw [hE] at eT; clear hE
                    show WGo _ _ _ _ _ _ _ _ (mkF m 359 #[.val (.int p0), .val (.int p1), .val (.int p2), .val (.int p3), .val (.int p4), .val (.int (0 : Int32)), .val (.int pp), .val (.ref ou), .val (.ref r), .val (.ref g), .val (.ref q), .val (.int (1 : Int32))] [(.int (firV S0 (1 : Int32))), (.int (1 : Int32))])
                    refine g_aload X hx (hb hby at_359) rfl rfl (pc' := 361) rfl ?_
                    refine g_aload X hx (hb hby at_361) rfl rfl (pc' := 363) rfl ?_
                    refine g_iload X hx (hb hby at_363) rfl (pc' := 365) rfl ?_
                    refine g_iconst X hx (hb hby at_365) (x := (1 : Int32)) (by decide) (pc' := 366) rfl ?_
                    refine g_stat (W := 2) (argsL := [(.ref g), (.ref r), (.int (0 : Int32)), (.int (1 : Int32))]) (st := [(.int (firV S0 (1 : Int32))), (.int (1 : Int32))]) X hx hZ hown (hw _ (List.mem_of_getElem? (i := 39) rfl)) (hw _ (List.mem_of_getElem? (i := 40) rfl)) (hw _ (List.mem_of_getElem? (i := 32) rfl)) (hw _ (List.mem_of_getElem? (i := 41) rfl)) (by decide) (rmXF l Z a0 hw g w0 w1 w2 r r0 r1 r2 (0 : Int32) (1 : Int32) h n0 Zn A_g A_r ) eT (by decide) (by decide) (by decide) (by decide) (lenOf pd_3 rfl) (by rw [hml]; rfl) rfl (Nat.le_of_eq rfl) (hb hby at_366) (pc' := 369) rfl (fun T hn vq Lq X eT hQ => ?_)
                    obtain ⟨rfl, Nq, hE⟩ := hQ
                    replace N := Fr.app N Nq
                    rw [hE] at eT; clear hE
                    show WGo _ _ _ _ _ _ _ _ (mkF m 369 #[.val (.int p0), .val (.int p1), .val (.int p2), .val (.int p3), .val (.int p4), .val (.int (0 : Int32)), .val (.int pp), .val (.ref ou), .val (.ref r), .val (.ref g), .val (.ref q), .val (.int (1 : Int32))] [(.int (expF (0 : Int32) (1 : Int32) w0 w1 w2 r0 r1 r2)), (.int (firV S0 (1 : Int32))), (.int (1 : Int32))])
                    refine g_icmp X hx (hb hby at_369) (by decide) (pc' := 376) (by decide) (pc2 := 372) rfl (fun hc => ?_) (fun hc => ?_)
                    · replace hc := h_ne1 hc
                      have hc369 := hc
                      exfalso
                      exact hc (ok_at (a := (0, 0)) (by decide) pw0 pw1 pw2 hR (by decide)).2.2
                    · replace hc := h_ne0 hc
                      have hc369 := hc
                      refine g_iconst X hx (hb hby at_372) (x := (1 : Int32)) (by decide) (pc' := 373) rfl ?_
                      refine g_goto X hx (hb hby at_373) (by decide) (pc' := 377) (by decide) ?_
                      refine g_iand X hx (hb hby at_377) (pc' := 378) rfl ?_
                      rw [show ((1 : Int32) &&& (1 : Int32)) = (1 : Int32) from by decide]
                      refine g_istore X hx (hb hby at_378) (Ls' := #[.val (.int p0), .val (.int p1), .val (.int p2), .val (.int p3), .val (.int p4), .val (.int (0 : Int32)), .val (.int pp), .val (.ref ou), .val (.ref r), .val (.ref g), .val (.ref q), .val (.int (1 : Int32))]) rfl (pc' := 380) rfl ?_
                      refine g_iload X hx (hb hby at_380) rfl (pc' := 382) rfl ?_
                      refine g_aload X hx (hb hby at_382) rfl rfl (pc' := 384) rfl ?_
                      refine g_iconst X hx (hb hby at_384) (x := (2 : Int32)) (by decide) (pc' := 385) rfl ?_
                      refine g_virt (W := 1) (argsL := [(.int (2 : Int32))]) (st := [(.int (1 : Int32))]) X hx hZ hown (hw _ (List.mem_of_getElem? (i := 34) rfl)) (hw _ (List.mem_of_getElem? (i := 35) rfl)) (notFace_of_selects (args := #[]) (mvT hZ (hw _ (List.mem_of_getElem? (i := 37) rfl)))) (hw _ (List.mem_of_getElem? (i := 37) rfl)) (hw _ (List.mem_of_getElem? (i := 36) rfl)) (hw _ (List.mem_of_getElem? (i := 38) rfl)) (hw _ (List.mem_of_getElem? (i := 7) rfl)) (by decide) E_q (rmFi l Z a0 hw q x1 x2 x3 S0 (2 : Int32) h n0 Zn F_q_lastPlusOne F_q_next F_q_counts A_x1 A_x2 A_x3 (ok_at (a := (0, 0)) (by decide) pw0 pw1 pw2 hR (by decide)).1) eT (by decide) (by decide) (by decide) (by decide) (lenOf pd_1 rfl) (by rw [hml]; rfl) rfl (Nat.le_of_eq rfl) (hb hby at_385) (pc' := 388) rfl (fun T hn vq Lq X eT hQ => ?_)
                      obtain ⟨rfl, Nq, hE⟩ := hQ
                      replace N := Fr.app N Nq
                      rw [hE] at eT; clear hE
                      show WGo _ _ _ _ _ _ _ _ (mkF m 388 #[.val (.int p0), .val (.int p1), .val (.int p2), .val (.int p3), .val (.int p4), .val (.int (0 : Int32)), .val (.int pp), .val (.ref ou), .val (.ref r), .val (.ref g), .val (.ref q), .val (.int (1 : Int32))] [(.int (firV S0 (2 : Int32))), (.int (1 : Int32))])
                      refine g_aload X hx (hb hby at_388) rfl rfl (pc' := 390) rfl ?_
                      refine g_aload X hx (hb hby at_390) rfl rfl (pc' := 392) rfl ?_
                      refine g_iload X hx (hb hby at_392) rfl (pc' := 394) rfl ?_
                      refine g_iconst X hx (hb hby at_394) (x := (2 : Int32)) (by decide) (pc' := 395) rfl ?_
                      refine g_stat (W := 2) (argsL := [(.ref g), (.ref r), (.int (0 : Int32)), (.int (2 : Int32))]) (st := [(.int (firV S0 (2 : Int32))), (.int (1 : Int32))]) X hx hZ hown (hw _ (List.mem_of_getElem? (i := 39) rfl)) (hw _ (List.mem_of_getElem? (i := 40) rfl)) (hw _ (List.mem_of_getElem? (i := 32) rfl)) (hw _ (List.mem_of_getElem? (i := 41) rfl)) (by decide) (rmXF l Z a0 hw g w0 w1 w2 r r0 r1 r2 (0 : Int32) (2 : Int32) h n0 Zn A_g A_r ) eT (by decide) (by decide) (by decide) (by decide) (lenOf pd_3 rfl) (by rw [hml]; rfl) rfl (Nat.le_of_eq rfl) (hb hby at_395) (pc' := 398) rfl (fun T hn vq Lq X eT hQ => ?_)
                      obtain ⟨rfl, Nq, hE⟩ := hQ
                      replace N := Fr.app N Nq
                      rw [hE] at eT; clear hE
                      show WGo _ _ _ _ _ _ _ _ (mkF m 398 #[.val (.int p0), .val (.int p1), .val (.int p2), .val (.int p3), .val (.int p4), .val (.int (0 : Int32)), .val (.int pp), .val (.ref ou), .val (.ref r), .val (.ref g), .val (.ref q), .val (.int (1 : Int32))] [(.int (expF (0 : Int32) (2 : Int32) w0 w1 w2 r0 r1 r2)), (.int (firV S0 (2 : Int32))), (.int (1 : Int32))])
                      refine g_icmp X hx (hb hby at_398) (by decide) (pc' := 405) (by decide) (pc2 := 401) rfl (fun hc => ?_) (fun hc => ?_)
                      · replace hc := h_ne1 hc
                        have hc398 := hc
                        exfalso
                        exact hc (ok_at (a := (0, 0)) (by decide) pw0 pw1 pw2 hR (by decide)).2.2
                      · replace hc := h_ne0 hc
                        have hc398 := hc
                        refine g_iconst X hx (hb hby at_401) (x := (1 : Int32)) (by decide) (pc' := 402) rfl ?_
                        refine g_goto X hx (hb hby at_402) (by decide) (pc' := 406) (by decide) ?_
                        refine g_iand X hx (hb hby at_406) (pc' := 407) rfl ?_
                        rw [show ((1 : Int32) &&& (1 : Int32)) = (1 : Int32) from by decide]
                        refine g_istore X hx (hb hby at_407) (Ls' := #[.val (.int p0), .val (.int p1), .val (.int p2), .val (.int p3), .val (.int p4), .val (.int (0 : Int32)), .val (.int pp), .val (.ref ou), .val (.ref r), .val (.ref g), .val (.ref q), .val (.int (1 : Int32))]) rfl (pc' := 409) rfl ?_
                        refine g_iload X hx (hb hby at_409) rfl (pc' := 411) rfl ?_
                        refine g_if X hx (hb hby at_411) (by decide) (pc' := 450) (by decide) (pc2 := 414) rfl (fun hc => ?_) (fun hc => ?_)
                        · replace hc := h_le1 hc
                          have hc411 := hc
                          refine g_iload X hx (hb hby at_450) rfl (pc' := 452) rfl ?_
                          refine g_iconst X hx (hb hby at_452) (x := (1 : Int32)) (by decide) (pc' := 453) rfl ?_
                          refine g_icmp X hx (hb hby at_453) (by decide) (pc' := 492) (by decide) (pc2 := 456) rfl (fun hc => ?_) (fun hc => ?_)
                          · replace hc := h_le1 hc
                            have hc453 := hc
                            refine g_iload X hx (hb hby at_492) rfl (pc' := 494) rfl ?_
                            refine g_iconst X hx (hb hby at_494) (x := (2 : Int32)) (by decide) (pc' := 495) rfl ?_
                            refine g_icmp X hx (hb hby at_495) (by decide) (pc' := 534) (by decide) (pc2 := 498) rfl (fun hc => ?_) (fun hc => ?_)
                            · replace hc := h_le1 hc
                              have hc495 := hc
                              refine g_iload X hx (hb hby at_534) rfl (pc' := 536) rfl ?_
                              refine g_retN (t := .boolean) X hx hret (by simp) hlk (hb hby at_536) (by decide) (by decide) ?_
                              exact ⟨rfl, N⟩
                            · replace hc := h_le0 hc
                              have hc495 := hc
                              exfalso
                              clear hc495; revert hc; decide
                          · replace hc := h_le0 hc
                            have hc453 := hc
                            exfalso
                            clear hc453; revert hc; decide
                        · replace hc := h_le0 hc
                          have hc411 := hc
                          exfalso
                          clear hc411; revert hc; decide
          · replace hc := h_le0 hc
            have hc222 := hc
            exfalso
            clear hc222; revert hc; decide
        · replace hc := h_le0 hc
          have hc203 := hc
          exfalso
          clear hc203; revert hc; decide
      · replace hc := h_le0 hc
        have hc184 := hc
        exfalso
        clear hc184; revert hc; decide
    · skip
      have hNN : ((1, 1) : Nat × Int32) ∈ NN := by decide
      refine g_iload X hx (hb hby at_182) rfl (pc' := 184) rfl ?_
      refine g_if X hx (hb hby at_184) (by decide) (pc' := 200) (by decide) (pc2 := 187) rfl (fun hc => ?_) (fun hc => ?_)
      · replace hc := h_le1 hc
        have hc184 := hc
        exfalso
        clear hc184; revert hc; decide
      · replace hc := h_le0 hc
        have hc184 := hc
        refine g_aload X hx (hb hby at_187) rfl rfl (pc' := 189) rfl ?_
        refine g_aload X hx (hb hby at_189) rfl rfl (pc' := 191) rfl ?_
        refine g_iconst X hx (hb hby at_191) (x := (0 : Int32)) (by decide) (pc' := 192) rfl ?_
        refine g_iaload X hx hZ eT A_g.2 (hb hby at_192) (by decide) (by decide) (v := (.int w0)) rfl (pc' := 193) rfl ?_
        refine g_aload X hx (hb hby at_193) rfl rfl (pc' := 195) rfl ?_
        refine g_iconst X hx (hb hby at_195) (x := (0 : Int32)) (by decide) (pc' := 196) rfl ?_
        refine g_iaload X hx hZ eT A_r.2 (hb hby at_196) (by decide) (by decide) (v := (.int r0)) rfl (pc' := 197) rfl ?_
        refine g_virt (W := 0) (argsL := [(.int w0), (.int r0)]) (st := []) X hx hZ hown (hw _ (List.mem_of_getElem? (i := 20) rfl)) (hw _ (List.mem_of_getElem? (i := 21) rfl)) (notFace_of_selects (args := #[]) (mvT hZ (hw _ (List.mem_of_getElem? (i := 23) rfl)))) (hw _ (List.mem_of_getElem? (i := 23) rfl)) (hw _ (List.mem_of_getElem? (i := 22) rfl)) (hw _ (List.mem_of_getElem? (i := 24) rfl)) (hw _ (List.mem_of_getElem? (i := 7) rfl)) (by decide) E_q (rmEn l Z a0 hw q x1 x2 x3 S0 w0 r0 h n0 Zn F_q_lastPlusOne F_q_next F_q_counts A_x1 A_x2 A_x3 ne_q_x1 ne_q_x2 ne_q_x3 ne_x1_x2 ne_x1_x3 ne_x2_x3 g_q g_x1 g_x2 g_x3 (ok_at (a := (0, 0)) (by decide) pw0 pw1 pw2 hR pw0).1 hR0) eT (by decide) (by decide) (by decide) (by decide) (lenOf pd_4 rfl) (by rw [hml]; rfl) rfl (Nat.le_of_eq rfl) (hb hby at_197) (pc' := 200) rfl (fun T h vq Lq X eT hQ => ?_)
        obtain ⟨rfl, Nq, Kc, q_A_x1, q_A_x2, q_A_x3⟩ := hQ
        replace N := Fr.app N Nq
        replace F_q_lastPlusOne := F_q_lastPlusOne.keep Kc (ninS ne_q_x1 (ninS ne_q_x2 (ninS ne_q_x3 nin0)))
        replace F_q_next := F_q_next.keep Kc (ninS ne_q_x1 (ninS ne_q_x2 (ninS ne_q_x3 nin0)))
        replace F_q_counts := F_q_counts.keep Kc (ninS ne_q_x1 (ninS ne_q_x2 (ninS ne_q_x3 nin0)))
        replace E_q := E_q.keep Kc
        replace A_r := A_r.keep Kc (ninS ne_r_x1 (ninS ne_r_x2 (ninS ne_r_x3 nin0)))
        replace A_g := A_g.keep Kc (ninS ne_g_x1 (ninS ne_g_x2 (ninS ne_g_x3 nin0)))
        have A_x1 := q_A_x1
        have A_x2 := q_A_x2
        have A_x3 := q_A_x3
        replace Zn := Nat.le_trans Zn Kc.1
        show WGo _ _ _ _ _ _ _ _ (mkF m 200 #[.val (.int p0), .val (.int p1), .val (.int p2), .val (.int p3), .val (.int p4), .val (.int (1 : Int32)), .val (.int pp), .val (.ref ou), .val (.ref r), .val (.ref g), .val (.ref q), .unset] [])
        refine g_iload X hx (hb hby at_200) rfl (pc' := 202) rfl ?_
        refine g_iconst X hx (hb hby at_202) (x := (1 : Int32)) (by decide) (pc' := 203) rfl ?_
        refine g_icmp X hx (hb hby at_203) (by decide) (pc' := 219) (by decide) (pc2 := 206) rfl (fun hc => ?_) (fun hc => ?_)
        · replace hc := h_le1 hc
          have hc203 := hc
          refine g_iload X hx (hb hby at_219) rfl (pc' := 221) rfl ?_
          refine g_iconst X hx (hb hby at_221) (x := (2 : Int32)) (by decide) (pc' := 222) rfl ?_
          refine g_icmp X hx (hb hby at_222) (by decide) (pc' := 238) (by decide) (pc2 := 225) rfl (fun hc => ?_) (fun hc => ?_)
          · replace hc := h_le1 hc
            have hc222 := hc
            refine g_iconst X hx (hb hby at_238) (x := (1 : Int32)) (by decide) (pc' := 239) rfl ?_
            refine g_istore X hx (hb hby at_239) (Ls' := #[.val (.int p0), .val (.int p1), .val (.int p2), .val (.int p3), .val (.int p4), .val (.int (1 : Int32)), .val (.int pp), .val (.ref ou), .val (.ref r), .val (.ref g), .val (.ref q), .val (.int (1 : Int32))]) rfl (pc' := 241) rfl ?_
            refine g_iload X hx (hb hby at_241) rfl (pc' := 243) rfl ?_
            refine g_aload X hx (hb hby at_243) rfl rfl (pc' := 245) rfl ?_
            refine g_iconst X hx (hb hby at_245) (x := (0 : Int32)) (by decide) (pc' := 246) rfl ?_
            refine g_virt (W := 1) (argsL := [(.int (0 : Int32))]) (st := [(.int (1 : Int32))]) X hx hZ hown (hw _ (List.mem_of_getElem? (i := 25) rfl)) (hw _ (List.mem_of_getElem? (i := 26) rfl)) (notFace_of_selects (args := #[]) (mvT hZ (hw _ (List.mem_of_getElem? (i := 28) rfl)))) (hw _ (List.mem_of_getElem? (i := 28) rfl)) (hw _ (List.mem_of_getElem? (i := 27) rfl)) (hw _ (List.mem_of_getElem? (i := 29) rfl)) (hw _ (List.mem_of_getElem? (i := 7) rfl)) (by decide) E_q (rmCo l Z a0 hw q x1 x2 x3 (stp S0 w0 r0) (0 : Int32) h n0 Zn F_q_lastPlusOne F_q_next F_q_counts A_x1 A_x2 A_x3 (ok_at (a := (1, 1)) (by decide) pw0 pw1 pw2 hR (by decide)).1) eT (by decide) (by decide) (by decide) (by decide) (lenOf pd_1 rfl) (by rw [hml]; rfl) rfl (Nat.le_of_eq rfl) (hb hby at_246) (pc' := 249) rfl (fun T hn vq Lq X eT hQ => ?_)
            obtain ⟨rfl, Nq, hE⟩ := hQ
            replace N := Fr.app N Nq
            rw [hE] at eT; clear hE
            show WGo _ _ _ _ _ _ _ _ (mkF m 249 #[.val (.int p0), .val (.int p1), .val (.int p2), .val (.int p3), .val (.int p4), .val (.int (1 : Int32)), .val (.int pp), .val (.ref ou), .val (.ref r), .val (.ref g), .val (.ref q), .val (.int (1 : Int32))] [(.int ((stp S0 w0 r0).2.2.getD (0 : Int32).toNatClampNeg 0)), (.int (1 : Int32))])
            refine g_aload X hx (hb hby at_249) rfl rfl (pc' := 251) rfl ?_
            refine g_iload X hx (hb hby at_251) rfl (pc' := 253) rfl ?_
            refine g_iconst X hx (hb hby at_253) (x := (0 : Int32)) (by decide) (pc' := 254) rfl ?_
            refine g_stat (W := 2) (argsL := [(.ref g), (.int (1 : Int32)), (.int (0 : Int32))]) (st := [(.int ((stp S0 w0 r0).2.2.getD (0 : Int32).toNatClampNeg 0)), (.int (1 : Int32))]) X hx hZ hown (hw _ (List.mem_of_getElem? (i := 30) rfl)) (hw _ (List.mem_of_getElem? (i := 31) rfl)) (hw _ (List.mem_of_getElem? (i := 32) rfl)) (hw _ (List.mem_of_getElem? (i := 33) rfl)) (by decide) (rmXC l Z a0 hw g w0 w1 w2 (1 : Int32) (0 : Int32) h n0 Zn A_g ) eT (by decide) (by decide) (by decide) (by decide) (lenOf pd_2 rfl) (by rw [hml]; rfl) rfl (Nat.le_of_eq rfl) (hb hby at_254) (pc' := 257) rfl (fun T hn vq Lq X eT hQ => ?_)
            obtain ⟨rfl, Nq, hE⟩ := hQ
            replace N := Fr.app N Nq
            rw [hE] at eT; clear hE
            show WGo _ _ _ _ _ _ _ _ (mkF m 257 #[.val (.int p0), .val (.int p1), .val (.int p2), .val (.int p3), .val (.int p4), .val (.int (1 : Int32)), .val (.int pp), .val (.ref ou), .val (.ref r), .val (.ref g), .val (.ref q), .val (.int (1 : Int32))] [(.int (expC (1 : Int32) (0 : Int32) w0 w1 w2)), (.int ((stp S0 w0 r0).2.2.getD (0 : Int32).toNatClampNeg 0)), (.int (1 : Int32))])
            refine g_icmp X hx (hb hby at_257) (by decide) (pc' := 264) (by decide) (pc2 := 260) rfl (fun hc => ?_) (fun hc => ?_)
            · replace hc := h_ne1 hc
              have hc257 := hc
              exfalso
              exact hc (ok_at (a := (1, 1)) (by decide) pw0 pw1 pw2 hR (by decide)).2.1
            · replace hc := h_ne0 hc
              have hc257 := hc
              refine g_iconst X hx (hb hby at_260) (x := (1 : Int32)) (by decide) (pc' := 261) rfl ?_
              refine g_goto X hx (hb hby at_261) (by decide) (pc' := 265) (by decide) ?_
              refine g_iand X hx (hb hby at_265) (pc' := 266) rfl ?_
              rw [show ((1 : Int32) &&& (1 : Int32)) = (1 : Int32) from by decide]
              refine g_istore X hx (hb hby at_266) (Ls' := #[.val (.int p0), .val (.int p1), .val (.int p2), .val (.int p3), .val (.int p4), .val (.int (1 : Int32)), .val (.int pp), .val (.ref ou), .val (.ref r), .val (.ref g), .val (.ref q), .val (.int (1 : Int32))]) rfl (pc' := 268) rfl ?_
              refine g_iload X hx (hb hby at_268) rfl (pc' := 270) rfl ?_
              refine g_aload X hx (hb hby at_270) rfl rfl (pc' := 272) rfl ?_
              refine g_iconst X hx (hb hby at_272) (x := (1 : Int32)) (by decide) (pc' := 273) rfl ?_
              refine g_virt (W := 1) (argsL := [(.int (1 : Int32))]) (st := [(.int (1 : Int32))]) X hx hZ hown (hw _ (List.mem_of_getElem? (i := 25) rfl)) (hw _ (List.mem_of_getElem? (i := 26) rfl)) (notFace_of_selects (args := #[]) (mvT hZ (hw _ (List.mem_of_getElem? (i := 28) rfl)))) (hw _ (List.mem_of_getElem? (i := 28) rfl)) (hw _ (List.mem_of_getElem? (i := 27) rfl)) (hw _ (List.mem_of_getElem? (i := 29) rfl)) (hw _ (List.mem_of_getElem? (i := 7) rfl)) (by decide) E_q (rmCo l Z a0 hw q x1 x2 x3 (stp S0 w0 r0) (1 : Int32) h n0 Zn F_q_lastPlusOne F_q_next F_q_counts A_x1 A_x2 A_x3 (ok_at (a := (1, 1)) (by decide) pw0 pw1 pw2 hR (by decide)).1) eT (by decide) (by decide) (by decide) (by decide) (lenOf pd_1 rfl) (by rw [hml]; rfl) rfl (Nat.le_of_eq rfl) (hb hby at_273) (pc' := 276) rfl (fun T hn vq Lq X eT hQ => ?_)
              obtain ⟨rfl, Nq, hE⟩ := hQ
              replace N := Fr.app N Nq
              rw [hE] at eT; clear hE
              show WGo _ _ _ _ _ _ _ _ (mkF m 276 #[.val (.int p0), .val (.int p1), .val (.int p2), .val (.int p3), .val (.int p4), .val (.int (1 : Int32)), .val (.int pp), .val (.ref ou), .val (.ref r), .val (.ref g), .val (.ref q), .val (.int (1 : Int32))] [(.int ((stp S0 w0 r0).2.2.getD (1 : Int32).toNatClampNeg 0)), (.int (1 : Int32))])
              refine g_aload X hx (hb hby at_276) rfl rfl (pc' := 278) rfl ?_
              refine g_iload X hx (hb hby at_278) rfl (pc' := 280) rfl ?_
              refine g_iconst X hx (hb hby at_280) (x := (1 : Int32)) (by decide) (pc' := 281) rfl ?_
              refine g_stat (W := 2) (argsL := [(.ref g), (.int (1 : Int32)), (.int (1 : Int32))]) (st := [(.int ((stp S0 w0 r0).2.2.getD (1 : Int32).toNatClampNeg 0)), (.int (1 : Int32))]) X hx hZ hown (hw _ (List.mem_of_getElem? (i := 30) rfl)) (hw _ (List.mem_of_getElem? (i := 31) rfl)) (hw _ (List.mem_of_getElem? (i := 32) rfl)) (hw _ (List.mem_of_getElem? (i := 33) rfl)) (by decide) (rmXC l Z a0 hw g w0 w1 w2 (1 : Int32) (1 : Int32) h n0 Zn A_g ) eT (by decide) (by decide) (by decide) (by decide) (lenOf pd_2 rfl) (by rw [hml]; rfl) rfl (Nat.le_of_eq rfl) (hb hby at_281) (pc' := 284) rfl (fun T hn vq Lq X eT hQ => ?_)
              obtain ⟨rfl, Nq, hE⟩ := hQ
              replace N := Fr.app N Nq
              rw [hE] at eT; clear hE
              show WGo _ _ _ _ _ _ _ _ (mkF m 284 #[.val (.int p0), .val (.int p1), .val (.int p2), .val (.int p3), .val (.int p4), .val (.int (1 : Int32)), .val (.int pp), .val (.ref ou), .val (.ref r), .val (.ref g), .val (.ref q), .val (.int (1 : Int32))] [(.int (expC (1 : Int32) (1 : Int32) w0 w1 w2)), (.int ((stp S0 w0 r0).2.2.getD (1 : Int32).toNatClampNeg 0)), (.int (1 : Int32))])
              refine g_icmp X hx (hb hby at_284) (by decide) (pc' := 291) (by decide) (pc2 := 287) rfl (fun hc => ?_) (fun hc => ?_)
              · replace hc := h_ne1 hc
                have hc284 := hc
                exfalso
                exact hc (ok_at (a := (1, 1)) (by decide) pw0 pw1 pw2 hR (by decide)).2.1
              · replace hc := h_ne0 hc
                have hc284 := hc
                refine g_iconst X hx (hb hby at_287) (x := (1 : Int32)) (by decide) (pc' := 288) rfl ?_
                refine g_goto X hx (hb hby at_288) (by decide) (pc' := 292) (by decide) ?_
                refine g_iand X hx (hb hby at_292) (pc' := 293) rfl ?_
                rw [show ((1 : Int32) &&& (1 : Int32)) = (1 : Int32) from by decide]
                refine g_istore X hx (hb hby at_293) (Ls' := #[.val (.int p0), .val (.int p1), .val (.int p2), .val (.int p3), .val (.int p4), .val (.int (1 : Int32)), .val (.int pp), .val (.ref ou), .val (.ref r), .val (.ref g), .val (.ref q), .val (.int (1 : Int32))]) rfl (pc' := 295) rfl ?_
                refine g_iload X hx (hb hby at_295) rfl (pc' := 297) rfl ?_
                refine g_aload X hx (hb hby at_297) rfl rfl (pc' := 299) rfl ?_
                refine g_iconst X hx (hb hby at_299) (x := (2 : Int32)) (by decide) (pc' := 300) rfl ?_
                refine g_virt (W := 1) (argsL := [(.int (2 : Int32))]) (st := [(.int (1 : Int32))]) X hx hZ hown (hw _ (List.mem_of_getElem? (i := 25) rfl)) (hw _ (List.mem_of_getElem? (i := 26) rfl)) (notFace_of_selects (args := #[]) (mvT hZ (hw _ (List.mem_of_getElem? (i := 28) rfl)))) (hw _ (List.mem_of_getElem? (i := 28) rfl)) (hw _ (List.mem_of_getElem? (i := 27) rfl)) (hw _ (List.mem_of_getElem? (i := 29) rfl)) (hw _ (List.mem_of_getElem? (i := 7) rfl)) (by decide) E_q (rmCo l Z a0 hw q x1 x2 x3 (stp S0 w0 r0) (2 : Int32) h n0 Zn F_q_lastPlusOne F_q_next F_q_counts A_x1 A_x2 A_x3 (ok_at (a := (1, 1)) (by decide) pw0 pw1 pw2 hR (by decide)).1) eT (by decide) (by decide) (by decide) (by decide) (lenOf pd_1 rfl) (by rw [hml]; rfl) rfl (Nat.le_of_eq rfl) (hb hby at_300) (pc' := 303) rfl (fun T hn vq Lq X eT hQ => ?_)
                obtain ⟨rfl, Nq, hE⟩ := hQ
                replace N := Fr.app N Nq
                rw [hE] at eT; clear hE
                show WGo _ _ _ _ _ _ _ _ (mkF m 303 #[.val (.int p0), .val (.int p1), .val (.int p2), .val (.int p3), .val (.int p4), .val (.int (1 : Int32)), .val (.int pp), .val (.ref ou), .val (.ref r), .val (.ref g), .val (.ref q), .val (.int (1 : Int32))] [(.int ((stp S0 w0 r0).2.2.getD (2 : Int32).toNatClampNeg 0)), (.int (1 : Int32))])
                refine g_aload X hx (hb hby at_303) rfl rfl (pc' := 305) rfl ?_
                refine g_iload X hx (hb hby at_305) rfl (pc' := 307) rfl ?_
                refine g_iconst X hx (hb hby at_307) (x := (2 : Int32)) (by decide) (pc' := 308) rfl ?_
                refine g_stat (W := 2) (argsL := [(.ref g), (.int (1 : Int32)), (.int (2 : Int32))]) (st := [(.int ((stp S0 w0 r0).2.2.getD (2 : Int32).toNatClampNeg 0)), (.int (1 : Int32))]) X hx hZ hown (hw _ (List.mem_of_getElem? (i := 30) rfl)) (hw _ (List.mem_of_getElem? (i := 31) rfl)) (hw _ (List.mem_of_getElem? (i := 32) rfl)) (hw _ (List.mem_of_getElem? (i := 33) rfl)) (by decide) (rmXC l Z a0 hw g w0 w1 w2 (1 : Int32) (2 : Int32) h n0 Zn A_g ) eT (by decide) (by decide) (by decide) (by decide) (lenOf pd_2 rfl) (by rw [hml]; rfl) rfl (Nat.le_of_eq rfl) (hb hby at_308) (pc' := 311) rfl (fun T hn vq Lq X eT hQ => ?_)
                obtain ⟨rfl, Nq, hE⟩ := hQ
                replace N := Fr.app N Nq
                rw [hE] at eT; clear hE
                show WGo _ _ _ _ _ _ _ _ (mkF m 311 #[.val (.int p0), .val (.int p1), .val (.int p2), .val (.int p3), .val (.int p4), .val (.int (1 : Int32)), .val (.int pp), .val (.ref ou), .val (.ref r), .val (.ref g), .val (.ref q), .val (.int (1 : Int32))] [(.int (expC (1 : Int32) (2 : Int32) w0 w1 w2)), (.int ((stp S0 w0 r0).2.2.getD (2 : Int32).toNatClampNeg 0)), (.int (1 : Int32))])
                refine g_icmp X hx (hb hby at_311) (by decide) (pc' := 318) (by decide) (pc2 := 314) rfl (fun hc => ?_) (fun hc => ?_)
                · replace hc := h_ne1 hc
                  have hc311 := hc
                  exfalso
                  exact hc (ok_at (a := (1, 1)) (by decide) pw0 pw1 pw2 hR (by decide)).2.1
                · replace hc := h_ne0 hc
                  have hc311 := hc
                  refine g_iconst X hx (hb hby at_314) (x := (1 : Int32)) (by decide) (pc' := 315) rfl ?_
                  refine g_goto X hx (hb hby at_315) (by decide) (pc' := 319) (by decide) ?_
                  refine g_iand X hx (hb hby at_319) (pc' := 320) rfl ?_
                  rw [show ((1 : Int32) &&& (1 : Int32)) = (1 : Int32) from by decide]
                  refine g_istore X hx (hb hby at_320) (Ls' := #[.val (.int p0), .val (.int p1), .val (.int p2), .val (.int p3), .val (.int p4), .val (.int (1 : Int32)), .val (.int pp), .val (.ref ou), .val (.ref r), .val (.ref g), .val (.ref q), .val (.int (1 : Int32))]) rfl (pc' := 322) rfl ?_
                  refine g_iload X hx (hb hby at_322) rfl (pc' := 324) rfl ?_
                  refine g_aload X hx (hb hby at_324) rfl rfl (pc' := 326) rfl ?_
                  refine g_iconst X hx (hb hby at_326) (x := (0 : Int32)) (by decide) (pc' := 327) rfl ?_
                  refine g_virt (W := 1) (argsL := [(.int (0 : Int32))]) (st := [(.int (1 : Int32))]) X hx hZ hown (hw _ (List.mem_of_getElem? (i := 34) rfl)) (hw _ (List.mem_of_getElem? (i := 35) rfl)) (notFace_of_selects (args := #[]) (mvT hZ (hw _ (List.mem_of_getElem? (i := 37) rfl)))) (hw _ (List.mem_of_getElem? (i := 37) rfl)) (hw _ (List.mem_of_getElem? (i := 36) rfl)) (hw _ (List.mem_of_getElem? (i := 38) rfl)) (hw _ (List.mem_of_getElem? (i := 7) rfl)) (by decide) E_q (rmFi l Z a0 hw q x1 x2 x3 (stp S0 w0 r0) (0 : Int32) h n0 Zn F_q_lastPlusOne F_q_next F_q_counts A_x1 A_x2 A_x3 (ok_at (a := (1, 1)) (by decide) pw0 pw1 pw2 hR (by decide)).1) eT (by decide) (by decide) (by decide) (by decide) (lenOf pd_1 rfl) (by rw [hml]; rfl) rfl (Nat.le_of_eq rfl) (hb hby at_327) (pc' := 330) rfl (fun T hn vq Lq X eT hQ => ?_)
                  obtain ⟨rfl, Nq, hE⟩ := hQ
                  replace N := Fr.app N Nq
                  rw [hE] at eT; clear hE
                  show WGo _ _ _ _ _ _ _ _ (mkF m 330 #[.val (.int p0), .val (.int p1), .val (.int p2), .val (.int p3), .val (.int p4), .val (.int (1 : Int32)), .val (.int pp), .val (.ref ou), .val (.ref r), .val (.ref g), .val (.ref q), .val (.int (1 : Int32))] [(.int (firV (stp S0 w0 r0) (0 : Int32))), (.int (1 : Int32))])
                  refine g_aload X hx (hb hby at_330) rfl rfl (pc' := 332) rfl ?_
                  refine g_aload X hx (hb hby at_332) rfl rfl (pc' := 334) rfl ?_
                  refine g_iload X hx (hb hby at_334) rfl (pc' := 336) rfl ?_
                  refine g_iconst X hx (hb hby at_336) (x := (0 : Int32)) (by decide) (pc' := 337) rfl ?_
                  refine g_stat (W := 2) (argsL := [(.ref g), (.ref r), (.int (1 : Int32)), (.int (0 : Int32))]) (st := [(.int (firV (stp S0 w0 r0) (0 : Int32))), (.int (1 : Int32))]) X hx hZ hown (hw _ (List.mem_of_getElem? (i := 39) rfl)) (hw _ (List.mem_of_getElem? (i := 40) rfl)) (hw _ (List.mem_of_getElem? (i := 32) rfl)) (hw _ (List.mem_of_getElem? (i := 41) rfl)) (by decide) (rmXF l Z a0 hw g w0 w1 w2 r r0 r1 r2 (1 : Int32) (0 : Int32) h n0 Zn A_g A_r ) eT (by decide) (by decide) (by decide) (by decide) (lenOf pd_3 rfl) (by rw [hml]; rfl) rfl (Nat.le_of_eq rfl) (hb hby at_337) (pc' := 340) rfl (fun T hn vq Lq X eT hQ => ?_)
                  obtain ⟨rfl, Nq, hE⟩ := hQ
                  replace N := Fr.app N Nq
                  rw [hE] at eT; clear hE
                  show WGo _ _ _ _ _ _ _ _ (mkF m 340 #[.val (.int p0), .val (.int p1), .val (.int p2), .val (.int p3), .val (.int p4), .val (.int (1 : Int32)), .val (.int pp), .val (.ref ou), .val (.ref r), .val (.ref g), .val (.ref q), .val (.int (1 : Int32))] [(.int (expF (1 : Int32) (0 : Int32) w0 w1 w2 r0 r1 r2)), (.int (firV (stp S0 w0 r0) (0 : Int32))), (.int (1 : Int32))])
                  refine g_icmp X hx (hb hby at_340) (by decide) (pc' := 347) (by decide) (pc2 := 343) rfl (fun hc => ?_) (fun hc => ?_)
                  · replace hc := h_ne1 hc
                    have hc340 := hc
                    exfalso
                    exact hc (ok_at (a := (1, 1)) (by decide) pw0 pw1 pw2 hR (by decide)).2.2
                  · replace hc := h_ne0 hc
                    have hc340 := hc
                    refine g_iconst X hx (hb hby at_343) (x := (1 : Int32)) (by decide) (pc' := 344) rfl ?_
                    refine g_goto X hx (hb hby at_344) (by decide) (pc' := 348) (by decide) ?_
                    refine g_iand X hx (hb hby at_348) (pc' := 349) rfl ?_
                    rw [show ((1 : Int32) &&& (1 : Int32)) = (1 : Int32) from by decide]
                    refine g_istore X hx (hb hby at_349) (Ls' := #[.val (.int p0), .val (.int p1), .val (.int p2), .val (.int p3), .val (.int p4), .val (.int (1 : Int32)), .val (.int pp), .val (.ref ou), .val (.ref r), .val (.ref g), .val (.ref q), .val (.int (1 : Int32))]) rfl (pc' := 351) rfl ?_
                    refine g_iload X hx (hb hby at_351) rfl (pc' := 353) rfl ?_
                    refine g_aload X hx (hb hby at_353) rfl rfl (pc' := 355) rfl ?_
                    refine g_iconst X hx (hb hby at_355) (x := (1 : Int32)) (by decide) (pc' := 356) rfl ?_
                    refine g_virt (W := 1) (argsL := [(.int (1 : Int32))]) (st := [(.int (1 : Int32))]) X hx hZ hown (hw _ (List.mem_of_getElem? (i := 34) rfl)) (hw _ (List.mem_of_getElem? (i := 35) rfl)) (notFace_of_selects (args := #[]) (mvT hZ (hw _ (List.mem_of_getElem? (i := 37) rfl)))) (hw _ (List.mem_of_getElem? (i := 37) rfl)) (hw _ (List.mem_of_getElem? (i := 36) rfl)) (hw _ (List.mem_of_getElem? (i := 38) rfl)) (hw _ (List.mem_of_getElem? (i := 7) rfl)) (by decide) E_q (rmFi l Z a0 hw q x1 x2 x3 (stp S0 w0 r0) (1 : Int32) h n0 Zn F_q_lastPlusOne F_q_next F_q_counts A_x1 A_x2 A_x3 (ok_at (a := (1, 1)) (by decide) pw0 pw1 pw2 hR (by decide)).1) eT (by decide) (by decide) (by decide) (by decide) (lenOf pd_1 rfl) (by rw [hml]; rfl) rfl (Nat.le_of_eq rfl) (hb hby at_356) (pc' := 359) rfl (fun T hn vq Lq X eT hQ => ?_)
                    obtain ⟨rfl, Nq, hE⟩ := hQ
                    replace N := Fr.app N Nq
                    rw [hE] at eT; clear hE
                    show WGo _ _ _ _ _ _ _ _ (mkF m 359 #[.val (.int p0), .val (.int p1), .val (.int p2), .val (.int p3), .val (.int p4), .val (.int (1 : Int32)), .val (.int pp), .val (.ref ou), .val (.ref r), .val (.ref g), .val (.ref q), .val (.int (1 : Int32))] [(.int (firV (stp S0 w0 r0) (1 : Int32))), (.int (1 : Int32))])
                    refine g_aload X hx (hb hby at_359) rfl rfl (pc' := 361) rfl ?_
                    refine g_aload X hx (hb hby at_361) rfl rfl (pc' := 363) rfl ?_
                    refine g_iload X hx (hb hby at_363) rfl (pc' := 365) rfl ?_
                    refine g_iconst X hx (hb hby at_365) (x := (1 : Int32)) (by decide) (pc' := 366) rfl ?_
                    refine g_stat (W := 2) (argsL := [(.ref g), (.ref r), (.int (1 : Int32)), (.int (1 : Int32))]) (st := [(.int (firV (stp S0 w0 r0) (1 : Int32))), (.int (1 : Int32))]) X hx hZ hown (hw _ (List.mem_of_getElem? (i := 39) rfl)) (hw _ (List.mem_of_getElem? (i := 40) rfl)) (hw _ (List.mem_of_getElem? (i := 32) rfl)) (hw _ (List.mem_of_getElem? (i := 41) rfl)) (by decide) (rmXF l Z a0 hw g w0 w1 w2 r r0 r1 r2 (1 : Int32) (1 : Int32) h n0 Zn A_g A_r ) eT (by decide) (by decide) (by decide) (by decide) (lenOf pd_3 rfl) (by rw [hml]; rfl) rfl (Nat.le_of_eq rfl) (hb hby at_366) (pc' := 369) rfl (fun T hn vq Lq X eT hQ => ?_)
                    obtain ⟨rfl, Nq, hE⟩ := hQ
                    replace N := Fr.app N Nq
                    rw [hE] at eT; clear hE
                    show WGo _ _ _ _ _ _ _ _ (mkF m 369 #[.val (.int p0), .val (.int p1), .val (.int p2), .val (.int p3), .val (.int p4), .val (.int (1 : Int32)), .val (.int pp), .val (.ref ou), .val (.ref r), .val (.ref g), .val (.ref q), .val (.int (1 : Int32))] [(.int (expF (1 : Int32) (1 : Int32) w0 w1 w2 r0 r1 r2)), (.int (firV (stp S0 w0 r0) (1 : Int32))), (.int (1 : Int32))])
                    refine g_icmp X hx (hb hby at_369) (by decide) (pc' := 376) (by decide) (pc2 := 372) rfl (fun hc => ?_) (fun hc => ?_)
                    · replace hc := h_ne1 hc
                      have hc369 := hc
                      exfalso
                      exact hc (ok_at (a := (1, 1)) (by decide) pw0 pw1 pw2 hR (by decide)).2.2
                    · replace hc := h_ne0 hc
                      have hc369 := hc
                      refine g_iconst X hx (hb hby at_372) (x := (1 : Int32)) (by decide) (pc' := 373) rfl ?_
                      refine g_goto X hx (hb hby at_373) (by decide) (pc' := 377) (by decide) ?_
                      refine g_iand X hx (hb hby at_377) (pc' := 378) rfl ?_
                      rw [show ((1 : Int32) &&& (1 : Int32)) = (1 : Int32) from by decide]
                      refine g_istore X hx (hb hby at_378) (Ls' := #[.val (.int p0), .val (.int p1), .val (.int p2), .val (.int p3), .val (.int p4), .val (.int (1 : Int32)), .val (.int pp), .val (.ref ou), .val (.ref r), .val (.ref g), .val (.ref q), .val (.int (1 : Int32))]) rfl (pc' := 380) rfl ?_
                      refine g_iload X hx (hb hby at_380) rfl (pc' := 382) rfl ?_
                      refine g_aload X hx (hb hby at_382) rfl rfl (pc' := 384) rfl ?_
                      refine g_iconst X hx (hb hby at_384) (x := (2 : Int32)) (by decide) (pc' := 385) rfl ?_
                      refine g_virt (W := 1) (argsL := [(.int (2 : Int32))]) (st := [(.int (1 : Int32))]) X hx hZ hown (hw _ (List.mem_of_getElem? (i := 34) rfl)) (hw _ (List.mem_of_getElem? (i := 35) rfl)) (notFace_of_selects (args := #[]) (mvT hZ (hw _ (List.mem_of_getElem? (i := 37) rfl)))) (hw _ (List.mem_of_getElem? (i := 37) rfl)) (hw _ (List.mem_of_getElem? (i := 36) rfl)) (hw _ (List.mem_of_getElem? (i := 38) rfl)) (hw _ (List.mem_of_getElem? (i := 7) rfl)) (by decide) E_q (rmFi l Z a0 hw q x1 x2 x3 (stp S0 w0 r0) (2 : Int32) h n0 Zn F_q_lastPlusOne F_q_next F_q_counts A_x1 A_x2 A_x3 (ok_at (a := (1, 1)) (by decide) pw0 pw1 pw2 hR (by decide)).1) eT (by decide) (by decide) (by decide) (by decide) (lenOf pd_1 rfl) (by rw [hml]; rfl) rfl (Nat.le_of_eq rfl) (hb hby at_385) (pc' := 388) rfl (fun T hn vq Lq X eT hQ => ?_)
                      obtain ⟨rfl, Nq, hE⟩ := hQ
                      replace N := Fr.app N Nq
                      rw [hE] at eT; clear hE
                      show WGo _ _ _ _ _ _ _ _ (mkF m 388 #[.val (.int p0), .val (.int p1), .val (.int p2), .val (.int p3), .val (.int p4), .val (.int (1 : Int32)), .val (.int pp), .val (.ref ou), .val (.ref r), .val (.ref g), .val (.ref q), .val (.int (1 : Int32))] [(.int (firV (stp S0 w0 r0) (2 : Int32))), (.int (1 : Int32))])
                      refine g_aload X hx (hb hby at_388) rfl rfl (pc' := 390) rfl ?_
                      refine g_aload X hx (hb hby at_390) rfl rfl (pc' := 392) rfl ?_
                      refine g_iload X hx (hb hby at_392) rfl (pc' := 394) rfl ?_
                      refine g_iconst X hx (hb hby at_394) (x := (2 : Int32)) (by decide) (pc' := 395) rfl ?_
                      refine g_stat (W := 2) (argsL := [(.ref g), (.ref r), (.int (1 : Int32)), (.int (2 : Int32))]) (st := [(.int (firV (stp S0 w0 r0) (2 : Int32))), (.int (1 : Int32))]) X hx hZ hown (hw _ (List.mem_of_getElem? (i := 39) rfl)) (hw _ (List.mem_of_getElem? (i := 40) rfl)) (hw _ (List.mem_of_getElem? (i := 32) rfl)) (hw _ (List.mem_of_getElem? (i := 41) rfl)) (by decide) (rmXF l Z a0 hw g w0 w1 w2 r r0 r1 r2 (1 : Int32) (2 : Int32) h n0 Zn A_g A_r ) eT (by decide) (by decide) (by decide) (by decide) (lenOf pd_3 rfl) (by rw [hml]; rfl) rfl (Nat.le_of_eq rfl) (hb hby at_395) (pc' := 398) rfl (fun T hn vq Lq X eT hQ => ?_)
                      obtain ⟨rfl, Nq, hE⟩ := hQ
                      replace N := Fr.app N Nq
                      rw [hE] at eT; clear hE
                      show WGo _ _ _ _ _ _ _ _ (mkF m 398 #[.val (.int p0), .val (.int p1), .val (.int p2), .val (.int p3), .val (.int p4), .val (.int (1 : Int32)), .val (.int pp), .val (.ref ou), .val (.ref r), .val (.ref g), .val (.ref q), .val (.int (1 : Int32))] [(.int (expF (1 : Int32) (2 : Int32) w0 w1 w2 r0 r1 r2)), (.int (firV (stp S0 w0 r0) (2 : Int32))), (.int (1 : Int32))])
                      refine g_icmp X hx (hb hby at_398) (by decide) (pc' := 405) (by decide) (pc2 := 401) rfl (fun hc => ?_) (fun hc => ?_)
                      · replace hc := h_ne1 hc
                        have hc398 := hc
                        exfalso
                        exact hc (ok_at (a := (1, 1)) (by decide) pw0 pw1 pw2 hR (by decide)).2.2
                      · replace hc := h_ne0 hc
                        have hc398 := hc
                        refine g_iconst X hx (hb hby at_401) (x := (1 : Int32)) (by decide) (pc' := 402) rfl ?_
                        refine g_goto X hx (hb hby at_402) (by decide) (pc' := 406) (by decide) ?_
                        refine g_iand X hx (hb hby at_406) (pc' := 407) rfl ?_
                        rw [show ((1 : Int32) &&& (1 : Int32)) = (1 : Int32) from by decide]
                        refine g_istore X hx (hb hby at_407) (Ls' := #[.val (.int p0), .val (.int p1), .val (.int p2), .val (.int p3), .val (.int p4), .val (.int (1 : Int32)), .val (.int pp), .val (.ref ou), .val (.ref r), .val (.ref g), .val (.ref q), .val (.int (1 : Int32))]) rfl (pc' := 409) rfl ?_
                        refine g_iload X hx (hb hby at_409) rfl (pc' := 411) rfl ?_
                        refine g_if X hx (hb hby at_411) (by decide) (pc' := 450) (by decide) (pc2 := 414) rfl (fun hc => ?_) (fun hc => ?_)
                        · replace hc := h_le1 hc
                          have hc411 := hc
                          exfalso
                          clear hc411; revert hc; decide
                        · replace hc := h_le0 hc
                          have hc411 := hc
                          refine g_iload X hx (hb hby at_414) rfl (pc' := 416) rfl ?_
                          refine g_aload X hx (hb hby at_416) rfl rfl (pc' := 418) rfl ?_
                          refine g_aload X hx (hb hby at_418) rfl rfl (pc' := 420) rfl ?_
                          refine g_iconst X hx (hb hby at_420) (x := (0 : Int32)) (by decide) (pc' := 421) rfl ?_
                          refine g_iaload X hx hZ eT A_g.2 (hb hby at_421) (by decide) (by decide) (v := (.int w0)) rfl (pc' := 422) rfl ?_
                          refine g_aload X hx (hb hby at_422) rfl rfl (pc' := 424) rfl ?_
                          refine g_iconst X hx (hb hby at_424) (x := (0 : Int32)) (by decide) (pc' := 425) rfl ?_
                          refine g_iaload X hx hZ eT A_r.2 (hb hby at_425) (by decide) (by decide) (v := (.int r0)) rfl (pc' := 426) rfl ?_
                          refine g_virt (W := 1) (argsL := [(.int w0), (.int r0)]) (st := [(.int (1 : Int32))]) X hx hZ hown (hw _ (List.mem_of_getElem? (i := 42) rfl)) (hw _ (List.mem_of_getElem? (i := 43) rfl)) (notFace_of_selects (args := #[]) (mvT hZ (hw _ (List.mem_of_getElem? (i := 45) rfl)))) (hw _ (List.mem_of_getElem? (i := 45) rfl)) (hw _ (List.mem_of_getElem? (i := 44) rfl)) (hw _ (List.mem_of_getElem? (i := 46) rfl)) (hw _ (List.mem_of_getElem? (i := 7) rfl)) (by decide) E_q (rmAf l Z a0 hw q x1 x2 x3 (stp S0 w0 r0) w0 r0 h n0 Zn F_q_lastPlusOne F_q_next F_q_counts A_x1 A_x2 A_x3 (ok_at (a := (1, 1)) (by decide) pw0 pw1 pw2 hR pw0).1 hR0) eT (by decide) (by decide) (by decide) (by decide) (lenOf pd_5 rfl) (by rw [hml]; rfl) rfl (Nat.le_of_eq rfl) (hb hby at_426) (pc' := 429) rfl (fun T hn vq Lq X eT hQ => ?_)
                          obtain ⟨rfl, Nq, hE⟩ := hQ
                          replace N := Fr.app N Nq
                          rw [hE] at eT; clear hE
                          show WGo _ _ _ _ _ _ _ _ (mkF m 429 #[.val (.int p0), .val (.int p1), .val (.int p2), .val (.int p3), .val (.int p4), .val (.int (1 : Int32)), .val (.int pp), .val (.ref ou), .val (.ref r), .val (.ref g), .val (.ref q), .val (.int (1 : Int32))] [(.int (aftV (stp S0 w0 r0) w0 r0)), (.int (1 : Int32))])
                          refine g_aload X hx (hb hby at_429) rfl rfl (pc' := 431) rfl ?_
                          refine g_aload X hx (hb hby at_431) rfl rfl (pc' := 433) rfl ?_
                          refine g_iload X hx (hb hby at_433) rfl (pc' := 435) rfl ?_
                          refine g_iconst X hx (hb hby at_435) (x := (0 : Int32)) (by decide) (pc' := 436) rfl ?_
                          refine g_stat (W := 2) (argsL := [(.ref g), (.ref r), (.int (1 : Int32)), (.int (0 : Int32))]) (st := [(.int (aftV (stp S0 w0 r0) w0 r0)), (.int (1 : Int32))]) X hx hZ hown (hw _ (List.mem_of_getElem? (i := 47) rfl)) (hw _ (List.mem_of_getElem? (i := 48) rfl)) (hw _ (List.mem_of_getElem? (i := 32) rfl)) (hw _ (List.mem_of_getElem? (i := 49) rfl)) (by decide) (rmXA l Z a0 hw g w0 w1 w2 r r0 r1 r2 (1 : Int32) (0 : Int32) h n0 Zn A_g A_r ) eT (by decide) (by decide) (by decide) (by decide) (lenOf pd_3 rfl) (by rw [hml]; rfl) rfl (Nat.le_of_eq rfl) (hb hby at_436) (pc' := 439) rfl (fun T hn vq Lq X eT hQ => ?_)
                          obtain ⟨rfl, Nq, hE⟩ := hQ
                          replace N := Fr.app N Nq
                          rw [hE] at eT; clear hE
                          show WGo _ _ _ _ _ _ _ _ (mkF m 439 #[.val (.int p0), .val (.int p1), .val (.int p2), .val (.int p3), .val (.int p4), .val (.int (1 : Int32)), .val (.int pp), .val (.ref ou), .val (.ref r), .val (.ref g), .val (.ref q), .val (.int (1 : Int32))] [(.int (expA (1 : Int32) (0 : Int32) w0 w1 w2 r0 r1 r2)), (.int (aftV (stp S0 w0 r0) w0 r0)), (.int (1 : Int32))])
                          refine g_icmp X hx (hb hby at_439) (by decide) (pc' := 446) (by decide) (pc2 := 442) rfl (fun hc => ?_) (fun hc => ?_)
                          · replace hc := h_ne1 hc
                            have hc439 := hc
                            exfalso
                            exact hc ((aft_at (a := (1, 1)) (by decide) pw0 pw1 pw2 hR).1 (by decide))
                          · replace hc := h_ne0 hc
                            have hc439 := hc
                            refine g_iconst X hx (hb hby at_442) (x := (1 : Int32)) (by decide) (pc' := 443) rfl ?_
                            refine g_goto X hx (hb hby at_443) (by decide) (pc' := 447) (by decide) ?_
                            refine g_iand X hx (hb hby at_447) (pc' := 448) rfl ?_
                            rw [show ((1 : Int32) &&& (1 : Int32)) = (1 : Int32) from by decide]
                            refine g_istore X hx (hb hby at_448) (Ls' := #[.val (.int p0), .val (.int p1), .val (.int p2), .val (.int p3), .val (.int p4), .val (.int (1 : Int32)), .val (.int pp), .val (.ref ou), .val (.ref r), .val (.ref g), .val (.ref q), .val (.int (1 : Int32))]) rfl (pc' := 450) rfl ?_
                            refine g_iload X hx (hb hby at_450) rfl (pc' := 452) rfl ?_
                            refine g_iconst X hx (hb hby at_452) (x := (1 : Int32)) (by decide) (pc' := 453) rfl ?_
                            refine g_icmp X hx (hb hby at_453) (by decide) (pc' := 492) (by decide) (pc2 := 456) rfl (fun hc => ?_) (fun hc => ?_)
                            · replace hc := h_le1 hc
                              have hc453 := hc
                              refine g_iload X hx (hb hby at_492) rfl (pc' := 494) rfl ?_
                              refine g_iconst X hx (hb hby at_494) (x := (2 : Int32)) (by decide) (pc' := 495) rfl ?_
                              refine g_icmp X hx (hb hby at_495) (by decide) (pc' := 534) (by decide) (pc2 := 498) rfl (fun hc => ?_) (fun hc => ?_)
                              · replace hc := h_le1 hc
                                have hc495 := hc
                                refine g_iload X hx (hb hby at_534) rfl (pc' := 536) rfl ?_
                                refine g_retN (t := .boolean) X hx hret (by simp) hlk (hb hby at_536) (by decide) (by decide) ?_
                                exact ⟨rfl, N⟩
                              · replace hc := h_le0 hc
                                have hc495 := hc
                                exfalso
                                clear hc495; revert hc; decide
                            · replace hc := h_le0 hc
                              have hc453 := hc
                              exfalso
                              clear hc453; revert hc; decide
          · replace hc := h_le0 hc
            have hc222 := hc
            exfalso
            clear hc222; revert hc; decide
        · replace hc := h_le0 hc
          have hc203 := hc
          exfalso
          clear hc203; revert hc; decide
    · skip
      have hNN : ((2, 2) : Nat × Int32) ∈ NN := by decide
      refine g_iload X hx (hb hby at_182) rfl (pc' := 184) rfl ?_
      refine g_if X hx (hb hby at_184) (by decide) (pc' := 200) (by decide) (pc2 := 187) rfl (fun hc => ?_) (fun hc => ?_)
      · replace hc := h_le1 hc
        have hc184 := hc
        exfalso
        clear hc184; revert hc; decide
      · replace hc := h_le0 hc
        have hc184 := hc
        refine g_aload X hx (hb hby at_187) rfl rfl (pc' := 189) rfl ?_
        refine g_aload X hx (hb hby at_189) rfl rfl (pc' := 191) rfl ?_
        refine g_iconst X hx (hb hby at_191) (x := (0 : Int32)) (by decide) (pc' := 192) rfl ?_
        refine g_iaload X hx hZ eT A_g.2 (hb hby at_192) (by decide) (by decide) (v := (.int w0)) rfl (pc' := 193) rfl ?_
        refine g_aload X hx (hb hby at_193) rfl rfl (pc' := 195) rfl ?_
        refine g_iconst X hx (hb hby at_195) (x := (0 : Int32)) (by decide) (pc' := 196) rfl ?_
        refine g_iaload X hx hZ eT A_r.2 (hb hby at_196) (by decide) (by decide) (v := (.int r0)) rfl (pc' := 197) rfl ?_
        refine g_virt (W := 0) (argsL := [(.int w0), (.int r0)]) (st := []) X hx hZ hown (hw _ (List.mem_of_getElem? (i := 20) rfl)) (hw _ (List.mem_of_getElem? (i := 21) rfl)) (notFace_of_selects (args := #[]) (mvT hZ (hw _ (List.mem_of_getElem? (i := 23) rfl)))) (hw _ (List.mem_of_getElem? (i := 23) rfl)) (hw _ (List.mem_of_getElem? (i := 22) rfl)) (hw _ (List.mem_of_getElem? (i := 24) rfl)) (hw _ (List.mem_of_getElem? (i := 7) rfl)) (by decide) E_q (rmEn l Z a0 hw q x1 x2 x3 S0 w0 r0 h n0 Zn F_q_lastPlusOne F_q_next F_q_counts A_x1 A_x2 A_x3 ne_q_x1 ne_q_x2 ne_q_x3 ne_x1_x2 ne_x1_x3 ne_x2_x3 g_q g_x1 g_x2 g_x3 (ok_at (a := (0, 0)) (by decide) pw0 pw1 pw2 hR pw0).1 hR0) eT (by decide) (by decide) (by decide) (by decide) (lenOf pd_4 rfl) (by rw [hml]; rfl) rfl (Nat.le_of_eq rfl) (hb hby at_197) (pc' := 200) rfl (fun T h vq Lq X eT hQ => ?_)
        obtain ⟨rfl, Nq, Kc, q_A_x1, q_A_x2, q_A_x3⟩ := hQ
        replace N := Fr.app N Nq
        replace F_q_lastPlusOne := F_q_lastPlusOne.keep Kc (ninS ne_q_x1 (ninS ne_q_x2 (ninS ne_q_x3 nin0)))
        replace F_q_next := F_q_next.keep Kc (ninS ne_q_x1 (ninS ne_q_x2 (ninS ne_q_x3 nin0)))
        replace F_q_counts := F_q_counts.keep Kc (ninS ne_q_x1 (ninS ne_q_x2 (ninS ne_q_x3 nin0)))
        replace E_q := E_q.keep Kc
        replace A_r := A_r.keep Kc (ninS ne_r_x1 (ninS ne_r_x2 (ninS ne_r_x3 nin0)))
        replace A_g := A_g.keep Kc (ninS ne_g_x1 (ninS ne_g_x2 (ninS ne_g_x3 nin0)))
        have A_x1 := q_A_x1
        have A_x2 := q_A_x2
        have A_x3 := q_A_x3
        replace Zn := Nat.le_trans Zn Kc.1
        show WGo _ _ _ _ _ _ _ _ (mkF m 200 #[.val (.int p0), .val (.int p1), .val (.int p2), .val (.int p3), .val (.int p4), .val (.int (2 : Int32)), .val (.int pp), .val (.ref ou), .val (.ref r), .val (.ref g), .val (.ref q), .unset] [])
        refine g_iload X hx (hb hby at_200) rfl (pc' := 202) rfl ?_
        refine g_iconst X hx (hb hby at_202) (x := (1 : Int32)) (by decide) (pc' := 203) rfl ?_
        refine g_icmp X hx (hb hby at_203) (by decide) (pc' := 219) (by decide) (pc2 := 206) rfl (fun hc => ?_) (fun hc => ?_)
        · replace hc := h_le1 hc
          have hc203 := hc
          exfalso
          clear hc203; revert hc; decide
        · replace hc := h_le0 hc
          have hc203 := hc
          refine g_aload X hx (hb hby at_206) rfl rfl (pc' := 208) rfl ?_
          refine g_aload X hx (hb hby at_208) rfl rfl (pc' := 210) rfl ?_
          refine g_iconst X hx (hb hby at_210) (x := (1 : Int32)) (by decide) (pc' := 211) rfl ?_
          refine g_iaload X hx hZ eT A_g.2 (hb hby at_211) (by decide) (by decide) (v := (.int w1)) rfl (pc' := 212) rfl ?_
          refine g_aload X hx (hb hby at_212) rfl rfl (pc' := 214) rfl ?_
          refine g_iconst X hx (hb hby at_214) (x := (1 : Int32)) (by decide) (pc' := 215) rfl ?_
          refine g_iaload X hx hZ eT A_r.2 (hb hby at_215) (by decide) (by decide) (v := (.int r1)) rfl (pc' := 216) rfl ?_
          refine g_virt (W := 0) (argsL := [(.int w1), (.int r1)]) (st := []) X hx hZ hown (hw _ (List.mem_of_getElem? (i := 20) rfl)) (hw _ (List.mem_of_getElem? (i := 21) rfl)) (notFace_of_selects (args := #[]) (mvT hZ (hw _ (List.mem_of_getElem? (i := 23) rfl)))) (hw _ (List.mem_of_getElem? (i := 23) rfl)) (hw _ (List.mem_of_getElem? (i := 22) rfl)) (hw _ (List.mem_of_getElem? (i := 24) rfl)) (hw _ (List.mem_of_getElem? (i := 7) rfl)) (by decide) E_q (rmEn l Z a0 hw q x1 x2 x3 (stp S0 w0 r0) w1 r1 h n0 Zn F_q_lastPlusOne F_q_next F_q_counts A_x1 A_x2 A_x3 ne_q_x1 ne_q_x2 ne_q_x3 ne_x1_x2 ne_x1_x3 ne_x2_x3 g_q g_x1 g_x2 g_x3 (ok_at (a := (1, 1)) (by decide) pw0 pw1 pw2 hR pw1).1 hR1) eT (by decide) (by decide) (by decide) (by decide) (lenOf pd_4 rfl) (by rw [hml]; rfl) rfl (Nat.le_of_eq rfl) (hb hby at_216) (pc' := 219) rfl (fun T h vq Lq X eT hQ => ?_)
          obtain ⟨rfl, Nq, Kc, q_A_x1, q_A_x2, q_A_x3⟩ := hQ
          replace N := Fr.app N Nq
          replace F_q_lastPlusOne := F_q_lastPlusOne.keep Kc (ninS ne_q_x1 (ninS ne_q_x2 (ninS ne_q_x3 nin0)))
          replace F_q_next := F_q_next.keep Kc (ninS ne_q_x1 (ninS ne_q_x2 (ninS ne_q_x3 nin0)))
          replace F_q_counts := F_q_counts.keep Kc (ninS ne_q_x1 (ninS ne_q_x2 (ninS ne_q_x3 nin0)))
          replace E_q := E_q.keep Kc
          replace A_r := A_r.keep Kc (ninS ne_r_x1 (ninS ne_r_x2 (ninS ne_r_x3 nin0)))
          replace A_g := A_g.keep Kc (ninS ne_g_x1 (ninS ne_g_x2 (ninS ne_g_x3 nin0)))
          have A_x1 := q_A_x1
          have A_x2 := q_A_x2
          have A_x3 := q_A_x3
          replace Zn := Nat.le_trans Zn Kc.1
          show WGo _ _ _ _ _ _ _ _ (mkF m 219 #[.val (.int p0), .val (.int p1), .val (.int p2), .val (.int p3), .val (.int p4), .val (.int (2 : Int32)), .val (.int pp), .val (.ref ou), .val (.ref r), .val (.ref g), .val (.ref q), .unset] [])
          refine g_iload X hx (hb hby at_219) rfl (pc' := 221) rfl ?_
          refine g_iconst X hx (hb hby at_221) (x := (2 : Int32)) (by decide) (pc' := 222) rfl ?_
          refine g_icmp X hx (hb hby at_222) (by decide) (pc' := 238) (by decide) (pc2 := 225) rfl (fun hc => ?_) (fun hc => ?_)
          · replace hc := h_le1 hc
            have hc222 := hc
            refine g_iconst X hx (hb hby at_238) (x := (1 : Int32)) (by decide) (pc' := 239) rfl ?_
            refine g_istore X hx (hb hby at_239) (Ls' := #[.val (.int p0), .val (.int p1), .val (.int p2), .val (.int p3), .val (.int p4), .val (.int (2 : Int32)), .val (.int pp), .val (.ref ou), .val (.ref r), .val (.ref g), .val (.ref q), .val (.int (1 : Int32))]) rfl (pc' := 241) rfl ?_
            refine g_iload X hx (hb hby at_241) rfl (pc' := 243) rfl ?_
            refine g_aload X hx (hb hby at_243) rfl rfl (pc' := 245) rfl ?_
            refine g_iconst X hx (hb hby at_245) (x := (0 : Int32)) (by decide) (pc' := 246) rfl ?_
            refine g_virt (W := 1) (argsL := [(.int (0 : Int32))]) (st := [(.int (1 : Int32))]) X hx hZ hown (hw _ (List.mem_of_getElem? (i := 25) rfl)) (hw _ (List.mem_of_getElem? (i := 26) rfl)) (notFace_of_selects (args := #[]) (mvT hZ (hw _ (List.mem_of_getElem? (i := 28) rfl)))) (hw _ (List.mem_of_getElem? (i := 28) rfl)) (hw _ (List.mem_of_getElem? (i := 27) rfl)) (hw _ (List.mem_of_getElem? (i := 29) rfl)) (hw _ (List.mem_of_getElem? (i := 7) rfl)) (by decide) E_q (rmCo l Z a0 hw q x1 x2 x3 (stp (stp S0 w0 r0) w1 r1) (0 : Int32) h n0 Zn F_q_lastPlusOne F_q_next F_q_counts A_x1 A_x2 A_x3 (ok_at (a := (2, 2)) (by decide) pw0 pw1 pw2 hR (by decide)).1) eT (by decide) (by decide) (by decide) (by decide) (lenOf pd_1 rfl) (by rw [hml]; rfl) rfl (Nat.le_of_eq rfl) (hb hby at_246) (pc' := 249) rfl (fun T hn vq Lq X eT hQ => ?_)
            obtain ⟨rfl, Nq, hE⟩ := hQ
            replace N := Fr.app N Nq
            rw [hE] at eT; clear hE
            show WGo _ _ _ _ _ _ _ _ (mkF m 249 #[.val (.int p0), .val (.int p1), .val (.int p2), .val (.int p3), .val (.int p4), .val (.int (2 : Int32)), .val (.int pp), .val (.ref ou), .val (.ref r), .val (.ref g), .val (.ref q), .val (.int (1 : Int32))] [(.int ((stp (stp S0 w0 r0) w1 r1).2.2.getD (0 : Int32).toNatClampNeg 0)), (.int (1 : Int32))])
            refine g_aload X hx (hb hby at_249) rfl rfl (pc' := 251) rfl ?_
            refine g_iload X hx (hb hby at_251) rfl (pc' := 253) rfl ?_
            refine g_iconst X hx (hb hby at_253) (x := (0 : Int32)) (by decide) (pc' := 254) rfl ?_
            refine g_stat (W := 2) (argsL := [(.ref g), (.int (2 : Int32)), (.int (0 : Int32))]) (st := [(.int ((stp (stp S0 w0 r0) w1 r1).2.2.getD (0 : Int32).toNatClampNeg 0)), (.int (1 : Int32))]) X hx hZ hown (hw _ (List.mem_of_getElem? (i := 30) rfl)) (hw _ (List.mem_of_getElem? (i := 31) rfl)) (hw _ (List.mem_of_getElem? (i := 32) rfl)) (hw _ (List.mem_of_getElem? (i := 33) rfl)) (by decide) (rmXC l Z a0 hw g w0 w1 w2 (2 : Int32) (0 : Int32) h n0 Zn A_g ) eT (by decide) (by decide) (by decide) (by decide) (lenOf pd_2 rfl) (by rw [hml]; rfl) rfl (Nat.le_of_eq rfl) (hb hby at_254) (pc' := 257) rfl (fun T hn vq Lq X eT hQ => ?_)
            obtain ⟨rfl, Nq, hE⟩ := hQ
            replace N := Fr.app N Nq
            rw [hE] at eT; clear hE
            show WGo _ _ _ _ _ _ _ _ (mkF m 257 #[.val (.int p0), .val (.int p1), .val (.int p2), .val (.int p3), .val (.int p4), .val (.int (2 : Int32)), .val (.int pp), .val (.ref ou), .val (.ref r), .val (.ref g), .val (.ref q), .val (.int (1 : Int32))] [(.int (expC (2 : Int32) (0 : Int32) w0 w1 w2)), (.int ((stp (stp S0 w0 r0) w1 r1).2.2.getD (0 : Int32).toNatClampNeg 0)), (.int (1 : Int32))])
            refine g_icmp X hx (hb hby at_257) (by decide) (pc' := 264) (by decide) (pc2 := 260) rfl (fun hc => ?_) (fun hc => ?_)
            · replace hc := h_ne1 hc
              have hc257 := hc
              exfalso
              exact hc (ok_at (a := (2, 2)) (by decide) pw0 pw1 pw2 hR (by decide)).2.1
            · replace hc := h_ne0 hc
              have hc257 := hc
              refine g_iconst X hx (hb hby at_260) (x := (1 : Int32)) (by decide) (pc' := 261) rfl ?_
              refine g_goto X hx (hb hby at_261) (by decide) (pc' := 265) (by decide) ?_
              refine g_iand X hx (hb hby at_265) (pc' := 266) rfl ?_
              rw [show ((1 : Int32) &&& (1 : Int32)) = (1 : Int32) from by decide]
              refine g_istore X hx (hb hby at_266) (Ls' := #[.val (.int p0), .val (.int p1), .val (.int p2), .val (.int p3), .val (.int p4), .val (.int (2 : Int32)), .val (.int pp), .val (.ref ou), .val (.ref r), .val (.ref g), .val (.ref q), .val (.int (1 : Int32))]) rfl (pc' := 268) rfl ?_
              refine g_iload X hx (hb hby at_268) rfl (pc' := 270) rfl ?_
              refine g_aload X hx (hb hby at_270) rfl rfl (pc' := 272) rfl ?_
              refine g_iconst X hx (hb hby at_272) (x := (1 : Int32)) (by decide) (pc' := 273) rfl ?_
              refine g_virt (W := 1) (argsL := [(.int (1 : Int32))]) (st := [(.int (1 : Int32))]) X hx hZ hown (hw _ (List.mem_of_getElem? (i := 25) rfl)) (hw _ (List.mem_of_getElem? (i := 26) rfl)) (notFace_of_selects (args := #[]) (mvT hZ (hw _ (List.mem_of_getElem? (i := 28) rfl)))) (hw _ (List.mem_of_getElem? (i := 28) rfl)) (hw _ (List.mem_of_getElem? (i := 27) rfl)) (hw _ (List.mem_of_getElem? (i := 29) rfl)) (hw _ (List.mem_of_getElem? (i := 7) rfl)) (by decide) E_q (rmCo l Z a0 hw q x1 x2 x3 (stp (stp S0 w0 r0) w1 r1) (1 : Int32) h n0 Zn F_q_lastPlusOne F_q_next F_q_counts A_x1 A_x2 A_x3 (ok_at (a := (2, 2)) (by decide) pw0 pw1 pw2 hR (by decide)).1) eT (by decide) (by decide) (by decide) (by decide) (lenOf pd_1 rfl) (by rw [hml]; rfl) rfl (Nat.le_of_eq rfl) (hb hby at_273) (pc' := 276) rfl (fun T hn vq Lq X eT hQ => ?_)
              obtain ⟨rfl, Nq, hE⟩ := hQ
              replace N := Fr.app N Nq
              rw [hE] at eT; clear hE
              show WGo _ _ _ _ _ _ _ _ (mkF m 276 #[.val (.int p0), .val (.int p1), .val (.int p2), .val (.int p3), .val (.int p4), .val (.int (2 : Int32)), .val (.int pp), .val (.ref ou), .val (.ref r), .val (.ref g), .val (.ref q), .val (.int (1 : Int32))] [(.int ((stp (stp S0 w0 r0) w1 r1).2.2.getD (1 : Int32).toNatClampNeg 0)), (.int (1 : Int32))])
              refine g_aload X hx (hb hby at_276) rfl rfl (pc' := 278) rfl ?_
              refine g_iload X hx (hb hby at_278) rfl (pc' := 280) rfl ?_
              refine g_iconst X hx (hb hby at_280) (x := (1 : Int32)) (by decide) (pc' := 281) rfl ?_
              refine g_stat (W := 2) (argsL := [(.ref g), (.int (2 : Int32)), (.int (1 : Int32))]) (st := [(.int ((stp (stp S0 w0 r0) w1 r1).2.2.getD (1 : Int32).toNatClampNeg 0)), (.int (1 : Int32))]) X hx hZ hown (hw _ (List.mem_of_getElem? (i := 30) rfl)) (hw _ (List.mem_of_getElem? (i := 31) rfl)) (hw _ (List.mem_of_getElem? (i := 32) rfl)) (hw _ (List.mem_of_getElem? (i := 33) rfl)) (by decide) (rmXC l Z a0 hw g w0 w1 w2 (2 : Int32) (1 : Int32) h n0 Zn A_g ) eT (by decide) (by decide) (by decide) (by decide) (lenOf pd_2 rfl) (by rw [hml]; rfl) rfl (Nat.le_of_eq rfl) (hb hby at_281) (pc' := 284) rfl (fun T hn vq Lq X eT hQ => ?_)
              obtain ⟨rfl, Nq, hE⟩ := hQ
              replace N := Fr.app N Nq
              rw [hE] at eT; clear hE
              show WGo _ _ _ _ _ _ _ _ (mkF m 284 #[.val (.int p0), .val (.int p1), .val (.int p2), .val (.int p3), .val (.int p4), .val (.int (2 : Int32)), .val (.int pp), .val (.ref ou), .val (.ref r), .val (.ref g), .val (.ref q), .val (.int (1 : Int32))] [(.int (expC (2 : Int32) (1 : Int32) w0 w1 w2)), (.int ((stp (stp S0 w0 r0) w1 r1).2.2.getD (1 : Int32).toNatClampNeg 0)), (.int (1 : Int32))])
              refine g_icmp X hx (hb hby at_284) (by decide) (pc' := 291) (by decide) (pc2 := 287) rfl (fun hc => ?_) (fun hc => ?_)
              · replace hc := h_ne1 hc
                have hc284 := hc
                exfalso
                exact hc (ok_at (a := (2, 2)) (by decide) pw0 pw1 pw2 hR (by decide)).2.1
              · replace hc := h_ne0 hc
                have hc284 := hc
                refine g_iconst X hx (hb hby at_287) (x := (1 : Int32)) (by decide) (pc' := 288) rfl ?_
                refine g_goto X hx (hb hby at_288) (by decide) (pc' := 292) (by decide) ?_
                refine g_iand X hx (hb hby at_292) (pc' := 293) rfl ?_
                rw [show ((1 : Int32) &&& (1 : Int32)) = (1 : Int32) from by decide]
                refine g_istore X hx (hb hby at_293) (Ls' := #[.val (.int p0), .val (.int p1), .val (.int p2), .val (.int p3), .val (.int p4), .val (.int (2 : Int32)), .val (.int pp), .val (.ref ou), .val (.ref r), .val (.ref g), .val (.ref q), .val (.int (1 : Int32))]) rfl (pc' := 295) rfl ?_
                refine g_iload X hx (hb hby at_295) rfl (pc' := 297) rfl ?_
                refine g_aload X hx (hb hby at_297) rfl rfl (pc' := 299) rfl ?_
                refine g_iconst X hx (hb hby at_299) (x := (2 : Int32)) (by decide) (pc' := 300) rfl ?_
                refine g_virt (W := 1) (argsL := [(.int (2 : Int32))]) (st := [(.int (1 : Int32))]) X hx hZ hown (hw _ (List.mem_of_getElem? (i := 25) rfl)) (hw _ (List.mem_of_getElem? (i := 26) rfl)) (notFace_of_selects (args := #[]) (mvT hZ (hw _ (List.mem_of_getElem? (i := 28) rfl)))) (hw _ (List.mem_of_getElem? (i := 28) rfl)) (hw _ (List.mem_of_getElem? (i := 27) rfl)) (hw _ (List.mem_of_getElem? (i := 29) rfl)) (hw _ (List.mem_of_getElem? (i := 7) rfl)) (by decide) E_q (rmCo l Z a0 hw q x1 x2 x3 (stp (stp S0 w0 r0) w1 r1) (2 : Int32) h n0 Zn F_q_lastPlusOne F_q_next F_q_counts A_x1 A_x2 A_x3 (ok_at (a := (2, 2)) (by decide) pw0 pw1 pw2 hR (by decide)).1) eT (by decide) (by decide) (by decide) (by decide) (lenOf pd_1 rfl) (by rw [hml]; rfl) rfl (Nat.le_of_eq rfl) (hb hby at_300) (pc' := 303) rfl (fun T hn vq Lq X eT hQ => ?_)
                obtain ⟨rfl, Nq, hE⟩ := hQ
                replace N := Fr.app N Nq
                rw [hE] at eT; clear hE
                show WGo _ _ _ _ _ _ _ _ (mkF m 303 #[.val (.int p0), .val (.int p1), .val (.int p2), .val (.int p3), .val (.int p4), .val (.int (2 : Int32)), .val (.int pp), .val (.ref ou), .val (.ref r), .val (.ref g), .val (.ref q), .val (.int (1 : Int32))] [(.int ((stp (stp S0 w0 r0) w1 r1).2.2.getD (2 : Int32).toNatClampNeg 0)), (.int (1 : Int32))])
                refine g_aload X hx (hb hby at_303) rfl rfl (pc' := 305) rfl ?_
                refine g_iload X hx (hb hby at_305) rfl (pc' := 307) rfl ?_
                refine g_iconst X hx (hb hby at_307) (x := (2 : Int32)) (by decide) (pc' := 308) rfl ?_
                refine g_stat (W := 2) (argsL := [(.ref g), (.int (2 : Int32)), (.int (2 : Int32))]) (st := [(.int ((stp (stp S0 w0 r0) w1 r1).2.2.getD (2 : Int32).toNatClampNeg 0)), (.int (1 : Int32))]) X hx hZ hown (hw _ (List.mem_of_getElem? (i := 30) rfl)) (hw _ (List.mem_of_getElem? (i := 31) rfl)) (hw _ (List.mem_of_getElem? (i := 32) rfl)) (hw _ (List.mem_of_getElem? (i := 33) rfl)) (by decide) (rmXC l Z a0 hw g w0 w1 w2 (2 : Int32) (2 : Int32) h n0 Zn A_g ) eT (by decide) (by decide) (by decide) (by decide) (lenOf pd_2 rfl) (by rw [hml]; rfl) rfl (Nat.le_of_eq rfl) (hb hby at_308) (pc' := 311) rfl (fun T hn vq Lq X eT hQ => ?_)
                obtain ⟨rfl, Nq, hE⟩ := hQ
                replace N := Fr.app N Nq
                rw [hE] at eT; clear hE
                show WGo _ _ _ _ _ _ _ _ (mkF m 311 #[.val (.int p0), .val (.int p1), .val (.int p2), .val (.int p3), .val (.int p4), .val (.int (2 : Int32)), .val (.int pp), .val (.ref ou), .val (.ref r), .val (.ref g), .val (.ref q), .val (.int (1 : Int32))] [(.int (expC (2 : Int32) (2 : Int32) w0 w1 w2)), (.int ((stp (stp S0 w0 r0) w1 r1).2.2.getD (2 : Int32).toNatClampNeg 0)), (.int (1 : Int32))])
                refine g_icmp X hx (hb hby at_311) (by decide) (pc' := 318) (by decide) (pc2 := 314) rfl (fun hc => ?_) (fun hc => ?_)
                · replace hc := h_ne1 hc
                  have hc311 := hc
                  exfalso
                  exact hc (ok_at (a := (2, 2)) (by decide) pw0 pw1 pw2 hR (by decide)).2.1
                · replace hc := h_ne0 hc
                  have hc311 := hc
                  refine g_iconst X hx (hb hby at_314) (x := (1 : Int32)) (by decide) (pc' := 315) rfl ?_
                  refine g_goto X hx (hb hby at_315) (by decide) (pc' := 319) (by decide) ?_
                  refine g_iand X hx (hb hby at_319) (pc' := 320) rfl ?_
                  rw [show ((1 : Int32) &&& (1 : Int32)) = (1 : Int32) from by decide]
                  refine g_istore X hx (hb hby at_320) (Ls' := #[.val (.int p0), .val (.int p1), .val (.int p2), .val (.int p3), .val (.int p4), .val (.int (2 : Int32)), .val (.int pp), .val (.ref ou), .val (.ref r), .val (.ref g), .val (.ref q), .val (.int (1 : Int32))]) rfl (pc' := 322) rfl ?_
                  refine g_iload X hx (hb hby at_322) rfl (pc' := 324) rfl ?_
                  refine g_aload X hx (hb hby at_324) rfl rfl (pc' := 326) rfl ?_
                  refine g_iconst X hx (hb hby at_326) (x := (0 : Int32)) (by decide) (pc' := 327) rfl ?_
                  refine g_virt (W := 1) (argsL := [(.int (0 : Int32))]) (st := [(.int (1 : Int32))]) X hx hZ hown (hw _ (List.mem_of_getElem? (i := 34) rfl)) (hw _ (List.mem_of_getElem? (i := 35) rfl)) (notFace_of_selects (args := #[]) (mvT hZ (hw _ (List.mem_of_getElem? (i := 37) rfl)))) (hw _ (List.mem_of_getElem? (i := 37) rfl)) (hw _ (List.mem_of_getElem? (i := 36) rfl)) (hw _ (List.mem_of_getElem? (i := 38) rfl)) (hw _ (List.mem_of_getElem? (i := 7) rfl)) (by decide) E_q (rmFi l Z a0 hw q x1 x2 x3 (stp (stp S0 w0 r0) w1 r1) (0 : Int32) h n0 Zn F_q_lastPlusOne F_q_next F_q_counts A_x1 A_x2 A_x3 (ok_at (a := (2, 2)) (by decide) pw0 pw1 pw2 hR (by decide)).1) eT (by decide) (by decide) (by decide) (by decide) (lenOf pd_1 rfl) (by rw [hml]; rfl) rfl (Nat.le_of_eq rfl) (hb hby at_327) (pc' := 330) rfl (fun T hn vq Lq X eT hQ => ?_)
                  obtain ⟨rfl, Nq, hE⟩ := hQ
                  replace N := Fr.app N Nq
                  rw [hE] at eT; clear hE
                  show WGo _ _ _ _ _ _ _ _ (mkF m 330 #[.val (.int p0), .val (.int p1), .val (.int p2), .val (.int p3), .val (.int p4), .val (.int (2 : Int32)), .val (.int pp), .val (.ref ou), .val (.ref r), .val (.ref g), .val (.ref q), .val (.int (1 : Int32))] [(.int (firV (stp (stp S0 w0 r0) w1 r1) (0 : Int32))), (.int (1 : Int32))])
                  refine g_aload X hx (hb hby at_330) rfl rfl (pc' := 332) rfl ?_
                  refine g_aload X hx (hb hby at_332) rfl rfl (pc' := 334) rfl ?_
                  refine g_iload X hx (hb hby at_334) rfl (pc' := 336) rfl ?_
                  refine g_iconst X hx (hb hby at_336) (x := (0 : Int32)) (by decide) (pc' := 337) rfl ?_
                  refine g_stat (W := 2) (argsL := [(.ref g), (.ref r), (.int (2 : Int32)), (.int (0 : Int32))]) (st := [(.int (firV (stp (stp S0 w0 r0) w1 r1) (0 : Int32))), (.int (1 : Int32))]) X hx hZ hown (hw _ (List.mem_of_getElem? (i := 39) rfl)) (hw _ (List.mem_of_getElem? (i := 40) rfl)) (hw _ (List.mem_of_getElem? (i := 32) rfl)) (hw _ (List.mem_of_getElem? (i := 41) rfl)) (by decide) (rmXF l Z a0 hw g w0 w1 w2 r r0 r1 r2 (2 : Int32) (0 : Int32) h n0 Zn A_g A_r ) eT (by decide) (by decide) (by decide) (by decide) (lenOf pd_3 rfl) (by rw [hml]; rfl) rfl (Nat.le_of_eq rfl) (hb hby at_337) (pc' := 340) rfl (fun T hn vq Lq X eT hQ => ?_)
                  obtain ⟨rfl, Nq, hE⟩ := hQ
                  replace N := Fr.app N Nq
                  rw [hE] at eT; clear hE
                  show WGo _ _ _ _ _ _ _ _ (mkF m 340 #[.val (.int p0), .val (.int p1), .val (.int p2), .val (.int p3), .val (.int p4), .val (.int (2 : Int32)), .val (.int pp), .val (.ref ou), .val (.ref r), .val (.ref g), .val (.ref q), .val (.int (1 : Int32))] [(.int (expF (2 : Int32) (0 : Int32) w0 w1 w2 r0 r1 r2)), (.int (firV (stp (stp S0 w0 r0) w1 r1) (0 : Int32))), (.int (1 : Int32))])
                  refine g_icmp X hx (hb hby at_340) (by decide) (pc' := 347) (by decide) (pc2 := 343) rfl (fun hc => ?_) (fun hc => ?_)
                  · replace hc := h_ne1 hc
                    have hc340 := hc
                    exfalso
                    exact hc (ok_at (a := (2, 2)) (by decide) pw0 pw1 pw2 hR (by decide)).2.2
                  · replace hc := h_ne0 hc
                    have hc340 := hc
                    refine g_iconst X hx (hb hby at_343) (x := (1 : Int32)) (by decide) (pc' := 344) rfl ?_
                    refine g_goto X hx (hb hby at_344) (by decide) (pc' := 348) (by decide) ?_
                    refine g_iand X hx (hb hby at_348) (pc' := 349) rfl ?_
                    rw [show ((1 : Int32) &&& (1 : Int32)) = (1 : Int32) from by decide]
                    refine g_istore X hx (hb hby at_349) (Ls' := #[.val (.int p0), .val (.int p1), .val (.int p2), .val (.int p3), .val (.int p4), .val (.int (2 : Int32)), .val (.int pp), .val (.ref ou), .val (.ref r), .val (.ref g), .val (.ref q), .val (.int (1 : Int32))]) rfl (pc' := 351) rfl ?_
                    refine g_iload X hx (hb hby at_351) rfl (pc' := 353) rfl ?_
                    refine g_aload X hx (hb hby at_353) rfl rfl (pc' := 355) rfl ?_
                    refine g_iconst X hx (hb hby at_355) (x := (1 : Int32)) (by decide) (pc' := 356) rfl ?_
                    refine g_virt (W := 1) (argsL := [(.int (1 : Int32))]) (st := [(.int (1 : Int32))]) X hx hZ hown (hw _ (List.mem_of_getElem? (i := 34) rfl)) (hw _ (List.mem_of_getElem? (i := 35) rfl)) (notFace_of_selects (args := #[]) (mvT hZ (hw _ (List.mem_of_getElem? (i := 37) rfl)))) (hw _ (List.mem_of_getElem? (i := 37) rfl)) (hw _ (List.mem_of_getElem? (i := 36) rfl)) (hw _ (List.mem_of_getElem? (i := 38) rfl)) (hw _ (List.mem_of_getElem? (i := 7) rfl)) (by decide) E_q (rmFi l Z a0 hw q x1 x2 x3 (stp (stp S0 w0 r0) w1 r1) (1 : Int32) h n0 Zn F_q_lastPlusOne F_q_next F_q_counts A_x1 A_x2 A_x3 (ok_at (a := (2, 2)) (by decide) pw0 pw1 pw2 hR (by decide)).1) eT (by decide) (by decide) (by decide) (by decide) (lenOf pd_1 rfl) (by rw [hml]; rfl) rfl (Nat.le_of_eq rfl) (hb hby at_356) (pc' := 359) rfl (fun T hn vq Lq X eT hQ => ?_)
                    obtain ⟨rfl, Nq, hE⟩ := hQ
                    replace N := Fr.app N Nq
                    rw [hE] at eT; clear hE
                    show WGo _ _ _ _ _ _ _ _ (mkF m 359 #[.val (.int p0), .val (.int p1), .val (.int p2), .val (.int p3), .val (.int p4), .val (.int (2 : Int32)), .val (.int pp), .val (.ref ou), .val (.ref r), .val (.ref g), .val (.ref q), .val (.int (1 : Int32))] [(.int (firV (stp (stp S0 w0 r0) w1 r1) (1 : Int32))), (.int (1 : Int32))])
                    refine g_aload X hx (hb hby at_359) rfl rfl (pc' := 361) rfl ?_
                    refine g_aload X hx (hb hby at_361) rfl rfl (pc' := 363) rfl ?_
                    refine g_iload X hx (hb hby at_363) rfl (pc' := 365) rfl ?_
                    refine g_iconst X hx (hb hby at_365) (x := (1 : Int32)) (by decide) (pc' := 366) rfl ?_
                    refine g_stat (W := 2) (argsL := [(.ref g), (.ref r), (.int (2 : Int32)), (.int (1 : Int32))]) (st := [(.int (firV (stp (stp S0 w0 r0) w1 r1) (1 : Int32))), (.int (1 : Int32))]) X hx hZ hown (hw _ (List.mem_of_getElem? (i := 39) rfl)) (hw _ (List.mem_of_getElem? (i := 40) rfl)) (hw _ (List.mem_of_getElem? (i := 32) rfl)) (hw _ (List.mem_of_getElem? (i := 41) rfl)) (by decide) (rmXF l Z a0 hw g w0 w1 w2 r r0 r1 r2 (2 : Int32) (1 : Int32) h n0 Zn A_g A_r ) eT (by decide) (by decide) (by decide) (by decide) (lenOf pd_3 rfl) (by rw [hml]; rfl) rfl (Nat.le_of_eq rfl) (hb hby at_366) (pc' := 369) rfl (fun T hn vq Lq X eT hQ => ?_)
                    obtain ⟨rfl, Nq, hE⟩ := hQ
                    replace N := Fr.app N Nq
                    rw [hE] at eT; clear hE
                    show WGo _ _ _ _ _ _ _ _ (mkF m 369 #[.val (.int p0), .val (.int p1), .val (.int p2), .val (.int p3), .val (.int p4), .val (.int (2 : Int32)), .val (.int pp), .val (.ref ou), .val (.ref r), .val (.ref g), .val (.ref q), .val (.int (1 : Int32))] [(.int (expF (2 : Int32) (1 : Int32) w0 w1 w2 r0 r1 r2)), (.int (firV (stp (stp S0 w0 r0) w1 r1) (1 : Int32))), (.int (1 : Int32))])
                    refine g_icmp X hx (hb hby at_369) (by decide) (pc' := 376) (by decide) (pc2 := 372) rfl (fun hc => ?_) (fun hc => ?_)
                    · replace hc := h_ne1 hc
                      have hc369 := hc
                      exfalso
                      exact hc (ok_at (a := (2, 2)) (by decide) pw0 pw1 pw2 hR (by decide)).2.2
                    · replace hc := h_ne0 hc
                      have hc369 := hc
                      refine g_iconst X hx (hb hby at_372) (x := (1 : Int32)) (by decide) (pc' := 373) rfl ?_
                      refine g_goto X hx (hb hby at_373) (by decide) (pc' := 377) (by decide) ?_
                      refine g_iand X hx (hb hby at_377) (pc' := 378) rfl ?_
                      rw [show ((1 : Int32) &&& (1 : Int32)) = (1 : Int32) from by decide]
                      refine g_istore X hx (hb hby at_378) (Ls' := #[.val (.int p0), .val (.int p1), .val (.int p2), .val (.int p3), .val (.int p4), .val (.int (2 : Int32)), .val (.int pp), .val (.ref ou), .val (.ref r), .val (.ref g), .val (.ref q), .val (.int (1 : Int32))]) rfl (pc' := 380) rfl ?_
                      refine g_iload X hx (hb hby at_380) rfl (pc' := 382) rfl ?_
                      refine g_aload X hx (hb hby at_382) rfl rfl (pc' := 384) rfl ?_
                      refine g_iconst X hx (hb hby at_384) (x := (2 : Int32)) (by decide) (pc' := 385) rfl ?_
                      refine g_virt (W := 1) (argsL := [(.int (2 : Int32))]) (st := [(.int (1 : Int32))]) X hx hZ hown (hw _ (List.mem_of_getElem? (i := 34) rfl)) (hw _ (List.mem_of_getElem? (i := 35) rfl)) (notFace_of_selects (args := #[]) (mvT hZ (hw _ (List.mem_of_getElem? (i := 37) rfl)))) (hw _ (List.mem_of_getElem? (i := 37) rfl)) (hw _ (List.mem_of_getElem? (i := 36) rfl)) (hw _ (List.mem_of_getElem? (i := 38) rfl)) (hw _ (List.mem_of_getElem? (i := 7) rfl)) (by decide) E_q (rmFi l Z a0 hw q x1 x2 x3 (stp (stp S0 w0 r0) w1 r1) (2 : Int32) h n0 Zn F_q_lastPlusOne F_q_next F_q_counts A_x1 A_x2 A_x3 (ok_at (a := (2, 2)) (by decide) pw0 pw1 pw2 hR (by decide)).1) eT (by decide) (by decide) (by decide) (by decide) (lenOf pd_1 rfl) (by rw [hml]; rfl) rfl (Nat.le_of_eq rfl) (hb hby at_385) (pc' := 388) rfl (fun T hn vq Lq X eT hQ => ?_)
                      obtain ⟨rfl, Nq, hE⟩ := hQ
                      replace N := Fr.app N Nq
                      rw [hE] at eT; clear hE
                      show WGo _ _ _ _ _ _ _ _ (mkF m 388 #[.val (.int p0), .val (.int p1), .val (.int p2), .val (.int p3), .val (.int p4), .val (.int (2 : Int32)), .val (.int pp), .val (.ref ou), .val (.ref r), .val (.ref g), .val (.ref q), .val (.int (1 : Int32))] [(.int (firV (stp (stp S0 w0 r0) w1 r1) (2 : Int32))), (.int (1 : Int32))])
                      refine g_aload X hx (hb hby at_388) rfl rfl (pc' := 390) rfl ?_
                      refine g_aload X hx (hb hby at_390) rfl rfl (pc' := 392) rfl ?_
                      refine g_iload X hx (hb hby at_392) rfl (pc' := 394) rfl ?_
                      refine g_iconst X hx (hb hby at_394) (x := (2 : Int32)) (by decide) (pc' := 395) rfl ?_
                      refine g_stat (W := 2) (argsL := [(.ref g), (.ref r), (.int (2 : Int32)), (.int (2 : Int32))]) (st := [(.int (firV (stp (stp S0 w0 r0) w1 r1) (2 : Int32))), (.int (1 : Int32))]) X hx hZ hown (hw _ (List.mem_of_getElem? (i := 39) rfl)) (hw _ (List.mem_of_getElem? (i := 40) rfl)) (hw _ (List.mem_of_getElem? (i := 32) rfl)) (hw _ (List.mem_of_getElem? (i := 41) rfl)) (by decide) (rmXF l Z a0 hw g w0 w1 w2 r r0 r1 r2 (2 : Int32) (2 : Int32) h n0 Zn A_g A_r ) eT (by decide) (by decide) (by decide) (by decide) (lenOf pd_3 rfl) (by rw [hml]; rfl) rfl (Nat.le_of_eq rfl) (hb hby at_395) (pc' := 398) rfl (fun T hn vq Lq X eT hQ => ?_)
                      obtain ⟨rfl, Nq, hE⟩ := hQ
                      replace N := Fr.app N Nq
                      rw [hE] at eT; clear hE
                      show WGo _ _ _ _ _ _ _ _ (mkF m 398 #[.val (.int p0), .val (.int p1), .val (.int p2), .val (.int p3), .val (.int p4), .val (.int (2 : Int32)), .val (.int pp), .val (.ref ou), .val (.ref r), .val (.ref g), .val (.ref q), .val (.int (1 : Int32))] [(.int (expF (2 : Int32) (2 : Int32) w0 w1 w2 r0 r1 r2)), (.int (firV (stp (stp S0 w0 r0) w1 r1) (2 : Int32))), (.int (1 : Int32))])
                      refine g_icmp X hx (hb hby at_398) (by decide) (pc' := 405) (by decide) (pc2 := 401) rfl (fun hc => ?_) (fun hc => ?_)
                      · replace hc := h_ne1 hc
                        have hc398 := hc
                        exfalso
                        exact hc (ok_at (a := (2, 2)) (by decide) pw0 pw1 pw2 hR (by decide)).2.2
                      · replace hc := h_ne0 hc
                        have hc398 := hc
                        refine g_iconst X hx (hb hby at_401) (x := (1 : Int32)) (by decide) (pc' := 402) rfl ?_
                        refine g_goto X hx (hb hby at_402) (by decide) (pc' := 406) (by decide) ?_
                        refine g_iand X hx (hb hby at_406) (pc' := 407) rfl ?_
                        rw [show ((1 : Int32) &&& (1 : Int32)) = (1 : Int32) from by decide]
                        refine g_istore X hx (hb hby at_407) (Ls' := #[.val (.int p0), .val (.int p1), .val (.int p2), .val (.int p3), .val (.int p4), .val (.int (2 : Int32)), .val (.int pp), .val (.ref ou), .val (.ref r), .val (.ref g), .val (.ref q), .val (.int (1 : Int32))]) rfl (pc' := 409) rfl ?_
                        refine g_iload X hx (hb hby at_409) rfl (pc' := 411) rfl ?_
                        refine g_if X hx (hb hby at_411) (by decide) (pc' := 450) (by decide) (pc2 := 414) rfl (fun hc => ?_) (fun hc => ?_)
                        · replace hc := h_le1 hc
                          have hc411 := hc
                          exfalso
                          clear hc411; revert hc; decide
                        · replace hc := h_le0 hc
                          have hc411 := hc
                          refine g_iload X hx (hb hby at_414) rfl (pc' := 416) rfl ?_
                          refine g_aload X hx (hb hby at_416) rfl rfl (pc' := 418) rfl ?_
                          refine g_aload X hx (hb hby at_418) rfl rfl (pc' := 420) rfl ?_
                          refine g_iconst X hx (hb hby at_420) (x := (0 : Int32)) (by decide) (pc' := 421) rfl ?_
                          refine g_iaload X hx hZ eT A_g.2 (hb hby at_421) (by decide) (by decide) (v := (.int w0)) rfl (pc' := 422) rfl ?_
                          refine g_aload X hx (hb hby at_422) rfl rfl (pc' := 424) rfl ?_
                          refine g_iconst X hx (hb hby at_424) (x := (0 : Int32)) (by decide) (pc' := 425) rfl ?_
                          refine g_iaload X hx hZ eT A_r.2 (hb hby at_425) (by decide) (by decide) (v := (.int r0)) rfl (pc' := 426) rfl ?_
                          refine g_virt (W := 1) (argsL := [(.int w0), (.int r0)]) (st := [(.int (1 : Int32))]) X hx hZ hown (hw _ (List.mem_of_getElem? (i := 42) rfl)) (hw _ (List.mem_of_getElem? (i := 43) rfl)) (notFace_of_selects (args := #[]) (mvT hZ (hw _ (List.mem_of_getElem? (i := 45) rfl)))) (hw _ (List.mem_of_getElem? (i := 45) rfl)) (hw _ (List.mem_of_getElem? (i := 44) rfl)) (hw _ (List.mem_of_getElem? (i := 46) rfl)) (hw _ (List.mem_of_getElem? (i := 7) rfl)) (by decide) E_q (rmAf l Z a0 hw q x1 x2 x3 (stp (stp S0 w0 r0) w1 r1) w0 r0 h n0 Zn F_q_lastPlusOne F_q_next F_q_counts A_x1 A_x2 A_x3 (ok_at (a := (2, 2)) (by decide) pw0 pw1 pw2 hR pw0).1 hR0) eT (by decide) (by decide) (by decide) (by decide) (lenOf pd_5 rfl) (by rw [hml]; rfl) rfl (Nat.le_of_eq rfl) (hb hby at_426) (pc' := 429) rfl (fun T hn vq Lq X eT hQ => ?_)
                          obtain ⟨rfl, Nq, hE⟩ := hQ
                          replace N := Fr.app N Nq
                          rw [hE] at eT; clear hE
                          show WGo _ _ _ _ _ _ _ _ (mkF m 429 #[.val (.int p0), .val (.int p1), .val (.int p2), .val (.int p3), .val (.int p4), .val (.int (2 : Int32)), .val (.int pp), .val (.ref ou), .val (.ref r), .val (.ref g), .val (.ref q), .val (.int (1 : Int32))] [(.int (aftV (stp (stp S0 w0 r0) w1 r1) w0 r0)), (.int (1 : Int32))])
                          refine g_aload X hx (hb hby at_429) rfl rfl (pc' := 431) rfl ?_
                          refine g_aload X hx (hb hby at_431) rfl rfl (pc' := 433) rfl ?_
                          refine g_iload X hx (hb hby at_433) rfl (pc' := 435) rfl ?_
                          refine g_iconst X hx (hb hby at_435) (x := (0 : Int32)) (by decide) (pc' := 436) rfl ?_
                          refine g_stat (W := 2) (argsL := [(.ref g), (.ref r), (.int (2 : Int32)), (.int (0 : Int32))]) (st := [(.int (aftV (stp (stp S0 w0 r0) w1 r1) w0 r0)), (.int (1 : Int32))]) X hx hZ hown (hw _ (List.mem_of_getElem? (i := 47) rfl)) (hw _ (List.mem_of_getElem? (i := 48) rfl)) (hw _ (List.mem_of_getElem? (i := 32) rfl)) (hw _ (List.mem_of_getElem? (i := 49) rfl)) (by decide) (rmXA l Z a0 hw g w0 w1 w2 r r0 r1 r2 (2 : Int32) (0 : Int32) h n0 Zn A_g A_r ) eT (by decide) (by decide) (by decide) (by decide) (lenOf pd_3 rfl) (by rw [hml]; rfl) rfl (Nat.le_of_eq rfl) (hb hby at_436) (pc' := 439) rfl (fun T hn vq Lq X eT hQ => ?_)
                          obtain ⟨rfl, Nq, hE⟩ := hQ
                          replace N := Fr.app N Nq
                          rw [hE] at eT; clear hE
                          show WGo _ _ _ _ _ _ _ _ (mkF m 439 #[.val (.int p0), .val (.int p1), .val (.int p2), .val (.int p3), .val (.int p4), .val (.int (2 : Int32)), .val (.int pp), .val (.ref ou), .val (.ref r), .val (.ref g), .val (.ref q), .val (.int (1 : Int32))] [(.int (expA (2 : Int32) (0 : Int32) w0 w1 w2 r0 r1 r2)), (.int (aftV (stp (stp S0 w0 r0) w1 r1) w0 r0)), (.int (1 : Int32))])
                          refine g_icmp X hx (hb hby at_439) (by decide) (pc' := 446) (by decide) (pc2 := 442) rfl (fun hc => ?_) (fun hc => ?_)
                          · replace hc := h_ne1 hc
                            have hc439 := hc
                            exfalso
                            exact hc ((aft_at (a := (2, 2)) (by decide) pw0 pw1 pw2 hR).1 (by decide))
                          · replace hc := h_ne0 hc
                            have hc439 := hc
                            refine g_iconst X hx (hb hby at_442) (x := (1 : Int32)) (by decide) (pc' := 443) rfl ?_
                            refine g_goto X hx (hb hby at_443) (by decide) (pc' := 447) (by decide) ?_
                            refine g_iand X hx (hb hby at_447) (pc' := 448) rfl ?_
                            rw [show ((1 : Int32) &&& (1 : Int32)) = (1 : Int32) from by decide]
                            refine g_istore X hx (hb hby at_448) (Ls' := #[.val (.int p0), .val (.int p1), .val (.int p2), .val (.int p3), .val (.int p4), .val (.int (2 : Int32)), .val (.int pp), .val (.ref ou), .val (.ref r), .val (.ref g), .val (.ref q), .val (.int (1 : Int32))]) rfl (pc' := 450) rfl ?_
                            refine g_iload X hx (hb hby at_450) rfl (pc' := 452) rfl ?_
                            refine g_iconst X hx (hb hby at_452) (x := (1 : Int32)) (by decide) (pc' := 453) rfl ?_
                            refine g_icmp X hx (hb hby at_453) (by decide) (pc' := 492) (by decide) (pc2 := 456) rfl (fun hc => ?_) (fun hc => ?_)
                            · replace hc := h_le1 hc
                              have hc453 := hc
                              exfalso
                              clear hc453; revert hc; decide
                            · replace hc := h_le0 hc
                              have hc453 := hc
                              refine g_iload X hx (hb hby at_456) rfl (pc' := 458) rfl ?_
                              refine g_aload X hx (hb hby at_458) rfl rfl (pc' := 460) rfl ?_
                              refine g_aload X hx (hb hby at_460) rfl rfl (pc' := 462) rfl ?_
                              refine g_iconst X hx (hb hby at_462) (x := (1 : Int32)) (by decide) (pc' := 463) rfl ?_
                              refine g_iaload X hx hZ eT A_g.2 (hb hby at_463) (by decide) (by decide) (v := (.int w1)) rfl (pc' := 464) rfl ?_
                              refine g_aload X hx (hb hby at_464) rfl rfl (pc' := 466) rfl ?_
                              refine g_iconst X hx (hb hby at_466) (x := (1 : Int32)) (by decide) (pc' := 467) rfl ?_
                              refine g_iaload X hx hZ eT A_r.2 (hb hby at_467) (by decide) (by decide) (v := (.int r1)) rfl (pc' := 468) rfl ?_
                              refine g_virt (W := 1) (argsL := [(.int w1), (.int r1)]) (st := [(.int (1 : Int32))]) X hx hZ hown (hw _ (List.mem_of_getElem? (i := 42) rfl)) (hw _ (List.mem_of_getElem? (i := 43) rfl)) (notFace_of_selects (args := #[]) (mvT hZ (hw _ (List.mem_of_getElem? (i := 45) rfl)))) (hw _ (List.mem_of_getElem? (i := 45) rfl)) (hw _ (List.mem_of_getElem? (i := 44) rfl)) (hw _ (List.mem_of_getElem? (i := 46) rfl)) (hw _ (List.mem_of_getElem? (i := 7) rfl)) (by decide) E_q (rmAf l Z a0 hw q x1 x2 x3 (stp (stp S0 w0 r0) w1 r1) w1 r1 h n0 Zn F_q_lastPlusOne F_q_next F_q_counts A_x1 A_x2 A_x3 (ok_at (a := (2, 2)) (by decide) pw0 pw1 pw2 hR pw1).1 hR1) eT (by decide) (by decide) (by decide) (by decide) (lenOf pd_5 rfl) (by rw [hml]; rfl) rfl (Nat.le_of_eq rfl) (hb hby at_468) (pc' := 471) rfl (fun T hn vq Lq X eT hQ => ?_)
                              obtain ⟨rfl, Nq, hE⟩ := hQ
                              replace N := Fr.app N Nq
                              rw [hE] at eT; clear hE
                              show WGo _ _ _ _ _ _ _ _ (mkF m 471 #[.val (.int p0), .val (.int p1), .val (.int p2), .val (.int p3), .val (.int p4), .val (.int (2 : Int32)), .val (.int pp), .val (.ref ou), .val (.ref r), .val (.ref g), .val (.ref q), .val (.int (1 : Int32))] [(.int (aftV (stp (stp S0 w0 r0) w1 r1) w1 r1)), (.int (1 : Int32))])
                              refine g_aload X hx (hb hby at_471) rfl rfl (pc' := 473) rfl ?_
                              refine g_aload X hx (hb hby at_473) rfl rfl (pc' := 475) rfl ?_
                              refine g_iload X hx (hb hby at_475) rfl (pc' := 477) rfl ?_
                              refine g_iconst X hx (hb hby at_477) (x := (1 : Int32)) (by decide) (pc' := 478) rfl ?_
                              refine g_stat (W := 2) (argsL := [(.ref g), (.ref r), (.int (2 : Int32)), (.int (1 : Int32))]) (st := [(.int (aftV (stp (stp S0 w0 r0) w1 r1) w1 r1)), (.int (1 : Int32))]) X hx hZ hown (hw _ (List.mem_of_getElem? (i := 47) rfl)) (hw _ (List.mem_of_getElem? (i := 48) rfl)) (hw _ (List.mem_of_getElem? (i := 32) rfl)) (hw _ (List.mem_of_getElem? (i := 49) rfl)) (by decide) (rmXA l Z a0 hw g w0 w1 w2 r r0 r1 r2 (2 : Int32) (1 : Int32) h n0 Zn A_g A_r ) eT (by decide) (by decide) (by decide) (by decide) (lenOf pd_3 rfl) (by rw [hml]; rfl) rfl (Nat.le_of_eq rfl) (hb hby at_478) (pc' := 481) rfl (fun T hn vq Lq X eT hQ => ?_)
                              obtain ⟨rfl, Nq, hE⟩ := hQ
                              replace N := Fr.app N Nq
                              rw [hE] at eT; clear hE
                              show WGo _ _ _ _ _ _ _ _ (mkF m 481 #[.val (.int p0), .val (.int p1), .val (.int p2), .val (.int p3), .val (.int p4), .val (.int (2 : Int32)), .val (.int pp), .val (.ref ou), .val (.ref r), .val (.ref g), .val (.ref q), .val (.int (1 : Int32))] [(.int (expA (2 : Int32) (1 : Int32) w0 w1 w2 r0 r1 r2)), (.int (aftV (stp (stp S0 w0 r0) w1 r1) w1 r1)), (.int (1 : Int32))])
                              refine g_icmp X hx (hb hby at_481) (by decide) (pc' := 488) (by decide) (pc2 := 484) rfl (fun hc => ?_) (fun hc => ?_)
                              · replace hc := h_ne1 hc
                                have hc481 := hc
                                exfalso
                                exact hc ((aft_at (a := (2, 2)) (by decide) pw0 pw1 pw2 hR).2.1 (by decide))
                              · replace hc := h_ne0 hc
                                have hc481 := hc
                                refine g_iconst X hx (hb hby at_484) (x := (1 : Int32)) (by decide) (pc' := 485) rfl ?_
                                refine g_goto X hx (hb hby at_485) (by decide) (pc' := 489) (by decide) ?_
                                refine g_iand X hx (hb hby at_489) (pc' := 490) rfl ?_
                                rw [show ((1 : Int32) &&& (1 : Int32)) = (1 : Int32) from by decide]
                                refine g_istore X hx (hb hby at_490) (Ls' := #[.val (.int p0), .val (.int p1), .val (.int p2), .val (.int p3), .val (.int p4), .val (.int (2 : Int32)), .val (.int pp), .val (.ref ou), .val (.ref r), .val (.ref g), .val (.ref q), .val (.int (1 : Int32))]) rfl (pc' := 492) rfl ?_
                                refine g_iload X hx (hb hby at_492) rfl (pc' := 494) rfl ?_
                                refine g_iconst X hx (hb hby at_494) (x := (2 : Int32)) (by decide) (pc' := 495) rfl ?_
                                refine g_icmp X hx (hb hby at_495) (by decide) (pc' := 534) (by decide) (pc2 := 498) rfl (fun hc => ?_) (fun hc => ?_)
                                · replace hc := h_le1 hc
                                  have hc495 := hc
                                  refine g_iload X hx (hb hby at_534) rfl (pc' := 536) rfl ?_
                                  refine g_retN (t := .boolean) X hx hret (by simp) hlk (hb hby at_536) (by decide) (by decide) ?_
                                  exact ⟨rfl, N⟩
                                · replace hc := h_le0 hc
                                  have hc495 := hc
                                  exfalso
                                  clear hc495; revert hc; decide
          · replace hc := h_le0 hc
            have hc222 := hc
            exfalso
            clear hc222; revert hc; decide
    · skip
      have hNN : ((3, 3) : Nat × Int32) ∈ NN := by decide
      refine g_iload X hx (hb hby at_182) rfl (pc' := 184) rfl ?_
      refine g_if X hx (hb hby at_184) (by decide) (pc' := 200) (by decide) (pc2 := 187) rfl (fun hc => ?_) (fun hc => ?_)
      · replace hc := h_le1 hc
        have hc184 := hc
        exfalso
        clear hc184; revert hc; decide
      · replace hc := h_le0 hc
        have hc184 := hc
        refine g_aload X hx (hb hby at_187) rfl rfl (pc' := 189) rfl ?_
        refine g_aload X hx (hb hby at_189) rfl rfl (pc' := 191) rfl ?_
        refine g_iconst X hx (hb hby at_191) (x := (0 : Int32)) (by decide) (pc' := 192) rfl ?_
        refine g_iaload X hx hZ eT A_g.2 (hb hby at_192) (by decide) (by decide) (v := (.int w0)) rfl (pc' := 193) rfl ?_
        refine g_aload X hx (hb hby at_193) rfl rfl (pc' := 195) rfl ?_
        refine g_iconst X hx (hb hby at_195) (x := (0 : Int32)) (by decide) (pc' := 196) rfl ?_
        refine g_iaload X hx hZ eT A_r.2 (hb hby at_196) (by decide) (by decide) (v := (.int r0)) rfl (pc' := 197) rfl ?_
        refine g_virt (W := 0) (argsL := [(.int w0), (.int r0)]) (st := []) X hx hZ hown (hw _ (List.mem_of_getElem? (i := 20) rfl)) (hw _ (List.mem_of_getElem? (i := 21) rfl)) (notFace_of_selects (args := #[]) (mvT hZ (hw _ (List.mem_of_getElem? (i := 23) rfl)))) (hw _ (List.mem_of_getElem? (i := 23) rfl)) (hw _ (List.mem_of_getElem? (i := 22) rfl)) (hw _ (List.mem_of_getElem? (i := 24) rfl)) (hw _ (List.mem_of_getElem? (i := 7) rfl)) (by decide) E_q (rmEn l Z a0 hw q x1 x2 x3 S0 w0 r0 h n0 Zn F_q_lastPlusOne F_q_next F_q_counts A_x1 A_x2 A_x3 ne_q_x1 ne_q_x2 ne_q_x3 ne_x1_x2 ne_x1_x3 ne_x2_x3 g_q g_x1 g_x2 g_x3 (ok_at (a := (0, 0)) (by decide) pw0 pw1 pw2 hR pw0).1 hR0) eT (by decide) (by decide) (by decide) (by decide) (lenOf pd_4 rfl) (by rw [hml]; rfl) rfl (Nat.le_of_eq rfl) (hb hby at_197) (pc' := 200) rfl (fun T h vq Lq X eT hQ => ?_)
        obtain ⟨rfl, Nq, Kc, q_A_x1, q_A_x2, q_A_x3⟩ := hQ
        replace N := Fr.app N Nq
        replace F_q_lastPlusOne := F_q_lastPlusOne.keep Kc (ninS ne_q_x1 (ninS ne_q_x2 (ninS ne_q_x3 nin0)))
        replace F_q_next := F_q_next.keep Kc (ninS ne_q_x1 (ninS ne_q_x2 (ninS ne_q_x3 nin0)))
        replace F_q_counts := F_q_counts.keep Kc (ninS ne_q_x1 (ninS ne_q_x2 (ninS ne_q_x3 nin0)))
        replace E_q := E_q.keep Kc
        replace A_r := A_r.keep Kc (ninS ne_r_x1 (ninS ne_r_x2 (ninS ne_r_x3 nin0)))
        replace A_g := A_g.keep Kc (ninS ne_g_x1 (ninS ne_g_x2 (ninS ne_g_x3 nin0)))
        have A_x1 := q_A_x1
        have A_x2 := q_A_x2
        have A_x3 := q_A_x3
        replace Zn := Nat.le_trans Zn Kc.1
        show WGo _ _ _ _ _ _ _ _ (mkF m 200 #[.val (.int p0), .val (.int p1), .val (.int p2), .val (.int p3), .val (.int p4), .val (.int (3 : Int32)), .val (.int pp), .val (.ref ou), .val (.ref r), .val (.ref g), .val (.ref q), .unset] [])
        refine g_iload X hx (hb hby at_200) rfl (pc' := 202) rfl ?_
        refine g_iconst X hx (hb hby at_202) (x := (1 : Int32)) (by decide) (pc' := 203) rfl ?_
        refine g_icmp X hx (hb hby at_203) (by decide) (pc' := 219) (by decide) (pc2 := 206) rfl (fun hc => ?_) (fun hc => ?_)
        · replace hc := h_le1 hc
          have hc203 := hc
          exfalso
          clear hc203; revert hc; decide
        · replace hc := h_le0 hc
          have hc203 := hc
          refine g_aload X hx (hb hby at_206) rfl rfl (pc' := 208) rfl ?_
          refine g_aload X hx (hb hby at_208) rfl rfl (pc' := 210) rfl ?_
          refine g_iconst X hx (hb hby at_210) (x := (1 : Int32)) (by decide) (pc' := 211) rfl ?_
          refine g_iaload X hx hZ eT A_g.2 (hb hby at_211) (by decide) (by decide) (v := (.int w1)) rfl (pc' := 212) rfl ?_
          refine g_aload X hx (hb hby at_212) rfl rfl (pc' := 214) rfl ?_
          refine g_iconst X hx (hb hby at_214) (x := (1 : Int32)) (by decide) (pc' := 215) rfl ?_
          refine g_iaload X hx hZ eT A_r.2 (hb hby at_215) (by decide) (by decide) (v := (.int r1)) rfl (pc' := 216) rfl ?_
          refine g_virt (W := 0) (argsL := [(.int w1), (.int r1)]) (st := []) X hx hZ hown (hw _ (List.mem_of_getElem? (i := 20) rfl)) (hw _ (List.mem_of_getElem? (i := 21) rfl)) (notFace_of_selects (args := #[]) (mvT hZ (hw _ (List.mem_of_getElem? (i := 23) rfl)))) (hw _ (List.mem_of_getElem? (i := 23) rfl)) (hw _ (List.mem_of_getElem? (i := 22) rfl)) (hw _ (List.mem_of_getElem? (i := 24) rfl)) (hw _ (List.mem_of_getElem? (i := 7) rfl)) (by decide) E_q (rmEn l Z a0 hw q x1 x2 x3 (stp S0 w0 r0) w1 r1 h n0 Zn F_q_lastPlusOne F_q_next F_q_counts A_x1 A_x2 A_x3 ne_q_x1 ne_q_x2 ne_q_x3 ne_x1_x2 ne_x1_x3 ne_x2_x3 g_q g_x1 g_x2 g_x3 (ok_at (a := (1, 1)) (by decide) pw0 pw1 pw2 hR pw1).1 hR1) eT (by decide) (by decide) (by decide) (by decide) (lenOf pd_4 rfl) (by rw [hml]; rfl) rfl (Nat.le_of_eq rfl) (hb hby at_216) (pc' := 219) rfl (fun T h vq Lq X eT hQ => ?_)
          obtain ⟨rfl, Nq, Kc, q_A_x1, q_A_x2, q_A_x3⟩ := hQ
          replace N := Fr.app N Nq
          replace F_q_lastPlusOne := F_q_lastPlusOne.keep Kc (ninS ne_q_x1 (ninS ne_q_x2 (ninS ne_q_x3 nin0)))
          replace F_q_next := F_q_next.keep Kc (ninS ne_q_x1 (ninS ne_q_x2 (ninS ne_q_x3 nin0)))
          replace F_q_counts := F_q_counts.keep Kc (ninS ne_q_x1 (ninS ne_q_x2 (ninS ne_q_x3 nin0)))
          replace E_q := E_q.keep Kc
          replace A_r := A_r.keep Kc (ninS ne_r_x1 (ninS ne_r_x2 (ninS ne_r_x3 nin0)))
          replace A_g := A_g.keep Kc (ninS ne_g_x1 (ninS ne_g_x2 (ninS ne_g_x3 nin0)))
          have A_x1 := q_A_x1
          have A_x2 := q_A_x2
          have A_x3 := q_A_x3
          replace Zn := Nat.le_trans Zn Kc.1
          show WGo _ _ _ _ _ _ _ _ (mkF m 219 #[.val (.int p0), .val (.int p1), .val (.int p2), .val (.int p3), .val (.int p4), .val (.int (3 : Int32)), .val (.int pp), .val (.ref ou), .val (.ref r), .val (.ref g), .val (.ref q), .unset] [])
          refine g_iload X hx (hb hby at_219) rfl (pc' := 221) rfl ?_
          refine g_iconst X hx (hb hby at_221) (x := (2 : Int32)) (by decide) (pc' := 222) rfl ?_
          refine g_icmp X hx (hb hby at_222) (by decide) (pc' := 238) (by decide) (pc2 := 225) rfl (fun hc => ?_) (fun hc => ?_)
          · replace hc := h_le1 hc
            have hc222 := hc
            exfalso
            clear hc222; revert hc; decide
          · replace hc := h_le0 hc
            have hc222 := hc
            refine g_aload X hx (hb hby at_225) rfl rfl (pc' := 227) rfl ?_
            refine g_aload X hx (hb hby at_227) rfl rfl (pc' := 229) rfl ?_
            refine g_iconst X hx (hb hby at_229) (x := (2 : Int32)) (by decide) (pc' := 230) rfl ?_
            refine g_iaload X hx hZ eT A_g.2 (hb hby at_230) (by decide) (by decide) (v := (.int w2)) rfl (pc' := 231) rfl ?_
            refine g_aload X hx (hb hby at_231) rfl rfl (pc' := 233) rfl ?_
            refine g_iconst X hx (hb hby at_233) (x := (2 : Int32)) (by decide) (pc' := 234) rfl ?_
            refine g_iaload X hx hZ eT A_r.2 (hb hby at_234) (by decide) (by decide) (v := (.int r2)) rfl (pc' := 235) rfl ?_
            refine g_virt (W := 0) (argsL := [(.int w2), (.int r2)]) (st := []) X hx hZ hown (hw _ (List.mem_of_getElem? (i := 20) rfl)) (hw _ (List.mem_of_getElem? (i := 21) rfl)) (notFace_of_selects (args := #[]) (mvT hZ (hw _ (List.mem_of_getElem? (i := 23) rfl)))) (hw _ (List.mem_of_getElem? (i := 23) rfl)) (hw _ (List.mem_of_getElem? (i := 22) rfl)) (hw _ (List.mem_of_getElem? (i := 24) rfl)) (hw _ (List.mem_of_getElem? (i := 7) rfl)) (by decide) E_q (rmEn l Z a0 hw q x1 x2 x3 (stp (stp S0 w0 r0) w1 r1) w2 r2 h n0 Zn F_q_lastPlusOne F_q_next F_q_counts A_x1 A_x2 A_x3 ne_q_x1 ne_q_x2 ne_q_x3 ne_x1_x2 ne_x1_x3 ne_x2_x3 g_q g_x1 g_x2 g_x3 (ok_at (a := (2, 2)) (by decide) pw0 pw1 pw2 hR pw2).1 hR2) eT (by decide) (by decide) (by decide) (by decide) (lenOf pd_4 rfl) (by rw [hml]; rfl) rfl (Nat.le_of_eq rfl) (hb hby at_235) (pc' := 238) rfl (fun T h vq Lq X eT hQ => ?_)
            obtain ⟨rfl, Nq, Kc, q_A_x1, q_A_x2, q_A_x3⟩ := hQ
            replace N := Fr.app N Nq
            replace F_q_lastPlusOne := F_q_lastPlusOne.keep Kc (ninS ne_q_x1 (ninS ne_q_x2 (ninS ne_q_x3 nin0)))
            replace F_q_next := F_q_next.keep Kc (ninS ne_q_x1 (ninS ne_q_x2 (ninS ne_q_x3 nin0)))
            replace F_q_counts := F_q_counts.keep Kc (ninS ne_q_x1 (ninS ne_q_x2 (ninS ne_q_x3 nin0)))
            replace E_q := E_q.keep Kc
            replace A_r := A_r.keep Kc (ninS ne_r_x1 (ninS ne_r_x2 (ninS ne_r_x3 nin0)))
            replace A_g := A_g.keep Kc (ninS ne_g_x1 (ninS ne_g_x2 (ninS ne_g_x3 nin0)))
            have A_x1 := q_A_x1
            have A_x2 := q_A_x2
            have A_x3 := q_A_x3
            replace Zn := Nat.le_trans Zn Kc.1
            show WGo _ _ _ _ _ _ _ _ (mkF m 238 #[.val (.int p0), .val (.int p1), .val (.int p2), .val (.int p3), .val (.int p4), .val (.int (3 : Int32)), .val (.int pp), .val (.ref ou), .val (.ref r), .val (.ref g), .val (.ref q), .unset] [])
            refine g_iconst X hx (hb hby at_238) (x := (1 : Int32)) (by decide) (pc' := 239) rfl ?_
            refine g_istore X hx (hb hby at_239) (Ls' := #[.val (.int p0), .val (.int p1), .val (.int p2), .val (.int p3), .val (.int p4), .val (.int (3 : Int32)), .val (.int pp), .val (.ref ou), .val (.ref r), .val (.ref g), .val (.ref q), .val (.int (1 : Int32))]) rfl (pc' := 241) rfl ?_
            refine g_iload X hx (hb hby at_241) rfl (pc' := 243) rfl ?_
            refine g_aload X hx (hb hby at_243) rfl rfl (pc' := 245) rfl ?_
            refine g_iconst X hx (hb hby at_245) (x := (0 : Int32)) (by decide) (pc' := 246) rfl ?_
            refine g_virt (W := 1) (argsL := [(.int (0 : Int32))]) (st := [(.int (1 : Int32))]) X hx hZ hown (hw _ (List.mem_of_getElem? (i := 25) rfl)) (hw _ (List.mem_of_getElem? (i := 26) rfl)) (notFace_of_selects (args := #[]) (mvT hZ (hw _ (List.mem_of_getElem? (i := 28) rfl)))) (hw _ (List.mem_of_getElem? (i := 28) rfl)) (hw _ (List.mem_of_getElem? (i := 27) rfl)) (hw _ (List.mem_of_getElem? (i := 29) rfl)) (hw _ (List.mem_of_getElem? (i := 7) rfl)) (by decide) E_q (rmCo l Z a0 hw q x1 x2 x3 (stp (stp (stp S0 w0 r0) w1 r1) w2 r2) (0 : Int32) h n0 Zn F_q_lastPlusOne F_q_next F_q_counts A_x1 A_x2 A_x3 (ok_at (a := (3, 3)) (by decide) pw0 pw1 pw2 hR (by decide)).1) eT (by decide) (by decide) (by decide) (by decide) (lenOf pd_1 rfl) (by rw [hml]; rfl) rfl (Nat.le_of_eq rfl) (hb hby at_246) (pc' := 249) rfl (fun T hn vq Lq X eT hQ => ?_)
            obtain ⟨rfl, Nq, hE⟩ := hQ
            replace N := Fr.app N Nq
            rw [hE] at eT; clear hE
            show WGo _ _ _ _ _ _ _ _ (mkF m 249 #[.val (.int p0), .val (.int p1), .val (.int p2), .val (.int p3), .val (.int p4), .val (.int (3 : Int32)), .val (.int pp), .val (.ref ou), .val (.ref r), .val (.ref g), .val (.ref q), .val (.int (1 : Int32))] [(.int ((stp (stp (stp S0 w0 r0) w1 r1) w2 r2).2.2.getD (0 : Int32).toNatClampNeg 0)), (.int (1 : Int32))])
            refine g_aload X hx (hb hby at_249) rfl rfl (pc' := 251) rfl ?_
            refine g_iload X hx (hb hby at_251) rfl (pc' := 253) rfl ?_
            refine g_iconst X hx (hb hby at_253) (x := (0 : Int32)) (by decide) (pc' := 254) rfl ?_
            refine g_stat (W := 2) (argsL := [(.ref g), (.int (3 : Int32)), (.int (0 : Int32))]) (st := [(.int ((stp (stp (stp S0 w0 r0) w1 r1) w2 r2).2.2.getD (0 : Int32).toNatClampNeg 0)), (.int (1 : Int32))]) X hx hZ hown (hw _ (List.mem_of_getElem? (i := 30) rfl)) (hw _ (List.mem_of_getElem? (i := 31) rfl)) (hw _ (List.mem_of_getElem? (i := 32) rfl)) (hw _ (List.mem_of_getElem? (i := 33) rfl)) (by decide) (rmXC l Z a0 hw g w0 w1 w2 (3 : Int32) (0 : Int32) h n0 Zn A_g ) eT (by decide) (by decide) (by decide) (by decide) (lenOf pd_2 rfl) (by rw [hml]; rfl) rfl (Nat.le_of_eq rfl) (hb hby at_254) (pc' := 257) rfl (fun T hn vq Lq X eT hQ => ?_)
            obtain ⟨rfl, Nq, hE⟩ := hQ
            replace N := Fr.app N Nq
            rw [hE] at eT; clear hE
            show WGo _ _ _ _ _ _ _ _ (mkF m 257 #[.val (.int p0), .val (.int p1), .val (.int p2), .val (.int p3), .val (.int p4), .val (.int (3 : Int32)), .val (.int pp), .val (.ref ou), .val (.ref r), .val (.ref g), .val (.ref q), .val (.int (1 : Int32))] [(.int (expC (3 : Int32) (0 : Int32) w0 w1 w2)), (.int ((stp (stp (stp S0 w0 r0) w1 r1) w2 r2).2.2.getD (0 : Int32).toNatClampNeg 0)), (.int (1 : Int32))])
            refine g_icmp X hx (hb hby at_257) (by decide) (pc' := 264) (by decide) (pc2 := 260) rfl (fun hc => ?_) (fun hc => ?_)
            · replace hc := h_ne1 hc
              have hc257 := hc
              exfalso
              exact hc (ok_at (a := (3, 3)) (by decide) pw0 pw1 pw2 hR (by decide)).2.1
            · replace hc := h_ne0 hc
              have hc257 := hc
              refine g_iconst X hx (hb hby at_260) (x := (1 : Int32)) (by decide) (pc' := 261) rfl ?_
              refine g_goto X hx (hb hby at_261) (by decide) (pc' := 265) (by decide) ?_
              refine g_iand X hx (hb hby at_265) (pc' := 266) rfl ?_
              rw [show ((1 : Int32) &&& (1 : Int32)) = (1 : Int32) from by decide]
              refine g_istore X hx (hb hby at_266) (Ls' := #[.val (.int p0), .val (.int p1), .val (.int p2), .val (.int p3), .val (.int p4), .val (.int (3 : Int32)), .val (.int pp), .val (.ref ou), .val (.ref r), .val (.ref g), .val (.ref q), .val (.int (1 : Int32))]) rfl (pc' := 268) rfl ?_
              refine g_iload X hx (hb hby at_268) rfl (pc' := 270) rfl ?_
              refine g_aload X hx (hb hby at_270) rfl rfl (pc' := 272) rfl ?_
              refine g_iconst X hx (hb hby at_272) (x := (1 : Int32)) (by decide) (pc' := 273) rfl ?_
              refine g_virt (W := 1) (argsL := [(.int (1 : Int32))]) (st := [(.int (1 : Int32))]) X hx hZ hown (hw _ (List.mem_of_getElem? (i := 25) rfl)) (hw _ (List.mem_of_getElem? (i := 26) rfl)) (notFace_of_selects (args := #[]) (mvT hZ (hw _ (List.mem_of_getElem? (i := 28) rfl)))) (hw _ (List.mem_of_getElem? (i := 28) rfl)) (hw _ (List.mem_of_getElem? (i := 27) rfl)) (hw _ (List.mem_of_getElem? (i := 29) rfl)) (hw _ (List.mem_of_getElem? (i := 7) rfl)) (by decide) E_q (rmCo l Z a0 hw q x1 x2 x3 (stp (stp (stp S0 w0 r0) w1 r1) w2 r2) (1 : Int32) h n0 Zn F_q_lastPlusOne F_q_next F_q_counts A_x1 A_x2 A_x3 (ok_at (a := (3, 3)) (by decide) pw0 pw1 pw2 hR (by decide)).1) eT (by decide) (by decide) (by decide) (by decide) (lenOf pd_1 rfl) (by rw [hml]; rfl) rfl (Nat.le_of_eq rfl) (hb hby at_273) (pc' := 276) rfl (fun T hn vq Lq X eT hQ => ?_)
              obtain ⟨rfl, Nq, hE⟩ := hQ
              replace N := Fr.app N Nq
              rw [hE] at eT; clear hE
              show WGo _ _ _ _ _ _ _ _ (mkF m 276 #[.val (.int p0), .val (.int p1), .val (.int p2), .val (.int p3), .val (.int p4), .val (.int (3 : Int32)), .val (.int pp), .val (.ref ou), .val (.ref r), .val (.ref g), .val (.ref q), .val (.int (1 : Int32))] [(.int ((stp (stp (stp S0 w0 r0) w1 r1) w2 r2).2.2.getD (1 : Int32).toNatClampNeg 0)), (.int (1 : Int32))])
              refine g_aload X hx (hb hby at_276) rfl rfl (pc' := 278) rfl ?_
              refine g_iload X hx (hb hby at_278) rfl (pc' := 280) rfl ?_
              refine g_iconst X hx (hb hby at_280) (x := (1 : Int32)) (by decide) (pc' := 281) rfl ?_
              refine g_stat (W := 2) (argsL := [(.ref g), (.int (3 : Int32)), (.int (1 : Int32))]) (st := [(.int ((stp (stp (stp S0 w0 r0) w1 r1) w2 r2).2.2.getD (1 : Int32).toNatClampNeg 0)), (.int (1 : Int32))]) X hx hZ hown (hw _ (List.mem_of_getElem? (i := 30) rfl)) (hw _ (List.mem_of_getElem? (i := 31) rfl)) (hw _ (List.mem_of_getElem? (i := 32) rfl)) (hw _ (List.mem_of_getElem? (i := 33) rfl)) (by decide) (rmXC l Z a0 hw g w0 w1 w2 (3 : Int32) (1 : Int32) h n0 Zn A_g ) eT (by decide) (by decide) (by decide) (by decide) (lenOf pd_2 rfl) (by rw [hml]; rfl) rfl (Nat.le_of_eq rfl) (hb hby at_281) (pc' := 284) rfl (fun T hn vq Lq X eT hQ => ?_)
              obtain ⟨rfl, Nq, hE⟩ := hQ
              replace N := Fr.app N Nq
              rw [hE] at eT; clear hE
              show WGo _ _ _ _ _ _ _ _ (mkF m 284 #[.val (.int p0), .val (.int p1), .val (.int p2), .val (.int p3), .val (.int p4), .val (.int (3 : Int32)), .val (.int pp), .val (.ref ou), .val (.ref r), .val (.ref g), .val (.ref q), .val (.int (1 : Int32))] [(.int (expC (3 : Int32) (1 : Int32) w0 w1 w2)), (.int ((stp (stp (stp S0 w0 r0) w1 r1) w2 r2).2.2.getD (1 : Int32).toNatClampNeg 0)), (.int (1 : Int32))])
              refine g_icmp X hx (hb hby at_284) (by decide) (pc' := 291) (by decide) (pc2 := 287) rfl (fun hc => ?_) (fun hc => ?_)
              · replace hc := h_ne1 hc
                have hc284 := hc
                exfalso
                exact hc (ok_at (a := (3, 3)) (by decide) pw0 pw1 pw2 hR (by decide)).2.1
              · replace hc := h_ne0 hc
                have hc284 := hc
                refine g_iconst X hx (hb hby at_287) (x := (1 : Int32)) (by decide) (pc' := 288) rfl ?_
                refine g_goto X hx (hb hby at_288) (by decide) (pc' := 292) (by decide) ?_
                refine g_iand X hx (hb hby at_292) (pc' := 293) rfl ?_
                rw [show ((1 : Int32) &&& (1 : Int32)) = (1 : Int32) from by decide]
                refine g_istore X hx (hb hby at_293) (Ls' := #[.val (.int p0), .val (.int p1), .val (.int p2), .val (.int p3), .val (.int p4), .val (.int (3 : Int32)), .val (.int pp), .val (.ref ou), .val (.ref r), .val (.ref g), .val (.ref q), .val (.int (1 : Int32))]) rfl (pc' := 295) rfl ?_
                refine g_iload X hx (hb hby at_295) rfl (pc' := 297) rfl ?_
                refine g_aload X hx (hb hby at_297) rfl rfl (pc' := 299) rfl ?_
                refine g_iconst X hx (hb hby at_299) (x := (2 : Int32)) (by decide) (pc' := 300) rfl ?_
                refine g_virt (W := 1) (argsL := [(.int (2 : Int32))]) (st := [(.int (1 : Int32))]) X hx hZ hown (hw _ (List.mem_of_getElem? (i := 25) rfl)) (hw _ (List.mem_of_getElem? (i := 26) rfl)) (notFace_of_selects (args := #[]) (mvT hZ (hw _ (List.mem_of_getElem? (i := 28) rfl)))) (hw _ (List.mem_of_getElem? (i := 28) rfl)) (hw _ (List.mem_of_getElem? (i := 27) rfl)) (hw _ (List.mem_of_getElem? (i := 29) rfl)) (hw _ (List.mem_of_getElem? (i := 7) rfl)) (by decide) E_q (rmCo l Z a0 hw q x1 x2 x3 (stp (stp (stp S0 w0 r0) w1 r1) w2 r2) (2 : Int32) h n0 Zn F_q_lastPlusOne F_q_next F_q_counts A_x1 A_x2 A_x3 (ok_at (a := (3, 3)) (by decide) pw0 pw1 pw2 hR (by decide)).1) eT (by decide) (by decide) (by decide) (by decide) (lenOf pd_1 rfl) (by rw [hml]; rfl) rfl (Nat.le_of_eq rfl) (hb hby at_300) (pc' := 303) rfl (fun T hn vq Lq X eT hQ => ?_)
                obtain ⟨rfl, Nq, hE⟩ := hQ
                replace N := Fr.app N Nq
                rw [hE] at eT; clear hE
                show WGo _ _ _ _ _ _ _ _ (mkF m 303 #[.val (.int p0), .val (.int p1), .val (.int p2), .val (.int p3), .val (.int p4), .val (.int (3 : Int32)), .val (.int pp), .val (.ref ou), .val (.ref r), .val (.ref g), .val (.ref q), .val (.int (1 : Int32))] [(.int ((stp (stp (stp S0 w0 r0) w1 r1) w2 r2).2.2.getD (2 : Int32).toNatClampNeg 0)), (.int (1 : Int32))])
                refine g_aload X hx (hb hby at_303) rfl rfl (pc' := 305) rfl ?_
                refine g_iload X hx (hb hby at_305) rfl (pc' := 307) rfl ?_
                refine g_iconst X hx (hb hby at_307) (x := (2 : Int32)) (by decide) (pc' := 308) rfl ?_
                refine g_stat (W := 2) (argsL := [(.ref g), (.int (3 : Int32)), (.int (2 : Int32))]) (st := [(.int ((stp (stp (stp S0 w0 r0) w1 r1) w2 r2).2.2.getD (2 : Int32).toNatClampNeg 0)), (.int (1 : Int32))]) X hx hZ hown (hw _ (List.mem_of_getElem? (i := 30) rfl)) (hw _ (List.mem_of_getElem? (i := 31) rfl)) (hw _ (List.mem_of_getElem? (i := 32) rfl)) (hw _ (List.mem_of_getElem? (i := 33) rfl)) (by decide) (rmXC l Z a0 hw g w0 w1 w2 (3 : Int32) (2 : Int32) h n0 Zn A_g ) eT (by decide) (by decide) (by decide) (by decide) (lenOf pd_2 rfl) (by rw [hml]; rfl) rfl (Nat.le_of_eq rfl) (hb hby at_308) (pc' := 311) rfl (fun T hn vq Lq X eT hQ => ?_)
                obtain ⟨rfl, Nq, hE⟩ := hQ
                replace N := Fr.app N Nq
                rw [hE] at eT; clear hE
                show WGo _ _ _ _ _ _ _ _ (mkF m 311 #[.val (.int p0), .val (.int p1), .val (.int p2), .val (.int p3), .val (.int p4), .val (.int (3 : Int32)), .val (.int pp), .val (.ref ou), .val (.ref r), .val (.ref g), .val (.ref q), .val (.int (1 : Int32))] [(.int (expC (3 : Int32) (2 : Int32) w0 w1 w2)), (.int ((stp (stp (stp S0 w0 r0) w1 r1) w2 r2).2.2.getD (2 : Int32).toNatClampNeg 0)), (.int (1 : Int32))])
                refine g_icmp X hx (hb hby at_311) (by decide) (pc' := 318) (by decide) (pc2 := 314) rfl (fun hc => ?_) (fun hc => ?_)
                · replace hc := h_ne1 hc
                  have hc311 := hc
                  exfalso
                  exact hc (ok_at (a := (3, 3)) (by decide) pw0 pw1 pw2 hR (by decide)).2.1
                · replace hc := h_ne0 hc
                  have hc311 := hc
                  refine g_iconst X hx (hb hby at_314) (x := (1 : Int32)) (by decide) (pc' := 315) rfl ?_
                  refine g_goto X hx (hb hby at_315) (by decide) (pc' := 319) (by decide) ?_
                  refine g_iand X hx (hb hby at_319) (pc' := 320) rfl ?_
                  rw [show ((1 : Int32) &&& (1 : Int32)) = (1 : Int32) from by decide]
                  refine g_istore X hx (hb hby at_320) (Ls' := #[.val (.int p0), .val (.int p1), .val (.int p2), .val (.int p3), .val (.int p4), .val (.int (3 : Int32)), .val (.int pp), .val (.ref ou), .val (.ref r), .val (.ref g), .val (.ref q), .val (.int (1 : Int32))]) rfl (pc' := 322) rfl ?_
                  refine g_iload X hx (hb hby at_322) rfl (pc' := 324) rfl ?_
                  refine g_aload X hx (hb hby at_324) rfl rfl (pc' := 326) rfl ?_
                  refine g_iconst X hx (hb hby at_326) (x := (0 : Int32)) (by decide) (pc' := 327) rfl ?_
                  refine g_virt (W := 1) (argsL := [(.int (0 : Int32))]) (st := [(.int (1 : Int32))]) X hx hZ hown (hw _ (List.mem_of_getElem? (i := 34) rfl)) (hw _ (List.mem_of_getElem? (i := 35) rfl)) (notFace_of_selects (args := #[]) (mvT hZ (hw _ (List.mem_of_getElem? (i := 37) rfl)))) (hw _ (List.mem_of_getElem? (i := 37) rfl)) (hw _ (List.mem_of_getElem? (i := 36) rfl)) (hw _ (List.mem_of_getElem? (i := 38) rfl)) (hw _ (List.mem_of_getElem? (i := 7) rfl)) (by decide) E_q (rmFi l Z a0 hw q x1 x2 x3 (stp (stp (stp S0 w0 r0) w1 r1) w2 r2) (0 : Int32) h n0 Zn F_q_lastPlusOne F_q_next F_q_counts A_x1 A_x2 A_x3 (ok_at (a := (3, 3)) (by decide) pw0 pw1 pw2 hR (by decide)).1) eT (by decide) (by decide) (by decide) (by decide) (lenOf pd_1 rfl) (by rw [hml]; rfl) rfl (Nat.le_of_eq rfl) (hb hby at_327) (pc' := 330) rfl (fun T hn vq Lq X eT hQ => ?_)
                  obtain ⟨rfl, Nq, hE⟩ := hQ
                  replace N := Fr.app N Nq
                  rw [hE] at eT; clear hE
                  show WGo _ _ _ _ _ _ _ _ (mkF m 330 #[.val (.int p0), .val (.int p1), .val (.int p2), .val (.int p3), .val (.int p4), .val (.int (3 : Int32)), .val (.int pp), .val (.ref ou), .val (.ref r), .val (.ref g), .val (.ref q), .val (.int (1 : Int32))] [(.int (firV (stp (stp (stp S0 w0 r0) w1 r1) w2 r2) (0 : Int32))), (.int (1 : Int32))])
                  refine g_aload X hx (hb hby at_330) rfl rfl (pc' := 332) rfl ?_
                  refine g_aload X hx (hb hby at_332) rfl rfl (pc' := 334) rfl ?_
                  refine g_iload X hx (hb hby at_334) rfl (pc' := 336) rfl ?_
                  refine g_iconst X hx (hb hby at_336) (x := (0 : Int32)) (by decide) (pc' := 337) rfl ?_
                  refine g_stat (W := 2) (argsL := [(.ref g), (.ref r), (.int (3 : Int32)), (.int (0 : Int32))]) (st := [(.int (firV (stp (stp (stp S0 w0 r0) w1 r1) w2 r2) (0 : Int32))), (.int (1 : Int32))]) X hx hZ hown (hw _ (List.mem_of_getElem? (i := 39) rfl)) (hw _ (List.mem_of_getElem? (i := 40) rfl)) (hw _ (List.mem_of_getElem? (i := 32) rfl)) (hw _ (List.mem_of_getElem? (i := 41) rfl)) (by decide) (rmXF l Z a0 hw g w0 w1 w2 r r0 r1 r2 (3 : Int32) (0 : Int32) h n0 Zn A_g A_r ) eT (by decide) (by decide) (by decide) (by decide) (lenOf pd_3 rfl) (by rw [hml]; rfl) rfl (Nat.le_of_eq rfl) (hb hby at_337) (pc' := 340) rfl (fun T hn vq Lq X eT hQ => ?_)
                  obtain ⟨rfl, Nq, hE⟩ := hQ
                  replace N := Fr.app N Nq
                  rw [hE] at eT; clear hE
                  show WGo _ _ _ _ _ _ _ _ (mkF m 340 #[.val (.int p0), .val (.int p1), .val (.int p2), .val (.int p3), .val (.int p4), .val (.int (3 : Int32)), .val (.int pp), .val (.ref ou), .val (.ref r), .val (.ref g), .val (.ref q), .val (.int (1 : Int32))] [(.int (expF (3 : Int32) (0 : Int32) w0 w1 w2 r0 r1 r2)), (.int (firV (stp (stp (stp S0 w0 r0) w1 r1) w2 r2) (0 : Int32))), (.int (1 : Int32))])
                  refine g_icmp X hx (hb hby at_340) (by decide) (pc' := 347) (by decide) (pc2 := 343) rfl (fun hc => ?_) (fun hc => ?_)
                  · replace hc := h_ne1 hc
                    have hc340 := hc
                    exfalso
                    exact hc (ok_at (a := (3, 3)) (by decide) pw0 pw1 pw2 hR (by decide)).2.2
                  · replace hc := h_ne0 hc
                    have hc340 := hc
                    refine g_iconst X hx (hb hby at_343) (x := (1 : Int32)) (by decide) (pc' := 344) rfl ?_
                    refine g_goto X hx (hb hby at_344) (by decide) (pc' := 348) (by decide) ?_
                    refine g_iand X hx (hb hby at_348) (pc' := 349) rfl ?_
                    rw [show ((1 : Int32) &&& (1 : Int32)) = (1 : Int32) from by decide]
                    refine g_istore X hx (hb hby at_349) (Ls' := #[.val (.int p0), .val (.int p1), .val (.int p2), .val (.int p3), .val (.int p4), .val (.int (3 : Int32)), .val (.int pp), .val (.ref ou), .val (.ref r), .val (.ref g), .val (.ref q), .val (.int (1 : Int32))]) rfl (pc' := 351) rfl ?_
                    refine g_iload X hx (hb hby at_351) rfl (pc' := 353) rfl ?_
                    refine g_aload X hx (hb hby at_353) rfl rfl (pc' := 355) rfl ?_
                    refine g_iconst X hx (hb hby at_355) (x := (1 : Int32)) (by decide) (pc' := 356) rfl ?_
                    refine g_virt (W := 1) (argsL := [(.int (1 : Int32))]) (st := [(.int (1 : Int32))]) X hx hZ hown (hw _ (List.mem_of_getElem? (i := 34) rfl)) (hw _ (List.mem_of_getElem? (i := 35) rfl)) (notFace_of_selects (args := #[]) (mvT hZ (hw _ (List.mem_of_getElem? (i := 37) rfl)))) (hw _ (List.mem_of_getElem? (i := 37) rfl)) (hw _ (List.mem_of_getElem? (i := 36) rfl)) (hw _ (List.mem_of_getElem? (i := 38) rfl)) (hw _ (List.mem_of_getElem? (i := 7) rfl)) (by decide) E_q (rmFi l Z a0 hw q x1 x2 x3 (stp (stp (stp S0 w0 r0) w1 r1) w2 r2) (1 : Int32) h n0 Zn F_q_lastPlusOne F_q_next F_q_counts A_x1 A_x2 A_x3 (ok_at (a := (3, 3)) (by decide) pw0 pw1 pw2 hR (by decide)).1) eT (by decide) (by decide) (by decide) (by decide) (lenOf pd_1 rfl) (by rw [hml]; rfl) rfl (Nat.le_of_eq rfl) (hb hby at_356) (pc' := 359) rfl (fun T hn vq Lq X eT hQ => ?_)
                    obtain ⟨rfl, Nq, hE⟩ := hQ
                    replace N := Fr.app N Nq
                    rw [hE] at eT; clear hE
                    show WGo _ _ _ _ _ _ _ _ (mkF m 359 #[.val (.int p0), .val (.int p1), .val (.int p2), .val (.int p3), .val (.int p4), .val (.int (3 : Int32)), .val (.int pp), .val (.ref ou), .val (.ref r), .val (.ref g), .val (.ref q), .val (.int (1 : Int32))] [(.int (firV (stp (stp (stp S0 w0 r0) w1 r1) w2 r2) (1 : Int32))), (.int (1 : Int32))])
                    refine g_aload X hx (hb hby at_359) rfl rfl (pc' := 361) rfl ?_
                    refine g_aload X hx (hb hby at_361) rfl rfl (pc' := 363) rfl ?_
                    refine g_iload X hx (hb hby at_363) rfl (pc' := 365) rfl ?_
                    refine g_iconst X hx (hb hby at_365) (x := (1 : Int32)) (by decide) (pc' := 366) rfl ?_
                    refine g_stat (W := 2) (argsL := [(.ref g), (.ref r), (.int (3 : Int32)), (.int (1 : Int32))]) (st := [(.int (firV (stp (stp (stp S0 w0 r0) w1 r1) w2 r2) (1 : Int32))), (.int (1 : Int32))]) X hx hZ hown (hw _ (List.mem_of_getElem? (i := 39) rfl)) (hw _ (List.mem_of_getElem? (i := 40) rfl)) (hw _ (List.mem_of_getElem? (i := 32) rfl)) (hw _ (List.mem_of_getElem? (i := 41) rfl)) (by decide) (rmXF l Z a0 hw g w0 w1 w2 r r0 r1 r2 (3 : Int32) (1 : Int32) h n0 Zn A_g A_r ) eT (by decide) (by decide) (by decide) (by decide) (lenOf pd_3 rfl) (by rw [hml]; rfl) rfl (Nat.le_of_eq rfl) (hb hby at_366) (pc' := 369) rfl (fun T hn vq Lq X eT hQ => ?_)
                    obtain ⟨rfl, Nq, hE⟩ := hQ
                    replace N := Fr.app N Nq
                    rw [hE] at eT; clear hE
                    show WGo _ _ _ _ _ _ _ _ (mkF m 369 #[.val (.int p0), .val (.int p1), .val (.int p2), .val (.int p3), .val (.int p4), .val (.int (3 : Int32)), .val (.int pp), .val (.ref ou), .val (.ref r), .val (.ref g), .val (.ref q), .val (.int (1 : Int32))] [(.int (expF (3 : Int32) (1 : Int32) w0 w1 w2 r0 r1 r2)), (.int (firV (stp (stp (stp S0 w0 r0) w1 r1) w2 r2) (1 : Int32))), (.int (1 : Int32))])
                    refine g_icmp X hx (hb hby at_369) (by decide) (pc' := 376) (by decide) (pc2 := 372) rfl (fun hc => ?_) (fun hc => ?_)
                    · replace hc := h_ne1 hc
                      have hc369 := hc
                      exfalso
                      exact hc (ok_at (a := (3, 3)) (by decide) pw0 pw1 pw2 hR (by decide)).2.2
                    · replace hc := h_ne0 hc
                      have hc369 := hc
                      refine g_iconst X hx (hb hby at_372) (x := (1 : Int32)) (by decide) (pc' := 373) rfl ?_
                      refine g_goto X hx (hb hby at_373) (by decide) (pc' := 377) (by decide) ?_
                      refine g_iand X hx (hb hby at_377) (pc' := 378) rfl ?_
                      rw [show ((1 : Int32) &&& (1 : Int32)) = (1 : Int32) from by decide]
                      refine g_istore X hx (hb hby at_378) (Ls' := #[.val (.int p0), .val (.int p1), .val (.int p2), .val (.int p3), .val (.int p4), .val (.int (3 : Int32)), .val (.int pp), .val (.ref ou), .val (.ref r), .val (.ref g), .val (.ref q), .val (.int (1 : Int32))]) rfl (pc' := 380) rfl ?_
                      refine g_iload X hx (hb hby at_380) rfl (pc' := 382) rfl ?_
                      refine g_aload X hx (hb hby at_382) rfl rfl (pc' := 384) rfl ?_
                      refine g_iconst X hx (hb hby at_384) (x := (2 : Int32)) (by decide) (pc' := 385) rfl ?_
                      refine g_virt (W := 1) (argsL := [(.int (2 : Int32))]) (st := [(.int (1 : Int32))]) X hx hZ hown (hw _ (List.mem_of_getElem? (i := 34) rfl)) (hw _ (List.mem_of_getElem? (i := 35) rfl)) (notFace_of_selects (args := #[]) (mvT hZ (hw _ (List.mem_of_getElem? (i := 37) rfl)))) (hw _ (List.mem_of_getElem? (i := 37) rfl)) (hw _ (List.mem_of_getElem? (i := 36) rfl)) (hw _ (List.mem_of_getElem? (i := 38) rfl)) (hw _ (List.mem_of_getElem? (i := 7) rfl)) (by decide) E_q (rmFi l Z a0 hw q x1 x2 x3 (stp (stp (stp S0 w0 r0) w1 r1) w2 r2) (2 : Int32) h n0 Zn F_q_lastPlusOne F_q_next F_q_counts A_x1 A_x2 A_x3 (ok_at (a := (3, 3)) (by decide) pw0 pw1 pw2 hR (by decide)).1) eT (by decide) (by decide) (by decide) (by decide) (lenOf pd_1 rfl) (by rw [hml]; rfl) rfl (Nat.le_of_eq rfl) (hb hby at_385) (pc' := 388) rfl (fun T hn vq Lq X eT hQ => ?_)
                      obtain ⟨rfl, Nq, hE⟩ := hQ
                      replace N := Fr.app N Nq
                      rw [hE] at eT; clear hE
                      show WGo _ _ _ _ _ _ _ _ (mkF m 388 #[.val (.int p0), .val (.int p1), .val (.int p2), .val (.int p3), .val (.int p4), .val (.int (3 : Int32)), .val (.int pp), .val (.ref ou), .val (.ref r), .val (.ref g), .val (.ref q), .val (.int (1 : Int32))] [(.int (firV (stp (stp (stp S0 w0 r0) w1 r1) w2 r2) (2 : Int32))), (.int (1 : Int32))])
                      refine g_aload X hx (hb hby at_388) rfl rfl (pc' := 390) rfl ?_
                      refine g_aload X hx (hb hby at_390) rfl rfl (pc' := 392) rfl ?_
                      refine g_iload X hx (hb hby at_392) rfl (pc' := 394) rfl ?_
                      refine g_iconst X hx (hb hby at_394) (x := (2 : Int32)) (by decide) (pc' := 395) rfl ?_
                      refine g_stat (W := 2) (argsL := [(.ref g), (.ref r), (.int (3 : Int32)), (.int (2 : Int32))]) (st := [(.int (firV (stp (stp (stp S0 w0 r0) w1 r1) w2 r2) (2 : Int32))), (.int (1 : Int32))]) X hx hZ hown (hw _ (List.mem_of_getElem? (i := 39) rfl)) (hw _ (List.mem_of_getElem? (i := 40) rfl)) (hw _ (List.mem_of_getElem? (i := 32) rfl)) (hw _ (List.mem_of_getElem? (i := 41) rfl)) (by decide) (rmXF l Z a0 hw g w0 w1 w2 r r0 r1 r2 (3 : Int32) (2 : Int32) h n0 Zn A_g A_r ) eT (by decide) (by decide) (by decide) (by decide) (lenOf pd_3 rfl) (by rw [hml]; rfl) rfl (Nat.le_of_eq rfl) (hb hby at_395) (pc' := 398) rfl (fun T hn vq Lq X eT hQ => ?_)
                      obtain ⟨rfl, Nq, hE⟩ := hQ
                      replace N := Fr.app N Nq
                      rw [hE] at eT; clear hE
                      show WGo _ _ _ _ _ _ _ _ (mkF m 398 #[.val (.int p0), .val (.int p1), .val (.int p2), .val (.int p3), .val (.int p4), .val (.int (3 : Int32)), .val (.int pp), .val (.ref ou), .val (.ref r), .val (.ref g), .val (.ref q), .val (.int (1 : Int32))] [(.int (expF (3 : Int32) (2 : Int32) w0 w1 w2 r0 r1 r2)), (.int (firV (stp (stp (stp S0 w0 r0) w1 r1) w2 r2) (2 : Int32))), (.int (1 : Int32))])
                      refine g_icmp X hx (hb hby at_398) (by decide) (pc' := 405) (by decide) (pc2 := 401) rfl (fun hc => ?_) (fun hc => ?_)
                      · replace hc := h_ne1 hc
                        have hc398 := hc
                        exfalso
                        exact hc (ok_at (a := (3, 3)) (by decide) pw0 pw1 pw2 hR (by decide)).2.2
                      · replace hc := h_ne0 hc
                        have hc398 := hc
                        refine g_iconst X hx (hb hby at_401) (x := (1 : Int32)) (by decide) (pc' := 402) rfl ?_
                        refine g_goto X hx (hb hby at_402) (by decide) (pc' := 406) (by decide) ?_
                        refine g_iand X hx (hb hby at_406) (pc' := 407) rfl ?_
                        rw [show ((1 : Int32) &&& (1 : Int32)) = (1 : Int32) from by decide]
                        refine g_istore X hx (hb hby at_407) (Ls' := #[.val (.int p0), .val (.int p1), .val (.int p2), .val (.int p3), .val (.int p4), .val (.int (3 : Int32)), .val (.int pp), .val (.ref ou), .val (.ref r), .val (.ref g), .val (.ref q), .val (.int (1 : Int32))]) rfl (pc' := 409) rfl ?_
                        refine g_iload X hx (hb hby at_409) rfl (pc' := 411) rfl ?_
                        refine g_if X hx (hb hby at_411) (by decide) (pc' := 450) (by decide) (pc2 := 414) rfl (fun hc => ?_) (fun hc => ?_)
                        · replace hc := h_le1 hc
                          have hc411 := hc
                          exfalso
                          clear hc411; revert hc; decide
                        · replace hc := h_le0 hc
                          have hc411 := hc
                          refine g_iload X hx (hb hby at_414) rfl (pc' := 416) rfl ?_
                          refine g_aload X hx (hb hby at_416) rfl rfl (pc' := 418) rfl ?_
                          refine g_aload X hx (hb hby at_418) rfl rfl (pc' := 420) rfl ?_
                          refine g_iconst X hx (hb hby at_420) (x := (0 : Int32)) (by decide) (pc' := 421) rfl ?_
                          refine g_iaload X hx hZ eT A_g.2 (hb hby at_421) (by decide) (by decide) (v := (.int w0)) rfl (pc' := 422) rfl ?_
                          refine g_aload X hx (hb hby at_422) rfl rfl (pc' := 424) rfl ?_
                          refine g_iconst X hx (hb hby at_424) (x := (0 : Int32)) (by decide) (pc' := 425) rfl ?_
                          refine g_iaload X hx hZ eT A_r.2 (hb hby at_425) (by decide) (by decide) (v := (.int r0)) rfl (pc' := 426) rfl ?_
                          refine g_virt (W := 1) (argsL := [(.int w0), (.int r0)]) (st := [(.int (1 : Int32))]) X hx hZ hown (hw _ (List.mem_of_getElem? (i := 42) rfl)) (hw _ (List.mem_of_getElem? (i := 43) rfl)) (notFace_of_selects (args := #[]) (mvT hZ (hw _ (List.mem_of_getElem? (i := 45) rfl)))) (hw _ (List.mem_of_getElem? (i := 45) rfl)) (hw _ (List.mem_of_getElem? (i := 44) rfl)) (hw _ (List.mem_of_getElem? (i := 46) rfl)) (hw _ (List.mem_of_getElem? (i := 7) rfl)) (by decide) E_q (rmAf l Z a0 hw q x1 x2 x3 (stp (stp (stp S0 w0 r0) w1 r1) w2 r2) w0 r0 h n0 Zn F_q_lastPlusOne F_q_next F_q_counts A_x1 A_x2 A_x3 (ok_at (a := (3, 3)) (by decide) pw0 pw1 pw2 hR pw0).1 hR0) eT (by decide) (by decide) (by decide) (by decide) (lenOf pd_5 rfl) (by rw [hml]; rfl) rfl (Nat.le_of_eq rfl) (hb hby at_426) (pc' := 429) rfl (fun T hn vq Lq X eT hQ => ?_)
                          obtain ⟨rfl, Nq, hE⟩ := hQ
                          replace N := Fr.app N Nq
                          rw [hE] at eT; clear hE
                          show WGo _ _ _ _ _ _ _ _ (mkF m 429 #[.val (.int p0), .val (.int p1), .val (.int p2), .val (.int p3), .val (.int p4), .val (.int (3 : Int32)), .val (.int pp), .val (.ref ou), .val (.ref r), .val (.ref g), .val (.ref q), .val (.int (1 : Int32))] [(.int (aftV (stp (stp (stp S0 w0 r0) w1 r1) w2 r2) w0 r0)), (.int (1 : Int32))])
                          refine g_aload X hx (hb hby at_429) rfl rfl (pc' := 431) rfl ?_
                          refine g_aload X hx (hb hby at_431) rfl rfl (pc' := 433) rfl ?_
                          refine g_iload X hx (hb hby at_433) rfl (pc' := 435) rfl ?_
                          refine g_iconst X hx (hb hby at_435) (x := (0 : Int32)) (by decide) (pc' := 436) rfl ?_
                          refine g_stat (W := 2) (argsL := [(.ref g), (.ref r), (.int (3 : Int32)), (.int (0 : Int32))]) (st := [(.int (aftV (stp (stp (stp S0 w0 r0) w1 r1) w2 r2) w0 r0)), (.int (1 : Int32))]) X hx hZ hown (hw _ (List.mem_of_getElem? (i := 47) rfl)) (hw _ (List.mem_of_getElem? (i := 48) rfl)) (hw _ (List.mem_of_getElem? (i := 32) rfl)) (hw _ (List.mem_of_getElem? (i := 49) rfl)) (by decide) (rmXA l Z a0 hw g w0 w1 w2 r r0 r1 r2 (3 : Int32) (0 : Int32) h n0 Zn A_g A_r ) eT (by decide) (by decide) (by decide) (by decide) (lenOf pd_3 rfl) (by rw [hml]; rfl) rfl (Nat.le_of_eq rfl) (hb hby at_436) (pc' := 439) rfl (fun T hn vq Lq X eT hQ => ?_)
                          obtain ⟨rfl, Nq, hE⟩ := hQ
                          replace N := Fr.app N Nq
                          rw [hE] at eT; clear hE
                          show WGo _ _ _ _ _ _ _ _ (mkF m 439 #[.val (.int p0), .val (.int p1), .val (.int p2), .val (.int p3), .val (.int p4), .val (.int (3 : Int32)), .val (.int pp), .val (.ref ou), .val (.ref r), .val (.ref g), .val (.ref q), .val (.int (1 : Int32))] [(.int (expA (3 : Int32) (0 : Int32) w0 w1 w2 r0 r1 r2)), (.int (aftV (stp (stp (stp S0 w0 r0) w1 r1) w2 r2) w0 r0)), (.int (1 : Int32))])
                          refine g_icmp X hx (hb hby at_439) (by decide) (pc' := 446) (by decide) (pc2 := 442) rfl (fun hc => ?_) (fun hc => ?_)
                          · replace hc := h_ne1 hc
                            have hc439 := hc
                            exfalso
                            exact hc ((aft_at (a := (3, 3)) (by decide) pw0 pw1 pw2 hR).1 (by decide))
                          · replace hc := h_ne0 hc
                            have hc439 := hc
                            refine g_iconst X hx (hb hby at_442) (x := (1 : Int32)) (by decide) (pc' := 443) rfl ?_
                            refine g_goto X hx (hb hby at_443) (by decide) (pc' := 447) (by decide) ?_
                            refine g_iand X hx (hb hby at_447) (pc' := 448) rfl ?_
                            rw [show ((1 : Int32) &&& (1 : Int32)) = (1 : Int32) from by decide]
                            refine g_istore X hx (hb hby at_448) (Ls' := #[.val (.int p0), .val (.int p1), .val (.int p2), .val (.int p3), .val (.int p4), .val (.int (3 : Int32)), .val (.int pp), .val (.ref ou), .val (.ref r), .val (.ref g), .val (.ref q), .val (.int (1 : Int32))]) rfl (pc' := 450) rfl ?_
                            refine g_iload X hx (hb hby at_450) rfl (pc' := 452) rfl ?_
                            refine g_iconst X hx (hb hby at_452) (x := (1 : Int32)) (by decide) (pc' := 453) rfl ?_
                            refine g_icmp X hx (hb hby at_453) (by decide) (pc' := 492) (by decide) (pc2 := 456) rfl (fun hc => ?_) (fun hc => ?_)
                            · replace hc := h_le1 hc
                              have hc453 := hc
                              exfalso
                              clear hc453; revert hc; decide
                            · replace hc := h_le0 hc
                              have hc453 := hc
                              refine g_iload X hx (hb hby at_456) rfl (pc' := 458) rfl ?_
                              refine g_aload X hx (hb hby at_458) rfl rfl (pc' := 460) rfl ?_
                              refine g_aload X hx (hb hby at_460) rfl rfl (pc' := 462) rfl ?_
                              refine g_iconst X hx (hb hby at_462) (x := (1 : Int32)) (by decide) (pc' := 463) rfl ?_
                              refine g_iaload X hx hZ eT A_g.2 (hb hby at_463) (by decide) (by decide) (v := (.int w1)) rfl (pc' := 464) rfl ?_
                              refine g_aload X hx (hb hby at_464) rfl rfl (pc' := 466) rfl ?_
                              refine g_iconst X hx (hb hby at_466) (x := (1 : Int32)) (by decide) (pc' := 467) rfl ?_
                              refine g_iaload X hx hZ eT A_r.2 (hb hby at_467) (by decide) (by decide) (v := (.int r1)) rfl (pc' := 468) rfl ?_
                              refine g_virt (W := 1) (argsL := [(.int w1), (.int r1)]) (st := [(.int (1 : Int32))]) X hx hZ hown (hw _ (List.mem_of_getElem? (i := 42) rfl)) (hw _ (List.mem_of_getElem? (i := 43) rfl)) (notFace_of_selects (args := #[]) (mvT hZ (hw _ (List.mem_of_getElem? (i := 45) rfl)))) (hw _ (List.mem_of_getElem? (i := 45) rfl)) (hw _ (List.mem_of_getElem? (i := 44) rfl)) (hw _ (List.mem_of_getElem? (i := 46) rfl)) (hw _ (List.mem_of_getElem? (i := 7) rfl)) (by decide) E_q (rmAf l Z a0 hw q x1 x2 x3 (stp (stp (stp S0 w0 r0) w1 r1) w2 r2) w1 r1 h n0 Zn F_q_lastPlusOne F_q_next F_q_counts A_x1 A_x2 A_x3 (ok_at (a := (3, 3)) (by decide) pw0 pw1 pw2 hR pw1).1 hR1) eT (by decide) (by decide) (by decide) (by decide) (lenOf pd_5 rfl) (by rw [hml]; rfl) rfl (Nat.le_of_eq rfl) (hb hby at_468) (pc' := 471) rfl (fun T hn vq Lq X eT hQ => ?_)
                              obtain ⟨rfl, Nq, hE⟩ := hQ
                              replace N := Fr.app N Nq
                              rw [hE] at eT; clear hE
                              show WGo _ _ _ _ _ _ _ _ (mkF m 471 #[.val (.int p0), .val (.int p1), .val (.int p2), .val (.int p3), .val (.int p4), .val (.int (3 : Int32)), .val (.int pp), .val (.ref ou), .val (.ref r), .val (.ref g), .val (.ref q), .val (.int (1 : Int32))] [(.int (aftV (stp (stp (stp S0 w0 r0) w1 r1) w2 r2) w1 r1)), (.int (1 : Int32))])
                              refine g_aload X hx (hb hby at_471) rfl rfl (pc' := 473) rfl ?_
                              refine g_aload X hx (hb hby at_473) rfl rfl (pc' := 475) rfl ?_
                              refine g_iload X hx (hb hby at_475) rfl (pc' := 477) rfl ?_
                              refine g_iconst X hx (hb hby at_477) (x := (1 : Int32)) (by decide) (pc' := 478) rfl ?_
                              refine g_stat (W := 2) (argsL := [(.ref g), (.ref r), (.int (3 : Int32)), (.int (1 : Int32))]) (st := [(.int (aftV (stp (stp (stp S0 w0 r0) w1 r1) w2 r2) w1 r1)), (.int (1 : Int32))]) X hx hZ hown (hw _ (List.mem_of_getElem? (i := 47) rfl)) (hw _ (List.mem_of_getElem? (i := 48) rfl)) (hw _ (List.mem_of_getElem? (i := 32) rfl)) (hw _ (List.mem_of_getElem? (i := 49) rfl)) (by decide) (rmXA l Z a0 hw g w0 w1 w2 r r0 r1 r2 (3 : Int32) (1 : Int32) h n0 Zn A_g A_r ) eT (by decide) (by decide) (by decide) (by decide) (lenOf pd_3 rfl) (by rw [hml]; rfl) rfl (Nat.le_of_eq rfl) (hb hby at_478) (pc' := 481) rfl (fun T hn vq Lq X eT hQ => ?_)
                              obtain ⟨rfl, Nq, hE⟩ := hQ
                              replace N := Fr.app N Nq
                              rw [hE] at eT; clear hE
                              show WGo _ _ _ _ _ _ _ _ (mkF m 481 #[.val (.int p0), .val (.int p1), .val (.int p2), .val (.int p3), .val (.int p4), .val (.int (3 : Int32)), .val (.int pp), .val (.ref ou), .val (.ref r), .val (.ref g), .val (.ref q), .val (.int (1 : Int32))] [(.int (expA (3 : Int32) (1 : Int32) w0 w1 w2 r0 r1 r2)), (.int (aftV (stp (stp (stp S0 w0 r0) w1 r1) w2 r2) w1 r1)), (.int (1 : Int32))])
                              refine g_icmp X hx (hb hby at_481) (by decide) (pc' := 488) (by decide) (pc2 := 484) rfl (fun hc => ?_) (fun hc => ?_)
                              · replace hc := h_ne1 hc
                                have hc481 := hc
                                exfalso
                                exact hc ((aft_at (a := (3, 3)) (by decide) pw0 pw1 pw2 hR).2.1 (by decide))
                              · replace hc := h_ne0 hc
                                have hc481 := hc
                                refine g_iconst X hx (hb hby at_484) (x := (1 : Int32)) (by decide) (pc' := 485) rfl ?_
                                refine g_goto X hx (hb hby at_485) (by decide) (pc' := 489) (by decide) ?_
                                refine g_iand X hx (hb hby at_489) (pc' := 490) rfl ?_
                                rw [show ((1 : Int32) &&& (1 : Int32)) = (1 : Int32) from by decide]
                                refine g_istore X hx (hb hby at_490) (Ls' := #[.val (.int p0), .val (.int p1), .val (.int p2), .val (.int p3), .val (.int p4), .val (.int (3 : Int32)), .val (.int pp), .val (.ref ou), .val (.ref r), .val (.ref g), .val (.ref q), .val (.int (1 : Int32))]) rfl (pc' := 492) rfl ?_
                                refine g_iload X hx (hb hby at_492) rfl (pc' := 494) rfl ?_
                                refine g_iconst X hx (hb hby at_494) (x := (2 : Int32)) (by decide) (pc' := 495) rfl ?_
                                refine g_icmp X hx (hb hby at_495) (by decide) (pc' := 534) (by decide) (pc2 := 498) rfl (fun hc => ?_) (fun hc => ?_)
                                · replace hc := h_le1 hc
                                  have hc495 := hc
                                  exfalso
                                  clear hc495; revert hc; decide
                                · replace hc := h_le0 hc
                                  have hc495 := hc
                                  refine g_iload X hx (hb hby at_498) rfl (pc' := 500) rfl ?_
                                  refine g_aload X hx (hb hby at_500) rfl rfl (pc' := 502) rfl ?_
                                  refine g_aload X hx (hb hby at_502) rfl rfl (pc' := 504) rfl ?_
                                  refine g_iconst X hx (hb hby at_504) (x := (2 : Int32)) (by decide) (pc' := 505) rfl ?_
                                  refine g_iaload X hx hZ eT A_g.2 (hb hby at_505) (by decide) (by decide) (v := (.int w2)) rfl (pc' := 506) rfl ?_
                                  refine g_aload X hx (hb hby at_506) rfl rfl (pc' := 508) rfl ?_
                                  refine g_iconst X hx (hb hby at_508) (x := (2 : Int32)) (by decide) (pc' := 509) rfl ?_
                                  refine g_iaload X hx hZ eT A_r.2 (hb hby at_509) (by decide) (by decide) (v := (.int r2)) rfl (pc' := 510) rfl ?_
                                  refine g_virt (W := 1) (argsL := [(.int w2), (.int r2)]) (st := [(.int (1 : Int32))]) X hx hZ hown (hw _ (List.mem_of_getElem? (i := 42) rfl)) (hw _ (List.mem_of_getElem? (i := 43) rfl)) (notFace_of_selects (args := #[]) (mvT hZ (hw _ (List.mem_of_getElem? (i := 45) rfl)))) (hw _ (List.mem_of_getElem? (i := 45) rfl)) (hw _ (List.mem_of_getElem? (i := 44) rfl)) (hw _ (List.mem_of_getElem? (i := 46) rfl)) (hw _ (List.mem_of_getElem? (i := 7) rfl)) (by decide) E_q (rmAf l Z a0 hw q x1 x2 x3 (stp (stp (stp S0 w0 r0) w1 r1) w2 r2) w2 r2 h n0 Zn F_q_lastPlusOne F_q_next F_q_counts A_x1 A_x2 A_x3 (ok_at (a := (3, 3)) (by decide) pw0 pw1 pw2 hR pw2).1 hR2) eT (by decide) (by decide) (by decide) (by decide) (lenOf pd_5 rfl) (by rw [hml]; rfl) rfl (Nat.le_of_eq rfl) (hb hby at_510) (pc' := 513) rfl (fun T hn vq Lq X eT hQ => ?_)
                                  obtain ⟨rfl, Nq, hE⟩ := hQ
                                  replace N := Fr.app N Nq
                                  rw [hE] at eT; clear hE
                                  show WGo _ _ _ _ _ _ _ _ (mkF m 513 #[.val (.int p0), .val (.int p1), .val (.int p2), .val (.int p3), .val (.int p4), .val (.int (3 : Int32)), .val (.int pp), .val (.ref ou), .val (.ref r), .val (.ref g), .val (.ref q), .val (.int (1 : Int32))] [(.int (aftV (stp (stp (stp S0 w0 r0) w1 r1) w2 r2) w2 r2)), (.int (1 : Int32))])
                                  refine g_aload X hx (hb hby at_513) rfl rfl (pc' := 515) rfl ?_
                                  refine g_aload X hx (hb hby at_515) rfl rfl (pc' := 517) rfl ?_
                                  refine g_iload X hx (hb hby at_517) rfl (pc' := 519) rfl ?_
                                  refine g_iconst X hx (hb hby at_519) (x := (2 : Int32)) (by decide) (pc' := 520) rfl ?_
                                  refine g_stat (W := 2) (argsL := [(.ref g), (.ref r), (.int (3 : Int32)), (.int (2 : Int32))]) (st := [(.int (aftV (stp (stp (stp S0 w0 r0) w1 r1) w2 r2) w2 r2)), (.int (1 : Int32))]) X hx hZ hown (hw _ (List.mem_of_getElem? (i := 47) rfl)) (hw _ (List.mem_of_getElem? (i := 48) rfl)) (hw _ (List.mem_of_getElem? (i := 32) rfl)) (hw _ (List.mem_of_getElem? (i := 49) rfl)) (by decide) (rmXA l Z a0 hw g w0 w1 w2 r r0 r1 r2 (3 : Int32) (2 : Int32) h n0 Zn A_g A_r ) eT (by decide) (by decide) (by decide) (by decide) (lenOf pd_3 rfl) (by rw [hml]; rfl) rfl (Nat.le_of_eq rfl) (hb hby at_520) (pc' := 523) rfl (fun T hn vq Lq X eT hQ => ?_)
                                  obtain ⟨rfl, Nq, hE⟩ := hQ
                                  replace N := Fr.app N Nq
                                  rw [hE] at eT; clear hE
                                  show WGo _ _ _ _ _ _ _ _ (mkF m 523 #[.val (.int p0), .val (.int p1), .val (.int p2), .val (.int p3), .val (.int p4), .val (.int (3 : Int32)), .val (.int pp), .val (.ref ou), .val (.ref r), .val (.ref g), .val (.ref q), .val (.int (1 : Int32))] [(.int (expA (3 : Int32) (2 : Int32) w0 w1 w2 r0 r1 r2)), (.int (aftV (stp (stp (stp S0 w0 r0) w1 r1) w2 r2) w2 r2)), (.int (1 : Int32))])
                                  refine g_icmp X hx (hb hby at_523) (by decide) (pc' := 530) (by decide) (pc2 := 526) rfl (fun hc => ?_) (fun hc => ?_)
                                  · replace hc := h_ne1 hc
                                    have hc523 := hc
                                    exfalso
                                    exact hc ((aft_at (a := (3, 3)) (by decide) pw0 pw1 pw2 hR).2.2 (by decide))
                                  · replace hc := h_ne0 hc
                                    have hc523 := hc
                                    refine g_iconst X hx (hb hby at_526) (x := (1 : Int32)) (by decide) (pc' := 527) rfl ?_
                                    refine g_goto X hx (hb hby at_527) (by decide) (pc' := 531) (by decide) ?_
                                    refine g_iand X hx (hb hby at_531) (pc' := 532) rfl ?_
                                    rw [show ((1 : Int32) &&& (1 : Int32)) = (1 : Int32) from by decide]
                                    refine g_istore X hx (hb hby at_532) (Ls' := #[.val (.int p0), .val (.int p1), .val (.int p2), .val (.int p3), .val (.int p4), .val (.int (3 : Int32)), .val (.int pp), .val (.ref ou), .val (.ref r), .val (.ref g), .val (.ref q), .val (.int (1 : Int32))]) rfl (pc' := 534) rfl ?_
                                    refine g_iload X hx (hb hby at_534) rfl (pc' := 536) rfl ?_
                                    refine g_retN (t := .boolean) X hx hret (by simp) hlk (hb hby at_536) (by decide) (by decide) ?_
                                    exact ⟨rfl, N⟩
set_option maxRecDepth 65536 in
set_option maxHeartbeats 40000000 in
theorem comes_1 {Post : Tables → Env → Array Value → State → Outcome → State → Prop} (hpost : ∀ tb e args s v u, (limb_1_1.after args s (.returned v) u = true ∧ limb_1_2.after args s (.returned v) u = true ∧ True) → FrameEnd s (.returned v) u (Jvm.fieldLocs frame_1_writes args s ++ Jvm.arrayLocs frame_1_arrays args s ++ Jvm.staticLocs frame_1_statics s) 32 192 → Post tb e args s (.returned v) u) :
    ArmFor flags0 classFile x code maxLocals ret World_1 tables_1 room_1 Calls_1 rest_1 Pre_1 Post := by
  intro l hfl _ _ p e ha hc hk s m args below hf hA hF happ hP
  obtain ⟨hcalls, hrest, hpre⟩ := hP
  obtain ⟨-, -, -, hnamed, -, -, -, hat⟩ := (Spec.applies_iff hf).mp happ
  obtain ⟨hg, hn⟩ := and_e (Cond.before_iff.mp (show (Jvm.Cond.and given_1 narrow_1).before args s = true from hpre))
  obtain ⟨gc, gr0⟩ := and_e hg
  obtain ⟨ga0, gr1⟩ := and_e gr0
  obtain ⟨ga1, gr2⟩ := and_e gr1
  obtain ⟨ga2, gr3⟩ := and_e gr2
  obtain ⟨ga3, gr4⟩ := and_e gr3
  obtain ⟨w0, w1, w2, w3, w4, rfl⟩ : ∃ w0 w1 w2 w3 w4 : Value, args = #[w0, w1, w2, w3, w4] := by
    have hs : args.size = 5 := by simpa [Cond.value, given_1] using gc
    obtain ⟨L⟩ := args
    match L, hs with
    | [w0, w1, w2, w3, w4], _ => exact ⟨w0, w1, w2, w3, w4, rfl⟩
  have hw := fun d (hd : d ∈ tables_1) => atoms_spec (ws := Jvm.Cond.code x code maxLocals ret :: tables_1) hat d (List.mem_cons_of_mem _ hd)
  obtain ⟨i0, ei0⟩ := is_v ga0
  obtain rfl : w0 = (.int i0) := Option.some.inj ei0
  obtain ⟨i1, ei1⟩ := is_v ga1
  obtain rfl : w1 = (.int i1) := Option.some.inj ei1
  obtain ⟨i2, ei2⟩ := is_v ga2
  obtain rfl : w2 = (.int i2) := Option.some.inj ei2
  obtain ⟨i3, ei3⟩ := is_v ga3
  obtain rfl : w3 = (.int i3) := Option.some.inj ei3
  obtain ⟨i4, ei4⟩ := is_v gr4
  obtain rfl : w4 = (.int i4) := Option.some.inj ei4
  obtain ⟨n, o, h1, h2, h3, _, L, rfl, ⟨rfl, N⟩, hq⟩ := rm0 l s _ hw i0 i1 i2 i3 i4 s.heap s.heap.size (Nat.le_refl _)  tables_1 p e ha hc hk s m _ below hf ((Spec.applies_iff_loose hf).mp happ).1 ⟨rfl, State.Warmed39.refl s, rfl⟩ trivial
  refine ⟨n, _, h1, h2, h3, hpost _ _ _ _ _ _ ⟨Cond.after_iff.mpr rfl, Cond.after_iff.mpr (eq_i res_at (Term.int_eval (1)) rfl), trivial⟩ ⟨hq.1, hq.2.1, (hq.2.2.sift fun y hy => Or.inr (N y hy)).mono (by decide) (by decide)⟩⟩
theorem main_1_1 : Claimed_1_1 := comes_1 fun _ _ _ _ _ _ h hF => ⟨h.1, hF⟩
theorem main_1_2 : Claimed_1_2 := comes_1 fun _ _ _ _ _ _ h hF => ⟨h.2.1, hF⟩
end Jvm.Pilot.@@N@@
namespace Jvm.Pilot.@@N@@
open Jvm Jvm.ClassFile Sem Op Lib Jvm.Free Jvm.Stand Jvm.Pilot.@@N@@.Jvm.D
/-! MADE BY PROGRAM (witnessworld.py) out of the Statement's table words and the real class files: 9 classes; the members and pool entries that the words name. The judged class is class 1, her method 1. -/
namespace start1
open Jvm.ClassFile
def u (s : String) : CpInfo := .utf8 (stringToUtf16 s)
/-- a pool by its gaps: so many unusable entries, then the entry; so many at the end -/
def gap : Nat → List CpInfo → List CpInfo
  | 0, r => r
  | n + 1, r => .unusable :: gap n r
def poolList (es : List (Nat × CpInfo)) (last : Nat) : List CpInfo := es.foldr (fun e r => gap e.1 (e.2 :: r)) (gap last [])
def pool (es : List (Nat × CpInfo)) (last : Nat) : Array CpInfo := ⟨poolList es last⟩
def fileOf (pool : Array CpInfo) (this : Nat) (attrs : Array Attribute := #[]) (ms : Array MethodInfo := #[]) (fl : Nat := 33) (sup : Nat := 0) (ifs : Array Nat := #[]) (fds : Array FieldInfo := #[]) : ClassFile where
  minorVersion := 0
  majorVersion := 65
  constantPool := pool
  accessFlags := fl
  thisClass := this
  superClass := sup
  interfaces := ifs
  fields := fds
  methods := ms
  attributes := attrs
def plain (name : String) (sup : Option ClassId) : Class where
  name := name
  kind := .ordinary
  loader := none
  accessFlags := 33
  super := sup
  interfaces := #[]
  cf := none
  fields := #[]
  methods := #[]
  instanceTypes := #[]
  staticTypes := #[]
  resolved := #[]
  callSites := []
  init := .initialized
  statics := none
  mirror := none

def pool0 : Array CpInfo := pool [(5, u "<init>"), (0, u "()V"), (1, .class_ 10), (1, u "java/lang/Object")] 113

def k0c0 : Code := { maxStack := 0, maxLocals := 1, code := object_method_1_code, exceptionTable := #[], attributes := #[] }
def k0m0 : Method := { name := "<init>", desc := "()V", sig := { parameters := [], returnType := none }, accessFlags := 1, code := some k0c0 }
/-- java/lang/Object -/
def k0 : Class := { plain "java/lang/Object" none with
  accessFlags := 33
  interfaces := #[]
  cf := some (fileOf pool0 8 #[] #[{ accessFlags := 1, nameIndex := 5, descriptorIndex := 6, attributes := #[] }] 33 0 #[] #[])
  fields := #[]
  methods := #[k0m0]
  instanceTypes := #[]
  staticTypes := #[]
  resolved := Array.replicate 124 none
  statics := none }

def pool1 : Array CpInfo := pool [(2, .class_ 4), (1, u "java/lang/Object"), (0, u "<init>"), (0, u "()V"), (0, .integer 2147483647), (0, .class_ 9), (0, u "[I"), (0, .class_ 11), (0, u "com/example/storewatch/storewatch/check/Readers"), (0, .methodref 10 13), (0, .nameAndType 5 14), (0, u "(I)V"), (0, .methodref 10 16), (0, .nameAndType 17 18), (0, u "enter"), (0, u "(II)V"), (0, .methodref 10 20), (0, .nameAndType 21 22), (0, u "count"), (0, u "(I)I"), (0, .methodref 24 25), (0, .class_ 26), (0, .nameAndType 27 28), (0, u "com/example/storewatch/storewatch/check/ReadersEnterPinLaw"), (0, u "expCount"), (0, u "([III)I"), (0, .methodref 10 30), (0, .nameAndType 31 22), (0, u "first"), (0, .methodref 24 33), (0, .nameAndType 34 35), (0, u "expFirst"), (0, u "([I[III)I"), (0, .methodref 10 37), (0, .nameAndType 38 39), (0, u "after"), (0, u "(II)I"), (0, .methodref 24 41), (0, .nameAndType 42 35), (0, u "expAfter"), (2, u "law"), (0, u "(IIIII)Z")] 5

def k1m0 : Method := { name := "<init>", desc := "()V", sig := { parameters := [], returnType := none }, accessFlags := 1, code := none }
def k1c1 : Code := { maxStack := 7, maxLocals := 12, code := code, exceptionTable := #[], attributes := #[] }
def k1m1 : Method := { name := "law", desc := "(IIIII)Z", sig := { parameters := [.int, .int, .int, .int, .int], returnType := some .boolean }, accessFlags := 9, code := some k1c1 }
def k1c2 : Code := { maxStack := 2, maxLocals := 4, code := method_3_code, exceptionTable := #[], attributes := #[] }
def k1m2 : Method := { name := "expCount", desc := "([III)I", sig := { parameters := [(.array .int), .int, .int], returnType := some .int }, accessFlags := 10, code := some k1c2 }
def k1c3 : Code := { maxStack := 2, maxLocals := 4, code := method_4_code, exceptionTable := #[], attributes := #[] }
def k1m3 : Method := { name := "expFirst", desc := "([I[III)I", sig := { parameters := [(.array .int), (.array .int), .int, .int], returnType := some .int }, accessFlags := 10, code := some k1c3 }
def k1c4 : Code := { maxStack := 3, maxLocals := 4, code := method_5_code, exceptionTable := #[], attributes := #[] }
def k1m4 : Method := { name := "expAfter", desc := "([I[III)I", sig := { parameters := [(.array .int), (.array .int), .int, .int], returnType := some .int }, accessFlags := 10, code := some k1c4 }
/-- com/example/storewatch/storewatch/check/ReadersEnterPinLaw -/
def k1 : Class := { plain "com/example/storewatch/storewatch/check/ReadersEnterPinLaw" (some 0) with
  accessFlags := 49
  interfaces := #[]
  cf := some (fileOf pool1 24 #[] #[{ accessFlags := 1, nameIndex := 5, descriptorIndex := 6, attributes := #[] }, { accessFlags := 9, nameIndex := 45, descriptorIndex := 46, attributes := #[] }, { accessFlags := 10, nameIndex := 27, descriptorIndex := 28, attributes := #[] }, { accessFlags := 10, nameIndex := 34, descriptorIndex := 35, attributes := #[] }, { accessFlags := 10, nameIndex := 42, descriptorIndex := 35, attributes := #[] }] 49 2 #[] #[])
  fields := #[]
  methods := #[k1m0, k1m1, k1m2, k1m3, k1m4]
  instanceTypes := #[]
  staticTypes := #[]
  resolved := Array.replicate 52 none
  statics := none }

def pool2 : Array CpInfo := pool [(1, .methodref 2 3), (0, .class_ 4), (0, .nameAndType 5 6), (0, u "java/lang/Object"), (0, u "<init>"), (0, u "()V"), (0, .fieldref 8 9), (0, .class_ 10), (0, .nameAndType 11 12), (0, u "com/example/storewatch/storewatch/check/Readers"), (0, u "lastPlusOne"), (0, u "[I"), (0, .fieldref 8 14), (0, .nameAndType 15 12), (0, u "next"), (0, .fieldref 8 17), (0, .nameAndType 18 12), (0, u "counts"), (5, u "(I)V"), (2, u "enter"), (0, u "(II)V"), (1, u "count"), (0, u "(I)I"), (1, u "first"), (0, u "after"), (0, u "(II)I")] 2

def k2c0 : Code := { maxStack := 2, maxLocals := 2, code := prog_23_method_1_code, exceptionTable := #[], attributes := #[] }
def k2m0 : Method := { name := "<init>", desc := "(I)V", sig := { parameters := [.int], returnType := none }, accessFlags := 0, code := some k2c0 }
def k2c1 : Code := { maxStack := 4, maxLocals := 4, code := prog_23_method_2_code, exceptionTable := #[], attributes := #[] }
def k2m1 : Method := { name := "enter", desc := "(II)V", sig := { parameters := [.int, .int], returnType := none }, accessFlags := 0, code := some k2c1 }
def k2c2 : Code := { maxStack := 2, maxLocals := 2, code := prog_23_method_3_code, exceptionTable := #[], attributes := #[] }
def k2m2 : Method := { name := "count", desc := "(I)I", sig := { parameters := [.int], returnType := some .int }, accessFlags := 0, code := some k2c2 }
def k2c3 : Code := { maxStack := 2, maxLocals := 3, code := prog_23_method_5_code, exceptionTable := #[], attributes := #[] }
def k2m3 : Method := { name := "first", desc := "(I)I", sig := { parameters := [.int], returnType := some .int }, accessFlags := 0, code := some k2c3 }
def k2c4 : Code := { maxStack := 3, maxLocals := 3, code := prog_23_method_6_code, exceptionTable := #[], attributes := #[] }
def k2m4 : Method := { name := "after", desc := "(II)I", sig := { parameters := [.int, .int], returnType := some .int }, accessFlags := 0, code := some k2c4 }
/-- com/example/storewatch/storewatch/check/Readers -/
def k2 : Class := { plain "com/example/storewatch/storewatch/check/Readers" (some 0) with
  accessFlags := 48
  interfaces := #[]
  cf := some (fileOf pool2 8 #[] #[{ accessFlags := 0, nameIndex := 5, descriptorIndex := 24, attributes := #[] }, { accessFlags := 0, nameIndex := 27, descriptorIndex := 28, attributes := #[] }, { accessFlags := 0, nameIndex := 30, descriptorIndex := 31, attributes := #[] }, { accessFlags := 0, nameIndex := 33, descriptorIndex := 31, attributes := #[] }, { accessFlags := 0, nameIndex := 34, descriptorIndex := 35, attributes := #[] }] 48 2 #[] #[{ accessFlags := 18, nameIndex := 11, descriptorIndex := 12, attributes := #[] }, { accessFlags := 18, nameIndex := 15, descriptorIndex := 12, attributes := #[] }, { accessFlags := 18, nameIndex := 18, descriptorIndex := 12, attributes := #[] }])
  fields := #[{ name := "lastPlusOne", type := (.array .int), accessFlags := 18, slot := 0, constantValue := 0 }, { name := "next", type := (.array .int), accessFlags := 18, slot := 1, constantValue := 0 }, { name := "counts", type := (.array .int), accessFlags := 18, slot := 2, constantValue := 0 }]
  methods := #[k2m0, k2m1, k2m2, k2m3, k2m4]
  instanceTypes := #[(.array .int), (.array .int), (.array .int)]
  staticTypes := #[]
  resolved := Array.replicate 38 none
  statics := none }

def pool3 : Array CpInfo := pool [(1, u "java/lang/Cloneable"), (0, .class_ 1), (0, u "java/lang/Object"), (0, .class_ 3)] 3

/-- java/lang/Cloneable -/
def k3 : Class := { plain "java/lang/Cloneable" (some 0) with
  accessFlags := 1537
  interfaces := #[]
  cf := some (fileOf pool3 2 #[] #[] 1537 4 #[] #[])
  fields := #[]
  methods := #[]
  instanceTypes := #[]
  staticTypes := #[]
  resolved := Array.replicate 8 none
  statics := none }

def pool4 : Array CpInfo := pool [(1, u "java/io/Serializable"), (0, .class_ 1), (0, u "java/lang/Object"), (0, .class_ 3)] 3

/-- java/io/Serializable -/
def k4 : Class := { plain "java/io/Serializable" (some 0) with
  accessFlags := 1537
  interfaces := #[]
  cf := some (fileOf pool4 2 #[] #[] 1537 4 #[] #[])
  fields := #[]
  methods := #[]
  instanceTypes := #[]
  staticTypes := #[]
  resolved := Array.replicate 8 none
  statics := none }

/-- the primitive byte -/
def k5 : Class := { plain "byte" none with kind := .primitive 'B', accessFlags := 0x411 }
/-- [B -/
def k6 : Class := { plain "[B" (some 0) with kind := .array 5 .byte, interfaces := #[3, 4], accessFlags := 1041 }

/-- the primitive int -/
def k7 : Class := { plain "int" none with kind := .primitive 'I', accessFlags := 0x411 }
/-- [I -/
def k8 : Class := { plain "[I" (some 0) with kind := .array 7 .int, interfaces := #[3, 4], accessFlags := 1041 }
/-- int[][] -/
def k9 : Class := { plain "[[I" (some 0) with kind := .array 8 (.array .int), interfaces := #[3, 4], accessFlags := 1041 }

def heap : Heap := #[]
def classes : Array Class := #[k0, k1, k2, k3, k4, k5, k6, k7, k8, k9]
def interned : List (Array UInt16 × Addr) := []
def slotsUsed : Nat := 0
def theMethod : MethodId := ⟨1, 1⟩
def args0 : Array Value := #[.int 5, .int 3, .int 2, .int 7, .int 9]
def aboutOver (below : List Frame) : State where
  vm := { classes := classes, interned := interned.toArray }
  heap := heap
  slotsUsed := slotsUsed
  threads := #[{ frames := .invoking theMethod args0 :: below }]
def below0 : List Frame := [.native { method := ⟨0, 0⟩, args := #[] }]
def about1 : State := aboutOver below0
def p0 : Program := .bare "" "" ""
def e0 : Env := launch0.env 0 0 0
theorem w_frames : about1.frames = Frame.invoking theMethod args0 :: below0 := rfl
set_option maxRecDepth 65536 in
theorem w_args : argsFit about1.vm theMethod args0 = true := by decide +kernel
set_option maxRecDepth 65536 in
theorem w_heap : heapFits about1 = true := by decide +kernel
set_option maxRecDepth 65536 in
theorem w_runnable : about1.curStatus? = some .runnable := by decide +kernel
set_option maxRecDepth 65536 in
theorem w_alone : about1.alone = true := by decide +kernel
set_option maxRecDepth 65536 in
theorem w_named : about1.methodNamed? x = some theMethod := by decide +kernel
set_option maxRecDepth 65536 in
theorem w_hears : about1.hears theMethod below0 = true := by decide +kernel
set_option maxRecDepth 65536 in
theorem w_ripe : about1.ripe theMethod args0 below0 = true := by decide +kernel
theorem w_running : about1.status = .running := rfl
set_option maxRecDepth 65536 in
theorem w_room : about1.hasRoom e0.platform room_1 = true :=
  launch0.hasRoom_least _ room_1 (by decide +kernel) (by decide +kernel) (by decide +kernel) (by decide +kernel) (by decide +kernel) (by decide +kernel)
theorem allAtoms_all (ts : List Jvm.Cond) (a : Array Jvm.Value) (st : Jvm.State) : (allAtoms ts).before a st = ts.all (fun c => c.before a st) := by
  induction ts with
  | nil => rfl
  | cons c t ih =>
    show (Jvm.Cond.and c (allAtoms t)).before a st = _
    rw [Jvm.Cond.before_and, ih, List.all_cons]
def words1 : List Jvm.Cond := Jvm.Cond.code x code maxLocals ret :: tables_1
/-- a 'code' word, met by the world's own term for the bytes: nothing is compared byte by byte -/
theorem code_word {y : MethodName} {bytes : ByteArray} {mx : Nat} {rt : Option FieldType} {a : Array Value} {s : State} {m : MethodId} {meth : Method} {c : Code} (h1 : s.methodNamed? y = some m) (h2 : s.vm.method? m = some meth) (h3 : meth.code = some c) (h4 : c.code = bytes)
    (h5 : (c.maxLocals == mx && c.exceptionTable.isEmpty && decide (c.maxStack ≤ mostOperands) && decide (meth.sig.returnType = rt) && !meth.locks && decide (parseMethodDescriptor y.desc = some meth.sig)) = true) : (Jvm.Cond.code y bytes mx rt).before a s = true := by
  simp only [Bool.and_eq_true, beq_iff_eq, Bool.not_eq_true', decide_eq_true_eq] at h5
  obtain ⟨⟨⟨⟨⟨g1, g2⟩, g3⟩, g4⟩, g5⟩, g6⟩ := h5
  simp [Cond.before, Cond.holds, Cond.value, h1, h2, h3, h4, g1, g2, g3, g4, g5, g6]
def isCode : Jvm.Cond → Bool
  | .code _ _ _ _ => true
  | _ => false
theorem all_split {L : List Jvm.Cond} {P : Jvm.Cond → Bool} (h1 : L.all (fun c => isCode c || P c) = true) (h2 : ∀ c ∈ L.filter isCode, P c = true) : L.all P = true := by
  refine List.all_eq_true.mpr fun c hc => ?_
  have h := List.all_eq_true.mp h1 c hc
  rcases Bool.eq_false_or_eq_true (isCode c) with hi | hi
  · exact h2 c (List.mem_filter.mpr ⟨hc, hi⟩)
  · simpa [hi] using h
set_option maxRecDepth 65536 in
theorem w_c0 : (Jvm.Cond.code x code maxLocals ret).before args0 about1 = true := code_word (m := ⟨1, 1⟩) (meth := k1m1) (c := k1c1) (by decide +kernel) rfl rfl rfl (by decide +kernel)
set_option maxRecDepth 65536 in
theorem w_c1 : (Jvm.Cond.code ({ cls := "com/example/storewatch/storewatch/check/Readers", name := "<init>", desc := "(I)V" } : Jvm.MethodName) prog_23_method_1_code (2 : Nat) (Option.none : Option Jvm.ClassFile.FieldType)).before args0 about1 = true := code_word (m := ⟨2, 0⟩) (meth := k2m0) (c := k2c0) (by decide +kernel) rfl rfl rfl (by decide +kernel)
set_option maxRecDepth 65536 in
theorem w_c2 : (Jvm.Cond.code ({ cls := "java/lang/Object", name := "<init>", desc := "()V" } : Jvm.MethodName) object_method_1_code (1 : Nat) (Option.none : Option Jvm.ClassFile.FieldType)).before args0 about1 = true := code_word (m := ⟨0, 0⟩) (meth := k0m0) (c := k0c0) (by decide +kernel) rfl rfl rfl (by decide +kernel)
set_option maxRecDepth 65536 in
theorem w_c3 : (Jvm.Cond.code ({ cls := "com/example/storewatch/storewatch/check/Readers", name := "enter", desc := "(II)V" } : Jvm.MethodName) prog_23_method_2_code (4 : Nat) (Option.none : Option Jvm.ClassFile.FieldType)).before args0 about1 = true := code_word (m := ⟨2, 1⟩) (meth := k2m1) (c := k2c1) (by decide +kernel) rfl rfl rfl (by decide +kernel)
set_option maxRecDepth 65536 in
theorem w_c4 : (Jvm.Cond.code ({ cls := "com/example/storewatch/storewatch/check/Readers", name := "count", desc := "(I)I" } : Jvm.MethodName) prog_23_method_3_code (2 : Nat) (Option.some Jvm.ClassFile.FieldType.int)).before args0 about1 = true := code_word (m := ⟨2, 2⟩) (meth := k2m2) (c := k2c2) (by decide +kernel) rfl rfl rfl (by decide +kernel)
set_option maxRecDepth 65536 in
theorem w_c5 : (Jvm.Cond.code ({ cls := "com/example/storewatch/storewatch/check/ReadersEnterPinLaw", name := "expCount", desc := "([III)I" } : Jvm.MethodName) method_3_code (4 : Nat) (Option.some Jvm.ClassFile.FieldType.int)).before args0 about1 = true := code_word (m := ⟨1, 2⟩) (meth := k1m2) (c := k1c2) (by decide +kernel) rfl rfl rfl (by decide +kernel)
set_option maxRecDepth 65536 in
theorem w_c6 : (Jvm.Cond.code ({ cls := "com/example/storewatch/storewatch/check/Readers", name := "first", desc := "(I)I" } : Jvm.MethodName) prog_23_method_5_code (3 : Nat) (Option.some Jvm.ClassFile.FieldType.int)).before args0 about1 = true := code_word (m := ⟨2, 3⟩) (meth := k2m3) (c := k2c3) (by decide +kernel) rfl rfl rfl (by decide +kernel)
set_option maxRecDepth 65536 in
theorem w_c7 : (Jvm.Cond.code ({ cls := "com/example/storewatch/storewatch/check/ReadersEnterPinLaw", name := "expFirst", desc := "([I[III)I" } : Jvm.MethodName) method_4_code (4 : Nat) (Option.some Jvm.ClassFile.FieldType.int)).before args0 about1 = true := code_word (m := ⟨1, 3⟩) (meth := k1m3) (c := k1c3) (by decide +kernel) rfl rfl rfl (by decide +kernel)
set_option maxRecDepth 65536 in
theorem w_c8 : (Jvm.Cond.code ({ cls := "com/example/storewatch/storewatch/check/Readers", name := "after", desc := "(II)I" } : Jvm.MethodName) prog_23_method_6_code (3 : Nat) (Option.some Jvm.ClassFile.FieldType.int)).before args0 about1 = true := code_word (m := ⟨2, 4⟩) (meth := k2m4) (c := k2c4) (by decide +kernel) rfl rfl rfl (by decide +kernel)
set_option maxRecDepth 65536 in
theorem w_c9 : (Jvm.Cond.code ({ cls := "com/example/storewatch/storewatch/check/ReadersEnterPinLaw", name := "expAfter", desc := "([I[III)I" } : Jvm.MethodName) method_5_code (4 : Nat) (Option.some Jvm.ClassFile.FieldType.int)).before args0 about1 = true := code_word (m := ⟨1, 4⟩) (meth := k1m4) (c := k1c4) (by decide +kernel) rfl rfl rfl (by decide +kernel)
def codes1 : List Jvm.Cond := [Jvm.Cond.code x code maxLocals ret, Jvm.Cond.code ({ cls := "com/example/storewatch/storewatch/check/Readers", name := "<init>", desc := "(I)V" } : Jvm.MethodName) prog_23_method_1_code (2 : Nat) (Option.none : Option Jvm.ClassFile.FieldType), Jvm.Cond.code ({ cls := "java/lang/Object", name := "<init>", desc := "()V" } : Jvm.MethodName) object_method_1_code (1 : Nat) (Option.none : Option Jvm.ClassFile.FieldType), Jvm.Cond.code ({ cls := "com/example/storewatch/storewatch/check/Readers", name := "enter", desc := "(II)V" } : Jvm.MethodName) prog_23_method_2_code (4 : Nat) (Option.none : Option Jvm.ClassFile.FieldType), Jvm.Cond.code ({ cls := "com/example/storewatch/storewatch/check/Readers", name := "count", desc := "(I)I" } : Jvm.MethodName) prog_23_method_3_code (2 : Nat) (Option.some Jvm.ClassFile.FieldType.int), Jvm.Cond.code ({ cls := "com/example/storewatch/storewatch/check/ReadersEnterPinLaw", name := "expCount", desc := "([III)I" } : Jvm.MethodName) method_3_code (4 : Nat) (Option.some Jvm.ClassFile.FieldType.int), Jvm.Cond.code ({ cls := "com/example/storewatch/storewatch/check/Readers", name := "first", desc := "(I)I" } : Jvm.MethodName) prog_23_method_5_code (3 : Nat) (Option.some Jvm.ClassFile.FieldType.int), Jvm.Cond.code ({ cls := "com/example/storewatch/storewatch/check/ReadersEnterPinLaw", name := "expFirst", desc := "([I[III)I" } : Jvm.MethodName) method_4_code (4 : Nat) (Option.some Jvm.ClassFile.FieldType.int), Jvm.Cond.code ({ cls := "com/example/storewatch/storewatch/check/Readers", name := "after", desc := "(II)I" } : Jvm.MethodName) prog_23_method_6_code (3 : Nat) (Option.some Jvm.ClassFile.FieldType.int), Jvm.Cond.code ({ cls := "com/example/storewatch/storewatch/check/ReadersEnterPinLaw", name := "expAfter", desc := "([I[III)I" } : Jvm.MethodName) method_5_code (4 : Nat) (Option.some Jvm.ClassFile.FieldType.int)]
set_option maxRecDepth 65536 in
theorem codes_eq : words1.filter isCode = codes1 := rfl
theorem w_codes : ∀ c ∈ words1.filter isCode, c.before args0 about1 = true := by
  rw [codes_eq]
  intro c hc
  simp only [codes1, List.mem_cons, List.not_mem_nil, or_false] at hc
  rcases hc with rfl | rfl | rfl | rfl | rfl | rfl | rfl | rfl | rfl | rfl
  · exact w_c0
  · exact w_c1
  · exact w_c2
  · exact w_c3
  · exact w_c4
  · exact w_c5
  · exact w_c6
  · exact w_c7
  · exact w_c8
  · exact w_c9
set_option maxRecDepth 65536 in
theorem w_t1 : (words1.take 24).all (fun c => isCode c || c.before args0 about1) = true := by decide +kernel
set_option maxRecDepth 65536 in
theorem w_t2 : ((words1.drop 24).take 24).all (fun c => isCode c || c.before args0 about1) = true := by decide +kernel
set_option maxRecDepth 65536 in
theorem w_t3 : ((words1.drop 24).drop 24).all (fun c => isCode c || c.before args0 about1) = true := by decide +kernel
theorem w_tables : (allAtoms (Jvm.Cond.code x code maxLocals ret :: tables_1)).before args0 about1 = true := by
  rw [allAtoms_all]
  show words1.all (fun c => c.before args0 about1) = true
  refine all_split ?_ w_codes
  rw [← List.take_append_drop 24 words1, List.all_append, w_t1, ← List.take_append_drop 24 (words1.drop 24), List.all_append, w_t2, w_t3]
  rfl
set_option maxRecDepth 65536 in
theorem w_case : (Jvm.Cond.and given_1 narrow_1).before args0 about1 = true := by decide +kernel
theorem w_applies : (headSpec (Jvm.Cond.code x code maxLocals ret :: tables_1) room_1).applies x e0.platform about1 = true :=
  (Spec.applies_iff w_frames).mpr ⟨w_running, w_runnable, w_alone, w_named, w_hears, w_ripe, w_room, w_tables⟩
theorem atStart : AtStart classFile x code maxLocals ret World_1 tables_1 room_1 Calls_1 rest_1 Pre_1 launch0 p0 e0 about1 theMethod args0 below0 :=
  ⟨lists_1, trivial, launch0.admits_env _ _ _, launch0.least_env, fairChoices_fair.cas, fairChoices_fair.clock, w_frames, w_args, w_heap, w_applies, trivial, trivial, w_case⟩
end start1
theorem witness_1 : WitnessClaimed_1 := ⟨start1.p0, start1.e0, start1.about1, start1.theMethod, start1.args0, start1.below0, start1.atStart⟩
end Jvm.Pilot.@@N@@
