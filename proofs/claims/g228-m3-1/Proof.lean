import JvmDerived
import JvmDerived.Pilot.@@N@@Statement
import JvmDerived.Pilot.@@N@@Code
set_option linter.unusedVariables false
set_option linter.unusedSimpArgs false
@@BLOCK:NumsL.lean.txt@@
namespace Jvm.Pilot.@@N@@
open Jvm Jvm.ClassFile Sem Op Lib Jvm.Free Jvm.Stand Jvm.LawKit Jvm.RoadKit Bundle Jvm.Pilot.@@N@@.Jvm.D
abbrev oI (x : Int32) : Slot := .val (.int x)
abbrev oJ (x : Int64) : Slot := .val (.long x)
abbrev oA (x : Addr) : Slot := .val (.ref x)
abbrev oN : Slot := .val .null
abbrev oU : Slot := .unset
abbrev oS : Slot := .second
theorem own_w {Z : State} {a0 : Array Value} (hw : ∀ d ∈ tables_1, d.before a0 Z = true) (i : Nat) {d : Jvm.Cond} (h : tables_1[i]? = some d) : d.before a0 Z = true := hw d (List.mem_of_getElem? h)
section Own
variable {p : Program} {l : Launch} {e : Env} {R : Room} {s : State} {m : MethodId} {args : Array Value} {below : List Frame} {meth : Method} {c : Code} {T : State} {locs : List Loc} {cells slots : Nat} {P : State → Outcome → Prop} {pc : Nat} {ls : Array Slot} {st : List Value} {Z : State} {a0 : Array Value} {h : Heap} {bytes : ByteArray}
/-- the run goes on from A and ends so that P holds -/
def Go (p : Program) (e : Env) (below : List Frame) (P : State → Outcome → Prop) (A : State) : Prop := ∃ s₂ o, Steps p.tables e below A s₂ ∧ P s₂ o
theorem own_go {A A' : State} (h : ∀ t, Steps p.tables e below A' t → Steps p.tables e below A t) (k : Go p e below P A') : Go p e below P A := by
  obtain ⟨s₂, o, h1, h2⟩ := k
  exact ⟨s₂, o, h _ h1, h2⟩
/-! loads, stores, constants -/
theorem own_iload_n (pc' : Nat) (X : Stand p l e R s m args below meth c T locs cells slots) (hx : p.tables.exec = Jvm.exec) (hby : c.code = bytes) {k : Fin 4} {v : Int32} (hd : decode bytes pc = .ok (.iload_n k, 1)) (hp : pc + 1 = pc') (hl : ls[k.val]? = some (.val (.int v))) (r : Go p e below P (T.setTop (mkF m pc' ls (.int v :: st)))) : Go p e below P (T.setTop (mkF m pc ls st)) := by
  subst hp; exact own_go (fun t q => XS.iloadN X.here hx rfl (hb hby hd) hl q) r
theorem own_iload (pc' : Nat) (X : Stand p l e R s m args below meth c T locs cells slots) (hx : p.tables.exec = Jvm.exec) (hby : c.code = bytes) {k : Nat} {v : Int32} (hd : decode bytes pc = .ok (.iload k, 2)) (hp : pc + 2 = pc') (hl : ls[k]? = some (.val (.int v))) (r : Go p e below P (T.setTop (mkF m pc' ls (.int v :: st)))) : Go p e below P (T.setTop (mkF m pc ls st)) := by
  subst hp; exact own_go (fun t q => XS.iload X.here hx rfl (hb hby hd) hl q) r
theorem own_lload_n (pc' : Nat) (X : Stand p l e R s m args below meth c T locs cells slots) (hx : p.tables.exec = Jvm.exec) (hby : c.code = bytes) {k : Fin 4} {v : Int64} (hd : decode bytes pc = .ok (.lload_n k, 1)) (hp : pc + 1 = pc') (hl : ls[k.val]? = some (.val (.long v))) (r : Go p e below P (T.setTop (mkF m pc' ls (.long v :: st)))) : Go p e below P (T.setTop (mkF m pc ls st)) := by
  subst hp; exact own_go (fun t q => XT.lloadN X.here hx rfl (hb hby hd) hl q) r
theorem own_lload (pc' : Nat) (X : Stand p l e R s m args below meth c T locs cells slots) (hx : p.tables.exec = Jvm.exec) (hby : c.code = bytes) {k : Nat} {v : Int64} (hd : decode bytes pc = .ok (.lload k, 2)) (hp : pc + 2 = pc') (hl : ls[k]? = some (.val (.long v))) (r : Go p e below P (T.setTop (mkF m pc' ls (.long v :: st)))) : Go p e below P (T.setTop (mkF m pc ls st)) := by
  subst hp; exact own_go (fun t q => XT.lload X.here hx rfl (hb hby hd) hl q) r
theorem own_aload_n (pc' : Nat) (X : Stand p l e R s m args below meth c T locs cells slots) (hx : p.tables.exec = Jvm.exec) (hby : c.code = bytes) {k : Fin 4} {v : Value} (hd : decode bytes pc = .ok (.aload_n k, 1)) (hp : pc + 1 = pc') (hl : ls[k.val]? = some (.val v)) (hv : v.isRef = true) (r : Go p e below P (T.setTop (mkF m pc' ls (v :: st)))) : Go p e below P (T.setTop (mkF m pc ls st)) := by
  subst hp; exact own_go (fun t q => XS.aloadN X.here hx rfl (hb hby hd) hl hv q) r
theorem own_aload (pc' : Nat) (X : Stand p l e R s m args below meth c T locs cells slots) (hx : p.tables.exec = Jvm.exec) (hby : c.code = bytes) {k : Nat} {v : Value} (hd : decode bytes pc = .ok (.aload k, 2)) (hp : pc + 2 = pc') (hl : ls[k]? = some (.val v)) (hv : v.isRef = true) (r : Go p e below P (T.setTop (mkF m pc' ls (v :: st)))) : Go p e below P (T.setTop (mkF m pc ls st)) := by
  subst hp; exact own_go (fun t q => XS.aload X.here hx rfl (hb hby hd) hl hv q) r
theorem own_istore_n (pc' : Nat) (l' : Array Slot) (X : Stand p l e R s m args below meth c T locs cells slots) (hx : p.tables.exec = Jvm.exec) (hby : c.code = bytes) {k : Fin 4} {v : Int32} (hd : decode bytes pc = .ok (.istore_n k, 1)) (hp : pc + 1 = pc') (hl : storeLocals ls k.val (.int v) = some l') (r : Go p e below P (T.setTop (mkF m pc' l' st))) : Go p e below P (T.setTop (mkF m pc ls (.int v :: st))) := by
  subst hp; exact own_go (fun t q => XS.istoreN X.here hx rfl (hb hby hd) rfl hl q) r
theorem own_istore (pc' : Nat) (l' : Array Slot) (X : Stand p l e R s m args below meth c T locs cells slots) (hx : p.tables.exec = Jvm.exec) (hby : c.code = bytes) {k : Nat} {v : Int32} (hd : decode bytes pc = .ok (.istore k, 2)) (hp : pc + 2 = pc') (hl : storeLocals ls k (.int v) = some l') (r : Go p e below P (T.setTop (mkF m pc' l' st))) : Go p e below P (T.setTop (mkF m pc ls (.int v :: st))) := by
  subst hp; exact own_go (fun t q => XS.istore X.here hx rfl (hb hby hd) rfl hl q) r
theorem own_lstore_n (pc' : Nat) (l' : Array Slot) (X : Stand p l e R s m args below meth c T locs cells slots) (hx : p.tables.exec = Jvm.exec) (hby : c.code = bytes) {k : Fin 4} {v : Int64} (hd : decode bytes pc = .ok (.lstore_n k, 1)) (hp : pc + 1 = pc') (hl : storeLocals ls k.val (.long v) = some l') (r : Go p e below P (T.setTop (mkF m pc' l' st))) : Go p e below P (T.setTop (mkF m pc ls (.long v :: st))) := by
  subst hp; exact own_go (fun t q => XT.lstoreN X.here hx rfl (hb hby hd) rfl hl q) r
theorem own_lstore (pc' : Nat) (l' : Array Slot) (X : Stand p l e R s m args below meth c T locs cells slots) (hx : p.tables.exec = Jvm.exec) (hby : c.code = bytes) {k : Nat} {v : Int64} (hd : decode bytes pc = .ok (.lstore k, 2)) (hp : pc + 2 = pc') (hl : storeLocals ls k (.long v) = some l') (r : Go p e below P (T.setTop (mkF m pc' l' st))) : Go p e below P (T.setTop (mkF m pc ls (.long v :: st))) := by
  subst hp; exact own_go (fun t q => XT.lstore X.here hx rfl (hb hby hd) rfl hl q) r
theorem own_astore_n (pc' : Nat) (l' : Array Slot) (X : Stand p l e R s m args below meth c T locs cells slots) (hx : p.tables.exec = Jvm.exec) (hby : c.code = bytes) {k : Fin 4} {v : Value} (hd : decode bytes pc = .ok (.astore_n k, 1)) (hp : pc + 1 = pc') (hv : v.isRef = true) (hl : storeLocals ls k.val v = some l') (r : Go p e below P (T.setTop (mkF m pc' l' st))) : Go p e below P (T.setTop (mkF m pc ls (v :: st))) := by
  subst hp; exact own_go (fun t q => XS.astoreN X.here hx rfl (hb hby hd) rfl hv hl q) r
theorem own_astore (pc' : Nat) (l' : Array Slot) (X : Stand p l e R s m args below meth c T locs cells slots) (hx : p.tables.exec = Jvm.exec) (hby : c.code = bytes) {k : Nat} {v : Value} (hd : decode bytes pc = .ok (.astore k, 2)) (hp : pc + 2 = pc') (hv : v.isRef = true) (hl : storeLocals ls k v = some l') (r : Go p e below P (T.setTop (mkF m pc' l' st))) : Go p e below P (T.setTop (mkF m pc ls (v :: st))) := by
  subst hp; exact own_go (fun t q => XS.astore X.here hx rfl (hb hby hd) rfl hv hl q) r
theorem own_iconst (pc' : Nat) (w : Int32) (X : Stand p l e R s m args below meth c T locs cells slots) (hx : p.tables.exec = Jvm.exec) (hby : c.code = bytes) {i : Int} (hd : decode bytes pc = .ok (.iconst i, 1)) (hp : pc + 1 = pc') (hw : Int32.ofInt i = w) (r : Go p e below P (T.setTop (mkF m pc' ls (.int w :: st)))) : Go p e below P (T.setTop (mkF m pc ls st)) := by
  subst hp hw; exact own_go (fun t q => XS.iconst X.here hx rfl (hb hby hd) q) r
theorem own_bipush (pc' : Nat) (w : Int32) (X : Stand p l e R s m args below meth c T locs cells slots) (hx : p.tables.exec = Jvm.exec) (hby : c.code = bytes) {i : Int} (hd : decode bytes pc = .ok (.bipush i, 2)) (hp : pc + 2 = pc') (hw : (Int8.ofInt i).toInt32 = w) (r : Go p e below P (T.setTop (mkF m pc' ls (.int w :: st)))) : Go p e below P (T.setTop (mkF m pc ls st)) := by
  subst hp hw; exact own_go (fun t q => XS.bipush X.here hx rfl (hb hby hd) q) r
theorem own_sipush (pc' : Nat) (w : Int32) (X : Stand p l e R s m args below meth c T locs cells slots) (hx : p.tables.exec = Jvm.exec) (hby : c.code = bytes) {i : Int} (hd : decode bytes pc = .ok (.sipush i, 3)) (hp : pc + 3 = pc') (hw : (Int16.ofInt i).toInt32 = w) (r : Go p e below P (T.setTop (mkF m pc' ls (.int w :: st)))) : Go p e below P (T.setTop (mkF m pc ls st)) := by
  subst hp hw; exact own_go (fun t q => XS.sipush X.here hx rfl (hb hby hd) q) r
theorem own_lconst (pc' : Nat) (w : Int64) (X : Stand p l e R s m args below meth c T locs cells slots) (hx : p.tables.exec = Jvm.exec) (hby : c.code = bytes) {k : Fin 2} (hd : decode bytes pc = .ok (.lconst k, 1)) (hp : pc + 1 = pc') (hw : Int64.ofNat k = w) (r : Go p e below P (T.setTop (mkF m pc' ls (.long w :: st)))) : Go p e below P (T.setTop (mkF m pc ls st)) := by
  subst hp hw; exact own_go (fun t q => XT.lconst X.here hx rfl (hb hby hd) q) r
theorem own_null (pc' : Nat) (X : Stand p l e R s m args below meth c T locs cells slots) (hx : p.tables.exec = Jvm.exec) (hby : c.code = bytes) (hd : decode bytes pc = .ok (.aconst_null, 1)) (hp : pc + 1 = pc') (r : Go p e below P (T.setTop (mkF m pc' ls (.null :: st)))) : Go p e below P (T.setTop (mkF m pc ls st)) := by
  subst hp; exact own_go (fun t q => XS.aconstNull X.here hx rfl (hb hby hd) q) r
theorem own_ldc (pc' : Nat) (X : Stand p l e R s m args below meth c T locs cells slots) (hx : p.tables.exec = Jvm.exec) (hby : c.code = bytes) (hZ : Z.Warmed39 s.vm) {own : String} {index : Nat} {v : Int32} (hown : s.vm.findClass own = some m.cls) (w : (Cond.constant own index v).before a0 Z = true) (hd : decode bytes pc = .ok (.ldc index, 2)) (hp : pc + 2 = pc') (r : Go p e below P (T.setTop (mkF m pc' ls (.int v :: st)))) : Go p e below P (T.setTop (mkF m pc ls st)) := by
  subst hp; exact own_go (fun t q => X.ldcI hx hown (mvT hZ w) rfl (hb hby hd) q) r
theorem own_ldc2 (pc' : Nat) (X : Stand p l e R s m args below meth c T locs cells slots) (hx : p.tables.exec = Jvm.exec) (hby : c.code = bytes) (hZ : Z.Warmed39 s.vm) {own : String} {index : Nat} {v : Int64} (hown : s.vm.findClass own = some m.cls) (w : (Cond.constantLong own index v).before a0 Z = true) (hd : decode bytes pc = .ok (.ldc2_w index, 3)) (hp : pc + 3 = pc') (r : Go p e below P (T.setTop (mkF m pc' ls (.long v :: st)))) : Go p e below P (T.setTop (mkF m pc ls st)) := by
  subst hp; exact own_go (fun t q => X.ldc2J hx hown (mvT hZ w) rfl (hb hby hd) q) r
/-! arithmetic -/
theorem own_iadd (pc' : Nat) (w : Int32) (X : Stand p l e R s m args below meth c T locs cells slots) (hx : p.tables.exec = Jvm.exec) (hby : c.code = bytes) {x y : Int32} (hd : decode bytes pc = .ok (.iadd, 1)) (hp : pc + 1 = pc') (hw : x + y = w) (r : Go p e below P (T.setTop (mkF m pc' ls (.int w :: st)))) : Go p e below P (T.setTop (mkF m pc ls (.int y :: .int x :: st))) := by
  subst hp hw; exact own_go (fun t q => XS.iadd X.here hx rfl (hb hby hd) rfl q) r
theorem own_isub (pc' : Nat) (w : Int32) (X : Stand p l e R s m args below meth c T locs cells slots) (hx : p.tables.exec = Jvm.exec) (hby : c.code = bytes) {x y : Int32} (hd : decode bytes pc = .ok (.isub, 1)) (hp : pc + 1 = pc') (hw : x - y = w) (r : Go p e below P (T.setTop (mkF m pc' ls (.int w :: st)))) : Go p e below P (T.setTop (mkF m pc ls (.int y :: .int x :: st))) := by
  subst hp hw; exact own_go (fun t q => XS.isub X.here hx rfl (hb hby hd) rfl q) r
theorem own_imul (pc' : Nat) (w : Int32) (X : Stand p l e R s m args below meth c T locs cells slots) (hx : p.tables.exec = Jvm.exec) (hby : c.code = bytes) {x y : Int32} (hd : decode bytes pc = .ok (.imul, 1)) (hp : pc + 1 = pc') (hw : x * y = w) (r : Go p e below P (T.setTop (mkF m pc' ls (.int w :: st)))) : Go p e below P (T.setTop (mkF m pc ls (.int y :: .int x :: st))) := by
  subst hp hw; exact own_go (fun t q => XS.imul X.here hx rfl (hb hby hd) rfl q) r
theorem own_idiv (pc' : Nat) (w : Int32) (X : Stand p l e R s m args below meth c T locs cells slots) (hx : p.tables.exec = Jvm.exec) (hby : c.code = bytes) {x y : Int32} (hd : decode bytes pc = .ok (.idiv, 1)) (hp : pc + 1 = pc') (hy : y ≠ 0) (hw : x / y = w) (r : Go p e below P (T.setTop (mkF m pc' ls (.int w :: st)))) : Go p e below P (T.setTop (mkF m pc ls (.int y :: .int x :: st))) := by
  subst hp hw; exact own_go (fun t q => XS.idiv X.here hx rfl (hb hby hd) rfl hy q) r
theorem own_irem (pc' : Nat) (w : Int32) (X : Stand p l e R s m args below meth c T locs cells slots) (hx : p.tables.exec = Jvm.exec) (hby : c.code = bytes) {x y : Int32} (hd : decode bytes pc = .ok (.irem, 1)) (hp : pc + 1 = pc') (hy : y ≠ 0) (hw : x % y = w) (r : Go p e below P (T.setTop (mkF m pc' ls (.int w :: st)))) : Go p e below P (T.setTop (mkF m pc ls (.int y :: .int x :: st))) := by
  subst hp hw; exact own_go (fun t q => iremM X hx rfl (hb hby hd) rfl hy q) r
theorem own_iand (pc' : Nat) (w : Int32) (X : Stand p l e R s m args below meth c T locs cells slots) (hx : p.tables.exec = Jvm.exec) (hby : c.code = bytes) {x y : Int32} (hd : decode bytes pc = .ok (.iand, 1)) (hp : pc + 1 = pc') (hw : x &&& y = w) (r : Go p e below P (T.setTop (mkF m pc' ls (.int w :: st)))) : Go p e below P (T.setTop (mkF m pc ls (.int y :: .int x :: st))) := by
  subst hp hw; exact own_go (fun t q => XS.iand X.here hx rfl (hb hby hd) rfl q) r
theorem own_ishr (pc' : Nat) (w : Int32) (X : Stand p l e R s m args below meth c T locs cells slots) (hx : p.tables.exec = Jvm.exec) (hby : c.code = bytes) {x y : Int32} (hd : decode bytes pc = .ok (.ishr, 1)) (hp : pc + 1 = pc') (hw : x >>> (y &&& 31) = w) (r : Go p e below P (T.setTop (mkF m pc' ls (.int w :: st)))) : Go p e below P (T.setTop (mkF m pc ls (.int y :: .int x :: st))) := by
  subst hp hw; exact own_go (fun t q => XT.ishr X.here hx rfl (hb hby hd) rfl q) r
theorem own_iushr (pc' : Nat) (w : Int32) (X : Stand p l e R s m args below meth c T locs cells slots) (hx : p.tables.exec = Jvm.exec) (hby : c.code = bytes) {x y : Int32} (hd : decode bytes pc = .ok (.iushr, 1)) (hp : pc + 1 = pc') (hw : XT.ushr x y = w) (r : Go p e below P (T.setTop (mkF m pc' ls (.int w :: st)))) : Go p e below P (T.setTop (mkF m pc ls (.int y :: .int x :: st))) := by
  subst hp hw; exact own_go (fun t q => XT.iushr X.here hx rfl (hb hby hd) rfl q) r
theorem own_ladd (pc' : Nat) (w : Int64) (X : Stand p l e R s m args below meth c T locs cells slots) (hx : p.tables.exec = Jvm.exec) (hby : c.code = bytes) {x y : Int64} (hd : decode bytes pc = .ok (.ladd, 1)) (hp : pc + 1 = pc') (hw : x + y = w) (r : Go p e below P (T.setTop (mkF m pc' ls (.long w :: st)))) : Go p e below P (T.setTop (mkF m pc ls (.long y :: .long x :: st))) := by
  subst hp hw; exact own_go (fun t q => XT.ladd X.here hx rfl (hb hby hd) rfl q) r
theorem own_lsub (pc' : Nat) (w : Int64) (X : Stand p l e R s m args below meth c T locs cells slots) (hx : p.tables.exec = Jvm.exec) (hby : c.code = bytes) {x y : Int64} (hd : decode bytes pc = .ok (.lsub, 1)) (hp : pc + 1 = pc') (hw : x - y = w) (r : Go p e below P (T.setTop (mkF m pc' ls (.long w :: st)))) : Go p e below P (T.setTop (mkF m pc ls (.long y :: .long x :: st))) := by
  subst hp hw; exact own_go (fun t q => XT.lsub X.here hx rfl (hb hby hd) rfl q) r
theorem own_lmul (pc' : Nat) (w : Int64) (X : Stand p l e R s m args below meth c T locs cells slots) (hx : p.tables.exec = Jvm.exec) (hby : c.code = bytes) {x y : Int64} (hd : decode bytes pc = .ok (.lmul, 1)) (hp : pc + 1 = pc') (hw : x * y = w) (r : Go p e below P (T.setTop (mkF m pc' ls (.long w :: st)))) : Go p e below P (T.setTop (mkF m pc ls (.long y :: .long x :: st))) := by
  subst hp hw; exact own_go (fun t q => XT.lmul X.here hx rfl (hb hby hd) rfl q) r
theorem own_ldiv (pc' : Nat) (w : Int64) (X : Stand p l e R s m args below meth c T locs cells slots) (hx : p.tables.exec = Jvm.exec) (hby : c.code = bytes) {x y : Int64} (hd : decode bytes pc = .ok (.ldiv, 1)) (hp : pc + 1 = pc') (hy : y ≠ 0) (hw : x / y = w) (r : Go p e below P (T.setTop (mkF m pc' ls (.long w :: st)))) : Go p e below P (T.setTop (mkF m pc ls (.long y :: .long x :: st))) := by
  subst hp hw; exact own_go (fun t q => XT.ldiv X.here hx rfl (hb hby hd) rfl hy q) r
theorem own_lrem (pc' : Nat) (w : Int64) (X : Stand p l e R s m args below meth c T locs cells slots) (hx : p.tables.exec = Jvm.exec) (hby : c.code = bytes) {x y : Int64} (hd : decode bytes pc = .ok (.lrem, 1)) (hp : pc + 1 = pc') (hy : y ≠ 0) (hw : x - (x / y) * y = w) (r : Go p e below P (T.setTop (mkF m pc' ls (.long w :: st)))) : Go p e below P (T.setTop (mkF m pc ls (.long y :: .long x :: st))) := by
  subst hp hw; exact own_go (fun t q => XT.lrem X.here hx rfl (hb hby hd) rfl hy q) r
theorem own_land (pc' : Nat) (w : Int64) (X : Stand p l e R s m args below meth c T locs cells slots) (hx : p.tables.exec = Jvm.exec) (hby : c.code = bytes) {x y : Int64} (hd : decode bytes pc = .ok (.land, 1)) (hp : pc + 1 = pc') (hw : x &&& y = w) (r : Go p e below P (T.setTop (mkF m pc' ls (.long w :: st)))) : Go p e below P (T.setTop (mkF m pc ls (.long y :: .long x :: st))) := by
  subst hp hw; exact own_go (fun t q => XT.land X.here hx rfl (hb hby hd) rfl q) r
theorem own_lushr (pc' : Nat) (w : Int64) (X : Stand p l e R s m args below meth c T locs cells slots) (hx : p.tables.exec = Jvm.exec) (hby : c.code = bytes) {x : Int64} {y : Int32} (hd : decode bytes pc = .ok (.lushr, 1)) (hp : pc + 1 = pc') (hw : XT.ushrL x y = w) (r : Go p e below P (T.setTop (mkF m pc' ls (.long w :: st)))) : Go p e below P (T.setTop (mkF m pc ls (.int y :: .long x :: st))) := by
  subst hp hw; exact own_go (fun t q => XT.lushr X.here hx rfl (hb hby hd) rfl q) r
theorem own_i2l (pc' : Nat) (w : Int64) (X : Stand p l e R s m args below meth c T locs cells slots) (hx : p.tables.exec = Jvm.exec) (hby : c.code = bytes) {x : Int32} (hd : decode bytes pc = .ok (.i2l, 1)) (hp : pc + 1 = pc') (hw : x.toInt64 = w) (r : Go p e below P (T.setTop (mkF m pc' ls (.long w :: st)))) : Go p e below P (T.setTop (mkF m pc ls (.int x :: st))) := by
  subst hp hw; exact own_go (fun t q => XT.i2l X.here hx rfl (hb hby hd) rfl q) r
theorem own_l2i (pc' : Nat) (w : Int32) (X : Stand p l e R s m args below meth c T locs cells slots) (hx : p.tables.exec = Jvm.exec) (hby : c.code = bytes) {x : Int64} (hd : decode bytes pc = .ok (.l2i, 1)) (hp : pc + 1 = pc') (hw : x.toInt32 = w) (r : Go p e below P (T.setTop (mkF m pc' ls (.int w :: st)))) : Go p e below P (T.setTop (mkF m pc ls (.long x :: st))) := by
  subst hp hw; exact own_go (fun t q => XT.l2i X.here hx rfl (hb hby hd) rfl q) r
theorem own_lcmp (pc' : Nat) (w : Int32) (X : Stand p l e R s m args below meth c T locs cells slots) (hx : p.tables.exec = Jvm.exec) (hby : c.code = bytes) {x y : Int64} (hd : decode bytes pc = .ok (.lcmp, 1)) (hp : pc + 1 = pc') (hw : XT.cmpL x y = w) (r : Go p e below P (T.setTop (mkF m pc' ls (.int w :: st)))) : Go p e below P (T.setTop (mkF m pc ls (.long y :: .long x :: st))) := by
  subst hp hw; exact own_go (fun t q => XT.lcmp X.here hx rfl (hb hby hd) rfl q) r
theorem own_iinc (pc' : Nat) (l' : Array Slot) (X : Stand p l e R s m args below meth c T locs cells slots) (hx : p.tables.exec = Jvm.exec) (hby : c.code = bytes) {k : Nat} {i : Int} {x : Int32} (hd : decode bytes pc = .ok (.iinc k i, 3)) (hp : pc + 3 = pc') (hl : ls[k]? = some (.val (.int x))) (hl' : storeLocals ls k (.int (x + Int32.ofInt i)) = some l') (r : Go p e below P (T.setTop (mkF m pc' l' st))) : Go p e below P (T.setTop (mkF m pc ls st)) := by
  subst hp; exact own_go (fun t q => XS.iinc X.here hx rfl (hb hby hd) hl hl' q) r
theorem own_dup (pc' : Nat) (X : Stand p l e R s m args below meth c T locs cells slots) (hx : p.tables.exec = Jvm.exec) (hby : c.code = bytes) {v : Value} (hd : decode bytes pc = .ok (.dup, 1)) (hp : pc + 1 = pc') (hc : v.category = 1) (r : Go p e below P (T.setTop (mkF m pc' ls (v :: v :: st)))) : Go p e below P (T.setTop (mkF m pc ls (v :: st))) := by
  subst hp; exact own_go (fun t q => XS.dup X.here hx rfl (hb hby hd) rfl hc q) r
theorem own_pop (pc' : Nat) (X : Stand p l e R s m args below meth c T locs cells slots) (hx : p.tables.exec = Jvm.exec) (hby : c.code = bytes) {v : Value} (hd : decode bytes pc = .ok (.pop, 1)) (hp : pc + 1 = pc') (hc : v.category = 1) (r : Go p e below P (T.setTop (mkF m pc' ls st))) : Go p e below P (T.setTop (mkF m pc ls (v :: st))) := by
  subst hp; exact own_go (fun t q => XT.pop X.here hx rfl (hb hby hd) rfl hc q) r
/-! branches -/
theorem own_goto (pc' : Nat) (X : Stand p l e R s m args below meth c T locs cells slots) (hx : p.tables.exec = Jvm.exec) (hby : c.code = bytes) {o : Int} (hd : decode bytes pc = .ok (.goto o, 3)) (ho : 0 ≤ (pc : Int) + o) (hp : ((pc : Int) + o).toNat = pc') (r : Go p e below P (T.setTop (mkF m pc' ls st))) : Go p e below P (T.setTop (mkF m pc ls st)) :=
  own_go (fun t q => XS.goto X.here hx rfl rfl (hb hby hd) ho hp q) r
theorem own_ifY (pc' : Nat) (X : Stand p l e R s m args below meth c T locs cells slots) (hx : p.tables.exec = Jvm.exec) (hby : c.code = bytes) {cd : ClassFile.Cond} {x : Int32} {o : Int} (hd : decode bytes pc = .ok (.ifCond cd o, 3)) (ho : 0 ≤ (pc : Int) + o) (hp : ((pc : Int) + o).toNat = pc') (hc : ifCond.holds cd x = true) (r : Go p e below P (T.setTop (mkF m pc' ls st))) : Go p e below P (T.setTop (mkF m pc ls (.int x :: st))) :=
  own_go (fun t q => XS.ifYes X.here hx rfl rfl (hb hby hd) rfl hc ho hp q) r
theorem own_ifN (pc' : Nat) (X : Stand p l e R s m args below meth c T locs cells slots) (hx : p.tables.exec = Jvm.exec) (hby : c.code = bytes) {cd : ClassFile.Cond} {x : Int32} {o : Int} (hd : decode bytes pc = .ok (.ifCond cd o, 3)) (hp : pc + 3 = pc') (hc : ifCond.holds cd x = false) (r : Go p e below P (T.setTop (mkF m pc' ls st))) : Go p e below P (T.setTop (mkF m pc ls (.int x :: st))) := by
  subst hp; exact own_go (fun t q => XS.ifNo X.here hx rfl (hb hby hd) rfl hc q) r
theorem own_icY (pc' : Nat) (X : Stand p l e R s m args below meth c T locs cells slots) (hx : p.tables.exec = Jvm.exec) (hby : c.code = bytes) {cd : ClassFile.Cond} {x y : Int32} {o : Int} (hd : decode bytes pc = .ok (.if_icmp cd o, 3)) (ho : 0 ≤ (pc : Int) + o) (hp : ((pc : Int) + o).toNat = pc') (hc : if_icmp.holds cd x y = true) (r : Go p e below P (T.setTop (mkF m pc' ls st))) : Go p e below P (T.setTop (mkF m pc ls (.int y :: .int x :: st))) :=
  own_go (fun t q => XS.icmpYes X.here hx rfl rfl (hb hby hd) rfl hc ho hp q) r
theorem own_icN (pc' : Nat) (X : Stand p l e R s m args below meth c T locs cells slots) (hx : p.tables.exec = Jvm.exec) (hby : c.code = bytes) {cd : ClassFile.Cond} {x y : Int32} {o : Int} (hd : decode bytes pc = .ok (.if_icmp cd o, 3)) (hp : pc + 3 = pc') (hc : if_icmp.holds cd x y = false) (r : Go p e below P (T.setTop (mkF m pc' ls st))) : Go p e below P (T.setTop (mkF m pc ls (.int y :: .int x :: st))) := by
  subst hp; exact own_go (fun t q => XS.icmpNo X.here hx rfl (hb hby hd) rfl hc q) r
theorem own_acmp (pc' : Nat) (same : Bool) (X : Stand p l e R s m args below meth c T locs cells slots) (hx : p.tables.exec = Jvm.exec) (hby : c.code = bytes) {cd : ACond} {x y : Value} {o : Int} (hd : decode bytes pc = .ok (.if_acmp cd o, 3)) (h1 : x.isRef = true) (h2 : y.isRef = true) (ho : 0 ≤ (pc : Int) + o) (hp : pc' = if acV cd same = true then ((pc : Int) + o).toNat else pc + 3) (hq : decide (x = y) = same) (r : Go p e below P (T.setTop (mkF m pc' ls st))) : Go p e below P (T.setTop (mkF m pc ls (y :: x :: st))) :=
  own_go (fun t q => Jvm.RoadKit.acmp X hx rfl h1 h2 rfl (hb hby hd) rfl hq ho hp q) r
theorem own_nullY (pc' : Nat) (X : Stand p l e R s m args below meth c T locs cells slots) (hx : p.tables.exec = Jvm.exec) (hby : c.code = bytes) {o : Int} (hd : decode bytes pc = .ok (.ifnull o, 3)) (ho : 0 ≤ (pc : Int) + o) (hp : ((pc : Int) + o).toNat = pc') (r : Go p e below P (T.setTop (mkF m pc' ls st))) : Go p e below P (T.setTop (mkF m pc ls (.null :: st))) :=
  own_go (fun t q => XS.ifnullYes X.here hx rfl rfl (hb hby hd) rfl ho hp q) r
theorem own_nullN (pc' : Nat) (X : Stand p l e R s m args below meth c T locs cells slots) (hx : p.tables.exec = Jvm.exec) (hby : c.code = bytes) {o : Int} {b : Addr} (hd : decode bytes pc = .ok (.ifnull o, 3)) (hp : pc + 3 = pc') (r : Go p e below P (T.setTop (mkF m pc' ls st))) : Go p e below P (T.setTop (mkF m pc ls (.ref b :: st))) := by
  subst hp; exact own_go (fun t q => XS.ifnullNo X.here hx rfl (hb hby hd) rfl q) r
theorem own_nnY (pc' : Nat) (X : Stand p l e R s m args below meth c T locs cells slots) (hx : p.tables.exec = Jvm.exec) (hby : c.code = bytes) {o : Int} {b : Addr} (hd : decode bytes pc = .ok (.ifnonnull o, 3)) (ho : 0 ≤ (pc : Int) + o) (hp : ((pc : Int) + o).toNat = pc') (r : Go p e below P (T.setTop (mkF m pc' ls st))) : Go p e below P (T.setTop (mkF m pc ls (.ref b :: st))) :=
  own_go (fun t q => XT.ifnonnullYes X.here hx rfl rfl (hb hby hd) rfl ho hp q) r
theorem own_nnN (pc' : Nat) (X : Stand p l e R s m args below meth c T locs cells slots) (hx : p.tables.exec = Jvm.exec) (hby : c.code = bytes) {o : Int} (hd : decode bytes pc = .ok (.ifnonnull o, 3)) (hp : pc + 3 = pc') (r : Go p e below P (T.setTop (mkF m pc' ls st))) : Go p e below P (T.setTop (mkF m pc ls (.null :: st))) := by
  subst hp; exact own_go (fun t q => XT.ifnonnullNo X.here hx rfl (hb hby hd) rfl q) r
/-! what lcmp and a branch behind it say -/
theorem own_tltL {x y : Int64} (h : x < y) : ifCond.holds .lt (XT.cmpL x y) = true ∧ ifCond.holds .ge (XT.cmpL x y) = false ∧ ifCond.holds .gt (XT.cmpL y x) = true ∧ ifCond.holds .le (XT.cmpL y x) = false := by
  have h1 : ¬ y < x := fun q => absurd h (Int64.lt_asymm q)
  have h2 : ¬ x = y := fun q => absurd (q ▸ h) Int64.lt_irrefl
  have h3 : ¬ y = x := fun q => h2 q.symm
  simp only [XT.cmpL, h, h1, h2, h3, if_true, if_false]
  decide
theorem own_fltL {x y : Int64} (h : ¬ x < y) : ifCond.holds .lt (XT.cmpL x y) = false ∧ ifCond.holds .ge (XT.cmpL x y) = true ∧ ifCond.holds .gt (XT.cmpL y x) = false ∧ ifCond.holds .le (XT.cmpL y x) = true := by
  by_cases q : x = y
  · subst q
    simp only [XT.cmpL, h, if_true, if_false]
    decide
  · have h1 : y < x := by
      rw [Int64.lt_iff_toInt_lt] at h ⊢
      have : x.toInt ≠ y.toInt := fun z => q (Int64.toInt_inj.mp z)
      omega
    have h3 : ¬ y = x := fun z => q z.symm
    simp only [XT.cmpL, h, h1, q, h3, if_true, if_false]
    decide
theorem own_teqL {x y : Int64} (h : x = y) : ifCond.holds .eq (XT.cmpL x y) = true ∧ ifCond.holds .ne (XT.cmpL x y) = false := by
  subst h
  simp only [XT.cmpL, Int64.lt_irrefl, if_true, if_false]
  decide
theorem own_feqL {x y : Int64} (h : ¬ x = y) : ifCond.holds .eq (XT.cmpL x y) = false ∧ ifCond.holds .ne (XT.cmpL x y) = true := by
  by_cases q : y < x
  · simp only [XT.cmpL, q, if_true]
    decide
  · simp only [XT.cmpL, q, h, if_false]
    decide
/-! fields, statics -/
theorem own_getS (pc' : Nat) (X : Stand p l e R s m args below meth c T locs cells slots) (hx : p.tables.exec = Jvm.exec) (hby : c.code = bytes) (hZ : Z.Warmed39 s.vm) {own O n d : String} {index : Nat} (hown : s.vm.findClass own = some m.cls) (w : (Cond.fieldLink own index O n d).before a0 Z = true) (eT : T.heap = h) {v : Value} (F : Sta Z h O n d v) (hd : decode bytes pc = .ok (.getstatic index, 3)) (hp : pc + 3 = pc')
    (r : ∀ T', Stand p l e R s m args below meth c T' locs cells slots → T'.heap = h → Go p e below P (T'.setTop (mkF m pc' ls (v :: st)))) : Go p e below P (T.setTop (mkF m pc ls st)) := by
  subst hp
  obtain ⟨T', X', e', q⟩ := getS2 X hx hZ hown (host := "") (Or.inl w) Via.refl eT F (g := mkF m pc ls st) rfl (hb hby hd)
  exact own_go q (r T' X' e')
theorem own_getSN (pc' : Nat) (X : Stand p l e R s m args below meth c T locs cells slots) (hx : p.tables.exec = Jvm.exec) (hby : c.code = bytes) (hZ : Z.Warmed39 s.vm) {own O n d host : String} {index : Nat} (hown : s.vm.findClass own = some m.cls) (w : (Cond.fieldLinkNest own index O n d host).before a0 Z = true) (eT : T.heap = h) {v : Value} (F : Sta Z h O n d v) (hd : decode bytes pc = .ok (.getstatic index, 3)) (hp : pc + 3 = pc')
    (r : ∀ T', Stand p l e R s m args below meth c T' locs cells slots → T'.heap = h → Go p e below P (T'.setTop (mkF m pc' ls (v :: st)))) : Go p e below P (T.setTop (mkF m pc ls st)) := by
  subst hp
  obtain ⟨T', X', e', q⟩ := getS2 X hx hZ hown (Or.inr w) Via.refl eT F (g := mkF m pc ls st) rfl (hb hby hd)
  exact own_go q (r T' X' e')
theorem own_getF (pc' : Nat) (X : Stand p l e R s m args below meth c T locs cells slots) (hx : p.tables.exec = Jvm.exec) (hby : c.code = bytes) (hZ : Z.Warmed39 s.vm) {own O n d : String} {index : Nat} (hown : s.vm.findClass own = some m.cls) (w : (Cond.fieldLink own index O n d).before a0 Z = true) (eT : T.heap = h) {a : Addr} {v : Value} (F : Fld Z h a O n d v) (hd : decode bytes pc = .ok (.getfield index, 3)) (hp : pc + 3 = pc')
    (r : ∀ T', Stand p l e R s m args below meth c T' locs cells slots → T'.heap = h → Go p e below P (T'.setTop (mkF m pc' ls (v :: st)))) : Go p e below P (T.setTop (mkF m pc ls (.ref a :: st))) := by
  subst hp
  obtain ⟨T', X', e', q⟩ := getF X hx hZ hown (host := "") (Or.inl w) Via.refl eT F (g := mkF m pc ls (.ref a :: st)) rfl rfl (hb hby hd)
  exact own_go q (r T' X' e')
/-! arrays -/
theorem own_n0 {n0 : Nat} (O : Old Z n0 h) : n0 ≤ h.size := O.1 ▸ O.2.1
theorem own_newR (pc' : Nat) (N : Nat) (X : Stand p l e R s m args below meth c T locs cells slots) (hx : p.tables.exec = Jvm.exec) (hby : c.code = bytes) (hZ : Z.Warmed39 s.vm) {own C : String} {index : Nat} (hown : s.vm.findClass own = some m.cls) (w1 : (Cond.classLink own index C).before a0 Z = true) (w2 : (Cond.arrayOver (.object C)).before a0 Z = true) (eT : T.heap = h)
    (hd : decode bytes pc = .ok (.anewarray index, 3)) (hp : pc + 3 = pc') {n : Int32} (hn : ¬ n < 0) (hcap : n.toNatClampNeg ≤ N) (hbig : N * 8 ≤ 536870912) (hc : cells + 1 ≤ R.cells) (hl : slots + N ≤ R.slots)
    (r : ∀ T' h' cA b, Stand p l e R s m args below meth c T' locs (cells + 1) (slots + N) → T'.heap = h' → Ext h h' → b = h.size → Arv Z h' b cA (.object C) n (List.replicate N .null) .null → Ovr Z cA C → Go p e below P (T'.setTop (mkF m pc' ls (.ref b :: st)))) : Go p e below P (T.setTop (mkF m pc ls (.int n :: st))) := by
  subst hp
  obtain ⟨T', h', cA, X', e', E', A', O', q⟩ := newR X hx hZ hown w1 w2 eT (g := mkF m pc ls (.int n :: st)) rfl (hb hby hd) rfl hn hcap hbig hc hl
  exact own_go q (r T' h' cA h.size X' e' E' rfl ((Arv.new A' hn).pad (pad_rep [] .null N)) O')
theorem own_newP (pc' : Nat) (N : Nat) {aty : ArrayType} (X : Stand p l e R s m args below meth c T locs cells slots) (hx : p.tables.exec = Jvm.exec) (hby : c.code = bytes) (hZ : Z.Warmed39 s.vm) (w : (Cond.arrayClass (newarray.typeOf aty)).before a0 Z = true) (eT : T.heap = h)
    (hd : decode bytes pc = .ok (.newarray aty, 2)) (hp : pc + 2 = pc') {n : Int32} (hn : ¬ n < 0) (hcap : n.toNatClampNeg ≤ N) (hbig : N * 8 ≤ 536870912) (hc : cells + 1 ≤ R.cells) (hl : slots + N ≤ R.slots)
    (r : ∀ T' h' cA b, Stand p l e R s m args below meth c T' locs (cells + 1) (slots + N) → T'.heap = h' → Ext h h' → b = h.size → Arv Z h' b cA (newarray.typeOf aty) n (List.replicate N (defaultValue (newarray.typeOf aty))) (defaultValue (newarray.typeOf aty)) → Go p e below P (T'.setTop (mkF m pc' ls (.ref b :: st)))) : Go p e below P (T.setTop (mkF m pc ls (.int n :: st))) := by
  subst hp
  obtain ⟨T', h', cA, X', e', E', A', q⟩ := newP X hx hZ w eT (g := mkF m pc ls (.int n :: st)) rfl (hb hby hd) rfl hn hcap hbig hc hl
  exact own_go q (r T' h' cA h.size X' e' E' rfl ((Arv.new A' hn).pad (pad_rep [] _ N)))
theorem own_stR (pc' : Nat) (i : Nat) (X : Stand p l e R s m args below meth c T locs cells slots) (hx : p.tables.exec = Jvm.exec) (hby : c.code = bytes) (hZ : Z.Warmed39 s.vm) (eT : T.heap = h) {a y : Addr} {cA : ClassId} {C : String} {n j : Int32} {vs : List Value} (V : Arv Z h a cA (.object C) n vs .null) (O : Ovr Z cA C) (I : Ins Z h y C true)
    (hd : decode bytes pc = .ok (.aastore, 1)) (hp : pc + 1 = pc') (hj : ¬ j < 0 ∧ j < n) (hi : j.toNatClampNeg = i) (hv : i < vs.length)
    (r : ∀ T' h', Stand p l e R s m args below meth c T' (locs ++ [⟨a, j.toNatClampNeg⟩]) cells slots → T'.heap = h' → Wr h h' a j.toNatClampNeg (.ref y) → Arv Z h' a cA (.object C) n (vs.set i (.ref y)) .null → Go p e below P (T'.setTop (mkF m pc' ls st))) : Go p e below P (T.setTop (mkF m pc ls (.ref y :: .int j :: .ref a :: st))) := by
  subst hp
  obtain ⟨cl, A, q1, S, q3, H, G⟩ := V
  obtain ⟨T', h', X', e', W', q⟩ := stR X hx hZ eT A (j := j) (inb_of S hj) rfl (Sto.ofV A q1 O I) (g := mkF m pc ls (.ref y :: .int j :: .ref a :: st)) rfl rfl (hb hby hd)
  exact own_go q (r T' h' X' e' W' (Arv.set A q1 S q3 H G rfl W' i hi hv))
theorem own_stZ (pc' : Nat) (i : Nat) (X : Stand p l e R s m args below meth c T locs cells slots) (hx : p.tables.exec = Jvm.exec) (hby : c.code = bytes) (hZ : Z.Warmed39 s.vm) (eT : T.heap = h) {a : Addr} {cA : ClassId} {n j x : Int32} {vs : List Value} {dv : Value} (V : Arv Z h a cA .boolean n vs dv)
    (hd : decode bytes pc = .ok (.bastore, 1)) (hp : pc + 1 = pc') (hj : ¬ j < 0 ∧ j < n) (hi : j.toNatClampNeg = i) (hv : i < vs.length) (hx1 : nar .boolean x = x)
    (r : ∀ T' h', Stand p l e R s m args below meth c T' (locs ++ [⟨a, j.toNatClampNeg⟩]) cells slots → T'.heap = h' → Wr h h' a j.toNatClampNeg (.int x) → Arv Z h' a cA .boolean n (vs.set i (.int x)) dv → Go p e below P (T'.setTop (mkF m pc' ls st))) : Go p e below P (T.setTop (mkF m pc ls (.int x :: .int j :: .ref a :: st))) := by
  subst hp
  obtain ⟨cl, A, q1, S, q3, H, G⟩ := V
  obtain ⟨T', h', X', e', W', q⟩ := stZ X hx hZ eT A (j := j) (x := x) (inb_of S hj) (g := mkF m pc ls (.int x :: .int j :: .ref a :: st)) rfl rfl (hb hby hd)
  rw [hx1] at W'
  exact own_go q (r T' h' X' e' W' (Arv.set A q1 S q3 H G (hx1 ▸ fits_nar_bool x) W' i hi hv))
theorem own_aaload (pc' : Nat) (v : Value) (X : Stand p l e R s m args below meth c T locs cells slots) (hx : p.tables.exec = Jvm.exec) (hby : c.code = bytes) (hZ : Z.Warmed39 s.vm) (eT : T.heap = h) {a : Addr} {cA : ClassId} {ty : FieldType} {n j : Int32} {vs : List Value} {dv : Value} (V : Arv Z h a cA ty n vs dv) (hty : ty.isReference = true)
    (hd : decode bytes pc = .ok (.aaload, 1)) (hp : pc + 1 = pc') (hj : ¬ j < 0 ∧ j < n) (hv : vs.getD j.toNatClampNeg dv = v)
    (r : Go p e below P (T.setTop (mkF m pc' ls (v :: st)))) : Go p e below P (T.setTop (mkF m pc ls (.int j :: .ref a :: st))) := by
  subst hp
  obtain ⟨cl, A, q1, S, q3, H, G⟩ := V
  exact own_go (fun t q => X.aaload hx (j := j) (v := v) (by rw [eT]; exact A.1) (State.isArrayOf_alike hZ.alike A.2.1) hty A.2.2 (inb_of S hj) (H.at (inb_of S hj) hv) (g := mkF m pc ls (.int j :: .ref a :: st)) rfl rfl (hb hby hd) t q) r
theorem own_zaload (pc' : Nat) (v : Value) (X : Stand p l e R s m args below meth c T locs cells slots) (hx : p.tables.exec = Jvm.exec) (hby : c.code = bytes) (hZ : Z.Warmed39 s.vm) (eT : T.heap = h) {a : Addr} {cA : ClassId} {n j : Int32} {vs : List Value} {dv : Value} (V : Arv Z h a cA .boolean n vs dv)
    (hd : decode bytes pc = .ok (.baload, 1)) (hp : pc + 1 = pc') (hj : ¬ j < 0 ∧ j < n) (hv : vs.getD j.toNatClampNeg dv = v)
    (r : Go p e below P (T.setTop (mkF m pc' ls (v :: st)))) : Go p e below P (T.setTop (mkF m pc ls (.int j :: .ref a :: st))) := by
  subst hp
  obtain ⟨cl, A, q1, S, q3, H, G⟩ := V
  exact own_go (fun t q => X.baloadBooleans hx (j := j) (v := v) (by rw [eT]; exact A.1) (State.isArrayOf_alike hZ.alike A.2.1) A.2.2 (inb_of S hj) (H.at (inb_of S hj) hv) (g := mkF m pc ls (.int j :: .ref a :: st)) rfl rfl (hb hby hd) t q) r
theorem own_len (pc' : Nat) (X : Stand p l e R s m args below meth c T locs cells slots) (hx : p.tables.exec = Jvm.exec) (hby : c.code = bytes) (hZ : Z.Warmed39 s.vm) (eT : T.heap = h) {a : Addr} {cA : ClassId} {ty : FieldType} {n : Int32} {vs : List Value} {dv : Value} (V : Arv Z h a cA ty n vs dv)
    (hd : decode bytes pc = .ok (.arraylength, 1)) (hp : pc + 1 = pc')
    (r : Go p e below P (T.setTop (mkF m pc' ls (.int n :: st)))) : Go p e below P (T.setTop (mkF m pc ls (.ref a :: st))) := by
  subst hp
  obtain ⟨cl, A, q1, S, q3, H, G⟩ := V
  rw [← len_of S q3] at r
  exact own_go (fun t q => X.arraylength hx (by rw [eT]; exact A.1) (State.isArrayOf_alike hZ.alike A.2.1) (g := mkF m pc ls (.ref a :: st)) rfl rfl (hb hby hd) t q) r
/-! calls -/
theorem own_callS (pc' : Nat) {h : Heap} {as' : Array Value} {rm : Room} {Q : Option Value → Heap → List Loc → Prop} {y : MethodName} {code' : ByteArray} {maxL : Nat} {ret' : Option FieldType}
    (hM : MetFree l y (head1 [Cond.code y code' maxL ret'] rm) (fun a U => a = as' ∧ Z.Warmed39 U.vm ∧ U.heap = h) (fun _ _ _ _ _ => True) (fun _ U o U' => ∃ v L, o = .returned v ∧ Q v U'.heap L ∧ FrameEnd U o U' L rm.cells rm.slots))
    (X : Stand p l e R s m args below meth c T locs cells slots) (hx : p.tables.exec = Jvm.exec) (hby : c.code = bytes) (hZ : Z.Warmed39 s.vm) {own : String} {index W : Nat} (hown : s.vm.findClass own = some m.cls)
    (w1 : (Cond.methodLink own index y).before a0 Z = true) (w2 : (Cond.static y).before a0 Z = true) (w3 : (Cond.initialized y.cls).before a0 Z = true) (w4 : (Cond.code y code' maxL ret').before a0 Z = true)
    (hy : y.cls ≠ "java/lang/invoke/MethodHandle" ∧ y.cls ≠ "java/lang/invoke/VarHandle") (hsz : ls.size = c.maxLocals) (argsL rest : List Value) {ps : List FieldType} {rt : Option FieldType} (hps : parseMethodDescriptor y.desc = some ⟨ps, rt⟩) (hlen : argsL.length = ps.length)
    (hd : decode bytes pc = .ok (.invokestatic index, 3)) (hp : pc + 3 = pc') (eT : T.heap = h) (hst : st = argsL.reverse ++ rest) (has : argsL.toArray = as') (hW : (rest.map fun v => v.category).sum = W)
    (hf : rm.frames + 1 ≤ R.frames) (hl : W + (maxL + 11) + rm.locals ≤ R.locals) (hc : cells + rm.cells ≤ R.cells) (hs : slots + rm.slots ≤ R.slots)
    (r : ∀ v T' L, Stand p l e R s m args below meth c T' (locs ++ L) (cells + rm.cells) (slots + rm.slots) → Q v T'.heap L → Go p e below P (T'.setTop (mkF m pc' ls (v.toList ++ rest)))) : Go p e below P (T.setTop (mkF m pc ls st)) := by
  subst hp
  obtain ⟨v, _, ⟨T', L', k', n'⟩, -, X', ⟨L, hQ, l1, l2, l3⟩, q⟩ := Jvm.LawKit.callS X hx hown (mvT hZ w1) (mvT hZ w2) (mvT hZ w3) (mvT hZ w4) hy (backOf (W := W) hM hZ w4 w3 hf hl) (g := mkF m pc ls st) rfl hsz (argsL := argsL) (rest := rest) (lenOf hps hlen) hst (by show 2 * 0 + _ ≤ _; omega) (hb hby hd) (fun _ _ => ⟨has, eT, hc, hs⟩)
  dsimp only [Pt.U, Pt.locs, Pt.cells, Pt.slots] at X' l1 l2 l3 q hQ
  subst l1 l2 l3
  exact own_go q (r v T' L X' hQ)
theorem own_virt (pc' : Nat) {h : Heap} {as' : Array Value} {rm : Room} {Q : Option Value → Heap → List Loc → Prop} {y z : MethodName} {code' : ByteArray} {maxL : Nat} {ret' : Option FieldType}
    (hM : MetFree l z (head1 [Cond.code z code' maxL ret'] rm) (fun a U => a = as' ∧ Z.Warmed39 U.vm ∧ U.heap = h) (fun _ _ _ _ _ => True) (fun _ U o U' => ∃ v L, o = .returned v ∧ Q v U'.heap L ∧ FrameEnd U o U' L rm.cells rm.slots))
    (X : Stand p l e R s m args below meth c T locs cells slots) (hx : p.tables.exec = Jvm.exec) (hby : c.code = bytes) (hZ : Z.Warmed39 s.vm) {own C : String} {index W : Nat} (hown : s.vm.findClass own = some m.cls)
    (w1 : (Cond.methodLink own index y).before a0 Z = true) (w2 : (Cond.declares y).before a0 Z = true) (nf : NotFace s y) (w3 : (Cond.selects C y z).before a0 Z = true) (w4 : (Cond.instanceMethod z).before a0 Z = true) (w5 : (Cond.initialized z.cls).before a0 Z = true) (w6 : (Cond.code z code' maxL ret').before a0 Z = true)
    (hy : y.cls ≠ "java/lang/invoke/MethodHandle" ∧ y.cls ≠ "java/lang/invoke/VarHandle") (hsz : ls.size = c.maxLocals) (b : Addr) (argsL rest : List Value) {ps : List FieldType} {rt : Option FieldType} (hps : parseMethodDescriptor y.desc = some ⟨ps, rt⟩) (hlen : argsL.length = ps.length)
    (hd : decode bytes pc = .ok (.invokevirtual index, 3)) (hp : pc + 3 = pc') (eT : T.heap = h) (E : Exa Z h b C) (hst : st = argsL.reverse ++ .ref b :: rest) (has : (.ref b :: argsL).toArray = as') (hW : (rest.map fun v => v.category).sum = W)
    (hf : rm.frames + 1 ≤ R.frames) (hl : W + (maxL + 11) + rm.locals ≤ R.locals) (hc : cells + rm.cells ≤ R.cells) (hs : slots + rm.slots ≤ R.slots)
    (r : ∀ v T' L, Stand p l e R s m args below meth c T' (locs ++ L) (cells + rm.cells) (slots + rm.slots) → Q v T'.heap L → Go p e below P (T'.setTop (mkF m pc' ls (v.toList ++ rest)))) : Go p e below P (T.setTop (mkF m pc ls st)) := by
  subst hp
  obtain ⟨cq, kq, q1, q2, q3⟩ := isOf (s := s) (T := T) hZ eT E
  obtain ⟨v, _, ⟨T', L', k', n'⟩, -, X', ⟨L, hQ, l1, l2, l3⟩, q⟩ := X.virtualBack hx hown (mvT hZ w1) (mvT hZ w2) nf (mvT hZ w3) (mvT hZ w4) hy (backOf (W := W) hM hZ w6 w5 hf hl) q1 q3 (g := mkF m pc ls st) rfl hsz (Steps.refl _) (argsL := argsL) (rest := rest) (lenOf hps hlen) hst (by show 2 * 0 + _ ≤ _; omega) (hb hby hd) (fun _ _ => ⟨has, eT, hc, hs⟩)
  dsimp only [Pt.U, Pt.locs, Pt.cells, Pt.slots] at X' l1 l2 l3 q hQ
  subst l1 l2 l3
  exact own_go (fun t k => q.trans k) (r v T' L X' hQ)
/-! the end of a walk -/
theorem own_ret {Q : Option Value → Heap → List Loc → Prop} {K N : Nat} {t : FieldType} {w : Value} {i : Instr} (X : Stand p l e R s m args below meth c T locs cells slots) (hx : p.tables.exec = Jvm.exec) (hby : c.code = bytes) (hret : meth.sig.returnType = some t) (hlocks : meth.locks = false)
    (hd : decode bytes pc = .ok (i, 1)) (hn : narrow t w = w)
    (hi : (i = .ireturn ∧ (t = .int ∨ t = .boolean ∨ t = .byte ∨ t = .char ∨ t = .short) ∧ ∃ z, w = .int z) ∨ (i = .lreturn ∧ t = .long ∧ ∃ z, w = .long z) ∨ (i = .dreturn ∧ t = .double ∧ ∃ z, w = .double z) ∨ (i = .freturn ∧ t = .float ∧ ∃ z, w = .float z) ∨ (i = .areturn ∧ t.isReference = true ∧ w.isRef = true))
    (hK : cells ≤ K) (hN : slots ≤ N) (hQ : Q (some w) T.heap locs) :
    Go p e below (fun s₂ o => s₂.status = .running ∧ Ended s₂ below o ∧ ∃ v L, o = .returned v ∧ Q v s₂.heap L ∧ FrameEnd s o s₂ L K N) (T.setTop (mkF m pc ls (w :: st))) := by
  obtain ⟨fs, hr, hrun, hended, hW, hsame⟩ := X.leave (v := some w) (fun h => by rw [hret] at h; cases h) hlocks
  exact ⟨_, _, retOut X hx hret hn hi (hb hby hd) hr, hrun, hended, _, _, rfl, hQ, ⟨_, rfl⟩, hW, hsame.mono hK hN⟩
theorem own_ret0 {Q : Option Value → Heap → List Loc → Prop} {K N : Nat} (X : Stand p l e R s m args below meth c T locs cells slots) (hx : p.tables.exec = Jvm.exec) (hby : c.code = bytes) (hret : meth.sig.returnType = none) (hlocks : meth.locks = false)
    (hd : decode bytes pc = .ok (.return_, 1)) (hK : cells ≤ K) (hN : slots ≤ N) (hQ : Q none T.heap locs) :
    Go p e below (fun s₂ o => s₂.status = .running ∧ Ended s₂ below o ∧ ∃ v L, o = .returned v ∧ Q v s₂.heap L ∧ FrameEnd s o s₂ L K N) (T.setTop (mkF m pc ls [])) := by
  obtain ⟨fs, hr, hrun, hended, hW, hsame⟩ := X.leave (v := none) (fun _ => rfl) hlocks
  exact ⟨_, _, X.returnOut hx hret (hb hby hd) hr, hrun, hended, _, _, rfl, hQ, ⟨_, rfl⟩, hW, hsame.mono hK hN⟩
/-! the case's words -/
theorem own_fld {Z : State} {args : Array Value} {t : Term} {C n d : String} {v : Int32} {x : Addr} (h : (Cond.eq (Term.field t C n d) (Term.int v)).value args Z none Z [] = some true) (ht : t.eval args Z none [] Z = some (.ref x)) : Fld Z Z.heap x C n d (.int v) :=
  Fld.start ((fld_at ht).symm.trans (eqv_i (Term.int_eval v) h))
theorem own_fldN {Z : State} {args : Array Value} {t : Term} {C n d : String} {x : Addr} (h : (Cond.eq (Term.field t C n d) Term.null).value args Z none Z [] = some true) (ht : t.eval args Z none [] Z = some (.ref x)) : Fld Z Z.heap x C n d .null :=
  Fld.start ((fld_at ht).symm.trans (null_v h))
theorem own_eqvR {Z : State} {args : Array Value} {X F : Term} {y : Addr} (hF : F.eval args Z none [] Z = some (.ref y)) (h : (Cond.eq X F).value args Z none Z [] = some true) : X.eval args Z none [] Z = some (.ref y) := by
  obtain ⟨x, y', e1, e2, k1, k2⟩ := cmp_v (Or.inl h)
  cases hF.symm.trans e2
  have hx : x.isRef = true := k2.2
  exact e1.trans (congrArg some (gotT (eq_R e1 hF hx rfl) h))
theorem own_fldR {Z : State} {args : Array Value} {t F : Term} {C n d : String} {x y : Addr} (h : (Cond.eq (Term.field t C n d) F).value args Z none Z [] = some true) (ht : t.eval args Z none [] Z = some (.ref x)) (hF : F.eval args Z none [] Z = some (.ref y)) : Fld Z Z.heap x C n d (.ref y) :=
  Fld.start ((fld_at ht).symm.trans (own_eqvR hF h))
theorem own_len_at {Z : State} {args : Array Value} {t : Term} {z : Int32} {a : Addr} {cl : Cell} (h : (Term.length t).eval args Z none [] Z = some (.int z)) (ht : t.eval args Z none [] Z = some (.ref a)) (ha : Z.arrayAt? a = some cl) : cl.slots.size < 2 ^ 31 ∧ cl.slots.size.toInt32 = z := by
  by_cases q : cl.slots.size < 2 ^ 31
  · refine ⟨q, ?_⟩
    rw [len_f ht ha q] at h
    exact Value.int.inj (Option.some.inj h)
  · exfalso
    simp [Term.eval, ht, ha, q] at h
/-- what a callee that writes nothing leaves -/
def own_Q (r : Option Value) (n0 : Nat) (h0 : Heap) (v : Option Value) (h : Heap) (L : List Loc) : Prop := v = r ∧ Fr n0 L ∧ h = h0
/-- what the law leaves -/
def own_Q1 (n0 : Nat) (v : Option Value) (h : Heap) (L : List Loc) : Prop := v = some (.int 1) ∧ Fr n0 L
end Own
/-! small facts on ints -/
theorem own_mask_nn (x : Int32) : 0 ≤ (x &&& 2147483647).toInt := by
  have h : (x &&& 2147483647).toInt = x.toInt % 2 ^ 31 := Jvm.Kit.i32_mask x 2147483647 (k := 31) (by decide) (by decide)
  omega
theorem own_mod_toInt (x y : Int32) (hy : 0 < y.toInt) (hx : 0 ≤ x.toInt) : (x % y).toInt = x.toInt % y.toInt := Jvm.Kit.i32_rem_nonneg hx
theorem own_and_toInt1 (x : Int32) : (x &&& 1).toInt = x.toInt % 2 := Jvm.Kit.i32_mask x 1 (k := 1) (by decide) (by decide)
theorem own_and_toInt3 (x : Int32) : (x &&& 3).toInt = x.toInt % 4 := Jvm.Kit.i32_mask x 3 (k := 2) (by decide) (by decide)
theorem own_and_toInt7 (x : Int32) : (x &&& 7).toInt = x.toInt % 8 := Jvm.Kit.i32_mask x 7 (k := 3) (by decide) (by decide)
theorem own_mkI (x m : Int32) (k : Nat) (hk : k < 32) (hm : m.toBitVec.toNat = 2 ^ k - 1) : 0 ≤ (x &&& m).toInt ∧ (x &&& m).toInt ≤ m.toInt := by
  have h1 := Jvm.Kit.i32_mask x m hk hm
  have h2 : m.toInt = 2 ^ k - 1 := by
    have h3 : m.toInt = (m.toBitVec).toInt := rfl
    have h4 : (2 : Nat) ^ k ≤ 2 ^ 31 := Nat.pow_le_pow_right (by decide) (by omega)
    rw [h3, BitVec.toInt_eq_toNat_cond, hm]
    have h5 : 0 < (2 : Nat) ^ k := Nat.pow_pos (by decide)
    have h6 : ((2 ^ k - 1 : Nat) : Int) = (2 : Int) ^ k - 1 := by
      rw [Int.natCast_sub h5]; simp
    split
    · exact h6
    · omega
  have h7 : (0 : Int) < 2 ^ k := Int.pow_pos (by decide)
  have h8 := Int.emod_nonneg x.toInt (Int.ne_of_gt h7)
  have h9 := Int.emod_lt_of_pos x.toInt h7
  omega
theorem own_mkJ (x m : Int64) (k : Nat) (hk : k < 64) (hm : m.toBitVec.toNat = 2 ^ k - 1) : 0 ≤ (x &&& m).toInt ∧ (x &&& m).toInt ≤ m.toInt := by
  have h1 := Jvm.Kit.i64_mask x m hk hm
  have h2 : m.toInt = 2 ^ k - 1 := by
    have h3 : m.toInt = (m.toBitVec).toInt := rfl
    have h4 : (2 : Nat) ^ k ≤ 2 ^ 63 := Nat.pow_le_pow_right (by decide) (by omega)
    rw [h3, BitVec.toInt_eq_toNat_cond, hm]
    have h5 : 0 < (2 : Nat) ^ k := Nat.pow_pos (by decide)
    have h6 : ((2 ^ k - 1 : Nat) : Int) = (2 : Int) ^ k - 1 := by
      rw [Int.natCast_sub h5]; simp
    split
    · exact h6
    · omega
  have h7 : (0 : Int) < 2 ^ k := Int.pow_pos (by decide)
  have h8 := Int.emod_nonneg x.toInt (Int.ne_of_gt h7)
  have h9 := Int.emod_lt_of_pos x.toInt h7
  omega
theorem own_rngI (x : Int32) : -2 ^ 31 ≤ x.toInt ∧ x.toInt < 2 ^ 31 := ⟨Int32.le_toInt x, Int32.toInt_lt x⟩
theorem own_rngJ (x : Int64) : -2 ^ 63 ≤ x.toInt ∧ x.toInt < 2 ^ 63 := ⟨Int64.le_toInt x, Int64.toInt_lt x⟩
theorem own_rmI {x : Int32} (hx : 0 ≤ x.toInt) (y : Int32) (hy : 0 < y.toInt) : 0 ≤ (x % y).toInt ∧ (x % y).toInt ≤ y.toInt - 1 := by
  rw [Jvm.Kit.i32_rem_nonneg hx]
  have h8 := Int.emod_nonneg x.toInt (Int.ne_of_gt hy)
  have h9 := Int.emod_lt_of_pos x.toInt hy
  omega
theorem own_rmJ (x y : Int64) (hy : 0 < y.toInt) : -(y.toInt - 1) ≤ (x - (x / y) * y).toInt ∧ (x - (x / y) * y).toInt ≤ y.toInt - 1 := by
  rw [Jvm.Kit.i64_rem]
  have h1 := Int.tmod_lt_of_pos x.toInt hy
  have h2 := Int.lt_tmod_of_pos x.toInt hy
  omega
theorem own_dvI {x : Int32} (hx : 0 ≤ x.toInt) (y : Int32) (hy : 0 < y.toInt) : (x / y).toInt = x.toInt / y.toInt := by
  rw [Jvm.Kit.i32_div (by omega), Int.tdiv_eq_ediv_of_nonneg hx]
theorem own_bdI {x a b : Int32} (h1 : ¬ (x < a)) (h2 : ¬ (b < x)) : a.toInt ≤ x.toInt ∧ x.toInt ≤ b.toInt := by
  rw [Int32.lt_iff_toInt_lt] at h1 h2
  omega
theorem own_bdJ {x a b : Int64} (h1 : ¬ (x < a)) (h2 : ¬ (b < x)) : a.toInt ≤ x.toInt ∧ x.toInt ≤ b.toInt := by
  rw [Int64.lt_iff_toInt_lt] at h1 h2
  omega
theorem own_and1 (x : Int32) : x &&& 1 = 0 ∨ x &&& 1 = 1 := by
  have h1 : (x &&& 1).toInt = x.toInt % 2 := own_and_toInt1 x
  have h3 : ∀ y : Int32, ∀ k : Int32, y.toInt = k.toInt → y = k := fun _ _ q => Int32.toInt_inj.mp q
  have h4 : x.toInt % 2 = 0 ∨ x.toInt % 2 = 1 := by omega
  rcases h4 with h4 | h4
  · exact Or.inl (h3 _ _ (h1.trans h4))
  · exact Or.inr (h3 _ _ (h1.trans h4))
theorem own_mod27 (x : Int32) : (x &&& 2147483647) % 27 = 0 ∨ (x &&& 2147483647) % 27 = 1 ∨ (x &&& 2147483647) % 27 = 2 ∨ (x &&& 2147483647) % 27 = 3 ∨ (x &&& 2147483647) % 27 = 4 ∨ (x &&& 2147483647) % 27 = 5 ∨ (x &&& 2147483647) % 27 = 6 ∨ (x &&& 2147483647) % 27 = 7 ∨ (x &&& 2147483647) % 27 = 8 ∨ (x &&& 2147483647) % 27 = 9 ∨ (x &&& 2147483647) % 27 = 10 ∨ (x &&& 2147483647) % 27 = 11 ∨ (x &&& 2147483647) % 27 = 12 ∨ (x &&& 2147483647) % 27 = 13 ∨ (x &&& 2147483647) % 27 = 14 ∨ (x &&& 2147483647) % 27 = 15 ∨ (x &&& 2147483647) % 27 = 16 ∨ (x &&& 2147483647) % 27 = 17 ∨ (x &&& 2147483647) % 27 = 18 ∨ (x &&& 2147483647) % 27 = 19 ∨ (x &&& 2147483647) % 27 = 20 ∨ (x &&& 2147483647) % 27 = 21 ∨ (x &&& 2147483647) % 27 = 22 ∨ (x &&& 2147483647) % 27 = 23 ∨ (x &&& 2147483647) % 27 = 24 ∨ (x &&& 2147483647) % 27 = 25 ∨ (x &&& 2147483647) % 27 = 26 := by
  have h1 : ((x &&& 2147483647) % 27).toInt = (x &&& 2147483647).toInt % 27 := own_mod_toInt _ 27 (by decide) (own_mask_nn x)
  have h2 := own_mask_nn x
  have h3 : ∀ y : Int32, ∀ k : Int32, y.toInt = k.toInt → y = k := fun _ _ q => Int32.toInt_inj.mp q
  have h4 : (x &&& 2147483647).toInt % 27 = 0 ∨ (x &&& 2147483647).toInt % 27 = 1 ∨ (x &&& 2147483647).toInt % 27 = 2 ∨ (x &&& 2147483647).toInt % 27 = 3 ∨ (x &&& 2147483647).toInt % 27 = 4 ∨ (x &&& 2147483647).toInt % 27 = 5 ∨ (x &&& 2147483647).toInt % 27 = 6 ∨ (x &&& 2147483647).toInt % 27 = 7 ∨ (x &&& 2147483647).toInt % 27 = 8 ∨ (x &&& 2147483647).toInt % 27 = 9 ∨ (x &&& 2147483647).toInt % 27 = 10 ∨ (x &&& 2147483647).toInt % 27 = 11 ∨ (x &&& 2147483647).toInt % 27 = 12 ∨ (x &&& 2147483647).toInt % 27 = 13 ∨ (x &&& 2147483647).toInt % 27 = 14 ∨ (x &&& 2147483647).toInt % 27 = 15 ∨ (x &&& 2147483647).toInt % 27 = 16 ∨ (x &&& 2147483647).toInt % 27 = 17 ∨ (x &&& 2147483647).toInt % 27 = 18 ∨ (x &&& 2147483647).toInt % 27 = 19 ∨ (x &&& 2147483647).toInt % 27 = 20 ∨ (x &&& 2147483647).toInt % 27 = 21 ∨ (x &&& 2147483647).toInt % 27 = 22 ∨ (x &&& 2147483647).toInt % 27 = 23 ∨ (x &&& 2147483647).toInt % 27 = 24 ∨ (x &&& 2147483647).toInt % 27 = 25 ∨ (x &&& 2147483647).toInt % 27 = 26 := by omega
  rcases h4 with h4 | h4 | h4 | h4 | h4 | h4 | h4 | h4 | h4 | h4 | h4 | h4 | h4 | h4 | h4 | h4 | h4 | h4 | h4 | h4 | h4 | h4 | h4 | h4 | h4 | h4 | h4
  · exact Or.inl (h3 _ _ (h1.trans h4))
  · exact Or.inr (Or.inl (h3 _ _ (h1.trans h4)))
  · exact Or.inr (Or.inr (Or.inl (h3 _ _ (h1.trans h4))))
  · exact Or.inr (Or.inr (Or.inr (Or.inl (h3 _ _ (h1.trans h4)))))
  · exact Or.inr (Or.inr (Or.inr (Or.inr (Or.inl (h3 _ _ (h1.trans h4))))))
  · exact Or.inr (Or.inr (Or.inr (Or.inr (Or.inr (Or.inl (h3 _ _ (h1.trans h4)))))))
  · exact Or.inr (Or.inr (Or.inr (Or.inr (Or.inr (Or.inr (Or.inl (h3 _ _ (h1.trans h4))))))))
  · exact Or.inr (Or.inr (Or.inr (Or.inr (Or.inr (Or.inr (Or.inr (Or.inl (h3 _ _ (h1.trans h4)))))))))
  · exact Or.inr (Or.inr (Or.inr (Or.inr (Or.inr (Or.inr (Or.inr (Or.inr (Or.inl (h3 _ _ (h1.trans h4))))))))))
  · exact Or.inr (Or.inr (Or.inr (Or.inr (Or.inr (Or.inr (Or.inr (Or.inr (Or.inr (Or.inl (h3 _ _ (h1.trans h4)))))))))))
  · exact Or.inr (Or.inr (Or.inr (Or.inr (Or.inr (Or.inr (Or.inr (Or.inr (Or.inr (Or.inr (Or.inl (h3 _ _ (h1.trans h4))))))))))))
  · exact Or.inr (Or.inr (Or.inr (Or.inr (Or.inr (Or.inr (Or.inr (Or.inr (Or.inr (Or.inr (Or.inr (Or.inl (h3 _ _ (h1.trans h4)))))))))))))
  · exact Or.inr (Or.inr (Or.inr (Or.inr (Or.inr (Or.inr (Or.inr (Or.inr (Or.inr (Or.inr (Or.inr (Or.inr (Or.inl (h3 _ _ (h1.trans h4))))))))))))))
  · exact Or.inr (Or.inr (Or.inr (Or.inr (Or.inr (Or.inr (Or.inr (Or.inr (Or.inr (Or.inr (Or.inr (Or.inr (Or.inr (Or.inl (h3 _ _ (h1.trans h4)))))))))))))))
  · exact Or.inr (Or.inr (Or.inr (Or.inr (Or.inr (Or.inr (Or.inr (Or.inr (Or.inr (Or.inr (Or.inr (Or.inr (Or.inr (Or.inr (Or.inl (h3 _ _ (h1.trans h4))))))))))))))))
  · exact Or.inr (Or.inr (Or.inr (Or.inr (Or.inr (Or.inr (Or.inr (Or.inr (Or.inr (Or.inr (Or.inr (Or.inr (Or.inr (Or.inr (Or.inr (Or.inl (h3 _ _ (h1.trans h4)))))))))))))))))
  · exact Or.inr (Or.inr (Or.inr (Or.inr (Or.inr (Or.inr (Or.inr (Or.inr (Or.inr (Or.inr (Or.inr (Or.inr (Or.inr (Or.inr (Or.inr (Or.inr (Or.inl (h3 _ _ (h1.trans h4))))))))))))))))))
  · exact Or.inr (Or.inr (Or.inr (Or.inr (Or.inr (Or.inr (Or.inr (Or.inr (Or.inr (Or.inr (Or.inr (Or.inr (Or.inr (Or.inr (Or.inr (Or.inr (Or.inr (Or.inl (h3 _ _ (h1.trans h4)))))))))))))))))))
  · exact Or.inr (Or.inr (Or.inr (Or.inr (Or.inr (Or.inr (Or.inr (Or.inr (Or.inr (Or.inr (Or.inr (Or.inr (Or.inr (Or.inr (Or.inr (Or.inr (Or.inr (Or.inr (Or.inl (h3 _ _ (h1.trans h4))))))))))))))))))))
  · exact Or.inr (Or.inr (Or.inr (Or.inr (Or.inr (Or.inr (Or.inr (Or.inr (Or.inr (Or.inr (Or.inr (Or.inr (Or.inr (Or.inr (Or.inr (Or.inr (Or.inr (Or.inr (Or.inr (Or.inl (h3 _ _ (h1.trans h4)))))))))))))))))))))
  · exact Or.inr (Or.inr (Or.inr (Or.inr (Or.inr (Or.inr (Or.inr (Or.inr (Or.inr (Or.inr (Or.inr (Or.inr (Or.inr (Or.inr (Or.inr (Or.inr (Or.inr (Or.inr (Or.inr (Or.inr (Or.inl (h3 _ _ (h1.trans h4))))))))))))))))))))))
  · exact Or.inr (Or.inr (Or.inr (Or.inr (Or.inr (Or.inr (Or.inr (Or.inr (Or.inr (Or.inr (Or.inr (Or.inr (Or.inr (Or.inr (Or.inr (Or.inr (Or.inr (Or.inr (Or.inr (Or.inr (Or.inr (Or.inl (h3 _ _ (h1.trans h4)))))))))))))))))))))))
  · exact Or.inr (Or.inr (Or.inr (Or.inr (Or.inr (Or.inr (Or.inr (Or.inr (Or.inr (Or.inr (Or.inr (Or.inr (Or.inr (Or.inr (Or.inr (Or.inr (Or.inr (Or.inr (Or.inr (Or.inr (Or.inr (Or.inr (Or.inl (h3 _ _ (h1.trans h4))))))))))))))))))))))))
  · exact Or.inr (Or.inr (Or.inr (Or.inr (Or.inr (Or.inr (Or.inr (Or.inr (Or.inr (Or.inr (Or.inr (Or.inr (Or.inr (Or.inr (Or.inr (Or.inr (Or.inr (Or.inr (Or.inr (Or.inr (Or.inr (Or.inr (Or.inr (Or.inl (h3 _ _ (h1.trans h4)))))))))))))))))))))))))
  · exact Or.inr (Or.inr (Or.inr (Or.inr (Or.inr (Or.inr (Or.inr (Or.inr (Or.inr (Or.inr (Or.inr (Or.inr (Or.inr (Or.inr (Or.inr (Or.inr (Or.inr (Or.inr (Or.inr (Or.inr (Or.inr (Or.inr (Or.inr (Or.inr (Or.inl (h3 _ _ (h1.trans h4))))))))))))))))))))))))))
  · exact Or.inr (Or.inr (Or.inr (Or.inr (Or.inr (Or.inr (Or.inr (Or.inr (Or.inr (Or.inr (Or.inr (Or.inr (Or.inr (Or.inr (Or.inr (Or.inr (Or.inr (Or.inr (Or.inr (Or.inr (Or.inr (Or.inr (Or.inr (Or.inr (Or.inr (Or.inl (h3 _ _ (h1.trans h4)))))))))))))))))))))))))))
  · exact Or.inr (Or.inr (Or.inr (Or.inr (Or.inr (Or.inr (Or.inr (Or.inr (Or.inr (Or.inr (Or.inr (Or.inr (Or.inr (Or.inr (Or.inr (Or.inr (Or.inr (Or.inr (Or.inr (Or.inr (Or.inr (Or.inr (Or.inr (Or.inr (Or.inr (Or.inr (h3 _ _ (h1.trans h4)))))))))))))))))))))))))))
def own_W (Z : State) (w_V w_E w_OUT w_IN w_BOTH w_OUT_E w_IN_E w_BOTH_E w_OUT_V w_IN_V w_BOTH_V w_HAS w_HAS_LABEL w_HAS_NOT w_WHERE w_NOT w_AND w_OR w_ORDER w_VALUES w_ID w_LABEL w_COUNT w_SUM w_MEAN w_MIN w_MAX w_EDGE w_VERTEX : Addr) : Prop := Sta Z Z.heap "com/example/edgeprobe/edgeprobe/gremlin/GremlinStep" "V" "Lcom/example/edgeprobe/edgeprobe/gremlin/GremlinStep;" (.ref w_V) ∧ Exa Z Z.heap w_V "com/example/edgeprobe/edgeprobe/gremlin/GremlinStep" ∧ Sta Z Z.heap "com/example/edgeprobe/edgeprobe/gremlin/GremlinStep" "E" "Lcom/example/edgeprobe/edgeprobe/gremlin/GremlinStep;" (.ref w_E) ∧ Exa Z Z.heap w_E "com/example/edgeprobe/edgeprobe/gremlin/GremlinStep" ∧ Sta Z Z.heap "com/example/edgeprobe/edgeprobe/gremlin/GremlinStep" "OUT" "Lcom/example/edgeprobe/edgeprobe/gremlin/GremlinStep;" (.ref w_OUT) ∧ Exa Z Z.heap w_OUT "com/example/edgeprobe/edgeprobe/gremlin/GremlinStep" ∧ Sta Z Z.heap "com/example/edgeprobe/edgeprobe/gremlin/GremlinStep" "IN" "Lcom/example/edgeprobe/edgeprobe/gremlin/GremlinStep;" (.ref w_IN) ∧ Exa Z Z.heap w_IN "com/example/edgeprobe/edgeprobe/gremlin/GremlinStep" ∧ Sta Z Z.heap "com/example/edgeprobe/edgeprobe/gremlin/GremlinStep" "BOTH" "Lcom/example/edgeprobe/edgeprobe/gremlin/GremlinStep;" (.ref w_BOTH) ∧ Exa Z Z.heap w_BOTH "com/example/edgeprobe/edgeprobe/gremlin/GremlinStep" ∧ Sta Z Z.heap "com/example/edgeprobe/edgeprobe/gremlin/GremlinStep" "OUT_E" "Lcom/example/edgeprobe/edgeprobe/gremlin/GremlinStep;" (.ref w_OUT_E) ∧ Exa Z Z.heap w_OUT_E "com/example/edgeprobe/edgeprobe/gremlin/GremlinStep" ∧ Sta Z Z.heap "com/example/edgeprobe/edgeprobe/gremlin/GremlinStep" "IN_E" "Lcom/example/edgeprobe/edgeprobe/gremlin/GremlinStep;" (.ref w_IN_E) ∧ Exa Z Z.heap w_IN_E "com/example/edgeprobe/edgeprobe/gremlin/GremlinStep" ∧ Sta Z Z.heap "com/example/edgeprobe/edgeprobe/gremlin/GremlinStep" "BOTH_E" "Lcom/example/edgeprobe/edgeprobe/gremlin/GremlinStep;" (.ref w_BOTH_E) ∧ Exa Z Z.heap w_BOTH_E "com/example/edgeprobe/edgeprobe/gremlin/GremlinStep" ∧ Sta Z Z.heap "com/example/edgeprobe/edgeprobe/gremlin/GremlinStep" "OUT_V" "Lcom/example/edgeprobe/edgeprobe/gremlin/GremlinStep;" (.ref w_OUT_V) ∧ Exa Z Z.heap w_OUT_V "com/example/edgeprobe/edgeprobe/gremlin/GremlinStep" ∧ Sta Z Z.heap "com/example/edgeprobe/edgeprobe/gremlin/GremlinStep" "IN_V" "Lcom/example/edgeprobe/edgeprobe/gremlin/GremlinStep;" (.ref w_IN_V) ∧ Exa Z Z.heap w_IN_V "com/example/edgeprobe/edgeprobe/gremlin/GremlinStep" ∧ Sta Z Z.heap "com/example/edgeprobe/edgeprobe/gremlin/GremlinStep" "BOTH_V" "Lcom/example/edgeprobe/edgeprobe/gremlin/GremlinStep;" (.ref w_BOTH_V) ∧ Exa Z Z.heap w_BOTH_V "com/example/edgeprobe/edgeprobe/gremlin/GremlinStep" ∧ Sta Z Z.heap "com/example/edgeprobe/edgeprobe/gremlin/GremlinStep" "HAS" "Lcom/example/edgeprobe/edgeprobe/gremlin/GremlinStep;" (.ref w_HAS) ∧ Exa Z Z.heap w_HAS "com/example/edgeprobe/edgeprobe/gremlin/GremlinStep" ∧ Sta Z Z.heap "com/example/edgeprobe/edgeprobe/gremlin/GremlinStep" "HAS_LABEL" "Lcom/example/edgeprobe/edgeprobe/gremlin/GremlinStep;" (.ref w_HAS_LABEL) ∧ Exa Z Z.heap w_HAS_LABEL "com/example/edgeprobe/edgeprobe/gremlin/GremlinStep" ∧ Sta Z Z.heap "com/example/edgeprobe/edgeprobe/gremlin/GremlinStep" "HAS_NOT" "Lcom/example/edgeprobe/edgeprobe/gremlin/GremlinStep;" (.ref w_HAS_NOT) ∧ Exa Z Z.heap w_HAS_NOT "com/example/edgeprobe/edgeprobe/gremlin/GremlinStep" ∧ Sta Z Z.heap "com/example/edgeprobe/edgeprobe/gremlin/GremlinStep" "WHERE" "Lcom/example/edgeprobe/edgeprobe/gremlin/GremlinStep;" (.ref w_WHERE) ∧ Exa Z Z.heap w_WHERE "com/example/edgeprobe/edgeprobe/gremlin/GremlinStep" ∧ Sta Z Z.heap "com/example/edgeprobe/edgeprobe/gremlin/GremlinStep" "NOT" "Lcom/example/edgeprobe/edgeprobe/gremlin/GremlinStep;" (.ref w_NOT) ∧ Exa Z Z.heap w_NOT "com/example/edgeprobe/edgeprobe/gremlin/GremlinStep" ∧ Sta Z Z.heap "com/example/edgeprobe/edgeprobe/gremlin/GremlinStep" "AND" "Lcom/example/edgeprobe/edgeprobe/gremlin/GremlinStep;" (.ref w_AND) ∧ Exa Z Z.heap w_AND "com/example/edgeprobe/edgeprobe/gremlin/GremlinStep" ∧ Sta Z Z.heap "com/example/edgeprobe/edgeprobe/gremlin/GremlinStep" "OR" "Lcom/example/edgeprobe/edgeprobe/gremlin/GremlinStep;" (.ref w_OR) ∧ Exa Z Z.heap w_OR "com/example/edgeprobe/edgeprobe/gremlin/GremlinStep" ∧ Sta Z Z.heap "com/example/edgeprobe/edgeprobe/gremlin/GremlinStep" "ORDER" "Lcom/example/edgeprobe/edgeprobe/gremlin/GremlinStep;" (.ref w_ORDER) ∧ Exa Z Z.heap w_ORDER "com/example/edgeprobe/edgeprobe/gremlin/GremlinStep" ∧ Sta Z Z.heap "com/example/edgeprobe/edgeprobe/gremlin/GremlinStep" "VALUES" "Lcom/example/edgeprobe/edgeprobe/gremlin/GremlinStep;" (.ref w_VALUES) ∧ Exa Z Z.heap w_VALUES "com/example/edgeprobe/edgeprobe/gremlin/GremlinStep" ∧ Sta Z Z.heap "com/example/edgeprobe/edgeprobe/gremlin/GremlinStep" "ID" "Lcom/example/edgeprobe/edgeprobe/gremlin/GremlinStep;" (.ref w_ID) ∧ Exa Z Z.heap w_ID "com/example/edgeprobe/edgeprobe/gremlin/GremlinStep" ∧ Sta Z Z.heap "com/example/edgeprobe/edgeprobe/gremlin/GremlinStep" "LABEL" "Lcom/example/edgeprobe/edgeprobe/gremlin/GremlinStep;" (.ref w_LABEL) ∧ Exa Z Z.heap w_LABEL "com/example/edgeprobe/edgeprobe/gremlin/GremlinStep" ∧ Sta Z Z.heap "com/example/edgeprobe/edgeprobe/gremlin/GremlinStep" "COUNT" "Lcom/example/edgeprobe/edgeprobe/gremlin/GremlinStep;" (.ref w_COUNT) ∧ Exa Z Z.heap w_COUNT "com/example/edgeprobe/edgeprobe/gremlin/GremlinStep" ∧ Sta Z Z.heap "com/example/edgeprobe/edgeprobe/gremlin/GremlinStep" "SUM" "Lcom/example/edgeprobe/edgeprobe/gremlin/GremlinStep;" (.ref w_SUM) ∧ Exa Z Z.heap w_SUM "com/example/edgeprobe/edgeprobe/gremlin/GremlinStep" ∧ Sta Z Z.heap "com/example/edgeprobe/edgeprobe/gremlin/GremlinStep" "MEAN" "Lcom/example/edgeprobe/edgeprobe/gremlin/GremlinStep;" (.ref w_MEAN) ∧ Exa Z Z.heap w_MEAN "com/example/edgeprobe/edgeprobe/gremlin/GremlinStep" ∧ Sta Z Z.heap "com/example/edgeprobe/edgeprobe/gremlin/GremlinStep" "MIN" "Lcom/example/edgeprobe/edgeprobe/gremlin/GremlinStep;" (.ref w_MIN) ∧ Exa Z Z.heap w_MIN "com/example/edgeprobe/edgeprobe/gremlin/GremlinStep" ∧ Sta Z Z.heap "com/example/edgeprobe/edgeprobe/gremlin/GremlinStep" "MAX" "Lcom/example/edgeprobe/edgeprobe/gremlin/GremlinStep;" (.ref w_MAX) ∧ Exa Z Z.heap w_MAX "com/example/edgeprobe/edgeprobe/gremlin/GremlinStep" ∧ Sta Z Z.heap "com/example/edgeprobe/edgeprobe/engine/EngineValues$Kind" "EDGE" "Lcom/example/edgeprobe/edgeprobe/engine/EngineValues$Kind;" (.ref w_EDGE) ∧ Exa Z Z.heap w_EDGE "com/example/edgeprobe/edgeprobe/engine/EngineValues$Kind" ∧ Sta Z Z.heap "com/example/edgeprobe/edgeprobe/engine/EngineValues$Kind" "VERTEX" "Lcom/example/edgeprobe/edgeprobe/engine/EngineValues$Kind;" (.ref w_VERTEX) ∧ Exa Z Z.heap w_VERTEX "com/example/edgeprobe/edgeprobe/engine/EngineValues$Kind" ∧ Fld Z Z.heap w_V "com/example/edgeprobe/edgeprobe/gremlin/GremlinStep" "from" "Lcom/example/edgeprobe/edgeprobe/engine/EngineValues$Kind;" .null ∧ Fld Z Z.heap w_WHERE "com/example/edgeprobe/edgeprobe/gremlin/GremlinStep" "from" "Lcom/example/edgeprobe/edgeprobe/engine/EngineValues$Kind;" .null ∧ Fld Z Z.heap w_OUT_E "com/example/edgeprobe/edgeprobe/gremlin/GremlinStep" "from" "Lcom/example/edgeprobe/edgeprobe/engine/EngineValues$Kind;" (.ref w_VERTEX) ∧ Fld Z Z.heap w_HAS_NOT "com/example/edgeprobe/edgeprobe/gremlin/GremlinStep" "from" "Lcom/example/edgeprobe/edgeprobe/engine/EngineValues$Kind;" .null ∧ Fld Z Z.heap w_VALUES "com/example/edgeprobe/edgeprobe/gremlin/GremlinStep" "from" "Lcom/example/edgeprobe/edgeprobe/engine/EngineValues$Kind;" .null ∧ Fld Z Z.heap w_IN_E "com/example/edgeprobe/edgeprobe/gremlin/GremlinStep" "from" "Lcom/example/edgeprobe/edgeprobe/engine/EngineValues$Kind;" (.ref w_VERTEX) ∧ Fld Z Z.heap w_OUT_V "com/example/edgeprobe/edgeprobe/gremlin/GremlinStep" "from" "Lcom/example/edgeprobe/edgeprobe/engine/EngineValues$Kind;" (.ref w_EDGE) ∧ Fld Z Z.heap w_HAS_LABEL "com/example/edgeprobe/edgeprobe/gremlin/GremlinStep" "from" "Lcom/example/edgeprobe/edgeprobe/engine/EngineValues$Kind;" .null ∧ Fld Z Z.heap w_HAS "com/example/edgeprobe/edgeprobe/gremlin/GremlinStep" "from" "Lcom/example/edgeprobe/edgeprobe/engine/EngineValues$Kind;" .null ∧ Fld Z Z.heap w_EDGE "java/lang/Enum" "ordinal" "I" (.int (1 : Int32)) ∧ Fld Z Z.heap w_VERTEX "java/lang/Enum" "ordinal" "I" (.int (0 : Int32)) ∧ Fld Z Z.heap w_IN "com/example/edgeprobe/edgeprobe/gremlin/GremlinStep" "from" "Lcom/example/edgeprobe/edgeprobe/engine/EngineValues$Kind;" (.ref w_VERTEX) ∧ Fld Z Z.heap w_MEAN "com/example/edgeprobe/edgeprobe/gremlin/GremlinStep" "from" "Lcom/example/edgeprobe/edgeprobe/engine/EngineValues$Kind;" .null ∧ Fld Z Z.heap w_ORDER "com/example/edgeprobe/edgeprobe/gremlin/GremlinStep" "from" "Lcom/example/edgeprobe/edgeprobe/engine/EngineValues$Kind;" .null ∧ Fld Z Z.heap w_BOTH_V "com/example/edgeprobe/edgeprobe/gremlin/GremlinStep" "from" "Lcom/example/edgeprobe/edgeprobe/engine/EngineValues$Kind;" (.ref w_EDGE) ∧ Fld Z Z.heap w_E "com/example/edgeprobe/edgeprobe/gremlin/GremlinStep" "from" "Lcom/example/edgeprobe/edgeprobe/engine/EngineValues$Kind;" .null ∧ Fld Z Z.heap w_NOT "com/example/edgeprobe/edgeprobe/gremlin/GremlinStep" "from" "Lcom/example/edgeprobe/edgeprobe/engine/EngineValues$Kind;" .null ∧ Fld Z Z.heap w_OUT "com/example/edgeprobe/edgeprobe/gremlin/GremlinStep" "from" "Lcom/example/edgeprobe/edgeprobe/engine/EngineValues$Kind;" (.ref w_VERTEX) ∧ Fld Z Z.heap w_COUNT "com/example/edgeprobe/edgeprobe/gremlin/GremlinStep" "from" "Lcom/example/edgeprobe/edgeprobe/engine/EngineValues$Kind;" .null ∧ Fld Z Z.heap w_BOTH_E "com/example/edgeprobe/edgeprobe/gremlin/GremlinStep" "from" "Lcom/example/edgeprobe/edgeprobe/engine/EngineValues$Kind;" (.ref w_VERTEX) ∧ Fld Z Z.heap w_MIN "com/example/edgeprobe/edgeprobe/gremlin/GremlinStep" "from" "Lcom/example/edgeprobe/edgeprobe/engine/EngineValues$Kind;" .null ∧ Fld Z Z.heap w_MAX "com/example/edgeprobe/edgeprobe/gremlin/GremlinStep" "from" "Lcom/example/edgeprobe/edgeprobe/engine/EngineValues$Kind;" .null ∧ Fld Z Z.heap w_IN_V "com/example/edgeprobe/edgeprobe/gremlin/GremlinStep" "from" "Lcom/example/edgeprobe/edgeprobe/engine/EngineValues$Kind;" (.ref w_EDGE) ∧ Fld Z Z.heap w_BOTH "com/example/edgeprobe/edgeprobe/gremlin/GremlinStep" "from" "Lcom/example/edgeprobe/edgeprobe/engine/EngineValues$Kind;" (.ref w_VERTEX) ∧ Fld Z Z.heap w_OR "com/example/edgeprobe/edgeprobe/gremlin/GremlinStep" "from" "Lcom/example/edgeprobe/edgeprobe/engine/EngineValues$Kind;" .null ∧ Fld Z Z.heap w_LABEL "com/example/edgeprobe/edgeprobe/gremlin/GremlinStep" "from" "Lcom/example/edgeprobe/edgeprobe/engine/EngineValues$Kind;" .null ∧ Fld Z Z.heap w_ID "com/example/edgeprobe/edgeprobe/gremlin/GremlinStep" "from" "Lcom/example/edgeprobe/edgeprobe/engine/EngineValues$Kind;" .null ∧ Fld Z Z.heap w_AND "com/example/edgeprobe/edgeprobe/gremlin/GremlinStep" "from" "Lcom/example/edgeprobe/edgeprobe/engine/EngineValues$Kind;" .null ∧ Fld Z Z.heap w_SUM "com/example/edgeprobe/edgeprobe/gremlin/GremlinStep" "from" "Lcom/example/edgeprobe/edgeprobe/engine/EngineValues$Kind;" .null
theorem d1_0 : decode prog_115_method_6_code 0 = .ok (.aload_n 0, 1) := by decide +kernel
theorem d1_1 : decode prog_115_method_6_code 1 = .ok (.getfield 112, 3) := by decide +kernel
theorem d1_4 : decode prog_115_method_6_code 4 = .ok (.ifnull 11, 3) := by decide +kernel
theorem d1_15 : decode prog_115_method_6_code 15 = .ok (.iconst 1, 1) := by decide +kernel
theorem d1_16 : decode prog_115_method_6_code 16 = .ok (.goto 4, 3) := by decide +kernel
theorem d1_20 : decode prog_115_method_6_code 20 = .ok (.ireturn, 1) := by decide +kernel
theorem ef_1 (m : MethodId) (r0 : Addr) (r1 : Addr) : entryFrame m #[(.ref r0), (.ref r1)] 2 = mkF m 0 #[oA r0, oA r1] [] := by first | (simp [entryFrame, mkF, argsToLocals, Value.category]; done) | rfl
theorem pn_0 : plainName "com/example/edgeprobe/edgeprobe/gremlin/GremlinStep" = true := by first | (simp [plainName, overriddenIn]; done) | decide +kernel
theorem d1_7 : decode prog_115_method_6_code 7 = .ok (.aload_n 0, 1) := by decide +kernel
theorem d1_8 : decode prog_115_method_6_code 8 = .ok (.getfield 112, 3) := by decide +kernel
theorem d1_11 : decode prog_115_method_6_code 11 = .ok (.aload_n 1, 1) := by decide +kernel
theorem d1_12 : decode prog_115_method_6_code 12 = .ok (.if_acmp .ne 7, 3) := by decide +kernel
theorem d1_19 : decode prog_115_method_6_code 19 = .ok (.iconst 0, 1) := by decide +kernel
theorem pd_0 : parseMethodDescriptor "(Lcom/example/edgeprobe/edgeprobe/engine/EngineValues$Kind;)Z" = some ⟨[(.object "com/example/edgeprobe/edgeprobe/engine/EngineValues$Kind")], some .boolean⟩ := by decide +kernel
theorem ef_0 (m : MethodId) (x0 : Int32) (x1 : Int32) : entryFrame m #[(.int x0), (.int x1)] maxLocals = mkF m 0 #[oI x0, oI x1, oU, oU, oU, oU] [] := by first | (simp [entryFrame, mkF, argsToLocals, Value.category, maxLocals]; done) | rfl
theorem pn_1 : plainName "com/example/edgeprobe/edgeprobe/gremlin/GremlinStepTakesPinLaw" = true := by first | (simp [plainName, overriddenIn]; done) | decide +kernel
set_option maxRecDepth 65536 in
set_option maxHeartbeats 40000000 in
theorem rm1_1 (l : Launch) (Z : State) (a0 : Array Value) (hw : ∀ d ∈ tables_1, d.before a0 Z = true) (ws : List Jvm.Cond) (w_V w_E w_OUT w_IN w_BOTH w_OUT_E w_IN_E w_BOTH_E w_OUT_V w_IN_V w_BOTH_V w_HAS w_HAS_LABEL w_HAS_NOT w_WHERE w_NOT w_AND w_OR w_ORDER w_VALUES w_ID w_LABEL w_COUNT w_SUM w_MEAN w_MIN w_MAX w_EDGE w_VERTEX : Addr) (W : own_W Z w_V w_E w_OUT w_IN w_BOTH w_OUT_E w_IN_E w_BOTH_E w_OUT_V w_IN_V w_BOTH_V w_HAS w_HAS_LABEL w_HAS_NOT w_WHERE w_NOT w_AND w_OR w_ORDER w_VALUES w_ID w_LABEL w_COUNT w_SUM w_MEAN w_MIN w_MAX w_EDGE w_VERTEX) (r0 : Addr) (r1 : Addr) (h0 : Heap) (n0 : Nat) (O0 : Old Z n0 h0) (F_from_r0 : Fld Z h0 r0 "com/example/edgeprobe/edgeprobe/gremlin/GremlinStep" "from" "Lcom/example/edgeprobe/edgeprobe/engine/EngineValues$Kind;" .null) :
    MetFree l (⟨"com/example/edgeprobe/edgeprobe/gremlin/GremlinStep", "takes", "(Lcom/example/edgeprobe/edgeprobe/engine/EngineValues$Kind;)Z"⟩ : MethodName) (head1 (Jvm.Cond.code (⟨"com/example/edgeprobe/edgeprobe/gremlin/GremlinStep", "takes", "(Lcom/example/edgeprobe/edgeprobe/engine/EngineValues$Kind;)Z"⟩ : MethodName) prog_115_method_6_code 2 (some .boolean) :: ws) ({ frames := 0, cells := 0, slots := 0, locals := 0 } : Room)) (fun a U => a = #[(.ref r0), (.ref r1)] ∧ Z.Warmed39 U.vm ∧ U.heap = h0) (fun _ _ _ _ _ => True) (fun _ U o U' => ∃ v L, o = .returned v ∧ own_Q (some (.int (1 : Int32))) n0 h0 v U'.heap L ∧ FrameEnd U o U' L ({ frames := 0, cells := 0, slots := 0, locals := 0 } : Room).cells ({ frames := 0, cells := 0, slots := 0, locals := 0 } : Room).slots) := by
  refine MetFree.of_bodySF (plainFor_of_name pn_0) hisR ?_
  intro p e s m args below meth c s₁ Bd hml0 hP hK
  obtain ⟨rfl, hZ, hh⟩ := hP
  have hx := Bd.exec
  have hby := Bd.bytes
  have hml : c.maxLocals = 2 := hml0
  have hlk := BodyLoose.notSynchronized Bd
  have hret := Bd.returns
  have hown : s.vm.findClass "com/example/edgeprobe/edgeprobe/gremlin/GremlinStep" = some m.cls := findClass_of_methodNamed Bd.named
  have hnm := (name_of_methodNamed Bd.named Bd.method).1
  have X0 : Stand p l e ({ frames := 0, cells := 0, slots := 0, locals := 0 } : Room) s m #[(.ref r0), (.ref r1)] below meth c s₁ [] 0 0 := Stand.of_body Bd
  have e0 : s₁.heap = h0 := by rw [← hh, Bd.state]; rfl
  have N0 := Fr.nil n0
  rw [ef_1 m r0 r1]
  show Go p e below _ (s₁.setTop (mkF m 0 #[oA r0, oA r1] []))
  refine own_aload_n 1 X0 hx hby d1_0 rfl rfl rfl ?_
  refine own_getF 4 X0 hx hby hZ hown (own_w hw 67 rfl) e0 F_from_r0 d1_1 rfl ?_
  intro T59 X59 e59
  refine own_nullY 15 X59 hx hby d1_4 (by decide) (by decide) ?_
  refine own_iconst 16 (1 : Int32) X59 hx hby d1_15 rfl (by decide) ?_
  refine own_goto 20 X59 hx hby d1_16 (by decide) (by decide) ?_
  exact own_ret (Q := own_Q _ n0 h0) X59 hx hby hret hlk d1_20 rfl (Or.inl ⟨rfl, by simp, _, rfl⟩) (by decide) (by decide) ⟨rfl, N0, e59⟩
set_option maxRecDepth 65536 in
set_option maxHeartbeats 40000000 in
theorem rm1_2 (l : Launch) (Z : State) (a0 : Array Value) (hw : ∀ d ∈ tables_1, d.before a0 Z = true) (ws : List Jvm.Cond) (w_V w_E w_OUT w_IN w_BOTH w_OUT_E w_IN_E w_BOTH_E w_OUT_V w_IN_V w_BOTH_V w_HAS w_HAS_LABEL w_HAS_NOT w_WHERE w_NOT w_AND w_OR w_ORDER w_VALUES w_ID w_LABEL w_COUNT w_SUM w_MEAN w_MIN w_MAX w_EDGE w_VERTEX : Addr) (W : own_W Z w_V w_E w_OUT w_IN w_BOTH w_OUT_E w_IN_E w_BOTH_E w_OUT_V w_IN_V w_BOTH_V w_HAS w_HAS_LABEL w_HAS_NOT w_WHERE w_NOT w_AND w_OR w_ORDER w_VALUES w_ID w_LABEL w_COUNT w_SUM w_MEAN w_MIN w_MAX w_EDGE w_VERTEX) (r0 : Addr) (r1 : Addr) (f_from_r0 : Addr) (h0 : Heap) (n0 : Nat) (O0 : Old Z n0 h0) (F_from_r0 : Fld Z h0 r0 "com/example/edgeprobe/edgeprobe/gremlin/GremlinStep" "from" "Lcom/example/edgeprobe/edgeprobe/engine/EngineValues$Kind;" (.ref f_from_r0)) (hc62 : f_from_r0 = r1) :
    MetFree l (⟨"com/example/edgeprobe/edgeprobe/gremlin/GremlinStep", "takes", "(Lcom/example/edgeprobe/edgeprobe/engine/EngineValues$Kind;)Z"⟩ : MethodName) (head1 (Jvm.Cond.code (⟨"com/example/edgeprobe/edgeprobe/gremlin/GremlinStep", "takes", "(Lcom/example/edgeprobe/edgeprobe/engine/EngineValues$Kind;)Z"⟩ : MethodName) prog_115_method_6_code 2 (some .boolean) :: ws) ({ frames := 0, cells := 0, slots := 0, locals := 0 } : Room)) (fun a U => a = #[(.ref r0), (.ref r1)] ∧ Z.Warmed39 U.vm ∧ U.heap = h0) (fun _ _ _ _ _ => True) (fun _ U o U' => ∃ v L, o = .returned v ∧ own_Q (some (.int (1 : Int32))) n0 h0 v U'.heap L ∧ FrameEnd U o U' L ({ frames := 0, cells := 0, slots := 0, locals := 0 } : Room).cells ({ frames := 0, cells := 0, slots := 0, locals := 0 } : Room).slots) := by
  refine MetFree.of_bodySF (plainFor_of_name pn_0) hisR ?_
  intro p e s m args below meth c s₁ Bd hml0 hP hK
  obtain ⟨rfl, hZ, hh⟩ := hP
  have hx := Bd.exec
  have hby := Bd.bytes
  have hml : c.maxLocals = 2 := hml0
  have hlk := BodyLoose.notSynchronized Bd
  have hret := Bd.returns
  have hown : s.vm.findClass "com/example/edgeprobe/edgeprobe/gremlin/GremlinStep" = some m.cls := findClass_of_methodNamed Bd.named
  have hnm := (name_of_methodNamed Bd.named Bd.method).1
  have X0 : Stand p l e ({ frames := 0, cells := 0, slots := 0, locals := 0 } : Room) s m #[(.ref r0), (.ref r1)] below meth c s₁ [] 0 0 := Stand.of_body Bd
  have e0 : s₁.heap = h0 := by rw [← hh, Bd.state]; rfl
  have N0 := Fr.nil n0
  rw [ef_1 m r0 r1]
  show Go p e below _ (s₁.setTop (mkF m 0 #[oA r0, oA r1] []))
  refine own_aload_n 1 X0 hx hby d1_0 rfl rfl rfl ?_
  refine own_getF 4 X0 hx hby hZ hown (own_w hw 67 rfl) e0 F_from_r0 d1_1 rfl ?_
  intro T60 X60 e60
  refine own_nullN 7 X60 hx hby d1_4 rfl ?_
  refine own_aload_n 8 X60 hx hby d1_7 rfl rfl rfl ?_
  refine own_getF 11 X60 hx hby hZ hown (own_w hw 67 rfl) e60 F_from_r0 d1_8 rfl ?_
  intro T61 X61 e61
  refine own_aload_n 12 X61 hx hby d1_11 rfl rfl rfl ?_
  refine own_acmp 15 true X61 hx hby d1_12 rfl rfl (by decide) (by decide) (decide_eq_true (congrArg Value.ref hc62)) ?_
  refine own_iconst 16 (1 : Int32) X61 hx hby d1_15 rfl (by decide) ?_
  refine own_goto 20 X61 hx hby d1_16 (by decide) (by decide) ?_
  exact own_ret (Q := own_Q _ n0 h0) X61 hx hby hret hlk d1_20 rfl (Or.inl ⟨rfl, by simp, _, rfl⟩) (by decide) (by decide) ⟨rfl, N0, e61⟩
set_option maxRecDepth 65536 in
set_option maxHeartbeats 40000000 in
theorem rm1_3 (l : Launch) (Z : State) (a0 : Array Value) (hw : ∀ d ∈ tables_1, d.before a0 Z = true) (ws : List Jvm.Cond) (w_V w_E w_OUT w_IN w_BOTH w_OUT_E w_IN_E w_BOTH_E w_OUT_V w_IN_V w_BOTH_V w_HAS w_HAS_LABEL w_HAS_NOT w_WHERE w_NOT w_AND w_OR w_ORDER w_VALUES w_ID w_LABEL w_COUNT w_SUM w_MEAN w_MIN w_MAX w_EDGE w_VERTEX : Addr) (W : own_W Z w_V w_E w_OUT w_IN w_BOTH w_OUT_E w_IN_E w_BOTH_E w_OUT_V w_IN_V w_BOTH_V w_HAS w_HAS_LABEL w_HAS_NOT w_WHERE w_NOT w_AND w_OR w_ORDER w_VALUES w_ID w_LABEL w_COUNT w_SUM w_MEAN w_MIN w_MAX w_EDGE w_VERTEX) (r0 : Addr) (r1 : Addr) (f_from_r0 : Addr) (h0 : Heap) (n0 : Nat) (O0 : Old Z n0 h0) (F_from_r0 : Fld Z h0 r0 "com/example/edgeprobe/edgeprobe/gremlin/GremlinStep" "from" "Lcom/example/edgeprobe/edgeprobe/engine/EngineValues$Kind;" (.ref f_from_r0)) (hc62 : ¬ (f_from_r0 = r1)) :
    MetFree l (⟨"com/example/edgeprobe/edgeprobe/gremlin/GremlinStep", "takes", "(Lcom/example/edgeprobe/edgeprobe/engine/EngineValues$Kind;)Z"⟩ : MethodName) (head1 (Jvm.Cond.code (⟨"com/example/edgeprobe/edgeprobe/gremlin/GremlinStep", "takes", "(Lcom/example/edgeprobe/edgeprobe/engine/EngineValues$Kind;)Z"⟩ : MethodName) prog_115_method_6_code 2 (some .boolean) :: ws) ({ frames := 0, cells := 0, slots := 0, locals := 0 } : Room)) (fun a U => a = #[(.ref r0), (.ref r1)] ∧ Z.Warmed39 U.vm ∧ U.heap = h0) (fun _ _ _ _ _ => True) (fun _ U o U' => ∃ v L, o = .returned v ∧ own_Q (some (.int (0 : Int32))) n0 h0 v U'.heap L ∧ FrameEnd U o U' L ({ frames := 0, cells := 0, slots := 0, locals := 0 } : Room).cells ({ frames := 0, cells := 0, slots := 0, locals := 0 } : Room).slots) := by
  refine MetFree.of_bodySF (plainFor_of_name pn_0) hisR ?_
  intro p e s m args below meth c s₁ Bd hml0 hP hK
  obtain ⟨rfl, hZ, hh⟩ := hP
  have hx := Bd.exec
  have hby := Bd.bytes
  have hml : c.maxLocals = 2 := hml0
  have hlk := BodyLoose.notSynchronized Bd
  have hret := Bd.returns
  have hown : s.vm.findClass "com/example/edgeprobe/edgeprobe/gremlin/GremlinStep" = some m.cls := findClass_of_methodNamed Bd.named
  have hnm := (name_of_methodNamed Bd.named Bd.method).1
  have X0 : Stand p l e ({ frames := 0, cells := 0, slots := 0, locals := 0 } : Room) s m #[(.ref r0), (.ref r1)] below meth c s₁ [] 0 0 := Stand.of_body Bd
  have e0 : s₁.heap = h0 := by rw [← hh, Bd.state]; rfl
  have N0 := Fr.nil n0
  rw [ef_1 m r0 r1]
  show Go p e below _ (s₁.setTop (mkF m 0 #[oA r0, oA r1] []))
  refine own_aload_n 1 X0 hx hby d1_0 rfl rfl rfl ?_
  refine own_getF 4 X0 hx hby hZ hown (own_w hw 67 rfl) e0 F_from_r0 d1_1 rfl ?_
  intro T60 X60 e60
  refine own_nullN 7 X60 hx hby d1_4 rfl ?_
  refine own_aload_n 8 X60 hx hby d1_7 rfl rfl rfl ?_
  refine own_getF 11 X60 hx hby hZ hown (own_w hw 67 rfl) e60 F_from_r0 d1_8 rfl ?_
  intro T61 X61 e61
  refine own_aload_n 12 X61 hx hby d1_11 rfl rfl rfl ?_
  refine own_acmp 19 false X61 hx hby d1_12 rfl rfl (by decide) (by decide) (decide_eq_false fun q => hc62 (Value.ref.inj q)) ?_
  refine own_iconst 20 (0 : Int32) X61 hx hby d1_19 rfl (by decide) ?_
  exact own_ret (Q := own_Q _ n0 h0) X61 hx hby hret hlk d1_20 rfl (Or.inl ⟨rfl, by simp, _, rfl⟩) (by decide) (by decide) ⟨rfl, N0, e61⟩
set_option maxRecDepth 65536 in
set_option maxHeartbeats 40000000 in
theorem rm0 (l : Launch) (Z : State) (a0 : Array Value) (hw : ∀ d ∈ tables_1, d.before a0 Z = true) (ws : List Jvm.Cond) (w_V w_E w_OUT w_IN w_BOTH w_OUT_E w_IN_E w_BOTH_E w_OUT_V w_IN_V w_BOTH_V w_HAS w_HAS_LABEL w_HAS_NOT w_WHERE w_NOT w_AND w_OR w_ORDER w_VALUES w_ID w_LABEL w_COUNT w_SUM w_MEAN w_MIN w_MAX w_EDGE w_VERTEX : Addr) (W : own_W Z w_V w_E w_OUT w_IN w_BOTH w_OUT_E w_IN_E w_BOTH_E w_OUT_V w_IN_V w_BOTH_V w_HAS w_HAS_LABEL w_HAS_NOT w_WHERE w_NOT w_AND w_OR w_ORDER w_VALUES w_ID w_LABEL w_COUNT w_SUM w_MEAN w_MIN w_MAX w_EDGE w_VERTEX) (x0 : Int32) (x1 : Int32) (h0 : Heap) (n0 : Nat) (O0 : Old Z n0 h0)  :
    MetFree l x (head1 (Jvm.Cond.code x code maxLocals ret :: ws) room_1) (fun a U => a = #[(.int x0), (.int x1)] ∧ Z.Warmed39 U.vm ∧ U.heap = h0) (fun _ _ _ _ _ => True) (fun _ U o U' => ∃ v L, o = .returned v ∧ own_Q1 n0 v U'.heap L ∧ FrameEnd U o U' L 16 128) := by
  refine MetFree.of_bodySF (plainFor_of_name pn_1) hisR ?_
  intro p e s m args below meth c s₁ Bd hml0 hP hK
  obtain ⟨rfl, hZ, hh⟩ := hP
  have hx := Bd.exec
  have hby := Bd.bytes
  have hml : c.maxLocals = 6 := hml0
  have hlk := BodyLoose.notSynchronized Bd
  have hret := Bd.returns
  have hown : s.vm.findClass "com/example/edgeprobe/edgeprobe/gremlin/GremlinStepTakesPinLaw" = some m.cls := findClass_of_methodNamed Bd.named
  have hnm := (name_of_methodNamed Bd.named Bd.method).1
  have X0 : Stand p l e room_1 s m #[(.int x0), (.int x1)] below meth c s₁ [] 0 0 := Stand.of_body Bd
  have e0 : s₁.heap = h0 := by rw [← hh, Bd.state]; rfl
  have N0 := Fr.nil n0
  rw [ef_0 m x0 x1]
  show Go p e below _ (s₁.setTop (mkF m 0 #[oI x0, oI x1, oU, oU, oU, oU] []))
  refine own_bipush 2 (27 : Int32) X0 hx hby at_0 rfl (by decide) ?_
  refine own_newR 5 27 X0 hx hby hZ hown (own_w hw 0 rfl) (own_w hw 1 rfl) e0 at_2 rfl (by decide) (by decide) (by decide) (by decide) (by decide) ?_
  intro T1 h1 k1 b1 X1 e1 E1 g1 V1 O_1
  have V1 : Arv Z h1 b1 k1 (.object "com/example/edgeprobe/edgeprobe/gremlin/GremlinStep") (27 : Int32) [.null, .null, .null, .null, .null, .null, .null, .null, .null, .null, .null, .null, .null, .null, .null, .null, .null, .null, .null, .null, .null, .null, .null, .null, .null, .null, .null] .null := V1
  have n_b1 : n0 ≤ b1 := Nat.le_trans (own_n0 O0) (Nat.le_of_eq g1.symm)
  have O1 := O0.ext E1
  show Go p e below _ (T1.setTop (mkF m 5 _ [(.ref b1)]))
  refine own_dup 6 X1 hx hby at_5 rfl rfl ?_
  refine own_iconst 7 (0 : Int32) X1 hx hby at_6 rfl (by decide) ?_
  refine own_getS 10 X1 hx hby hZ hown (own_w hw 2 rfl) e1 (W.1.ext O1.2) at_7 rfl ?_
  intro T2 X2 e2
  refine own_stR 11 0 X2 hx hby hZ e2 V1 O_1 (Ins.self (W.2.1.ext O1.2)) at_10 rfl (by decide) (by decide) (Nat.le_of_ble_eq_true rfl) ?_
  intro T3 h3 X3 e3 W3 V3
  have V3 : Arv Z h3 b1 k1 (.object "com/example/edgeprobe/edgeprobe/gremlin/GremlinStep") (27 : Int32) [(.ref w_V), .null, .null, .null, .null, .null, .null, .null, .null, .null, .null, .null, .null, .null, .null, .null, .null, .null, .null, .null, .null, .null, .null, .null, .null, .null, .null] .null := V3
  have N3 := Fr.snoc X3 N0 n_b1
  have O3 := O1.wr W3 n_b1
  refine own_dup 12 X3 hx hby at_11 rfl rfl ?_
  refine own_iconst 13 (1 : Int32) X3 hx hby at_12 rfl (by decide) ?_
  refine own_getS 16 X3 hx hby hZ hown (own_w hw 6 rfl) e3 (W.2.2.1.ext O3.2) at_13 rfl ?_
  intro T4 X4 e4
  refine own_stR 17 1 X4 hx hby hZ e4 V3 O_1 (Ins.self (W.2.2.2.1.ext O3.2)) at_16 rfl (by decide) (by decide) (Nat.le_of_ble_eq_true rfl) ?_
  intro T5 h5 X5 e5 W5 V5
  have V5 : Arv Z h5 b1 k1 (.object "com/example/edgeprobe/edgeprobe/gremlin/GremlinStep") (27 : Int32) [(.ref w_V), (.ref w_E), .null, .null, .null, .null, .null, .null, .null, .null, .null, .null, .null, .null, .null, .null, .null, .null, .null, .null, .null, .null, .null, .null, .null, .null, .null] .null := V5
  have N5 := Fr.snoc X5 N3 n_b1
  have O5 := O3.wr W5 n_b1
  refine own_dup 18 X5 hx hby at_17 rfl rfl ?_
  refine own_iconst 19 (2 : Int32) X5 hx hby at_18 rfl (by decide) ?_
  refine own_getS 22 X5 hx hby hZ hown (own_w hw 8 rfl) e5 (W.2.2.2.2.1.ext O5.2) at_19 rfl ?_
  intro T6 X6 e6
  refine own_stR 23 2 X6 hx hby hZ e6 V5 O_1 (Ins.self (W.2.2.2.2.2.1.ext O5.2)) at_22 rfl (by decide) (by decide) (Nat.le_of_ble_eq_true rfl) ?_
  intro T7 h7 X7 e7 W7 V7
  have V7 : Arv Z h7 b1 k1 (.object "com/example/edgeprobe/edgeprobe/gremlin/GremlinStep") (27 : Int32) [(.ref w_V), (.ref w_E), (.ref w_OUT), .null, .null, .null, .null, .null, .null, .null, .null, .null, .null, .null, .null, .null, .null, .null, .null, .null, .null, .null, .null, .null, .null, .null, .null] .null := V7
  have N7 := Fr.snoc X7 N5 n_b1
  have O7 := O5.wr W7 n_b1
  refine own_dup 24 X7 hx hby at_23 rfl rfl ?_
  refine own_iconst 25 (3 : Int32) X7 hx hby at_24 rfl (by decide) ?_
  refine own_getS 28 X7 hx hby hZ hown (own_w hw 10 rfl) e7 (W.2.2.2.2.2.2.1.ext O7.2) at_25 rfl ?_
  intro T8 X8 e8
  refine own_stR 29 3 X8 hx hby hZ e8 V7 O_1 (Ins.self (W.2.2.2.2.2.2.2.1.ext O7.2)) at_28 rfl (by decide) (by decide) (Nat.le_of_ble_eq_true rfl) ?_
  intro T9 h9 X9 e9 W9 V9
  have V9 : Arv Z h9 b1 k1 (.object "com/example/edgeprobe/edgeprobe/gremlin/GremlinStep") (27 : Int32) [(.ref w_V), (.ref w_E), (.ref w_OUT), (.ref w_IN), .null, .null, .null, .null, .null, .null, .null, .null, .null, .null, .null, .null, .null, .null, .null, .null, .null, .null, .null, .null, .null, .null, .null] .null := V9
  have N9 := Fr.snoc X9 N7 n_b1
  have O9 := O7.wr W9 n_b1
  refine own_dup 30 X9 hx hby at_29 rfl rfl ?_
  refine own_iconst 31 (4 : Int32) X9 hx hby at_30 rfl (by decide) ?_
  refine own_getS 34 X9 hx hby hZ hown (own_w hw 12 rfl) e9 (W.2.2.2.2.2.2.2.2.1.ext O9.2) at_31 rfl ?_
  intro T10 X10 e10
  refine own_stR 35 4 X10 hx hby hZ e10 V9 O_1 (Ins.self (W.2.2.2.2.2.2.2.2.2.1.ext O9.2)) at_34 rfl (by decide) (by decide) (Nat.le_of_ble_eq_true rfl) ?_
  intro T11 h11 X11 e11 W11 V11
  have V11 : Arv Z h11 b1 k1 (.object "com/example/edgeprobe/edgeprobe/gremlin/GremlinStep") (27 : Int32) [(.ref w_V), (.ref w_E), (.ref w_OUT), (.ref w_IN), (.ref w_BOTH), .null, .null, .null, .null, .null, .null, .null, .null, .null, .null, .null, .null, .null, .null, .null, .null, .null, .null, .null, .null, .null, .null] .null := V11
  have N11 := Fr.snoc X11 N9 n_b1
  have O11 := O9.wr W11 n_b1
  refine own_dup 36 X11 hx hby at_35 rfl rfl ?_
  refine own_iconst 37 (5 : Int32) X11 hx hby at_36 rfl (by decide) ?_
  refine own_getS 40 X11 hx hby hZ hown (own_w hw 14 rfl) e11 (W.2.2.2.2.2.2.2.2.2.2.1.ext O11.2) at_37 rfl ?_
  intro T12 X12 e12
  refine own_stR 41 5 X12 hx hby hZ e12 V11 O_1 (Ins.self (W.2.2.2.2.2.2.2.2.2.2.2.1.ext O11.2)) at_40 rfl (by decide) (by decide) (Nat.le_of_ble_eq_true rfl) ?_
  intro T13 h13 X13 e13 W13 V13
  have V13 : Arv Z h13 b1 k1 (.object "com/example/edgeprobe/edgeprobe/gremlin/GremlinStep") (27 : Int32) [(.ref w_V), (.ref w_E), (.ref w_OUT), (.ref w_IN), (.ref w_BOTH), (.ref w_OUT_E), .null, .null, .null, .null, .null, .null, .null, .null, .null, .null, .null, .null, .null, .null, .null, .null, .null, .null, .null, .null, .null] .null := V13
  have N13 := Fr.snoc X13 N11 n_b1
  have O13 := O11.wr W13 n_b1
  refine own_dup 42 X13 hx hby at_41 rfl rfl ?_
  refine own_bipush 44 (6 : Int32) X13 hx hby at_42 rfl (by decide) ?_
  refine own_getS 47 X13 hx hby hZ hown (own_w hw 16 rfl) e13 (W.2.2.2.2.2.2.2.2.2.2.2.2.1.ext O13.2) at_44 rfl ?_
  intro T14 X14 e14
  refine own_stR 48 6 X14 hx hby hZ e14 V13 O_1 (Ins.self (W.2.2.2.2.2.2.2.2.2.2.2.2.2.1.ext O13.2)) at_47 rfl (by decide) (by decide) (Nat.le_of_ble_eq_true rfl) ?_
  intro T15 h15 X15 e15 W15 V15
  have V15 : Arv Z h15 b1 k1 (.object "com/example/edgeprobe/edgeprobe/gremlin/GremlinStep") (27 : Int32) [(.ref w_V), (.ref w_E), (.ref w_OUT), (.ref w_IN), (.ref w_BOTH), (.ref w_OUT_E), (.ref w_IN_E), .null, .null, .null, .null, .null, .null, .null, .null, .null, .null, .null, .null, .null, .null, .null, .null, .null, .null, .null, .null] .null := V15
  have N15 := Fr.snoc X15 N13 n_b1
  have O15 := O13.wr W15 n_b1
  refine own_dup 49 X15 hx hby at_48 rfl rfl ?_
  refine own_bipush 51 (7 : Int32) X15 hx hby at_49 rfl (by decide) ?_
  refine own_getS 54 X15 hx hby hZ hown (own_w hw 18 rfl) e15 (W.2.2.2.2.2.2.2.2.2.2.2.2.2.2.1.ext O15.2) at_51 rfl ?_
  intro T16 X16 e16
  refine own_stR 55 7 X16 hx hby hZ e16 V15 O_1 (Ins.self (W.2.2.2.2.2.2.2.2.2.2.2.2.2.2.2.1.ext O15.2)) at_54 rfl (by decide) (by decide) (Nat.le_of_ble_eq_true rfl) ?_
  intro T17 h17 X17 e17 W17 V17
  have V17 : Arv Z h17 b1 k1 (.object "com/example/edgeprobe/edgeprobe/gremlin/GremlinStep") (27 : Int32) [(.ref w_V), (.ref w_E), (.ref w_OUT), (.ref w_IN), (.ref w_BOTH), (.ref w_OUT_E), (.ref w_IN_E), (.ref w_BOTH_E), .null, .null, .null, .null, .null, .null, .null, .null, .null, .null, .null, .null, .null, .null, .null, .null, .null, .null, .null] .null := V17
  have N17 := Fr.snoc X17 N15 n_b1
  have O17 := O15.wr W17 n_b1
  refine own_dup 56 X17 hx hby at_55 rfl rfl ?_
  refine own_bipush 58 (8 : Int32) X17 hx hby at_56 rfl (by decide) ?_
  refine own_getS 61 X17 hx hby hZ hown (own_w hw 20 rfl) e17 (W.2.2.2.2.2.2.2.2.2.2.2.2.2.2.2.2.1.ext O17.2) at_58 rfl ?_
  intro T18 X18 e18
  refine own_stR 62 8 X18 hx hby hZ e18 V17 O_1 (Ins.self (W.2.2.2.2.2.2.2.2.2.2.2.2.2.2.2.2.2.1.ext O17.2)) at_61 rfl (by decide) (by decide) (Nat.le_of_ble_eq_true rfl) ?_
  intro T19 h19 X19 e19 W19 V19
  have V19 : Arv Z h19 b1 k1 (.object "com/example/edgeprobe/edgeprobe/gremlin/GremlinStep") (27 : Int32) [(.ref w_V), (.ref w_E), (.ref w_OUT), (.ref w_IN), (.ref w_BOTH), (.ref w_OUT_E), (.ref w_IN_E), (.ref w_BOTH_E), (.ref w_OUT_V), .null, .null, .null, .null, .null, .null, .null, .null, .null, .null, .null, .null, .null, .null, .null, .null, .null, .null] .null := V19
  have N19 := Fr.snoc X19 N17 n_b1
  have O19 := O17.wr W19 n_b1
  refine own_dup 63 X19 hx hby at_62 rfl rfl ?_
  refine own_bipush 65 (9 : Int32) X19 hx hby at_63 rfl (by decide) ?_
  refine own_getS 68 X19 hx hby hZ hown (own_w hw 22 rfl) e19 (W.2.2.2.2.2.2.2.2.2.2.2.2.2.2.2.2.2.2.1.ext O19.2) at_65 rfl ?_
  intro T20 X20 e20
  refine own_stR 69 9 X20 hx hby hZ e20 V19 O_1 (Ins.self (W.2.2.2.2.2.2.2.2.2.2.2.2.2.2.2.2.2.2.2.1.ext O19.2)) at_68 rfl (by decide) (by decide) (Nat.le_of_ble_eq_true rfl) ?_
  intro T21 h21 X21 e21 W21 V21
  have V21 : Arv Z h21 b1 k1 (.object "com/example/edgeprobe/edgeprobe/gremlin/GremlinStep") (27 : Int32) [(.ref w_V), (.ref w_E), (.ref w_OUT), (.ref w_IN), (.ref w_BOTH), (.ref w_OUT_E), (.ref w_IN_E), (.ref w_BOTH_E), (.ref w_OUT_V), (.ref w_IN_V), .null, .null, .null, .null, .null, .null, .null, .null, .null, .null, .null, .null, .null, .null, .null, .null, .null] .null := V21
  have N21 := Fr.snoc X21 N19 n_b1
  have O21 := O19.wr W21 n_b1
  refine own_dup 70 X21 hx hby at_69 rfl rfl ?_
  refine own_bipush 72 (10 : Int32) X21 hx hby at_70 rfl (by decide) ?_
  refine own_getS 75 X21 hx hby hZ hown (own_w hw 24 rfl) e21 (W.2.2.2.2.2.2.2.2.2.2.2.2.2.2.2.2.2.2.2.2.1.ext O21.2) at_72 rfl ?_
  intro T22 X22 e22
  refine own_stR 76 10 X22 hx hby hZ e22 V21 O_1 (Ins.self (W.2.2.2.2.2.2.2.2.2.2.2.2.2.2.2.2.2.2.2.2.2.1.ext O21.2)) at_75 rfl (by decide) (by decide) (Nat.le_of_ble_eq_true rfl) ?_
  intro T23 h23 X23 e23 W23 V23
  have V23 : Arv Z h23 b1 k1 (.object "com/example/edgeprobe/edgeprobe/gremlin/GremlinStep") (27 : Int32) [(.ref w_V), (.ref w_E), (.ref w_OUT), (.ref w_IN), (.ref w_BOTH), (.ref w_OUT_E), (.ref w_IN_E), (.ref w_BOTH_E), (.ref w_OUT_V), (.ref w_IN_V), (.ref w_BOTH_V), .null, .null, .null, .null, .null, .null, .null, .null, .null, .null, .null, .null, .null, .null, .null, .null] .null := V23
  have N23 := Fr.snoc X23 N21 n_b1
  have O23 := O21.wr W23 n_b1
  refine own_dup 77 X23 hx hby at_76 rfl rfl ?_
  refine own_bipush 79 (11 : Int32) X23 hx hby at_77 rfl (by decide) ?_
  refine own_getS 82 X23 hx hby hZ hown (own_w hw 26 rfl) e23 (W.2.2.2.2.2.2.2.2.2.2.2.2.2.2.2.2.2.2.2.2.2.2.1.ext O23.2) at_79 rfl ?_
  intro T24 X24 e24
  refine own_stR 83 11 X24 hx hby hZ e24 V23 O_1 (Ins.self (W.2.2.2.2.2.2.2.2.2.2.2.2.2.2.2.2.2.2.2.2.2.2.2.1.ext O23.2)) at_82 rfl (by decide) (by decide) (Nat.le_of_ble_eq_true rfl) ?_
  intro T25 h25 X25 e25 W25 V25
  have V25 : Arv Z h25 b1 k1 (.object "com/example/edgeprobe/edgeprobe/gremlin/GremlinStep") (27 : Int32) [(.ref w_V), (.ref w_E), (.ref w_OUT), (.ref w_IN), (.ref w_BOTH), (.ref w_OUT_E), (.ref w_IN_E), (.ref w_BOTH_E), (.ref w_OUT_V), (.ref w_IN_V), (.ref w_BOTH_V), (.ref w_HAS), .null, .null, .null, .null, .null, .null, .null, .null, .null, .null, .null, .null, .null, .null, .null] .null := V25
  have N25 := Fr.snoc X25 N23 n_b1
  have O25 := O23.wr W25 n_b1
  refine own_dup 84 X25 hx hby at_83 rfl rfl ?_
  refine own_bipush 86 (12 : Int32) X25 hx hby at_84 rfl (by decide) ?_
  refine own_getS 89 X25 hx hby hZ hown (own_w hw 28 rfl) e25 (W.2.2.2.2.2.2.2.2.2.2.2.2.2.2.2.2.2.2.2.2.2.2.2.2.1.ext O25.2) at_86 rfl ?_
  intro T26 X26 e26
  refine own_stR 90 12 X26 hx hby hZ e26 V25 O_1 (Ins.self (W.2.2.2.2.2.2.2.2.2.2.2.2.2.2.2.2.2.2.2.2.2.2.2.2.2.1.ext O25.2)) at_89 rfl (by decide) (by decide) (Nat.le_of_ble_eq_true rfl) ?_
  intro T27 h27 X27 e27 W27 V27
  have V27 : Arv Z h27 b1 k1 (.object "com/example/edgeprobe/edgeprobe/gremlin/GremlinStep") (27 : Int32) [(.ref w_V), (.ref w_E), (.ref w_OUT), (.ref w_IN), (.ref w_BOTH), (.ref w_OUT_E), (.ref w_IN_E), (.ref w_BOTH_E), (.ref w_OUT_V), (.ref w_IN_V), (.ref w_BOTH_V), (.ref w_HAS), (.ref w_HAS_LABEL), .null, .null, .null, .null, .null, .null, .null, .null, .null, .null, .null, .null, .null, .null] .null := V27
  have N27 := Fr.snoc X27 N25 n_b1
  have O27 := O25.wr W27 n_b1
  refine own_dup 91 X27 hx hby at_90 rfl rfl ?_
  refine own_bipush 93 (13 : Int32) X27 hx hby at_91 rfl (by decide) ?_
  refine own_getS 96 X27 hx hby hZ hown (own_w hw 30 rfl) e27 (W.2.2.2.2.2.2.2.2.2.2.2.2.2.2.2.2.2.2.2.2.2.2.2.2.2.2.1.ext O27.2) at_93 rfl ?_
  intro T28 X28 e28
  refine own_stR 97 13 X28 hx hby hZ e28 V27 O_1 (Ins.self (W.2.2.2.2.2.2.2.2.2.2.2.2.2.2.2.2.2.2.2.2.2.2.2.2.2.2.2.1.ext O27.2)) at_96 rfl (by decide) (by decide) (Nat.le_of_ble_eq_true rfl) ?_
  intro T29 h29 X29 e29 W29 V29
  have V29 : Arv Z h29 b1 k1 (.object "com/example/edgeprobe/edgeprobe/gremlin/GremlinStep") (27 : Int32) [(.ref w_V), (.ref w_E), (.ref w_OUT), (.ref w_IN), (.ref w_BOTH), (.ref w_OUT_E), (.ref w_IN_E), (.ref w_BOTH_E), (.ref w_OUT_V), (.ref w_IN_V), (.ref w_BOTH_V), (.ref w_HAS), (.ref w_HAS_LABEL), (.ref w_HAS_NOT), .null, .null, .null, .null, .null, .null, .null, .null, .null, .null, .null, .null, .null] .null := V29
  have N29 := Fr.snoc X29 N27 n_b1
  have O29 := O27.wr W29 n_b1
  refine own_dup 98 X29 hx hby at_97 rfl rfl ?_
  refine own_bipush 100 (14 : Int32) X29 hx hby at_98 rfl (by decide) ?_
  refine own_getS 103 X29 hx hby hZ hown (own_w hw 32 rfl) e29 (W.2.2.2.2.2.2.2.2.2.2.2.2.2.2.2.2.2.2.2.2.2.2.2.2.2.2.2.2.1.ext O29.2) at_100 rfl ?_
  intro T30 X30 e30
  refine own_stR 104 14 X30 hx hby hZ e30 V29 O_1 (Ins.self (W.2.2.2.2.2.2.2.2.2.2.2.2.2.2.2.2.2.2.2.2.2.2.2.2.2.2.2.2.2.1.ext O29.2)) at_103 rfl (by decide) (by decide) (Nat.le_of_ble_eq_true rfl) ?_
  intro T31 h31 X31 e31 W31 V31
  have V31 : Arv Z h31 b1 k1 (.object "com/example/edgeprobe/edgeprobe/gremlin/GremlinStep") (27 : Int32) [(.ref w_V), (.ref w_E), (.ref w_OUT), (.ref w_IN), (.ref w_BOTH), (.ref w_OUT_E), (.ref w_IN_E), (.ref w_BOTH_E), (.ref w_OUT_V), (.ref w_IN_V), (.ref w_BOTH_V), (.ref w_HAS), (.ref w_HAS_LABEL), (.ref w_HAS_NOT), (.ref w_WHERE), .null, .null, .null, .null, .null, .null, .null, .null, .null, .null, .null, .null] .null := V31
  have N31 := Fr.snoc X31 N29 n_b1
  have O31 := O29.wr W31 n_b1
  refine own_dup 105 X31 hx hby at_104 rfl rfl ?_
  refine own_bipush 107 (15 : Int32) X31 hx hby at_105 rfl (by decide) ?_
  refine own_getS 110 X31 hx hby hZ hown (own_w hw 34 rfl) e31 (W.2.2.2.2.2.2.2.2.2.2.2.2.2.2.2.2.2.2.2.2.2.2.2.2.2.2.2.2.2.2.1.ext O31.2) at_107 rfl ?_
  intro T32 X32 e32
  refine own_stR 111 15 X32 hx hby hZ e32 V31 O_1 (Ins.self (W.2.2.2.2.2.2.2.2.2.2.2.2.2.2.2.2.2.2.2.2.2.2.2.2.2.2.2.2.2.2.2.1.ext O31.2)) at_110 rfl (by decide) (by decide) (Nat.le_of_ble_eq_true rfl) ?_
  intro T33 h33 X33 e33 W33 V33
  have V33 : Arv Z h33 b1 k1 (.object "com/example/edgeprobe/edgeprobe/gremlin/GremlinStep") (27 : Int32) [(.ref w_V), (.ref w_E), (.ref w_OUT), (.ref w_IN), (.ref w_BOTH), (.ref w_OUT_E), (.ref w_IN_E), (.ref w_BOTH_E), (.ref w_OUT_V), (.ref w_IN_V), (.ref w_BOTH_V), (.ref w_HAS), (.ref w_HAS_LABEL), (.ref w_HAS_NOT), (.ref w_WHERE), (.ref w_NOT), .null, .null, .null, .null, .null, .null, .null, .null, .null, .null, .null] .null := V33
  have N33 := Fr.snoc X33 N31 n_b1
  have O33 := O31.wr W33 n_b1
  refine own_dup 112 X33 hx hby at_111 rfl rfl ?_
  refine own_bipush 114 (16 : Int32) X33 hx hby at_112 rfl (by decide) ?_
  refine own_getS 117 X33 hx hby hZ hown (own_w hw 36 rfl) e33 (W.2.2.2.2.2.2.2.2.2.2.2.2.2.2.2.2.2.2.2.2.2.2.2.2.2.2.2.2.2.2.2.2.1.ext O33.2) at_114 rfl ?_
  intro T34 X34 e34
  refine own_stR 118 16 X34 hx hby hZ e34 V33 O_1 (Ins.self (W.2.2.2.2.2.2.2.2.2.2.2.2.2.2.2.2.2.2.2.2.2.2.2.2.2.2.2.2.2.2.2.2.2.1.ext O33.2)) at_117 rfl (by decide) (by decide) (Nat.le_of_ble_eq_true rfl) ?_
  intro T35 h35 X35 e35 W35 V35
  have V35 : Arv Z h35 b1 k1 (.object "com/example/edgeprobe/edgeprobe/gremlin/GremlinStep") (27 : Int32) [(.ref w_V), (.ref w_E), (.ref w_OUT), (.ref w_IN), (.ref w_BOTH), (.ref w_OUT_E), (.ref w_IN_E), (.ref w_BOTH_E), (.ref w_OUT_V), (.ref w_IN_V), (.ref w_BOTH_V), (.ref w_HAS), (.ref w_HAS_LABEL), (.ref w_HAS_NOT), (.ref w_WHERE), (.ref w_NOT), (.ref w_AND), .null, .null, .null, .null, .null, .null, .null, .null, .null, .null] .null := V35
  have N35 := Fr.snoc X35 N33 n_b1
  have O35 := O33.wr W35 n_b1
  refine own_dup 119 X35 hx hby at_118 rfl rfl ?_
  refine own_bipush 121 (17 : Int32) X35 hx hby at_119 rfl (by decide) ?_
  refine own_getS 124 X35 hx hby hZ hown (own_w hw 38 rfl) e35 (W.2.2.2.2.2.2.2.2.2.2.2.2.2.2.2.2.2.2.2.2.2.2.2.2.2.2.2.2.2.2.2.2.2.2.1.ext O35.2) at_121 rfl ?_
  intro T36 X36 e36
  refine own_stR 125 17 X36 hx hby hZ e36 V35 O_1 (Ins.self (W.2.2.2.2.2.2.2.2.2.2.2.2.2.2.2.2.2.2.2.2.2.2.2.2.2.2.2.2.2.2.2.2.2.2.2.1.ext O35.2)) at_124 rfl (by decide) (by decide) (Nat.le_of_ble_eq_true rfl) ?_
  intro T37 h37 X37 e37 W37 V37
  have V37 : Arv Z h37 b1 k1 (.object "com/example/edgeprobe/edgeprobe/gremlin/GremlinStep") (27 : Int32) [(.ref w_V), (.ref w_E), (.ref w_OUT), (.ref w_IN), (.ref w_BOTH), (.ref w_OUT_E), (.ref w_IN_E), (.ref w_BOTH_E), (.ref w_OUT_V), (.ref w_IN_V), (.ref w_BOTH_V), (.ref w_HAS), (.ref w_HAS_LABEL), (.ref w_HAS_NOT), (.ref w_WHERE), (.ref w_NOT), (.ref w_AND), (.ref w_OR), .null, .null, .null, .null, .null, .null, .null, .null, .null] .null := V37
  have N37 := Fr.snoc X37 N35 n_b1
  have O37 := O35.wr W37 n_b1
  refine own_dup 126 X37 hx hby at_125 rfl rfl ?_
  refine own_bipush 128 (18 : Int32) X37 hx hby at_126 rfl (by decide) ?_
  refine own_getS 131 X37 hx hby hZ hown (own_w hw 40 rfl) e37 (W.2.2.2.2.2.2.2.2.2.2.2.2.2.2.2.2.2.2.2.2.2.2.2.2.2.2.2.2.2.2.2.2.2.2.2.2.1.ext O37.2) at_128 rfl ?_
  intro T38 X38 e38
  refine own_stR 132 18 X38 hx hby hZ e38 V37 O_1 (Ins.self (W.2.2.2.2.2.2.2.2.2.2.2.2.2.2.2.2.2.2.2.2.2.2.2.2.2.2.2.2.2.2.2.2.2.2.2.2.2.1.ext O37.2)) at_131 rfl (by decide) (by decide) (Nat.le_of_ble_eq_true rfl) ?_
  intro T39 h39 X39 e39 W39 V39
  have V39 : Arv Z h39 b1 k1 (.object "com/example/edgeprobe/edgeprobe/gremlin/GremlinStep") (27 : Int32) [(.ref w_V), (.ref w_E), (.ref w_OUT), (.ref w_IN), (.ref w_BOTH), (.ref w_OUT_E), (.ref w_IN_E), (.ref w_BOTH_E), (.ref w_OUT_V), (.ref w_IN_V), (.ref w_BOTH_V), (.ref w_HAS), (.ref w_HAS_LABEL), (.ref w_HAS_NOT), (.ref w_WHERE), (.ref w_NOT), (.ref w_AND), (.ref w_OR), (.ref w_ORDER), .null, .null, .null, .null, .null, .null, .null, .null] .null := V39
  have N39 := Fr.snoc X39 N37 n_b1
  have O39 := O37.wr W39 n_b1
  refine own_dup 133 X39 hx hby at_132 rfl rfl ?_
  refine own_bipush 135 (19 : Int32) X39 hx hby at_133 rfl (by decide) ?_
  refine own_getS 138 X39 hx hby hZ hown (own_w hw 42 rfl) e39 (W.2.2.2.2.2.2.2.2.2.2.2.2.2.2.2.2.2.2.2.2.2.2.2.2.2.2.2.2.2.2.2.2.2.2.2.2.2.2.1.ext O39.2) at_135 rfl ?_
  intro T40 X40 e40
  refine own_stR 139 19 X40 hx hby hZ e40 V39 O_1 (Ins.self (W.2.2.2.2.2.2.2.2.2.2.2.2.2.2.2.2.2.2.2.2.2.2.2.2.2.2.2.2.2.2.2.2.2.2.2.2.2.2.2.1.ext O39.2)) at_138 rfl (by decide) (by decide) (Nat.le_of_ble_eq_true rfl) ?_
  intro T41 h41 X41 e41 W41 V41
  have V41 : Arv Z h41 b1 k1 (.object "com/example/edgeprobe/edgeprobe/gremlin/GremlinStep") (27 : Int32) [(.ref w_V), (.ref w_E), (.ref w_OUT), (.ref w_IN), (.ref w_BOTH), (.ref w_OUT_E), (.ref w_IN_E), (.ref w_BOTH_E), (.ref w_OUT_V), (.ref w_IN_V), (.ref w_BOTH_V), (.ref w_HAS), (.ref w_HAS_LABEL), (.ref w_HAS_NOT), (.ref w_WHERE), (.ref w_NOT), (.ref w_AND), (.ref w_OR), (.ref w_ORDER), (.ref w_VALUES), .null, .null, .null, .null, .null, .null, .null] .null := V41
  have N41 := Fr.snoc X41 N39 n_b1
  have O41 := O39.wr W41 n_b1
  refine own_dup 140 X41 hx hby at_139 rfl rfl ?_
  refine own_bipush 142 (20 : Int32) X41 hx hby at_140 rfl (by decide) ?_
  refine own_getS 145 X41 hx hby hZ hown (own_w hw 44 rfl) e41 (W.2.2.2.2.2.2.2.2.2.2.2.2.2.2.2.2.2.2.2.2.2.2.2.2.2.2.2.2.2.2.2.2.2.2.2.2.2.2.2.2.1.ext O41.2) at_142 rfl ?_
  intro T42 X42 e42
  refine own_stR 146 20 X42 hx hby hZ e42 V41 O_1 (Ins.self (W.2.2.2.2.2.2.2.2.2.2.2.2.2.2.2.2.2.2.2.2.2.2.2.2.2.2.2.2.2.2.2.2.2.2.2.2.2.2.2.2.2.1.ext O41.2)) at_145 rfl (by decide) (by decide) (Nat.le_of_ble_eq_true rfl) ?_
  intro T43 h43 X43 e43 W43 V43
  have V43 : Arv Z h43 b1 k1 (.object "com/example/edgeprobe/edgeprobe/gremlin/GremlinStep") (27 : Int32) [(.ref w_V), (.ref w_E), (.ref w_OUT), (.ref w_IN), (.ref w_BOTH), (.ref w_OUT_E), (.ref w_IN_E), (.ref w_BOTH_E), (.ref w_OUT_V), (.ref w_IN_V), (.ref w_BOTH_V), (.ref w_HAS), (.ref w_HAS_LABEL), (.ref w_HAS_NOT), (.ref w_WHERE), (.ref w_NOT), (.ref w_AND), (.ref w_OR), (.ref w_ORDER), (.ref w_VALUES), (.ref w_ID), .null, .null, .null, .null, .null, .null] .null := V43
  have N43 := Fr.snoc X43 N41 n_b1
  have O43 := O41.wr W43 n_b1
  refine own_dup 147 X43 hx hby at_146 rfl rfl ?_
  refine own_bipush 149 (21 : Int32) X43 hx hby at_147 rfl (by decide) ?_
  refine own_getS 152 X43 hx hby hZ hown (own_w hw 46 rfl) e43 (W.2.2.2.2.2.2.2.2.2.2.2.2.2.2.2.2.2.2.2.2.2.2.2.2.2.2.2.2.2.2.2.2.2.2.2.2.2.2.2.2.2.2.1.ext O43.2) at_149 rfl ?_
  intro T44 X44 e44
  refine own_stR 153 21 X44 hx hby hZ e44 V43 O_1 (Ins.self (W.2.2.2.2.2.2.2.2.2.2.2.2.2.2.2.2.2.2.2.2.2.2.2.2.2.2.2.2.2.2.2.2.2.2.2.2.2.2.2.2.2.2.2.1.ext O43.2)) at_152 rfl (by decide) (by decide) (Nat.le_of_ble_eq_true rfl) ?_
  intro T45 h45 X45 e45 W45 V45
  have V45 : Arv Z h45 b1 k1 (.object "com/example/edgeprobe/edgeprobe/gremlin/GremlinStep") (27 : Int32) [(.ref w_V), (.ref w_E), (.ref w_OUT), (.ref w_IN), (.ref w_BOTH), (.ref w_OUT_E), (.ref w_IN_E), (.ref w_BOTH_E), (.ref w_OUT_V), (.ref w_IN_V), (.ref w_BOTH_V), (.ref w_HAS), (.ref w_HAS_LABEL), (.ref w_HAS_NOT), (.ref w_WHERE), (.ref w_NOT), (.ref w_AND), (.ref w_OR), (.ref w_ORDER), (.ref w_VALUES), (.ref w_ID), (.ref w_LABEL), .null, .null, .null, .null, .null] .null := V45
  have N45 := Fr.snoc X45 N43 n_b1
  have O45 := O43.wr W45 n_b1
  refine own_dup 154 X45 hx hby at_153 rfl rfl ?_
  refine own_bipush 156 (22 : Int32) X45 hx hby at_154 rfl (by decide) ?_
  refine own_getS 159 X45 hx hby hZ hown (own_w hw 48 rfl) e45 (W.2.2.2.2.2.2.2.2.2.2.2.2.2.2.2.2.2.2.2.2.2.2.2.2.2.2.2.2.2.2.2.2.2.2.2.2.2.2.2.2.2.2.2.2.1.ext O45.2) at_156 rfl ?_
  intro T46 X46 e46
  refine own_stR 160 22 X46 hx hby hZ e46 V45 O_1 (Ins.self (W.2.2.2.2.2.2.2.2.2.2.2.2.2.2.2.2.2.2.2.2.2.2.2.2.2.2.2.2.2.2.2.2.2.2.2.2.2.2.2.2.2.2.2.2.2.1.ext O45.2)) at_159 rfl (by decide) (by decide) (Nat.le_of_ble_eq_true rfl) ?_
  intro T47 h47 X47 e47 W47 V47
  have V47 : Arv Z h47 b1 k1 (.object "com/example/edgeprobe/edgeprobe/gremlin/GremlinStep") (27 : Int32) [(.ref w_V), (.ref w_E), (.ref w_OUT), (.ref w_IN), (.ref w_BOTH), (.ref w_OUT_E), (.ref w_IN_E), (.ref w_BOTH_E), (.ref w_OUT_V), (.ref w_IN_V), (.ref w_BOTH_V), (.ref w_HAS), (.ref w_HAS_LABEL), (.ref w_HAS_NOT), (.ref w_WHERE), (.ref w_NOT), (.ref w_AND), (.ref w_OR), (.ref w_ORDER), (.ref w_VALUES), (.ref w_ID), (.ref w_LABEL), (.ref w_COUNT), .null, .null, .null, .null] .null := V47
  have N47 := Fr.snoc X47 N45 n_b1
  have O47 := O45.wr W47 n_b1
  refine own_dup 161 X47 hx hby at_160 rfl rfl ?_
  refine own_bipush 163 (23 : Int32) X47 hx hby at_161 rfl (by decide) ?_
  refine own_getS 166 X47 hx hby hZ hown (own_w hw 50 rfl) e47 (W.2.2.2.2.2.2.2.2.2.2.2.2.2.2.2.2.2.2.2.2.2.2.2.2.2.2.2.2.2.2.2.2.2.2.2.2.2.2.2.2.2.2.2.2.2.2.1.ext O47.2) at_163 rfl ?_
  intro T48 X48 e48
  refine own_stR 167 23 X48 hx hby hZ e48 V47 O_1 (Ins.self (W.2.2.2.2.2.2.2.2.2.2.2.2.2.2.2.2.2.2.2.2.2.2.2.2.2.2.2.2.2.2.2.2.2.2.2.2.2.2.2.2.2.2.2.2.2.2.2.1.ext O47.2)) at_166 rfl (by decide) (by decide) (Nat.le_of_ble_eq_true rfl) ?_
  intro T49 h49 X49 e49 W49 V49
  have V49 : Arv Z h49 b1 k1 (.object "com/example/edgeprobe/edgeprobe/gremlin/GremlinStep") (27 : Int32) [(.ref w_V), (.ref w_E), (.ref w_OUT), (.ref w_IN), (.ref w_BOTH), (.ref w_OUT_E), (.ref w_IN_E), (.ref w_BOTH_E), (.ref w_OUT_V), (.ref w_IN_V), (.ref w_BOTH_V), (.ref w_HAS), (.ref w_HAS_LABEL), (.ref w_HAS_NOT), (.ref w_WHERE), (.ref w_NOT), (.ref w_AND), (.ref w_OR), (.ref w_ORDER), (.ref w_VALUES), (.ref w_ID), (.ref w_LABEL), (.ref w_COUNT), (.ref w_SUM), .null, .null, .null] .null := V49
  have N49 := Fr.snoc X49 N47 n_b1
  have O49 := O47.wr W49 n_b1
  refine own_dup 168 X49 hx hby at_167 rfl rfl ?_
  refine own_bipush 170 (24 : Int32) X49 hx hby at_168 rfl (by decide) ?_
  refine own_getS 173 X49 hx hby hZ hown (own_w hw 52 rfl) e49 (W.2.2.2.2.2.2.2.2.2.2.2.2.2.2.2.2.2.2.2.2.2.2.2.2.2.2.2.2.2.2.2.2.2.2.2.2.2.2.2.2.2.2.2.2.2.2.2.2.1.ext O49.2) at_170 rfl ?_
  intro T50 X50 e50
  refine own_stR 174 24 X50 hx hby hZ e50 V49 O_1 (Ins.self (W.2.2.2.2.2.2.2.2.2.2.2.2.2.2.2.2.2.2.2.2.2.2.2.2.2.2.2.2.2.2.2.2.2.2.2.2.2.2.2.2.2.2.2.2.2.2.2.2.2.1.ext O49.2)) at_173 rfl (by decide) (by decide) (Nat.le_of_ble_eq_true rfl) ?_
  intro T51 h51 X51 e51 W51 V51
  have V51 : Arv Z h51 b1 k1 (.object "com/example/edgeprobe/edgeprobe/gremlin/GremlinStep") (27 : Int32) [(.ref w_V), (.ref w_E), (.ref w_OUT), (.ref w_IN), (.ref w_BOTH), (.ref w_OUT_E), (.ref w_IN_E), (.ref w_BOTH_E), (.ref w_OUT_V), (.ref w_IN_V), (.ref w_BOTH_V), (.ref w_HAS), (.ref w_HAS_LABEL), (.ref w_HAS_NOT), (.ref w_WHERE), (.ref w_NOT), (.ref w_AND), (.ref w_OR), (.ref w_ORDER), (.ref w_VALUES), (.ref w_ID), (.ref w_LABEL), (.ref w_COUNT), (.ref w_SUM), (.ref w_MEAN), .null, .null] .null := V51
  have N51 := Fr.snoc X51 N49 n_b1
  have O51 := O49.wr W51 n_b1
  refine own_dup 175 X51 hx hby at_174 rfl rfl ?_
  refine own_bipush 177 (25 : Int32) X51 hx hby at_175 rfl (by decide) ?_
  refine own_getS 180 X51 hx hby hZ hown (own_w hw 54 rfl) e51 (W.2.2.2.2.2.2.2.2.2.2.2.2.2.2.2.2.2.2.2.2.2.2.2.2.2.2.2.2.2.2.2.2.2.2.2.2.2.2.2.2.2.2.2.2.2.2.2.2.2.2.1.ext O51.2) at_177 rfl ?_
  intro T52 X52 e52
  refine own_stR 181 25 X52 hx hby hZ e52 V51 O_1 (Ins.self (W.2.2.2.2.2.2.2.2.2.2.2.2.2.2.2.2.2.2.2.2.2.2.2.2.2.2.2.2.2.2.2.2.2.2.2.2.2.2.2.2.2.2.2.2.2.2.2.2.2.2.2.1.ext O51.2)) at_180 rfl (by decide) (by decide) (Nat.le_of_ble_eq_true rfl) ?_
  intro T53 h53 X53 e53 W53 V53
  have V53 : Arv Z h53 b1 k1 (.object "com/example/edgeprobe/edgeprobe/gremlin/GremlinStep") (27 : Int32) [(.ref w_V), (.ref w_E), (.ref w_OUT), (.ref w_IN), (.ref w_BOTH), (.ref w_OUT_E), (.ref w_IN_E), (.ref w_BOTH_E), (.ref w_OUT_V), (.ref w_IN_V), (.ref w_BOTH_V), (.ref w_HAS), (.ref w_HAS_LABEL), (.ref w_HAS_NOT), (.ref w_WHERE), (.ref w_NOT), (.ref w_AND), (.ref w_OR), (.ref w_ORDER), (.ref w_VALUES), (.ref w_ID), (.ref w_LABEL), (.ref w_COUNT), (.ref w_SUM), (.ref w_MEAN), (.ref w_MIN), .null] .null := V53
  have N53 := Fr.snoc X53 N51 n_b1
  have O53 := O51.wr W53 n_b1
  refine own_dup 182 X53 hx hby at_181 rfl rfl ?_
  refine own_bipush 184 (26 : Int32) X53 hx hby at_182 rfl (by decide) ?_
  refine own_getS 187 X53 hx hby hZ hown (own_w hw 56 rfl) e53 (W.2.2.2.2.2.2.2.2.2.2.2.2.2.2.2.2.2.2.2.2.2.2.2.2.2.2.2.2.2.2.2.2.2.2.2.2.2.2.2.2.2.2.2.2.2.2.2.2.2.2.2.2.1.ext O53.2) at_184 rfl ?_
  intro T54 X54 e54
  refine own_stR 188 26 X54 hx hby hZ e54 V53 O_1 (Ins.self (W.2.2.2.2.2.2.2.2.2.2.2.2.2.2.2.2.2.2.2.2.2.2.2.2.2.2.2.2.2.2.2.2.2.2.2.2.2.2.2.2.2.2.2.2.2.2.2.2.2.2.2.2.2.1.ext O53.2)) at_187 rfl (by decide) (by decide) (Nat.le_of_ble_eq_true rfl) ?_
  intro T55 h55 X55 e55 W55 V55
  have V55 : Arv Z h55 b1 k1 (.object "com/example/edgeprobe/edgeprobe/gremlin/GremlinStep") (27 : Int32) [(.ref w_V), (.ref w_E), (.ref w_OUT), (.ref w_IN), (.ref w_BOTH), (.ref w_OUT_E), (.ref w_IN_E), (.ref w_BOTH_E), (.ref w_OUT_V), (.ref w_IN_V), (.ref w_BOTH_V), (.ref w_HAS), (.ref w_HAS_LABEL), (.ref w_HAS_NOT), (.ref w_WHERE), (.ref w_NOT), (.ref w_AND), (.ref w_OR), (.ref w_ORDER), (.ref w_VALUES), (.ref w_ID), (.ref w_LABEL), (.ref w_COUNT), (.ref w_SUM), (.ref w_MEAN), (.ref w_MIN), (.ref w_MAX)] .null := V55
  have N55 := Fr.snoc X55 N53 n_b1
  have O55 := O53.wr W55 n_b1
  refine own_astore_n 189 #[oI x0, oI x1, oA b1, oU, oU, oU] X55 hx hby at_188 rfl rfl rfl ?_
  refine own_iload_n 190 X55 hx hby at_189 rfl rfl ?_
  refine own_ldc 192 X55 hx hby hZ hown (own_w hw 58 rfl) at_190 rfl ?_
  refine own_iand 193 (x0 &&& (2147483647 : Int32)) X55 hx hby at_192 rfl rfl ?_
  refine own_bipush 195 (27 : Int32) X55 hx hby at_193 rfl (by decide) ?_
  rcases own_mod27 x0 with hv56 | hv56 | hv56 | hv56 | hv56 | hv56 | hv56 | hv56 | hv56 | hv56 | hv56 | hv56 | hv56 | hv56 | hv56 | hv56 | hv56 | hv56 | hv56 | hv56 | hv56 | hv56 | hv56 | hv56 | hv56 | hv56 | hv56
  · refine own_irem 196 (0 : Int32) X55 hx hby at_195 rfl (by decide) hv56 ?_
    refine own_istore_n 197 #[oI x0, oI x1, oA b1, oI (0 : Int32), oU, oU] X55 hx hby at_196 rfl rfl ?_
    refine own_iload_n 198 X55 hx hby at_197 rfl rfl ?_
    refine own_iconst 199 (1 : Int32) X55 hx hby at_198 rfl (by decide) ?_
    rcases own_and1 x1 with hv57 | hv57
    · refine own_iand 200 (0 : Int32) X55 hx hby at_199 rfl hv57 ?_
      refine own_ifN 203 X55 hx hby at_200 rfl (by decide) ?_
      refine own_getS 206 X55 hx hby hZ hown (own_w hw 69 rfl) e55 (W.2.2.2.2.2.2.2.2.2.2.2.2.2.2.2.2.2.2.2.2.2.2.2.2.2.2.2.2.2.2.2.2.2.2.2.2.2.2.2.2.2.2.2.2.2.2.2.2.2.2.2.2.2.2.2.2.1.ext O55.2) at_203 rfl ?_
      intro T58 X58 e58
      refine own_goto 212 X58 hx hby at_206 (by decide) (by decide) ?_
      refine own_astore 214 #[oI x0, oI x1, oA b1, oI (0 : Int32), oA w_VERTEX, oU] X58 hx hby at_212 rfl rfl rfl ?_
      refine own_iload_n 215 X58 hx hby at_214 rfl rfl ?_
      refine own_iconst 216 (2 : Int32) X58 hx hby at_215 rfl (by decide) ?_
      refine own_icY 243 X58 hx hby at_216 (by decide) (by decide) (by decide) ?_
      refine own_iload_n 244 X58 hx hby at_243 rfl rfl ?_
      refine own_bipush 246 (8 : Int32) X58 hx hby at_244 rfl (by decide) ?_
      refine own_icY 273 X58 hx hby at_246 (by decide) (by decide) (by decide) ?_
      refine own_iconst 274 (1 : Int32) X58 hx hby at_273 rfl (by decide) ?_
      refine own_istore 276 #[oI x0, oI x1, oA b1, oI (0 : Int32), oA w_VERTEX, oI (1 : Int32)] X58 hx hby at_274 rfl rfl ?_
      refine own_aload_n 277 X58 hx hby at_276 rfl rfl rfl ?_
      refine own_iload_n 278 X58 hx hby at_277 rfl rfl ?_
      refine own_aaload 279 (.ref w_V) X58 hx hby hZ e58 V55 rfl at_278 rfl (by decide) rfl ?_
      refine own_aload 281 X58 hx hby at_279 rfl rfl rfl ?_
      refine own_virt (W := 0) 284 (rm1_1 l Z a0 hw [] w_V w_E w_OUT w_IN w_BOTH w_OUT_E w_IN_E w_BOTH_E w_OUT_V w_IN_V w_BOTH_V w_HAS w_HAS_LABEL w_HAS_NOT w_WHERE w_NOT w_AND w_OR w_ORDER w_VALUES w_ID w_LABEL w_COUNT w_SUM w_MEAN w_MIN w_MAX w_EDGE w_VERTEX W w_V w_VERTEX h55 n0 O55 (W.2.2.2.2.2.2.2.2.2.2.2.2.2.2.2.2.2.2.2.2.2.2.2.2.2.2.2.2.2.2.2.2.2.2.2.2.2.2.2.2.2.2.2.2.2.2.2.2.2.2.2.2.2.2.2.2.2.2.1.ext O55.2)) X58 hx hby hZ hown (own_w hw 62 rfl) (own_w hw 63 rfl) (notFace_of_selects (args := #[]) (mvT hZ (own_w hw 65 rfl))) (own_w hw 65 rfl) (own_w hw 64 rfl) (own_w hw 3 rfl) (own_w hw 66 rfl) (by decide) (by rw [hml]; rfl) w_V [(.ref w_VERTEX)] [] pd_0 rfl at_281 rfl e58 (W.2.1.ext O55.2) rfl rfl rfl (by decide) (by decide) (by decide) (by decide) ?_
      rintro _ T63 L63 X63 ⟨rfl, N63, e63⟩
      have N63 := Fr.app N55 N63
      show Go p e below _ (T63.setTop (mkF m 284 _ [(.int (1 : Int32))]))
      refine own_iload 286 X63 hx hby at_284 rfl rfl ?_
      refine own_icN 289 X63 hx hby at_286 rfl (by decide) ?_
      refine own_iconst 290 (1 : Int32) X63 hx hby at_289 rfl (by decide) ?_
      refine own_goto 294 X63 hx hby at_290 (by decide) (by decide) ?_
      exact own_ret (Q := own_Q1 n0) X63 hx hby hret hlk at_294 rfl (Or.inl ⟨rfl, by simp, _, rfl⟩) (by decide) (by decide) ⟨rfl, N63⟩
    · refine own_iand 200 (1 : Int32) X55 hx hby at_199 rfl hv57 ?_
      refine own_ifY 209 X55 hx hby at_200 (by decide) (by decide) (by decide) ?_
      refine own_getS 212 X55 hx hby hZ hown (own_w hw 59 rfl) e55 (W.2.2.2.2.2.2.2.2.2.2.2.2.2.2.2.2.2.2.2.2.2.2.2.2.2.2.2.2.2.2.2.2.2.2.2.2.2.2.2.2.2.2.2.2.2.2.2.2.2.2.2.2.2.2.1.ext O55.2) at_209 rfl ?_
      intro T64 X64 e64
      refine own_astore 214 #[oI x0, oI x1, oA b1, oI (0 : Int32), oA w_EDGE, oU] X64 hx hby at_212 rfl rfl rfl ?_
      refine own_iload_n 215 X64 hx hby at_214 rfl rfl ?_
      refine own_iconst 216 (2 : Int32) X64 hx hby at_215 rfl (by decide) ?_
      refine own_icY 243 X64 hx hby at_216 (by decide) (by decide) (by decide) ?_
      refine own_iload_n 244 X64 hx hby at_243 rfl rfl ?_
      refine own_bipush 246 (8 : Int32) X64 hx hby at_244 rfl (by decide) ?_
      refine own_icY 273 X64 hx hby at_246 (by decide) (by decide) (by decide) ?_
      refine own_iconst 274 (1 : Int32) X64 hx hby at_273 rfl (by decide) ?_
      refine own_istore 276 #[oI x0, oI x1, oA b1, oI (0 : Int32), oA w_EDGE, oI (1 : Int32)] X64 hx hby at_274 rfl rfl ?_
      refine own_aload_n 277 X64 hx hby at_276 rfl rfl rfl ?_
      refine own_iload_n 278 X64 hx hby at_277 rfl rfl ?_
      refine own_aaload 279 (.ref w_V) X64 hx hby hZ e64 V55 rfl at_278 rfl (by decide) rfl ?_
      refine own_aload 281 X64 hx hby at_279 rfl rfl rfl ?_
      refine own_virt (W := 0) 284 (rm1_1 l Z a0 hw [] w_V w_E w_OUT w_IN w_BOTH w_OUT_E w_IN_E w_BOTH_E w_OUT_V w_IN_V w_BOTH_V w_HAS w_HAS_LABEL w_HAS_NOT w_WHERE w_NOT w_AND w_OR w_ORDER w_VALUES w_ID w_LABEL w_COUNT w_SUM w_MEAN w_MIN w_MAX w_EDGE w_VERTEX W w_V w_EDGE h55 n0 O55 (W.2.2.2.2.2.2.2.2.2.2.2.2.2.2.2.2.2.2.2.2.2.2.2.2.2.2.2.2.2.2.2.2.2.2.2.2.2.2.2.2.2.2.2.2.2.2.2.2.2.2.2.2.2.2.2.2.2.2.1.ext O55.2)) X64 hx hby hZ hown (own_w hw 62 rfl) (own_w hw 63 rfl) (notFace_of_selects (args := #[]) (mvT hZ (own_w hw 65 rfl))) (own_w hw 65 rfl) (own_w hw 64 rfl) (own_w hw 3 rfl) (own_w hw 66 rfl) (by decide) (by rw [hml]; rfl) w_V [(.ref w_EDGE)] [] pd_0 rfl at_281 rfl e64 (W.2.1.ext O55.2) rfl rfl rfl (by decide) (by decide) (by decide) (by decide) ?_
      rintro _ T65 L65 X65 ⟨rfl, N65, e65⟩
      have N65 := Fr.app N55 N65
      show Go p e below _ (T65.setTop (mkF m 284 _ [(.int (1 : Int32))]))
      refine own_iload 286 X65 hx hby at_284 rfl rfl ?_
      refine own_icN 289 X65 hx hby at_286 rfl (by decide) ?_
      refine own_iconst 290 (1 : Int32) X65 hx hby at_289 rfl (by decide) ?_
      refine own_goto 294 X65 hx hby at_290 (by decide) (by decide) ?_
      exact own_ret (Q := own_Q1 n0) X65 hx hby hret hlk at_294 rfl (Or.inl ⟨rfl, by simp, _, rfl⟩) (by decide) (by decide) ⟨rfl, N65⟩
  · refine own_irem 196 (1 : Int32) X55 hx hby at_195 rfl (by decide) hv56 ?_
    refine own_istore_n 197 #[oI x0, oI x1, oA b1, oI (1 : Int32), oU, oU] X55 hx hby at_196 rfl rfl ?_
    refine own_iload_n 198 X55 hx hby at_197 rfl rfl ?_
    refine own_iconst 199 (1 : Int32) X55 hx hby at_198 rfl (by decide) ?_
    rcases own_and1 x1 with hv66 | hv66
    · refine own_iand 200 (0 : Int32) X55 hx hby at_199 rfl hv66 ?_
      refine own_ifN 203 X55 hx hby at_200 rfl (by decide) ?_
      refine own_getS 206 X55 hx hby hZ hown (own_w hw 69 rfl) e55 (W.2.2.2.2.2.2.2.2.2.2.2.2.2.2.2.2.2.2.2.2.2.2.2.2.2.2.2.2.2.2.2.2.2.2.2.2.2.2.2.2.2.2.2.2.2.2.2.2.2.2.2.2.2.2.2.2.1.ext O55.2) at_203 rfl ?_
      intro T67 X67 e67
      refine own_goto 212 X67 hx hby at_206 (by decide) (by decide) ?_
      refine own_astore 214 #[oI x0, oI x1, oA b1, oI (1 : Int32), oA w_VERTEX, oU] X67 hx hby at_212 rfl rfl rfl ?_
      refine own_iload_n 215 X67 hx hby at_214 rfl rfl ?_
      refine own_iconst 216 (2 : Int32) X67 hx hby at_215 rfl (by decide) ?_
      refine own_icY 243 X67 hx hby at_216 (by decide) (by decide) (by decide) ?_
      refine own_iload_n 244 X67 hx hby at_243 rfl rfl ?_
      refine own_bipush 246 (8 : Int32) X67 hx hby at_244 rfl (by decide) ?_
      refine own_icY 273 X67 hx hby at_246 (by decide) (by decide) (by decide) ?_
      refine own_iconst 274 (1 : Int32) X67 hx hby at_273 rfl (by decide) ?_
      refine own_istore 276 #[oI x0, oI x1, oA b1, oI (1 : Int32), oA w_VERTEX, oI (1 : Int32)] X67 hx hby at_274 rfl rfl ?_
      refine own_aload_n 277 X67 hx hby at_276 rfl rfl rfl ?_
      refine own_iload_n 278 X67 hx hby at_277 rfl rfl ?_
      refine own_aaload 279 (.ref w_E) X67 hx hby hZ e67 V55 rfl at_278 rfl (by decide) rfl ?_
      refine own_aload 281 X67 hx hby at_279 rfl rfl rfl ?_
      refine own_virt (W := 0) 284 (rm1_1 l Z a0 hw [] w_V w_E w_OUT w_IN w_BOTH w_OUT_E w_IN_E w_BOTH_E w_OUT_V w_IN_V w_BOTH_V w_HAS w_HAS_LABEL w_HAS_NOT w_WHERE w_NOT w_AND w_OR w_ORDER w_VALUES w_ID w_LABEL w_COUNT w_SUM w_MEAN w_MIN w_MAX w_EDGE w_VERTEX W w_E w_VERTEX h55 n0 O55 (W.2.2.2.2.2.2.2.2.2.2.2.2.2.2.2.2.2.2.2.2.2.2.2.2.2.2.2.2.2.2.2.2.2.2.2.2.2.2.2.2.2.2.2.2.2.2.2.2.2.2.2.2.2.2.2.2.2.2.2.2.2.2.2.2.2.2.2.2.2.2.2.2.2.1.ext O55.2)) X67 hx hby hZ hown (own_w hw 62 rfl) (own_w hw 63 rfl) (notFace_of_selects (args := #[]) (mvT hZ (own_w hw 65 rfl))) (own_w hw 65 rfl) (own_w hw 64 rfl) (own_w hw 3 rfl) (own_w hw 66 rfl) (by decide) (by rw [hml]; rfl) w_E [(.ref w_VERTEX)] [] pd_0 rfl at_281 rfl e67 (W.2.2.2.1.ext O55.2) rfl rfl rfl (by decide) (by decide) (by decide) (by decide) ?_
      rintro _ T68 L68 X68 ⟨rfl, N68, e68⟩
      have N68 := Fr.app N55 N68
      show Go p e below _ (T68.setTop (mkF m 284 _ [(.int (1 : Int32))]))
      refine own_iload 286 X68 hx hby at_284 rfl rfl ?_
      refine own_icN 289 X68 hx hby at_286 rfl (by decide) ?_
      refine own_iconst 290 (1 : Int32) X68 hx hby at_289 rfl (by decide) ?_
      refine own_goto 294 X68 hx hby at_290 (by decide) (by decide) ?_
      exact own_ret (Q := own_Q1 n0) X68 hx hby hret hlk at_294 rfl (Or.inl ⟨rfl, by simp, _, rfl⟩) (by decide) (by decide) ⟨rfl, N68⟩
    · refine own_iand 200 (1 : Int32) X55 hx hby at_199 rfl hv66 ?_
      refine own_ifY 209 X55 hx hby at_200 (by decide) (by decide) (by decide) ?_
      refine own_getS 212 X55 hx hby hZ hown (own_w hw 59 rfl) e55 (W.2.2.2.2.2.2.2.2.2.2.2.2.2.2.2.2.2.2.2.2.2.2.2.2.2.2.2.2.2.2.2.2.2.2.2.2.2.2.2.2.2.2.2.2.2.2.2.2.2.2.2.2.2.2.1.ext O55.2) at_209 rfl ?_
      intro T69 X69 e69
      refine own_astore 214 #[oI x0, oI x1, oA b1, oI (1 : Int32), oA w_EDGE, oU] X69 hx hby at_212 rfl rfl rfl ?_
      refine own_iload_n 215 X69 hx hby at_214 rfl rfl ?_
      refine own_iconst 216 (2 : Int32) X69 hx hby at_215 rfl (by decide) ?_
      refine own_icY 243 X69 hx hby at_216 (by decide) (by decide) (by decide) ?_
      refine own_iload_n 244 X69 hx hby at_243 rfl rfl ?_
      refine own_bipush 246 (8 : Int32) X69 hx hby at_244 rfl (by decide) ?_
      refine own_icY 273 X69 hx hby at_246 (by decide) (by decide) (by decide) ?_
      refine own_iconst 274 (1 : Int32) X69 hx hby at_273 rfl (by decide) ?_
      refine own_istore 276 #[oI x0, oI x1, oA b1, oI (1 : Int32), oA w_EDGE, oI (1 : Int32)] X69 hx hby at_274 rfl rfl ?_
      refine own_aload_n 277 X69 hx hby at_276 rfl rfl rfl ?_
      refine own_iload_n 278 X69 hx hby at_277 rfl rfl ?_
      refine own_aaload 279 (.ref w_E) X69 hx hby hZ e69 V55 rfl at_278 rfl (by decide) rfl ?_
      refine own_aload 281 X69 hx hby at_279 rfl rfl rfl ?_
      refine own_virt (W := 0) 284 (rm1_1 l Z a0 hw [] w_V w_E w_OUT w_IN w_BOTH w_OUT_E w_IN_E w_BOTH_E w_OUT_V w_IN_V w_BOTH_V w_HAS w_HAS_LABEL w_HAS_NOT w_WHERE w_NOT w_AND w_OR w_ORDER w_VALUES w_ID w_LABEL w_COUNT w_SUM w_MEAN w_MIN w_MAX w_EDGE w_VERTEX W w_E w_EDGE h55 n0 O55 (W.2.2.2.2.2.2.2.2.2.2.2.2.2.2.2.2.2.2.2.2.2.2.2.2.2.2.2.2.2.2.2.2.2.2.2.2.2.2.2.2.2.2.2.2.2.2.2.2.2.2.2.2.2.2.2.2.2.2.2.2.2.2.2.2.2.2.2.2.2.2.2.2.2.1.ext O55.2)) X69 hx hby hZ hown (own_w hw 62 rfl) (own_w hw 63 rfl) (notFace_of_selects (args := #[]) (mvT hZ (own_w hw 65 rfl))) (own_w hw 65 rfl) (own_w hw 64 rfl) (own_w hw 3 rfl) (own_w hw 66 rfl) (by decide) (by rw [hml]; rfl) w_E [(.ref w_EDGE)] [] pd_0 rfl at_281 rfl e69 (W.2.2.2.1.ext O55.2) rfl rfl rfl (by decide) (by decide) (by decide) (by decide) ?_
      rintro _ T70 L70 X70 ⟨rfl, N70, e70⟩
      have N70 := Fr.app N55 N70
      show Go p e below _ (T70.setTop (mkF m 284 _ [(.int (1 : Int32))]))
      refine own_iload 286 X70 hx hby at_284 rfl rfl ?_
      refine own_icN 289 X70 hx hby at_286 rfl (by decide) ?_
      refine own_iconst 290 (1 : Int32) X70 hx hby at_289 rfl (by decide) ?_
      refine own_goto 294 X70 hx hby at_290 (by decide) (by decide) ?_
      exact own_ret (Q := own_Q1 n0) X70 hx hby hret hlk at_294 rfl (Or.inl ⟨rfl, by simp, _, rfl⟩) (by decide) (by decide) ⟨rfl, N70⟩
  · refine own_irem 196 (2 : Int32) X55 hx hby at_195 rfl (by decide) hv56 ?_
    refine own_istore_n 197 #[oI x0, oI x1, oA b1, oI (2 : Int32), oU, oU] X55 hx hby at_196 rfl rfl ?_
    refine own_iload_n 198 X55 hx hby at_197 rfl rfl ?_
    refine own_iconst 199 (1 : Int32) X55 hx hby at_198 rfl (by decide) ?_
    rcases own_and1 x1 with hv71 | hv71
    · refine own_iand 200 (0 : Int32) X55 hx hby at_199 rfl hv71 ?_
      refine own_ifN 203 X55 hx hby at_200 rfl (by decide) ?_
      refine own_getS 206 X55 hx hby hZ hown (own_w hw 69 rfl) e55 (W.2.2.2.2.2.2.2.2.2.2.2.2.2.2.2.2.2.2.2.2.2.2.2.2.2.2.2.2.2.2.2.2.2.2.2.2.2.2.2.2.2.2.2.2.2.2.2.2.2.2.2.2.2.2.2.2.1.ext O55.2) at_203 rfl ?_
      intro T72 X72 e72
      refine own_goto 212 X72 hx hby at_206 (by decide) (by decide) ?_
      refine own_astore 214 #[oI x0, oI x1, oA b1, oI (2 : Int32), oA w_VERTEX, oU] X72 hx hby at_212 rfl rfl rfl ?_
      refine own_iload_n 215 X72 hx hby at_214 rfl rfl ?_
      refine own_iconst 216 (2 : Int32) X72 hx hby at_215 rfl (by decide) ?_
      refine own_icN 219 X72 hx hby at_216 rfl (by decide) ?_
      refine own_iload_n 220 X72 hx hby at_219 rfl rfl ?_
      refine own_bipush 222 (7 : Int32) X72 hx hby at_220 rfl (by decide) ?_
      refine own_icN 225 X72 hx hby at_222 rfl (by decide) ?_
      refine own_aload 227 X72 hx hby at_225 rfl rfl rfl ?_
      refine own_getS 230 X72 hx hby hZ hown (own_w hw 69 rfl) e72 (W.2.2.2.2.2.2.2.2.2.2.2.2.2.2.2.2.2.2.2.2.2.2.2.2.2.2.2.2.2.2.2.2.2.2.2.2.2.2.2.2.2.2.2.2.2.2.2.2.2.2.2.2.2.2.2.2.1.ext O55.2) at_227 rfl ?_
      intro T73 X73 e73
      refine own_acmp 233 true X73 hx hby at_230 rfl rfl (by decide) (by decide) (decide_eq_true (congrArg Value.ref rfl)) ?_
      refine own_iconst 234 (1 : Int32) X73 hx hby at_233 rfl (by decide) ?_
      refine own_goto 238 X73 hx hby at_234 (by decide) (by decide) ?_
      refine own_istore 240 #[oI x0, oI x1, oA b1, oI (2 : Int32), oA w_VERTEX, oI (1 : Int32)] X73 hx hby at_238 rfl rfl ?_
      refine own_goto 276 X73 hx hby at_240 (by decide) (by decide) ?_
      refine own_aload_n 277 X73 hx hby at_276 rfl rfl rfl ?_
      refine own_iload_n 278 X73 hx hby at_277 rfl rfl ?_
      refine own_aaload 279 (.ref w_OUT) X73 hx hby hZ e73 V55 rfl at_278 rfl (by decide) rfl ?_
      refine own_aload 281 X73 hx hby at_279 rfl rfl rfl ?_
      refine own_virt (W := 0) 284 (rm1_2 l Z a0 hw [] w_V w_E w_OUT w_IN w_BOTH w_OUT_E w_IN_E w_BOTH_E w_OUT_V w_IN_V w_BOTH_V w_HAS w_HAS_LABEL w_HAS_NOT w_WHERE w_NOT w_AND w_OR w_ORDER w_VALUES w_ID w_LABEL w_COUNT w_SUM w_MEAN w_MIN w_MAX w_EDGE w_VERTEX W w_OUT w_VERTEX w_VERTEX h55 n0 O55 (W.2.2.2.2.2.2.2.2.2.2.2.2.2.2.2.2.2.2.2.2.2.2.2.2.2.2.2.2.2.2.2.2.2.2.2.2.2.2.2.2.2.2.2.2.2.2.2.2.2.2.2.2.2.2.2.2.2.2.2.2.2.2.2.2.2.2.2.2.2.2.2.2.2.2.2.1.ext O55.2) rfl) X73 hx hby hZ hown (own_w hw 62 rfl) (own_w hw 63 rfl) (notFace_of_selects (args := #[]) (mvT hZ (own_w hw 65 rfl))) (own_w hw 65 rfl) (own_w hw 64 rfl) (own_w hw 3 rfl) (own_w hw 66 rfl) (by decide) (by rw [hml]; rfl) w_OUT [(.ref w_VERTEX)] [] pd_0 rfl at_281 rfl e73 (W.2.2.2.2.2.1.ext O55.2) rfl rfl rfl (by decide) (by decide) (by decide) (by decide) ?_
      rintro _ T74 L74 X74 ⟨rfl, N74, e74⟩
      have N74 := Fr.app N55 N74
      show Go p e below _ (T74.setTop (mkF m 284 _ [(.int (1 : Int32))]))
      refine own_iload 286 X74 hx hby at_284 rfl rfl ?_
      refine own_icN 289 X74 hx hby at_286 rfl (by decide) ?_
      refine own_iconst 290 (1 : Int32) X74 hx hby at_289 rfl (by decide) ?_
      refine own_goto 294 X74 hx hby at_290 (by decide) (by decide) ?_
      exact own_ret (Q := own_Q1 n0) X74 hx hby hret hlk at_294 rfl (Or.inl ⟨rfl, by simp, _, rfl⟩) (by decide) (by decide) ⟨rfl, N74⟩
    · refine own_iand 200 (1 : Int32) X55 hx hby at_199 rfl hv71 ?_
      refine own_ifY 209 X55 hx hby at_200 (by decide) (by decide) (by decide) ?_
      refine own_getS 212 X55 hx hby hZ hown (own_w hw 59 rfl) e55 (W.2.2.2.2.2.2.2.2.2.2.2.2.2.2.2.2.2.2.2.2.2.2.2.2.2.2.2.2.2.2.2.2.2.2.2.2.2.2.2.2.2.2.2.2.2.2.2.2.2.2.2.2.2.2.1.ext O55.2) at_209 rfl ?_
      intro T75 X75 e75
      refine own_astore 214 #[oI x0, oI x1, oA b1, oI (2 : Int32), oA w_EDGE, oU] X75 hx hby at_212 rfl rfl rfl ?_
      refine own_iload_n 215 X75 hx hby at_214 rfl rfl ?_
      refine own_iconst 216 (2 : Int32) X75 hx hby at_215 rfl (by decide) ?_
      refine own_icN 219 X75 hx hby at_216 rfl (by decide) ?_
      refine own_iload_n 220 X75 hx hby at_219 rfl rfl ?_
      refine own_bipush 222 (7 : Int32) X75 hx hby at_220 rfl (by decide) ?_
      refine own_icN 225 X75 hx hby at_222 rfl (by decide) ?_
      refine own_aload 227 X75 hx hby at_225 rfl rfl rfl ?_
      refine own_getS 230 X75 hx hby hZ hown (own_w hw 69 rfl) e75 (W.2.2.2.2.2.2.2.2.2.2.2.2.2.2.2.2.2.2.2.2.2.2.2.2.2.2.2.2.2.2.2.2.2.2.2.2.2.2.2.2.2.2.2.2.2.2.2.2.2.2.2.2.2.2.2.2.1.ext O55.2) at_227 rfl ?_
      intro T76 X76 e76
      refine own_acmp 237 false X76 hx hby at_230 rfl rfl (by decide) (by decide) (decide_eq_false fun q => (Fld.ne W.2.2.2.2.2.2.2.2.2.2.2.2.2.2.2.2.2.2.2.2.2.2.2.2.2.2.2.2.2.2.2.2.2.2.2.2.2.2.2.2.2.2.2.2.2.2.2.2.2.2.2.2.2.2.2.2.2.2.2.2.2.2.2.2.2.2.2.1 W.2.2.2.2.2.2.2.2.2.2.2.2.2.2.2.2.2.2.2.2.2.2.2.2.2.2.2.2.2.2.2.2.2.2.2.2.2.2.2.2.2.2.2.2.2.2.2.2.2.2.2.2.2.2.2.2.2.2.2.2.2.2.2.2.2.2.2.2.1 (fun q => absurd (Value.int.inj q) (by decide))) (Value.ref.inj q)) ?_
      refine own_iconst 238 (0 : Int32) X76 hx hby at_237 rfl (by decide) ?_
      refine own_istore 240 #[oI x0, oI x1, oA b1, oI (2 : Int32), oA w_EDGE, oI (0 : Int32)] X76 hx hby at_238 rfl rfl ?_
      refine own_goto 276 X76 hx hby at_240 (by decide) (by decide) ?_
      refine own_aload_n 277 X76 hx hby at_276 rfl rfl rfl ?_
      refine own_iload_n 278 X76 hx hby at_277 rfl rfl ?_
      refine own_aaload 279 (.ref w_OUT) X76 hx hby hZ e76 V55 rfl at_278 rfl (by decide) rfl ?_
      refine own_aload 281 X76 hx hby at_279 rfl rfl rfl ?_
      refine own_virt (W := 0) 284 (rm1_3 l Z a0 hw [] w_V w_E w_OUT w_IN w_BOTH w_OUT_E w_IN_E w_BOTH_E w_OUT_V w_IN_V w_BOTH_V w_HAS w_HAS_LABEL w_HAS_NOT w_WHERE w_NOT w_AND w_OR w_ORDER w_VALUES w_ID w_LABEL w_COUNT w_SUM w_MEAN w_MIN w_MAX w_EDGE w_VERTEX W w_OUT w_EDGE w_VERTEX h55 n0 O55 (W.2.2.2.2.2.2.2.2.2.2.2.2.2.2.2.2.2.2.2.2.2.2.2.2.2.2.2.2.2.2.2.2.2.2.2.2.2.2.2.2.2.2.2.2.2.2.2.2.2.2.2.2.2.2.2.2.2.2.2.2.2.2.2.2.2.2.2.2.2.2.2.2.2.2.2.1.ext O55.2) (Fld.ne W.2.2.2.2.2.2.2.2.2.2.2.2.2.2.2.2.2.2.2.2.2.2.2.2.2.2.2.2.2.2.2.2.2.2.2.2.2.2.2.2.2.2.2.2.2.2.2.2.2.2.2.2.2.2.2.2.2.2.2.2.2.2.2.2.2.2.2.2.1 W.2.2.2.2.2.2.2.2.2.2.2.2.2.2.2.2.2.2.2.2.2.2.2.2.2.2.2.2.2.2.2.2.2.2.2.2.2.2.2.2.2.2.2.2.2.2.2.2.2.2.2.2.2.2.2.2.2.2.2.2.2.2.2.2.2.2.2.1 (fun q => absurd (Value.int.inj q) (by decide)))) X76 hx hby hZ hown (own_w hw 62 rfl) (own_w hw 63 rfl) (notFace_of_selects (args := #[]) (mvT hZ (own_w hw 65 rfl))) (own_w hw 65 rfl) (own_w hw 64 rfl) (own_w hw 3 rfl) (own_w hw 66 rfl) (by decide) (by rw [hml]; rfl) w_OUT [(.ref w_EDGE)] [] pd_0 rfl at_281 rfl e76 (W.2.2.2.2.2.1.ext O55.2) rfl rfl rfl (by decide) (by decide) (by decide) (by decide) ?_
      rintro _ T77 L77 X77 ⟨rfl, N77, e77⟩
      have N77 := Fr.app N55 N77
      show Go p e below _ (T77.setTop (mkF m 284 _ [(.int (0 : Int32))]))
      refine own_iload 286 X77 hx hby at_284 rfl rfl ?_
      refine own_icN 289 X77 hx hby at_286 rfl (by decide) ?_
      refine own_iconst 290 (1 : Int32) X77 hx hby at_289 rfl (by decide) ?_
      refine own_goto 294 X77 hx hby at_290 (by decide) (by decide) ?_
      exact own_ret (Q := own_Q1 n0) X77 hx hby hret hlk at_294 rfl (Or.inl ⟨rfl, by simp, _, rfl⟩) (by decide) (by decide) ⟨rfl, N77⟩
  · refine own_irem 196 (3 : Int32) X55 hx hby at_195 rfl (by decide) hv56 ?_
    refine own_istore_n 197 #[oI x0, oI x1, oA b1, oI (3 : Int32), oU, oU] X55 hx hby at_196 rfl rfl ?_
    refine own_iload_n 198 X55 hx hby at_197 rfl rfl ?_
    refine own_iconst 199 (1 : Int32) X55 hx hby at_198 rfl (by decide) ?_
    rcases own_and1 x1 with hv78 | hv78
    · refine own_iand 200 (0 : Int32) X55 hx hby at_199 rfl hv78 ?_
      refine own_ifN 203 X55 hx hby at_200 rfl (by decide) ?_
      refine own_getS 206 X55 hx hby hZ hown (own_w hw 69 rfl) e55 (W.2.2.2.2.2.2.2.2.2.2.2.2.2.2.2.2.2.2.2.2.2.2.2.2.2.2.2.2.2.2.2.2.2.2.2.2.2.2.2.2.2.2.2.2.2.2.2.2.2.2.2.2.2.2.2.2.1.ext O55.2) at_203 rfl ?_
      intro T79 X79 e79
      refine own_goto 212 X79 hx hby at_206 (by decide) (by decide) ?_
      refine own_astore 214 #[oI x0, oI x1, oA b1, oI (3 : Int32), oA w_VERTEX, oU] X79 hx hby at_212 rfl rfl rfl ?_
      refine own_iload_n 215 X79 hx hby at_214 rfl rfl ?_
      refine own_iconst 216 (2 : Int32) X79 hx hby at_215 rfl (by decide) ?_
      refine own_icN 219 X79 hx hby at_216 rfl (by decide) ?_
      refine own_iload_n 220 X79 hx hby at_219 rfl rfl ?_
      refine own_bipush 222 (7 : Int32) X79 hx hby at_220 rfl (by decide) ?_
      refine own_icN 225 X79 hx hby at_222 rfl (by decide) ?_
      refine own_aload 227 X79 hx hby at_225 rfl rfl rfl ?_
      refine own_getS 230 X79 hx hby hZ hown (own_w hw 69 rfl) e79 (W.2.2.2.2.2.2.2.2.2.2.2.2.2.2.2.2.2.2.2.2.2.2.2.2.2.2.2.2.2.2.2.2.2.2.2.2.2.2.2.2.2.2.2.2.2.2.2.2.2.2.2.2.2.2.2.2.1.ext O55.2) at_227 rfl ?_
      intro T80 X80 e80
      refine own_acmp 233 true X80 hx hby at_230 rfl rfl (by decide) (by decide) (decide_eq_true (congrArg Value.ref rfl)) ?_
      refine own_iconst 234 (1 : Int32) X80 hx hby at_233 rfl (by decide) ?_
      refine own_goto 238 X80 hx hby at_234 (by decide) (by decide) ?_
      refine own_istore 240 #[oI x0, oI x1, oA b1, oI (3 : Int32), oA w_VERTEX, oI (1 : Int32)] X80 hx hby at_238 rfl rfl ?_
      refine own_goto 276 X80 hx hby at_240 (by decide) (by decide) ?_
      refine own_aload_n 277 X80 hx hby at_276 rfl rfl rfl ?_
      refine own_iload_n 278 X80 hx hby at_277 rfl rfl ?_
      refine own_aaload 279 (.ref w_IN) X80 hx hby hZ e80 V55 rfl at_278 rfl (by decide) rfl ?_
      refine own_aload 281 X80 hx hby at_279 rfl rfl rfl ?_
      refine own_virt (W := 0) 284 (rm1_2 l Z a0 hw [] w_V w_E w_OUT w_IN w_BOTH w_OUT_E w_IN_E w_BOTH_E w_OUT_V w_IN_V w_BOTH_V w_HAS w_HAS_LABEL w_HAS_NOT w_WHERE w_NOT w_AND w_OR w_ORDER w_VALUES w_ID w_LABEL w_COUNT w_SUM w_MEAN w_MIN w_MAX w_EDGE w_VERTEX W w_IN w_VERTEX w_VERTEX h55 n0 O55 (W.2.2.2.2.2.2.2.2.2.2.2.2.2.2.2.2.2.2.2.2.2.2.2.2.2.2.2.2.2.2.2.2.2.2.2.2.2.2.2.2.2.2.2.2.2.2.2.2.2.2.2.2.2.2.2.2.2.2.2.2.2.2.2.2.2.2.2.2.2.1.ext O55.2) rfl) X80 hx hby hZ hown (own_w hw 62 rfl) (own_w hw 63 rfl) (notFace_of_selects (args := #[]) (mvT hZ (own_w hw 65 rfl))) (own_w hw 65 rfl) (own_w hw 64 rfl) (own_w hw 3 rfl) (own_w hw 66 rfl) (by decide) (by rw [hml]; rfl) w_IN [(.ref w_VERTEX)] [] pd_0 rfl at_281 rfl e80 (W.2.2.2.2.2.2.2.1.ext O55.2) rfl rfl rfl (by decide) (by decide) (by decide) (by decide) ?_
      rintro _ T81 L81 X81 ⟨rfl, N81, e81⟩
      have N81 := Fr.app N55 N81
      show Go p e below _ (T81.setTop (mkF m 284 _ [(.int (1 : Int32))]))
      refine own_iload 286 X81 hx hby at_284 rfl rfl ?_
      refine own_icN 289 X81 hx hby at_286 rfl (by decide) ?_
      refine own_iconst 290 (1 : Int32) X81 hx hby at_289 rfl (by decide) ?_
      refine own_goto 294 X81 hx hby at_290 (by decide) (by decide) ?_
      exact own_ret (Q := own_Q1 n0) X81 hx hby hret hlk at_294 rfl (Or.inl ⟨rfl, by simp, _, rfl⟩) (by decide) (by decide) ⟨rfl, N81⟩
    · refine own_iand 200 (1 : Int32) X55 hx hby at_199 rfl hv78 ?_
      refine own_ifY 209 X55 hx hby at_200 (by decide) (by decide) (by decide) ?_
      refine own_getS 212 X55 hx hby hZ hown (own_w hw 59 rfl) e55 (W.2.2.2.2.2.2.2.2.2.2.2.2.2.2.2.2.2.2.2.2.2.2.2.2.2.2.2.2.2.2.2.2.2.2.2.2.2.2.2.2.2.2.2.2.2.2.2.2.2.2.2.2.2.2.1.ext O55.2) at_209 rfl ?_
      intro T82 X82 e82
      refine own_astore 214 #[oI x0, oI x1, oA b1, oI (3 : Int32), oA w_EDGE, oU] X82 hx hby at_212 rfl rfl rfl ?_
      refine own_iload_n 215 X82 hx hby at_214 rfl rfl ?_
      refine own_iconst 216 (2 : Int32) X82 hx hby at_215 rfl (by decide) ?_
      refine own_icN 219 X82 hx hby at_216 rfl (by decide) ?_
      refine own_iload_n 220 X82 hx hby at_219 rfl rfl ?_
      refine own_bipush 222 (7 : Int32) X82 hx hby at_220 rfl (by decide) ?_
      refine own_icN 225 X82 hx hby at_222 rfl (by decide) ?_
      refine own_aload 227 X82 hx hby at_225 rfl rfl rfl ?_
      refine own_getS 230 X82 hx hby hZ hown (own_w hw 69 rfl) e82 (W.2.2.2.2.2.2.2.2.2.2.2.2.2.2.2.2.2.2.2.2.2.2.2.2.2.2.2.2.2.2.2.2.2.2.2.2.2.2.2.2.2.2.2.2.2.2.2.2.2.2.2.2.2.2.2.2.1.ext O55.2) at_227 rfl ?_
      intro T83 X83 e83
      refine own_acmp 237 false X83 hx hby at_230 rfl rfl (by decide) (by decide) (decide_eq_false fun q => (Fld.ne W.2.2.2.2.2.2.2.2.2.2.2.2.2.2.2.2.2.2.2.2.2.2.2.2.2.2.2.2.2.2.2.2.2.2.2.2.2.2.2.2.2.2.2.2.2.2.2.2.2.2.2.2.2.2.2.2.2.2.2.2.2.2.2.2.2.2.2.1 W.2.2.2.2.2.2.2.2.2.2.2.2.2.2.2.2.2.2.2.2.2.2.2.2.2.2.2.2.2.2.2.2.2.2.2.2.2.2.2.2.2.2.2.2.2.2.2.2.2.2.2.2.2.2.2.2.2.2.2.2.2.2.2.2.2.2.2.2.1 (fun q => absurd (Value.int.inj q) (by decide))) (Value.ref.inj q)) ?_
      refine own_iconst 238 (0 : Int32) X83 hx hby at_237 rfl (by decide) ?_
      refine own_istore 240 #[oI x0, oI x1, oA b1, oI (3 : Int32), oA w_EDGE, oI (0 : Int32)] X83 hx hby at_238 rfl rfl ?_
      refine own_goto 276 X83 hx hby at_240 (by decide) (by decide) ?_
      refine own_aload_n 277 X83 hx hby at_276 rfl rfl rfl ?_
      refine own_iload_n 278 X83 hx hby at_277 rfl rfl ?_
      refine own_aaload 279 (.ref w_IN) X83 hx hby hZ e83 V55 rfl at_278 rfl (by decide) rfl ?_
      refine own_aload 281 X83 hx hby at_279 rfl rfl rfl ?_
      refine own_virt (W := 0) 284 (rm1_3 l Z a0 hw [] w_V w_E w_OUT w_IN w_BOTH w_OUT_E w_IN_E w_BOTH_E w_OUT_V w_IN_V w_BOTH_V w_HAS w_HAS_LABEL w_HAS_NOT w_WHERE w_NOT w_AND w_OR w_ORDER w_VALUES w_ID w_LABEL w_COUNT w_SUM w_MEAN w_MIN w_MAX w_EDGE w_VERTEX W w_IN w_EDGE w_VERTEX h55 n0 O55 (W.2.2.2.2.2.2.2.2.2.2.2.2.2.2.2.2.2.2.2.2.2.2.2.2.2.2.2.2.2.2.2.2.2.2.2.2.2.2.2.2.2.2.2.2.2.2.2.2.2.2.2.2.2.2.2.2.2.2.2.2.2.2.2.2.2.2.2.2.2.1.ext O55.2) (Fld.ne W.2.2.2.2.2.2.2.2.2.2.2.2.2.2.2.2.2.2.2.2.2.2.2.2.2.2.2.2.2.2.2.2.2.2.2.2.2.2.2.2.2.2.2.2.2.2.2.2.2.2.2.2.2.2.2.2.2.2.2.2.2.2.2.2.2.2.2.2.1 W.2.2.2.2.2.2.2.2.2.2.2.2.2.2.2.2.2.2.2.2.2.2.2.2.2.2.2.2.2.2.2.2.2.2.2.2.2.2.2.2.2.2.2.2.2.2.2.2.2.2.2.2.2.2.2.2.2.2.2.2.2.2.2.2.2.2.2.1 (fun q => absurd (Value.int.inj q) (by decide)))) X83 hx hby hZ hown (own_w hw 62 rfl) (own_w hw 63 rfl) (notFace_of_selects (args := #[]) (mvT hZ (own_w hw 65 rfl))) (own_w hw 65 rfl) (own_w hw 64 rfl) (own_w hw 3 rfl) (own_w hw 66 rfl) (by decide) (by rw [hml]; rfl) w_IN [(.ref w_EDGE)] [] pd_0 rfl at_281 rfl e83 (W.2.2.2.2.2.2.2.1.ext O55.2) rfl rfl rfl (by decide) (by decide) (by decide) (by decide) ?_
      rintro _ T84 L84 X84 ⟨rfl, N84, e84⟩
      have N84 := Fr.app N55 N84
      show Go p e below _ (T84.setTop (mkF m 284 _ [(.int (0 : Int32))]))
      refine own_iload 286 X84 hx hby at_284 rfl rfl ?_
      refine own_icN 289 X84 hx hby at_286 rfl (by decide) ?_
      refine own_iconst 290 (1 : Int32) X84 hx hby at_289 rfl (by decide) ?_
      refine own_goto 294 X84 hx hby at_290 (by decide) (by decide) ?_
      exact own_ret (Q := own_Q1 n0) X84 hx hby hret hlk at_294 rfl (Or.inl ⟨rfl, by simp, _, rfl⟩) (by decide) (by decide) ⟨rfl, N84⟩
  · refine own_irem 196 (4 : Int32) X55 hx hby at_195 rfl (by decide) hv56 ?_
    refine own_istore_n 197 #[oI x0, oI x1, oA b1, oI (4 : Int32), oU, oU] X55 hx hby at_196 rfl rfl ?_
    refine own_iload_n 198 X55 hx hby at_197 rfl rfl ?_
    refine own_iconst 199 (1 : Int32) X55 hx hby at_198 rfl (by decide) ?_
    rcases own_and1 x1 with hv85 | hv85
    · refine own_iand 200 (0 : Int32) X55 hx hby at_199 rfl hv85 ?_
      refine own_ifN 203 X55 hx hby at_200 rfl (by decide) ?_
      refine own_getS 206 X55 hx hby hZ hown (own_w hw 69 rfl) e55 (W.2.2.2.2.2.2.2.2.2.2.2.2.2.2.2.2.2.2.2.2.2.2.2.2.2.2.2.2.2.2.2.2.2.2.2.2.2.2.2.2.2.2.2.2.2.2.2.2.2.2.2.2.2.2.2.2.1.ext O55.2) at_203 rfl ?_
      intro T86 X86 e86
      refine own_goto 212 X86 hx hby at_206 (by decide) (by decide) ?_
      refine own_astore 214 #[oI x0, oI x1, oA b1, oI (4 : Int32), oA w_VERTEX, oU] X86 hx hby at_212 rfl rfl rfl ?_
      refine own_iload_n 215 X86 hx hby at_214 rfl rfl ?_
      refine own_iconst 216 (2 : Int32) X86 hx hby at_215 rfl (by decide) ?_
      refine own_icN 219 X86 hx hby at_216 rfl (by decide) ?_
      refine own_iload_n 220 X86 hx hby at_219 rfl rfl ?_
      refine own_bipush 222 (7 : Int32) X86 hx hby at_220 rfl (by decide) ?_
      refine own_icN 225 X86 hx hby at_222 rfl (by decide) ?_
      refine own_aload 227 X86 hx hby at_225 rfl rfl rfl ?_
      refine own_getS 230 X86 hx hby hZ hown (own_w hw 69 rfl) e86 (W.2.2.2.2.2.2.2.2.2.2.2.2.2.2.2.2.2.2.2.2.2.2.2.2.2.2.2.2.2.2.2.2.2.2.2.2.2.2.2.2.2.2.2.2.2.2.2.2.2.2.2.2.2.2.2.2.1.ext O55.2) at_227 rfl ?_
      intro T87 X87 e87
      refine own_acmp 233 true X87 hx hby at_230 rfl rfl (by decide) (by decide) (decide_eq_true (congrArg Value.ref rfl)) ?_
      refine own_iconst 234 (1 : Int32) X87 hx hby at_233 rfl (by decide) ?_
      refine own_goto 238 X87 hx hby at_234 (by decide) (by decide) ?_
      refine own_istore 240 #[oI x0, oI x1, oA b1, oI (4 : Int32), oA w_VERTEX, oI (1 : Int32)] X87 hx hby at_238 rfl rfl ?_
      refine own_goto 276 X87 hx hby at_240 (by decide) (by decide) ?_
      refine own_aload_n 277 X87 hx hby at_276 rfl rfl rfl ?_
      refine own_iload_n 278 X87 hx hby at_277 rfl rfl ?_
      refine own_aaload 279 (.ref w_BOTH) X87 hx hby hZ e87 V55 rfl at_278 rfl (by decide) rfl ?_
      refine own_aload 281 X87 hx hby at_279 rfl rfl rfl ?_
      refine own_virt (W := 0) 284 (rm1_2 l Z a0 hw [] w_V w_E w_OUT w_IN w_BOTH w_OUT_E w_IN_E w_BOTH_E w_OUT_V w_IN_V w_BOTH_V w_HAS w_HAS_LABEL w_HAS_NOT w_WHERE w_NOT w_AND w_OR w_ORDER w_VALUES w_ID w_LABEL w_COUNT w_SUM w_MEAN w_MIN w_MAX w_EDGE w_VERTEX W w_BOTH w_VERTEX w_VERTEX h55 n0 O55 (W.2.2.2.2.2.2.2.2.2.2.2.2.2.2.2.2.2.2.2.2.2.2.2.2.2.2.2.2.2.2.2.2.2.2.2.2.2.2.2.2.2.2.2.2.2.2.2.2.2.2.2.2.2.2.2.2.2.2.2.2.2.2.2.2.2.2.2.2.2.2.2.2.2.2.2.2.2.2.2.2.2.1.ext O55.2) rfl) X87 hx hby hZ hown (own_w hw 62 rfl) (own_w hw 63 rfl) (notFace_of_selects (args := #[]) (mvT hZ (own_w hw 65 rfl))) (own_w hw 65 rfl) (own_w hw 64 rfl) (own_w hw 3 rfl) (own_w hw 66 rfl) (by decide) (by rw [hml]; rfl) w_BOTH [(.ref w_VERTEX)] [] pd_0 rfl at_281 rfl e87 (W.2.2.2.2.2.2.2.2.2.1.ext O55.2) rfl rfl rfl (by decide) (by decide) (by decide) (by decide) ?_
      rintro _ T88 L88 X88 ⟨rfl, N88, e88⟩
      have N88 := Fr.app N55 N88
      show Go p e below _ (T88.setTop (mkF m 284 _ [(.int (1 : Int32))]))
      refine own_iload 286 X88 hx hby at_284 rfl rfl ?_
      refine own_icN 289 X88 hx hby at_286 rfl (by decide) ?_
      refine own_iconst 290 (1 : Int32) X88 hx hby at_289 rfl (by decide) ?_
      refine own_goto 294 X88 hx hby at_290 (by decide) (by decide) ?_
      exact own_ret (Q := own_Q1 n0) X88 hx hby hret hlk at_294 rfl (Or.inl ⟨rfl, by simp, _, rfl⟩) (by decide) (by decide) ⟨rfl, N88⟩
    · refine own_iand 200 (1 : Int32) X55 hx hby at_199 rfl hv85 ?_
      refine own_ifY 209 X55 hx hby at_200 (by decide) (by decide) (by decide) ?_
      refine own_getS 212 X55 hx hby hZ hown (own_w hw 59 rfl) e55 (W.2.2.2.2.2.2.2.2.2.2.2.2.2.2.2.2.2.2.2.2.2.2.2.2.2.2.2.2.2.2.2.2.2.2.2.2.2.2.2.2.2.2.2.2.2.2.2.2.2.2.2.2.2.2.1.ext O55.2) at_209 rfl ?_
      intro T89 X89 e89
      refine own_astore 214 #[oI x0, oI x1, oA b1, oI (4 : Int32), oA w_EDGE, oU] X89 hx hby at_212 rfl rfl rfl ?_
      refine own_iload_n 215 X89 hx hby at_214 rfl rfl ?_
      refine own_iconst 216 (2 : Int32) X89 hx hby at_215 rfl (by decide) ?_
      refine own_icN 219 X89 hx hby at_216 rfl (by decide) ?_
      refine own_iload_n 220 X89 hx hby at_219 rfl rfl ?_
      refine own_bipush 222 (7 : Int32) X89 hx hby at_220 rfl (by decide) ?_
      refine own_icN 225 X89 hx hby at_222 rfl (by decide) ?_
      refine own_aload 227 X89 hx hby at_225 rfl rfl rfl ?_
      refine own_getS 230 X89 hx hby hZ hown (own_w hw 69 rfl) e89 (W.2.2.2.2.2.2.2.2.2.2.2.2.2.2.2.2.2.2.2.2.2.2.2.2.2.2.2.2.2.2.2.2.2.2.2.2.2.2.2.2.2.2.2.2.2.2.2.2.2.2.2.2.2.2.2.2.1.ext O55.2) at_227 rfl ?_
      intro T90 X90 e90
      refine own_acmp 237 false X90 hx hby at_230 rfl rfl (by decide) (by decide) (decide_eq_false fun q => (Fld.ne W.2.2.2.2.2.2.2.2.2.2.2.2.2.2.2.2.2.2.2.2.2.2.2.2.2.2.2.2.2.2.2.2.2.2.2.2.2.2.2.2.2.2.2.2.2.2.2.2.2.2.2.2.2.2.2.2.2.2.2.2.2.2.2.2.2.2.2.1 W.2.2.2.2.2.2.2.2.2.2.2.2.2.2.2.2.2.2.2.2.2.2.2.2.2.2.2.2.2.2.2.2.2.2.2.2.2.2.2.2.2.2.2.2.2.2.2.2.2.2.2.2.2.2.2.2.2.2.2.2.2.2.2.2.2.2.2.2.1 (fun q => absurd (Value.int.inj q) (by decide))) (Value.ref.inj q)) ?_
      refine own_iconst 238 (0 : Int32) X90 hx hby at_237 rfl (by decide) ?_
      refine own_istore 240 #[oI x0, oI x1, oA b1, oI (4 : Int32), oA w_EDGE, oI (0 : Int32)] X90 hx hby at_238 rfl rfl ?_
      refine own_goto 276 X90 hx hby at_240 (by decide) (by decide) ?_
      refine own_aload_n 277 X90 hx hby at_276 rfl rfl rfl ?_
      refine own_iload_n 278 X90 hx hby at_277 rfl rfl ?_
      refine own_aaload 279 (.ref w_BOTH) X90 hx hby hZ e90 V55 rfl at_278 rfl (by decide) rfl ?_
      refine own_aload 281 X90 hx hby at_279 rfl rfl rfl ?_
      refine own_virt (W := 0) 284 (rm1_3 l Z a0 hw [] w_V w_E w_OUT w_IN w_BOTH w_OUT_E w_IN_E w_BOTH_E w_OUT_V w_IN_V w_BOTH_V w_HAS w_HAS_LABEL w_HAS_NOT w_WHERE w_NOT w_AND w_OR w_ORDER w_VALUES w_ID w_LABEL w_COUNT w_SUM w_MEAN w_MIN w_MAX w_EDGE w_VERTEX W w_BOTH w_EDGE w_VERTEX h55 n0 O55 (W.2.2.2.2.2.2.2.2.2.2.2.2.2.2.2.2.2.2.2.2.2.2.2.2.2.2.2.2.2.2.2.2.2.2.2.2.2.2.2.2.2.2.2.2.2.2.2.2.2.2.2.2.2.2.2.2.2.2.2.2.2.2.2.2.2.2.2.2.2.2.2.2.2.2.2.2.2.2.2.2.2.1.ext O55.2) (Fld.ne W.2.2.2.2.2.2.2.2.2.2.2.2.2.2.2.2.2.2.2.2.2.2.2.2.2.2.2.2.2.2.2.2.2.2.2.2.2.2.2.2.2.2.2.2.2.2.2.2.2.2.2.2.2.2.2.2.2.2.2.2.2.2.2.2.2.2.2.2.1 W.2.2.2.2.2.2.2.2.2.2.2.2.2.2.2.2.2.2.2.2.2.2.2.2.2.2.2.2.2.2.2.2.2.2.2.2.2.2.2.2.2.2.2.2.2.2.2.2.2.2.2.2.2.2.2.2.2.2.2.2.2.2.2.2.2.2.2.1 (fun q => absurd (Value.int.inj q) (by decide)))) X90 hx hby hZ hown (own_w hw 62 rfl) (own_w hw 63 rfl) (notFace_of_selects (args := #[]) (mvT hZ (own_w hw 65 rfl))) (own_w hw 65 rfl) (own_w hw 64 rfl) (own_w hw 3 rfl) (own_w hw 66 rfl) (by decide) (by rw [hml]; rfl) w_BOTH [(.ref w_EDGE)] [] pd_0 rfl at_281 rfl e90 (W.2.2.2.2.2.2.2.2.2.1.ext O55.2) rfl rfl rfl (by decide) (by decide) (by decide) (by decide) ?_
      rintro _ T91 L91 X91 ⟨rfl, N91, e91⟩
      have N91 := Fr.app N55 N91
      show Go p e below _ (T91.setTop (mkF m 284 _ [(.int (0 : Int32))]))
      refine own_iload 286 X91 hx hby at_284 rfl rfl ?_
      refine own_icN 289 X91 hx hby at_286 rfl (by decide) ?_
      refine own_iconst 290 (1 : Int32) X91 hx hby at_289 rfl (by decide) ?_
      refine own_goto 294 X91 hx hby at_290 (by decide) (by decide) ?_
      exact own_ret (Q := own_Q1 n0) X91 hx hby hret hlk at_294 rfl (Or.inl ⟨rfl, by simp, _, rfl⟩) (by decide) (by decide) ⟨rfl, N91⟩
  · refine own_irem 196 (5 : Int32) X55 hx hby at_195 rfl (by decide) hv56 ?_
    refine own_istore_n 197 #[oI x0, oI x1, oA b1, oI (5 : Int32), oU, oU] X55 hx hby at_196 rfl rfl ?_
    refine own_iload_n 198 X55 hx hby at_197 rfl rfl ?_
    refine own_iconst 199 (1 : Int32) X55 hx hby at_198 rfl (by decide) ?_
    rcases own_and1 x1 with hv92 | hv92
    · refine own_iand 200 (0 : Int32) X55 hx hby at_199 rfl hv92 ?_
      refine own_ifN 203 X55 hx hby at_200 rfl (by decide) ?_
      refine own_getS 206 X55 hx hby hZ hown (own_w hw 69 rfl) e55 (W.2.2.2.2.2.2.2.2.2.2.2.2.2.2.2.2.2.2.2.2.2.2.2.2.2.2.2.2.2.2.2.2.2.2.2.2.2.2.2.2.2.2.2.2.2.2.2.2.2.2.2.2.2.2.2.2.1.ext O55.2) at_203 rfl ?_
      intro T93 X93 e93
      refine own_goto 212 X93 hx hby at_206 (by decide) (by decide) ?_
      refine own_astore 214 #[oI x0, oI x1, oA b1, oI (5 : Int32), oA w_VERTEX, oU] X93 hx hby at_212 rfl rfl rfl ?_
      refine own_iload_n 215 X93 hx hby at_214 rfl rfl ?_
      refine own_iconst 216 (2 : Int32) X93 hx hby at_215 rfl (by decide) ?_
      refine own_icN 219 X93 hx hby at_216 rfl (by decide) ?_
      refine own_iload_n 220 X93 hx hby at_219 rfl rfl ?_
      refine own_bipush 222 (7 : Int32) X93 hx hby at_220 rfl (by decide) ?_
      refine own_icN 225 X93 hx hby at_222 rfl (by decide) ?_
      refine own_aload 227 X93 hx hby at_225 rfl rfl rfl ?_
      refine own_getS 230 X93 hx hby hZ hown (own_w hw 69 rfl) e93 (W.2.2.2.2.2.2.2.2.2.2.2.2.2.2.2.2.2.2.2.2.2.2.2.2.2.2.2.2.2.2.2.2.2.2.2.2.2.2.2.2.2.2.2.2.2.2.2.2.2.2.2.2.2.2.2.2.1.ext O55.2) at_227 rfl ?_
      intro T94 X94 e94
      refine own_acmp 233 true X94 hx hby at_230 rfl rfl (by decide) (by decide) (decide_eq_true (congrArg Value.ref rfl)) ?_
      refine own_iconst 234 (1 : Int32) X94 hx hby at_233 rfl (by decide) ?_
      refine own_goto 238 X94 hx hby at_234 (by decide) (by decide) ?_
      refine own_istore 240 #[oI x0, oI x1, oA b1, oI (5 : Int32), oA w_VERTEX, oI (1 : Int32)] X94 hx hby at_238 rfl rfl ?_
      refine own_goto 276 X94 hx hby at_240 (by decide) (by decide) ?_
      refine own_aload_n 277 X94 hx hby at_276 rfl rfl rfl ?_
      refine own_iload_n 278 X94 hx hby at_277 rfl rfl ?_
      refine own_aaload 279 (.ref w_OUT_E) X94 hx hby hZ e94 V55 rfl at_278 rfl (by decide) rfl ?_
      refine own_aload 281 X94 hx hby at_279 rfl rfl rfl ?_
      refine own_virt (W := 0) 284 (rm1_2 l Z a0 hw [] w_V w_E w_OUT w_IN w_BOTH w_OUT_E w_IN_E w_BOTH_E w_OUT_V w_IN_V w_BOTH_V w_HAS w_HAS_LABEL w_HAS_NOT w_WHERE w_NOT w_AND w_OR w_ORDER w_VALUES w_ID w_LABEL w_COUNT w_SUM w_MEAN w_MIN w_MAX w_EDGE w_VERTEX W w_OUT_E w_VERTEX w_VERTEX h55 n0 O55 (W.2.2.2.2.2.2.2.2.2.2.2.2.2.2.2.2.2.2.2.2.2.2.2.2.2.2.2.2.2.2.2.2.2.2.2.2.2.2.2.2.2.2.2.2.2.2.2.2.2.2.2.2.2.2.2.2.2.2.2.2.1.ext O55.2) rfl) X94 hx hby hZ hown (own_w hw 62 rfl) (own_w hw 63 rfl) (notFace_of_selects (args := #[]) (mvT hZ (own_w hw 65 rfl))) (own_w hw 65 rfl) (own_w hw 64 rfl) (own_w hw 3 rfl) (own_w hw 66 rfl) (by decide) (by rw [hml]; rfl) w_OUT_E [(.ref w_VERTEX)] [] pd_0 rfl at_281 rfl e94 (W.2.2.2.2.2.2.2.2.2.2.2.1.ext O55.2) rfl rfl rfl (by decide) (by decide) (by decide) (by decide) ?_
      rintro _ T95 L95 X95 ⟨rfl, N95, e95⟩
      have N95 := Fr.app N55 N95
      show Go p e below _ (T95.setTop (mkF m 284 _ [(.int (1 : Int32))]))
      refine own_iload 286 X95 hx hby at_284 rfl rfl ?_
      refine own_icN 289 X95 hx hby at_286 rfl (by decide) ?_
      refine own_iconst 290 (1 : Int32) X95 hx hby at_289 rfl (by decide) ?_
      refine own_goto 294 X95 hx hby at_290 (by decide) (by decide) ?_
      exact own_ret (Q := own_Q1 n0) X95 hx hby hret hlk at_294 rfl (Or.inl ⟨rfl, by simp, _, rfl⟩) (by decide) (by decide) ⟨rfl, N95⟩
    · refine own_iand 200 (1 : Int32) X55 hx hby at_199 rfl hv92 ?_
      refine own_ifY 209 X55 hx hby at_200 (by decide) (by decide) (by decide) ?_
      refine own_getS 212 X55 hx hby hZ hown (own_w hw 59 rfl) e55 (W.2.2.2.2.2.2.2.2.2.2.2.2.2.2.2.2.2.2.2.2.2.2.2.2.2.2.2.2.2.2.2.2.2.2.2.2.2.2.2.2.2.2.2.2.2.2.2.2.2.2.2.2.2.2.1.ext O55.2) at_209 rfl ?_
      intro T96 X96 e96
      refine own_astore 214 #[oI x0, oI x1, oA b1, oI (5 : Int32), oA w_EDGE, oU] X96 hx hby at_212 rfl rfl rfl ?_
      refine own_iload_n 215 X96 hx hby at_214 rfl rfl ?_
      refine own_iconst 216 (2 : Int32) X96 hx hby at_215 rfl (by decide) ?_
      refine own_icN 219 X96 hx hby at_216 rfl (by decide) ?_
      refine own_iload_n 220 X96 hx hby at_219 rfl rfl ?_
      refine own_bipush 222 (7 : Int32) X96 hx hby at_220 rfl (by decide) ?_
      refine own_icN 225 X96 hx hby at_222 rfl (by decide) ?_
      refine own_aload 227 X96 hx hby at_225 rfl rfl rfl ?_
      refine own_getS 230 X96 hx hby hZ hown (own_w hw 69 rfl) e96 (W.2.2.2.2.2.2.2.2.2.2.2.2.2.2.2.2.2.2.2.2.2.2.2.2.2.2.2.2.2.2.2.2.2.2.2.2.2.2.2.2.2.2.2.2.2.2.2.2.2.2.2.2.2.2.2.2.1.ext O55.2) at_227 rfl ?_
      intro T97 X97 e97
      refine own_acmp 237 false X97 hx hby at_230 rfl rfl (by decide) (by decide) (decide_eq_false fun q => (Fld.ne W.2.2.2.2.2.2.2.2.2.2.2.2.2.2.2.2.2.2.2.2.2.2.2.2.2.2.2.2.2.2.2.2.2.2.2.2.2.2.2.2.2.2.2.2.2.2.2.2.2.2.2.2.2.2.2.2.2.2.2.2.2.2.2.2.2.2.2.1 W.2.2.2.2.2.2.2.2.2.2.2.2.2.2.2.2.2.2.2.2.2.2.2.2.2.2.2.2.2.2.2.2.2.2.2.2.2.2.2.2.2.2.2.2.2.2.2.2.2.2.2.2.2.2.2.2.2.2.2.2.2.2.2.2.2.2.2.2.1 (fun q => absurd (Value.int.inj q) (by decide))) (Value.ref.inj q)) ?_
      refine own_iconst 238 (0 : Int32) X97 hx hby at_237 rfl (by decide) ?_
      refine own_istore 240 #[oI x0, oI x1, oA b1, oI (5 : Int32), oA w_EDGE, oI (0 : Int32)] X97 hx hby at_238 rfl rfl ?_
      refine own_goto 276 X97 hx hby at_240 (by decide) (by decide) ?_
      refine own_aload_n 277 X97 hx hby at_276 rfl rfl rfl ?_
      refine own_iload_n 278 X97 hx hby at_277 rfl rfl ?_
      refine own_aaload 279 (.ref w_OUT_E) X97 hx hby hZ e97 V55 rfl at_278 rfl (by decide) rfl ?_
      refine own_aload 281 X97 hx hby at_279 rfl rfl rfl ?_
      refine own_virt (W := 0) 284 (rm1_3 l Z a0 hw [] w_V w_E w_OUT w_IN w_BOTH w_OUT_E w_IN_E w_BOTH_E w_OUT_V w_IN_V w_BOTH_V w_HAS w_HAS_LABEL w_HAS_NOT w_WHERE w_NOT w_AND w_OR w_ORDER w_VALUES w_ID w_LABEL w_COUNT w_SUM w_MEAN w_MIN w_MAX w_EDGE w_VERTEX W w_OUT_E w_EDGE w_VERTEX h55 n0 O55 (W.2.2.2.2.2.2.2.2.2.2.2.2.2.2.2.2.2.2.2.2.2.2.2.2.2.2.2.2.2.2.2.2.2.2.2.2.2.2.2.2.2.2.2.2.2.2.2.2.2.2.2.2.2.2.2.2.2.2.2.2.1.ext O55.2) (Fld.ne W.2.2.2.2.2.2.2.2.2.2.2.2.2.2.2.2.2.2.2.2.2.2.2.2.2.2.2.2.2.2.2.2.2.2.2.2.2.2.2.2.2.2.2.2.2.2.2.2.2.2.2.2.2.2.2.2.2.2.2.2.2.2.2.2.2.2.2.2.1 W.2.2.2.2.2.2.2.2.2.2.2.2.2.2.2.2.2.2.2.2.2.2.2.2.2.2.2.2.2.2.2.2.2.2.2.2.2.2.2.2.2.2.2.2.2.2.2.2.2.2.2.2.2.2.2.2.2.2.2.2.2.2.2.2.2.2.2.1 (fun q => absurd (Value.int.inj q) (by decide)))) X97 hx hby hZ hown (own_w hw 62 rfl) (own_w hw 63 rfl) (notFace_of_selects (args := #[]) (mvT hZ (own_w hw 65 rfl))) (own_w hw 65 rfl) (own_w hw 64 rfl) (own_w hw 3 rfl) (own_w hw 66 rfl) (by decide) (by rw [hml]; rfl) w_OUT_E [(.ref w_EDGE)] [] pd_0 rfl at_281 rfl e97 (W.2.2.2.2.2.2.2.2.2.2.2.1.ext O55.2) rfl rfl rfl (by decide) (by decide) (by decide) (by decide) ?_
      rintro _ T98 L98 X98 ⟨rfl, N98, e98⟩
      have N98 := Fr.app N55 N98
      show Go p e below _ (T98.setTop (mkF m 284 _ [(.int (0 : Int32))]))
      refine own_iload 286 X98 hx hby at_284 rfl rfl ?_
      refine own_icN 289 X98 hx hby at_286 rfl (by decide) ?_
      refine own_iconst 290 (1 : Int32) X98 hx hby at_289 rfl (by decide) ?_
      refine own_goto 294 X98 hx hby at_290 (by decide) (by decide) ?_
      exact own_ret (Q := own_Q1 n0) X98 hx hby hret hlk at_294 rfl (Or.inl ⟨rfl, by simp, _, rfl⟩) (by decide) (by decide) ⟨rfl, N98⟩
  · refine own_irem 196 (6 : Int32) X55 hx hby at_195 rfl (by decide) hv56 ?_
    refine own_istore_n 197 #[oI x0, oI x1, oA b1, oI (6 : Int32), oU, oU] X55 hx hby at_196 rfl rfl ?_
    refine own_iload_n 198 X55 hx hby at_197 rfl rfl ?_
    refine own_iconst 199 (1 : Int32) X55 hx hby at_198 rfl (by decide) ?_
    rcases own_and1 x1 with hv99 | hv99
    · refine own_iand 200 (0 : Int32) X55 hx hby at_199 rfl hv99 ?_
      refine own_ifN 203 X55 hx hby at_200 rfl (by decide) ?_
      refine own_getS 206 X55 hx hby hZ hown (own_w hw 69 rfl) e55 (W.2.2.2.2.2.2.2.2.2.2.2.2.2.2.2.2.2.2.2.2.2.2.2.2.2.2.2.2.2.2.2.2.2.2.2.2.2.2.2.2.2.2.2.2.2.2.2.2.2.2.2.2.2.2.2.2.1.ext O55.2) at_203 rfl ?_
      intro T100 X100 e100
      refine own_goto 212 X100 hx hby at_206 (by decide) (by decide) ?_
      refine own_astore 214 #[oI x0, oI x1, oA b1, oI (6 : Int32), oA w_VERTEX, oU] X100 hx hby at_212 rfl rfl rfl ?_
      refine own_iload_n 215 X100 hx hby at_214 rfl rfl ?_
      refine own_iconst 216 (2 : Int32) X100 hx hby at_215 rfl (by decide) ?_
      refine own_icN 219 X100 hx hby at_216 rfl (by decide) ?_
      refine own_iload_n 220 X100 hx hby at_219 rfl rfl ?_
      refine own_bipush 222 (7 : Int32) X100 hx hby at_220 rfl (by decide) ?_
      refine own_icN 225 X100 hx hby at_222 rfl (by decide) ?_
      refine own_aload 227 X100 hx hby at_225 rfl rfl rfl ?_
      refine own_getS 230 X100 hx hby hZ hown (own_w hw 69 rfl) e100 (W.2.2.2.2.2.2.2.2.2.2.2.2.2.2.2.2.2.2.2.2.2.2.2.2.2.2.2.2.2.2.2.2.2.2.2.2.2.2.2.2.2.2.2.2.2.2.2.2.2.2.2.2.2.2.2.2.1.ext O55.2) at_227 rfl ?_
      intro T101 X101 e101
      refine own_acmp 233 true X101 hx hby at_230 rfl rfl (by decide) (by decide) (decide_eq_true (congrArg Value.ref rfl)) ?_
      refine own_iconst 234 (1 : Int32) X101 hx hby at_233 rfl (by decide) ?_
      refine own_goto 238 X101 hx hby at_234 (by decide) (by decide) ?_
      refine own_istore 240 #[oI x0, oI x1, oA b1, oI (6 : Int32), oA w_VERTEX, oI (1 : Int32)] X101 hx hby at_238 rfl rfl ?_
      refine own_goto 276 X101 hx hby at_240 (by decide) (by decide) ?_
      refine own_aload_n 277 X101 hx hby at_276 rfl rfl rfl ?_
      refine own_iload_n 278 X101 hx hby at_277 rfl rfl ?_
      refine own_aaload 279 (.ref w_IN_E) X101 hx hby hZ e101 V55 rfl at_278 rfl (by decide) rfl ?_
      refine own_aload 281 X101 hx hby at_279 rfl rfl rfl ?_
      refine own_virt (W := 0) 284 (rm1_2 l Z a0 hw [] w_V w_E w_OUT w_IN w_BOTH w_OUT_E w_IN_E w_BOTH_E w_OUT_V w_IN_V w_BOTH_V w_HAS w_HAS_LABEL w_HAS_NOT w_WHERE w_NOT w_AND w_OR w_ORDER w_VALUES w_ID w_LABEL w_COUNT w_SUM w_MEAN w_MIN w_MAX w_EDGE w_VERTEX W w_IN_E w_VERTEX w_VERTEX h55 n0 O55 (W.2.2.2.2.2.2.2.2.2.2.2.2.2.2.2.2.2.2.2.2.2.2.2.2.2.2.2.2.2.2.2.2.2.2.2.2.2.2.2.2.2.2.2.2.2.2.2.2.2.2.2.2.2.2.2.2.2.2.2.2.2.2.2.1.ext O55.2) rfl) X101 hx hby hZ hown (own_w hw 62 rfl) (own_w hw 63 rfl) (notFace_of_selects (args := #[]) (mvT hZ (own_w hw 65 rfl))) (own_w hw 65 rfl) (own_w hw 64 rfl) (own_w hw 3 rfl) (own_w hw 66 rfl) (by decide) (by rw [hml]; rfl) w_IN_E [(.ref w_VERTEX)] [] pd_0 rfl at_281 rfl e101 (W.2.2.2.2.2.2.2.2.2.2.2.2.2.1.ext O55.2) rfl rfl rfl (by decide) (by decide) (by decide) (by decide) ?_
      rintro _ T102 L102 X102 ⟨rfl, N102, e102⟩
      have N102 := Fr.app N55 N102
      show Go p e below _ (T102.setTop (mkF m 284 _ [(.int (1 : Int32))]))
      refine own_iload 286 X102 hx hby at_284 rfl rfl ?_
      refine own_icN 289 X102 hx hby at_286 rfl (by decide) ?_
      refine own_iconst 290 (1 : Int32) X102 hx hby at_289 rfl (by decide) ?_
      refine own_goto 294 X102 hx hby at_290 (by decide) (by decide) ?_
      exact own_ret (Q := own_Q1 n0) X102 hx hby hret hlk at_294 rfl (Or.inl ⟨rfl, by simp, _, rfl⟩) (by decide) (by decide) ⟨rfl, N102⟩
    · refine own_iand 200 (1 : Int32) X55 hx hby at_199 rfl hv99 ?_
      refine own_ifY 209 X55 hx hby at_200 (by decide) (by decide) (by decide) ?_
      refine own_getS 212 X55 hx hby hZ hown (own_w hw 59 rfl) e55 (W.2.2.2.2.2.2.2.2.2.2.2.2.2.2.2.2.2.2.2.2.2.2.2.2.2.2.2.2.2.2.2.2.2.2.2.2.2.2.2.2.2.2.2.2.2.2.2.2.2.2.2.2.2.2.1.ext O55.2) at_209 rfl ?_
      intro T103 X103 e103
      refine own_astore 214 #[oI x0, oI x1, oA b1, oI (6 : Int32), oA w_EDGE, oU] X103 hx hby at_212 rfl rfl rfl ?_
      refine own_iload_n 215 X103 hx hby at_214 rfl rfl ?_
      refine own_iconst 216 (2 : Int32) X103 hx hby at_215 rfl (by decide) ?_
      refine own_icN 219 X103 hx hby at_216 rfl (by decide) ?_
      refine own_iload_n 220 X103 hx hby at_219 rfl rfl ?_
      refine own_bipush 222 (7 : Int32) X103 hx hby at_220 rfl (by decide) ?_
      refine own_icN 225 X103 hx hby at_222 rfl (by decide) ?_
      refine own_aload 227 X103 hx hby at_225 rfl rfl rfl ?_
      refine own_getS 230 X103 hx hby hZ hown (own_w hw 69 rfl) e103 (W.2.2.2.2.2.2.2.2.2.2.2.2.2.2.2.2.2.2.2.2.2.2.2.2.2.2.2.2.2.2.2.2.2.2.2.2.2.2.2.2.2.2.2.2.2.2.2.2.2.2.2.2.2.2.2.2.1.ext O55.2) at_227 rfl ?_
      intro T104 X104 e104
      refine own_acmp 237 false X104 hx hby at_230 rfl rfl (by decide) (by decide) (decide_eq_false fun q => (Fld.ne W.2.2.2.2.2.2.2.2.2.2.2.2.2.2.2.2.2.2.2.2.2.2.2.2.2.2.2.2.2.2.2.2.2.2.2.2.2.2.2.2.2.2.2.2.2.2.2.2.2.2.2.2.2.2.2.2.2.2.2.2.2.2.2.2.2.2.2.1 W.2.2.2.2.2.2.2.2.2.2.2.2.2.2.2.2.2.2.2.2.2.2.2.2.2.2.2.2.2.2.2.2.2.2.2.2.2.2.2.2.2.2.2.2.2.2.2.2.2.2.2.2.2.2.2.2.2.2.2.2.2.2.2.2.2.2.2.2.1 (fun q => absurd (Value.int.inj q) (by decide))) (Value.ref.inj q)) ?_
      refine own_iconst 238 (0 : Int32) X104 hx hby at_237 rfl (by decide) ?_
      refine own_istore 240 #[oI x0, oI x1, oA b1, oI (6 : Int32), oA w_EDGE, oI (0 : Int32)] X104 hx hby at_238 rfl rfl ?_
      refine own_goto 276 X104 hx hby at_240 (by decide) (by decide) ?_
      refine own_aload_n 277 X104 hx hby at_276 rfl rfl rfl ?_
      refine own_iload_n 278 X104 hx hby at_277 rfl rfl ?_
      refine own_aaload 279 (.ref w_IN_E) X104 hx hby hZ e104 V55 rfl at_278 rfl (by decide) rfl ?_
      refine own_aload 281 X104 hx hby at_279 rfl rfl rfl ?_
      refine own_virt (W := 0) 284 (rm1_3 l Z a0 hw [] w_V w_E w_OUT w_IN w_BOTH w_OUT_E w_IN_E w_BOTH_E w_OUT_V w_IN_V w_BOTH_V w_HAS w_HAS_LABEL w_HAS_NOT w_WHERE w_NOT w_AND w_OR w_ORDER w_VALUES w_ID w_LABEL w_COUNT w_SUM w_MEAN w_MIN w_MAX w_EDGE w_VERTEX W w_IN_E w_EDGE w_VERTEX h55 n0 O55 (W.2.2.2.2.2.2.2.2.2.2.2.2.2.2.2.2.2.2.2.2.2.2.2.2.2.2.2.2.2.2.2.2.2.2.2.2.2.2.2.2.2.2.2.2.2.2.2.2.2.2.2.2.2.2.2.2.2.2.2.2.2.2.2.1.ext O55.2) (Fld.ne W.2.2.2.2.2.2.2.2.2.2.2.2.2.2.2.2.2.2.2.2.2.2.2.2.2.2.2.2.2.2.2.2.2.2.2.2.2.2.2.2.2.2.2.2.2.2.2.2.2.2.2.2.2.2.2.2.2.2.2.2.2.2.2.2.2.2.2.2.1 W.2.2.2.2.2.2.2.2.2.2.2.2.2.2.2.2.2.2.2.2.2.2.2.2.2.2.2.2.2.2.2.2.2.2.2.2.2.2.2.2.2.2.2.2.2.2.2.2.2.2.2.2.2.2.2.2.2.2.2.2.2.2.2.2.2.2.2.1 (fun q => absurd (Value.int.inj q) (by decide)))) X104 hx hby hZ hown (own_w hw 62 rfl) (own_w hw 63 rfl) (notFace_of_selects (args := #[]) (mvT hZ (own_w hw 65 rfl))) (own_w hw 65 rfl) (own_w hw 64 rfl) (own_w hw 3 rfl) (own_w hw 66 rfl) (by decide) (by rw [hml]; rfl) w_IN_E [(.ref w_EDGE)] [] pd_0 rfl at_281 rfl e104 (W.2.2.2.2.2.2.2.2.2.2.2.2.2.1.ext O55.2) rfl rfl rfl (by decide) (by decide) (by decide) (by decide) ?_
      rintro _ T105 L105 X105 ⟨rfl, N105, e105⟩
      have N105 := Fr.app N55 N105
      show Go p e below _ (T105.setTop (mkF m 284 _ [(.int (0 : Int32))]))
      refine own_iload 286 X105 hx hby at_284 rfl rfl ?_
      refine own_icN 289 X105 hx hby at_286 rfl (by decide) ?_
      refine own_iconst 290 (1 : Int32) X105 hx hby at_289 rfl (by decide) ?_
      refine own_goto 294 X105 hx hby at_290 (by decide) (by decide) ?_
      exact own_ret (Q := own_Q1 n0) X105 hx hby hret hlk at_294 rfl (Or.inl ⟨rfl, by simp, _, rfl⟩) (by decide) (by decide) ⟨rfl, N105⟩
  · refine own_irem 196 (7 : Int32) X55 hx hby at_195 rfl (by decide) hv56 ?_
    refine own_istore_n 197 #[oI x0, oI x1, oA b1, oI (7 : Int32), oU, oU] X55 hx hby at_196 rfl rfl ?_
    refine own_iload_n 198 X55 hx hby at_197 rfl rfl ?_
    refine own_iconst 199 (1 : Int32) X55 hx hby at_198 rfl (by decide) ?_
    rcases own_and1 x1 with hv106 | hv106
    · refine own_iand 200 (0 : Int32) X55 hx hby at_199 rfl hv106 ?_
      refine own_ifN 203 X55 hx hby at_200 rfl (by decide) ?_
      refine own_getS 206 X55 hx hby hZ hown (own_w hw 69 rfl) e55 (W.2.2.2.2.2.2.2.2.2.2.2.2.2.2.2.2.2.2.2.2.2.2.2.2.2.2.2.2.2.2.2.2.2.2.2.2.2.2.2.2.2.2.2.2.2.2.2.2.2.2.2.2.2.2.2.2.1.ext O55.2) at_203 rfl ?_
      intro T107 X107 e107
      refine own_goto 212 X107 hx hby at_206 (by decide) (by decide) ?_
      refine own_astore 214 #[oI x0, oI x1, oA b1, oI (7 : Int32), oA w_VERTEX, oU] X107 hx hby at_212 rfl rfl rfl ?_
      refine own_iload_n 215 X107 hx hby at_214 rfl rfl ?_
      refine own_iconst 216 (2 : Int32) X107 hx hby at_215 rfl (by decide) ?_
      refine own_icN 219 X107 hx hby at_216 rfl (by decide) ?_
      refine own_iload_n 220 X107 hx hby at_219 rfl rfl ?_
      refine own_bipush 222 (7 : Int32) X107 hx hby at_220 rfl (by decide) ?_
      refine own_icN 225 X107 hx hby at_222 rfl (by decide) ?_
      refine own_aload 227 X107 hx hby at_225 rfl rfl rfl ?_
      refine own_getS 230 X107 hx hby hZ hown (own_w hw 69 rfl) e107 (W.2.2.2.2.2.2.2.2.2.2.2.2.2.2.2.2.2.2.2.2.2.2.2.2.2.2.2.2.2.2.2.2.2.2.2.2.2.2.2.2.2.2.2.2.2.2.2.2.2.2.2.2.2.2.2.2.1.ext O55.2) at_227 rfl ?_
      intro T108 X108 e108
      refine own_acmp 233 true X108 hx hby at_230 rfl rfl (by decide) (by decide) (decide_eq_true (congrArg Value.ref rfl)) ?_
      refine own_iconst 234 (1 : Int32) X108 hx hby at_233 rfl (by decide) ?_
      refine own_goto 238 X108 hx hby at_234 (by decide) (by decide) ?_
      refine own_istore 240 #[oI x0, oI x1, oA b1, oI (7 : Int32), oA w_VERTEX, oI (1 : Int32)] X108 hx hby at_238 rfl rfl ?_
      refine own_goto 276 X108 hx hby at_240 (by decide) (by decide) ?_
      refine own_aload_n 277 X108 hx hby at_276 rfl rfl rfl ?_
      refine own_iload_n 278 X108 hx hby at_277 rfl rfl ?_
      refine own_aaload 279 (.ref w_BOTH_E) X108 hx hby hZ e108 V55 rfl at_278 rfl (by decide) rfl ?_
      refine own_aload 281 X108 hx hby at_279 rfl rfl rfl ?_
      refine own_virt (W := 0) 284 (rm1_2 l Z a0 hw [] w_V w_E w_OUT w_IN w_BOTH w_OUT_E w_IN_E w_BOTH_E w_OUT_V w_IN_V w_BOTH_V w_HAS w_HAS_LABEL w_HAS_NOT w_WHERE w_NOT w_AND w_OR w_ORDER w_VALUES w_ID w_LABEL w_COUNT w_SUM w_MEAN w_MIN w_MAX w_EDGE w_VERTEX W w_BOTH_E w_VERTEX w_VERTEX h55 n0 O55 (W.2.2.2.2.2.2.2.2.2.2.2.2.2.2.2.2.2.2.2.2.2.2.2.2.2.2.2.2.2.2.2.2.2.2.2.2.2.2.2.2.2.2.2.2.2.2.2.2.2.2.2.2.2.2.2.2.2.2.2.2.2.2.2.2.2.2.2.2.2.2.2.2.2.2.2.2.2.1.ext O55.2) rfl) X108 hx hby hZ hown (own_w hw 62 rfl) (own_w hw 63 rfl) (notFace_of_selects (args := #[]) (mvT hZ (own_w hw 65 rfl))) (own_w hw 65 rfl) (own_w hw 64 rfl) (own_w hw 3 rfl) (own_w hw 66 rfl) (by decide) (by rw [hml]; rfl) w_BOTH_E [(.ref w_VERTEX)] [] pd_0 rfl at_281 rfl e108 (W.2.2.2.2.2.2.2.2.2.2.2.2.2.2.2.1.ext O55.2) rfl rfl rfl (by decide) (by decide) (by decide) (by decide) ?_
      rintro _ T109 L109 X109 ⟨rfl, N109, e109⟩
      have N109 := Fr.app N55 N109
      show Go p e below _ (T109.setTop (mkF m 284 _ [(.int (1 : Int32))]))
      refine own_iload 286 X109 hx hby at_284 rfl rfl ?_
      refine own_icN 289 X109 hx hby at_286 rfl (by decide) ?_
      refine own_iconst 290 (1 : Int32) X109 hx hby at_289 rfl (by decide) ?_
      refine own_goto 294 X109 hx hby at_290 (by decide) (by decide) ?_
      exact own_ret (Q := own_Q1 n0) X109 hx hby hret hlk at_294 rfl (Or.inl ⟨rfl, by simp, _, rfl⟩) (by decide) (by decide) ⟨rfl, N109⟩
    · refine own_iand 200 (1 : Int32) X55 hx hby at_199 rfl hv106 ?_
      refine own_ifY 209 X55 hx hby at_200 (by decide) (by decide) (by decide) ?_
      refine own_getS 212 X55 hx hby hZ hown (own_w hw 59 rfl) e55 (W.2.2.2.2.2.2.2.2.2.2.2.2.2.2.2.2.2.2.2.2.2.2.2.2.2.2.2.2.2.2.2.2.2.2.2.2.2.2.2.2.2.2.2.2.2.2.2.2.2.2.2.2.2.2.1.ext O55.2) at_209 rfl ?_
      intro T110 X110 e110
      refine own_astore 214 #[oI x0, oI x1, oA b1, oI (7 : Int32), oA w_EDGE, oU] X110 hx hby at_212 rfl rfl rfl ?_
      refine own_iload_n 215 X110 hx hby at_214 rfl rfl ?_
      refine own_iconst 216 (2 : Int32) X110 hx hby at_215 rfl (by decide) ?_
      refine own_icN 219 X110 hx hby at_216 rfl (by decide) ?_
      refine own_iload_n 220 X110 hx hby at_219 rfl rfl ?_
      refine own_bipush 222 (7 : Int32) X110 hx hby at_220 rfl (by decide) ?_
      refine own_icN 225 X110 hx hby at_222 rfl (by decide) ?_
      refine own_aload 227 X110 hx hby at_225 rfl rfl rfl ?_
      refine own_getS 230 X110 hx hby hZ hown (own_w hw 69 rfl) e110 (W.2.2.2.2.2.2.2.2.2.2.2.2.2.2.2.2.2.2.2.2.2.2.2.2.2.2.2.2.2.2.2.2.2.2.2.2.2.2.2.2.2.2.2.2.2.2.2.2.2.2.2.2.2.2.2.2.1.ext O55.2) at_227 rfl ?_
      intro T111 X111 e111
      refine own_acmp 237 false X111 hx hby at_230 rfl rfl (by decide) (by decide) (decide_eq_false fun q => (Fld.ne W.2.2.2.2.2.2.2.2.2.2.2.2.2.2.2.2.2.2.2.2.2.2.2.2.2.2.2.2.2.2.2.2.2.2.2.2.2.2.2.2.2.2.2.2.2.2.2.2.2.2.2.2.2.2.2.2.2.2.2.2.2.2.2.2.2.2.2.1 W.2.2.2.2.2.2.2.2.2.2.2.2.2.2.2.2.2.2.2.2.2.2.2.2.2.2.2.2.2.2.2.2.2.2.2.2.2.2.2.2.2.2.2.2.2.2.2.2.2.2.2.2.2.2.2.2.2.2.2.2.2.2.2.2.2.2.2.2.1 (fun q => absurd (Value.int.inj q) (by decide))) (Value.ref.inj q)) ?_
      refine own_iconst 238 (0 : Int32) X111 hx hby at_237 rfl (by decide) ?_
      refine own_istore 240 #[oI x0, oI x1, oA b1, oI (7 : Int32), oA w_EDGE, oI (0 : Int32)] X111 hx hby at_238 rfl rfl ?_
      refine own_goto 276 X111 hx hby at_240 (by decide) (by decide) ?_
      refine own_aload_n 277 X111 hx hby at_276 rfl rfl rfl ?_
      refine own_iload_n 278 X111 hx hby at_277 rfl rfl ?_
      refine own_aaload 279 (.ref w_BOTH_E) X111 hx hby hZ e111 V55 rfl at_278 rfl (by decide) rfl ?_
      refine own_aload 281 X111 hx hby at_279 rfl rfl rfl ?_
      refine own_virt (W := 0) 284 (rm1_3 l Z a0 hw [] w_V w_E w_OUT w_IN w_BOTH w_OUT_E w_IN_E w_BOTH_E w_OUT_V w_IN_V w_BOTH_V w_HAS w_HAS_LABEL w_HAS_NOT w_WHERE w_NOT w_AND w_OR w_ORDER w_VALUES w_ID w_LABEL w_COUNT w_SUM w_MEAN w_MIN w_MAX w_EDGE w_VERTEX W w_BOTH_E w_EDGE w_VERTEX h55 n0 O55 (W.2.2.2.2.2.2.2.2.2.2.2.2.2.2.2.2.2.2.2.2.2.2.2.2.2.2.2.2.2.2.2.2.2.2.2.2.2.2.2.2.2.2.2.2.2.2.2.2.2.2.2.2.2.2.2.2.2.2.2.2.2.2.2.2.2.2.2.2.2.2.2.2.2.2.2.2.2.1.ext O55.2) (Fld.ne W.2.2.2.2.2.2.2.2.2.2.2.2.2.2.2.2.2.2.2.2.2.2.2.2.2.2.2.2.2.2.2.2.2.2.2.2.2.2.2.2.2.2.2.2.2.2.2.2.2.2.2.2.2.2.2.2.2.2.2.2.2.2.2.2.2.2.2.2.1 W.2.2.2.2.2.2.2.2.2.2.2.2.2.2.2.2.2.2.2.2.2.2.2.2.2.2.2.2.2.2.2.2.2.2.2.2.2.2.2.2.2.2.2.2.2.2.2.2.2.2.2.2.2.2.2.2.2.2.2.2.2.2.2.2.2.2.2.1 (fun q => absurd (Value.int.inj q) (by decide)))) X111 hx hby hZ hown (own_w hw 62 rfl) (own_w hw 63 rfl) (notFace_of_selects (args := #[]) (mvT hZ (own_w hw 65 rfl))) (own_w hw 65 rfl) (own_w hw 64 rfl) (own_w hw 3 rfl) (own_w hw 66 rfl) (by decide) (by rw [hml]; rfl) w_BOTH_E [(.ref w_EDGE)] [] pd_0 rfl at_281 rfl e111 (W.2.2.2.2.2.2.2.2.2.2.2.2.2.2.2.1.ext O55.2) rfl rfl rfl (by decide) (by decide) (by decide) (by decide) ?_
      rintro _ T112 L112 X112 ⟨rfl, N112, e112⟩
      have N112 := Fr.app N55 N112
      show Go p e below _ (T112.setTop (mkF m 284 _ [(.int (0 : Int32))]))
      refine own_iload 286 X112 hx hby at_284 rfl rfl ?_
      refine own_icN 289 X112 hx hby at_286 rfl (by decide) ?_
      refine own_iconst 290 (1 : Int32) X112 hx hby at_289 rfl (by decide) ?_
      refine own_goto 294 X112 hx hby at_290 (by decide) (by decide) ?_
      exact own_ret (Q := own_Q1 n0) X112 hx hby hret hlk at_294 rfl (Or.inl ⟨rfl, by simp, _, rfl⟩) (by decide) (by decide) ⟨rfl, N112⟩
  · refine own_irem 196 (8 : Int32) X55 hx hby at_195 rfl (by decide) hv56 ?_
    refine own_istore_n 197 #[oI x0, oI x1, oA b1, oI (8 : Int32), oU, oU] X55 hx hby at_196 rfl rfl ?_
    refine own_iload_n 198 X55 hx hby at_197 rfl rfl ?_
    refine own_iconst 199 (1 : Int32) X55 hx hby at_198 rfl (by decide) ?_
    rcases own_and1 x1 with hv113 | hv113
    · refine own_iand 200 (0 : Int32) X55 hx hby at_199 rfl hv113 ?_
      refine own_ifN 203 X55 hx hby at_200 rfl (by decide) ?_
      refine own_getS 206 X55 hx hby hZ hown (own_w hw 69 rfl) e55 (W.2.2.2.2.2.2.2.2.2.2.2.2.2.2.2.2.2.2.2.2.2.2.2.2.2.2.2.2.2.2.2.2.2.2.2.2.2.2.2.2.2.2.2.2.2.2.2.2.2.2.2.2.2.2.2.2.1.ext O55.2) at_203 rfl ?_
      intro T114 X114 e114
      refine own_goto 212 X114 hx hby at_206 (by decide) (by decide) ?_
      refine own_astore 214 #[oI x0, oI x1, oA b1, oI (8 : Int32), oA w_VERTEX, oU] X114 hx hby at_212 rfl rfl rfl ?_
      refine own_iload_n 215 X114 hx hby at_214 rfl rfl ?_
      refine own_iconst 216 (2 : Int32) X114 hx hby at_215 rfl (by decide) ?_
      refine own_icN 219 X114 hx hby at_216 rfl (by decide) ?_
      refine own_iload_n 220 X114 hx hby at_219 rfl rfl ?_
      refine own_bipush 222 (7 : Int32) X114 hx hby at_220 rfl (by decide) ?_
      refine own_icY 243 X114 hx hby at_222 (by decide) (by decide) (by decide) ?_
      refine own_iload_n 244 X114 hx hby at_243 rfl rfl ?_
      refine own_bipush 246 (8 : Int32) X114 hx hby at_244 rfl (by decide) ?_
      refine own_icN 249 X114 hx hby at_246 rfl (by decide) ?_
      refine own_iload_n 250 X114 hx hby at_249 rfl rfl ?_
      refine own_bipush 252 (10 : Int32) X114 hx hby at_250 rfl (by decide) ?_
      refine own_icN 255 X114 hx hby at_252 rfl (by decide) ?_
      refine own_aload 257 X114 hx hby at_255 rfl rfl rfl ?_
      refine own_getS 260 X114 hx hby hZ hown (own_w hw 59 rfl) e114 (W.2.2.2.2.2.2.2.2.2.2.2.2.2.2.2.2.2.2.2.2.2.2.2.2.2.2.2.2.2.2.2.2.2.2.2.2.2.2.2.2.2.2.2.2.2.2.2.2.2.2.2.2.2.2.1.ext O55.2) at_257 rfl ?_
      intro T115 X115 e115
      refine own_acmp 267 false X115 hx hby at_260 rfl rfl (by decide) (by decide) (decide_eq_false fun q => (Fld.ne W.2.2.2.2.2.2.2.2.2.2.2.2.2.2.2.2.2.2.2.2.2.2.2.2.2.2.2.2.2.2.2.2.2.2.2.2.2.2.2.2.2.2.2.2.2.2.2.2.2.2.2.2.2.2.2.2.2.2.2.2.2.2.2.2.2.2.2.2.1 W.2.2.2.2.2.2.2.2.2.2.2.2.2.2.2.2.2.2.2.2.2.2.2.2.2.2.2.2.2.2.2.2.2.2.2.2.2.2.2.2.2.2.2.2.2.2.2.2.2.2.2.2.2.2.2.2.2.2.2.2.2.2.2.2.2.2.2.1 (fun q => absurd (Value.int.inj q) (by decide))) (Value.ref.inj q)) ?_
      refine own_iconst 268 (0 : Int32) X115 hx hby at_267 rfl (by decide) ?_
      refine own_istore 270 #[oI x0, oI x1, oA b1, oI (8 : Int32), oA w_VERTEX, oI (0 : Int32)] X115 hx hby at_268 rfl rfl ?_
      refine own_goto 276 X115 hx hby at_270 (by decide) (by decide) ?_
      refine own_aload_n 277 X115 hx hby at_276 rfl rfl rfl ?_
      refine own_iload_n 278 X115 hx hby at_277 rfl rfl ?_
      refine own_aaload 279 (.ref w_OUT_V) X115 hx hby hZ e115 V55 rfl at_278 rfl (by decide) rfl ?_
      refine own_aload 281 X115 hx hby at_279 rfl rfl rfl ?_
      refine own_virt (W := 0) 284 (rm1_3 l Z a0 hw [] w_V w_E w_OUT w_IN w_BOTH w_OUT_E w_IN_E w_BOTH_E w_OUT_V w_IN_V w_BOTH_V w_HAS w_HAS_LABEL w_HAS_NOT w_WHERE w_NOT w_AND w_OR w_ORDER w_VALUES w_ID w_LABEL w_COUNT w_SUM w_MEAN w_MIN w_MAX w_EDGE w_VERTEX W w_OUT_V w_VERTEX w_EDGE h55 n0 O55 (W.2.2.2.2.2.2.2.2.2.2.2.2.2.2.2.2.2.2.2.2.2.2.2.2.2.2.2.2.2.2.2.2.2.2.2.2.2.2.2.2.2.2.2.2.2.2.2.2.2.2.2.2.2.2.2.2.2.2.2.2.2.2.2.2.1.ext O55.2) (Fld.ne W.2.2.2.2.2.2.2.2.2.2.2.2.2.2.2.2.2.2.2.2.2.2.2.2.2.2.2.2.2.2.2.2.2.2.2.2.2.2.2.2.2.2.2.2.2.2.2.2.2.2.2.2.2.2.2.2.2.2.2.2.2.2.2.2.2.2.2.1 W.2.2.2.2.2.2.2.2.2.2.2.2.2.2.2.2.2.2.2.2.2.2.2.2.2.2.2.2.2.2.2.2.2.2.2.2.2.2.2.2.2.2.2.2.2.2.2.2.2.2.2.2.2.2.2.2.2.2.2.2.2.2.2.2.2.2.2.2.1 (fun q => absurd (Value.int.inj q) (by decide)))) X115 hx hby hZ hown (own_w hw 62 rfl) (own_w hw 63 rfl) (notFace_of_selects (args := #[]) (mvT hZ (own_w hw 65 rfl))) (own_w hw 65 rfl) (own_w hw 64 rfl) (own_w hw 3 rfl) (own_w hw 66 rfl) (by decide) (by rw [hml]; rfl) w_OUT_V [(.ref w_VERTEX)] [] pd_0 rfl at_281 rfl e115 (W.2.2.2.2.2.2.2.2.2.2.2.2.2.2.2.2.2.1.ext O55.2) rfl rfl rfl (by decide) (by decide) (by decide) (by decide) ?_
      rintro _ T116 L116 X116 ⟨rfl, N116, e116⟩
      have N116 := Fr.app N55 N116
      show Go p e below _ (T116.setTop (mkF m 284 _ [(.int (0 : Int32))]))
      refine own_iload 286 X116 hx hby at_284 rfl rfl ?_
      refine own_icN 289 X116 hx hby at_286 rfl (by decide) ?_
      refine own_iconst 290 (1 : Int32) X116 hx hby at_289 rfl (by decide) ?_
      refine own_goto 294 X116 hx hby at_290 (by decide) (by decide) ?_
      exact own_ret (Q := own_Q1 n0) X116 hx hby hret hlk at_294 rfl (Or.inl ⟨rfl, by simp, _, rfl⟩) (by decide) (by decide) ⟨rfl, N116⟩
    · refine own_iand 200 (1 : Int32) X55 hx hby at_199 rfl hv113 ?_
      refine own_ifY 209 X55 hx hby at_200 (by decide) (by decide) (by decide) ?_
      refine own_getS 212 X55 hx hby hZ hown (own_w hw 59 rfl) e55 (W.2.2.2.2.2.2.2.2.2.2.2.2.2.2.2.2.2.2.2.2.2.2.2.2.2.2.2.2.2.2.2.2.2.2.2.2.2.2.2.2.2.2.2.2.2.2.2.2.2.2.2.2.2.2.1.ext O55.2) at_209 rfl ?_
      intro T117 X117 e117
      refine own_astore 214 #[oI x0, oI x1, oA b1, oI (8 : Int32), oA w_EDGE, oU] X117 hx hby at_212 rfl rfl rfl ?_
      refine own_iload_n 215 X117 hx hby at_214 rfl rfl ?_
      refine own_iconst 216 (2 : Int32) X117 hx hby at_215 rfl (by decide) ?_
      refine own_icN 219 X117 hx hby at_216 rfl (by decide) ?_
      refine own_iload_n 220 X117 hx hby at_219 rfl rfl ?_
      refine own_bipush 222 (7 : Int32) X117 hx hby at_220 rfl (by decide) ?_
      refine own_icY 243 X117 hx hby at_222 (by decide) (by decide) (by decide) ?_
      refine own_iload_n 244 X117 hx hby at_243 rfl rfl ?_
      refine own_bipush 246 (8 : Int32) X117 hx hby at_244 rfl (by decide) ?_
      refine own_icN 249 X117 hx hby at_246 rfl (by decide) ?_
      refine own_iload_n 250 X117 hx hby at_249 rfl rfl ?_
      refine own_bipush 252 (10 : Int32) X117 hx hby at_250 rfl (by decide) ?_
      refine own_icN 255 X117 hx hby at_252 rfl (by decide) ?_
      refine own_aload 257 X117 hx hby at_255 rfl rfl rfl ?_
      refine own_getS 260 X117 hx hby hZ hown (own_w hw 59 rfl) e117 (W.2.2.2.2.2.2.2.2.2.2.2.2.2.2.2.2.2.2.2.2.2.2.2.2.2.2.2.2.2.2.2.2.2.2.2.2.2.2.2.2.2.2.2.2.2.2.2.2.2.2.2.2.2.2.1.ext O55.2) at_257 rfl ?_
      intro T118 X118 e118
      refine own_acmp 263 true X118 hx hby at_260 rfl rfl (by decide) (by decide) (decide_eq_true (congrArg Value.ref rfl)) ?_
      refine own_iconst 264 (1 : Int32) X118 hx hby at_263 rfl (by decide) ?_
      refine own_goto 268 X118 hx hby at_264 (by decide) (by decide) ?_
      refine own_istore 270 #[oI x0, oI x1, oA b1, oI (8 : Int32), oA w_EDGE, oI (1 : Int32)] X118 hx hby at_268 rfl rfl ?_
      refine own_goto 276 X118 hx hby at_270 (by decide) (by decide) ?_
      refine own_aload_n 277 X118 hx hby at_276 rfl rfl rfl ?_
      refine own_iload_n 278 X118 hx hby at_277 rfl rfl ?_
      refine own_aaload 279 (.ref w_OUT_V) X118 hx hby hZ e118 V55 rfl at_278 rfl (by decide) rfl ?_
      refine own_aload 281 X118 hx hby at_279 rfl rfl rfl ?_
      refine own_virt (W := 0) 284 (rm1_2 l Z a0 hw [] w_V w_E w_OUT w_IN w_BOTH w_OUT_E w_IN_E w_BOTH_E w_OUT_V w_IN_V w_BOTH_V w_HAS w_HAS_LABEL w_HAS_NOT w_WHERE w_NOT w_AND w_OR w_ORDER w_VALUES w_ID w_LABEL w_COUNT w_SUM w_MEAN w_MIN w_MAX w_EDGE w_VERTEX W w_OUT_V w_EDGE w_EDGE h55 n0 O55 (W.2.2.2.2.2.2.2.2.2.2.2.2.2.2.2.2.2.2.2.2.2.2.2.2.2.2.2.2.2.2.2.2.2.2.2.2.2.2.2.2.2.2.2.2.2.2.2.2.2.2.2.2.2.2.2.2.2.2.2.2.2.2.2.2.1.ext O55.2) rfl) X118 hx hby hZ hown (own_w hw 62 rfl) (own_w hw 63 rfl) (notFace_of_selects (args := #[]) (mvT hZ (own_w hw 65 rfl))) (own_w hw 65 rfl) (own_w hw 64 rfl) (own_w hw 3 rfl) (own_w hw 66 rfl) (by decide) (by rw [hml]; rfl) w_OUT_V [(.ref w_EDGE)] [] pd_0 rfl at_281 rfl e118 (W.2.2.2.2.2.2.2.2.2.2.2.2.2.2.2.2.2.1.ext O55.2) rfl rfl rfl (by decide) (by decide) (by decide) (by decide) ?_
      rintro _ T119 L119 X119 ⟨rfl, N119, e119⟩
      have N119 := Fr.app N55 N119
      show Go p e below _ (T119.setTop (mkF m 284 _ [(.int (1 : Int32))]))
      refine own_iload 286 X119 hx hby at_284 rfl rfl ?_
      refine own_icN 289 X119 hx hby at_286 rfl (by decide) ?_
      refine own_iconst 290 (1 : Int32) X119 hx hby at_289 rfl (by decide) ?_
      refine own_goto 294 X119 hx hby at_290 (by decide) (by decide) ?_
      exact own_ret (Q := own_Q1 n0) X119 hx hby hret hlk at_294 rfl (Or.inl ⟨rfl, by simp, _, rfl⟩) (by decide) (by decide) ⟨rfl, N119⟩
  · refine own_irem 196 (9 : Int32) X55 hx hby at_195 rfl (by decide) hv56 ?_
    refine own_istore_n 197 #[oI x0, oI x1, oA b1, oI (9 : Int32), oU, oU] X55 hx hby at_196 rfl rfl ?_
    refine own_iload_n 198 X55 hx hby at_197 rfl rfl ?_
    refine own_iconst 199 (1 : Int32) X55 hx hby at_198 rfl (by decide) ?_
    rcases own_and1 x1 with hv120 | hv120
    · refine own_iand 200 (0 : Int32) X55 hx hby at_199 rfl hv120 ?_
      refine own_ifN 203 X55 hx hby at_200 rfl (by decide) ?_
      refine own_getS 206 X55 hx hby hZ hown (own_w hw 69 rfl) e55 (W.2.2.2.2.2.2.2.2.2.2.2.2.2.2.2.2.2.2.2.2.2.2.2.2.2.2.2.2.2.2.2.2.2.2.2.2.2.2.2.2.2.2.2.2.2.2.2.2.2.2.2.2.2.2.2.2.1.ext O55.2) at_203 rfl ?_
      intro T121 X121 e121
      refine own_goto 212 X121 hx hby at_206 (by decide) (by decide) ?_
      refine own_astore 214 #[oI x0, oI x1, oA b1, oI (9 : Int32), oA w_VERTEX, oU] X121 hx hby at_212 rfl rfl rfl ?_
      refine own_iload_n 215 X121 hx hby at_214 rfl rfl ?_
      refine own_iconst 216 (2 : Int32) X121 hx hby at_215 rfl (by decide) ?_
      refine own_icN 219 X121 hx hby at_216 rfl (by decide) ?_
      refine own_iload_n 220 X121 hx hby at_219 rfl rfl ?_
      refine own_bipush 222 (7 : Int32) X121 hx hby at_220 rfl (by decide) ?_
      refine own_icY 243 X121 hx hby at_222 (by decide) (by decide) (by decide) ?_
      refine own_iload_n 244 X121 hx hby at_243 rfl rfl ?_
      refine own_bipush 246 (8 : Int32) X121 hx hby at_244 rfl (by decide) ?_
      refine own_icN 249 X121 hx hby at_246 rfl (by decide) ?_
      refine own_iload_n 250 X121 hx hby at_249 rfl rfl ?_
      refine own_bipush 252 (10 : Int32) X121 hx hby at_250 rfl (by decide) ?_
      refine own_icN 255 X121 hx hby at_252 rfl (by decide) ?_
      refine own_aload 257 X121 hx hby at_255 rfl rfl rfl ?_
      refine own_getS 260 X121 hx hby hZ hown (own_w hw 59 rfl) e121 (W.2.2.2.2.2.2.2.2.2.2.2.2.2.2.2.2.2.2.2.2.2.2.2.2.2.2.2.2.2.2.2.2.2.2.2.2.2.2.2.2.2.2.2.2.2.2.2.2.2.2.2.2.2.2.1.ext O55.2) at_257 rfl ?_
      intro T122 X122 e122
      refine own_acmp 267 false X122 hx hby at_260 rfl rfl (by decide) (by decide) (decide_eq_false fun q => (Fld.ne W.2.2.2.2.2.2.2.2.2.2.2.2.2.2.2.2.2.2.2.2.2.2.2.2.2.2.2.2.2.2.2.2.2.2.2.2.2.2.2.2.2.2.2.2.2.2.2.2.2.2.2.2.2.2.2.2.2.2.2.2.2.2.2.2.2.2.2.2.1 W.2.2.2.2.2.2.2.2.2.2.2.2.2.2.2.2.2.2.2.2.2.2.2.2.2.2.2.2.2.2.2.2.2.2.2.2.2.2.2.2.2.2.2.2.2.2.2.2.2.2.2.2.2.2.2.2.2.2.2.2.2.2.2.2.2.2.2.1 (fun q => absurd (Value.int.inj q) (by decide))) (Value.ref.inj q)) ?_
      refine own_iconst 268 (0 : Int32) X122 hx hby at_267 rfl (by decide) ?_
      refine own_istore 270 #[oI x0, oI x1, oA b1, oI (9 : Int32), oA w_VERTEX, oI (0 : Int32)] X122 hx hby at_268 rfl rfl ?_
      refine own_goto 276 X122 hx hby at_270 (by decide) (by decide) ?_
      refine own_aload_n 277 X122 hx hby at_276 rfl rfl rfl ?_
      refine own_iload_n 278 X122 hx hby at_277 rfl rfl ?_
      refine own_aaload 279 (.ref w_IN_V) X122 hx hby hZ e122 V55 rfl at_278 rfl (by decide) rfl ?_
      refine own_aload 281 X122 hx hby at_279 rfl rfl rfl ?_
      refine own_virt (W := 0) 284 (rm1_3 l Z a0 hw [] w_V w_E w_OUT w_IN w_BOTH w_OUT_E w_IN_E w_BOTH_E w_OUT_V w_IN_V w_BOTH_V w_HAS w_HAS_LABEL w_HAS_NOT w_WHERE w_NOT w_AND w_OR w_ORDER w_VALUES w_ID w_LABEL w_COUNT w_SUM w_MEAN w_MIN w_MAX w_EDGE w_VERTEX W w_IN_V w_VERTEX w_EDGE h55 n0 O55 (W.2.2.2.2.2.2.2.2.2.2.2.2.2.2.2.2.2.2.2.2.2.2.2.2.2.2.2.2.2.2.2.2.2.2.2.2.2.2.2.2.2.2.2.2.2.2.2.2.2.2.2.2.2.2.2.2.2.2.2.2.2.2.2.2.2.2.2.2.2.2.2.2.2.2.2.2.2.2.2.2.1.ext O55.2) (Fld.ne W.2.2.2.2.2.2.2.2.2.2.2.2.2.2.2.2.2.2.2.2.2.2.2.2.2.2.2.2.2.2.2.2.2.2.2.2.2.2.2.2.2.2.2.2.2.2.2.2.2.2.2.2.2.2.2.2.2.2.2.2.2.2.2.2.2.2.2.1 W.2.2.2.2.2.2.2.2.2.2.2.2.2.2.2.2.2.2.2.2.2.2.2.2.2.2.2.2.2.2.2.2.2.2.2.2.2.2.2.2.2.2.2.2.2.2.2.2.2.2.2.2.2.2.2.2.2.2.2.2.2.2.2.2.2.2.2.2.1 (fun q => absurd (Value.int.inj q) (by decide)))) X122 hx hby hZ hown (own_w hw 62 rfl) (own_w hw 63 rfl) (notFace_of_selects (args := #[]) (mvT hZ (own_w hw 65 rfl))) (own_w hw 65 rfl) (own_w hw 64 rfl) (own_w hw 3 rfl) (own_w hw 66 rfl) (by decide) (by rw [hml]; rfl) w_IN_V [(.ref w_VERTEX)] [] pd_0 rfl at_281 rfl e122 (W.2.2.2.2.2.2.2.2.2.2.2.2.2.2.2.2.2.2.2.1.ext O55.2) rfl rfl rfl (by decide) (by decide) (by decide) (by decide) ?_
      rintro _ T123 L123 X123 ⟨rfl, N123, e123⟩
      have N123 := Fr.app N55 N123
      show Go p e below _ (T123.setTop (mkF m 284 _ [(.int (0 : Int32))]))
      refine own_iload 286 X123 hx hby at_284 rfl rfl ?_
      refine own_icN 289 X123 hx hby at_286 rfl (by decide) ?_
      refine own_iconst 290 (1 : Int32) X123 hx hby at_289 rfl (by decide) ?_
      refine own_goto 294 X123 hx hby at_290 (by decide) (by decide) ?_
      exact own_ret (Q := own_Q1 n0) X123 hx hby hret hlk at_294 rfl (Or.inl ⟨rfl, by simp, _, rfl⟩) (by decide) (by decide) ⟨rfl, N123⟩
    · refine own_iand 200 (1 : Int32) X55 hx hby at_199 rfl hv120 ?_
      refine own_ifY 209 X55 hx hby at_200 (by decide) (by decide) (by decide) ?_
      refine own_getS 212 X55 hx hby hZ hown (own_w hw 59 rfl) e55 (W.2.2.2.2.2.2.2.2.2.2.2.2.2.2.2.2.2.2.2.2.2.2.2.2.2.2.2.2.2.2.2.2.2.2.2.2.2.2.2.2.2.2.2.2.2.2.2.2.2.2.2.2.2.2.1.ext O55.2) at_209 rfl ?_
      intro T124 X124 e124
      refine own_astore 214 #[oI x0, oI x1, oA b1, oI (9 : Int32), oA w_EDGE, oU] X124 hx hby at_212 rfl rfl rfl ?_
      refine own_iload_n 215 X124 hx hby at_214 rfl rfl ?_
      refine own_iconst 216 (2 : Int32) X124 hx hby at_215 rfl (by decide) ?_
      refine own_icN 219 X124 hx hby at_216 rfl (by decide) ?_
      refine own_iload_n 220 X124 hx hby at_219 rfl rfl ?_
      refine own_bipush 222 (7 : Int32) X124 hx hby at_220 rfl (by decide) ?_
      refine own_icY 243 X124 hx hby at_222 (by decide) (by decide) (by decide) ?_
      refine own_iload_n 244 X124 hx hby at_243 rfl rfl ?_
      refine own_bipush 246 (8 : Int32) X124 hx hby at_244 rfl (by decide) ?_
      refine own_icN 249 X124 hx hby at_246 rfl (by decide) ?_
      refine own_iload_n 250 X124 hx hby at_249 rfl rfl ?_
      refine own_bipush 252 (10 : Int32) X124 hx hby at_250 rfl (by decide) ?_
      refine own_icN 255 X124 hx hby at_252 rfl (by decide) ?_
      refine own_aload 257 X124 hx hby at_255 rfl rfl rfl ?_
      refine own_getS 260 X124 hx hby hZ hown (own_w hw 59 rfl) e124 (W.2.2.2.2.2.2.2.2.2.2.2.2.2.2.2.2.2.2.2.2.2.2.2.2.2.2.2.2.2.2.2.2.2.2.2.2.2.2.2.2.2.2.2.2.2.2.2.2.2.2.2.2.2.2.1.ext O55.2) at_257 rfl ?_
      intro T125 X125 e125
      refine own_acmp 263 true X125 hx hby at_260 rfl rfl (by decide) (by decide) (decide_eq_true (congrArg Value.ref rfl)) ?_
      refine own_iconst 264 (1 : Int32) X125 hx hby at_263 rfl (by decide) ?_
      refine own_goto 268 X125 hx hby at_264 (by decide) (by decide) ?_
      refine own_istore 270 #[oI x0, oI x1, oA b1, oI (9 : Int32), oA w_EDGE, oI (1 : Int32)] X125 hx hby at_268 rfl rfl ?_
      refine own_goto 276 X125 hx hby at_270 (by decide) (by decide) ?_
      refine own_aload_n 277 X125 hx hby at_276 rfl rfl rfl ?_
      refine own_iload_n 278 X125 hx hby at_277 rfl rfl ?_
      refine own_aaload 279 (.ref w_IN_V) X125 hx hby hZ e125 V55 rfl at_278 rfl (by decide) rfl ?_
      refine own_aload 281 X125 hx hby at_279 rfl rfl rfl ?_
      refine own_virt (W := 0) 284 (rm1_2 l Z a0 hw [] w_V w_E w_OUT w_IN w_BOTH w_OUT_E w_IN_E w_BOTH_E w_OUT_V w_IN_V w_BOTH_V w_HAS w_HAS_LABEL w_HAS_NOT w_WHERE w_NOT w_AND w_OR w_ORDER w_VALUES w_ID w_LABEL w_COUNT w_SUM w_MEAN w_MIN w_MAX w_EDGE w_VERTEX W w_IN_V w_EDGE w_EDGE h55 n0 O55 (W.2.2.2.2.2.2.2.2.2.2.2.2.2.2.2.2.2.2.2.2.2.2.2.2.2.2.2.2.2.2.2.2.2.2.2.2.2.2.2.2.2.2.2.2.2.2.2.2.2.2.2.2.2.2.2.2.2.2.2.2.2.2.2.2.2.2.2.2.2.2.2.2.2.2.2.2.2.2.2.2.1.ext O55.2) rfl) X125 hx hby hZ hown (own_w hw 62 rfl) (own_w hw 63 rfl) (notFace_of_selects (args := #[]) (mvT hZ (own_w hw 65 rfl))) (own_w hw 65 rfl) (own_w hw 64 rfl) (own_w hw 3 rfl) (own_w hw 66 rfl) (by decide) (by rw [hml]; rfl) w_IN_V [(.ref w_EDGE)] [] pd_0 rfl at_281 rfl e125 (W.2.2.2.2.2.2.2.2.2.2.2.2.2.2.2.2.2.2.2.1.ext O55.2) rfl rfl rfl (by decide) (by decide) (by decide) (by decide) ?_
      rintro _ T126 L126 X126 ⟨rfl, N126, e126⟩
      have N126 := Fr.app N55 N126
      show Go p e below _ (T126.setTop (mkF m 284 _ [(.int (1 : Int32))]))
      refine own_iload 286 X126 hx hby at_284 rfl rfl ?_
      refine own_icN 289 X126 hx hby at_286 rfl (by decide) ?_
      refine own_iconst 290 (1 : Int32) X126 hx hby at_289 rfl (by decide) ?_
      refine own_goto 294 X126 hx hby at_290 (by decide) (by decide) ?_
      exact own_ret (Q := own_Q1 n0) X126 hx hby hret hlk at_294 rfl (Or.inl ⟨rfl, by simp, _, rfl⟩) (by decide) (by decide) ⟨rfl, N126⟩
  · refine own_irem 196 (10 : Int32) X55 hx hby at_195 rfl (by decide) hv56 ?_
    refine own_istore_n 197 #[oI x0, oI x1, oA b1, oI (10 : Int32), oU, oU] X55 hx hby at_196 rfl rfl ?_
    refine own_iload_n 198 X55 hx hby at_197 rfl rfl ?_
    refine own_iconst 199 (1 : Int32) X55 hx hby at_198 rfl (by decide) ?_
    rcases own_and1 x1 with hv127 | hv127
    · refine own_iand 200 (0 : Int32) X55 hx hby at_199 rfl hv127 ?_
      refine own_ifN 203 X55 hx hby at_200 rfl (by decide) ?_
      refine own_getS 206 X55 hx hby hZ hown (own_w hw 69 rfl) e55 (W.2.2.2.2.2.2.2.2.2.2.2.2.2.2.2.2.2.2.2.2.2.2.2.2.2.2.2.2.2.2.2.2.2.2.2.2.2.2.2.2.2.2.2.2.2.2.2.2.2.2.2.2.2.2.2.2.1.ext O55.2) at_203 rfl ?_
      intro T128 X128 e128
      refine own_goto 212 X128 hx hby at_206 (by decide) (by decide) ?_
      refine own_astore 214 #[oI x0, oI x1, oA b1, oI (10 : Int32), oA w_VERTEX, oU] X128 hx hby at_212 rfl rfl rfl ?_
      refine own_iload_n 215 X128 hx hby at_214 rfl rfl ?_
      refine own_iconst 216 (2 : Int32) X128 hx hby at_215 rfl (by decide) ?_
      refine own_icN 219 X128 hx hby at_216 rfl (by decide) ?_
      refine own_iload_n 220 X128 hx hby at_219 rfl rfl ?_
      refine own_bipush 222 (7 : Int32) X128 hx hby at_220 rfl (by decide) ?_
      refine own_icY 243 X128 hx hby at_222 (by decide) (by decide) (by decide) ?_
      refine own_iload_n 244 X128 hx hby at_243 rfl rfl ?_
      refine own_bipush 246 (8 : Int32) X128 hx hby at_244 rfl (by decide) ?_
      refine own_icN 249 X128 hx hby at_246 rfl (by decide) ?_
      refine own_iload_n 250 X128 hx hby at_249 rfl rfl ?_
      refine own_bipush 252 (10 : Int32) X128 hx hby at_250 rfl (by decide) ?_
      refine own_icN 255 X128 hx hby at_252 rfl (by decide) ?_
      refine own_aload 257 X128 hx hby at_255 rfl rfl rfl ?_
      refine own_getS 260 X128 hx hby hZ hown (own_w hw 59 rfl) e128 (W.2.2.2.2.2.2.2.2.2.2.2.2.2.2.2.2.2.2.2.2.2.2.2.2.2.2.2.2.2.2.2.2.2.2.2.2.2.2.2.2.2.2.2.2.2.2.2.2.2.2.2.2.2.2.1.ext O55.2) at_257 rfl ?_
      intro T129 X129 e129
      refine own_acmp 267 false X129 hx hby at_260 rfl rfl (by decide) (by decide) (decide_eq_false fun q => (Fld.ne W.2.2.2.2.2.2.2.2.2.2.2.2.2.2.2.2.2.2.2.2.2.2.2.2.2.2.2.2.2.2.2.2.2.2.2.2.2.2.2.2.2.2.2.2.2.2.2.2.2.2.2.2.2.2.2.2.2.2.2.2.2.2.2.2.2.2.2.2.1 W.2.2.2.2.2.2.2.2.2.2.2.2.2.2.2.2.2.2.2.2.2.2.2.2.2.2.2.2.2.2.2.2.2.2.2.2.2.2.2.2.2.2.2.2.2.2.2.2.2.2.2.2.2.2.2.2.2.2.2.2.2.2.2.2.2.2.2.1 (fun q => absurd (Value.int.inj q) (by decide))) (Value.ref.inj q)) ?_
      refine own_iconst 268 (0 : Int32) X129 hx hby at_267 rfl (by decide) ?_
      refine own_istore 270 #[oI x0, oI x1, oA b1, oI (10 : Int32), oA w_VERTEX, oI (0 : Int32)] X129 hx hby at_268 rfl rfl ?_
      refine own_goto 276 X129 hx hby at_270 (by decide) (by decide) ?_
      refine own_aload_n 277 X129 hx hby at_276 rfl rfl rfl ?_
      refine own_iload_n 278 X129 hx hby at_277 rfl rfl ?_
      refine own_aaload 279 (.ref w_BOTH_V) X129 hx hby hZ e129 V55 rfl at_278 rfl (by decide) rfl ?_
      refine own_aload 281 X129 hx hby at_279 rfl rfl rfl ?_
      refine own_virt (W := 0) 284 (rm1_3 l Z a0 hw [] w_V w_E w_OUT w_IN w_BOTH w_OUT_E w_IN_E w_BOTH_E w_OUT_V w_IN_V w_BOTH_V w_HAS w_HAS_LABEL w_HAS_NOT w_WHERE w_NOT w_AND w_OR w_ORDER w_VALUES w_ID w_LABEL w_COUNT w_SUM w_MEAN w_MIN w_MAX w_EDGE w_VERTEX W w_BOTH_V w_VERTEX w_EDGE h55 n0 O55 (W.2.2.2.2.2.2.2.2.2.2.2.2.2.2.2.2.2.2.2.2.2.2.2.2.2.2.2.2.2.2.2.2.2.2.2.2.2.2.2.2.2.2.2.2.2.2.2.2.2.2.2.2.2.2.2.2.2.2.2.2.2.2.2.2.2.2.2.2.2.2.2.2.1.ext O55.2) (Fld.ne W.2.2.2.2.2.2.2.2.2.2.2.2.2.2.2.2.2.2.2.2.2.2.2.2.2.2.2.2.2.2.2.2.2.2.2.2.2.2.2.2.2.2.2.2.2.2.2.2.2.2.2.2.2.2.2.2.2.2.2.2.2.2.2.2.2.2.2.1 W.2.2.2.2.2.2.2.2.2.2.2.2.2.2.2.2.2.2.2.2.2.2.2.2.2.2.2.2.2.2.2.2.2.2.2.2.2.2.2.2.2.2.2.2.2.2.2.2.2.2.2.2.2.2.2.2.2.2.2.2.2.2.2.2.2.2.2.2.1 (fun q => absurd (Value.int.inj q) (by decide)))) X129 hx hby hZ hown (own_w hw 62 rfl) (own_w hw 63 rfl) (notFace_of_selects (args := #[]) (mvT hZ (own_w hw 65 rfl))) (own_w hw 65 rfl) (own_w hw 64 rfl) (own_w hw 3 rfl) (own_w hw 66 rfl) (by decide) (by rw [hml]; rfl) w_BOTH_V [(.ref w_VERTEX)] [] pd_0 rfl at_281 rfl e129 (W.2.2.2.2.2.2.2.2.2.2.2.2.2.2.2.2.2.2.2.2.2.1.ext O55.2) rfl rfl rfl (by decide) (by decide) (by decide) (by decide) ?_
      rintro _ T130 L130 X130 ⟨rfl, N130, e130⟩
      have N130 := Fr.app N55 N130
      show Go p e below _ (T130.setTop (mkF m 284 _ [(.int (0 : Int32))]))
      refine own_iload 286 X130 hx hby at_284 rfl rfl ?_
      refine own_icN 289 X130 hx hby at_286 rfl (by decide) ?_
      refine own_iconst 290 (1 : Int32) X130 hx hby at_289 rfl (by decide) ?_
      refine own_goto 294 X130 hx hby at_290 (by decide) (by decide) ?_
      exact own_ret (Q := own_Q1 n0) X130 hx hby hret hlk at_294 rfl (Or.inl ⟨rfl, by simp, _, rfl⟩) (by decide) (by decide) ⟨rfl, N130⟩
    · refine own_iand 200 (1 : Int32) X55 hx hby at_199 rfl hv127 ?_
      refine own_ifY 209 X55 hx hby at_200 (by decide) (by decide) (by decide) ?_
      refine own_getS 212 X55 hx hby hZ hown (own_w hw 59 rfl) e55 (W.2.2.2.2.2.2.2.2.2.2.2.2.2.2.2.2.2.2.2.2.2.2.2.2.2.2.2.2.2.2.2.2.2.2.2.2.2.2.2.2.2.2.2.2.2.2.2.2.2.2.2.2.2.2.1.ext O55.2) at_209 rfl ?_
      intro T131 X131 e131
      refine own_astore 214 #[oI x0, oI x1, oA b1, oI (10 : Int32), oA w_EDGE, oU] X131 hx hby at_212 rfl rfl rfl ?_
      refine own_iload_n 215 X131 hx hby at_214 rfl rfl ?_
      refine own_iconst 216 (2 : Int32) X131 hx hby at_215 rfl (by decide) ?_
      refine own_icN 219 X131 hx hby at_216 rfl (by decide) ?_
      refine own_iload_n 220 X131 hx hby at_219 rfl rfl ?_
      refine own_bipush 222 (7 : Int32) X131 hx hby at_220 rfl (by decide) ?_
      refine own_icY 243 X131 hx hby at_222 (by decide) (by decide) (by decide) ?_
      refine own_iload_n 244 X131 hx hby at_243 rfl rfl ?_
      refine own_bipush 246 (8 : Int32) X131 hx hby at_244 rfl (by decide) ?_
      refine own_icN 249 X131 hx hby at_246 rfl (by decide) ?_
      refine own_iload_n 250 X131 hx hby at_249 rfl rfl ?_
      refine own_bipush 252 (10 : Int32) X131 hx hby at_250 rfl (by decide) ?_
      refine own_icN 255 X131 hx hby at_252 rfl (by decide) ?_
      refine own_aload 257 X131 hx hby at_255 rfl rfl rfl ?_
      refine own_getS 260 X131 hx hby hZ hown (own_w hw 59 rfl) e131 (W.2.2.2.2.2.2.2.2.2.2.2.2.2.2.2.2.2.2.2.2.2.2.2.2.2.2.2.2.2.2.2.2.2.2.2.2.2.2.2.2.2.2.2.2.2.2.2.2.2.2.2.2.2.2.1.ext O55.2) at_257 rfl ?_
      intro T132 X132 e132
      refine own_acmp 263 true X132 hx hby at_260 rfl rfl (by decide) (by decide) (decide_eq_true (congrArg Value.ref rfl)) ?_
      refine own_iconst 264 (1 : Int32) X132 hx hby at_263 rfl (by decide) ?_
      refine own_goto 268 X132 hx hby at_264 (by decide) (by decide) ?_
      refine own_istore 270 #[oI x0, oI x1, oA b1, oI (10 : Int32), oA w_EDGE, oI (1 : Int32)] X132 hx hby at_268 rfl rfl ?_
      refine own_goto 276 X132 hx hby at_270 (by decide) (by decide) ?_
      refine own_aload_n 277 X132 hx hby at_276 rfl rfl rfl ?_
      refine own_iload_n 278 X132 hx hby at_277 rfl rfl ?_
      refine own_aaload 279 (.ref w_BOTH_V) X132 hx hby hZ e132 V55 rfl at_278 rfl (by decide) rfl ?_
      refine own_aload 281 X132 hx hby at_279 rfl rfl rfl ?_
      refine own_virt (W := 0) 284 (rm1_2 l Z a0 hw [] w_V w_E w_OUT w_IN w_BOTH w_OUT_E w_IN_E w_BOTH_E w_OUT_V w_IN_V w_BOTH_V w_HAS w_HAS_LABEL w_HAS_NOT w_WHERE w_NOT w_AND w_OR w_ORDER w_VALUES w_ID w_LABEL w_COUNT w_SUM w_MEAN w_MIN w_MAX w_EDGE w_VERTEX W w_BOTH_V w_EDGE w_EDGE h55 n0 O55 (W.2.2.2.2.2.2.2.2.2.2.2.2.2.2.2.2.2.2.2.2.2.2.2.2.2.2.2.2.2.2.2.2.2.2.2.2.2.2.2.2.2.2.2.2.2.2.2.2.2.2.2.2.2.2.2.2.2.2.2.2.2.2.2.2.2.2.2.2.2.2.2.2.1.ext O55.2) rfl) X132 hx hby hZ hown (own_w hw 62 rfl) (own_w hw 63 rfl) (notFace_of_selects (args := #[]) (mvT hZ (own_w hw 65 rfl))) (own_w hw 65 rfl) (own_w hw 64 rfl) (own_w hw 3 rfl) (own_w hw 66 rfl) (by decide) (by rw [hml]; rfl) w_BOTH_V [(.ref w_EDGE)] [] pd_0 rfl at_281 rfl e132 (W.2.2.2.2.2.2.2.2.2.2.2.2.2.2.2.2.2.2.2.2.2.1.ext O55.2) rfl rfl rfl (by decide) (by decide) (by decide) (by decide) ?_
      rintro _ T133 L133 X133 ⟨rfl, N133, e133⟩
      have N133 := Fr.app N55 N133
      show Go p e below _ (T133.setTop (mkF m 284 _ [(.int (1 : Int32))]))
      refine own_iload 286 X133 hx hby at_284 rfl rfl ?_
      refine own_icN 289 X133 hx hby at_286 rfl (by decide) ?_
      refine own_iconst 290 (1 : Int32) X133 hx hby at_289 rfl (by decide) ?_
      refine own_goto 294 X133 hx hby at_290 (by decide) (by decide) ?_
      exact own_ret (Q := own_Q1 n0) X133 hx hby hret hlk at_294 rfl (Or.inl ⟨rfl, by simp, _, rfl⟩) (by decide) (by decide) ⟨rfl, N133⟩
  · refine own_irem 196 (11 : Int32) X55 hx hby at_195 rfl (by decide) hv56 ?_
    refine own_istore_n 197 #[oI x0, oI x1, oA b1, oI (11 : Int32), oU, oU] X55 hx hby at_196 rfl rfl ?_
    refine own_iload_n 198 X55 hx hby at_197 rfl rfl ?_
    refine own_iconst 199 (1 : Int32) X55 hx hby at_198 rfl (by decide) ?_
    rcases own_and1 x1 with hv134 | hv134
    · refine own_iand 200 (0 : Int32) X55 hx hby at_199 rfl hv134 ?_
      refine own_ifN 203 X55 hx hby at_200 rfl (by decide) ?_
      refine own_getS 206 X55 hx hby hZ hown (own_w hw 69 rfl) e55 (W.2.2.2.2.2.2.2.2.2.2.2.2.2.2.2.2.2.2.2.2.2.2.2.2.2.2.2.2.2.2.2.2.2.2.2.2.2.2.2.2.2.2.2.2.2.2.2.2.2.2.2.2.2.2.2.2.1.ext O55.2) at_203 rfl ?_
      intro T135 X135 e135
      refine own_goto 212 X135 hx hby at_206 (by decide) (by decide) ?_
      refine own_astore 214 #[oI x0, oI x1, oA b1, oI (11 : Int32), oA w_VERTEX, oU] X135 hx hby at_212 rfl rfl rfl ?_
      refine own_iload_n 215 X135 hx hby at_214 rfl rfl ?_
      refine own_iconst 216 (2 : Int32) X135 hx hby at_215 rfl (by decide) ?_
      refine own_icN 219 X135 hx hby at_216 rfl (by decide) ?_
      refine own_iload_n 220 X135 hx hby at_219 rfl rfl ?_
      refine own_bipush 222 (7 : Int32) X135 hx hby at_220 rfl (by decide) ?_
      refine own_icY 243 X135 hx hby at_222 (by decide) (by decide) (by decide) ?_
      refine own_iload_n 244 X135 hx hby at_243 rfl rfl ?_
      refine own_bipush 246 (8 : Int32) X135 hx hby at_244 rfl (by decide) ?_
      refine own_icN 249 X135 hx hby at_246 rfl (by decide) ?_
      refine own_iload_n 250 X135 hx hby at_249 rfl rfl ?_
      refine own_bipush 252 (10 : Int32) X135 hx hby at_250 rfl (by decide) ?_
      refine own_icY 273 X135 hx hby at_252 (by decide) (by decide) (by decide) ?_
      refine own_iconst 274 (1 : Int32) X135 hx hby at_273 rfl (by decide) ?_
      refine own_istore 276 #[oI x0, oI x1, oA b1, oI (11 : Int32), oA w_VERTEX, oI (1 : Int32)] X135 hx hby at_274 rfl rfl ?_
      refine own_aload_n 277 X135 hx hby at_276 rfl rfl rfl ?_
      refine own_iload_n 278 X135 hx hby at_277 rfl rfl ?_
      refine own_aaload 279 (.ref w_HAS) X135 hx hby hZ e135 V55 rfl at_278 rfl (by decide) rfl ?_
      refine own_aload 281 X135 hx hby at_279 rfl rfl rfl ?_
      refine own_virt (W := 0) 284 (rm1_1 l Z a0 hw [] w_V w_E w_OUT w_IN w_BOTH w_OUT_E w_IN_E w_BOTH_E w_OUT_V w_IN_V w_BOTH_V w_HAS w_HAS_LABEL w_HAS_NOT w_WHERE w_NOT w_AND w_OR w_ORDER w_VALUES w_ID w_LABEL w_COUNT w_SUM w_MEAN w_MIN w_MAX w_EDGE w_VERTEX W w_HAS w_VERTEX h55 n0 O55 (W.2.2.2.2.2.2.2.2.2.2.2.2.2.2.2.2.2.2.2.2.2.2.2.2.2.2.2.2.2.2.2.2.2.2.2.2.2.2.2.2.2.2.2.2.2.2.2.2.2.2.2.2.2.2.2.2.2.2.2.2.2.2.2.2.2.2.1.ext O55.2)) X135 hx hby hZ hown (own_w hw 62 rfl) (own_w hw 63 rfl) (notFace_of_selects (args := #[]) (mvT hZ (own_w hw 65 rfl))) (own_w hw 65 rfl) (own_w hw 64 rfl) (own_w hw 3 rfl) (own_w hw 66 rfl) (by decide) (by rw [hml]; rfl) w_HAS [(.ref w_VERTEX)] [] pd_0 rfl at_281 rfl e135 (W.2.2.2.2.2.2.2.2.2.2.2.2.2.2.2.2.2.2.2.2.2.2.2.1.ext O55.2) rfl rfl rfl (by decide) (by decide) (by decide) (by decide) ?_
      rintro _ T136 L136 X136 ⟨rfl, N136, e136⟩
      have N136 := Fr.app N55 N136
      show Go p e below _ (T136.setTop (mkF m 284 _ [(.int (1 : Int32))]))
      refine own_iload 286 X136 hx hby at_284 rfl rfl ?_
      refine own_icN 289 X136 hx hby at_286 rfl (by decide) ?_
      refine own_iconst 290 (1 : Int32) X136 hx hby at_289 rfl (by decide) ?_
      refine own_goto 294 X136 hx hby at_290 (by decide) (by decide) ?_
      exact own_ret (Q := own_Q1 n0) X136 hx hby hret hlk at_294 rfl (Or.inl ⟨rfl, by simp, _, rfl⟩) (by decide) (by decide) ⟨rfl, N136⟩
    · refine own_iand 200 (1 : Int32) X55 hx hby at_199 rfl hv134 ?_
      refine own_ifY 209 X55 hx hby at_200 (by decide) (by decide) (by decide) ?_
      refine own_getS 212 X55 hx hby hZ hown (own_w hw 59 rfl) e55 (W.2.2.2.2.2.2.2.2.2.2.2.2.2.2.2.2.2.2.2.2.2.2.2.2.2.2.2.2.2.2.2.2.2.2.2.2.2.2.2.2.2.2.2.2.2.2.2.2.2.2.2.2.2.2.1.ext O55.2) at_209 rfl ?_
      intro T137 X137 e137
      refine own_astore 214 #[oI x0, oI x1, oA b1, oI (11 : Int32), oA w_EDGE, oU] X137 hx hby at_212 rfl rfl rfl ?_
      refine own_iload_n 215 X137 hx hby at_214 rfl rfl ?_
      refine own_iconst 216 (2 : Int32) X137 hx hby at_215 rfl (by decide) ?_
      refine own_icN 219 X137 hx hby at_216 rfl (by decide) ?_
      refine own_iload_n 220 X137 hx hby at_219 rfl rfl ?_
      refine own_bipush 222 (7 : Int32) X137 hx hby at_220 rfl (by decide) ?_
      refine own_icY 243 X137 hx hby at_222 (by decide) (by decide) (by decide) ?_
      refine own_iload_n 244 X137 hx hby at_243 rfl rfl ?_
      refine own_bipush 246 (8 : Int32) X137 hx hby at_244 rfl (by decide) ?_
      refine own_icN 249 X137 hx hby at_246 rfl (by decide) ?_
      refine own_iload_n 250 X137 hx hby at_249 rfl rfl ?_
      refine own_bipush 252 (10 : Int32) X137 hx hby at_250 rfl (by decide) ?_
      refine own_icY 273 X137 hx hby at_252 (by decide) (by decide) (by decide) ?_
      refine own_iconst 274 (1 : Int32) X137 hx hby at_273 rfl (by decide) ?_
      refine own_istore 276 #[oI x0, oI x1, oA b1, oI (11 : Int32), oA w_EDGE, oI (1 : Int32)] X137 hx hby at_274 rfl rfl ?_
      refine own_aload_n 277 X137 hx hby at_276 rfl rfl rfl ?_
      refine own_iload_n 278 X137 hx hby at_277 rfl rfl ?_
      refine own_aaload 279 (.ref w_HAS) X137 hx hby hZ e137 V55 rfl at_278 rfl (by decide) rfl ?_
      refine own_aload 281 X137 hx hby at_279 rfl rfl rfl ?_
      refine own_virt (W := 0) 284 (rm1_1 l Z a0 hw [] w_V w_E w_OUT w_IN w_BOTH w_OUT_E w_IN_E w_BOTH_E w_OUT_V w_IN_V w_BOTH_V w_HAS w_HAS_LABEL w_HAS_NOT w_WHERE w_NOT w_AND w_OR w_ORDER w_VALUES w_ID w_LABEL w_COUNT w_SUM w_MEAN w_MIN w_MAX w_EDGE w_VERTEX W w_HAS w_EDGE h55 n0 O55 (W.2.2.2.2.2.2.2.2.2.2.2.2.2.2.2.2.2.2.2.2.2.2.2.2.2.2.2.2.2.2.2.2.2.2.2.2.2.2.2.2.2.2.2.2.2.2.2.2.2.2.2.2.2.2.2.2.2.2.2.2.2.2.2.2.2.2.1.ext O55.2)) X137 hx hby hZ hown (own_w hw 62 rfl) (own_w hw 63 rfl) (notFace_of_selects (args := #[]) (mvT hZ (own_w hw 65 rfl))) (own_w hw 65 rfl) (own_w hw 64 rfl) (own_w hw 3 rfl) (own_w hw 66 rfl) (by decide) (by rw [hml]; rfl) w_HAS [(.ref w_EDGE)] [] pd_0 rfl at_281 rfl e137 (W.2.2.2.2.2.2.2.2.2.2.2.2.2.2.2.2.2.2.2.2.2.2.2.1.ext O55.2) rfl rfl rfl (by decide) (by decide) (by decide) (by decide) ?_
      rintro _ T138 L138 X138 ⟨rfl, N138, e138⟩
      have N138 := Fr.app N55 N138
      show Go p e below _ (T138.setTop (mkF m 284 _ [(.int (1 : Int32))]))
      refine own_iload 286 X138 hx hby at_284 rfl rfl ?_
      refine own_icN 289 X138 hx hby at_286 rfl (by decide) ?_
      refine own_iconst 290 (1 : Int32) X138 hx hby at_289 rfl (by decide) ?_
      refine own_goto 294 X138 hx hby at_290 (by decide) (by decide) ?_
      exact own_ret (Q := own_Q1 n0) X138 hx hby hret hlk at_294 rfl (Or.inl ⟨rfl, by simp, _, rfl⟩) (by decide) (by decide) ⟨rfl, N138⟩
  · refine own_irem 196 (12 : Int32) X55 hx hby at_195 rfl (by decide) hv56 ?_
    refine own_istore_n 197 #[oI x0, oI x1, oA b1, oI (12 : Int32), oU, oU] X55 hx hby at_196 rfl rfl ?_
    refine own_iload_n 198 X55 hx hby at_197 rfl rfl ?_
    refine own_iconst 199 (1 : Int32) X55 hx hby at_198 rfl (by decide) ?_
    rcases own_and1 x1 with hv139 | hv139
    · refine own_iand 200 (0 : Int32) X55 hx hby at_199 rfl hv139 ?_
      refine own_ifN 203 X55 hx hby at_200 rfl (by decide) ?_
      refine own_getS 206 X55 hx hby hZ hown (own_w hw 69 rfl) e55 (W.2.2.2.2.2.2.2.2.2.2.2.2.2.2.2.2.2.2.2.2.2.2.2.2.2.2.2.2.2.2.2.2.2.2.2.2.2.2.2.2.2.2.2.2.2.2.2.2.2.2.2.2.2.2.2.2.1.ext O55.2) at_203 rfl ?_
      intro T140 X140 e140
      refine own_goto 212 X140 hx hby at_206 (by decide) (by decide) ?_
      refine own_astore 214 #[oI x0, oI x1, oA b1, oI (12 : Int32), oA w_VERTEX, oU] X140 hx hby at_212 rfl rfl rfl ?_
      refine own_iload_n 215 X140 hx hby at_214 rfl rfl ?_
      refine own_iconst 216 (2 : Int32) X140 hx hby at_215 rfl (by decide) ?_
      refine own_icN 219 X140 hx hby at_216 rfl (by decide) ?_
      refine own_iload_n 220 X140 hx hby at_219 rfl rfl ?_
      refine own_bipush 222 (7 : Int32) X140 hx hby at_220 rfl (by decide) ?_
      refine own_icY 243 X140 hx hby at_222 (by decide) (by decide) (by decide) ?_
      refine own_iload_n 244 X140 hx hby at_243 rfl rfl ?_
      refine own_bipush 246 (8 : Int32) X140 hx hby at_244 rfl (by decide) ?_
      refine own_icN 249 X140 hx hby at_246 rfl (by decide) ?_
      refine own_iload_n 250 X140 hx hby at_249 rfl rfl ?_
      refine own_bipush 252 (10 : Int32) X140 hx hby at_250 rfl (by decide) ?_
      refine own_icY 273 X140 hx hby at_252 (by decide) (by decide) (by decide) ?_
      refine own_iconst 274 (1 : Int32) X140 hx hby at_273 rfl (by decide) ?_
      refine own_istore 276 #[oI x0, oI x1, oA b1, oI (12 : Int32), oA w_VERTEX, oI (1 : Int32)] X140 hx hby at_274 rfl rfl ?_
      refine own_aload_n 277 X140 hx hby at_276 rfl rfl rfl ?_
      refine own_iload_n 278 X140 hx hby at_277 rfl rfl ?_
      refine own_aaload 279 (.ref w_HAS_LABEL) X140 hx hby hZ e140 V55 rfl at_278 rfl (by decide) rfl ?_
      refine own_aload 281 X140 hx hby at_279 rfl rfl rfl ?_
      refine own_virt (W := 0) 284 (rm1_1 l Z a0 hw [] w_V w_E w_OUT w_IN w_BOTH w_OUT_E w_IN_E w_BOTH_E w_OUT_V w_IN_V w_BOTH_V w_HAS w_HAS_LABEL w_HAS_NOT w_WHERE w_NOT w_AND w_OR w_ORDER w_VALUES w_ID w_LABEL w_COUNT w_SUM w_MEAN w_MIN w_MAX w_EDGE w_VERTEX W w_HAS_LABEL w_VERTEX h55 n0 O55 (W.2.2.2.2.2.2.2.2.2.2.2.2.2.2.2.2.2.2.2.2.2.2.2.2.2.2.2.2.2.2.2.2.2.2.2.2.2.2.2.2.2.2.2.2.2.2.2.2.2.2.2.2.2.2.2.2.2.2.2.2.2.2.2.2.2.1.ext O55.2)) X140 hx hby hZ hown (own_w hw 62 rfl) (own_w hw 63 rfl) (notFace_of_selects (args := #[]) (mvT hZ (own_w hw 65 rfl))) (own_w hw 65 rfl) (own_w hw 64 rfl) (own_w hw 3 rfl) (own_w hw 66 rfl) (by decide) (by rw [hml]; rfl) w_HAS_LABEL [(.ref w_VERTEX)] [] pd_0 rfl at_281 rfl e140 (W.2.2.2.2.2.2.2.2.2.2.2.2.2.2.2.2.2.2.2.2.2.2.2.2.2.1.ext O55.2) rfl rfl rfl (by decide) (by decide) (by decide) (by decide) ?_
      rintro _ T141 L141 X141 ⟨rfl, N141, e141⟩
      have N141 := Fr.app N55 N141
      show Go p e below _ (T141.setTop (mkF m 284 _ [(.int (1 : Int32))]))
      refine own_iload 286 X141 hx hby at_284 rfl rfl ?_
      refine own_icN 289 X141 hx hby at_286 rfl (by decide) ?_
      refine own_iconst 290 (1 : Int32) X141 hx hby at_289 rfl (by decide) ?_
      refine own_goto 294 X141 hx hby at_290 (by decide) (by decide) ?_
      exact own_ret (Q := own_Q1 n0) X141 hx hby hret hlk at_294 rfl (Or.inl ⟨rfl, by simp, _, rfl⟩) (by decide) (by decide) ⟨rfl, N141⟩
    · refine own_iand 200 (1 : Int32) X55 hx hby at_199 rfl hv139 ?_
      refine own_ifY 209 X55 hx hby at_200 (by decide) (by decide) (by decide) ?_
      refine own_getS 212 X55 hx hby hZ hown (own_w hw 59 rfl) e55 (W.2.2.2.2.2.2.2.2.2.2.2.2.2.2.2.2.2.2.2.2.2.2.2.2.2.2.2.2.2.2.2.2.2.2.2.2.2.2.2.2.2.2.2.2.2.2.2.2.2.2.2.2.2.2.1.ext O55.2) at_209 rfl ?_
      intro T142 X142 e142
      refine own_astore 214 #[oI x0, oI x1, oA b1, oI (12 : Int32), oA w_EDGE, oU] X142 hx hby at_212 rfl rfl rfl ?_
      refine own_iload_n 215 X142 hx hby at_214 rfl rfl ?_
      refine own_iconst 216 (2 : Int32) X142 hx hby at_215 rfl (by decide) ?_
      refine own_icN 219 X142 hx hby at_216 rfl (by decide) ?_
      refine own_iload_n 220 X142 hx hby at_219 rfl rfl ?_
      refine own_bipush 222 (7 : Int32) X142 hx hby at_220 rfl (by decide) ?_
      refine own_icY 243 X142 hx hby at_222 (by decide) (by decide) (by decide) ?_
      refine own_iload_n 244 X142 hx hby at_243 rfl rfl ?_
      refine own_bipush 246 (8 : Int32) X142 hx hby at_244 rfl (by decide) ?_
      refine own_icN 249 X142 hx hby at_246 rfl (by decide) ?_
      refine own_iload_n 250 X142 hx hby at_249 rfl rfl ?_
      refine own_bipush 252 (10 : Int32) X142 hx hby at_250 rfl (by decide) ?_
      refine own_icY 273 X142 hx hby at_252 (by decide) (by decide) (by decide) ?_
      refine own_iconst 274 (1 : Int32) X142 hx hby at_273 rfl (by decide) ?_
      refine own_istore 276 #[oI x0, oI x1, oA b1, oI (12 : Int32), oA w_EDGE, oI (1 : Int32)] X142 hx hby at_274 rfl rfl ?_
      refine own_aload_n 277 X142 hx hby at_276 rfl rfl rfl ?_
      refine own_iload_n 278 X142 hx hby at_277 rfl rfl ?_
      refine own_aaload 279 (.ref w_HAS_LABEL) X142 hx hby hZ e142 V55 rfl at_278 rfl (by decide) rfl ?_
      refine own_aload 281 X142 hx hby at_279 rfl rfl rfl ?_
      refine own_virt (W := 0) 284 (rm1_1 l Z a0 hw [] w_V w_E w_OUT w_IN w_BOTH w_OUT_E w_IN_E w_BOTH_E w_OUT_V w_IN_V w_BOTH_V w_HAS w_HAS_LABEL w_HAS_NOT w_WHERE w_NOT w_AND w_OR w_ORDER w_VALUES w_ID w_LABEL w_COUNT w_SUM w_MEAN w_MIN w_MAX w_EDGE w_VERTEX W w_HAS_LABEL w_EDGE h55 n0 O55 (W.2.2.2.2.2.2.2.2.2.2.2.2.2.2.2.2.2.2.2.2.2.2.2.2.2.2.2.2.2.2.2.2.2.2.2.2.2.2.2.2.2.2.2.2.2.2.2.2.2.2.2.2.2.2.2.2.2.2.2.2.2.2.2.2.2.1.ext O55.2)) X142 hx hby hZ hown (own_w hw 62 rfl) (own_w hw 63 rfl) (notFace_of_selects (args := #[]) (mvT hZ (own_w hw 65 rfl))) (own_w hw 65 rfl) (own_w hw 64 rfl) (own_w hw 3 rfl) (own_w hw 66 rfl) (by decide) (by rw [hml]; rfl) w_HAS_LABEL [(.ref w_EDGE)] [] pd_0 rfl at_281 rfl e142 (W.2.2.2.2.2.2.2.2.2.2.2.2.2.2.2.2.2.2.2.2.2.2.2.2.2.1.ext O55.2) rfl rfl rfl (by decide) (by decide) (by decide) (by decide) ?_
      rintro _ T143 L143 X143 ⟨rfl, N143, e143⟩
      have N143 := Fr.app N55 N143
      show Go p e below _ (T143.setTop (mkF m 284 _ [(.int (1 : Int32))]))
      refine own_iload 286 X143 hx hby at_284 rfl rfl ?_
      refine own_icN 289 X143 hx hby at_286 rfl (by decide) ?_
      refine own_iconst 290 (1 : Int32) X143 hx hby at_289 rfl (by decide) ?_
      refine own_goto 294 X143 hx hby at_290 (by decide) (by decide) ?_
      exact own_ret (Q := own_Q1 n0) X143 hx hby hret hlk at_294 rfl (Or.inl ⟨rfl, by simp, _, rfl⟩) (by decide) (by decide) ⟨rfl, N143⟩
  · refine own_irem 196 (13 : Int32) X55 hx hby at_195 rfl (by decide) hv56 ?_
    refine own_istore_n 197 #[oI x0, oI x1, oA b1, oI (13 : Int32), oU, oU] X55 hx hby at_196 rfl rfl ?_
    refine own_iload_n 198 X55 hx hby at_197 rfl rfl ?_
    refine own_iconst 199 (1 : Int32) X55 hx hby at_198 rfl (by decide) ?_
    rcases own_and1 x1 with hv144 | hv144
    · refine own_iand 200 (0 : Int32) X55 hx hby at_199 rfl hv144 ?_
      refine own_ifN 203 X55 hx hby at_200 rfl (by decide) ?_
      refine own_getS 206 X55 hx hby hZ hown (own_w hw 69 rfl) e55 (W.2.2.2.2.2.2.2.2.2.2.2.2.2.2.2.2.2.2.2.2.2.2.2.2.2.2.2.2.2.2.2.2.2.2.2.2.2.2.2.2.2.2.2.2.2.2.2.2.2.2.2.2.2.2.2.2.1.ext O55.2) at_203 rfl ?_
      intro T145 X145 e145
      refine own_goto 212 X145 hx hby at_206 (by decide) (by decide) ?_
      refine own_astore 214 #[oI x0, oI x1, oA b1, oI (13 : Int32), oA w_VERTEX, oU] X145 hx hby at_212 rfl rfl rfl ?_
      refine own_iload_n 215 X145 hx hby at_214 rfl rfl ?_
      refine own_iconst 216 (2 : Int32) X145 hx hby at_215 rfl (by decide) ?_
      refine own_icN 219 X145 hx hby at_216 rfl (by decide) ?_
      refine own_iload_n 220 X145 hx hby at_219 rfl rfl ?_
      refine own_bipush 222 (7 : Int32) X145 hx hby at_220 rfl (by decide) ?_
      refine own_icY 243 X145 hx hby at_222 (by decide) (by decide) (by decide) ?_
      refine own_iload_n 244 X145 hx hby at_243 rfl rfl ?_
      refine own_bipush 246 (8 : Int32) X145 hx hby at_244 rfl (by decide) ?_
      refine own_icN 249 X145 hx hby at_246 rfl (by decide) ?_
      refine own_iload_n 250 X145 hx hby at_249 rfl rfl ?_
      refine own_bipush 252 (10 : Int32) X145 hx hby at_250 rfl (by decide) ?_
      refine own_icY 273 X145 hx hby at_252 (by decide) (by decide) (by decide) ?_
      refine own_iconst 274 (1 : Int32) X145 hx hby at_273 rfl (by decide) ?_
      refine own_istore 276 #[oI x0, oI x1, oA b1, oI (13 : Int32), oA w_VERTEX, oI (1 : Int32)] X145 hx hby at_274 rfl rfl ?_
      refine own_aload_n 277 X145 hx hby at_276 rfl rfl rfl ?_
      refine own_iload_n 278 X145 hx hby at_277 rfl rfl ?_
      refine own_aaload 279 (.ref w_HAS_NOT) X145 hx hby hZ e145 V55 rfl at_278 rfl (by decide) rfl ?_
      refine own_aload 281 X145 hx hby at_279 rfl rfl rfl ?_
      refine own_virt (W := 0) 284 (rm1_1 l Z a0 hw [] w_V w_E w_OUT w_IN w_BOTH w_OUT_E w_IN_E w_BOTH_E w_OUT_V w_IN_V w_BOTH_V w_HAS w_HAS_LABEL w_HAS_NOT w_WHERE w_NOT w_AND w_OR w_ORDER w_VALUES w_ID w_LABEL w_COUNT w_SUM w_MEAN w_MIN w_MAX w_EDGE w_VERTEX W w_HAS_NOT w_VERTEX h55 n0 O55 (W.2.2.2.2.2.2.2.2.2.2.2.2.2.2.2.2.2.2.2.2.2.2.2.2.2.2.2.2.2.2.2.2.2.2.2.2.2.2.2.2.2.2.2.2.2.2.2.2.2.2.2.2.2.2.2.2.2.2.2.2.2.1.ext O55.2)) X145 hx hby hZ hown (own_w hw 62 rfl) (own_w hw 63 rfl) (notFace_of_selects (args := #[]) (mvT hZ (own_w hw 65 rfl))) (own_w hw 65 rfl) (own_w hw 64 rfl) (own_w hw 3 rfl) (own_w hw 66 rfl) (by decide) (by rw [hml]; rfl) w_HAS_NOT [(.ref w_VERTEX)] [] pd_0 rfl at_281 rfl e145 (W.2.2.2.2.2.2.2.2.2.2.2.2.2.2.2.2.2.2.2.2.2.2.2.2.2.2.2.1.ext O55.2) rfl rfl rfl (by decide) (by decide) (by decide) (by decide) ?_
      rintro _ T146 L146 X146 ⟨rfl, N146, e146⟩
      have N146 := Fr.app N55 N146
      show Go p e below _ (T146.setTop (mkF m 284 _ [(.int (1 : Int32))]))
      refine own_iload 286 X146 hx hby at_284 rfl rfl ?_
      refine own_icN 289 X146 hx hby at_286 rfl (by decide) ?_
      refine own_iconst 290 (1 : Int32) X146 hx hby at_289 rfl (by decide) ?_
      refine own_goto 294 X146 hx hby at_290 (by decide) (by decide) ?_
      exact own_ret (Q := own_Q1 n0) X146 hx hby hret hlk at_294 rfl (Or.inl ⟨rfl, by simp, _, rfl⟩) (by decide) (by decide) ⟨rfl, N146⟩
    · refine own_iand 200 (1 : Int32) X55 hx hby at_199 rfl hv144 ?_
      refine own_ifY 209 X55 hx hby at_200 (by decide) (by decide) (by decide) ?_
      refine own_getS 212 X55 hx hby hZ hown (own_w hw 59 rfl) e55 (W.2.2.2.2.2.2.2.2.2.2.2.2.2.2.2.2.2.2.2.2.2.2.2.2.2.2.2.2.2.2.2.2.2.2.2.2.2.2.2.2.2.2.2.2.2.2.2.2.2.2.2.2.2.2.1.ext O55.2) at_209 rfl ?_
      intro T147 X147 e147
      refine own_astore 214 #[oI x0, oI x1, oA b1, oI (13 : Int32), oA w_EDGE, oU] X147 hx hby at_212 rfl rfl rfl ?_
      refine own_iload_n 215 X147 hx hby at_214 rfl rfl ?_
      refine own_iconst 216 (2 : Int32) X147 hx hby at_215 rfl (by decide) ?_
      refine own_icN 219 X147 hx hby at_216 rfl (by decide) ?_
      refine own_iload_n 220 X147 hx hby at_219 rfl rfl ?_
      refine own_bipush 222 (7 : Int32) X147 hx hby at_220 rfl (by decide) ?_
      refine own_icY 243 X147 hx hby at_222 (by decide) (by decide) (by decide) ?_
      refine own_iload_n 244 X147 hx hby at_243 rfl rfl ?_
      refine own_bipush 246 (8 : Int32) X147 hx hby at_244 rfl (by decide) ?_
      refine own_icN 249 X147 hx hby at_246 rfl (by decide) ?_
      refine own_iload_n 250 X147 hx hby at_249 rfl rfl ?_
      refine own_bipush 252 (10 : Int32) X147 hx hby at_250 rfl (by decide) ?_
      refine own_icY 273 X147 hx hby at_252 (by decide) (by decide) (by decide) ?_
      refine own_iconst 274 (1 : Int32) X147 hx hby at_273 rfl (by decide) ?_
      refine own_istore 276 #[oI x0, oI x1, oA b1, oI (13 : Int32), oA w_EDGE, oI (1 : Int32)] X147 hx hby at_274 rfl rfl ?_
      refine own_aload_n 277 X147 hx hby at_276 rfl rfl rfl ?_
      refine own_iload_n 278 X147 hx hby at_277 rfl rfl ?_
      refine own_aaload 279 (.ref w_HAS_NOT) X147 hx hby hZ e147 V55 rfl at_278 rfl (by decide) rfl ?_
      refine own_aload 281 X147 hx hby at_279 rfl rfl rfl ?_
      refine own_virt (W := 0) 284 (rm1_1 l Z a0 hw [] w_V w_E w_OUT w_IN w_BOTH w_OUT_E w_IN_E w_BOTH_E w_OUT_V w_IN_V w_BOTH_V w_HAS w_HAS_LABEL w_HAS_NOT w_WHERE w_NOT w_AND w_OR w_ORDER w_VALUES w_ID w_LABEL w_COUNT w_SUM w_MEAN w_MIN w_MAX w_EDGE w_VERTEX W w_HAS_NOT w_EDGE h55 n0 O55 (W.2.2.2.2.2.2.2.2.2.2.2.2.2.2.2.2.2.2.2.2.2.2.2.2.2.2.2.2.2.2.2.2.2.2.2.2.2.2.2.2.2.2.2.2.2.2.2.2.2.2.2.2.2.2.2.2.2.2.2.2.2.1.ext O55.2)) X147 hx hby hZ hown (own_w hw 62 rfl) (own_w hw 63 rfl) (notFace_of_selects (args := #[]) (mvT hZ (own_w hw 65 rfl))) (own_w hw 65 rfl) (own_w hw 64 rfl) (own_w hw 3 rfl) (own_w hw 66 rfl) (by decide) (by rw [hml]; rfl) w_HAS_NOT [(.ref w_EDGE)] [] pd_0 rfl at_281 rfl e147 (W.2.2.2.2.2.2.2.2.2.2.2.2.2.2.2.2.2.2.2.2.2.2.2.2.2.2.2.1.ext O55.2) rfl rfl rfl (by decide) (by decide) (by decide) (by decide) ?_
      rintro _ T148 L148 X148 ⟨rfl, N148, e148⟩
      have N148 := Fr.app N55 N148
      show Go p e below _ (T148.setTop (mkF m 284 _ [(.int (1 : Int32))]))
      refine own_iload 286 X148 hx hby at_284 rfl rfl ?_
      refine own_icN 289 X148 hx hby at_286 rfl (by decide) ?_
      refine own_iconst 290 (1 : Int32) X148 hx hby at_289 rfl (by decide) ?_
      refine own_goto 294 X148 hx hby at_290 (by decide) (by decide) ?_
      exact own_ret (Q := own_Q1 n0) X148 hx hby hret hlk at_294 rfl (Or.inl ⟨rfl, by simp, _, rfl⟩) (by decide) (by decide) ⟨rfl, N148⟩
  · refine own_irem 196 (14 : Int32) X55 hx hby at_195 rfl (by decide) hv56 ?_
    refine own_istore_n 197 #[oI x0, oI x1, oA b1, oI (14 : Int32), oU, oU] X55 hx hby at_196 rfl rfl ?_
    refine own_iload_n 198 X55 hx hby at_197 rfl rfl ?_
    refine own_iconst 199 (1 : Int32) X55 hx hby at_198 rfl (by decide) ?_
    rcases own_and1 x1 with hv149 | hv149
    · refine own_iand 200 (0 : Int32) X55 hx hby at_199 rfl hv149 ?_
      refine own_ifN 203 X55 hx hby at_200 rfl (by decide) ?_
      refine own_getS 206 X55 hx hby hZ hown (own_w hw 69 rfl) e55 (W.2.2.2.2.2.2.2.2.2.2.2.2.2.2.2.2.2.2.2.2.2.2.2.2.2.2.2.2.2.2.2.2.2.2.2.2.2.2.2.2.2.2.2.2.2.2.2.2.2.2.2.2.2.2.2.2.1.ext O55.2) at_203 rfl ?_
      intro T150 X150 e150
      refine own_goto 212 X150 hx hby at_206 (by decide) (by decide) ?_
      refine own_astore 214 #[oI x0, oI x1, oA b1, oI (14 : Int32), oA w_VERTEX, oU] X150 hx hby at_212 rfl rfl rfl ?_
      refine own_iload_n 215 X150 hx hby at_214 rfl rfl ?_
      refine own_iconst 216 (2 : Int32) X150 hx hby at_215 rfl (by decide) ?_
      refine own_icN 219 X150 hx hby at_216 rfl (by decide) ?_
      refine own_iload_n 220 X150 hx hby at_219 rfl rfl ?_
      refine own_bipush 222 (7 : Int32) X150 hx hby at_220 rfl (by decide) ?_
      refine own_icY 243 X150 hx hby at_222 (by decide) (by decide) (by decide) ?_
      refine own_iload_n 244 X150 hx hby at_243 rfl rfl ?_
      refine own_bipush 246 (8 : Int32) X150 hx hby at_244 rfl (by decide) ?_
      refine own_icN 249 X150 hx hby at_246 rfl (by decide) ?_
      refine own_iload_n 250 X150 hx hby at_249 rfl rfl ?_
      refine own_bipush 252 (10 : Int32) X150 hx hby at_250 rfl (by decide) ?_
      refine own_icY 273 X150 hx hby at_252 (by decide) (by decide) (by decide) ?_
      refine own_iconst 274 (1 : Int32) X150 hx hby at_273 rfl (by decide) ?_
      refine own_istore 276 #[oI x0, oI x1, oA b1, oI (14 : Int32), oA w_VERTEX, oI (1 : Int32)] X150 hx hby at_274 rfl rfl ?_
      refine own_aload_n 277 X150 hx hby at_276 rfl rfl rfl ?_
      refine own_iload_n 278 X150 hx hby at_277 rfl rfl ?_
      refine own_aaload 279 (.ref w_WHERE) X150 hx hby hZ e150 V55 rfl at_278 rfl (by decide) rfl ?_
      refine own_aload 281 X150 hx hby at_279 rfl rfl rfl ?_
      refine own_virt (W := 0) 284 (rm1_1 l Z a0 hw [] w_V w_E w_OUT w_IN w_BOTH w_OUT_E w_IN_E w_BOTH_E w_OUT_V w_IN_V w_BOTH_V w_HAS w_HAS_LABEL w_HAS_NOT w_WHERE w_NOT w_AND w_OR w_ORDER w_VALUES w_ID w_LABEL w_COUNT w_SUM w_MEAN w_MIN w_MAX w_EDGE w_VERTEX W w_WHERE w_VERTEX h55 n0 O55 (W.2.2.2.2.2.2.2.2.2.2.2.2.2.2.2.2.2.2.2.2.2.2.2.2.2.2.2.2.2.2.2.2.2.2.2.2.2.2.2.2.2.2.2.2.2.2.2.2.2.2.2.2.2.2.2.2.2.2.2.1.ext O55.2)) X150 hx hby hZ hown (own_w hw 62 rfl) (own_w hw 63 rfl) (notFace_of_selects (args := #[]) (mvT hZ (own_w hw 65 rfl))) (own_w hw 65 rfl) (own_w hw 64 rfl) (own_w hw 3 rfl) (own_w hw 66 rfl) (by decide) (by rw [hml]; rfl) w_WHERE [(.ref w_VERTEX)] [] pd_0 rfl at_281 rfl e150 (W.2.2.2.2.2.2.2.2.2.2.2.2.2.2.2.2.2.2.2.2.2.2.2.2.2.2.2.2.2.1.ext O55.2) rfl rfl rfl (by decide) (by decide) (by decide) (by decide) ?_
      rintro _ T151 L151 X151 ⟨rfl, N151, e151⟩
      have N151 := Fr.app N55 N151
      show Go p e below _ (T151.setTop (mkF m 284 _ [(.int (1 : Int32))]))
      refine own_iload 286 X151 hx hby at_284 rfl rfl ?_
      refine own_icN 289 X151 hx hby at_286 rfl (by decide) ?_
      refine own_iconst 290 (1 : Int32) X151 hx hby at_289 rfl (by decide) ?_
      refine own_goto 294 X151 hx hby at_290 (by decide) (by decide) ?_
      exact own_ret (Q := own_Q1 n0) X151 hx hby hret hlk at_294 rfl (Or.inl ⟨rfl, by simp, _, rfl⟩) (by decide) (by decide) ⟨rfl, N151⟩
    · refine own_iand 200 (1 : Int32) X55 hx hby at_199 rfl hv149 ?_
      refine own_ifY 209 X55 hx hby at_200 (by decide) (by decide) (by decide) ?_
      refine own_getS 212 X55 hx hby hZ hown (own_w hw 59 rfl) e55 (W.2.2.2.2.2.2.2.2.2.2.2.2.2.2.2.2.2.2.2.2.2.2.2.2.2.2.2.2.2.2.2.2.2.2.2.2.2.2.2.2.2.2.2.2.2.2.2.2.2.2.2.2.2.2.1.ext O55.2) at_209 rfl ?_
      intro T152 X152 e152
      refine own_astore 214 #[oI x0, oI x1, oA b1, oI (14 : Int32), oA w_EDGE, oU] X152 hx hby at_212 rfl rfl rfl ?_
      refine own_iload_n 215 X152 hx hby at_214 rfl rfl ?_
      refine own_iconst 216 (2 : Int32) X152 hx hby at_215 rfl (by decide) ?_
      refine own_icN 219 X152 hx hby at_216 rfl (by decide) ?_
      refine own_iload_n 220 X152 hx hby at_219 rfl rfl ?_
      refine own_bipush 222 (7 : Int32) X152 hx hby at_220 rfl (by decide) ?_
      refine own_icY 243 X152 hx hby at_222 (by decide) (by decide) (by decide) ?_
      refine own_iload_n 244 X152 hx hby at_243 rfl rfl ?_
      refine own_bipush 246 (8 : Int32) X152 hx hby at_244 rfl (by decide) ?_
      refine own_icN 249 X152 hx hby at_246 rfl (by decide) ?_
      refine own_iload_n 250 X152 hx hby at_249 rfl rfl ?_
      refine own_bipush 252 (10 : Int32) X152 hx hby at_250 rfl (by decide) ?_
      refine own_icY 273 X152 hx hby at_252 (by decide) (by decide) (by decide) ?_
      refine own_iconst 274 (1 : Int32) X152 hx hby at_273 rfl (by decide) ?_
      refine own_istore 276 #[oI x0, oI x1, oA b1, oI (14 : Int32), oA w_EDGE, oI (1 : Int32)] X152 hx hby at_274 rfl rfl ?_
      refine own_aload_n 277 X152 hx hby at_276 rfl rfl rfl ?_
      refine own_iload_n 278 X152 hx hby at_277 rfl rfl ?_
      refine own_aaload 279 (.ref w_WHERE) X152 hx hby hZ e152 V55 rfl at_278 rfl (by decide) rfl ?_
      refine own_aload 281 X152 hx hby at_279 rfl rfl rfl ?_
      refine own_virt (W := 0) 284 (rm1_1 l Z a0 hw [] w_V w_E w_OUT w_IN w_BOTH w_OUT_E w_IN_E w_BOTH_E w_OUT_V w_IN_V w_BOTH_V w_HAS w_HAS_LABEL w_HAS_NOT w_WHERE w_NOT w_AND w_OR w_ORDER w_VALUES w_ID w_LABEL w_COUNT w_SUM w_MEAN w_MIN w_MAX w_EDGE w_VERTEX W w_WHERE w_EDGE h55 n0 O55 (W.2.2.2.2.2.2.2.2.2.2.2.2.2.2.2.2.2.2.2.2.2.2.2.2.2.2.2.2.2.2.2.2.2.2.2.2.2.2.2.2.2.2.2.2.2.2.2.2.2.2.2.2.2.2.2.2.2.2.2.1.ext O55.2)) X152 hx hby hZ hown (own_w hw 62 rfl) (own_w hw 63 rfl) (notFace_of_selects (args := #[]) (mvT hZ (own_w hw 65 rfl))) (own_w hw 65 rfl) (own_w hw 64 rfl) (own_w hw 3 rfl) (own_w hw 66 rfl) (by decide) (by rw [hml]; rfl) w_WHERE [(.ref w_EDGE)] [] pd_0 rfl at_281 rfl e152 (W.2.2.2.2.2.2.2.2.2.2.2.2.2.2.2.2.2.2.2.2.2.2.2.2.2.2.2.2.2.1.ext O55.2) rfl rfl rfl (by decide) (by decide) (by decide) (by decide) ?_
      rintro _ T153 L153 X153 ⟨rfl, N153, e153⟩
      have N153 := Fr.app N55 N153
      show Go p e below _ (T153.setTop (mkF m 284 _ [(.int (1 : Int32))]))
      refine own_iload 286 X153 hx hby at_284 rfl rfl ?_
      refine own_icN 289 X153 hx hby at_286 rfl (by decide) ?_
      refine own_iconst 290 (1 : Int32) X153 hx hby at_289 rfl (by decide) ?_
      refine own_goto 294 X153 hx hby at_290 (by decide) (by decide) ?_
      exact own_ret (Q := own_Q1 n0) X153 hx hby hret hlk at_294 rfl (Or.inl ⟨rfl, by simp, _, rfl⟩) (by decide) (by decide) ⟨rfl, N153⟩
  · refine own_irem 196 (15 : Int32) X55 hx hby at_195 rfl (by decide) hv56 ?_
    refine own_istore_n 197 #[oI x0, oI x1, oA b1, oI (15 : Int32), oU, oU] X55 hx hby at_196 rfl rfl ?_
    refine own_iload_n 198 X55 hx hby at_197 rfl rfl ?_
    refine own_iconst 199 (1 : Int32) X55 hx hby at_198 rfl (by decide) ?_
    rcases own_and1 x1 with hv154 | hv154
    · refine own_iand 200 (0 : Int32) X55 hx hby at_199 rfl hv154 ?_
      refine own_ifN 203 X55 hx hby at_200 rfl (by decide) ?_
      refine own_getS 206 X55 hx hby hZ hown (own_w hw 69 rfl) e55 (W.2.2.2.2.2.2.2.2.2.2.2.2.2.2.2.2.2.2.2.2.2.2.2.2.2.2.2.2.2.2.2.2.2.2.2.2.2.2.2.2.2.2.2.2.2.2.2.2.2.2.2.2.2.2.2.2.1.ext O55.2) at_203 rfl ?_
      intro T155 X155 e155
      refine own_goto 212 X155 hx hby at_206 (by decide) (by decide) ?_
      refine own_astore 214 #[oI x0, oI x1, oA b1, oI (15 : Int32), oA w_VERTEX, oU] X155 hx hby at_212 rfl rfl rfl ?_
      refine own_iload_n 215 X155 hx hby at_214 rfl rfl ?_
      refine own_iconst 216 (2 : Int32) X155 hx hby at_215 rfl (by decide) ?_
      refine own_icN 219 X155 hx hby at_216 rfl (by decide) ?_
      refine own_iload_n 220 X155 hx hby at_219 rfl rfl ?_
      refine own_bipush 222 (7 : Int32) X155 hx hby at_220 rfl (by decide) ?_
      refine own_icY 243 X155 hx hby at_222 (by decide) (by decide) (by decide) ?_
      refine own_iload_n 244 X155 hx hby at_243 rfl rfl ?_
      refine own_bipush 246 (8 : Int32) X155 hx hby at_244 rfl (by decide) ?_
      refine own_icN 249 X155 hx hby at_246 rfl (by decide) ?_
      refine own_iload_n 250 X155 hx hby at_249 rfl rfl ?_
      refine own_bipush 252 (10 : Int32) X155 hx hby at_250 rfl (by decide) ?_
      refine own_icY 273 X155 hx hby at_252 (by decide) (by decide) (by decide) ?_
      refine own_iconst 274 (1 : Int32) X155 hx hby at_273 rfl (by decide) ?_
      refine own_istore 276 #[oI x0, oI x1, oA b1, oI (15 : Int32), oA w_VERTEX, oI (1 : Int32)] X155 hx hby at_274 rfl rfl ?_
      refine own_aload_n 277 X155 hx hby at_276 rfl rfl rfl ?_
      refine own_iload_n 278 X155 hx hby at_277 rfl rfl ?_
      refine own_aaload 279 (.ref w_NOT) X155 hx hby hZ e155 V55 rfl at_278 rfl (by decide) rfl ?_
      refine own_aload 281 X155 hx hby at_279 rfl rfl rfl ?_
      refine own_virt (W := 0) 284 (rm1_1 l Z a0 hw [] w_V w_E w_OUT w_IN w_BOTH w_OUT_E w_IN_E w_BOTH_E w_OUT_V w_IN_V w_BOTH_V w_HAS w_HAS_LABEL w_HAS_NOT w_WHERE w_NOT w_AND w_OR w_ORDER w_VALUES w_ID w_LABEL w_COUNT w_SUM w_MEAN w_MIN w_MAX w_EDGE w_VERTEX W w_NOT w_VERTEX h55 n0 O55 (W.2.2.2.2.2.2.2.2.2.2.2.2.2.2.2.2.2.2.2.2.2.2.2.2.2.2.2.2.2.2.2.2.2.2.2.2.2.2.2.2.2.2.2.2.2.2.2.2.2.2.2.2.2.2.2.2.2.2.2.2.2.2.2.2.2.2.2.2.2.2.2.2.2.2.1.ext O55.2)) X155 hx hby hZ hown (own_w hw 62 rfl) (own_w hw 63 rfl) (notFace_of_selects (args := #[]) (mvT hZ (own_w hw 65 rfl))) (own_w hw 65 rfl) (own_w hw 64 rfl) (own_w hw 3 rfl) (own_w hw 66 rfl) (by decide) (by rw [hml]; rfl) w_NOT [(.ref w_VERTEX)] [] pd_0 rfl at_281 rfl e155 (W.2.2.2.2.2.2.2.2.2.2.2.2.2.2.2.2.2.2.2.2.2.2.2.2.2.2.2.2.2.2.2.1.ext O55.2) rfl rfl rfl (by decide) (by decide) (by decide) (by decide) ?_
      rintro _ T156 L156 X156 ⟨rfl, N156, e156⟩
      have N156 := Fr.app N55 N156
      show Go p e below _ (T156.setTop (mkF m 284 _ [(.int (1 : Int32))]))
      refine own_iload 286 X156 hx hby at_284 rfl rfl ?_
      refine own_icN 289 X156 hx hby at_286 rfl (by decide) ?_
      refine own_iconst 290 (1 : Int32) X156 hx hby at_289 rfl (by decide) ?_
      refine own_goto 294 X156 hx hby at_290 (by decide) (by decide) ?_
      exact own_ret (Q := own_Q1 n0) X156 hx hby hret hlk at_294 rfl (Or.inl ⟨rfl, by simp, _, rfl⟩) (by decide) (by decide) ⟨rfl, N156⟩
    · refine own_iand 200 (1 : Int32) X55 hx hby at_199 rfl hv154 ?_
      refine own_ifY 209 X55 hx hby at_200 (by decide) (by decide) (by decide) ?_
      refine own_getS 212 X55 hx hby hZ hown (own_w hw 59 rfl) e55 (W.2.2.2.2.2.2.2.2.2.2.2.2.2.2.2.2.2.2.2.2.2.2.2.2.2.2.2.2.2.2.2.2.2.2.2.2.2.2.2.2.2.2.2.2.2.2.2.2.2.2.2.2.2.2.1.ext O55.2) at_209 rfl ?_
      intro T157 X157 e157
      refine own_astore 214 #[oI x0, oI x1, oA b1, oI (15 : Int32), oA w_EDGE, oU] X157 hx hby at_212 rfl rfl rfl ?_
      refine own_iload_n 215 X157 hx hby at_214 rfl rfl ?_
      refine own_iconst 216 (2 : Int32) X157 hx hby at_215 rfl (by decide) ?_
      refine own_icN 219 X157 hx hby at_216 rfl (by decide) ?_
      refine own_iload_n 220 X157 hx hby at_219 rfl rfl ?_
      refine own_bipush 222 (7 : Int32) X157 hx hby at_220 rfl (by decide) ?_
      refine own_icY 243 X157 hx hby at_222 (by decide) (by decide) (by decide) ?_
      refine own_iload_n 244 X157 hx hby at_243 rfl rfl ?_
      refine own_bipush 246 (8 : Int32) X157 hx hby at_244 rfl (by decide) ?_
      refine own_icN 249 X157 hx hby at_246 rfl (by decide) ?_
      refine own_iload_n 250 X157 hx hby at_249 rfl rfl ?_
      refine own_bipush 252 (10 : Int32) X157 hx hby at_250 rfl (by decide) ?_
      refine own_icY 273 X157 hx hby at_252 (by decide) (by decide) (by decide) ?_
      refine own_iconst 274 (1 : Int32) X157 hx hby at_273 rfl (by decide) ?_
      refine own_istore 276 #[oI x0, oI x1, oA b1, oI (15 : Int32), oA w_EDGE, oI (1 : Int32)] X157 hx hby at_274 rfl rfl ?_
      refine own_aload_n 277 X157 hx hby at_276 rfl rfl rfl ?_
      refine own_iload_n 278 X157 hx hby at_277 rfl rfl ?_
      refine own_aaload 279 (.ref w_NOT) X157 hx hby hZ e157 V55 rfl at_278 rfl (by decide) rfl ?_
      refine own_aload 281 X157 hx hby at_279 rfl rfl rfl ?_
      refine own_virt (W := 0) 284 (rm1_1 l Z a0 hw [] w_V w_E w_OUT w_IN w_BOTH w_OUT_E w_IN_E w_BOTH_E w_OUT_V w_IN_V w_BOTH_V w_HAS w_HAS_LABEL w_HAS_NOT w_WHERE w_NOT w_AND w_OR w_ORDER w_VALUES w_ID w_LABEL w_COUNT w_SUM w_MEAN w_MIN w_MAX w_EDGE w_VERTEX W w_NOT w_EDGE h55 n0 O55 (W.2.2.2.2.2.2.2.2.2.2.2.2.2.2.2.2.2.2.2.2.2.2.2.2.2.2.2.2.2.2.2.2.2.2.2.2.2.2.2.2.2.2.2.2.2.2.2.2.2.2.2.2.2.2.2.2.2.2.2.2.2.2.2.2.2.2.2.2.2.2.2.2.2.2.1.ext O55.2)) X157 hx hby hZ hown (own_w hw 62 rfl) (own_w hw 63 rfl) (notFace_of_selects (args := #[]) (mvT hZ (own_w hw 65 rfl))) (own_w hw 65 rfl) (own_w hw 64 rfl) (own_w hw 3 rfl) (own_w hw 66 rfl) (by decide) (by rw [hml]; rfl) w_NOT [(.ref w_EDGE)] [] pd_0 rfl at_281 rfl e157 (W.2.2.2.2.2.2.2.2.2.2.2.2.2.2.2.2.2.2.2.2.2.2.2.2.2.2.2.2.2.2.2.1.ext O55.2) rfl rfl rfl (by decide) (by decide) (by decide) (by decide) ?_
      rintro _ T158 L158 X158 ⟨rfl, N158, e158⟩
      have N158 := Fr.app N55 N158
      show Go p e below _ (T158.setTop (mkF m 284 _ [(.int (1 : Int32))]))
      refine own_iload 286 X158 hx hby at_284 rfl rfl ?_
      refine own_icN 289 X158 hx hby at_286 rfl (by decide) ?_
      refine own_iconst 290 (1 : Int32) X158 hx hby at_289 rfl (by decide) ?_
      refine own_goto 294 X158 hx hby at_290 (by decide) (by decide) ?_
      exact own_ret (Q := own_Q1 n0) X158 hx hby hret hlk at_294 rfl (Or.inl ⟨rfl, by simp, _, rfl⟩) (by decide) (by decide) ⟨rfl, N158⟩
  · refine own_irem 196 (16 : Int32) X55 hx hby at_195 rfl (by decide) hv56 ?_
    refine own_istore_n 197 #[oI x0, oI x1, oA b1, oI (16 : Int32), oU, oU] X55 hx hby at_196 rfl rfl ?_
    refine own_iload_n 198 X55 hx hby at_197 rfl rfl ?_
    refine own_iconst 199 (1 : Int32) X55 hx hby at_198 rfl (by decide) ?_
    rcases own_and1 x1 with hv159 | hv159
    · refine own_iand 200 (0 : Int32) X55 hx hby at_199 rfl hv159 ?_
      refine own_ifN 203 X55 hx hby at_200 rfl (by decide) ?_
      refine own_getS 206 X55 hx hby hZ hown (own_w hw 69 rfl) e55 (W.2.2.2.2.2.2.2.2.2.2.2.2.2.2.2.2.2.2.2.2.2.2.2.2.2.2.2.2.2.2.2.2.2.2.2.2.2.2.2.2.2.2.2.2.2.2.2.2.2.2.2.2.2.2.2.2.1.ext O55.2) at_203 rfl ?_
      intro T160 X160 e160
      refine own_goto 212 X160 hx hby at_206 (by decide) (by decide) ?_
      refine own_astore 214 #[oI x0, oI x1, oA b1, oI (16 : Int32), oA w_VERTEX, oU] X160 hx hby at_212 rfl rfl rfl ?_
      refine own_iload_n 215 X160 hx hby at_214 rfl rfl ?_
      refine own_iconst 216 (2 : Int32) X160 hx hby at_215 rfl (by decide) ?_
      refine own_icN 219 X160 hx hby at_216 rfl (by decide) ?_
      refine own_iload_n 220 X160 hx hby at_219 rfl rfl ?_
      refine own_bipush 222 (7 : Int32) X160 hx hby at_220 rfl (by decide) ?_
      refine own_icY 243 X160 hx hby at_222 (by decide) (by decide) (by decide) ?_
      refine own_iload_n 244 X160 hx hby at_243 rfl rfl ?_
      refine own_bipush 246 (8 : Int32) X160 hx hby at_244 rfl (by decide) ?_
      refine own_icN 249 X160 hx hby at_246 rfl (by decide) ?_
      refine own_iload_n 250 X160 hx hby at_249 rfl rfl ?_
      refine own_bipush 252 (10 : Int32) X160 hx hby at_250 rfl (by decide) ?_
      refine own_icY 273 X160 hx hby at_252 (by decide) (by decide) (by decide) ?_
      refine own_iconst 274 (1 : Int32) X160 hx hby at_273 rfl (by decide) ?_
      refine own_istore 276 #[oI x0, oI x1, oA b1, oI (16 : Int32), oA w_VERTEX, oI (1 : Int32)] X160 hx hby at_274 rfl rfl ?_
      refine own_aload_n 277 X160 hx hby at_276 rfl rfl rfl ?_
      refine own_iload_n 278 X160 hx hby at_277 rfl rfl ?_
      refine own_aaload 279 (.ref w_AND) X160 hx hby hZ e160 V55 rfl at_278 rfl (by decide) rfl ?_
      refine own_aload 281 X160 hx hby at_279 rfl rfl rfl ?_
      refine own_virt (W := 0) 284 (rm1_1 l Z a0 hw [] w_V w_E w_OUT w_IN w_BOTH w_OUT_E w_IN_E w_BOTH_E w_OUT_V w_IN_V w_BOTH_V w_HAS w_HAS_LABEL w_HAS_NOT w_WHERE w_NOT w_AND w_OR w_ORDER w_VALUES w_ID w_LABEL w_COUNT w_SUM w_MEAN w_MIN w_MAX w_EDGE w_VERTEX W w_AND w_VERTEX h55 n0 O55 (W.2.2.2.2.2.2.2.2.2.2.2.2.2.2.2.2.2.2.2.2.2.2.2.2.2.2.2.2.2.2.2.2.2.2.2.2.2.2.2.2.2.2.2.2.2.2.2.2.2.2.2.2.2.2.2.2.2.2.2.2.2.2.2.2.2.2.2.2.2.2.2.2.2.2.2.2.2.2.2.2.2.2.2.2.2.1.ext O55.2)) X160 hx hby hZ hown (own_w hw 62 rfl) (own_w hw 63 rfl) (notFace_of_selects (args := #[]) (mvT hZ (own_w hw 65 rfl))) (own_w hw 65 rfl) (own_w hw 64 rfl) (own_w hw 3 rfl) (own_w hw 66 rfl) (by decide) (by rw [hml]; rfl) w_AND [(.ref w_VERTEX)] [] pd_0 rfl at_281 rfl e160 (W.2.2.2.2.2.2.2.2.2.2.2.2.2.2.2.2.2.2.2.2.2.2.2.2.2.2.2.2.2.2.2.2.2.1.ext O55.2) rfl rfl rfl (by decide) (by decide) (by decide) (by decide) ?_
      rintro _ T161 L161 X161 ⟨rfl, N161, e161⟩
      have N161 := Fr.app N55 N161
      show Go p e below _ (T161.setTop (mkF m 284 _ [(.int (1 : Int32))]))
      refine own_iload 286 X161 hx hby at_284 rfl rfl ?_
      refine own_icN 289 X161 hx hby at_286 rfl (by decide) ?_
      refine own_iconst 290 (1 : Int32) X161 hx hby at_289 rfl (by decide) ?_
      refine own_goto 294 X161 hx hby at_290 (by decide) (by decide) ?_
      exact own_ret (Q := own_Q1 n0) X161 hx hby hret hlk at_294 rfl (Or.inl ⟨rfl, by simp, _, rfl⟩) (by decide) (by decide) ⟨rfl, N161⟩
    · refine own_iand 200 (1 : Int32) X55 hx hby at_199 rfl hv159 ?_
      refine own_ifY 209 X55 hx hby at_200 (by decide) (by decide) (by decide) ?_
      refine own_getS 212 X55 hx hby hZ hown (own_w hw 59 rfl) e55 (W.2.2.2.2.2.2.2.2.2.2.2.2.2.2.2.2.2.2.2.2.2.2.2.2.2.2.2.2.2.2.2.2.2.2.2.2.2.2.2.2.2.2.2.2.2.2.2.2.2.2.2.2.2.2.1.ext O55.2) at_209 rfl ?_
      intro T162 X162 e162
      refine own_astore 214 #[oI x0, oI x1, oA b1, oI (16 : Int32), oA w_EDGE, oU] X162 hx hby at_212 rfl rfl rfl ?_
      refine own_iload_n 215 X162 hx hby at_214 rfl rfl ?_
      refine own_iconst 216 (2 : Int32) X162 hx hby at_215 rfl (by decide) ?_
      refine own_icN 219 X162 hx hby at_216 rfl (by decide) ?_
      refine own_iload_n 220 X162 hx hby at_219 rfl rfl ?_
      refine own_bipush 222 (7 : Int32) X162 hx hby at_220 rfl (by decide) ?_
      refine own_icY 243 X162 hx hby at_222 (by decide) (by decide) (by decide) ?_
      refine own_iload_n 244 X162 hx hby at_243 rfl rfl ?_
      refine own_bipush 246 (8 : Int32) X162 hx hby at_244 rfl (by decide) ?_
      refine own_icN 249 X162 hx hby at_246 rfl (by decide) ?_
      refine own_iload_n 250 X162 hx hby at_249 rfl rfl ?_
      refine own_bipush 252 (10 : Int32) X162 hx hby at_250 rfl (by decide) ?_
      refine own_icY 273 X162 hx hby at_252 (by decide) (by decide) (by decide) ?_
      refine own_iconst 274 (1 : Int32) X162 hx hby at_273 rfl (by decide) ?_
      refine own_istore 276 #[oI x0, oI x1, oA b1, oI (16 : Int32), oA w_EDGE, oI (1 : Int32)] X162 hx hby at_274 rfl rfl ?_
      refine own_aload_n 277 X162 hx hby at_276 rfl rfl rfl ?_
      refine own_iload_n 278 X162 hx hby at_277 rfl rfl ?_
      refine own_aaload 279 (.ref w_AND) X162 hx hby hZ e162 V55 rfl at_278 rfl (by decide) rfl ?_
      refine own_aload 281 X162 hx hby at_279 rfl rfl rfl ?_
      refine own_virt (W := 0) 284 (rm1_1 l Z a0 hw [] w_V w_E w_OUT w_IN w_BOTH w_OUT_E w_IN_E w_BOTH_E w_OUT_V w_IN_V w_BOTH_V w_HAS w_HAS_LABEL w_HAS_NOT w_WHERE w_NOT w_AND w_OR w_ORDER w_VALUES w_ID w_LABEL w_COUNT w_SUM w_MEAN w_MIN w_MAX w_EDGE w_VERTEX W w_AND w_EDGE h55 n0 O55 (W.2.2.2.2.2.2.2.2.2.2.2.2.2.2.2.2.2.2.2.2.2.2.2.2.2.2.2.2.2.2.2.2.2.2.2.2.2.2.2.2.2.2.2.2.2.2.2.2.2.2.2.2.2.2.2.2.2.2.2.2.2.2.2.2.2.2.2.2.2.2.2.2.2.2.2.2.2.2.2.2.2.2.2.2.2.1.ext O55.2)) X162 hx hby hZ hown (own_w hw 62 rfl) (own_w hw 63 rfl) (notFace_of_selects (args := #[]) (mvT hZ (own_w hw 65 rfl))) (own_w hw 65 rfl) (own_w hw 64 rfl) (own_w hw 3 rfl) (own_w hw 66 rfl) (by decide) (by rw [hml]; rfl) w_AND [(.ref w_EDGE)] [] pd_0 rfl at_281 rfl e162 (W.2.2.2.2.2.2.2.2.2.2.2.2.2.2.2.2.2.2.2.2.2.2.2.2.2.2.2.2.2.2.2.2.2.1.ext O55.2) rfl rfl rfl (by decide) (by decide) (by decide) (by decide) ?_
      rintro _ T163 L163 X163 ⟨rfl, N163, e163⟩
      have N163 := Fr.app N55 N163
      show Go p e below _ (T163.setTop (mkF m 284 _ [(.int (1 : Int32))]))
      refine own_iload 286 X163 hx hby at_284 rfl rfl ?_
      refine own_icN 289 X163 hx hby at_286 rfl (by decide) ?_
      refine own_iconst 290 (1 : Int32) X163 hx hby at_289 rfl (by decide) ?_
      refine own_goto 294 X163 hx hby at_290 (by decide) (by decide) ?_
      exact own_ret (Q := own_Q1 n0) X163 hx hby hret hlk at_294 rfl (Or.inl ⟨rfl, by simp, _, rfl⟩) (by decide) (by decide) ⟨rfl, N163⟩
  · refine own_irem 196 (17 : Int32) X55 hx hby at_195 rfl (by decide) hv56 ?_
    refine own_istore_n 197 #[oI x0, oI x1, oA b1, oI (17 : Int32), oU, oU] X55 hx hby at_196 rfl rfl ?_
    refine own_iload_n 198 X55 hx hby at_197 rfl rfl ?_
    refine own_iconst 199 (1 : Int32) X55 hx hby at_198 rfl (by decide) ?_
    rcases own_and1 x1 with hv164 | hv164
    · refine own_iand 200 (0 : Int32) X55 hx hby at_199 rfl hv164 ?_
      refine own_ifN 203 X55 hx hby at_200 rfl (by decide) ?_
      refine own_getS 206 X55 hx hby hZ hown (own_w hw 69 rfl) e55 (W.2.2.2.2.2.2.2.2.2.2.2.2.2.2.2.2.2.2.2.2.2.2.2.2.2.2.2.2.2.2.2.2.2.2.2.2.2.2.2.2.2.2.2.2.2.2.2.2.2.2.2.2.2.2.2.2.1.ext O55.2) at_203 rfl ?_
      intro T165 X165 e165
      refine own_goto 212 X165 hx hby at_206 (by decide) (by decide) ?_
      refine own_astore 214 #[oI x0, oI x1, oA b1, oI (17 : Int32), oA w_VERTEX, oU] X165 hx hby at_212 rfl rfl rfl ?_
      refine own_iload_n 215 X165 hx hby at_214 rfl rfl ?_
      refine own_iconst 216 (2 : Int32) X165 hx hby at_215 rfl (by decide) ?_
      refine own_icN 219 X165 hx hby at_216 rfl (by decide) ?_
      refine own_iload_n 220 X165 hx hby at_219 rfl rfl ?_
      refine own_bipush 222 (7 : Int32) X165 hx hby at_220 rfl (by decide) ?_
      refine own_icY 243 X165 hx hby at_222 (by decide) (by decide) (by decide) ?_
      refine own_iload_n 244 X165 hx hby at_243 rfl rfl ?_
      refine own_bipush 246 (8 : Int32) X165 hx hby at_244 rfl (by decide) ?_
      refine own_icN 249 X165 hx hby at_246 rfl (by decide) ?_
      refine own_iload_n 250 X165 hx hby at_249 rfl rfl ?_
      refine own_bipush 252 (10 : Int32) X165 hx hby at_250 rfl (by decide) ?_
      refine own_icY 273 X165 hx hby at_252 (by decide) (by decide) (by decide) ?_
      refine own_iconst 274 (1 : Int32) X165 hx hby at_273 rfl (by decide) ?_
      refine own_istore 276 #[oI x0, oI x1, oA b1, oI (17 : Int32), oA w_VERTEX, oI (1 : Int32)] X165 hx hby at_274 rfl rfl ?_
      refine own_aload_n 277 X165 hx hby at_276 rfl rfl rfl ?_
      refine own_iload_n 278 X165 hx hby at_277 rfl rfl ?_
      refine own_aaload 279 (.ref w_OR) X165 hx hby hZ e165 V55 rfl at_278 rfl (by decide) rfl ?_
      refine own_aload 281 X165 hx hby at_279 rfl rfl rfl ?_
      refine own_virt (W := 0) 284 (rm1_1 l Z a0 hw [] w_V w_E w_OUT w_IN w_BOTH w_OUT_E w_IN_E w_BOTH_E w_OUT_V w_IN_V w_BOTH_V w_HAS w_HAS_LABEL w_HAS_NOT w_WHERE w_NOT w_AND w_OR w_ORDER w_VALUES w_ID w_LABEL w_COUNT w_SUM w_MEAN w_MIN w_MAX w_EDGE w_VERTEX W w_OR w_VERTEX h55 n0 O55 (W.2.2.2.2.2.2.2.2.2.2.2.2.2.2.2.2.2.2.2.2.2.2.2.2.2.2.2.2.2.2.2.2.2.2.2.2.2.2.2.2.2.2.2.2.2.2.2.2.2.2.2.2.2.2.2.2.2.2.2.2.2.2.2.2.2.2.2.2.2.2.2.2.2.2.2.2.2.2.2.2.2.2.1.ext O55.2)) X165 hx hby hZ hown (own_w hw 62 rfl) (own_w hw 63 rfl) (notFace_of_selects (args := #[]) (mvT hZ (own_w hw 65 rfl))) (own_w hw 65 rfl) (own_w hw 64 rfl) (own_w hw 3 rfl) (own_w hw 66 rfl) (by decide) (by rw [hml]; rfl) w_OR [(.ref w_VERTEX)] [] pd_0 rfl at_281 rfl e165 (W.2.2.2.2.2.2.2.2.2.2.2.2.2.2.2.2.2.2.2.2.2.2.2.2.2.2.2.2.2.2.2.2.2.2.2.1.ext O55.2) rfl rfl rfl (by decide) (by decide) (by decide) (by decide) ?_
      rintro _ T166 L166 X166 ⟨rfl, N166, e166⟩
      have N166 := Fr.app N55 N166
      show Go p e below _ (T166.setTop (mkF m 284 _ [(.int (1 : Int32))]))
      refine own_iload 286 X166 hx hby at_284 rfl rfl ?_
      refine own_icN 289 X166 hx hby at_286 rfl (by decide) ?_
      refine own_iconst 290 (1 : Int32) X166 hx hby at_289 rfl (by decide) ?_
      refine own_goto 294 X166 hx hby at_290 (by decide) (by decide) ?_
      exact own_ret (Q := own_Q1 n0) X166 hx hby hret hlk at_294 rfl (Or.inl ⟨rfl, by simp, _, rfl⟩) (by decide) (by decide) ⟨rfl, N166⟩
    · refine own_iand 200 (1 : Int32) X55 hx hby at_199 rfl hv164 ?_
      refine own_ifY 209 X55 hx hby at_200 (by decide) (by decide) (by decide) ?_
      refine own_getS 212 X55 hx hby hZ hown (own_w hw 59 rfl) e55 (W.2.2.2.2.2.2.2.2.2.2.2.2.2.2.2.2.2.2.2.2.2.2.2.2.2.2.2.2.2.2.2.2.2.2.2.2.2.2.2.2.2.2.2.2.2.2.2.2.2.2.2.2.2.2.1.ext O55.2) at_209 rfl ?_
      intro T167 X167 e167
      refine own_astore 214 #[oI x0, oI x1, oA b1, oI (17 : Int32), oA w_EDGE, oU] X167 hx hby at_212 rfl rfl rfl ?_
      refine own_iload_n 215 X167 hx hby at_214 rfl rfl ?_
      refine own_iconst 216 (2 : Int32) X167 hx hby at_215 rfl (by decide) ?_
      refine own_icN 219 X167 hx hby at_216 rfl (by decide) ?_
      refine own_iload_n 220 X167 hx hby at_219 rfl rfl ?_
      refine own_bipush 222 (7 : Int32) X167 hx hby at_220 rfl (by decide) ?_
      refine own_icY 243 X167 hx hby at_222 (by decide) (by decide) (by decide) ?_
      refine own_iload_n 244 X167 hx hby at_243 rfl rfl ?_
      refine own_bipush 246 (8 : Int32) X167 hx hby at_244 rfl (by decide) ?_
      refine own_icN 249 X167 hx hby at_246 rfl (by decide) ?_
      refine own_iload_n 250 X167 hx hby at_249 rfl rfl ?_
      refine own_bipush 252 (10 : Int32) X167 hx hby at_250 rfl (by decide) ?_
      refine own_icY 273 X167 hx hby at_252 (by decide) (by decide) (by decide) ?_
      refine own_iconst 274 (1 : Int32) X167 hx hby at_273 rfl (by decide) ?_
      refine own_istore 276 #[oI x0, oI x1, oA b1, oI (17 : Int32), oA w_EDGE, oI (1 : Int32)] X167 hx hby at_274 rfl rfl ?_
      refine own_aload_n 277 X167 hx hby at_276 rfl rfl rfl ?_
      refine own_iload_n 278 X167 hx hby at_277 rfl rfl ?_
      refine own_aaload 279 (.ref w_OR) X167 hx hby hZ e167 V55 rfl at_278 rfl (by decide) rfl ?_
      refine own_aload 281 X167 hx hby at_279 rfl rfl rfl ?_
      refine own_virt (W := 0) 284 (rm1_1 l Z a0 hw [] w_V w_E w_OUT w_IN w_BOTH w_OUT_E w_IN_E w_BOTH_E w_OUT_V w_IN_V w_BOTH_V w_HAS w_HAS_LABEL w_HAS_NOT w_WHERE w_NOT w_AND w_OR w_ORDER w_VALUES w_ID w_LABEL w_COUNT w_SUM w_MEAN w_MIN w_MAX w_EDGE w_VERTEX W w_OR w_EDGE h55 n0 O55 (W.2.2.2.2.2.2.2.2.2.2.2.2.2.2.2.2.2.2.2.2.2.2.2.2.2.2.2.2.2.2.2.2.2.2.2.2.2.2.2.2.2.2.2.2.2.2.2.2.2.2.2.2.2.2.2.2.2.2.2.2.2.2.2.2.2.2.2.2.2.2.2.2.2.2.2.2.2.2.2.2.2.2.1.ext O55.2)) X167 hx hby hZ hown (own_w hw 62 rfl) (own_w hw 63 rfl) (notFace_of_selects (args := #[]) (mvT hZ (own_w hw 65 rfl))) (own_w hw 65 rfl) (own_w hw 64 rfl) (own_w hw 3 rfl) (own_w hw 66 rfl) (by decide) (by rw [hml]; rfl) w_OR [(.ref w_EDGE)] [] pd_0 rfl at_281 rfl e167 (W.2.2.2.2.2.2.2.2.2.2.2.2.2.2.2.2.2.2.2.2.2.2.2.2.2.2.2.2.2.2.2.2.2.2.2.1.ext O55.2) rfl rfl rfl (by decide) (by decide) (by decide) (by decide) ?_
      rintro _ T168 L168 X168 ⟨rfl, N168, e168⟩
      have N168 := Fr.app N55 N168
      show Go p e below _ (T168.setTop (mkF m 284 _ [(.int (1 : Int32))]))
      refine own_iload 286 X168 hx hby at_284 rfl rfl ?_
      refine own_icN 289 X168 hx hby at_286 rfl (by decide) ?_
      refine own_iconst 290 (1 : Int32) X168 hx hby at_289 rfl (by decide) ?_
      refine own_goto 294 X168 hx hby at_290 (by decide) (by decide) ?_
      exact own_ret (Q := own_Q1 n0) X168 hx hby hret hlk at_294 rfl (Or.inl ⟨rfl, by simp, _, rfl⟩) (by decide) (by decide) ⟨rfl, N168⟩
  · refine own_irem 196 (18 : Int32) X55 hx hby at_195 rfl (by decide) hv56 ?_
    refine own_istore_n 197 #[oI x0, oI x1, oA b1, oI (18 : Int32), oU, oU] X55 hx hby at_196 rfl rfl ?_
    refine own_iload_n 198 X55 hx hby at_197 rfl rfl ?_
    refine own_iconst 199 (1 : Int32) X55 hx hby at_198 rfl (by decide) ?_
    rcases own_and1 x1 with hv169 | hv169
    · refine own_iand 200 (0 : Int32) X55 hx hby at_199 rfl hv169 ?_
      refine own_ifN 203 X55 hx hby at_200 rfl (by decide) ?_
      refine own_getS 206 X55 hx hby hZ hown (own_w hw 69 rfl) e55 (W.2.2.2.2.2.2.2.2.2.2.2.2.2.2.2.2.2.2.2.2.2.2.2.2.2.2.2.2.2.2.2.2.2.2.2.2.2.2.2.2.2.2.2.2.2.2.2.2.2.2.2.2.2.2.2.2.1.ext O55.2) at_203 rfl ?_
      intro T170 X170 e170
      refine own_goto 212 X170 hx hby at_206 (by decide) (by decide) ?_
      refine own_astore 214 #[oI x0, oI x1, oA b1, oI (18 : Int32), oA w_VERTEX, oU] X170 hx hby at_212 rfl rfl rfl ?_
      refine own_iload_n 215 X170 hx hby at_214 rfl rfl ?_
      refine own_iconst 216 (2 : Int32) X170 hx hby at_215 rfl (by decide) ?_
      refine own_icN 219 X170 hx hby at_216 rfl (by decide) ?_
      refine own_iload_n 220 X170 hx hby at_219 rfl rfl ?_
      refine own_bipush 222 (7 : Int32) X170 hx hby at_220 rfl (by decide) ?_
      refine own_icY 243 X170 hx hby at_222 (by decide) (by decide) (by decide) ?_
      refine own_iload_n 244 X170 hx hby at_243 rfl rfl ?_
      refine own_bipush 246 (8 : Int32) X170 hx hby at_244 rfl (by decide) ?_
      refine own_icN 249 X170 hx hby at_246 rfl (by decide) ?_
      refine own_iload_n 250 X170 hx hby at_249 rfl rfl ?_
      refine own_bipush 252 (10 : Int32) X170 hx hby at_250 rfl (by decide) ?_
      refine own_icY 273 X170 hx hby at_252 (by decide) (by decide) (by decide) ?_
      refine own_iconst 274 (1 : Int32) X170 hx hby at_273 rfl (by decide) ?_
      refine own_istore 276 #[oI x0, oI x1, oA b1, oI (18 : Int32), oA w_VERTEX, oI (1 : Int32)] X170 hx hby at_274 rfl rfl ?_
      refine own_aload_n 277 X170 hx hby at_276 rfl rfl rfl ?_
      refine own_iload_n 278 X170 hx hby at_277 rfl rfl ?_
      refine own_aaload 279 (.ref w_ORDER) X170 hx hby hZ e170 V55 rfl at_278 rfl (by decide) rfl ?_
      refine own_aload 281 X170 hx hby at_279 rfl rfl rfl ?_
      refine own_virt (W := 0) 284 (rm1_1 l Z a0 hw [] w_V w_E w_OUT w_IN w_BOTH w_OUT_E w_IN_E w_BOTH_E w_OUT_V w_IN_V w_BOTH_V w_HAS w_HAS_LABEL w_HAS_NOT w_WHERE w_NOT w_AND w_OR w_ORDER w_VALUES w_ID w_LABEL w_COUNT w_SUM w_MEAN w_MIN w_MAX w_EDGE w_VERTEX W w_ORDER w_VERTEX h55 n0 O55 (W.2.2.2.2.2.2.2.2.2.2.2.2.2.2.2.2.2.2.2.2.2.2.2.2.2.2.2.2.2.2.2.2.2.2.2.2.2.2.2.2.2.2.2.2.2.2.2.2.2.2.2.2.2.2.2.2.2.2.2.2.2.2.2.2.2.2.2.2.2.2.2.1.ext O55.2)) X170 hx hby hZ hown (own_w hw 62 rfl) (own_w hw 63 rfl) (notFace_of_selects (args := #[]) (mvT hZ (own_w hw 65 rfl))) (own_w hw 65 rfl) (own_w hw 64 rfl) (own_w hw 3 rfl) (own_w hw 66 rfl) (by decide) (by rw [hml]; rfl) w_ORDER [(.ref w_VERTEX)] [] pd_0 rfl at_281 rfl e170 (W.2.2.2.2.2.2.2.2.2.2.2.2.2.2.2.2.2.2.2.2.2.2.2.2.2.2.2.2.2.2.2.2.2.2.2.2.2.1.ext O55.2) rfl rfl rfl (by decide) (by decide) (by decide) (by decide) ?_
      rintro _ T171 L171 X171 ⟨rfl, N171, e171⟩
      have N171 := Fr.app N55 N171
      show Go p e below _ (T171.setTop (mkF m 284 _ [(.int (1 : Int32))]))
      refine own_iload 286 X171 hx hby at_284 rfl rfl ?_
      refine own_icN 289 X171 hx hby at_286 rfl (by decide) ?_
      refine own_iconst 290 (1 : Int32) X171 hx hby at_289 rfl (by decide) ?_
      refine own_goto 294 X171 hx hby at_290 (by decide) (by decide) ?_
      exact own_ret (Q := own_Q1 n0) X171 hx hby hret hlk at_294 rfl (Or.inl ⟨rfl, by simp, _, rfl⟩) (by decide) (by decide) ⟨rfl, N171⟩
    · refine own_iand 200 (1 : Int32) X55 hx hby at_199 rfl hv169 ?_
      refine own_ifY 209 X55 hx hby at_200 (by decide) (by decide) (by decide) ?_
      refine own_getS 212 X55 hx hby hZ hown (own_w hw 59 rfl) e55 (W.2.2.2.2.2.2.2.2.2.2.2.2.2.2.2.2.2.2.2.2.2.2.2.2.2.2.2.2.2.2.2.2.2.2.2.2.2.2.2.2.2.2.2.2.2.2.2.2.2.2.2.2.2.2.1.ext O55.2) at_209 rfl ?_
      intro T172 X172 e172
      refine own_astore 214 #[oI x0, oI x1, oA b1, oI (18 : Int32), oA w_EDGE, oU] X172 hx hby at_212 rfl rfl rfl ?_
      refine own_iload_n 215 X172 hx hby at_214 rfl rfl ?_
      refine own_iconst 216 (2 : Int32) X172 hx hby at_215 rfl (by decide) ?_
      refine own_icN 219 X172 hx hby at_216 rfl (by decide) ?_
      refine own_iload_n 220 X172 hx hby at_219 rfl rfl ?_
      refine own_bipush 222 (7 : Int32) X172 hx hby at_220 rfl (by decide) ?_
      refine own_icY 243 X172 hx hby at_222 (by decide) (by decide) (by decide) ?_
      refine own_iload_n 244 X172 hx hby at_243 rfl rfl ?_
      refine own_bipush 246 (8 : Int32) X172 hx hby at_244 rfl (by decide) ?_
      refine own_icN 249 X172 hx hby at_246 rfl (by decide) ?_
      refine own_iload_n 250 X172 hx hby at_249 rfl rfl ?_
      refine own_bipush 252 (10 : Int32) X172 hx hby at_250 rfl (by decide) ?_
      refine own_icY 273 X172 hx hby at_252 (by decide) (by decide) (by decide) ?_
      refine own_iconst 274 (1 : Int32) X172 hx hby at_273 rfl (by decide) ?_
      refine own_istore 276 #[oI x0, oI x1, oA b1, oI (18 : Int32), oA w_EDGE, oI (1 : Int32)] X172 hx hby at_274 rfl rfl ?_
      refine own_aload_n 277 X172 hx hby at_276 rfl rfl rfl ?_
      refine own_iload_n 278 X172 hx hby at_277 rfl rfl ?_
      refine own_aaload 279 (.ref w_ORDER) X172 hx hby hZ e172 V55 rfl at_278 rfl (by decide) rfl ?_
      refine own_aload 281 X172 hx hby at_279 rfl rfl rfl ?_
      refine own_virt (W := 0) 284 (rm1_1 l Z a0 hw [] w_V w_E w_OUT w_IN w_BOTH w_OUT_E w_IN_E w_BOTH_E w_OUT_V w_IN_V w_BOTH_V w_HAS w_HAS_LABEL w_HAS_NOT w_WHERE w_NOT w_AND w_OR w_ORDER w_VALUES w_ID w_LABEL w_COUNT w_SUM w_MEAN w_MIN w_MAX w_EDGE w_VERTEX W w_ORDER w_EDGE h55 n0 O55 (W.2.2.2.2.2.2.2.2.2.2.2.2.2.2.2.2.2.2.2.2.2.2.2.2.2.2.2.2.2.2.2.2.2.2.2.2.2.2.2.2.2.2.2.2.2.2.2.2.2.2.2.2.2.2.2.2.2.2.2.2.2.2.2.2.2.2.2.2.2.2.2.1.ext O55.2)) X172 hx hby hZ hown (own_w hw 62 rfl) (own_w hw 63 rfl) (notFace_of_selects (args := #[]) (mvT hZ (own_w hw 65 rfl))) (own_w hw 65 rfl) (own_w hw 64 rfl) (own_w hw 3 rfl) (own_w hw 66 rfl) (by decide) (by rw [hml]; rfl) w_ORDER [(.ref w_EDGE)] [] pd_0 rfl at_281 rfl e172 (W.2.2.2.2.2.2.2.2.2.2.2.2.2.2.2.2.2.2.2.2.2.2.2.2.2.2.2.2.2.2.2.2.2.2.2.2.2.1.ext O55.2) rfl rfl rfl (by decide) (by decide) (by decide) (by decide) ?_
      rintro _ T173 L173 X173 ⟨rfl, N173, e173⟩
      have N173 := Fr.app N55 N173
      show Go p e below _ (T173.setTop (mkF m 284 _ [(.int (1 : Int32))]))
      refine own_iload 286 X173 hx hby at_284 rfl rfl ?_
      refine own_icN 289 X173 hx hby at_286 rfl (by decide) ?_
      refine own_iconst 290 (1 : Int32) X173 hx hby at_289 rfl (by decide) ?_
      refine own_goto 294 X173 hx hby at_290 (by decide) (by decide) ?_
      exact own_ret (Q := own_Q1 n0) X173 hx hby hret hlk at_294 rfl (Or.inl ⟨rfl, by simp, _, rfl⟩) (by decide) (by decide) ⟨rfl, N173⟩
  · refine own_irem 196 (19 : Int32) X55 hx hby at_195 rfl (by decide) hv56 ?_
    refine own_istore_n 197 #[oI x0, oI x1, oA b1, oI (19 : Int32), oU, oU] X55 hx hby at_196 rfl rfl ?_
    refine own_iload_n 198 X55 hx hby at_197 rfl rfl ?_
    refine own_iconst 199 (1 : Int32) X55 hx hby at_198 rfl (by decide) ?_
    rcases own_and1 x1 with hv174 | hv174
    · refine own_iand 200 (0 : Int32) X55 hx hby at_199 rfl hv174 ?_
      refine own_ifN 203 X55 hx hby at_200 rfl (by decide) ?_
      refine own_getS 206 X55 hx hby hZ hown (own_w hw 69 rfl) e55 (W.2.2.2.2.2.2.2.2.2.2.2.2.2.2.2.2.2.2.2.2.2.2.2.2.2.2.2.2.2.2.2.2.2.2.2.2.2.2.2.2.2.2.2.2.2.2.2.2.2.2.2.2.2.2.2.2.1.ext O55.2) at_203 rfl ?_
      intro T175 X175 e175
      refine own_goto 212 X175 hx hby at_206 (by decide) (by decide) ?_
      refine own_astore 214 #[oI x0, oI x1, oA b1, oI (19 : Int32), oA w_VERTEX, oU] X175 hx hby at_212 rfl rfl rfl ?_
      refine own_iload_n 215 X175 hx hby at_214 rfl rfl ?_
      refine own_iconst 216 (2 : Int32) X175 hx hby at_215 rfl (by decide) ?_
      refine own_icN 219 X175 hx hby at_216 rfl (by decide) ?_
      refine own_iload_n 220 X175 hx hby at_219 rfl rfl ?_
      refine own_bipush 222 (7 : Int32) X175 hx hby at_220 rfl (by decide) ?_
      refine own_icY 243 X175 hx hby at_222 (by decide) (by decide) (by decide) ?_
      refine own_iload_n 244 X175 hx hby at_243 rfl rfl ?_
      refine own_bipush 246 (8 : Int32) X175 hx hby at_244 rfl (by decide) ?_
      refine own_icN 249 X175 hx hby at_246 rfl (by decide) ?_
      refine own_iload_n 250 X175 hx hby at_249 rfl rfl ?_
      refine own_bipush 252 (10 : Int32) X175 hx hby at_250 rfl (by decide) ?_
      refine own_icY 273 X175 hx hby at_252 (by decide) (by decide) (by decide) ?_
      refine own_iconst 274 (1 : Int32) X175 hx hby at_273 rfl (by decide) ?_
      refine own_istore 276 #[oI x0, oI x1, oA b1, oI (19 : Int32), oA w_VERTEX, oI (1 : Int32)] X175 hx hby at_274 rfl rfl ?_
      refine own_aload_n 277 X175 hx hby at_276 rfl rfl rfl ?_
      refine own_iload_n 278 X175 hx hby at_277 rfl rfl ?_
      refine own_aaload 279 (.ref w_VALUES) X175 hx hby hZ e175 V55 rfl at_278 rfl (by decide) rfl ?_
      refine own_aload 281 X175 hx hby at_279 rfl rfl rfl ?_
      refine own_virt (W := 0) 284 (rm1_1 l Z a0 hw [] w_V w_E w_OUT w_IN w_BOTH w_OUT_E w_IN_E w_BOTH_E w_OUT_V w_IN_V w_BOTH_V w_HAS w_HAS_LABEL w_HAS_NOT w_WHERE w_NOT w_AND w_OR w_ORDER w_VALUES w_ID w_LABEL w_COUNT w_SUM w_MEAN w_MIN w_MAX w_EDGE w_VERTEX W w_VALUES w_VERTEX h55 n0 O55 (W.2.2.2.2.2.2.2.2.2.2.2.2.2.2.2.2.2.2.2.2.2.2.2.2.2.2.2.2.2.2.2.2.2.2.2.2.2.2.2.2.2.2.2.2.2.2.2.2.2.2.2.2.2.2.2.2.2.2.2.2.2.2.1.ext O55.2)) X175 hx hby hZ hown (own_w hw 62 rfl) (own_w hw 63 rfl) (notFace_of_selects (args := #[]) (mvT hZ (own_w hw 65 rfl))) (own_w hw 65 rfl) (own_w hw 64 rfl) (own_w hw 3 rfl) (own_w hw 66 rfl) (by decide) (by rw [hml]; rfl) w_VALUES [(.ref w_VERTEX)] [] pd_0 rfl at_281 rfl e175 (W.2.2.2.2.2.2.2.2.2.2.2.2.2.2.2.2.2.2.2.2.2.2.2.2.2.2.2.2.2.2.2.2.2.2.2.2.2.2.2.1.ext O55.2) rfl rfl rfl (by decide) (by decide) (by decide) (by decide) ?_
      rintro _ T176 L176 X176 ⟨rfl, N176, e176⟩
      have N176 := Fr.app N55 N176
      show Go p e below _ (T176.setTop (mkF m 284 _ [(.int (1 : Int32))]))
      refine own_iload 286 X176 hx hby at_284 rfl rfl ?_
      refine own_icN 289 X176 hx hby at_286 rfl (by decide) ?_
      refine own_iconst 290 (1 : Int32) X176 hx hby at_289 rfl (by decide) ?_
      refine own_goto 294 X176 hx hby at_290 (by decide) (by decide) ?_
      exact own_ret (Q := own_Q1 n0) X176 hx hby hret hlk at_294 rfl (Or.inl ⟨rfl, by simp, _, rfl⟩) (by decide) (by decide) ⟨rfl, N176⟩
    · refine own_iand 200 (1 : Int32) X55 hx hby at_199 rfl hv174 ?_
      refine own_ifY 209 X55 hx hby at_200 (by decide) (by decide) (by decide) ?_
      refine own_getS 212 X55 hx hby hZ hown (own_w hw 59 rfl) e55 (W.2.2.2.2.2.2.2.2.2.2.2.2.2.2.2.2.2.2.2.2.2.2.2.2.2.2.2.2.2.2.2.2.2.2.2.2.2.2.2.2.2.2.2.2.2.2.2.2.2.2.2.2.2.2.1.ext O55.2) at_209 rfl ?_
      intro T177 X177 e177
      refine own_astore 214 #[oI x0, oI x1, oA b1, oI (19 : Int32), oA w_EDGE, oU] X177 hx hby at_212 rfl rfl rfl ?_
      refine own_iload_n 215 X177 hx hby at_214 rfl rfl ?_
      refine own_iconst 216 (2 : Int32) X177 hx hby at_215 rfl (by decide) ?_
      refine own_icN 219 X177 hx hby at_216 rfl (by decide) ?_
      refine own_iload_n 220 X177 hx hby at_219 rfl rfl ?_
      refine own_bipush 222 (7 : Int32) X177 hx hby at_220 rfl (by decide) ?_
      refine own_icY 243 X177 hx hby at_222 (by decide) (by decide) (by decide) ?_
      refine own_iload_n 244 X177 hx hby at_243 rfl rfl ?_
      refine own_bipush 246 (8 : Int32) X177 hx hby at_244 rfl (by decide) ?_
      refine own_icN 249 X177 hx hby at_246 rfl (by decide) ?_
      refine own_iload_n 250 X177 hx hby at_249 rfl rfl ?_
      refine own_bipush 252 (10 : Int32) X177 hx hby at_250 rfl (by decide) ?_
      refine own_icY 273 X177 hx hby at_252 (by decide) (by decide) (by decide) ?_
      refine own_iconst 274 (1 : Int32) X177 hx hby at_273 rfl (by decide) ?_
      refine own_istore 276 #[oI x0, oI x1, oA b1, oI (19 : Int32), oA w_EDGE, oI (1 : Int32)] X177 hx hby at_274 rfl rfl ?_
      refine own_aload_n 277 X177 hx hby at_276 rfl rfl rfl ?_
      refine own_iload_n 278 X177 hx hby at_277 rfl rfl ?_
      refine own_aaload 279 (.ref w_VALUES) X177 hx hby hZ e177 V55 rfl at_278 rfl (by decide) rfl ?_
      refine own_aload 281 X177 hx hby at_279 rfl rfl rfl ?_
      refine own_virt (W := 0) 284 (rm1_1 l Z a0 hw [] w_V w_E w_OUT w_IN w_BOTH w_OUT_E w_IN_E w_BOTH_E w_OUT_V w_IN_V w_BOTH_V w_HAS w_HAS_LABEL w_HAS_NOT w_WHERE w_NOT w_AND w_OR w_ORDER w_VALUES w_ID w_LABEL w_COUNT w_SUM w_MEAN w_MIN w_MAX w_EDGE w_VERTEX W w_VALUES w_EDGE h55 n0 O55 (W.2.2.2.2.2.2.2.2.2.2.2.2.2.2.2.2.2.2.2.2.2.2.2.2.2.2.2.2.2.2.2.2.2.2.2.2.2.2.2.2.2.2.2.2.2.2.2.2.2.2.2.2.2.2.2.2.2.2.2.2.2.2.1.ext O55.2)) X177 hx hby hZ hown (own_w hw 62 rfl) (own_w hw 63 rfl) (notFace_of_selects (args := #[]) (mvT hZ (own_w hw 65 rfl))) (own_w hw 65 rfl) (own_w hw 64 rfl) (own_w hw 3 rfl) (own_w hw 66 rfl) (by decide) (by rw [hml]; rfl) w_VALUES [(.ref w_EDGE)] [] pd_0 rfl at_281 rfl e177 (W.2.2.2.2.2.2.2.2.2.2.2.2.2.2.2.2.2.2.2.2.2.2.2.2.2.2.2.2.2.2.2.2.2.2.2.2.2.2.2.1.ext O55.2) rfl rfl rfl (by decide) (by decide) (by decide) (by decide) ?_
      rintro _ T178 L178 X178 ⟨rfl, N178, e178⟩
      have N178 := Fr.app N55 N178
      show Go p e below _ (T178.setTop (mkF m 284 _ [(.int (1 : Int32))]))
      refine own_iload 286 X178 hx hby at_284 rfl rfl ?_
      refine own_icN 289 X178 hx hby at_286 rfl (by decide) ?_
      refine own_iconst 290 (1 : Int32) X178 hx hby at_289 rfl (by decide) ?_
      refine own_goto 294 X178 hx hby at_290 (by decide) (by decide) ?_
      exact own_ret (Q := own_Q1 n0) X178 hx hby hret hlk at_294 rfl (Or.inl ⟨rfl, by simp, _, rfl⟩) (by decide) (by decide) ⟨rfl, N178⟩
  · refine own_irem 196 (20 : Int32) X55 hx hby at_195 rfl (by decide) hv56 ?_
    refine own_istore_n 197 #[oI x0, oI x1, oA b1, oI (20 : Int32), oU, oU] X55 hx hby at_196 rfl rfl ?_
    refine own_iload_n 198 X55 hx hby at_197 rfl rfl ?_
    refine own_iconst 199 (1 : Int32) X55 hx hby at_198 rfl (by decide) ?_
    rcases own_and1 x1 with hv179 | hv179
    · refine own_iand 200 (0 : Int32) X55 hx hby at_199 rfl hv179 ?_
      refine own_ifN 203 X55 hx hby at_200 rfl (by decide) ?_
      refine own_getS 206 X55 hx hby hZ hown (own_w hw 69 rfl) e55 (W.2.2.2.2.2.2.2.2.2.2.2.2.2.2.2.2.2.2.2.2.2.2.2.2.2.2.2.2.2.2.2.2.2.2.2.2.2.2.2.2.2.2.2.2.2.2.2.2.2.2.2.2.2.2.2.2.1.ext O55.2) at_203 rfl ?_
      intro T180 X180 e180
      refine own_goto 212 X180 hx hby at_206 (by decide) (by decide) ?_
      refine own_astore 214 #[oI x0, oI x1, oA b1, oI (20 : Int32), oA w_VERTEX, oU] X180 hx hby at_212 rfl rfl rfl ?_
      refine own_iload_n 215 X180 hx hby at_214 rfl rfl ?_
      refine own_iconst 216 (2 : Int32) X180 hx hby at_215 rfl (by decide) ?_
      refine own_icN 219 X180 hx hby at_216 rfl (by decide) ?_
      refine own_iload_n 220 X180 hx hby at_219 rfl rfl ?_
      refine own_bipush 222 (7 : Int32) X180 hx hby at_220 rfl (by decide) ?_
      refine own_icY 243 X180 hx hby at_222 (by decide) (by decide) (by decide) ?_
      refine own_iload_n 244 X180 hx hby at_243 rfl rfl ?_
      refine own_bipush 246 (8 : Int32) X180 hx hby at_244 rfl (by decide) ?_
      refine own_icN 249 X180 hx hby at_246 rfl (by decide) ?_
      refine own_iload_n 250 X180 hx hby at_249 rfl rfl ?_
      refine own_bipush 252 (10 : Int32) X180 hx hby at_250 rfl (by decide) ?_
      refine own_icY 273 X180 hx hby at_252 (by decide) (by decide) (by decide) ?_
      refine own_iconst 274 (1 : Int32) X180 hx hby at_273 rfl (by decide) ?_
      refine own_istore 276 #[oI x0, oI x1, oA b1, oI (20 : Int32), oA w_VERTEX, oI (1 : Int32)] X180 hx hby at_274 rfl rfl ?_
      refine own_aload_n 277 X180 hx hby at_276 rfl rfl rfl ?_
      refine own_iload_n 278 X180 hx hby at_277 rfl rfl ?_
      refine own_aaload 279 (.ref w_ID) X180 hx hby hZ e180 V55 rfl at_278 rfl (by decide) rfl ?_
      refine own_aload 281 X180 hx hby at_279 rfl rfl rfl ?_
      refine own_virt (W := 0) 284 (rm1_1 l Z a0 hw [] w_V w_E w_OUT w_IN w_BOTH w_OUT_E w_IN_E w_BOTH_E w_OUT_V w_IN_V w_BOTH_V w_HAS w_HAS_LABEL w_HAS_NOT w_WHERE w_NOT w_AND w_OR w_ORDER w_VALUES w_ID w_LABEL w_COUNT w_SUM w_MEAN w_MIN w_MAX w_EDGE w_VERTEX W w_ID w_VERTEX h55 n0 O55 (W.2.2.2.2.2.2.2.2.2.2.2.2.2.2.2.2.2.2.2.2.2.2.2.2.2.2.2.2.2.2.2.2.2.2.2.2.2.2.2.2.2.2.2.2.2.2.2.2.2.2.2.2.2.2.2.2.2.2.2.2.2.2.2.2.2.2.2.2.2.2.2.2.2.2.2.2.2.2.2.2.2.2.2.2.1.ext O55.2)) X180 hx hby hZ hown (own_w hw 62 rfl) (own_w hw 63 rfl) (notFace_of_selects (args := #[]) (mvT hZ (own_w hw 65 rfl))) (own_w hw 65 rfl) (own_w hw 64 rfl) (own_w hw 3 rfl) (own_w hw 66 rfl) (by decide) (by rw [hml]; rfl) w_ID [(.ref w_VERTEX)] [] pd_0 rfl at_281 rfl e180 (W.2.2.2.2.2.2.2.2.2.2.2.2.2.2.2.2.2.2.2.2.2.2.2.2.2.2.2.2.2.2.2.2.2.2.2.2.2.2.2.2.2.1.ext O55.2) rfl rfl rfl (by decide) (by decide) (by decide) (by decide) ?_
      rintro _ T181 L181 X181 ⟨rfl, N181, e181⟩
      have N181 := Fr.app N55 N181
      show Go p e below _ (T181.setTop (mkF m 284 _ [(.int (1 : Int32))]))
      refine own_iload 286 X181 hx hby at_284 rfl rfl ?_
      refine own_icN 289 X181 hx hby at_286 rfl (by decide) ?_
      refine own_iconst 290 (1 : Int32) X181 hx hby at_289 rfl (by decide) ?_
      refine own_goto 294 X181 hx hby at_290 (by decide) (by decide) ?_
      exact own_ret (Q := own_Q1 n0) X181 hx hby hret hlk at_294 rfl (Or.inl ⟨rfl, by simp, _, rfl⟩) (by decide) (by decide) ⟨rfl, N181⟩
    · refine own_iand 200 (1 : Int32) X55 hx hby at_199 rfl hv179 ?_
      refine own_ifY 209 X55 hx hby at_200 (by decide) (by decide) (by decide) ?_
      refine own_getS 212 X55 hx hby hZ hown (own_w hw 59 rfl) e55 (W.2.2.2.2.2.2.2.2.2.2.2.2.2.2.2.2.2.2.2.2.2.2.2.2.2.2.2.2.2.2.2.2.2.2.2.2.2.2.2.2.2.2.2.2.2.2.2.2.2.2.2.2.2.2.1.ext O55.2) at_209 rfl ?_
      intro T182 X182 e182
      refine own_astore 214 #[oI x0, oI x1, oA b1, oI (20 : Int32), oA w_EDGE, oU] X182 hx hby at_212 rfl rfl rfl ?_
      refine own_iload_n 215 X182 hx hby at_214 rfl rfl ?_
      refine own_iconst 216 (2 : Int32) X182 hx hby at_215 rfl (by decide) ?_
      refine own_icN 219 X182 hx hby at_216 rfl (by decide) ?_
      refine own_iload_n 220 X182 hx hby at_219 rfl rfl ?_
      refine own_bipush 222 (7 : Int32) X182 hx hby at_220 rfl (by decide) ?_
      refine own_icY 243 X182 hx hby at_222 (by decide) (by decide) (by decide) ?_
      refine own_iload_n 244 X182 hx hby at_243 rfl rfl ?_
      refine own_bipush 246 (8 : Int32) X182 hx hby at_244 rfl (by decide) ?_
      refine own_icN 249 X182 hx hby at_246 rfl (by decide) ?_
      refine own_iload_n 250 X182 hx hby at_249 rfl rfl ?_
      refine own_bipush 252 (10 : Int32) X182 hx hby at_250 rfl (by decide) ?_
      refine own_icY 273 X182 hx hby at_252 (by decide) (by decide) (by decide) ?_
      refine own_iconst 274 (1 : Int32) X182 hx hby at_273 rfl (by decide) ?_
      refine own_istore 276 #[oI x0, oI x1, oA b1, oI (20 : Int32), oA w_EDGE, oI (1 : Int32)] X182 hx hby at_274 rfl rfl ?_
      refine own_aload_n 277 X182 hx hby at_276 rfl rfl rfl ?_
      refine own_iload_n 278 X182 hx hby at_277 rfl rfl ?_
      refine own_aaload 279 (.ref w_ID) X182 hx hby hZ e182 V55 rfl at_278 rfl (by decide) rfl ?_
      refine own_aload 281 X182 hx hby at_279 rfl rfl rfl ?_
      refine own_virt (W := 0) 284 (rm1_1 l Z a0 hw [] w_V w_E w_OUT w_IN w_BOTH w_OUT_E w_IN_E w_BOTH_E w_OUT_V w_IN_V w_BOTH_V w_HAS w_HAS_LABEL w_HAS_NOT w_WHERE w_NOT w_AND w_OR w_ORDER w_VALUES w_ID w_LABEL w_COUNT w_SUM w_MEAN w_MIN w_MAX w_EDGE w_VERTEX W w_ID w_EDGE h55 n0 O55 (W.2.2.2.2.2.2.2.2.2.2.2.2.2.2.2.2.2.2.2.2.2.2.2.2.2.2.2.2.2.2.2.2.2.2.2.2.2.2.2.2.2.2.2.2.2.2.2.2.2.2.2.2.2.2.2.2.2.2.2.2.2.2.2.2.2.2.2.2.2.2.2.2.2.2.2.2.2.2.2.2.2.2.2.2.1.ext O55.2)) X182 hx hby hZ hown (own_w hw 62 rfl) (own_w hw 63 rfl) (notFace_of_selects (args := #[]) (mvT hZ (own_w hw 65 rfl))) (own_w hw 65 rfl) (own_w hw 64 rfl) (own_w hw 3 rfl) (own_w hw 66 rfl) (by decide) (by rw [hml]; rfl) w_ID [(.ref w_EDGE)] [] pd_0 rfl at_281 rfl e182 (W.2.2.2.2.2.2.2.2.2.2.2.2.2.2.2.2.2.2.2.2.2.2.2.2.2.2.2.2.2.2.2.2.2.2.2.2.2.2.2.2.2.1.ext O55.2) rfl rfl rfl (by decide) (by decide) (by decide) (by decide) ?_
      rintro _ T183 L183 X183 ⟨rfl, N183, e183⟩
      have N183 := Fr.app N55 N183
      show Go p e below _ (T183.setTop (mkF m 284 _ [(.int (1 : Int32))]))
      refine own_iload 286 X183 hx hby at_284 rfl rfl ?_
      refine own_icN 289 X183 hx hby at_286 rfl (by decide) ?_
      refine own_iconst 290 (1 : Int32) X183 hx hby at_289 rfl (by decide) ?_
      refine own_goto 294 X183 hx hby at_290 (by decide) (by decide) ?_
      exact own_ret (Q := own_Q1 n0) X183 hx hby hret hlk at_294 rfl (Or.inl ⟨rfl, by simp, _, rfl⟩) (by decide) (by decide) ⟨rfl, N183⟩
  · refine own_irem 196 (21 : Int32) X55 hx hby at_195 rfl (by decide) hv56 ?_
    refine own_istore_n 197 #[oI x0, oI x1, oA b1, oI (21 : Int32), oU, oU] X55 hx hby at_196 rfl rfl ?_
    refine own_iload_n 198 X55 hx hby at_197 rfl rfl ?_
    refine own_iconst 199 (1 : Int32) X55 hx hby at_198 rfl (by decide) ?_
    rcases own_and1 x1 with hv184 | hv184
    · refine own_iand 200 (0 : Int32) X55 hx hby at_199 rfl hv184 ?_
      refine own_ifN 203 X55 hx hby at_200 rfl (by decide) ?_
      refine own_getS 206 X55 hx hby hZ hown (own_w hw 69 rfl) e55 (W.2.2.2.2.2.2.2.2.2.2.2.2.2.2.2.2.2.2.2.2.2.2.2.2.2.2.2.2.2.2.2.2.2.2.2.2.2.2.2.2.2.2.2.2.2.2.2.2.2.2.2.2.2.2.2.2.1.ext O55.2) at_203 rfl ?_
      intro T185 X185 e185
      refine own_goto 212 X185 hx hby at_206 (by decide) (by decide) ?_
      refine own_astore 214 #[oI x0, oI x1, oA b1, oI (21 : Int32), oA w_VERTEX, oU] X185 hx hby at_212 rfl rfl rfl ?_
      refine own_iload_n 215 X185 hx hby at_214 rfl rfl ?_
      refine own_iconst 216 (2 : Int32) X185 hx hby at_215 rfl (by decide) ?_
      refine own_icN 219 X185 hx hby at_216 rfl (by decide) ?_
      refine own_iload_n 220 X185 hx hby at_219 rfl rfl ?_
      refine own_bipush 222 (7 : Int32) X185 hx hby at_220 rfl (by decide) ?_
      refine own_icY 243 X185 hx hby at_222 (by decide) (by decide) (by decide) ?_
      refine own_iload_n 244 X185 hx hby at_243 rfl rfl ?_
      refine own_bipush 246 (8 : Int32) X185 hx hby at_244 rfl (by decide) ?_
      refine own_icN 249 X185 hx hby at_246 rfl (by decide) ?_
      refine own_iload_n 250 X185 hx hby at_249 rfl rfl ?_
      refine own_bipush 252 (10 : Int32) X185 hx hby at_250 rfl (by decide) ?_
      refine own_icY 273 X185 hx hby at_252 (by decide) (by decide) (by decide) ?_
      refine own_iconst 274 (1 : Int32) X185 hx hby at_273 rfl (by decide) ?_
      refine own_istore 276 #[oI x0, oI x1, oA b1, oI (21 : Int32), oA w_VERTEX, oI (1 : Int32)] X185 hx hby at_274 rfl rfl ?_
      refine own_aload_n 277 X185 hx hby at_276 rfl rfl rfl ?_
      refine own_iload_n 278 X185 hx hby at_277 rfl rfl ?_
      refine own_aaload 279 (.ref w_LABEL) X185 hx hby hZ e185 V55 rfl at_278 rfl (by decide) rfl ?_
      refine own_aload 281 X185 hx hby at_279 rfl rfl rfl ?_
      refine own_virt (W := 0) 284 (rm1_1 l Z a0 hw [] w_V w_E w_OUT w_IN w_BOTH w_OUT_E w_IN_E w_BOTH_E w_OUT_V w_IN_V w_BOTH_V w_HAS w_HAS_LABEL w_HAS_NOT w_WHERE w_NOT w_AND w_OR w_ORDER w_VALUES w_ID w_LABEL w_COUNT w_SUM w_MEAN w_MIN w_MAX w_EDGE w_VERTEX W w_LABEL w_VERTEX h55 n0 O55 (W.2.2.2.2.2.2.2.2.2.2.2.2.2.2.2.2.2.2.2.2.2.2.2.2.2.2.2.2.2.2.2.2.2.2.2.2.2.2.2.2.2.2.2.2.2.2.2.2.2.2.2.2.2.2.2.2.2.2.2.2.2.2.2.2.2.2.2.2.2.2.2.2.2.2.2.2.2.2.2.2.2.2.2.1.ext O55.2)) X185 hx hby hZ hown (own_w hw 62 rfl) (own_w hw 63 rfl) (notFace_of_selects (args := #[]) (mvT hZ (own_w hw 65 rfl))) (own_w hw 65 rfl) (own_w hw 64 rfl) (own_w hw 3 rfl) (own_w hw 66 rfl) (by decide) (by rw [hml]; rfl) w_LABEL [(.ref w_VERTEX)] [] pd_0 rfl at_281 rfl e185 (W.2.2.2.2.2.2.2.2.2.2.2.2.2.2.2.2.2.2.2.2.2.2.2.2.2.2.2.2.2.2.2.2.2.2.2.2.2.2.2.2.2.2.2.1.ext O55.2) rfl rfl rfl (by decide) (by decide) (by decide) (by decide) ?_
      rintro _ T186 L186 X186 ⟨rfl, N186, e186⟩
      have N186 := Fr.app N55 N186
      show Go p e below _ (T186.setTop (mkF m 284 _ [(.int (1 : Int32))]))
      refine own_iload 286 X186 hx hby at_284 rfl rfl ?_
      refine own_icN 289 X186 hx hby at_286 rfl (by decide) ?_
      refine own_iconst 290 (1 : Int32) X186 hx hby at_289 rfl (by decide) ?_
      refine own_goto 294 X186 hx hby at_290 (by decide) (by decide) ?_
      exact own_ret (Q := own_Q1 n0) X186 hx hby hret hlk at_294 rfl (Or.inl ⟨rfl, by simp, _, rfl⟩) (by decide) (by decide) ⟨rfl, N186⟩
    · refine own_iand 200 (1 : Int32) X55 hx hby at_199 rfl hv184 ?_
      refine own_ifY 209 X55 hx hby at_200 (by decide) (by decide) (by decide) ?_
      refine own_getS 212 X55 hx hby hZ hown (own_w hw 59 rfl) e55 (W.2.2.2.2.2.2.2.2.2.2.2.2.2.2.2.2.2.2.2.2.2.2.2.2.2.2.2.2.2.2.2.2.2.2.2.2.2.2.2.2.2.2.2.2.2.2.2.2.2.2.2.2.2.2.1.ext O55.2) at_209 rfl ?_
      intro T187 X187 e187
      refine own_astore 214 #[oI x0, oI x1, oA b1, oI (21 : Int32), oA w_EDGE, oU] X187 hx hby at_212 rfl rfl rfl ?_
      refine own_iload_n 215 X187 hx hby at_214 rfl rfl ?_
      refine own_iconst 216 (2 : Int32) X187 hx hby at_215 rfl (by decide) ?_
      refine own_icN 219 X187 hx hby at_216 rfl (by decide) ?_
      refine own_iload_n 220 X187 hx hby at_219 rfl rfl ?_
      refine own_bipush 222 (7 : Int32) X187 hx hby at_220 rfl (by decide) ?_
      refine own_icY 243 X187 hx hby at_222 (by decide) (by decide) (by decide) ?_
      refine own_iload_n 244 X187 hx hby at_243 rfl rfl ?_
      refine own_bipush 246 (8 : Int32) X187 hx hby at_244 rfl (by decide) ?_
      refine own_icN 249 X187 hx hby at_246 rfl (by decide) ?_
      refine own_iload_n 250 X187 hx hby at_249 rfl rfl ?_
      refine own_bipush 252 (10 : Int32) X187 hx hby at_250 rfl (by decide) ?_
      refine own_icY 273 X187 hx hby at_252 (by decide) (by decide) (by decide) ?_
      refine own_iconst 274 (1 : Int32) X187 hx hby at_273 rfl (by decide) ?_
      refine own_istore 276 #[oI x0, oI x1, oA b1, oI (21 : Int32), oA w_EDGE, oI (1 : Int32)] X187 hx hby at_274 rfl rfl ?_
      refine own_aload_n 277 X187 hx hby at_276 rfl rfl rfl ?_
      refine own_iload_n 278 X187 hx hby at_277 rfl rfl ?_
      refine own_aaload 279 (.ref w_LABEL) X187 hx hby hZ e187 V55 rfl at_278 rfl (by decide) rfl ?_
      refine own_aload 281 X187 hx hby at_279 rfl rfl rfl ?_
      refine own_virt (W := 0) 284 (rm1_1 l Z a0 hw [] w_V w_E w_OUT w_IN w_BOTH w_OUT_E w_IN_E w_BOTH_E w_OUT_V w_IN_V w_BOTH_V w_HAS w_HAS_LABEL w_HAS_NOT w_WHERE w_NOT w_AND w_OR w_ORDER w_VALUES w_ID w_LABEL w_COUNT w_SUM w_MEAN w_MIN w_MAX w_EDGE w_VERTEX W w_LABEL w_EDGE h55 n0 O55 (W.2.2.2.2.2.2.2.2.2.2.2.2.2.2.2.2.2.2.2.2.2.2.2.2.2.2.2.2.2.2.2.2.2.2.2.2.2.2.2.2.2.2.2.2.2.2.2.2.2.2.2.2.2.2.2.2.2.2.2.2.2.2.2.2.2.2.2.2.2.2.2.2.2.2.2.2.2.2.2.2.2.2.2.1.ext O55.2)) X187 hx hby hZ hown (own_w hw 62 rfl) (own_w hw 63 rfl) (notFace_of_selects (args := #[]) (mvT hZ (own_w hw 65 rfl))) (own_w hw 65 rfl) (own_w hw 64 rfl) (own_w hw 3 rfl) (own_w hw 66 rfl) (by decide) (by rw [hml]; rfl) w_LABEL [(.ref w_EDGE)] [] pd_0 rfl at_281 rfl e187 (W.2.2.2.2.2.2.2.2.2.2.2.2.2.2.2.2.2.2.2.2.2.2.2.2.2.2.2.2.2.2.2.2.2.2.2.2.2.2.2.2.2.2.2.1.ext O55.2) rfl rfl rfl (by decide) (by decide) (by decide) (by decide) ?_
      rintro _ T188 L188 X188 ⟨rfl, N188, e188⟩
      have N188 := Fr.app N55 N188
      show Go p e below _ (T188.setTop (mkF m 284 _ [(.int (1 : Int32))]))
      refine own_iload 286 X188 hx hby at_284 rfl rfl ?_
      refine own_icN 289 X188 hx hby at_286 rfl (by decide) ?_
      refine own_iconst 290 (1 : Int32) X188 hx hby at_289 rfl (by decide) ?_
      refine own_goto 294 X188 hx hby at_290 (by decide) (by decide) ?_
      exact own_ret (Q := own_Q1 n0) X188 hx hby hret hlk at_294 rfl (Or.inl ⟨rfl, by simp, _, rfl⟩) (by decide) (by decide) ⟨rfl, N188⟩
  · refine own_irem 196 (22 : Int32) X55 hx hby at_195 rfl (by decide) hv56 ?_
    refine own_istore_n 197 #[oI x0, oI x1, oA b1, oI (22 : Int32), oU, oU] X55 hx hby at_196 rfl rfl ?_
    refine own_iload_n 198 X55 hx hby at_197 rfl rfl ?_
    refine own_iconst 199 (1 : Int32) X55 hx hby at_198 rfl (by decide) ?_
    rcases own_and1 x1 with hv189 | hv189
    · refine own_iand 200 (0 : Int32) X55 hx hby at_199 rfl hv189 ?_
      refine own_ifN 203 X55 hx hby at_200 rfl (by decide) ?_
      refine own_getS 206 X55 hx hby hZ hown (own_w hw 69 rfl) e55 (W.2.2.2.2.2.2.2.2.2.2.2.2.2.2.2.2.2.2.2.2.2.2.2.2.2.2.2.2.2.2.2.2.2.2.2.2.2.2.2.2.2.2.2.2.2.2.2.2.2.2.2.2.2.2.2.2.1.ext O55.2) at_203 rfl ?_
      intro T190 X190 e190
      refine own_goto 212 X190 hx hby at_206 (by decide) (by decide) ?_
      refine own_astore 214 #[oI x0, oI x1, oA b1, oI (22 : Int32), oA w_VERTEX, oU] X190 hx hby at_212 rfl rfl rfl ?_
      refine own_iload_n 215 X190 hx hby at_214 rfl rfl ?_
      refine own_iconst 216 (2 : Int32) X190 hx hby at_215 rfl (by decide) ?_
      refine own_icN 219 X190 hx hby at_216 rfl (by decide) ?_
      refine own_iload_n 220 X190 hx hby at_219 rfl rfl ?_
      refine own_bipush 222 (7 : Int32) X190 hx hby at_220 rfl (by decide) ?_
      refine own_icY 243 X190 hx hby at_222 (by decide) (by decide) (by decide) ?_
      refine own_iload_n 244 X190 hx hby at_243 rfl rfl ?_
      refine own_bipush 246 (8 : Int32) X190 hx hby at_244 rfl (by decide) ?_
      refine own_icN 249 X190 hx hby at_246 rfl (by decide) ?_
      refine own_iload_n 250 X190 hx hby at_249 rfl rfl ?_
      refine own_bipush 252 (10 : Int32) X190 hx hby at_250 rfl (by decide) ?_
      refine own_icY 273 X190 hx hby at_252 (by decide) (by decide) (by decide) ?_
      refine own_iconst 274 (1 : Int32) X190 hx hby at_273 rfl (by decide) ?_
      refine own_istore 276 #[oI x0, oI x1, oA b1, oI (22 : Int32), oA w_VERTEX, oI (1 : Int32)] X190 hx hby at_274 rfl rfl ?_
      refine own_aload_n 277 X190 hx hby at_276 rfl rfl rfl ?_
      refine own_iload_n 278 X190 hx hby at_277 rfl rfl ?_
      refine own_aaload 279 (.ref w_COUNT) X190 hx hby hZ e190 V55 rfl at_278 rfl (by decide) rfl ?_
      refine own_aload 281 X190 hx hby at_279 rfl rfl rfl ?_
      refine own_virt (W := 0) 284 (rm1_1 l Z a0 hw [] w_V w_E w_OUT w_IN w_BOTH w_OUT_E w_IN_E w_BOTH_E w_OUT_V w_IN_V w_BOTH_V w_HAS w_HAS_LABEL w_HAS_NOT w_WHERE w_NOT w_AND w_OR w_ORDER w_VALUES w_ID w_LABEL w_COUNT w_SUM w_MEAN w_MIN w_MAX w_EDGE w_VERTEX W w_COUNT w_VERTEX h55 n0 O55 (W.2.2.2.2.2.2.2.2.2.2.2.2.2.2.2.2.2.2.2.2.2.2.2.2.2.2.2.2.2.2.2.2.2.2.2.2.2.2.2.2.2.2.2.2.2.2.2.2.2.2.2.2.2.2.2.2.2.2.2.2.2.2.2.2.2.2.2.2.2.2.2.2.2.2.2.2.1.ext O55.2)) X190 hx hby hZ hown (own_w hw 62 rfl) (own_w hw 63 rfl) (notFace_of_selects (args := #[]) (mvT hZ (own_w hw 65 rfl))) (own_w hw 65 rfl) (own_w hw 64 rfl) (own_w hw 3 rfl) (own_w hw 66 rfl) (by decide) (by rw [hml]; rfl) w_COUNT [(.ref w_VERTEX)] [] pd_0 rfl at_281 rfl e190 (W.2.2.2.2.2.2.2.2.2.2.2.2.2.2.2.2.2.2.2.2.2.2.2.2.2.2.2.2.2.2.2.2.2.2.2.2.2.2.2.2.2.2.2.2.2.1.ext O55.2) rfl rfl rfl (by decide) (by decide) (by decide) (by decide) ?_
      rintro _ T191 L191 X191 ⟨rfl, N191, e191⟩
      have N191 := Fr.app N55 N191
      show Go p e below _ (T191.setTop (mkF m 284 _ [(.int (1 : Int32))]))
      refine own_iload 286 X191 hx hby at_284 rfl rfl ?_
      refine own_icN 289 X191 hx hby at_286 rfl (by decide) ?_
      refine own_iconst 290 (1 : Int32) X191 hx hby at_289 rfl (by decide) ?_
      refine own_goto 294 X191 hx hby at_290 (by decide) (by decide) ?_
      exact own_ret (Q := own_Q1 n0) X191 hx hby hret hlk at_294 rfl (Or.inl ⟨rfl, by simp, _, rfl⟩) (by decide) (by decide) ⟨rfl, N191⟩
    · refine own_iand 200 (1 : Int32) X55 hx hby at_199 rfl hv189 ?_
      refine own_ifY 209 X55 hx hby at_200 (by decide) (by decide) (by decide) ?_
      refine own_getS 212 X55 hx hby hZ hown (own_w hw 59 rfl) e55 (W.2.2.2.2.2.2.2.2.2.2.2.2.2.2.2.2.2.2.2.2.2.2.2.2.2.2.2.2.2.2.2.2.2.2.2.2.2.2.2.2.2.2.2.2.2.2.2.2.2.2.2.2.2.2.1.ext O55.2) at_209 rfl ?_
      intro T192 X192 e192
      refine own_astore 214 #[oI x0, oI x1, oA b1, oI (22 : Int32), oA w_EDGE, oU] X192 hx hby at_212 rfl rfl rfl ?_
      refine own_iload_n 215 X192 hx hby at_214 rfl rfl ?_
      refine own_iconst 216 (2 : Int32) X192 hx hby at_215 rfl (by decide) ?_
      refine own_icN 219 X192 hx hby at_216 rfl (by decide) ?_
      refine own_iload_n 220 X192 hx hby at_219 rfl rfl ?_
      refine own_bipush 222 (7 : Int32) X192 hx hby at_220 rfl (by decide) ?_
      refine own_icY 243 X192 hx hby at_222 (by decide) (by decide) (by decide) ?_
      refine own_iload_n 244 X192 hx hby at_243 rfl rfl ?_
      refine own_bipush 246 (8 : Int32) X192 hx hby at_244 rfl (by decide) ?_
      refine own_icN 249 X192 hx hby at_246 rfl (by decide) ?_
      refine own_iload_n 250 X192 hx hby at_249 rfl rfl ?_
      refine own_bipush 252 (10 : Int32) X192 hx hby at_250 rfl (by decide) ?_
      refine own_icY 273 X192 hx hby at_252 (by decide) (by decide) (by decide) ?_
      refine own_iconst 274 (1 : Int32) X192 hx hby at_273 rfl (by decide) ?_
      refine own_istore 276 #[oI x0, oI x1, oA b1, oI (22 : Int32), oA w_EDGE, oI (1 : Int32)] X192 hx hby at_274 rfl rfl ?_
      refine own_aload_n 277 X192 hx hby at_276 rfl rfl rfl ?_
      refine own_iload_n 278 X192 hx hby at_277 rfl rfl ?_
      refine own_aaload 279 (.ref w_COUNT) X192 hx hby hZ e192 V55 rfl at_278 rfl (by decide) rfl ?_
      refine own_aload 281 X192 hx hby at_279 rfl rfl rfl ?_
      refine own_virt (W := 0) 284 (rm1_1 l Z a0 hw [] w_V w_E w_OUT w_IN w_BOTH w_OUT_E w_IN_E w_BOTH_E w_OUT_V w_IN_V w_BOTH_V w_HAS w_HAS_LABEL w_HAS_NOT w_WHERE w_NOT w_AND w_OR w_ORDER w_VALUES w_ID w_LABEL w_COUNT w_SUM w_MEAN w_MIN w_MAX w_EDGE w_VERTEX W w_COUNT w_EDGE h55 n0 O55 (W.2.2.2.2.2.2.2.2.2.2.2.2.2.2.2.2.2.2.2.2.2.2.2.2.2.2.2.2.2.2.2.2.2.2.2.2.2.2.2.2.2.2.2.2.2.2.2.2.2.2.2.2.2.2.2.2.2.2.2.2.2.2.2.2.2.2.2.2.2.2.2.2.2.2.2.2.1.ext O55.2)) X192 hx hby hZ hown (own_w hw 62 rfl) (own_w hw 63 rfl) (notFace_of_selects (args := #[]) (mvT hZ (own_w hw 65 rfl))) (own_w hw 65 rfl) (own_w hw 64 rfl) (own_w hw 3 rfl) (own_w hw 66 rfl) (by decide) (by rw [hml]; rfl) w_COUNT [(.ref w_EDGE)] [] pd_0 rfl at_281 rfl e192 (W.2.2.2.2.2.2.2.2.2.2.2.2.2.2.2.2.2.2.2.2.2.2.2.2.2.2.2.2.2.2.2.2.2.2.2.2.2.2.2.2.2.2.2.2.2.1.ext O55.2) rfl rfl rfl (by decide) (by decide) (by decide) (by decide) ?_
      rintro _ T193 L193 X193 ⟨rfl, N193, e193⟩
      have N193 := Fr.app N55 N193
      show Go p e below _ (T193.setTop (mkF m 284 _ [(.int (1 : Int32))]))
      refine own_iload 286 X193 hx hby at_284 rfl rfl ?_
      refine own_icN 289 X193 hx hby at_286 rfl (by decide) ?_
      refine own_iconst 290 (1 : Int32) X193 hx hby at_289 rfl (by decide) ?_
      refine own_goto 294 X193 hx hby at_290 (by decide) (by decide) ?_
      exact own_ret (Q := own_Q1 n0) X193 hx hby hret hlk at_294 rfl (Or.inl ⟨rfl, by simp, _, rfl⟩) (by decide) (by decide) ⟨rfl, N193⟩
  · refine own_irem 196 (23 : Int32) X55 hx hby at_195 rfl (by decide) hv56 ?_
    refine own_istore_n 197 #[oI x0, oI x1, oA b1, oI (23 : Int32), oU, oU] X55 hx hby at_196 rfl rfl ?_
    refine own_iload_n 198 X55 hx hby at_197 rfl rfl ?_
    refine own_iconst 199 (1 : Int32) X55 hx hby at_198 rfl (by decide) ?_
    rcases own_and1 x1 with hv194 | hv194
    · refine own_iand 200 (0 : Int32) X55 hx hby at_199 rfl hv194 ?_
      refine own_ifN 203 X55 hx hby at_200 rfl (by decide) ?_
      refine own_getS 206 X55 hx hby hZ hown (own_w hw 69 rfl) e55 (W.2.2.2.2.2.2.2.2.2.2.2.2.2.2.2.2.2.2.2.2.2.2.2.2.2.2.2.2.2.2.2.2.2.2.2.2.2.2.2.2.2.2.2.2.2.2.2.2.2.2.2.2.2.2.2.2.1.ext O55.2) at_203 rfl ?_
      intro T195 X195 e195
      refine own_goto 212 X195 hx hby at_206 (by decide) (by decide) ?_
      refine own_astore 214 #[oI x0, oI x1, oA b1, oI (23 : Int32), oA w_VERTEX, oU] X195 hx hby at_212 rfl rfl rfl ?_
      refine own_iload_n 215 X195 hx hby at_214 rfl rfl ?_
      refine own_iconst 216 (2 : Int32) X195 hx hby at_215 rfl (by decide) ?_
      refine own_icN 219 X195 hx hby at_216 rfl (by decide) ?_
      refine own_iload_n 220 X195 hx hby at_219 rfl rfl ?_
      refine own_bipush 222 (7 : Int32) X195 hx hby at_220 rfl (by decide) ?_
      refine own_icY 243 X195 hx hby at_222 (by decide) (by decide) (by decide) ?_
      refine own_iload_n 244 X195 hx hby at_243 rfl rfl ?_
      refine own_bipush 246 (8 : Int32) X195 hx hby at_244 rfl (by decide) ?_
      refine own_icN 249 X195 hx hby at_246 rfl (by decide) ?_
      refine own_iload_n 250 X195 hx hby at_249 rfl rfl ?_
      refine own_bipush 252 (10 : Int32) X195 hx hby at_250 rfl (by decide) ?_
      refine own_icY 273 X195 hx hby at_252 (by decide) (by decide) (by decide) ?_
      refine own_iconst 274 (1 : Int32) X195 hx hby at_273 rfl (by decide) ?_
      refine own_istore 276 #[oI x0, oI x1, oA b1, oI (23 : Int32), oA w_VERTEX, oI (1 : Int32)] X195 hx hby at_274 rfl rfl ?_
      refine own_aload_n 277 X195 hx hby at_276 rfl rfl rfl ?_
      refine own_iload_n 278 X195 hx hby at_277 rfl rfl ?_
      refine own_aaload 279 (.ref w_SUM) X195 hx hby hZ e195 V55 rfl at_278 rfl (by decide) rfl ?_
      refine own_aload 281 X195 hx hby at_279 rfl rfl rfl ?_
      refine own_virt (W := 0) 284 (rm1_1 l Z a0 hw [] w_V w_E w_OUT w_IN w_BOTH w_OUT_E w_IN_E w_BOTH_E w_OUT_V w_IN_V w_BOTH_V w_HAS w_HAS_LABEL w_HAS_NOT w_WHERE w_NOT w_AND w_OR w_ORDER w_VALUES w_ID w_LABEL w_COUNT w_SUM w_MEAN w_MIN w_MAX w_EDGE w_VERTEX W w_SUM w_VERTEX h55 n0 O55 (W.2.2.2.2.2.2.2.2.2.2.2.2.2.2.2.2.2.2.2.2.2.2.2.2.2.2.2.2.2.2.2.2.2.2.2.2.2.2.2.2.2.2.2.2.2.2.2.2.2.2.2.2.2.2.2.2.2.2.2.2.2.2.2.2.2.2.2.2.2.2.2.2.2.2.2.2.2.2.2.2.2.2.2.2.2.2.ext O55.2)) X195 hx hby hZ hown (own_w hw 62 rfl) (own_w hw 63 rfl) (notFace_of_selects (args := #[]) (mvT hZ (own_w hw 65 rfl))) (own_w hw 65 rfl) (own_w hw 64 rfl) (own_w hw 3 rfl) (own_w hw 66 rfl) (by decide) (by rw [hml]; rfl) w_SUM [(.ref w_VERTEX)] [] pd_0 rfl at_281 rfl e195 (W.2.2.2.2.2.2.2.2.2.2.2.2.2.2.2.2.2.2.2.2.2.2.2.2.2.2.2.2.2.2.2.2.2.2.2.2.2.2.2.2.2.2.2.2.2.2.2.1.ext O55.2) rfl rfl rfl (by decide) (by decide) (by decide) (by decide) ?_
      rintro _ T196 L196 X196 ⟨rfl, N196, e196⟩
      have N196 := Fr.app N55 N196
      show Go p e below _ (T196.setTop (mkF m 284 _ [(.int (1 : Int32))]))
      refine own_iload 286 X196 hx hby at_284 rfl rfl ?_
      refine own_icN 289 X196 hx hby at_286 rfl (by decide) ?_
      refine own_iconst 290 (1 : Int32) X196 hx hby at_289 rfl (by decide) ?_
      refine own_goto 294 X196 hx hby at_290 (by decide) (by decide) ?_
      exact own_ret (Q := own_Q1 n0) X196 hx hby hret hlk at_294 rfl (Or.inl ⟨rfl, by simp, _, rfl⟩) (by decide) (by decide) ⟨rfl, N196⟩
    · refine own_iand 200 (1 : Int32) X55 hx hby at_199 rfl hv194 ?_
      refine own_ifY 209 X55 hx hby at_200 (by decide) (by decide) (by decide) ?_
      refine own_getS 212 X55 hx hby hZ hown (own_w hw 59 rfl) e55 (W.2.2.2.2.2.2.2.2.2.2.2.2.2.2.2.2.2.2.2.2.2.2.2.2.2.2.2.2.2.2.2.2.2.2.2.2.2.2.2.2.2.2.2.2.2.2.2.2.2.2.2.2.2.2.1.ext O55.2) at_209 rfl ?_
      intro T197 X197 e197
      refine own_astore 214 #[oI x0, oI x1, oA b1, oI (23 : Int32), oA w_EDGE, oU] X197 hx hby at_212 rfl rfl rfl ?_
      refine own_iload_n 215 X197 hx hby at_214 rfl rfl ?_
      refine own_iconst 216 (2 : Int32) X197 hx hby at_215 rfl (by decide) ?_
      refine own_icN 219 X197 hx hby at_216 rfl (by decide) ?_
      refine own_iload_n 220 X197 hx hby at_219 rfl rfl ?_
      refine own_bipush 222 (7 : Int32) X197 hx hby at_220 rfl (by decide) ?_
      refine own_icY 243 X197 hx hby at_222 (by decide) (by decide) (by decide) ?_
      refine own_iload_n 244 X197 hx hby at_243 rfl rfl ?_
      refine own_bipush 246 (8 : Int32) X197 hx hby at_244 rfl (by decide) ?_
      refine own_icN 249 X197 hx hby at_246 rfl (by decide) ?_
      refine own_iload_n 250 X197 hx hby at_249 rfl rfl ?_
      refine own_bipush 252 (10 : Int32) X197 hx hby at_250 rfl (by decide) ?_
      refine own_icY 273 X197 hx hby at_252 (by decide) (by decide) (by decide) ?_
      refine own_iconst 274 (1 : Int32) X197 hx hby at_273 rfl (by decide) ?_
      refine own_istore 276 #[oI x0, oI x1, oA b1, oI (23 : Int32), oA w_EDGE, oI (1 : Int32)] X197 hx hby at_274 rfl rfl ?_
      refine own_aload_n 277 X197 hx hby at_276 rfl rfl rfl ?_
      refine own_iload_n 278 X197 hx hby at_277 rfl rfl ?_
      refine own_aaload 279 (.ref w_SUM) X197 hx hby hZ e197 V55 rfl at_278 rfl (by decide) rfl ?_
      refine own_aload 281 X197 hx hby at_279 rfl rfl rfl ?_
      refine own_virt (W := 0) 284 (rm1_1 l Z a0 hw [] w_V w_E w_OUT w_IN w_BOTH w_OUT_E w_IN_E w_BOTH_E w_OUT_V w_IN_V w_BOTH_V w_HAS w_HAS_LABEL w_HAS_NOT w_WHERE w_NOT w_AND w_OR w_ORDER w_VALUES w_ID w_LABEL w_COUNT w_SUM w_MEAN w_MIN w_MAX w_EDGE w_VERTEX W w_SUM w_EDGE h55 n0 O55 (W.2.2.2.2.2.2.2.2.2.2.2.2.2.2.2.2.2.2.2.2.2.2.2.2.2.2.2.2.2.2.2.2.2.2.2.2.2.2.2.2.2.2.2.2.2.2.2.2.2.2.2.2.2.2.2.2.2.2.2.2.2.2.2.2.2.2.2.2.2.2.2.2.2.2.2.2.2.2.2.2.2.2.2.2.2.2.ext O55.2)) X197 hx hby hZ hown (own_w hw 62 rfl) (own_w hw 63 rfl) (notFace_of_selects (args := #[]) (mvT hZ (own_w hw 65 rfl))) (own_w hw 65 rfl) (own_w hw 64 rfl) (own_w hw 3 rfl) (own_w hw 66 rfl) (by decide) (by rw [hml]; rfl) w_SUM [(.ref w_EDGE)] [] pd_0 rfl at_281 rfl e197 (W.2.2.2.2.2.2.2.2.2.2.2.2.2.2.2.2.2.2.2.2.2.2.2.2.2.2.2.2.2.2.2.2.2.2.2.2.2.2.2.2.2.2.2.2.2.2.2.1.ext O55.2) rfl rfl rfl (by decide) (by decide) (by decide) (by decide) ?_
      rintro _ T198 L198 X198 ⟨rfl, N198, e198⟩
      have N198 := Fr.app N55 N198
      show Go p e below _ (T198.setTop (mkF m 284 _ [(.int (1 : Int32))]))
      refine own_iload 286 X198 hx hby at_284 rfl rfl ?_
      refine own_icN 289 X198 hx hby at_286 rfl (by decide) ?_
      refine own_iconst 290 (1 : Int32) X198 hx hby at_289 rfl (by decide) ?_
      refine own_goto 294 X198 hx hby at_290 (by decide) (by decide) ?_
      exact own_ret (Q := own_Q1 n0) X198 hx hby hret hlk at_294 rfl (Or.inl ⟨rfl, by simp, _, rfl⟩) (by decide) (by decide) ⟨rfl, N198⟩
  · refine own_irem 196 (24 : Int32) X55 hx hby at_195 rfl (by decide) hv56 ?_
    refine own_istore_n 197 #[oI x0, oI x1, oA b1, oI (24 : Int32), oU, oU] X55 hx hby at_196 rfl rfl ?_
    refine own_iload_n 198 X55 hx hby at_197 rfl rfl ?_
    refine own_iconst 199 (1 : Int32) X55 hx hby at_198 rfl (by decide) ?_
    rcases own_and1 x1 with hv199 | hv199
    · refine own_iand 200 (0 : Int32) X55 hx hby at_199 rfl hv199 ?_
      refine own_ifN 203 X55 hx hby at_200 rfl (by decide) ?_
      refine own_getS 206 X55 hx hby hZ hown (own_w hw 69 rfl) e55 (W.2.2.2.2.2.2.2.2.2.2.2.2.2.2.2.2.2.2.2.2.2.2.2.2.2.2.2.2.2.2.2.2.2.2.2.2.2.2.2.2.2.2.2.2.2.2.2.2.2.2.2.2.2.2.2.2.1.ext O55.2) at_203 rfl ?_
      intro T200 X200 e200
      refine own_goto 212 X200 hx hby at_206 (by decide) (by decide) ?_
      refine own_astore 214 #[oI x0, oI x1, oA b1, oI (24 : Int32), oA w_VERTEX, oU] X200 hx hby at_212 rfl rfl rfl ?_
      refine own_iload_n 215 X200 hx hby at_214 rfl rfl ?_
      refine own_iconst 216 (2 : Int32) X200 hx hby at_215 rfl (by decide) ?_
      refine own_icN 219 X200 hx hby at_216 rfl (by decide) ?_
      refine own_iload_n 220 X200 hx hby at_219 rfl rfl ?_
      refine own_bipush 222 (7 : Int32) X200 hx hby at_220 rfl (by decide) ?_
      refine own_icY 243 X200 hx hby at_222 (by decide) (by decide) (by decide) ?_
      refine own_iload_n 244 X200 hx hby at_243 rfl rfl ?_
      refine own_bipush 246 (8 : Int32) X200 hx hby at_244 rfl (by decide) ?_
      refine own_icN 249 X200 hx hby at_246 rfl (by decide) ?_
      refine own_iload_n 250 X200 hx hby at_249 rfl rfl ?_
      refine own_bipush 252 (10 : Int32) X200 hx hby at_250 rfl (by decide) ?_
      refine own_icY 273 X200 hx hby at_252 (by decide) (by decide) (by decide) ?_
      refine own_iconst 274 (1 : Int32) X200 hx hby at_273 rfl (by decide) ?_
      refine own_istore 276 #[oI x0, oI x1, oA b1, oI (24 : Int32), oA w_VERTEX, oI (1 : Int32)] X200 hx hby at_274 rfl rfl ?_
      refine own_aload_n 277 X200 hx hby at_276 rfl rfl rfl ?_
      refine own_iload_n 278 X200 hx hby at_277 rfl rfl ?_
      refine own_aaload 279 (.ref w_MEAN) X200 hx hby hZ e200 V55 rfl at_278 rfl (by decide) rfl ?_
      refine own_aload 281 X200 hx hby at_279 rfl rfl rfl ?_
      refine own_virt (W := 0) 284 (rm1_1 l Z a0 hw [] w_V w_E w_OUT w_IN w_BOTH w_OUT_E w_IN_E w_BOTH_E w_OUT_V w_IN_V w_BOTH_V w_HAS w_HAS_LABEL w_HAS_NOT w_WHERE w_NOT w_AND w_OR w_ORDER w_VALUES w_ID w_LABEL w_COUNT w_SUM w_MEAN w_MIN w_MAX w_EDGE w_VERTEX W w_MEAN w_VERTEX h55 n0 O55 (W.2.2.2.2.2.2.2.2.2.2.2.2.2.2.2.2.2.2.2.2.2.2.2.2.2.2.2.2.2.2.2.2.2.2.2.2.2.2.2.2.2.2.2.2.2.2.2.2.2.2.2.2.2.2.2.2.2.2.2.2.2.2.2.2.2.2.2.2.2.2.1.ext O55.2)) X200 hx hby hZ hown (own_w hw 62 rfl) (own_w hw 63 rfl) (notFace_of_selects (args := #[]) (mvT hZ (own_w hw 65 rfl))) (own_w hw 65 rfl) (own_w hw 64 rfl) (own_w hw 3 rfl) (own_w hw 66 rfl) (by decide) (by rw [hml]; rfl) w_MEAN [(.ref w_VERTEX)] [] pd_0 rfl at_281 rfl e200 (W.2.2.2.2.2.2.2.2.2.2.2.2.2.2.2.2.2.2.2.2.2.2.2.2.2.2.2.2.2.2.2.2.2.2.2.2.2.2.2.2.2.2.2.2.2.2.2.2.2.1.ext O55.2) rfl rfl rfl (by decide) (by decide) (by decide) (by decide) ?_
      rintro _ T201 L201 X201 ⟨rfl, N201, e201⟩
      have N201 := Fr.app N55 N201
      show Go p e below _ (T201.setTop (mkF m 284 _ [(.int (1 : Int32))]))
      refine own_iload 286 X201 hx hby at_284 rfl rfl ?_
      refine own_icN 289 X201 hx hby at_286 rfl (by decide) ?_
      refine own_iconst 290 (1 : Int32) X201 hx hby at_289 rfl (by decide) ?_
      refine own_goto 294 X201 hx hby at_290 (by decide) (by decide) ?_
      exact own_ret (Q := own_Q1 n0) X201 hx hby hret hlk at_294 rfl (Or.inl ⟨rfl, by simp, _, rfl⟩) (by decide) (by decide) ⟨rfl, N201⟩
    · refine own_iand 200 (1 : Int32) X55 hx hby at_199 rfl hv199 ?_
      refine own_ifY 209 X55 hx hby at_200 (by decide) (by decide) (by decide) ?_
      refine own_getS 212 X55 hx hby hZ hown (own_w hw 59 rfl) e55 (W.2.2.2.2.2.2.2.2.2.2.2.2.2.2.2.2.2.2.2.2.2.2.2.2.2.2.2.2.2.2.2.2.2.2.2.2.2.2.2.2.2.2.2.2.2.2.2.2.2.2.2.2.2.2.1.ext O55.2) at_209 rfl ?_
      intro T202 X202 e202
      refine own_astore 214 #[oI x0, oI x1, oA b1, oI (24 : Int32), oA w_EDGE, oU] X202 hx hby at_212 rfl rfl rfl ?_
      refine own_iload_n 215 X202 hx hby at_214 rfl rfl ?_
      refine own_iconst 216 (2 : Int32) X202 hx hby at_215 rfl (by decide) ?_
      refine own_icN 219 X202 hx hby at_216 rfl (by decide) ?_
      refine own_iload_n 220 X202 hx hby at_219 rfl rfl ?_
      refine own_bipush 222 (7 : Int32) X202 hx hby at_220 rfl (by decide) ?_
      refine own_icY 243 X202 hx hby at_222 (by decide) (by decide) (by decide) ?_
      refine own_iload_n 244 X202 hx hby at_243 rfl rfl ?_
      refine own_bipush 246 (8 : Int32) X202 hx hby at_244 rfl (by decide) ?_
      refine own_icN 249 X202 hx hby at_246 rfl (by decide) ?_
      refine own_iload_n 250 X202 hx hby at_249 rfl rfl ?_
      refine own_bipush 252 (10 : Int32) X202 hx hby at_250 rfl (by decide) ?_
      refine own_icY 273 X202 hx hby at_252 (by decide) (by decide) (by decide) ?_
      refine own_iconst 274 (1 : Int32) X202 hx hby at_273 rfl (by decide) ?_
      refine own_istore 276 #[oI x0, oI x1, oA b1, oI (24 : Int32), oA w_EDGE, oI (1 : Int32)] X202 hx hby at_274 rfl rfl ?_
      refine own_aload_n 277 X202 hx hby at_276 rfl rfl rfl ?_
      refine own_iload_n 278 X202 hx hby at_277 rfl rfl ?_
      refine own_aaload 279 (.ref w_MEAN) X202 hx hby hZ e202 V55 rfl at_278 rfl (by decide) rfl ?_
      refine own_aload 281 X202 hx hby at_279 rfl rfl rfl ?_
      refine own_virt (W := 0) 284 (rm1_1 l Z a0 hw [] w_V w_E w_OUT w_IN w_BOTH w_OUT_E w_IN_E w_BOTH_E w_OUT_V w_IN_V w_BOTH_V w_HAS w_HAS_LABEL w_HAS_NOT w_WHERE w_NOT w_AND w_OR w_ORDER w_VALUES w_ID w_LABEL w_COUNT w_SUM w_MEAN w_MIN w_MAX w_EDGE w_VERTEX W w_MEAN w_EDGE h55 n0 O55 (W.2.2.2.2.2.2.2.2.2.2.2.2.2.2.2.2.2.2.2.2.2.2.2.2.2.2.2.2.2.2.2.2.2.2.2.2.2.2.2.2.2.2.2.2.2.2.2.2.2.2.2.2.2.2.2.2.2.2.2.2.2.2.2.2.2.2.2.2.2.2.1.ext O55.2)) X202 hx hby hZ hown (own_w hw 62 rfl) (own_w hw 63 rfl) (notFace_of_selects (args := #[]) (mvT hZ (own_w hw 65 rfl))) (own_w hw 65 rfl) (own_w hw 64 rfl) (own_w hw 3 rfl) (own_w hw 66 rfl) (by decide) (by rw [hml]; rfl) w_MEAN [(.ref w_EDGE)] [] pd_0 rfl at_281 rfl e202 (W.2.2.2.2.2.2.2.2.2.2.2.2.2.2.2.2.2.2.2.2.2.2.2.2.2.2.2.2.2.2.2.2.2.2.2.2.2.2.2.2.2.2.2.2.2.2.2.2.2.1.ext O55.2) rfl rfl rfl (by decide) (by decide) (by decide) (by decide) ?_
      rintro _ T203 L203 X203 ⟨rfl, N203, e203⟩
      have N203 := Fr.app N55 N203
      show Go p e below _ (T203.setTop (mkF m 284 _ [(.int (1 : Int32))]))
      refine own_iload 286 X203 hx hby at_284 rfl rfl ?_
      refine own_icN 289 X203 hx hby at_286 rfl (by decide) ?_
      refine own_iconst 290 (1 : Int32) X203 hx hby at_289 rfl (by decide) ?_
      refine own_goto 294 X203 hx hby at_290 (by decide) (by decide) ?_
      exact own_ret (Q := own_Q1 n0) X203 hx hby hret hlk at_294 rfl (Or.inl ⟨rfl, by simp, _, rfl⟩) (by decide) (by decide) ⟨rfl, N203⟩
  · refine own_irem 196 (25 : Int32) X55 hx hby at_195 rfl (by decide) hv56 ?_
    refine own_istore_n 197 #[oI x0, oI x1, oA b1, oI (25 : Int32), oU, oU] X55 hx hby at_196 rfl rfl ?_
    refine own_iload_n 198 X55 hx hby at_197 rfl rfl ?_
    refine own_iconst 199 (1 : Int32) X55 hx hby at_198 rfl (by decide) ?_
    rcases own_and1 x1 with hv204 | hv204
    · refine own_iand 200 (0 : Int32) X55 hx hby at_199 rfl hv204 ?_
      refine own_ifN 203 X55 hx hby at_200 rfl (by decide) ?_
      refine own_getS 206 X55 hx hby hZ hown (own_w hw 69 rfl) e55 (W.2.2.2.2.2.2.2.2.2.2.2.2.2.2.2.2.2.2.2.2.2.2.2.2.2.2.2.2.2.2.2.2.2.2.2.2.2.2.2.2.2.2.2.2.2.2.2.2.2.2.2.2.2.2.2.2.1.ext O55.2) at_203 rfl ?_
      intro T205 X205 e205
      refine own_goto 212 X205 hx hby at_206 (by decide) (by decide) ?_
      refine own_astore 214 #[oI x0, oI x1, oA b1, oI (25 : Int32), oA w_VERTEX, oU] X205 hx hby at_212 rfl rfl rfl ?_
      refine own_iload_n 215 X205 hx hby at_214 rfl rfl ?_
      refine own_iconst 216 (2 : Int32) X205 hx hby at_215 rfl (by decide) ?_
      refine own_icN 219 X205 hx hby at_216 rfl (by decide) ?_
      refine own_iload_n 220 X205 hx hby at_219 rfl rfl ?_
      refine own_bipush 222 (7 : Int32) X205 hx hby at_220 rfl (by decide) ?_
      refine own_icY 243 X205 hx hby at_222 (by decide) (by decide) (by decide) ?_
      refine own_iload_n 244 X205 hx hby at_243 rfl rfl ?_
      refine own_bipush 246 (8 : Int32) X205 hx hby at_244 rfl (by decide) ?_
      refine own_icN 249 X205 hx hby at_246 rfl (by decide) ?_
      refine own_iload_n 250 X205 hx hby at_249 rfl rfl ?_
      refine own_bipush 252 (10 : Int32) X205 hx hby at_250 rfl (by decide) ?_
      refine own_icY 273 X205 hx hby at_252 (by decide) (by decide) (by decide) ?_
      refine own_iconst 274 (1 : Int32) X205 hx hby at_273 rfl (by decide) ?_
      refine own_istore 276 #[oI x0, oI x1, oA b1, oI (25 : Int32), oA w_VERTEX, oI (1 : Int32)] X205 hx hby at_274 rfl rfl ?_
      refine own_aload_n 277 X205 hx hby at_276 rfl rfl rfl ?_
      refine own_iload_n 278 X205 hx hby at_277 rfl rfl ?_
      refine own_aaload 279 (.ref w_MIN) X205 hx hby hZ e205 V55 rfl at_278 rfl (by decide) rfl ?_
      refine own_aload 281 X205 hx hby at_279 rfl rfl rfl ?_
      refine own_virt (W := 0) 284 (rm1_1 l Z a0 hw [] w_V w_E w_OUT w_IN w_BOTH w_OUT_E w_IN_E w_BOTH_E w_OUT_V w_IN_V w_BOTH_V w_HAS w_HAS_LABEL w_HAS_NOT w_WHERE w_NOT w_AND w_OR w_ORDER w_VALUES w_ID w_LABEL w_COUNT w_SUM w_MEAN w_MIN w_MAX w_EDGE w_VERTEX W w_MIN w_VERTEX h55 n0 O55 (W.2.2.2.2.2.2.2.2.2.2.2.2.2.2.2.2.2.2.2.2.2.2.2.2.2.2.2.2.2.2.2.2.2.2.2.2.2.2.2.2.2.2.2.2.2.2.2.2.2.2.2.2.2.2.2.2.2.2.2.2.2.2.2.2.2.2.2.2.2.2.2.2.2.2.2.2.2.2.1.ext O55.2)) X205 hx hby hZ hown (own_w hw 62 rfl) (own_w hw 63 rfl) (notFace_of_selects (args := #[]) (mvT hZ (own_w hw 65 rfl))) (own_w hw 65 rfl) (own_w hw 64 rfl) (own_w hw 3 rfl) (own_w hw 66 rfl) (by decide) (by rw [hml]; rfl) w_MIN [(.ref w_VERTEX)] [] pd_0 rfl at_281 rfl e205 (W.2.2.2.2.2.2.2.2.2.2.2.2.2.2.2.2.2.2.2.2.2.2.2.2.2.2.2.2.2.2.2.2.2.2.2.2.2.2.2.2.2.2.2.2.2.2.2.2.2.2.2.1.ext O55.2) rfl rfl rfl (by decide) (by decide) (by decide) (by decide) ?_
      rintro _ T206 L206 X206 ⟨rfl, N206, e206⟩
      have N206 := Fr.app N55 N206
      show Go p e below _ (T206.setTop (mkF m 284 _ [(.int (1 : Int32))]))
      refine own_iload 286 X206 hx hby at_284 rfl rfl ?_
      refine own_icN 289 X206 hx hby at_286 rfl (by decide) ?_
      refine own_iconst 290 (1 : Int32) X206 hx hby at_289 rfl (by decide) ?_
      refine own_goto 294 X206 hx hby at_290 (by decide) (by decide) ?_
      exact own_ret (Q := own_Q1 n0) X206 hx hby hret hlk at_294 rfl (Or.inl ⟨rfl, by simp, _, rfl⟩) (by decide) (by decide) ⟨rfl, N206⟩
    · refine own_iand 200 (1 : Int32) X55 hx hby at_199 rfl hv204 ?_
      refine own_ifY 209 X55 hx hby at_200 (by decide) (by decide) (by decide) ?_
      refine own_getS 212 X55 hx hby hZ hown (own_w hw 59 rfl) e55 (W.2.2.2.2.2.2.2.2.2.2.2.2.2.2.2.2.2.2.2.2.2.2.2.2.2.2.2.2.2.2.2.2.2.2.2.2.2.2.2.2.2.2.2.2.2.2.2.2.2.2.2.2.2.2.1.ext O55.2) at_209 rfl ?_
      intro T207 X207 e207
      refine own_astore 214 #[oI x0, oI x1, oA b1, oI (25 : Int32), oA w_EDGE, oU] X207 hx hby at_212 rfl rfl rfl ?_
      refine own_iload_n 215 X207 hx hby at_214 rfl rfl ?_
      refine own_iconst 216 (2 : Int32) X207 hx hby at_215 rfl (by decide) ?_
      refine own_icN 219 X207 hx hby at_216 rfl (by decide) ?_
      refine own_iload_n 220 X207 hx hby at_219 rfl rfl ?_
      refine own_bipush 222 (7 : Int32) X207 hx hby at_220 rfl (by decide) ?_
      refine own_icY 243 X207 hx hby at_222 (by decide) (by decide) (by decide) ?_
      refine own_iload_n 244 X207 hx hby at_243 rfl rfl ?_
      refine own_bipush 246 (8 : Int32) X207 hx hby at_244 rfl (by decide) ?_
      refine own_icN 249 X207 hx hby at_246 rfl (by decide) ?_
      refine own_iload_n 250 X207 hx hby at_249 rfl rfl ?_
      refine own_bipush 252 (10 : Int32) X207 hx hby at_250 rfl (by decide) ?_
      refine own_icY 273 X207 hx hby at_252 (by decide) (by decide) (by decide) ?_
      refine own_iconst 274 (1 : Int32) X207 hx hby at_273 rfl (by decide) ?_
      refine own_istore 276 #[oI x0, oI x1, oA b1, oI (25 : Int32), oA w_EDGE, oI (1 : Int32)] X207 hx hby at_274 rfl rfl ?_
      refine own_aload_n 277 X207 hx hby at_276 rfl rfl rfl ?_
      refine own_iload_n 278 X207 hx hby at_277 rfl rfl ?_
      refine own_aaload 279 (.ref w_MIN) X207 hx hby hZ e207 V55 rfl at_278 rfl (by decide) rfl ?_
      refine own_aload 281 X207 hx hby at_279 rfl rfl rfl ?_
      refine own_virt (W := 0) 284 (rm1_1 l Z a0 hw [] w_V w_E w_OUT w_IN w_BOTH w_OUT_E w_IN_E w_BOTH_E w_OUT_V w_IN_V w_BOTH_V w_HAS w_HAS_LABEL w_HAS_NOT w_WHERE w_NOT w_AND w_OR w_ORDER w_VALUES w_ID w_LABEL w_COUNT w_SUM w_MEAN w_MIN w_MAX w_EDGE w_VERTEX W w_MIN w_EDGE h55 n0 O55 (W.2.2.2.2.2.2.2.2.2.2.2.2.2.2.2.2.2.2.2.2.2.2.2.2.2.2.2.2.2.2.2.2.2.2.2.2.2.2.2.2.2.2.2.2.2.2.2.2.2.2.2.2.2.2.2.2.2.2.2.2.2.2.2.2.2.2.2.2.2.2.2.2.2.2.2.2.2.2.1.ext O55.2)) X207 hx hby hZ hown (own_w hw 62 rfl) (own_w hw 63 rfl) (notFace_of_selects (args := #[]) (mvT hZ (own_w hw 65 rfl))) (own_w hw 65 rfl) (own_w hw 64 rfl) (own_w hw 3 rfl) (own_w hw 66 rfl) (by decide) (by rw [hml]; rfl) w_MIN [(.ref w_EDGE)] [] pd_0 rfl at_281 rfl e207 (W.2.2.2.2.2.2.2.2.2.2.2.2.2.2.2.2.2.2.2.2.2.2.2.2.2.2.2.2.2.2.2.2.2.2.2.2.2.2.2.2.2.2.2.2.2.2.2.2.2.2.2.1.ext O55.2) rfl rfl rfl (by decide) (by decide) (by decide) (by decide) ?_
      rintro _ T208 L208 X208 ⟨rfl, N208, e208⟩
      have N208 := Fr.app N55 N208
      show Go p e below _ (T208.setTop (mkF m 284 _ [(.int (1 : Int32))]))
      refine own_iload 286 X208 hx hby at_284 rfl rfl ?_
      refine own_icN 289 X208 hx hby at_286 rfl (by decide) ?_
      refine own_iconst 290 (1 : Int32) X208 hx hby at_289 rfl (by decide) ?_
      refine own_goto 294 X208 hx hby at_290 (by decide) (by decide) ?_
      exact own_ret (Q := own_Q1 n0) X208 hx hby hret hlk at_294 rfl (Or.inl ⟨rfl, by simp, _, rfl⟩) (by decide) (by decide) ⟨rfl, N208⟩
  · refine own_irem 196 (26 : Int32) X55 hx hby at_195 rfl (by decide) hv56 ?_
    refine own_istore_n 197 #[oI x0, oI x1, oA b1, oI (26 : Int32), oU, oU] X55 hx hby at_196 rfl rfl ?_
    refine own_iload_n 198 X55 hx hby at_197 rfl rfl ?_
    refine own_iconst 199 (1 : Int32) X55 hx hby at_198 rfl (by decide) ?_
    rcases own_and1 x1 with hv209 | hv209
    · refine own_iand 200 (0 : Int32) X55 hx hby at_199 rfl hv209 ?_
      refine own_ifN 203 X55 hx hby at_200 rfl (by decide) ?_
      refine own_getS 206 X55 hx hby hZ hown (own_w hw 69 rfl) e55 (W.2.2.2.2.2.2.2.2.2.2.2.2.2.2.2.2.2.2.2.2.2.2.2.2.2.2.2.2.2.2.2.2.2.2.2.2.2.2.2.2.2.2.2.2.2.2.2.2.2.2.2.2.2.2.2.2.1.ext O55.2) at_203 rfl ?_
      intro T210 X210 e210
      refine own_goto 212 X210 hx hby at_206 (by decide) (by decide) ?_
      refine own_astore 214 #[oI x0, oI x1, oA b1, oI (26 : Int32), oA w_VERTEX, oU] X210 hx hby at_212 rfl rfl rfl ?_
      refine own_iload_n 215 X210 hx hby at_214 rfl rfl ?_
      refine own_iconst 216 (2 : Int32) X210 hx hby at_215 rfl (by decide) ?_
      refine own_icN 219 X210 hx hby at_216 rfl (by decide) ?_
      refine own_iload_n 220 X210 hx hby at_219 rfl rfl ?_
      refine own_bipush 222 (7 : Int32) X210 hx hby at_220 rfl (by decide) ?_
      refine own_icY 243 X210 hx hby at_222 (by decide) (by decide) (by decide) ?_
      refine own_iload_n 244 X210 hx hby at_243 rfl rfl ?_
      refine own_bipush 246 (8 : Int32) X210 hx hby at_244 rfl (by decide) ?_
      refine own_icN 249 X210 hx hby at_246 rfl (by decide) ?_
      refine own_iload_n 250 X210 hx hby at_249 rfl rfl ?_
      refine own_bipush 252 (10 : Int32) X210 hx hby at_250 rfl (by decide) ?_
      refine own_icY 273 X210 hx hby at_252 (by decide) (by decide) (by decide) ?_
      refine own_iconst 274 (1 : Int32) X210 hx hby at_273 rfl (by decide) ?_
      refine own_istore 276 #[oI x0, oI x1, oA b1, oI (26 : Int32), oA w_VERTEX, oI (1 : Int32)] X210 hx hby at_274 rfl rfl ?_
      refine own_aload_n 277 X210 hx hby at_276 rfl rfl rfl ?_
      refine own_iload_n 278 X210 hx hby at_277 rfl rfl ?_
      refine own_aaload 279 (.ref w_MAX) X210 hx hby hZ e210 V55 rfl at_278 rfl (by decide) rfl ?_
      refine own_aload 281 X210 hx hby at_279 rfl rfl rfl ?_
      refine own_virt (W := 0) 284 (rm1_1 l Z a0 hw [] w_V w_E w_OUT w_IN w_BOTH w_OUT_E w_IN_E w_BOTH_E w_OUT_V w_IN_V w_BOTH_V w_HAS w_HAS_LABEL w_HAS_NOT w_WHERE w_NOT w_AND w_OR w_ORDER w_VALUES w_ID w_LABEL w_COUNT w_SUM w_MEAN w_MIN w_MAX w_EDGE w_VERTEX W w_MAX w_VERTEX h55 n0 O55 (W.2.2.2.2.2.2.2.2.2.2.2.2.2.2.2.2.2.2.2.2.2.2.2.2.2.2.2.2.2.2.2.2.2.2.2.2.2.2.2.2.2.2.2.2.2.2.2.2.2.2.2.2.2.2.2.2.2.2.2.2.2.2.2.2.2.2.2.2.2.2.2.2.2.2.2.2.2.2.2.1.ext O55.2)) X210 hx hby hZ hown (own_w hw 62 rfl) (own_w hw 63 rfl) (notFace_of_selects (args := #[]) (mvT hZ (own_w hw 65 rfl))) (own_w hw 65 rfl) (own_w hw 64 rfl) (own_w hw 3 rfl) (own_w hw 66 rfl) (by decide) (by rw [hml]; rfl) w_MAX [(.ref w_VERTEX)] [] pd_0 rfl at_281 rfl e210 (W.2.2.2.2.2.2.2.2.2.2.2.2.2.2.2.2.2.2.2.2.2.2.2.2.2.2.2.2.2.2.2.2.2.2.2.2.2.2.2.2.2.2.2.2.2.2.2.2.2.2.2.2.2.1.ext O55.2) rfl rfl rfl (by decide) (by decide) (by decide) (by decide) ?_
      rintro _ T211 L211 X211 ⟨rfl, N211, e211⟩
      have N211 := Fr.app N55 N211
      show Go p e below _ (T211.setTop (mkF m 284 _ [(.int (1 : Int32))]))
      refine own_iload 286 X211 hx hby at_284 rfl rfl ?_
      refine own_icN 289 X211 hx hby at_286 rfl (by decide) ?_
      refine own_iconst 290 (1 : Int32) X211 hx hby at_289 rfl (by decide) ?_
      refine own_goto 294 X211 hx hby at_290 (by decide) (by decide) ?_
      exact own_ret (Q := own_Q1 n0) X211 hx hby hret hlk at_294 rfl (Or.inl ⟨rfl, by simp, _, rfl⟩) (by decide) (by decide) ⟨rfl, N211⟩
    · refine own_iand 200 (1 : Int32) X55 hx hby at_199 rfl hv209 ?_
      refine own_ifY 209 X55 hx hby at_200 (by decide) (by decide) (by decide) ?_
      refine own_getS 212 X55 hx hby hZ hown (own_w hw 59 rfl) e55 (W.2.2.2.2.2.2.2.2.2.2.2.2.2.2.2.2.2.2.2.2.2.2.2.2.2.2.2.2.2.2.2.2.2.2.2.2.2.2.2.2.2.2.2.2.2.2.2.2.2.2.2.2.2.2.1.ext O55.2) at_209 rfl ?_
      intro T212 X212 e212
      refine own_astore 214 #[oI x0, oI x1, oA b1, oI (26 : Int32), oA w_EDGE, oU] X212 hx hby at_212 rfl rfl rfl ?_
      refine own_iload_n 215 X212 hx hby at_214 rfl rfl ?_
      refine own_iconst 216 (2 : Int32) X212 hx hby at_215 rfl (by decide) ?_
      refine own_icN 219 X212 hx hby at_216 rfl (by decide) ?_
      refine own_iload_n 220 X212 hx hby at_219 rfl rfl ?_
      refine own_bipush 222 (7 : Int32) X212 hx hby at_220 rfl (by decide) ?_
      refine own_icY 243 X212 hx hby at_222 (by decide) (by decide) (by decide) ?_
      refine own_iload_n 244 X212 hx hby at_243 rfl rfl ?_
      refine own_bipush 246 (8 : Int32) X212 hx hby at_244 rfl (by decide) ?_
      refine own_icN 249 X212 hx hby at_246 rfl (by decide) ?_
      refine own_iload_n 250 X212 hx hby at_249 rfl rfl ?_
      refine own_bipush 252 (10 : Int32) X212 hx hby at_250 rfl (by decide) ?_
      refine own_icY 273 X212 hx hby at_252 (by decide) (by decide) (by decide) ?_
      refine own_iconst 274 (1 : Int32) X212 hx hby at_273 rfl (by decide) ?_
      refine own_istore 276 #[oI x0, oI x1, oA b1, oI (26 : Int32), oA w_EDGE, oI (1 : Int32)] X212 hx hby at_274 rfl rfl ?_
      refine own_aload_n 277 X212 hx hby at_276 rfl rfl rfl ?_
      refine own_iload_n 278 X212 hx hby at_277 rfl rfl ?_
      refine own_aaload 279 (.ref w_MAX) X212 hx hby hZ e212 V55 rfl at_278 rfl (by decide) rfl ?_
      refine own_aload 281 X212 hx hby at_279 rfl rfl rfl ?_
      refine own_virt (W := 0) 284 (rm1_1 l Z a0 hw [] w_V w_E w_OUT w_IN w_BOTH w_OUT_E w_IN_E w_BOTH_E w_OUT_V w_IN_V w_BOTH_V w_HAS w_HAS_LABEL w_HAS_NOT w_WHERE w_NOT w_AND w_OR w_ORDER w_VALUES w_ID w_LABEL w_COUNT w_SUM w_MEAN w_MIN w_MAX w_EDGE w_VERTEX W w_MAX w_EDGE h55 n0 O55 (W.2.2.2.2.2.2.2.2.2.2.2.2.2.2.2.2.2.2.2.2.2.2.2.2.2.2.2.2.2.2.2.2.2.2.2.2.2.2.2.2.2.2.2.2.2.2.2.2.2.2.2.2.2.2.2.2.2.2.2.2.2.2.2.2.2.2.2.2.2.2.2.2.2.2.2.2.2.2.2.1.ext O55.2)) X212 hx hby hZ hown (own_w hw 62 rfl) (own_w hw 63 rfl) (notFace_of_selects (args := #[]) (mvT hZ (own_w hw 65 rfl))) (own_w hw 65 rfl) (own_w hw 64 rfl) (own_w hw 3 rfl) (own_w hw 66 rfl) (by decide) (by rw [hml]; rfl) w_MAX [(.ref w_EDGE)] [] pd_0 rfl at_281 rfl e212 (W.2.2.2.2.2.2.2.2.2.2.2.2.2.2.2.2.2.2.2.2.2.2.2.2.2.2.2.2.2.2.2.2.2.2.2.2.2.2.2.2.2.2.2.2.2.2.2.2.2.2.2.2.2.1.ext O55.2) rfl rfl rfl (by decide) (by decide) (by decide) (by decide) ?_
      rintro _ T213 L213 X213 ⟨rfl, N213, e213⟩
      have N213 := Fr.app N55 N213
      show Go p e below _ (T213.setTop (mkF m 284 _ [(.int (1 : Int32))]))
      refine own_iload 286 X213 hx hby at_284 rfl rfl ?_
      refine own_icN 289 X213 hx hby at_286 rfl (by decide) ?_
      refine own_iconst 290 (1 : Int32) X213 hx hby at_289 rfl (by decide) ?_
      refine own_goto 294 X213 hx hby at_290 (by decide) (by decide) ?_
      exact own_ret (Q := own_Q1 n0) X213 hx hby hret hlk at_294 rfl (Or.inl ⟨rfl, by simp, _, rfl⟩) (by decide) (by decide) ⟨rfl, N213⟩
set_option maxRecDepth 65536 in
set_option maxHeartbeats 40000000 in
theorem comes_1 {Post : Tables → Env → Array Value → State → Outcome → State → Prop} (hpost : ∀ tb e args s v u, (limb_1_1.after args s (.returned v) u = true ∧ limb_1_2.after args s (.returned v) u = true) → FrameEnd s (.returned v) u (Jvm.fieldLocs frame_1_writes args s ++ Jvm.arrayLocs frame_1_arrays args s ++ Jvm.staticLocs frame_1_statics s) 16 128 → Post tb e args s (.returned v) u) :
    ArmFor flags0 classFile x code maxLocals ret World_1 tables_1 room_1 Calls_1 rest_1 Pre_1 Post := by
  intro l hfl _ _ p e ha hc hk s m args below hf hA hF happ hP
  obtain ⟨hcalls, hrest, hpre⟩ := hP
  obtain ⟨-, -, -, hnamed, -, -, -, hat⟩ := (Spec.applies_iff hf).mp happ
  obtain ⟨hg, hn⟩ := and_e (Cond.before_iff.mp (show (Jvm.Cond.and given_1 narrow_1).before args s = true from hpre))
  obtain ⟨ga0, gb0⟩ := and_e hg
  obtain ⟨ga1, ga2⟩ := and_e gb0
  obtain ⟨u0, u1, rfl⟩ : ∃ u0 u1 : Value, args = #[u0, u1] := by
    have hs : args.size = 2 := by simpa [Cond.value, given_1] using ga0
    obtain ⟨L⟩ := args
    match L, hs with
    | [u0, u1], _ => exact ⟨u0, u1, rfl⟩
  have hw := fun d (hd : d ∈ tables_1) => atoms_spec (ws := Jvm.Cond.code x code maxLocals ret :: tables_1) hat d (List.mem_cons_of_mem _ hd)
  have hfit : Fit s := fun {y c} hc i hi => by
    obtain ⟨ha, rfl⟩ := Array.getElem?_eq_some_iff.mp hc
    have q := List.all_eq_true.mp ((Array.all_eq_true_iff_forall_mem.mp hF) _ (Array.getElem_mem ha)) i (List.mem_range.mpr hi)
    simpa [Array.getElem?_eq_getElem hi] using q
  obtain ⟨i0, ei0⟩ := is_v ga1
  obtain rfl : u0 = (.int i0) := Option.some.inj ei0
  obtain ⟨i1, ei1⟩ := is_v ga2
  obtain rfl : u1 = (.int i1) := Option.some.inj ei1
  obtain ⟨na0, nb0⟩ := and_e hn
  obtain ⟨na1, nb1⟩ := and_e nb0
  obtain ⟨na2, nb2⟩ := and_e nb1
  obtain ⟨na3, nb3⟩ := and_e nb2
  obtain ⟨na4, nb4⟩ := and_e nb3
  obtain ⟨na5, nb5⟩ := and_e nb4
  obtain ⟨na6, nb6⟩ := and_e nb5
  obtain ⟨na7, nb7⟩ := and_e nb6
  obtain ⟨na8, nb8⟩ := and_e nb7
  obtain ⟨na9, nb9⟩ := and_e nb8
  obtain ⟨na10, nb10⟩ := and_e nb9
  obtain ⟨na11, nb11⟩ := and_e nb10
  obtain ⟨na12, nb12⟩ := and_e nb11
  obtain ⟨na13, nb13⟩ := and_e nb12
  obtain ⟨na14, nb14⟩ := and_e nb13
  obtain ⟨na15, nb15⟩ := and_e nb14
  obtain ⟨na16, nb16⟩ := and_e nb15
  obtain ⟨na17, nb17⟩ := and_e nb16
  obtain ⟨na18, nb18⟩ := and_e nb17
  obtain ⟨na19, nb19⟩ := and_e nb18
  obtain ⟨na20, nb20⟩ := and_e nb19
  obtain ⟨na21, nb21⟩ := and_e nb20
  obtain ⟨na22, nb22⟩ := and_e nb21
  obtain ⟨na23, nb23⟩ := and_e nb22
  obtain ⟨na24, nb24⟩ := and_e nb23
  obtain ⟨na25, nb25⟩ := and_e nb24
  obtain ⟨na26, nb26⟩ := and_e nb25
  obtain ⟨na27, nb27⟩ := and_e nb26
  obtain ⟨na28, nb28⟩ := and_e nb27
  obtain ⟨na29, nb29⟩ := and_e nb28
  obtain ⟨na30, nb30⟩ := and_e nb29
  obtain ⟨na31, nb31⟩ := and_e nb30
  obtain ⟨na32, nb32⟩ := and_e nb31
  obtain ⟨na33, nb33⟩ := and_e nb32
  obtain ⟨na34, nb34⟩ := and_e nb33
  obtain ⟨na35, nb35⟩ := and_e nb34
  obtain ⟨na36, nb36⟩ := and_e nb35
  obtain ⟨na37, nb37⟩ := and_e nb36
  obtain ⟨na38, nb38⟩ := and_e nb37
  obtain ⟨na39, nb39⟩ := and_e nb38
  obtain ⟨na40, nb40⟩ := and_e nb39
  obtain ⟨na41, nb41⟩ := and_e nb40
  obtain ⟨na42, nb42⟩ := and_e nb41
  obtain ⟨na43, nb43⟩ := and_e nb42
  obtain ⟨na44, nb44⟩ := and_e nb43
  obtain ⟨na45, nb45⟩ := and_e nb44
  obtain ⟨na46, nb46⟩ := and_e nb45
  obtain ⟨na47, nb47⟩ := and_e nb46
  obtain ⟨na48, nb48⟩ := and_e nb47
  obtain ⟨na49, nb49⟩ := and_e nb48
  obtain ⟨na50, nb50⟩ := and_e nb49
  obtain ⟨na51, nb51⟩ := and_e nb50
  obtain ⟨na52, nb52⟩ := and_e nb51
  obtain ⟨na53, nb53⟩ := and_e nb52
  obtain ⟨na54, nb54⟩ := and_e nb53
  obtain ⟨na55, nb55⟩ := and_e nb54
  obtain ⟨na56, na57⟩ := and_e nb55
  obtain ⟨w_V, v_w_V⟩ := exa_v na0
  have S_w_V := Sta.start v_w_V (Or.inr ⟨(own_w hw 3 rfl), (own_w hw 4 rfl)⟩)
  have E_w_V := Exa.start v_w_V na0
  obtain ⟨w_E, v_w_E⟩ := exa_v na1
  have S_w_E := Sta.start v_w_E (Or.inr ⟨(own_w hw 3 rfl), (own_w hw 7 rfl)⟩)
  have E_w_E := Exa.start v_w_E na1
  obtain ⟨w_OUT, v_w_OUT⟩ := exa_v na2
  have S_w_OUT := Sta.start v_w_OUT (Or.inr ⟨(own_w hw 3 rfl), (own_w hw 9 rfl)⟩)
  have E_w_OUT := Exa.start v_w_OUT na2
  obtain ⟨w_IN, v_w_IN⟩ := exa_v na3
  have S_w_IN := Sta.start v_w_IN (Or.inr ⟨(own_w hw 3 rfl), (own_w hw 11 rfl)⟩)
  have E_w_IN := Exa.start v_w_IN na3
  obtain ⟨w_BOTH, v_w_BOTH⟩ := exa_v na4
  have S_w_BOTH := Sta.start v_w_BOTH (Or.inr ⟨(own_w hw 3 rfl), (own_w hw 13 rfl)⟩)
  have E_w_BOTH := Exa.start v_w_BOTH na4
  obtain ⟨w_OUT_E, v_w_OUT_E⟩ := exa_v na5
  have S_w_OUT_E := Sta.start v_w_OUT_E (Or.inr ⟨(own_w hw 3 rfl), (own_w hw 15 rfl)⟩)
  have E_w_OUT_E := Exa.start v_w_OUT_E na5
  obtain ⟨w_IN_E, v_w_IN_E⟩ := exa_v na6
  have S_w_IN_E := Sta.start v_w_IN_E (Or.inr ⟨(own_w hw 3 rfl), (own_w hw 17 rfl)⟩)
  have E_w_IN_E := Exa.start v_w_IN_E na6
  obtain ⟨w_BOTH_E, v_w_BOTH_E⟩ := exa_v na7
  have S_w_BOTH_E := Sta.start v_w_BOTH_E (Or.inr ⟨(own_w hw 3 rfl), (own_w hw 19 rfl)⟩)
  have E_w_BOTH_E := Exa.start v_w_BOTH_E na7
  obtain ⟨w_OUT_V, v_w_OUT_V⟩ := exa_v na8
  have S_w_OUT_V := Sta.start v_w_OUT_V (Or.inr ⟨(own_w hw 3 rfl), (own_w hw 21 rfl)⟩)
  have E_w_OUT_V := Exa.start v_w_OUT_V na8
  obtain ⟨w_IN_V, v_w_IN_V⟩ := exa_v na9
  have S_w_IN_V := Sta.start v_w_IN_V (Or.inr ⟨(own_w hw 3 rfl), (own_w hw 23 rfl)⟩)
  have E_w_IN_V := Exa.start v_w_IN_V na9
  obtain ⟨w_BOTH_V, v_w_BOTH_V⟩ := exa_v na10
  have S_w_BOTH_V := Sta.start v_w_BOTH_V (Or.inr ⟨(own_w hw 3 rfl), (own_w hw 25 rfl)⟩)
  have E_w_BOTH_V := Exa.start v_w_BOTH_V na10
  obtain ⟨w_HAS, v_w_HAS⟩ := exa_v na11
  have S_w_HAS := Sta.start v_w_HAS (Or.inr ⟨(own_w hw 3 rfl), (own_w hw 27 rfl)⟩)
  have E_w_HAS := Exa.start v_w_HAS na11
  obtain ⟨w_HAS_LABEL, v_w_HAS_LABEL⟩ := exa_v na12
  have S_w_HAS_LABEL := Sta.start v_w_HAS_LABEL (Or.inr ⟨(own_w hw 3 rfl), (own_w hw 29 rfl)⟩)
  have E_w_HAS_LABEL := Exa.start v_w_HAS_LABEL na12
  obtain ⟨w_HAS_NOT, v_w_HAS_NOT⟩ := exa_v na13
  have S_w_HAS_NOT := Sta.start v_w_HAS_NOT (Or.inr ⟨(own_w hw 3 rfl), (own_w hw 31 rfl)⟩)
  have E_w_HAS_NOT := Exa.start v_w_HAS_NOT na13
  obtain ⟨w_WHERE, v_w_WHERE⟩ := exa_v na14
  have S_w_WHERE := Sta.start v_w_WHERE (Or.inr ⟨(own_w hw 3 rfl), (own_w hw 33 rfl)⟩)
  have E_w_WHERE := Exa.start v_w_WHERE na14
  obtain ⟨w_NOT, v_w_NOT⟩ := exa_v na15
  have S_w_NOT := Sta.start v_w_NOT (Or.inr ⟨(own_w hw 3 rfl), (own_w hw 35 rfl)⟩)
  have E_w_NOT := Exa.start v_w_NOT na15
  obtain ⟨w_AND, v_w_AND⟩ := exa_v na16
  have S_w_AND := Sta.start v_w_AND (Or.inr ⟨(own_w hw 3 rfl), (own_w hw 37 rfl)⟩)
  have E_w_AND := Exa.start v_w_AND na16
  obtain ⟨w_OR, v_w_OR⟩ := exa_v na17
  have S_w_OR := Sta.start v_w_OR (Or.inr ⟨(own_w hw 3 rfl), (own_w hw 39 rfl)⟩)
  have E_w_OR := Exa.start v_w_OR na17
  obtain ⟨w_ORDER, v_w_ORDER⟩ := exa_v na18
  have S_w_ORDER := Sta.start v_w_ORDER (Or.inr ⟨(own_w hw 3 rfl), (own_w hw 41 rfl)⟩)
  have E_w_ORDER := Exa.start v_w_ORDER na18
  obtain ⟨w_VALUES, v_w_VALUES⟩ := exa_v na19
  have S_w_VALUES := Sta.start v_w_VALUES (Or.inr ⟨(own_w hw 3 rfl), (own_w hw 43 rfl)⟩)
  have E_w_VALUES := Exa.start v_w_VALUES na19
  obtain ⟨w_ID, v_w_ID⟩ := exa_v na20
  have S_w_ID := Sta.start v_w_ID (Or.inr ⟨(own_w hw 3 rfl), (own_w hw 45 rfl)⟩)
  have E_w_ID := Exa.start v_w_ID na20
  obtain ⟨w_LABEL, v_w_LABEL⟩ := exa_v na21
  have S_w_LABEL := Sta.start v_w_LABEL (Or.inr ⟨(own_w hw 3 rfl), (own_w hw 47 rfl)⟩)
  have E_w_LABEL := Exa.start v_w_LABEL na21
  obtain ⟨w_COUNT, v_w_COUNT⟩ := exa_v na22
  have S_w_COUNT := Sta.start v_w_COUNT (Or.inr ⟨(own_w hw 3 rfl), (own_w hw 49 rfl)⟩)
  have E_w_COUNT := Exa.start v_w_COUNT na22
  obtain ⟨w_SUM, v_w_SUM⟩ := exa_v na23
  have S_w_SUM := Sta.start v_w_SUM (Or.inr ⟨(own_w hw 3 rfl), (own_w hw 51 rfl)⟩)
  have E_w_SUM := Exa.start v_w_SUM na23
  obtain ⟨w_MEAN, v_w_MEAN⟩ := exa_v na24
  have S_w_MEAN := Sta.start v_w_MEAN (Or.inr ⟨(own_w hw 3 rfl), (own_w hw 53 rfl)⟩)
  have E_w_MEAN := Exa.start v_w_MEAN na24
  obtain ⟨w_MIN, v_w_MIN⟩ := exa_v na25
  have S_w_MIN := Sta.start v_w_MIN (Or.inr ⟨(own_w hw 3 rfl), (own_w hw 55 rfl)⟩)
  have E_w_MIN := Exa.start v_w_MIN na25
  obtain ⟨w_MAX, v_w_MAX⟩ := exa_v na26
  have S_w_MAX := Sta.start v_w_MAX (Or.inr ⟨(own_w hw 3 rfl), (own_w hw 57 rfl)⟩)
  have E_w_MAX := Exa.start v_w_MAX na26
  obtain ⟨w_EDGE, v_w_EDGE⟩ := exa_v na27
  have S_w_EDGE := Sta.start v_w_EDGE (Or.inr ⟨(own_w hw 60 rfl), (own_w hw 61 rfl)⟩)
  have E_w_EDGE := Exa.start v_w_EDGE na27
  obtain ⟨w_VERTEX, v_w_VERTEX⟩ := exa_v na30
  have S_w_VERTEX := Sta.start v_w_VERTEX (Or.inr ⟨(own_w hw 60 rfl), (own_w hw 70 rfl)⟩)
  have E_w_VERTEX := Exa.start v_w_VERTEX na30
  have F_ordinal_w_EDGE := own_fld na38 v_w_EDGE
  have F_ordinal_w_VERTEX := own_fld na39 v_w_VERTEX
  have F_from_w_V := own_fldN na28 v_w_V
  have F_from_w_WHERE := own_fldN na29 v_w_WHERE
  have F_from_w_HAS_NOT := own_fldN na32 v_w_HAS_NOT
  have F_from_w_VALUES := own_fldN na33 v_w_VALUES
  have F_from_w_HAS_LABEL := own_fldN na36 v_w_HAS_LABEL
  have F_from_w_HAS := own_fldN na37 v_w_HAS
  have F_from_w_MEAN := own_fldN na41 v_w_MEAN
  have F_from_w_ORDER := own_fldN na42 v_w_ORDER
  have F_from_w_E := own_fldN na44 v_w_E
  have F_from_w_NOT := own_fldN na45 v_w_NOT
  have F_from_w_COUNT := own_fldN na47 v_w_COUNT
  have F_from_w_MIN := own_fldN na49 v_w_MIN
  have F_from_w_MAX := own_fldN na50 v_w_MAX
  have F_from_w_OR := own_fldN na53 v_w_OR
  have F_from_w_LABEL := own_fldN na54 v_w_LABEL
  have F_from_w_ID := own_fldN na55 v_w_ID
  have F_from_w_AND := own_fldN na56 v_w_AND
  have F_from_w_SUM := own_fldN na57 v_w_SUM
  have F_from_w_OUT_E := own_fldR na31 v_w_OUT_E v_w_VERTEX
  have F_from_w_IN_E := own_fldR na34 v_w_IN_E v_w_VERTEX
  have F_from_w_OUT_V := own_fldR na35 v_w_OUT_V v_w_EDGE
  have F_from_w_IN := own_fldR na40 v_w_IN v_w_VERTEX
  have F_from_w_BOTH_V := own_fldR na43 v_w_BOTH_V v_w_EDGE
  have F_from_w_OUT := own_fldR na46 v_w_OUT v_w_VERTEX
  have F_from_w_BOTH_E := own_fldR na48 v_w_BOTH_E v_w_VERTEX
  have F_from_w_IN_V := own_fldR na51 v_w_IN_V v_w_EDGE
  have F_from_w_BOTH := own_fldR na52 v_w_BOTH v_w_VERTEX
  obtain ⟨n, o, h1, h2, h3, _, L, rfl, ⟨rfl, N⟩, hq⟩ := rm0 l s _ hw tables_1 w_V w_E w_OUT w_IN w_BOTH w_OUT_E w_IN_E w_BOTH_E w_OUT_V w_IN_V w_BOTH_V w_HAS w_HAS_LABEL w_HAS_NOT w_WHERE w_NOT w_AND w_OR w_ORDER w_VALUES w_ID w_LABEL w_COUNT w_SUM w_MEAN w_MIN w_MAX w_EDGE w_VERTEX ⟨S_w_V, E_w_V, S_w_E, E_w_E, S_w_OUT, E_w_OUT, S_w_IN, E_w_IN, S_w_BOTH, E_w_BOTH, S_w_OUT_E, E_w_OUT_E, S_w_IN_E, E_w_IN_E, S_w_BOTH_E, E_w_BOTH_E, S_w_OUT_V, E_w_OUT_V, S_w_IN_V, E_w_IN_V, S_w_BOTH_V, E_w_BOTH_V, S_w_HAS, E_w_HAS, S_w_HAS_LABEL, E_w_HAS_LABEL, S_w_HAS_NOT, E_w_HAS_NOT, S_w_WHERE, E_w_WHERE, S_w_NOT, E_w_NOT, S_w_AND, E_w_AND, S_w_OR, E_w_OR, S_w_ORDER, E_w_ORDER, S_w_VALUES, E_w_VALUES, S_w_ID, E_w_ID, S_w_LABEL, E_w_LABEL, S_w_COUNT, E_w_COUNT, S_w_SUM, E_w_SUM, S_w_MEAN, E_w_MEAN, S_w_MIN, E_w_MIN, S_w_MAX, E_w_MAX, S_w_EDGE, E_w_EDGE, S_w_VERTEX, E_w_VERTEX, F_from_w_V, F_from_w_WHERE, F_from_w_OUT_E, F_from_w_HAS_NOT, F_from_w_VALUES, F_from_w_IN_E, F_from_w_OUT_V, F_from_w_HAS_LABEL, F_from_w_HAS, F_ordinal_w_EDGE, F_ordinal_w_VERTEX, F_from_w_IN, F_from_w_MEAN, F_from_w_ORDER, F_from_w_BOTH_V, F_from_w_E, F_from_w_NOT, F_from_w_OUT, F_from_w_COUNT, F_from_w_BOTH_E, F_from_w_MIN, F_from_w_MAX, F_from_w_IN_V, F_from_w_BOTH, F_from_w_OR, F_from_w_LABEL, F_from_w_ID, F_from_w_AND, F_from_w_SUM⟩ i0 i1 s.heap s.heap.size (Old.start s) p e ha hc hk s m _ below hf ((Spec.applies_iff_loose hf).mp happ).1 ⟨rfl, State.Warmed39.refl s, rfl⟩ trivial
  refine ⟨n, _, h1, h2, h3, hpost _ _ _ _ _ _ ⟨Cond.after_iff.mpr rfl, Cond.after_iff.mpr (eq_i res_at (Term.int_eval (1)) rfl)⟩ ⟨hq.1, hq.2.1, (hq.2.2.sift fun y hy => Or.inr (N y hy)).mono (by decide) (by decide)⟩⟩
theorem main_1_1 : Claimed_1_1 := comes_1 fun _ _ _ _ _ _ h hF => ⟨h.1, hF⟩
theorem main_1_2 : Claimed_1_2 := comes_1 fun _ _ _ _ _ _ h hF => ⟨h.2, hF⟩
end Jvm.Pilot.@@N@@
namespace Jvm.Pilot.@@N@@
open Jvm Jvm.ClassFile Sem Op Lib Jvm.Free Jvm.Stand Jvm.Pilot.@@N@@.Jvm.D
/-! MADE BY PROGRAM (witnessworld.py) out of the Statement's table words and the real class files: 14 classes; the members and pool entries that the words name. The judged class is class 1, her method 1. -/
namespace start1
open Jvm.ClassFile
def u (s : String) : CpInfo := .utf8 (stringToUtf16 s)
/-- a pool by its gaps: so many unusable entries, then the entry; so many at the end -/
def gap : Nat → List CpInfo → List CpInfo
  | 0, r => r
  | n + 1, r => .unusable :: gap n r
def poolList (es : List (Nat × CpInfo)) (last : Nat) : List CpInfo := es.foldr (fun e r => gap e.1 (e.2 :: r)) (gap last [])
def pool (es : List (Nat × CpInfo)) (last : Nat) : Array CpInfo := ⟨poolList es last⟩
def fileOf (pool : Array CpInfo) (this : Nat) (attrs : Array Attribute := #[]) (ms : Array MethodInfo := #[]) (fl : Nat := 33) (sup : Nat := 0) (ifs : Array Nat := #[]) (fds : Array FieldInfo := #[]) : ClassFile where
  minorVersion := 0
  majorVersion := 65
  constantPool := pool
  accessFlags := fl
  thisClass := this
  superClass := sup
  interfaces := ifs
  fields := fds
  methods := ms
  attributes := attrs
def plain (name : String) (sup : Option ClassId) : Class where
  name := name
  kind := .ordinary
  loader := none
  accessFlags := 33
  super := sup
  interfaces := #[]
  cf := none
  fields := #[]
  methods := #[]
  instanceTypes := #[]
  staticTypes := #[]
  resolved := #[]
  callSites := []
  init := .initialized
  statics := none
  mirror := none

def pool0 : Array CpInfo := pool [(5, u "<init>"), (0, u "()V"), (1, .class_ 10), (1, u "java/lang/Object")] 113

def k0m0 : Method := { name := "<init>", desc := "()V", sig := { parameters := [], returnType := none }, accessFlags := 1, code := none }
/-- java/lang/Object -/
def k0 : Class := { plain "java/lang/Object" none with
  accessFlags := 33
  interfaces := #[]
  cf := some (fileOf pool0 8 #[] #[{ accessFlags := 1, nameIndex := 5, descriptorIndex := 6, attributes := #[] }] 33 0 #[] #[])
  fields := #[]
  methods := #[k0m0]
  instanceTypes := #[]
  staticTypes := #[]
  resolved := Array.replicate 124 none
  statics := none }

def pool1 : Array CpInfo := pool [(2, .class_ 4), (1, u "java/lang/Object"), (0, u "<init>"), (0, u "()V"), (0, .class_ 8), (0, u "com/example/edgeprobe/edgeprobe/gremlin/GremlinStep"), (0, .fieldref 7 10), (0, .nameAndType 11 12), (0, u "V"), (0, u "Lcom/example/edgeprobe/edgeprobe/gremlin/GremlinStep;"), (0, .fieldref 7 14), (0, .nameAndType 15 12), (0, u "E"), (0, .fieldref 7 17), (0, .nameAndType 18 12), (0, u "OUT"), (0, .fieldref 7 20), (0, .nameAndType 21 12), (0, u "IN"), (0, .fieldref 7 23), (0, .nameAndType 24 12), (0, u "BOTH"), (0, .fieldref 7 26), (0, .nameAndType 27 12), (0, u "OUT_E"), (0, .fieldref 7 29), (0, .nameAndType 30 12), (0, u "IN_E"), (0, .fieldref 7 32), (0, .nameAndType 33 12), (0, u "BOTH_E"), (0, .fieldref 7 35), (0, .nameAndType 36 12), (0, u "OUT_V"), (0, .fieldref 7 38), (0, .nameAndType 39 12), (0, u "IN_V"), (0, .fieldref 7 41), (0, .nameAndType 42 12), (0, u "BOTH_V"), (0, .fieldref 7 44), (0, .nameAndType 45 12), (0, u "HAS"), (0, .fieldref 7 47), (0, .nameAndType 48 12), (0, u "HAS_LABEL"), (0, .fieldref 7 50), (0, .nameAndType 51 12), (0, u "HAS_NOT"), (0, .fieldref 7 53), (0, .nameAndType 54 12), (0, u "WHERE"), (0, .fieldref 7 56), (0, .nameAndType 57 12), (0, u "NOT"), (0, .fieldref 7 59), (0, .nameAndType 60 12), (0, u "AND"), (0, .fieldref 7 62), (0, .nameAndType 63 12), (0, u "OR"), (0, .fieldref 7 65), (0, .nameAndType 66 12), (0, u "ORDER"), (0, .fieldref 7 68), (0, .nameAndType 69 12), (0, u "VALUES"), (0, .fieldref 7 71), (0, .nameAndType 72 12), (0, u "ID"), (0, .fieldref 7 74), (0, .nameAndType 75 12), (0, u "LABEL"), (0, .fieldref 7 77), (0, .nameAndType 78 12), (0, u "COUNT"), (0, .fieldref 7 80), (0, .nameAndType 81 12), (0, u "SUM"), (0, .fieldref 7 83), (0, .nameAndType 84 12), (0, u "MEAN"), (0, .fieldref 7 86), (0, .nameAndType 87 12), (0, u "MIN"), (0, .fieldref 7 89), (0, .nameAndType 90 12), (0, u "MAX"), (0, .integer 2147483647), (0, .fieldref 93 94), (0, .class_ 95), (0, .nameAndType 96 97), (0, u "com/example/edgeprobe/edgeprobe/engine/EngineValues$Kind"), (0, u "VERTEX"), (0, u "Lcom/example/edgeprobe/edgeprobe/engine/EngineValues$Kind;"), (0, .fieldref 93 99), (0, .nameAndType 100 97), (0, u "EDGE"), (0, .methodref 7 102), (0, .nameAndType 103 104), (0, u "takes"), (0, u "(Lcom/example/edgeprobe/edgeprobe/engine/EngineValues$Kind;)Z"), (0, .class_ 106), (0, u "com/example/edgeprobe/edgeprobe/gremlin/GremlinStepTakesPinLaw"), (2, u "law"), (0, u "(II)Z")] 9

def k1m0 : Method := { name := "<init>", desc := "()V", sig := { parameters := [], returnType := none }, accessFlags := 1, code := none }
def k1c1 : Code := { maxStack := 4, maxLocals := 6, code := code, exceptionTable := #[], attributes := #[] }
def k1m1 : Method := { name := "law", desc := "(II)Z", sig := { parameters := [.int, .int], returnType := some .boolean }, accessFlags := 9, code := some k1c1 }
/-- com/example/edgeprobe/edgeprobe/gremlin/GremlinStepTakesPinLaw -/
def k1 : Class := { plain "com/example/edgeprobe/edgeprobe/gremlin/GremlinStepTakesPinLaw" (some 0) with
  accessFlags := 49
  interfaces := #[]
  cf := some (fileOf pool1 105 #[] #[{ accessFlags := 1, nameIndex := 5, descriptorIndex := 6, attributes := #[] }, { accessFlags := 9, nameIndex := 109, descriptorIndex := 110, attributes := #[] }] 49 2 #[] #[])
  fields := #[]
  methods := #[k1m0, k1m1]
  instanceTypes := #[]
  staticTypes := #[]
  resolved := Array.replicate 120 none
  statics := none }

def pool2 : Array CpInfo := pool [(1, .class_ 2), (0, u "java/lang/constant/Constable"), (0, .class_ 4), (0, u "java/lang/Object")] 6

/-- java/lang/constant/Constable -/
def k2 : Class := { plain "java/lang/constant/Constable" (some 0) with
  accessFlags := 1537
  interfaces := #[]
  cf := some (fileOf pool2 1 #[] #[] 1537 3 #[] #[])
  fields := #[]
  methods := #[]
  instanceTypes := #[]
  staticTypes := #[]
  resolved := Array.replicate 11 none
  statics := none }

def pool3 : Array CpInfo := pool [(1, .class_ 2), (0, u "java/lang/Comparable"), (0, .class_ 4), (0, u "java/lang/Object")] 7

/-- java/lang/Comparable -/
def k3 : Class := { plain "java/lang/Comparable" (some 0) with
  accessFlags := 1537
  interfaces := #[]
  cf := some (fileOf pool3 1 #[] #[] 1537 3 #[] #[])
  fields := #[]
  methods := #[]
  instanceTypes := #[]
  staticTypes := #[]
  resolved := Array.replicate 12 none
  statics := none }

def pool4 : Array CpInfo := pool [(1, .class_ 2), (0, u "java/io/Serializable"), (0, .class_ 4), (0, u "java/lang/Object")] 2

/-- java/io/Serializable -/
def k4 : Class := { plain "java/io/Serializable" (some 0) with
  accessFlags := 1537
  interfaces := #[]
  cf := some (fileOf pool4 1 #[] #[] 1537 3 #[] #[])
  fields := #[]
  methods := #[]
  instanceTypes := #[]
  staticTypes := #[]
  resolved := Array.replicate 7 none
  statics := none }

def pool5 : Array CpInfo := pool [(2, .class_ 4), (1, u "java/lang/Enum"), (0, u "name"), (0, u "Ljava/lang/String;"), (2, u "ordinal"), (0, u "I"), (1, .class_ 14), (1, u "java/lang/Object"), (4, u "hash"), (86, .class_ 108), (1, u "java/lang/Enum$EnumDesc"), (2, .class_ 112), (0, u "java/lang/constant/Constable"), (0, .class_ 114), (0, u "java/lang/Comparable"), (0, .class_ 116), (0, u "java/io/Serializable")] 87

/-- java/lang/Enum -/
def k5 : Class := { plain "java/lang/Enum" (some 0) with
  accessFlags := 1057
  interfaces := #[2, 3, 4]
  cf := some (fileOf pool5 2 #[.nestMembers #[106]] #[] 1057 12 #[111, 113, 115] #[{ accessFlags := 18, nameIndex := 5, descriptorIndex := 6, attributes := #[] }, { accessFlags := 18, nameIndex := 9, descriptorIndex := 10, attributes := #[] }, { accessFlags := 2, nameIndex := 19, descriptorIndex := 10, attributes := #[] }])
  fields := #[{ name := "name", type := (.object "java/lang/String"), accessFlags := 18, slot := 0, constantValue := 0 }, { name := "ordinal", type := .int, accessFlags := 18, slot := 1, constantValue := 0 }, { name := "hash", type := .int, accessFlags := 2, slot := 2, constantValue := 0 }]
  methods := #[]
  instanceTypes := #[(.object "java/lang/String"), .int, .int]
  staticTypes := #[]
  resolved := Array.replicate 204 none
  statics := none }

def pool6 : Array CpInfo := pool [(1, .class_ 2), (0, u "com/example/edgeprobe/edgeprobe/gremlin/GremlinStep"), (2, u "V"), (0, u "Lcom/example/edgeprobe/edgeprobe/gremlin/GremlinStep;"), (2, u "E"), (2, u "OUT"), (2, u "IN"), (2, u "BOTH"), (2, u "OUT_E"), (2, u "IN_E"), (2, u "BOTH_E"), (2, u "OUT_V"), (2, u "IN_V"), (2, u "BOTH_V"), (2, u "HAS"), (2, u "HAS_LABEL"), (2, u "HAS_NOT"), (2, u "WHERE"), (2, u "NOT"), (2, u "AND"), (2, u "OR"), (2, u "ORDER"), (2, u "VALUES"), (2, u "ID"), (2, u "LABEL"), (2, u "COUNT"), (2, u "SUM"), (2, u "MEAN"), (2, u "MIN"), (2, u "MAX"), (2, u "$VALUES"), (0, u "[Lcom/example/edgeprobe/edgeprobe/gremlin/GremlinStep;"), (6, .class_ 97), (1, u "java/lang/Enum"), (8, u "gremlinName"), (0, u "Ljava/lang/String;"), (2, u "role"), (0, u "Lcom/example/edgeprobe/edgeprobe/gremlin/GremlinStep$Role;"), (0, .fieldref 1 113), (0, .nameAndType 114 115), (0, u "from"), (0, u "Lcom/example/edgeprobe/edgeprobe/engine/EngineValues$Kind;"), (2, u "to"), (1, .class_ 122), (1, u "com/example/edgeprobe/edgeprobe/gremlin/GremlinStep$Role"), (136, u "takes"), (0, u "(Lcom/example/edgeprobe/edgeprobe/engine/EngineValues$Kind;)Z")] 29

def k6c0 : Code := { maxStack := 2, maxLocals := 2, code := prog_115_method_6_code, exceptionTable := #[], attributes := #[] }
def k6m0 : Method := { name := "takes", desc := "(Lcom/example/edgeprobe/edgeprobe/engine/EngineValues$Kind;)Z", sig := { parameters := [(.object "com/example/edgeprobe/edgeprobe/engine/EngineValues$Kind")], returnType := some .boolean }, accessFlags := 1, code := some k6c0 }
/-- com/example/edgeprobe/edgeprobe/gremlin/GremlinStep -/
def k6 : Class := { plain "com/example/edgeprobe/edgeprobe/gremlin/GremlinStep" (some 5) with
  accessFlags := 16433
  interfaces := #[]
  cf := some (fileOf pool6 1 #[.nestMembers #[120]] #[{ accessFlags := 1, nameIndex := 259, descriptorIndex := 260, attributes := #[] }] 16433 95 #[] #[{ accessFlags := 16409, nameIndex := 5, descriptorIndex := 6, attributes := #[] }, { accessFlags := 16409, nameIndex := 9, descriptorIndex := 6, attributes := #[] }, { accessFlags := 16409, nameIndex := 12, descriptorIndex := 6, attributes := #[] }, { accessFlags := 16409, nameIndex := 15, descriptorIndex := 6, attributes := #[] }, { accessFlags := 16409, nameIndex := 18, descriptorIndex := 6, attributes := #[] }, { accessFlags := 16409, nameIndex := 21, descriptorIndex := 6, attributes := #[] }, { accessFlags := 16409, nameIndex := 24, descriptorIndex := 6, attributes := #[] }, { accessFlags := 16409, nameIndex := 27, descriptorIndex := 6, attributes := #[] }, { accessFlags := 16409, nameIndex := 30, descriptorIndex := 6, attributes := #[] }, { accessFlags := 16409, nameIndex := 33, descriptorIndex := 6, attributes := #[] }, { accessFlags := 16409, nameIndex := 36, descriptorIndex := 6, attributes := #[] }, { accessFlags := 16409, nameIndex := 39, descriptorIndex := 6, attributes := #[] }, { accessFlags := 16409, nameIndex := 42, descriptorIndex := 6, attributes := #[] }, { accessFlags := 16409, nameIndex := 45, descriptorIndex := 6, attributes := #[] }, { accessFlags := 16409, nameIndex := 48, descriptorIndex := 6, attributes := #[] }, { accessFlags := 16409, nameIndex := 51, descriptorIndex := 6, attributes := #[] }, { accessFlags := 16409, nameIndex := 54, descriptorIndex := 6, attributes := #[] }, { accessFlags := 16409, nameIndex := 57, descriptorIndex := 6, attributes := #[] }, { accessFlags := 16409, nameIndex := 60, descriptorIndex := 6, attributes := #[] }, { accessFlags := 16409, nameIndex := 63, descriptorIndex := 6, attributes := #[] }, { accessFlags := 16409, nameIndex := 66, descriptorIndex := 6, attributes := #[] }, { accessFlags := 16409, nameIndex := 69, descriptorIndex := 6, attributes := #[] }, { accessFlags := 16409, nameIndex := 72, descriptorIndex := 6, attributes := #[] }, { accessFlags := 16409, nameIndex := 75, descriptorIndex := 6, attributes := #[] }, { accessFlags := 16409, nameIndex := 78, descriptorIndex := 6, attributes := #[] }, { accessFlags := 16409, nameIndex := 81, descriptorIndex := 6, attributes := #[] }, { accessFlags := 16409, nameIndex := 84, descriptorIndex := 6, attributes := #[] }, { accessFlags := 18, nameIndex := 106, descriptorIndex := 107, attributes := #[] }, { accessFlags := 18, nameIndex := 110, descriptorIndex := 111, attributes := #[] }, { accessFlags := 18, nameIndex := 114, descriptorIndex := 115, attributes := #[] }, { accessFlags := 18, nameIndex := 118, descriptorIndex := 115, attributes := #[] }, { accessFlags := 4122, nameIndex := 87, descriptorIndex := 88, attributes := #[] }])
  fields := #[{ name := "V", type := (.object "com/example/edgeprobe/edgeprobe/gremlin/GremlinStep"), accessFlags := 16409, slot := 0, constantValue := 0 }, { name := "E", type := (.object "com/example/edgeprobe/edgeprobe/gremlin/GremlinStep"), accessFlags := 16409, slot := 1, constantValue := 0 }, { name := "OUT", type := (.object "com/example/edgeprobe/edgeprobe/gremlin/GremlinStep"), accessFlags := 16409, slot := 2, constantValue := 0 }, { name := "IN", type := (.object "com/example/edgeprobe/edgeprobe/gremlin/GremlinStep"), accessFlags := 16409, slot := 3, constantValue := 0 }, { name := "BOTH", type := (.object "com/example/edgeprobe/edgeprobe/gremlin/GremlinStep"), accessFlags := 16409, slot := 4, constantValue := 0 }, { name := "OUT_E", type := (.object "com/example/edgeprobe/edgeprobe/gremlin/GremlinStep"), accessFlags := 16409, slot := 5, constantValue := 0 }, { name := "IN_E", type := (.object "com/example/edgeprobe/edgeprobe/gremlin/GremlinStep"), accessFlags := 16409, slot := 6, constantValue := 0 }, { name := "BOTH_E", type := (.object "com/example/edgeprobe/edgeprobe/gremlin/GremlinStep"), accessFlags := 16409, slot := 7, constantValue := 0 }, { name := "OUT_V", type := (.object "com/example/edgeprobe/edgeprobe/gremlin/GremlinStep"), accessFlags := 16409, slot := 8, constantValue := 0 }, { name := "IN_V", type := (.object "com/example/edgeprobe/edgeprobe/gremlin/GremlinStep"), accessFlags := 16409, slot := 9, constantValue := 0 }, { name := "BOTH_V", type := (.object "com/example/edgeprobe/edgeprobe/gremlin/GremlinStep"), accessFlags := 16409, slot := 10, constantValue := 0 }, { name := "HAS", type := (.object "com/example/edgeprobe/edgeprobe/gremlin/GremlinStep"), accessFlags := 16409, slot := 11, constantValue := 0 }, { name := "HAS_LABEL", type := (.object "com/example/edgeprobe/edgeprobe/gremlin/GremlinStep"), accessFlags := 16409, slot := 12, constantValue := 0 }, { name := "HAS_NOT", type := (.object "com/example/edgeprobe/edgeprobe/gremlin/GremlinStep"), accessFlags := 16409, slot := 13, constantValue := 0 }, { name := "WHERE", type := (.object "com/example/edgeprobe/edgeprobe/gremlin/GremlinStep"), accessFlags := 16409, slot := 14, constantValue := 0 }, { name := "NOT", type := (.object "com/example/edgeprobe/edgeprobe/gremlin/GremlinStep"), accessFlags := 16409, slot := 15, constantValue := 0 }, { name := "AND", type := (.object "com/example/edgeprobe/edgeprobe/gremlin/GremlinStep"), accessFlags := 16409, slot := 16, constantValue := 0 }, { name := "OR", type := (.object "com/example/edgeprobe/edgeprobe/gremlin/GremlinStep"), accessFlags := 16409, slot := 17, constantValue := 0 }, { name := "ORDER", type := (.object "com/example/edgeprobe/edgeprobe/gremlin/GremlinStep"), accessFlags := 16409, slot := 18, constantValue := 0 }, { name := "VALUES", type := (.object "com/example/edgeprobe/edgeprobe/gremlin/GremlinStep"), accessFlags := 16409, slot := 19, constantValue := 0 }, { name := "ID", type := (.object "com/example/edgeprobe/edgeprobe/gremlin/GremlinStep"), accessFlags := 16409, slot := 20, constantValue := 0 }, { name := "LABEL", type := (.object "com/example/edgeprobe/edgeprobe/gremlin/GremlinStep"), accessFlags := 16409, slot := 21, constantValue := 0 }, { name := "COUNT", type := (.object "com/example/edgeprobe/edgeprobe/gremlin/GremlinStep"), accessFlags := 16409, slot := 22, constantValue := 0 }, { name := "SUM", type := (.object "com/example/edgeprobe/edgeprobe/gremlin/GremlinStep"), accessFlags := 16409, slot := 23, constantValue := 0 }, { name := "MEAN", type := (.object "com/example/edgeprobe/edgeprobe/gremlin/GremlinStep"), accessFlags := 16409, slot := 24, constantValue := 0 }, { name := "MIN", type := (.object "com/example/edgeprobe/edgeprobe/gremlin/GremlinStep"), accessFlags := 16409, slot := 25, constantValue := 0 }, { name := "MAX", type := (.object "com/example/edgeprobe/edgeprobe/gremlin/GremlinStep"), accessFlags := 16409, slot := 26, constantValue := 0 }, { name := "gremlinName", type := (.object "java/lang/String"), accessFlags := 18, slot := 3, constantValue := 0 }, { name := "role", type := (.object "com/example/edgeprobe/edgeprobe/gremlin/GremlinStep$Role"), accessFlags := 18, slot := 4, constantValue := 0 }, { name := "from", type := (.object "com/example/edgeprobe/edgeprobe/engine/EngineValues$Kind"), accessFlags := 18, slot := 5, constantValue := 0 }, { name := "to", type := (.object "com/example/edgeprobe/edgeprobe/engine/EngineValues$Kind"), accessFlags := 18, slot := 6, constantValue := 0 }, { name := "$VALUES", type := (.array (.object "com/example/edgeprobe/edgeprobe/gremlin/GremlinStep")), accessFlags := 4122, slot := 27, constantValue := 0 }]
  methods := #[k6m0]
  instanceTypes := #[(.object "java/lang/String"), .int, .int, (.object "java/lang/String"), (.object "com/example/edgeprobe/edgeprobe/gremlin/GremlinStep$Role"), (.object "com/example/edgeprobe/edgeprobe/engine/EngineValues$Kind"), (.object "com/example/edgeprobe/edgeprobe/engine/EngineValues$Kind")]
  staticTypes := #[(.object "com/example/edgeprobe/edgeprobe/gremlin/GremlinStep"), (.object "com/example/edgeprobe/edgeprobe/gremlin/GremlinStep"), (.object "com/example/edgeprobe/edgeprobe/gremlin/GremlinStep"), (.object "com/example/edgeprobe/edgeprobe/gremlin/GremlinStep"), (.object "com/example/edgeprobe/edgeprobe/gremlin/GremlinStep"), (.object "com/example/edgeprobe/edgeprobe/gremlin/GremlinStep"), (.object "com/example/edgeprobe/edgeprobe/gremlin/GremlinStep"), (.object "com/example/edgeprobe/edgeprobe/gremlin/GremlinStep"), (.object "com/example/edgeprobe/edgeprobe/gremlin/GremlinStep"), (.object "com/example/edgeprobe/edgeprobe/gremlin/GremlinStep"), (.object "com/example/edgeprobe/edgeprobe/gremlin/GremlinStep"), (.object "com/example/edgeprobe/edgeprobe/gremlin/GremlinStep"), (.object "com/example/edgeprobe/edgeprobe/gremlin/GremlinStep"), (.object "com/example/edgeprobe/edgeprobe/gremlin/GremlinStep"), (.object "com/example/edgeprobe/edgeprobe/gremlin/GremlinStep"), (.object "com/example/edgeprobe/edgeprobe/gremlin/GremlinStep"), (.object "com/example/edgeprobe/edgeprobe/gremlin/GremlinStep"), (.object "com/example/edgeprobe/edgeprobe/gremlin/GremlinStep"), (.object "com/example/edgeprobe/edgeprobe/gremlin/GremlinStep"), (.object "com/example/edgeprobe/edgeprobe/gremlin/GremlinStep"), (.object "com/example/edgeprobe/edgeprobe/gremlin/GremlinStep"), (.object "com/example/edgeprobe/edgeprobe/gremlin/GremlinStep"), (.object "com/example/edgeprobe/edgeprobe/gremlin/GremlinStep"), (.object "com/example/edgeprobe/edgeprobe/gremlin/GremlinStep"), (.object "com/example/edgeprobe/edgeprobe/gremlin/GremlinStep"), (.object "com/example/edgeprobe/edgeprobe/gremlin/GremlinStep"), (.object "com/example/edgeprobe/edgeprobe/gremlin/GremlinStep"), (.array (.object "com/example/edgeprobe/edgeprobe/gremlin/GremlinStep"))]
  resolved := Array.replicate 290 none
  statics := some 0 }

def pool7 : Array CpInfo := pool [(1, .class_ 2), (0, u "com/example/edgeprobe/edgeprobe/engine/EngineValues$Kind"), (2, u "VERTEX"), (0, u "Lcom/example/edgeprobe/edgeprobe/engine/EngineValues$Kind;"), (2, u "EDGE"), (2, u "$VALUES"), (0, u "[Lcom/example/edgeprobe/edgeprobe/engine/EngineValues$Kind;"), (6, .class_ 22), (1, u "java/lang/Enum"), (25, .class_ 49), (0, u "com/example/edgeprobe/edgeprobe/engine/EngineValues")] 2

/-- com/example/edgeprobe/edgeprobe/engine/EngineValues$Kind -/
def k7 : Class := { plain "com/example/edgeprobe/edgeprobe/engine/EngineValues$Kind" (some 5) with
  accessFlags := 16433
  interfaces := #[]
  cf := some (fileOf pool7 1 #[.nestHost 48] #[] 16433 20 #[] #[{ accessFlags := 16409, nameIndex := 5, descriptorIndex := 6, attributes := #[] }, { accessFlags := 16409, nameIndex := 9, descriptorIndex := 6, attributes := #[] }, { accessFlags := 4122, nameIndex := 12, descriptorIndex := 13, attributes := #[] }])
  fields := #[{ name := "VERTEX", type := (.object "com/example/edgeprobe/edgeprobe/engine/EngineValues$Kind"), accessFlags := 16409, slot := 0, constantValue := 0 }, { name := "EDGE", type := (.object "com/example/edgeprobe/edgeprobe/engine/EngineValues$Kind"), accessFlags := 16409, slot := 1, constantValue := 0 }, { name := "$VALUES", type := (.array (.object "com/example/edgeprobe/edgeprobe/engine/EngineValues$Kind")), accessFlags := 4122, slot := 2, constantValue := 0 }]
  methods := #[]
  instanceTypes := #[(.object "java/lang/String"), .int, .int]
  staticTypes := #[(.object "com/example/edgeprobe/edgeprobe/engine/EngineValues$Kind"), (.object "com/example/edgeprobe/edgeprobe/engine/EngineValues$Kind"), (.array (.object "com/example/edgeprobe/edgeprobe/engine/EngineValues$Kind"))]
  resolved := Array.replicate 52 none
  statics := some 1 }

def pool8 : Array CpInfo := pool [(1, u "java/lang/Cloneable"), (0, .class_ 1), (0, u "java/lang/Object"), (0, .class_ 3)] 3

/-- java/lang/Cloneable -/
def k8 : Class := { plain "java/lang/Cloneable" (some 0) with
  accessFlags := 1537
  interfaces := #[]
  cf := some (fileOf pool8 2 #[] #[] 1537 4 #[] #[])
  fields := #[]
  methods := #[]
  instanceTypes := #[]
  staticTypes := #[]
  resolved := Array.replicate 8 none
  statics := none }

/-- the primitive byte -/
def k9 : Class := { plain "byte" none with kind := .primitive 'B', accessFlags := 0x411 }
/-- [B -/
def k10 : Class := { plain "[B" (some 0) with kind := .array 9 .byte, interfaces := #[8, 4], accessFlags := 1041 }

/-- the primitive int -/
def k11 : Class := { plain "int" none with kind := .primitive 'I', accessFlags := 0x411 }
/-- [I -/
def k12 : Class := { plain "[I" (some 0) with kind := .array 11 .int, interfaces := #[8, 4], accessFlags := 1041 }

/-- [Lcom/example/edgeprobe/edgeprobe/gremlin/GremlinStep; -/
def k13 : Class := { plain "[Lcom/example/edgeprobe/edgeprobe/gremlin/GremlinStep;" (some 0) with kind := .array 6 (.object "com/example/edgeprobe/edgeprobe/gremlin/GremlinStep"), interfaces := #[8, 4], accessFlags := 1041 }

def heap : Heap := #[{ cls := 6, slots := #[.ref 2, .ref 3, .ref 4, .ref 5, .ref 6, .ref 7, .ref 8, .ref 9, .ref 10, .ref 11, .ref 12, .ref 13, .ref 14, .ref 15, .ref 16, .ref 17, .ref 18, .ref 19, .ref 20, .ref 21, .ref 22, .ref 23, .ref 24, .ref 25, .ref 26, .ref 27, .ref 28, .null], vm := .statics 6 },
  { cls := 7, slots := #[.ref 30, .ref 29, .null], vm := .statics 7 },
  { cls := 6, slots := #[.null, .int 0, .int 0, .null, .null, .null, .null], vm := .none },
  { cls := 6, slots := #[.null, .int 0, .int 0, .null, .null, .null, .null], vm := .none },
  { cls := 6, slots := #[.null, .int 0, .int 0, .null, .null, .ref 30, .null], vm := .none },
  { cls := 6, slots := #[.null, .int 0, .int 0, .null, .null, .ref 30, .null], vm := .none },
  { cls := 6, slots := #[.null, .int 0, .int 0, .null, .null, .ref 30, .null], vm := .none },
  { cls := 6, slots := #[.null, .int 0, .int 0, .null, .null, .ref 30, .null], vm := .none },
  { cls := 6, slots := #[.null, .int 0, .int 0, .null, .null, .ref 30, .null], vm := .none },
  { cls := 6, slots := #[.null, .int 0, .int 0, .null, .null, .ref 30, .null], vm := .none },
  { cls := 6, slots := #[.null, .int 0, .int 0, .null, .null, .ref 29, .null], vm := .none },
  { cls := 6, slots := #[.null, .int 0, .int 0, .null, .null, .ref 29, .null], vm := .none },
  { cls := 6, slots := #[.null, .int 0, .int 0, .null, .null, .ref 29, .null], vm := .none },
  { cls := 6, slots := #[.null, .int 0, .int 0, .null, .null, .null, .null], vm := .none },
  { cls := 6, slots := #[.null, .int 0, .int 0, .null, .null, .null, .null], vm := .none },
  { cls := 6, slots := #[.null, .int 0, .int 0, .null, .null, .null, .null], vm := .none },
  { cls := 6, slots := #[.null, .int 0, .int 0, .null, .null, .null, .null], vm := .none },
  { cls := 6, slots := #[.null, .int 0, .int 0, .null, .null, .null, .null], vm := .none },
  { cls := 6, slots := #[.null, .int 0, .int 0, .null, .null, .null, .null], vm := .none },
  { cls := 6, slots := #[.null, .int 0, .int 0, .null, .null, .null, .null], vm := .none },
  { cls := 6, slots := #[.null, .int 0, .int 0, .null, .null, .null, .null], vm := .none },
  { cls := 6, slots := #[.null, .int 0, .int 0, .null, .null, .null, .null], vm := .none },
  { cls := 6, slots := #[.null, .int 0, .int 0, .null, .null, .null, .null], vm := .none },
  { cls := 6, slots := #[.null, .int 0, .int 0, .null, .null, .null, .null], vm := .none },
  { cls := 6, slots := #[.null, .int 0, .int 0, .null, .null, .null, .null], vm := .none },
  { cls := 6, slots := #[.null, .int 0, .int 0, .null, .null, .null, .null], vm := .none },
  { cls := 6, slots := #[.null, .int 0, .int 0, .null, .null, .null, .null], vm := .none },
  { cls := 6, slots := #[.null, .int 0, .int 0, .null, .null, .null, .null], vm := .none },
  { cls := 6, slots := #[.null, .int 0, .int 0, .null, .null, .null, .null], vm := .none },
  { cls := 7, slots := #[.null, .int 1, .int 0], vm := .none },
  { cls := 7, slots := #[.null, .int 0, .int 0], vm := .none }]
def classes : Array Class := #[k0, k1, k2, k3, k4, k5, k6, k7, k8, k9, k10, k11, k12, k13]
def interned : List (Array UInt16 × Addr) := []
def slotsUsed : Nat := 226
def theMethod : MethodId := ⟨1, 1⟩
def args0 : Array Value := #[.int 5, .int 5]
def aboutOver (below : List Frame) : State where
  vm := { classes := classes, interned := interned.toArray }
  heap := heap
  slotsUsed := slotsUsed
  threads := #[{ frames := .invoking theMethod args0 :: below }]
def below0 : List Frame := [.native { method := ⟨0, 0⟩, args := #[] }]
def about1 : State := aboutOver below0
def p0 : Program := .bare "" "" ""
def e0 : Env := launch0.env 0 0 0
theorem w_frames : about1.frames = Frame.invoking theMethod args0 :: below0 := rfl
set_option maxRecDepth 65536 in
theorem w_args : argsFit about1.vm theMethod args0 = true := by decide +kernel
set_option maxRecDepth 65536 in
theorem w_heap : heapFits about1 = true := by decide +kernel
set_option maxRecDepth 65536 in
theorem w_runnable : about1.curStatus? = some .runnable := by decide +kernel
set_option maxRecDepth 65536 in
theorem w_alone : about1.alone = true := by decide +kernel
set_option maxRecDepth 65536 in
theorem w_named : about1.methodNamed? x = some theMethod := by decide +kernel
set_option maxRecDepth 65536 in
theorem w_hears : about1.hears theMethod below0 = true := by decide +kernel
set_option maxRecDepth 65536 in
theorem w_ripe : about1.ripe theMethod args0 below0 = true := by decide +kernel
theorem w_running : about1.status = .running := rfl
set_option maxRecDepth 65536 in
theorem w_room : about1.hasRoom e0.platform room_1 = true :=
  launch0.hasRoom_least _ room_1 (by decide +kernel) (by decide +kernel) (by decide +kernel) (by decide +kernel) (by decide +kernel) (by decide +kernel)
theorem allAtoms_all (ts : List Jvm.Cond) (a : Array Jvm.Value) (st : Jvm.State) : (allAtoms ts).before a st = ts.all (fun c => c.before a st) := by
  induction ts with
  | nil => rfl
  | cons c t ih =>
    show (Jvm.Cond.and c (allAtoms t)).before a st = _
    rw [Jvm.Cond.before_and, ih, List.all_cons]
def words1 : List Jvm.Cond := Jvm.Cond.code x code maxLocals ret :: tables_1
/-- a 'code' word, met by the world's own term for the bytes: nothing is compared byte by byte -/
theorem code_word {y : MethodName} {bytes : ByteArray} {mx : Nat} {rt : Option FieldType} {a : Array Value} {s : State} {m : MethodId} {meth : Method} {c : Code} (h1 : s.methodNamed? y = some m) (h2 : s.vm.method? m = some meth) (h3 : meth.code = some c) (h4 : c.code = bytes)
    (h5 : (c.maxLocals == mx && c.exceptionTable.isEmpty && decide (c.maxStack ≤ mostOperands) && decide (meth.sig.returnType = rt) && !meth.locks && decide (parseMethodDescriptor y.desc = some meth.sig)) = true) : (Jvm.Cond.code y bytes mx rt).before a s = true := by
  simp only [Bool.and_eq_true, beq_iff_eq, Bool.not_eq_true', decide_eq_true_eq] at h5
  obtain ⟨⟨⟨⟨⟨g1, g2⟩, g3⟩, g4⟩, g5⟩, g6⟩ := h5
  simp [Cond.before, Cond.holds, Cond.value, h1, h2, h3, h4, g1, g2, g3, g4, g5, g6]
def isCode : Jvm.Cond → Bool
  | .code _ _ _ _ => true
  | _ => false
theorem all_split {L : List Jvm.Cond} {P : Jvm.Cond → Bool} (h1 : L.all (fun c => isCode c || P c) = true) (h2 : ∀ c ∈ L.filter isCode, P c = true) : L.all P = true := by
  refine List.all_eq_true.mpr fun c hc => ?_
  have h := List.all_eq_true.mp h1 c hc
  rcases Bool.eq_false_or_eq_true (isCode c) with hi | hi
  · exact h2 c (List.mem_filter.mpr ⟨hc, hi⟩)
  · simpa [hi] using h
set_option maxRecDepth 65536 in
theorem w_c0 : (Jvm.Cond.code x code maxLocals ret).before args0 about1 = true := code_word (m := ⟨1, 1⟩) (meth := k1m1) (c := k1c1) (by decide +kernel) rfl rfl rfl (by decide +kernel)
set_option maxRecDepth 65536 in
theorem w_c1 : (Jvm.Cond.code ({ cls := "com/example/edgeprobe/edgeprobe/gremlin/GremlinStep", name := "takes", desc := "(Lcom/example/edgeprobe/edgeprobe/engine/EngineValues$Kind;)Z" } : Jvm.MethodName) prog_115_method_6_code (2 : Nat) (Option.some Jvm.ClassFile.FieldType.boolean)).before args0 about1 = true := code_word (m := ⟨6, 0⟩) (meth := k6m0) (c := k6c0) (by decide +kernel) rfl rfl rfl (by decide +kernel)
def codes1 : List Jvm.Cond := [Jvm.Cond.code x code maxLocals ret, Jvm.Cond.code ({ cls := "com/example/edgeprobe/edgeprobe/gremlin/GremlinStep", name := "takes", desc := "(Lcom/example/edgeprobe/edgeprobe/engine/EngineValues$Kind;)Z" } : Jvm.MethodName) prog_115_method_6_code (2 : Nat) (Option.some Jvm.ClassFile.FieldType.boolean)]
set_option maxRecDepth 65536 in
theorem codes_eq : words1.filter isCode = codes1 := rfl
theorem w_codes : ∀ c ∈ words1.filter isCode, c.before args0 about1 = true := by
  rw [codes_eq]
  intro c hc
  simp only [codes1, List.mem_cons, List.not_mem_nil, or_false] at hc
  rcases hc with rfl | rfl
  · exact w_c0
  · exact w_c1
set_option maxRecDepth 65536 in
theorem w_t1 : (words1.take 24).all (fun c => isCode c || c.before args0 about1) = true := by decide +kernel
set_option maxRecDepth 65536 in
theorem w_t2 : ((words1.drop 24).take 24).all (fun c => isCode c || c.before args0 about1) = true := by decide +kernel
set_option maxRecDepth 65536 in
theorem w_t3 : ((words1.drop 24).drop 24).all (fun c => isCode c || c.before args0 about1) = true := by decide +kernel
theorem w_tables : (allAtoms (Jvm.Cond.code x code maxLocals ret :: tables_1)).before args0 about1 = true := by
  rw [allAtoms_all]
  show words1.all (fun c => c.before args0 about1) = true
  refine all_split ?_ w_codes
  rw [← List.take_append_drop 24 words1, List.all_append, w_t1, ← List.take_append_drop 24 (words1.drop 24), List.all_append, w_t2, w_t3]
  rfl
set_option maxRecDepth 65536 in
theorem w_case : (Jvm.Cond.and given_1 narrow_1).before args0 about1 = true := by decide +kernel
theorem w_applies : (headSpec (Jvm.Cond.code x code maxLocals ret :: tables_1) room_1).applies x e0.platform about1 = true :=
  (Spec.applies_iff w_frames).mpr ⟨w_running, w_runnable, w_alone, w_named, w_hears, w_ripe, w_room, w_tables⟩
theorem atStart : AtStart classFile x code maxLocals ret World_1 tables_1 room_1 Calls_1 rest_1 Pre_1 launch0 p0 e0 about1 theMethod args0 below0 :=
  ⟨lists_1, trivial, launch0.admits_env _ _ _, launch0.least_env, fairChoices_fair.cas, fairChoices_fair.clock, w_frames, w_args, w_heap, w_applies, trivial, trivial, w_case⟩
end start1
theorem witness_1 : WitnessClaimed_1 := ⟨start1.p0, start1.e0, start1.about1, start1.theMethod, start1.args0, start1.below0, start1.atStart⟩
end Jvm.Pilot.@@N@@
