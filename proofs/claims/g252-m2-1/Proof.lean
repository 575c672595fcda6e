import JvmDerived
import JvmDerived.Pilot.@@N@@Statement
import JvmDerived.Pilot.@@N@@Code
set_option linter.unusedVariables false
set_option linter.unusedSimpArgs false
@@BLOCK:NumsL.lean.txt@@
namespace Jvm.Pilot.@@N@@
open Jvm Jvm.ClassFile Sem Op Lib Jvm.Free Jvm.Stand Jvm.LawKit Jvm.RoadKit Bundle Jvm.Pilot.@@N@@.Jvm.D
abbrev oI (x : Int32) : Slot := .val (.int x)
abbrev oJ (x : Int64) : Slot := .val (.long x)
abbrev oA (x : Addr) : Slot := .val (.ref x)
abbrev oN : Slot := .val .null
abbrev oU : Slot := .unset
abbrev oS : Slot := .second
theorem own_w {Z : State} {a0 : Array Value} (hw : ∀ d ∈ tables_1, d.before a0 Z = true) (i : Nat) {d : Jvm.Cond} (h : tables_1[i]? = some d) : d.before a0 Z = true := hw d (List.mem_of_getElem? h)
section Own
variable {p : Program} {l : Launch} {e : Env} {R : Room} {s : State} {m : MethodId} {args : Array Value} {below : List Frame} {meth : Method} {c : Code} {T : State} {locs : List Loc} {cells slots : Nat} {P : State → Outcome → Prop} {pc : Nat} {ls : Array Slot} {st : List Value} {Z : State} {a0 : Array Value} {h : Heap} {bytes : ByteArray}
/-- the run goes on from A and ends so that P holds -/
def Go (p : Program) (e : Env) (below : List Frame) (P : State → Outcome → Prop) (A : State) : Prop := ∃ s₂ o, Steps p.tables e below A s₂ ∧ P s₂ o
theorem own_go {A A' : State} (h : ∀ t, Steps p.tables e below A' t → Steps p.tables e below A t) (k : Go p e below P A') : Go p e below P A := by
  obtain ⟨s₂, o, h1, h2⟩ := k
  exact ⟨s₂, o, h _ h1, h2⟩
/-! loads, stores, constants -/
theorem own_iload_n (pc' : Nat) (X : Stand p l e R s m args below meth c T locs cells slots) (hx : p.tables.exec = Jvm.exec) (hby : c.code = bytes) {k : Fin 4} {v : Int32} (hd : decode bytes pc = .ok (.iload_n k, 1)) (hp : pc + 1 = pc') (hl : ls[k.val]? = some (.val (.int v))) (r : Go p e below P (T.setTop (mkF m pc' ls (.int v :: st)))) : Go p e below P (T.setTop (mkF m pc ls st)) := by
  subst hp; exact own_go (fun t q => XS.iloadN X.here hx rfl (hb hby hd) hl q) r
theorem own_iload (pc' : Nat) (X : Stand p l e R s m args below meth c T locs cells slots) (hx : p.tables.exec = Jvm.exec) (hby : c.code = bytes) {k : Nat} {v : Int32} (hd : decode bytes pc = .ok (.iload k, 2)) (hp : pc + 2 = pc') (hl : ls[k]? = some (.val (.int v))) (r : Go p e below P (T.setTop (mkF m pc' ls (.int v :: st)))) : Go p e below P (T.setTop (mkF m pc ls st)) := by
  subst hp; exact own_go (fun t q => XS.iload X.here hx rfl (hb hby hd) hl q) r
theorem own_lload_n (pc' : Nat) (X : Stand p l e R s m args below meth c T locs cells slots) (hx : p.tables.exec = Jvm.exec) (hby : c.code = bytes) {k : Fin 4} {v : Int64} (hd : decode bytes pc = .ok (.lload_n k, 1)) (hp : pc + 1 = pc') (hl : ls[k.val]? = some (.val (.long v))) (r : Go p e below P (T.setTop (mkF m pc' ls (.long v :: st)))) : Go p e below P (T.setTop (mkF m pc ls st)) := by
  subst hp; exact own_go (fun t q => XT.lloadN X.here hx rfl (hb hby hd) hl q) r
theorem own_lload (pc' : Nat) (X : Stand p l e R s m args below meth c T locs cells slots) (hx : p.tables.exec = Jvm.exec) (hby : c.code = bytes) {k : Nat} {v : Int64} (hd : decode bytes pc = .ok (.lload k, 2)) (hp : pc + 2 = pc') (hl : ls[k]? = some (.val (.long v))) (r : Go p e below P (T.setTop (mkF m pc' ls (.long v :: st)))) : Go p e below P (T.setTop (mkF m pc ls st)) := by
  subst hp; exact own_go (fun t q => XT.lload X.here hx rfl (hb hby hd) hl q) r
theorem own_aload_n (pc' : Nat) (X : Stand p l e R s m args below meth c T locs cells slots) (hx : p.tables.exec = Jvm.exec) (hby : c.code = bytes) {k : Fin 4} {v : Value} (hd : decode bytes pc = .ok (.aload_n k, 1)) (hp : pc + 1 = pc') (hl : ls[k.val]? = some (.val v)) (hv : v.isRef = true) (r : Go p e below P (T.setTop (mkF m pc' ls (v :: st)))) : Go p e below P (T.setTop (mkF m pc ls st)) := by
  subst hp; exact own_go (fun t q => XS.aloadN X.here hx rfl (hb hby hd) hl hv q) r
theorem own_aload (pc' : Nat) (X : Stand p l e R s m args below meth c T locs cells slots) (hx : p.tables.exec = Jvm.exec) (hby : c.code = bytes) {k : Nat} {v : Value} (hd : decode bytes pc = .ok (.aload k, 2)) (hp : pc + 2 = pc') (hl : ls[k]? = some (.val v)) (hv : v.isRef = true) (r : Go p e below P (T.setTop (mkF m pc' ls (v :: st)))) : Go p e below P (T.setTop (mkF m pc ls st)) := by
  subst hp; exact own_go (fun t q => XS.aload X.here hx rfl (hb hby hd) hl hv q) r
theorem own_istore_n (pc' : Nat) (l' : Array Slot) (X : Stand p l e R s m args below meth c T locs cells slots) (hx : p.tables.exec = Jvm.exec) (hby : c.code = bytes) {k : Fin 4} {v : Int32} (hd : decode bytes pc = .ok (.istore_n k, 1)) (hp : pc + 1 = pc') (hl : storeLocals ls k.val (.int v) = some l') (r : Go p e below P (T.setTop (mkF m pc' l' st))) : Go p e below P (T.setTop (mkF m pc ls (.int v :: st))) := by
  subst hp; exact own_go (fun t q => XS.istoreN X.here hx rfl (hb hby hd) rfl hl q) r
theorem own_istore (pc' : Nat) (l' : Array Slot) (X : Stand p l e R s m args below meth c T locs cells slots) (hx : p.tables.exec = Jvm.exec) (hby : c.code = bytes) {k : Nat} {v : Int32} (hd : decode bytes pc = .ok (.istore k, 2)) (hp : pc + 2 = pc') (hl : storeLocals ls k (.int v) = some l') (r : Go p e below P (T.setTop (mkF m pc' l' st))) : Go p e below P (T.setTop (mkF m pc ls (.int v :: st))) := by
  subst hp; exact own_go (fun t q => XS.istore X.here hx rfl (hb hby hd) rfl hl q) r
theorem own_lstore_n (pc' : Nat) (l' : Array Slot) (X : Stand p l e R s m args below meth c T locs cells slots) (hx : p.tables.exec = Jvm.exec) (hby : c.code = bytes) {k : Fin 4} {v : Int64} (hd : decode bytes pc = .ok (.lstore_n k, 1)) (hp : pc + 1 = pc') (hl : storeLocals ls k.val (.long v) = some l') (r : Go p e below P (T.setTop (mkF m pc' l' st))) : Go p e below P (T.setTop (mkF m pc ls (.long v :: st))) := by
  subst hp; exact own_go (fun t q => XT.lstoreN X.here hx rfl (hb hby hd) rfl hl q) r
theorem own_lstore (pc' : Nat) (l' : Array Slot) (X : Stand p l e R s m args below meth c T locs cells slots) (hx : p.tables.exec = Jvm.exec) (hby : c.code = bytes) {k : Nat} {v : Int64} (hd : decode bytes pc = .ok (.lstore k, 2)) (hp : pc + 2 = pc') (hl : storeLocals ls k (.long v) = some l') (r : Go p e below P (T.setTop (mkF m pc' l' st))) : Go p e below P (T.setTop (mkF m pc ls (.long v :: st))) := by
  subst hp; exact own_go (fun t q => XT.lstore X.here hx rfl (hb hby hd) rfl hl q) r
theorem own_astore_n (pc' : Nat) (l' : Array Slot) (X : Stand p l e R s m args below meth c T locs cells slots) (hx : p.tables.exec = Jvm.exec) (hby : c.code = bytes) {k : Fin 4} {v : Value} (hd : decode bytes pc = .ok (.astore_n k, 1)) (hp : pc + 1 = pc') (hv : v.isRef = true) (hl : storeLocals ls k.val v = some l') (r : Go p e below P (T.setTop (mkF m pc' l' st))) : Go p e below P (T.setTop (mkF m pc ls (v :: st))) := by
  subst hp; exact own_go (fun t q => XS.astoreN X.here hx rfl (hb hby hd) rfl hv hl q) r
theorem own_astore (pc' : Nat) (l' : Array Slot) (X : Stand p l e R s m args below meth c T locs cells slots) (hx : p.tables.exec = Jvm.exec) (hby : c.code = bytes) {k : Nat} {v : Value} (hd : decode bytes pc = .ok (.astore k, 2)) (hp : pc + 2 = pc') (hv : v.isRef = true) (hl : storeLocals ls k v = some l') (r : Go p e below P (T.setTop (mkF m pc' l' st))) : Go p e below P (T.setTop (mkF m pc ls (v :: st))) := by
  subst hp; exact own_go (fun t q => XS.astore X.here hx rfl (hb hby hd) rfl hv hl q) r
theorem own_iconst (pc' : Nat) (w : Int32) (X : Stand p l e R s m args below meth c T locs cells slots) (hx : p.tables.exec = Jvm.exec) (hby : c.code = bytes) {i : Int} (hd : decode bytes pc = .ok (.iconst i, 1)) (hp : pc + 1 = pc') (hw : Int32.ofInt i = w) (r : Go p e below P (T.setTop (mkF m pc' ls (.int w :: st)))) : Go p e below P (T.setTop (mkF m pc ls st)) := by
  subst hp hw; exact own_go (fun t q => XS.iconst X.here hx rfl (hb hby hd) q) r
theorem own_bipush (pc' : Nat) (w : Int32) (X : Stand p l e R s m args below meth c T locs cells slots) (hx : p.tables.exec = Jvm.exec) (hby : c.code = bytes) {i : Int} (hd : decode bytes pc = .ok (.bipush i, 2)) (hp : pc + 2 = pc') (hw : (Int8.ofInt i).toInt32 = w) (r : Go p e below P (T.setTop (mkF m pc' ls (.int w :: st)))) : Go p e below P (T.setTop (mkF m pc ls st)) := by
  subst hp hw; exact own_go (fun t q => XS.bipush X.here hx rfl (hb hby hd) q) r
theorem own_sipush (pc' : Nat) (w : Int32) (X : Stand p l e R s m args below meth c T locs cells slots) (hx : p.tables.exec = Jvm.exec) (hby : c.code = bytes) {i : Int} (hd : decode bytes pc = .ok (.sipush i, 3)) (hp : pc + 3 = pc') (hw : (Int16.ofInt i).toInt32 = w) (r : Go p e below P (T.setTop (mkF m pc' ls (.int w :: st)))) : Go p e below P (T.setTop (mkF m pc ls st)) := by
  subst hp hw; exact own_go (fun t q => XS.sipush X.here hx rfl (hb hby hd) q) r
theorem own_lconst (pc' : Nat) (w : Int64) (X : Stand p l e R s m args below meth c T locs cells slots) (hx : p.tables.exec = Jvm.exec) (hby : c.code = bytes) {k : Fin 2} (hd : decode bytes pc = .ok (.lconst k, 1)) (hp : pc + 1 = pc') (hw : Int64.ofNat k = w) (r : Go p e below P (T.setTop (mkF m pc' ls (.long w :: st)))) : Go p e below P (T.setTop (mkF m pc ls st)) := by
  subst hp hw; exact own_go (fun t q => XT.lconst X.here hx rfl (hb hby hd) q) r
theorem own_null (pc' : Nat) (X : Stand p l e R s m args below meth c T locs cells slots) (hx : p.tables.exec = Jvm.exec) (hby : c.code = bytes) (hd : decode bytes pc = .ok (.aconst_null, 1)) (hp : pc + 1 = pc') (r : Go p e below P (T.setTop (mkF m pc' ls (.null :: st)))) : Go p e below P (T.setTop (mkF m pc ls st)) := by
  subst hp; exact own_go (fun t q => XS.aconstNull X.here hx rfl (hb hby hd) q) r
theorem own_ldc (pc' : Nat) (X : Stand p l e R s m args below meth c T locs cells slots) (hx : p.tables.exec = Jvm.exec) (hby : c.code = bytes) (hZ : Z.Warmed39 s.vm) {own : String} {index : Nat} {v : Int32} (hown : s.vm.findClass own = some m.cls) (w : (Cond.constant own index v).before a0 Z = true) (hd : decode bytes pc = .ok (.ldc index, 2)) (hp : pc + 2 = pc') (r : Go p e below P (T.setTop (mkF m pc' ls (.int v :: st)))) : Go p e below P (T.setTop (mkF m pc ls st)) := by
  subst hp; exact own_go (fun t q => X.ldcI hx hown (mvT hZ w) rfl (hb hby hd) q) r
theorem own_ldc2 (pc' : Nat) (X : Stand p l e R s m args below meth c T locs cells slots) (hx : p.tables.exec = Jvm.exec) (hby : c.code = bytes) (hZ : Z.Warmed39 s.vm) {own : String} {index : Nat} {v : Int64} (hown : s.vm.findClass own = some m.cls) (w : (Cond.constantLong own index v).before a0 Z = true) (hd : decode bytes pc = .ok (.ldc2_w index, 3)) (hp : pc + 3 = pc') (r : Go p e below P (T.setTop (mkF m pc' ls (.long v :: st)))) : Go p e below P (T.setTop (mkF m pc ls st)) := by
  subst hp; exact own_go (fun t q => X.ldc2J hx hown (mvT hZ w) rfl (hb hby hd) q) r
/-! arithmetic -/
theorem own_iadd (pc' : Nat) (w : Int32) (X : Stand p l e R s m args below meth c T locs cells slots) (hx : p.tables.exec = Jvm.exec) (hby : c.code = bytes) {x y : Int32} (hd : decode bytes pc = .ok (.iadd, 1)) (hp : pc + 1 = pc') (hw : x + y = w) (r : Go p e below P (T.setTop (mkF m pc' ls (.int w :: st)))) : Go p e below P (T.setTop (mkF m pc ls (.int y :: .int x :: st))) := by
  subst hp hw; exact own_go (fun t q => XS.iadd X.here hx rfl (hb hby hd) rfl q) r
theorem own_isub (pc' : Nat) (w : Int32) (X : Stand p l e R s m args below meth c T locs cells slots) (hx : p.tables.exec = Jvm.exec) (hby : c.code = bytes) {x y : Int32} (hd : decode bytes pc = .ok (.isub, 1)) (hp : pc + 1 = pc') (hw : x - y = w) (r : Go p e below P (T.setTop (mkF m pc' ls (.int w :: st)))) : Go p e below P (T.setTop (mkF m pc ls (.int y :: .int x :: st))) := by
  subst hp hw; exact own_go (fun t q => XS.isub X.here hx rfl (hb hby hd) rfl q) r
theorem own_imul (pc' : Nat) (w : Int32) (X : Stand p l e R s m args below meth c T locs cells slots) (hx : p.tables.exec = Jvm.exec) (hby : c.code = bytes) {x y : Int32} (hd : decode bytes pc = .ok (.imul, 1)) (hp : pc + 1 = pc') (hw : x * y = w) (r : Go p e below P (T.setTop (mkF m pc' ls (.int w :: st)))) : Go p e below P (T.setTop (mkF m pc ls (.int y :: .int x :: st))) := by
  subst hp hw; exact own_go (fun t q => XS.imul X.here hx rfl (hb hby hd) rfl q) r
theorem own_idiv (pc' : Nat) (w : Int32) (X : Stand p l e R s m args below meth c T locs cells slots) (hx : p.tables.exec = Jvm.exec) (hby : c.code = bytes) {x y : Int32} (hd : decode bytes pc = .ok (.idiv, 1)) (hp : pc + 1 = pc') (hy : y ≠ 0) (hw : x / y = w) (r : Go p e below P (T.setTop (mkF m pc' ls (.int w :: st)))) : Go p e below P (T.setTop (mkF m pc ls (.int y :: .int x :: st))) := by
  subst hp hw; exact own_go (fun t q => XS.idiv X.here hx rfl (hb hby hd) rfl hy q) r
theorem own_irem (pc' : Nat) (w : Int32) (X : Stand p l e R s m args below meth c T locs cells slots) (hx : p.tables.exec = Jvm.exec) (hby : c.code = bytes) {x y : Int32} (hd : decode bytes pc = .ok (.irem, 1)) (hp : pc + 1 = pc') (hy : y ≠ 0) (hw : x % y = w) (r : Go p e below P (T.setTop (mkF m pc' ls (.int w :: st)))) : Go p e below P (T.setTop (mkF m pc ls (.int y :: .int x :: st))) := by
  subst hp hw; exact own_go (fun t q => iremM X hx rfl (hb hby hd) rfl hy q) r
theorem own_iand (pc' : Nat) (w : Int32) (X : Stand p l e R s m args below meth c T locs cells slots) (hx : p.tables.exec = Jvm.exec) (hby : c.code = bytes) {x y : Int32} (hd : decode bytes pc = .ok (.iand, 1)) (hp : pc + 1 = pc') (hw : x &&& y = w) (r : Go p e below P (T.setTop (mkF m pc' ls (.int w :: st)))) : Go p e below P (T.setTop (mkF m pc ls (.int y :: .int x :: st))) := by
  subst hp hw; exact own_go (fun t q => XS.iand X.here hx rfl (hb hby hd) rfl q) r
theorem own_ishr (pc' : Nat) (w : Int32) (X : Stand p l e R s m args below meth c T locs cells slots) (hx : p.tables.exec = Jvm.exec) (hby : c.code = bytes) {x y : Int32} (hd : decode bytes pc = .ok (.ishr, 1)) (hp : pc + 1 = pc') (hw : x >>> (y &&& 31) = w) (r : Go p e below P (T.setTop (mkF m pc' ls (.int w :: st)))) : Go p e below P (T.setTop (mkF m pc ls (.int y :: .int x :: st))) := by
  subst hp hw; exact own_go (fun t q => XT.ishr X.here hx rfl (hb hby hd) rfl q) r
theorem own_iushr (pc' : Nat) (w : Int32) (X : Stand p l e R s m args below meth c T locs cells slots) (hx : p.tables.exec = Jvm.exec) (hby : c.code = bytes) {x y : Int32} (hd : decode bytes pc = .ok (.iushr, 1)) (hp : pc + 1 = pc') (hw : XT.ushr x y = w) (r : Go p e below P (T.setTop (mkF m pc' ls (.int w :: st)))) : Go p e below P (T.setTop (mkF m pc ls (.int y :: .int x :: st))) := by
  subst hp hw; exact own_go (fun t q => XT.iushr X.here hx rfl (hb hby hd) rfl q) r
theorem own_ladd (pc' : Nat) (w : Int64) (X : Stand p l e R s m args below meth c T locs cells slots) (hx : p.tables.exec = Jvm.exec) (hby : c.code = bytes) {x y : Int64} (hd : decode bytes pc = .ok (.ladd, 1)) (hp : pc + 1 = pc') (hw : x + y = w) (r : Go p e below P (T.setTop (mkF m pc' ls (.long w :: st)))) : Go p e below P (T.setTop (mkF m pc ls (.long y :: .long x :: st))) := by
  subst hp hw; exact own_go (fun t q => XT.ladd X.here hx rfl (hb hby hd) rfl q) r
theorem own_lsub (pc' : Nat) (w : Int64) (X : Stand p l e R s m args below meth c T locs cells slots) (hx : p.tables.exec = Jvm.exec) (hby : c.code = bytes) {x y : Int64} (hd : decode bytes pc = .ok (.lsub, 1)) (hp : pc + 1 = pc') (hw : x - y = w) (r : Go p e below P (T.setTop (mkF m pc' ls (.long w :: st)))) : Go p e below P (T.setTop (mkF m pc ls (.long y :: .long x :: st))) := by
  subst hp hw; exact own_go (fun t q => XT.lsub X.here hx rfl (hb hby hd) rfl q) r
theorem own_lmul (pc' : Nat) (w : Int64) (X : Stand p l e R s m args below meth c T locs cells slots) (hx : p.tables.exec = Jvm.exec) (hby : c.code = bytes) {x y : Int64} (hd : decode bytes pc = .ok (.lmul, 1)) (hp : pc + 1 = pc') (hw : x * y = w) (r : Go p e below P (T.setTop (mkF m pc' ls (.long w :: st)))) : Go p e below P (T.setTop (mkF m pc ls (.long y :: .long x :: st))) := by
  subst hp hw; exact own_go (fun t q => XT.lmul X.here hx rfl (hb hby hd) rfl q) r
theorem own_ldiv (pc' : Nat) (w : Int64) (X : Stand p l e R s m args below meth c T locs cells slots) (hx : p.tables.exec = Jvm.exec) (hby : c.code = bytes) {x y : Int64} (hd : decode bytes pc = .ok (.ldiv, 1)) (hp : pc + 1 = pc') (hy : y ≠ 0) (hw : x / y = w) (r : Go p e below P (T.setTop (mkF m pc' ls (.long w :: st)))) : Go p e below P (T.setTop (mkF m pc ls (.long y :: .long x :: st))) := by
  subst hp hw; exact own_go (fun t q => XT.ldiv X.here hx rfl (hb hby hd) rfl hy q) r
theorem own_lrem (pc' : Nat) (w : Int64) (X : Stand p l e R s m args below meth c T locs cells slots) (hx : p.tables.exec = Jvm.exec) (hby : c.code = bytes) {x y : Int64} (hd : decode bytes pc = .ok (.lrem, 1)) (hp : pc + 1 = pc') (hy : y ≠ 0) (hw : x - (x / y) * y = w) (r : Go p e below P (T.setTop (mkF m pc' ls (.long w :: st)))) : Go p e below P (T.setTop (mkF m pc ls (.long y :: .long x :: st))) := by
  subst hp hw; exact own_go (fun t q => XT.lrem X.here hx rfl (hb hby hd) rfl hy q) r
theorem own_land (pc' : Nat) (w : Int64) (X : Stand p l e R s m args below meth c T locs cells slots) (hx : p.tables.exec = Jvm.exec) (hby : c.code = bytes) {x y : Int64} (hd : decode bytes pc = .ok (.land, 1)) (hp : pc + 1 = pc') (hw : x &&& y = w) (r : Go p e below P (T.setTop (mkF m pc' ls (.long w :: st)))) : Go p e below P (T.setTop (mkF m pc ls (.long y :: .long x :: st))) := by
  subst hp hw; exact own_go (fun t q => XT.land X.here hx rfl (hb hby hd) rfl q) r
theorem own_lushr (pc' : Nat) (w : Int64) (X : Stand p l e R s m args below meth c T locs cells slots) (hx : p.tables.exec = Jvm.exec) (hby : c.code = bytes) {x : Int64} {y : Int32} (hd : decode bytes pc = .ok (.lushr, 1)) (hp : pc + 1 = pc') (hw : XT.ushrL x y = w) (r : Go p e below P (T.setTop (mkF m pc' ls (.long w :: st)))) : Go p e below P (T.setTop (mkF m pc ls (.int y :: .long x :: st))) := by
  subst hp hw; exact own_go (fun t q => XT.lushr X.here hx rfl (hb hby hd) rfl q) r
theorem own_i2l (pc' : Nat) (w : Int64) (X : Stand p l e R s m args below meth c T locs cells slots) (hx : p.tables.exec = Jvm.exec) (hby : c.code = bytes) {x : Int32} (hd : decode bytes pc = .ok (.i2l, 1)) (hp : pc + 1 = pc') (hw : x.toInt64 = w) (r : Go p e below P (T.setTop (mkF m pc' ls (.long w :: st)))) : Go p e below P (T.setTop (mkF m pc ls (.int x :: st))) := by
  subst hp hw; exact own_go (fun t q => XT.i2l X.here hx rfl (hb hby hd) rfl q) r
theorem own_l2i (pc' : Nat) (w : Int32) (X : Stand p l e R s m args below meth c T locs cells slots) (hx : p.tables.exec = Jvm.exec) (hby : c.code = bytes) {x : Int64} (hd : decode bytes pc = .ok (.l2i, 1)) (hp : pc + 1 = pc') (hw : x.toInt32 = w) (r : Go p e below P (T.setTop (mkF m pc' ls (.int w :: st)))) : Go p e below P (T.setTop (mkF m pc ls (.long x :: st))) := by
  subst hp hw; exact own_go (fun t q => XT.l2i X.here hx rfl (hb hby hd) rfl q) r
theorem own_lcmp (pc' : Nat) (w : Int32) (X : Stand p l e R s m args below meth c T locs cells slots) (hx : p.tables.exec = Jvm.exec) (hby : c.code = bytes) {x y : Int64} (hd : decode bytes pc = .ok (.lcmp, 1)) (hp : pc + 1 = pc') (hw : XT.cmpL x y = w) (r : Go p e below P (T.setTop (mkF m pc' ls (.int w :: st)))) : Go p e below P (T.setTop (mkF m pc ls (.long y :: .long x :: st))) := by
  subst hp hw; exact own_go (fun t q => XT.lcmp X.here hx rfl (hb hby hd) rfl q) r
theorem own_iinc (pc' : Nat) (l' : Array Slot) (X : Stand p l e R s m args below meth c T locs cells slots) (hx : p.tables.exec = Jvm.exec) (hby : c.code = bytes) {k : Nat} {i : Int} {x : Int32} (hd : decode bytes pc = .ok (.iinc k i, 3)) (hp : pc + 3 = pc') (hl : ls[k]? = some (.val (.int x))) (hl' : storeLocals ls k (.int (x + Int32.ofInt i)) = some l') (r : Go p e below P (T.setTop (mkF m pc' l' st))) : Go p e below P (T.setTop (mkF m pc ls st)) := by
  subst hp; exact own_go (fun t q => XS.iinc X.here hx rfl (hb hby hd) hl hl' q) r
theorem own_dup (pc' : Nat) (X : Stand p l e R s m args below meth c T locs cells slots) (hx : p.tables.exec = Jvm.exec) (hby : c.code = bytes) {v : Value} (hd : decode bytes pc = .ok (.dup, 1)) (hp : pc + 1 = pc') (hc : v.category = 1) (r : Go p e below P (T.setTop (mkF m pc' ls (v :: v :: st)))) : Go p e below P (T.setTop (mkF m pc ls (v :: st))) := by
  subst hp; exact own_go (fun t q => XS.dup X.here hx rfl (hb hby hd) rfl hc q) r
theorem own_pop (pc' : Nat) (X : Stand p l e R s m args below meth c T locs cells slots) (hx : p.tables.exec = Jvm.exec) (hby : c.code = bytes) {v : Value} (hd : decode bytes pc = .ok (.pop, 1)) (hp : pc + 1 = pc') (hc : v.category = 1) (r : Go p e below P (T.setTop (mkF m pc' ls st))) : Go p e below P (T.setTop (mkF m pc ls (v :: st))) := by
  subst hp; exact own_go (fun t q => XT.pop X.here hx rfl (hb hby hd) rfl hc q) r
/-! branches -/
theorem own_goto (pc' : Nat) (X : Stand p l e R s m args below meth c T locs cells slots) (hx : p.tables.exec = Jvm.exec) (hby : c.code = bytes) {o : Int} (hd : decode bytes pc = .ok (.goto o, 3)) (ho : 0 ≤ (pc : Int) + o) (hp : ((pc : Int) + o).toNat = pc') (r : Go p e below P (T.setTop (mkF m pc' ls st))) : Go p e below P (T.setTop (mkF m pc ls st)) :=
  own_go (fun t q => XS.goto X.here hx rfl rfl (hb hby hd) ho hp q) r
theorem own_ifY (pc' : Nat) (X : Stand p l e R s m args below meth c T locs cells slots) (hx : p.tables.exec = Jvm.exec) (hby : c.code = bytes) {cd : ClassFile.Cond} {x : Int32} {o : Int} (hd : decode bytes pc = .ok (.ifCond cd o, 3)) (ho : 0 ≤ (pc : Int) + o) (hp : ((pc : Int) + o).toNat = pc') (hc : ifCond.holds cd x = true) (r : Go p e below P (T.setTop (mkF m pc' ls st))) : Go p e below P (T.setTop (mkF m pc ls (.int x :: st))) :=
  own_go (fun t q => XS.ifYes X.here hx rfl rfl (hb hby hd) rfl hc ho hp q) r
theorem own_ifN (pc' : Nat) (X : Stand p l e R s m args below meth c T locs cells slots) (hx : p.tables.exec = Jvm.exec) (hby : c.code = bytes) {cd : ClassFile.Cond} {x : Int32} {o : Int} (hd : decode bytes pc = .ok (.ifCond cd o, 3)) (hp : pc + 3 = pc') (hc : ifCond.holds cd x = false) (r : Go p e below P (T.setTop (mkF m pc' ls st))) : Go p e below P (T.setTop (mkF m pc ls (.int x :: st))) := by
  subst hp; exact own_go (fun t q => XS.ifNo X.here hx rfl (hb hby hd) rfl hc q) r
theorem own_icY (pc' : Nat) (X : Stand p l e R s m args below meth c T locs cells slots) (hx : p.tables.exec = Jvm.exec) (hby : c.code = bytes) {cd : ClassFile.Cond} {x y : Int32} {o : Int} (hd : decode bytes pc = .ok (.if_icmp cd o, 3)) (ho : 0 ≤ (pc : Int) + o) (hp : ((pc : Int) + o).toNat = pc') (hc : if_icmp.holds cd x y = true) (r : Go p e below P (T.setTop (mkF m pc' ls st))) : Go p e below P (T.setTop (mkF m pc ls (.int y :: .int x :: st))) :=
  own_go (fun t q => XS.icmpYes X.here hx rfl rfl (hb hby hd) rfl hc ho hp q) r
theorem own_icN (pc' : Nat) (X : Stand p l e R s m args below meth c T locs cells slots) (hx : p.tables.exec = Jvm.exec) (hby : c.code = bytes) {cd : ClassFile.Cond} {x y : Int32} {o : Int} (hd : decode bytes pc = .ok (.if_icmp cd o, 3)) (hp : pc + 3 = pc') (hc : if_icmp.holds cd x y = false) (r : Go p e below P (T.setTop (mkF m pc' ls st))) : Go p e below P (T.setTop (mkF m pc ls (.int y :: .int x :: st))) := by
  subst hp; exact own_go (fun t q => XS.icmpNo X.here hx rfl (hb hby hd) rfl hc q) r
theorem own_acmp (pc' : Nat) (same : Bool) (X : Stand p l e R s m args below meth c T locs cells slots) (hx : p.tables.exec = Jvm.exec) (hby : c.code = bytes) {cd : ACond} {x y : Value} {o : Int} (hd : decode bytes pc = .ok (.if_acmp cd o, 3)) (h1 : x.isRef = true) (h2 : y.isRef = true) (ho : 0 ≤ (pc : Int) + o) (hp : pc' = if acV cd same = true then ((pc : Int) + o).toNat else pc + 3) (hq : decide (x = y) = same) (r : Go p e below P (T.setTop (mkF m pc' ls st))) : Go p e below P (T.setTop (mkF m pc ls (y :: x :: st))) :=
  own_go (fun t q => Jvm.RoadKit.acmp X hx rfl h1 h2 rfl (hb hby hd) rfl hq ho hp q) r
theorem own_nullY (pc' : Nat) (X : Stand p l e R s m args below meth c T locs cells slots) (hx : p.tables.exec = Jvm.exec) (hby : c.code = bytes) {o : Int} (hd : decode bytes pc = .ok (.ifnull o, 3)) (ho : 0 ≤ (pc : Int) + o) (hp : ((pc : Int) + o).toNat = pc') (r : Go p e below P (T.setTop (mkF m pc' ls st))) : Go p e below P (T.setTop (mkF m pc ls (.null :: st))) :=
  own_go (fun t q => XS.ifnullYes X.here hx rfl rfl (hb hby hd) rfl ho hp q) r
theorem own_nullN (pc' : Nat) (X : Stand p l e R s m args below meth c T locs cells slots) (hx : p.tables.exec = Jvm.exec) (hby : c.code = bytes) {o : Int} {b : Addr} (hd : decode bytes pc = .ok (.ifnull o, 3)) (hp : pc + 3 = pc') (r : Go p e below P (T.setTop (mkF m pc' ls st))) : Go p e below P (T.setTop (mkF m pc ls (.ref b :: st))) := by
  subst hp; exact own_go (fun t q => XS.ifnullNo X.here hx rfl (hb hby hd) rfl q) r
theorem own_nnY (pc' : Nat) (X : Stand p l e R s m args below meth c T locs cells slots) (hx : p.tables.exec = Jvm.exec) (hby : c.code = bytes) {o : Int} {b : Addr} (hd : decode bytes pc = .ok (.ifnonnull o, 3)) (ho : 0 ≤ (pc : Int) + o) (hp : ((pc : Int) + o).toNat = pc') (r : Go p e below P (T.setTop (mkF m pc' ls st))) : Go p e below P (T.setTop (mkF m pc ls (.ref b :: st))) :=
  own_go (fun t q => XT.ifnonnullYes X.here hx rfl rfl (hb hby hd) rfl ho hp q) r
theorem own_nnN (pc' : Nat) (X : Stand p l e R s m args below meth c T locs cells slots) (hx : p.tables.exec = Jvm.exec) (hby : c.code = bytes) {o : Int} (hd : decode bytes pc = .ok (.ifnonnull o, 3)) (hp : pc + 3 = pc') (r : Go p e below P (T.setTop (mkF m pc' ls st))) : Go p e below P (T.setTop (mkF m pc ls (.null :: st))) := by
  subst hp; exact own_go (fun t q => XT.ifnonnullNo X.here hx rfl (hb hby hd) rfl q) r
/-! what lcmp and a branch behind it say -/
theorem own_tltL {x y : Int64} (h : x < y) : ifCond.holds .lt (XT.cmpL x y) = true ∧ ifCond.holds .ge (XT.cmpL x y) = false ∧ ifCond.holds .gt (XT.cmpL y x) = true ∧ ifCond.holds .le (XT.cmpL y x) = false := by
  have h1 : ¬ y < x := fun q => absurd h (Int64.lt_asymm q)
  have h2 : ¬ x = y := fun q => absurd (q ▸ h) Int64.lt_irrefl
  have h3 : ¬ y = x := fun q => h2 q.symm
  simp only [XT.cmpL, h, h1, h2, h3, if_true, if_false]
  decide
theorem own_fltL {x y : Int64} (h : ¬ x < y) : ifCond.holds .lt (XT.cmpL x y) = false ∧ ifCond.holds .ge (XT.cmpL x y) = true ∧ ifCond.holds .gt (XT.cmpL y x) = false ∧ ifCond.holds .le (XT.cmpL y x) = true := by
  by_cases q : x = y
  · subst q
    simp only [XT.cmpL, h, if_true, if_false]
    decide
  · have h1 : y < x := by
      rw [Int64.lt_iff_toInt_lt] at h ⊢
      have : x.toInt ≠ y.toInt := fun z => q (Int64.toInt_inj.mp z)
      omega
    have h3 : ¬ y = x := fun z => q z.symm
    simp only [XT.cmpL, h, h1, q, h3, if_true, if_false]
    decide
theorem own_teqL {x y : Int64} (h : x = y) : ifCond.holds .eq (XT.cmpL x y) = true ∧ ifCond.holds .ne (XT.cmpL x y) = false := by
  subst h
  simp only [XT.cmpL, Int64.lt_irrefl, if_true, if_false]
  decide
theorem own_feqL {x y : Int64} (h : ¬ x = y) : ifCond.holds .eq (XT.cmpL x y) = false ∧ ifCond.holds .ne (XT.cmpL x y) = true := by
  by_cases q : y < x
  · simp only [XT.cmpL, q, if_true]
    decide
  · simp only [XT.cmpL, q, h, if_false]
    decide
/-! fields, statics -/
theorem own_getS (pc' : Nat) (X : Stand p l e R s m args below meth c T locs cells slots) (hx : p.tables.exec = Jvm.exec) (hby : c.code = bytes) (hZ : Z.Warmed39 s.vm) {own O n d : String} {index : Nat} (hown : s.vm.findClass own = some m.cls) (w : (Cond.fieldLink own index O n d).before a0 Z = true) (eT : T.heap = h) {v : Value} (F : Sta Z h O n d v) (hd : decode bytes pc = .ok (.getstatic index, 3)) (hp : pc + 3 = pc')
    (r : ∀ T', Stand p l e R s m args below meth c T' locs cells slots → T'.heap = h → Go p e below P (T'.setTop (mkF m pc' ls (v :: st)))) : Go p e below P (T.setTop (mkF m pc ls st)) := by
  subst hp
  obtain ⟨T', X', e', q⟩ := getS2 X hx hZ hown (host := "") (Or.inl w) Via.refl eT F (g := mkF m pc ls st) rfl (hb hby hd)
  exact own_go q (r T' X' e')
theorem own_getSN (pc' : Nat) (X : Stand p l e R s m args below meth c T locs cells slots) (hx : p.tables.exec = Jvm.exec) (hby : c.code = bytes) (hZ : Z.Warmed39 s.vm) {own O n d host : String} {index : Nat} (hown : s.vm.findClass own = some m.cls) (w : (Cond.fieldLinkNest own index O n d host).before a0 Z = true) (eT : T.heap = h) {v : Value} (F : Sta Z h O n d v) (hd : decode bytes pc = .ok (.getstatic index, 3)) (hp : pc + 3 = pc')
    (r : ∀ T', Stand p l e R s m args below meth c T' locs cells slots → T'.heap = h → Go p e below P (T'.setTop (mkF m pc' ls (v :: st)))) : Go p e below P (T.setTop (mkF m pc ls st)) := by
  subst hp
  obtain ⟨T', X', e', q⟩ := getS2 X hx hZ hown (Or.inr w) Via.refl eT F (g := mkF m pc ls st) rfl (hb hby hd)
  exact own_go q (r T' X' e')
theorem own_getF (pc' : Nat) (X : Stand p l e R s m args below meth c T locs cells slots) (hx : p.tables.exec = Jvm.exec) (hby : c.code = bytes) (hZ : Z.Warmed39 s.vm) {own O n d : String} {index : Nat} (hown : s.vm.findClass own = some m.cls) (w : (Cond.fieldLink own index O n d).before a0 Z = true) (eT : T.heap = h) {a : Addr} {v : Value} (F : Fld Z h a O n d v) (hd : decode bytes pc = .ok (.getfield index, 3)) (hp : pc + 3 = pc')
    (r : ∀ T', Stand p l e R s m args below meth c T' locs cells slots → T'.heap = h → Go p e below P (T'.setTop (mkF m pc' ls (v :: st)))) : Go p e below P (T.setTop (mkF m pc ls (.ref a :: st))) := by
  subst hp
  obtain ⟨T', X', e', q⟩ := getF X hx hZ hown (host := "") (Or.inl w) Via.refl eT F (g := mkF m pc ls (.ref a :: st)) rfl rfl (hb hby hd)
  exact own_go q (r T' X' e')
/-! arrays -/
theorem own_n0 {n0 : Nat} (O : Old Z n0 h) : n0 ≤ h.size := O.1 ▸ O.2.1
theorem own_newR (pc' : Nat) (N : Nat) (X : Stand p l e R s m args below meth c T locs cells slots) (hx : p.tables.exec = Jvm.exec) (hby : c.code = bytes) (hZ : Z.Warmed39 s.vm) {own C : String} {index : Nat} (hown : s.vm.findClass own = some m.cls) (w1 : (Cond.classLink own index C).before a0 Z = true) (w2 : (Cond.arrayOver (.object C)).before a0 Z = true) (eT : T.heap = h)
    (hd : decode bytes pc = .ok (.anewarray index, 3)) (hp : pc + 3 = pc') {n : Int32} (hn : ¬ n < 0) (hcap : n.toNatClampNeg ≤ N) (hbig : N * 8 ≤ 536870912) (hc : cells + 1 ≤ R.cells) (hl : slots + N ≤ R.slots)
    (r : ∀ T' h' cA b, Stand p l e R s m args below meth c T' locs (cells + 1) (slots + N) → T'.heap = h' → Ext h h' → b = h.size → Arv Z h' b cA (.object C) n (List.replicate N .null) .null → Ovr Z cA C → Go p e below P (T'.setTop (mkF m pc' ls (.ref b :: st)))) : Go p e below P (T.setTop (mkF m pc ls (.int n :: st))) := by
  subst hp
  obtain ⟨T', h', cA, X', e', E', A', O', q⟩ := newR X hx hZ hown w1 w2 eT (g := mkF m pc ls (.int n :: st)) rfl (hb hby hd) rfl hn hcap hbig hc hl
  exact own_go q (r T' h' cA h.size X' e' E' rfl ((Arv.new A' hn).pad (pad_rep [] .null N)) O')
theorem own_newP (pc' : Nat) (N : Nat) {aty : ArrayType} (X : Stand p l e R s m args below meth c T locs cells slots) (hx : p.tables.exec = Jvm.exec) (hby : c.code = bytes) (hZ : Z.Warmed39 s.vm) (w : (Cond.arrayClass (newarray.typeOf aty)).before a0 Z = true) (eT : T.heap = h)
    (hd : decode bytes pc = .ok (.newarray aty, 2)) (hp : pc + 2 = pc') {n : Int32} (hn : ¬ n < 0) (hcap : n.toNatClampNeg ≤ N) (hbig : N * 8 ≤ 536870912) (hc : cells + 1 ≤ R.cells) (hl : slots + N ≤ R.slots)
    (r : ∀ T' h' cA b, Stand p l e R s m args below meth c T' locs (cells + 1) (slots + N) → T'.heap = h' → Ext h h' → b = h.size → Arv Z h' b cA (newarray.typeOf aty) n (List.replicate N (defaultValue (newarray.typeOf aty))) (defaultValue (newarray.typeOf aty)) → Go p e below P (T'.setTop (mkF m pc' ls (.ref b :: st)))) : Go p e below P (T.setTop (mkF m pc ls (.int n :: st))) := by
  subst hp
  obtain ⟨T', h', cA, X', e', E', A', q⟩ := newP X hx hZ w eT (g := mkF m pc ls (.int n :: st)) rfl (hb hby hd) rfl hn hcap hbig hc hl
  exact own_go q (r T' h' cA h.size X' e' E' rfl ((Arv.new A' hn).pad (pad_rep [] _ N)))
theorem own_stR (pc' : Nat) (i : Nat) (X : Stand p l e R s m args below meth c T locs cells slots) (hx : p.tables.exec = Jvm.exec) (hby : c.code = bytes) (hZ : Z.Warmed39 s.vm) (eT : T.heap = h) {a y : Addr} {cA : ClassId} {C : String} {n j : Int32} {vs : List Value} (V : Arv Z h a cA (.object C) n vs .null) (O : Ovr Z cA C) (I : Ins Z h y C true)
    (hd : decode bytes pc = .ok (.aastore, 1)) (hp : pc + 1 = pc') (hj : ¬ j < 0 ∧ j < n) (hi : j.toNatClampNeg = i) (hv : i < vs.length)
    (r : ∀ T' h', Stand p l e R s m args below meth c T' (locs ++ [⟨a, j.toNatClampNeg⟩]) cells slots → T'.heap = h' → Wr h h' a j.toNatClampNeg (.ref y) → Arv Z h' a cA (.object C) n (vs.set i (.ref y)) .null → Go p e below P (T'.setTop (mkF m pc' ls st))) : Go p e below P (T.setTop (mkF m pc ls (.ref y :: .int j :: .ref a :: st))) := by
  subst hp
  obtain ⟨cl, A, q1, S, q3, H, G⟩ := V
  obtain ⟨T', h', X', e', W', q⟩ := stR X hx hZ eT A (j := j) (inb_of S hj) rfl (Sto.ofV A q1 O I) (g := mkF m pc ls (.ref y :: .int j :: .ref a :: st)) rfl rfl (hb hby hd)
  exact own_go q (r T' h' X' e' W' (Arv.set A q1 S q3 H G rfl W' i hi hv))
theorem own_stZ (pc' : Nat) (i : Nat) (X : Stand p l e R s m args below meth c T locs cells slots) (hx : p.tables.exec = Jvm.exec) (hby : c.code = bytes) (hZ : Z.Warmed39 s.vm) (eT : T.heap = h) {a : Addr} {cA : ClassId} {n j x : Int32} {vs : List Value} {dv : Value} (V : Arv Z h a cA .boolean n vs dv)
    (hd : decode bytes pc = .ok (.bastore, 1)) (hp : pc + 1 = pc') (hj : ¬ j < 0 ∧ j < n) (hi : j.toNatClampNeg = i) (hv : i < vs.length) (hx1 : nar .boolean x = x)
    (r : ∀ T' h', Stand p l e R s m args below meth c T' (locs ++ [⟨a, j.toNatClampNeg⟩]) cells slots → T'.heap = h' → Wr h h' a j.toNatClampNeg (.int x) → Arv Z h' a cA .boolean n (vs.set i (.int x)) dv → Go p e below P (T'.setTop (mkF m pc' ls st))) : Go p e below P (T.setTop (mkF m pc ls (.int x :: .int j :: .ref a :: st))) := by
  subst hp
  obtain ⟨cl, A, q1, S, q3, H, G⟩ := V
  obtain ⟨T', h', X', e', W', q⟩ := stZ X hx hZ eT A (j := j) (x := x) (inb_of S hj) (g := mkF m pc ls (.int x :: .int j :: .ref a :: st)) rfl rfl (hb hby hd)
  rw [hx1] at W'
  exact own_go q (r T' h' X' e' W' (Arv.set A q1 S q3 H G (hx1 ▸ fits_nar_bool x) W' i hi hv))
theorem own_aaload (pc' : Nat) (v : Value) (X : Stand p l e R s m args below meth c T locs cells slots) (hx : p.tables.exec = Jvm.exec) (hby : c.code = bytes) (hZ : Z.Warmed39 s.vm) (eT : T.heap = h) {a : Addr} {cA : ClassId} {ty : FieldType} {n j : Int32} {vs : List Value} {dv : Value} (V : Arv Z h a cA ty n vs dv) (hty : ty.isReference = true)
    (hd : decode bytes pc = .ok (.aaload, 1)) (hp : pc + 1 = pc') (hj : ¬ j < 0 ∧ j < n) (hv : vs.getD j.toNatClampNeg dv = v)
    (r : Go p e below P (T.setTop (mkF m pc' ls (v :: st)))) : Go p e below P (T.setTop (mkF m pc ls (.int j :: .ref a :: st))) := by
  subst hp
  obtain ⟨cl, A, q1, S, q3, H, G⟩ := V
  exact own_go (fun t q => X.aaload hx (j := j) (v := v) (by rw [eT]; exact A.1) (State.isArrayOf_alike hZ.alike A.2.1) hty A.2.2 (inb_of S hj) (H.at (inb_of S hj) hv) (g := mkF m pc ls (.int j :: .ref a :: st)) rfl rfl (hb hby hd) t q) r
theorem own_zaload (pc' : Nat) (v : Value) (X : Stand p l e R s m args below meth c T locs cells slots) (hx : p.tables.exec = Jvm.exec) (hby : c.code = bytes) (hZ : Z.Warmed39 s.vm) (eT : T.heap = h) {a : Addr} {cA : ClassId} {n j : Int32} {vs : List Value} {dv : Value} (V : Arv Z h a cA .boolean n vs dv)
    (hd : decode bytes pc = .ok (.baload, 1)) (hp : pc + 1 = pc') (hj : ¬ j < 0 ∧ j < n) (hv : vs.getD j.toNatClampNeg dv = v)
    (r : Go p e below P (T.setTop (mkF m pc' ls (v :: st)))) : Go p e below P (T.setTop (mkF m pc ls (.int j :: .ref a :: st))) := by
  subst hp
  obtain ⟨cl, A, q1, S, q3, H, G⟩ := V
  exact own_go (fun t q => X.baloadBooleans hx (j := j) (v := v) (by rw [eT]; exact A.1) (State.isArrayOf_alike hZ.alike A.2.1) A.2.2 (inb_of S hj) (H.at (inb_of S hj) hv) (g := mkF m pc ls (.int j :: .ref a :: st)) rfl rfl (hb hby hd) t q) r
theorem own_len (pc' : Nat) (X : Stand p l e R s m args below meth c T locs cells slots) (hx : p.tables.exec = Jvm.exec) (hby : c.code = bytes) (hZ : Z.Warmed39 s.vm) (eT : T.heap = h) {a : Addr} {cA : ClassId} {ty : FieldType} {n : Int32} {vs : List Value} {dv : Value} (V : Arv Z h a cA ty n vs dv)
    (hd : decode bytes pc = .ok (.arraylength, 1)) (hp : pc + 1 = pc')
    (r : Go p e below P (T.setTop (mkF m pc' ls (.int n :: st)))) : Go p e below P (T.setTop (mkF m pc ls (.ref a :: st))) := by
  subst hp
  obtain ⟨cl, A, q1, S, q3, H, G⟩ := V
  rw [← len_of S q3] at r
  exact own_go (fun t q => X.arraylength hx (by rw [eT]; exact A.1) (State.isArrayOf_alike hZ.alike A.2.1) (g := mkF m pc ls (.ref a :: st)) rfl rfl (hb hby hd) t q) r
/-! calls -/
theorem own_callS (pc' : Nat) {h : Heap} {as' : Array Value} {rm : Room} {Q : Option Value → Heap → List Loc → Prop} {y : MethodName} {code' : ByteArray} {maxL : Nat} {ret' : Option FieldType}
    (hM : MetFree l y (head1 [Cond.code y code' maxL ret'] rm) (fun a U => a = as' ∧ Z.Warmed39 U.vm ∧ U.heap = h) (fun _ _ _ _ _ => True) (fun _ U o U' => ∃ v L, o = .returned v ∧ Q v U'.heap L ∧ FrameEnd U o U' L rm.cells rm.slots))
    (X : Stand p l e R s m args below meth c T locs cells slots) (hx : p.tables.exec = Jvm.exec) (hby : c.code = bytes) (hZ : Z.Warmed39 s.vm) {own : String} {index W : Nat} (hown : s.vm.findClass own = some m.cls)
    (w1 : (Cond.methodLink own index y).before a0 Z = true) (w2 : (Cond.static y).before a0 Z = true) (w3 : (Cond.initialized y.cls).before a0 Z = true) (w4 : (Cond.code y code' maxL ret').before a0 Z = true)
    (hy : y.cls ≠ "java/lang/invoke/MethodHandle" ∧ y.cls ≠ "java/lang/invoke/VarHandle") (hsz : ls.size = c.maxLocals) (argsL rest : List Value) {ps : List FieldType} {rt : Option FieldType} (hps : parseMethodDescriptor y.desc = some ⟨ps, rt⟩) (hlen : argsL.length = ps.length)
    (hd : decode bytes pc = .ok (.invokestatic index, 3)) (hp : pc + 3 = pc') (eT : T.heap = h) (hst : st = argsL.reverse ++ rest) (has : argsL.toArray = as') (hW : (rest.map fun v => v.category).sum = W)
    (hf : rm.frames + 1 ≤ R.frames) (hl : W + (maxL + 11) + rm.locals ≤ R.locals) (hc : cells + rm.cells ≤ R.cells) (hs : slots + rm.slots ≤ R.slots)
    (r : ∀ v T' L, Stand p l e R s m args below meth c T' (locs ++ L) (cells + rm.cells) (slots + rm.slots) → Q v T'.heap L → Go p e below P (T'.setTop (mkF m pc' ls (v.toList ++ rest)))) : Go p e below P (T.setTop (mkF m pc ls st)) := by
  subst hp
  obtain ⟨v, _, ⟨T', L', k', n'⟩, -, X', ⟨L, hQ, l1, l2, l3⟩, q⟩ := Jvm.LawKit.callS X hx hown (mvT hZ w1) (mvT hZ w2) (mvT hZ w3) (mvT hZ w4) hy (backOf (W := W) hM hZ w4 w3 hf hl) (g := mkF m pc ls st) rfl hsz (argsL := argsL) (rest := rest) (lenOf hps hlen) hst (by show 2 * 0 + _ ≤ _; omega) (hb hby hd) (fun _ _ => ⟨has, eT, hc, hs⟩)
  dsimp only [Pt.U, Pt.locs, Pt.cells, Pt.slots] at X' l1 l2 l3 q hQ
  subst l1 l2 l3
  exact own_go q (r v T' L X' hQ)
theorem own_virt (pc' : Nat) {h : Heap} {as' : Array Value} {rm : Room} {Q : Option Value → Heap → List Loc → Prop} {y z : MethodName} {code' : ByteArray} {maxL : Nat} {ret' : Option FieldType}
    (hM : MetFree l z (head1 [Cond.code z code' maxL ret'] rm) (fun a U => a = as' ∧ Z.Warmed39 U.vm ∧ U.heap = h) (fun _ _ _ _ _ => True) (fun _ U o U' => ∃ v L, o = .returned v ∧ Q v U'.heap L ∧ FrameEnd U o U' L rm.cells rm.slots))
    (X : Stand p l e R s m args below meth c T locs cells slots) (hx : p.tables.exec = Jvm.exec) (hby : c.code = bytes) (hZ : Z.Warmed39 s.vm) {own C : String} {index W : Nat} (hown : s.vm.findClass own = some m.cls)
    (w1 : (Cond.methodLink own index y).before a0 Z = true) (w2 : (Cond.declares y).before a0 Z = true) (nf : NotFace s y) (w3 : (Cond.selects C y z).before a0 Z = true) (w4 : (Cond.instanceMethod z).before a0 Z = true) (w5 : (Cond.initialized z.cls).before a0 Z = true) (w6 : (Cond.code z code' maxL ret').before a0 Z = true)
    (hy : y.cls ≠ "java/lang/invoke/MethodHandle" ∧ y.cls ≠ "java/lang/invoke/VarHandle") (hsz : ls.size = c.maxLocals) (b : Addr) (argsL rest : List Value) {ps : List FieldType} {rt : Option FieldType} (hps : parseMethodDescriptor y.desc = some ⟨ps, rt⟩) (hlen : argsL.length = ps.length)
    (hd : decode bytes pc = .ok (.invokevirtual index, 3)) (hp : pc + 3 = pc') (eT : T.heap = h) (E : Exa Z h b C) (hst : st = argsL.reverse ++ .ref b :: rest) (has : (.ref b :: argsL).toArray = as') (hW : (rest.map fun v => v.category).sum = W)
    (hf : rm.frames + 1 ≤ R.frames) (hl : W + (maxL + 11) + rm.locals ≤ R.locals) (hc : cells + rm.cells ≤ R.cells) (hs : slots + rm.slots ≤ R.slots)
    (r : ∀ v T' L, Stand p l e R s m args below meth c T' (locs ++ L) (cells + rm.cells) (slots + rm.slots) → Q v T'.heap L → Go p e below P (T'.setTop (mkF m pc' ls (v.toList ++ rest)))) : Go p e below P (T.setTop (mkF m pc ls st)) := by
  subst hp
  obtain ⟨cq, kq, q1, q2, q3⟩ := isOf (s := s) (T := T) hZ eT E
  obtain ⟨v, _, ⟨T', L', k', n'⟩, -, X', ⟨L, hQ, l1, l2, l3⟩, q⟩ := X.virtualBack hx hown (mvT hZ w1) (mvT hZ w2) nf (mvT hZ w3) (mvT hZ w4) hy (backOf (W := W) hM hZ w6 w5 hf hl) q1 q3 (g := mkF m pc ls st) rfl hsz (Steps.refl _) (argsL := argsL) (rest := rest) (lenOf hps hlen) hst (by show 2 * 0 + _ ≤ _; omega) (hb hby hd) (fun _ _ => ⟨has, eT, hc, hs⟩)
  dsimp only [Pt.U, Pt.locs, Pt.cells, Pt.slots] at X' l1 l2 l3 q hQ
  subst l1 l2 l3
  exact own_go (fun t k => q.trans k) (r v T' L X' hQ)
/-! the end of a walk -/
theorem own_ret {Q : Option Value → Heap → List Loc → Prop} {K N : Nat} {t : FieldType} {w : Value} {i : Instr} (X : Stand p l e R s m args below meth c T locs cells slots) (hx : p.tables.exec = Jvm.exec) (hby : c.code = bytes) (hret : meth.sig.returnType = some t) (hlocks : meth.locks = false)
    (hd : decode bytes pc = .ok (i, 1)) (hn : narrow t w = w)
    (hi : (i = .ireturn ∧ (t = .int ∨ t = .boolean ∨ t = .byte ∨ t = .char ∨ t = .short) ∧ ∃ z, w = .int z) ∨ (i = .lreturn ∧ t = .long ∧ ∃ z, w = .long z) ∨ (i = .dreturn ∧ t = .double ∧ ∃ z, w = .double z) ∨ (i = .freturn ∧ t = .float ∧ ∃ z, w = .float z) ∨ (i = .areturn ∧ t.isReference = true ∧ w.isRef = true))
    (hK : cells ≤ K) (hN : slots ≤ N) (hQ : Q (some w) T.heap locs) :
    Go p e below (fun s₂ o => s₂.status = .running ∧ Ended s₂ below o ∧ ∃ v L, o = .returned v ∧ Q v s₂.heap L ∧ FrameEnd s o s₂ L K N) (T.setTop (mkF m pc ls (w :: st))) := by
  obtain ⟨fs, hr, hrun, hended, hW, hsame⟩ := X.leave (v := some w) (fun h => by rw [hret] at h; cases h) hlocks
  exact ⟨_, _, retOut X hx hret hn hi (hb hby hd) hr, hrun, hended, _, _, rfl, hQ, ⟨_, rfl⟩, hW, hsame.mono hK hN⟩
theorem own_ret0 {Q : Option Value → Heap → List Loc → Prop} {K N : Nat} (X : Stand p l e R s m args below meth c T locs cells slots) (hx : p.tables.exec = Jvm.exec) (hby : c.code = bytes) (hret : meth.sig.returnType = none) (hlocks : meth.locks = false)
    (hd : decode bytes pc = .ok (.return_, 1)) (hK : cells ≤ K) (hN : slots ≤ N) (hQ : Q none T.heap locs) :
    Go p e below (fun s₂ o => s₂.status = .running ∧ Ended s₂ below o ∧ ∃ v L, o = .returned v ∧ Q v s₂.heap L ∧ FrameEnd s o s₂ L K N) (T.setTop (mkF m pc ls [])) := by
  obtain ⟨fs, hr, hrun, hended, hW, hsame⟩ := X.leave (v := none) (fun _ => rfl) hlocks
  exact ⟨_, _, X.returnOut hx hret (hb hby hd) hr, hrun, hended, _, _, rfl, hQ, ⟨_, rfl⟩, hW, hsame.mono hK hN⟩
/-! the case's words -/
theorem own_fld {Z : State} {args : Array Value} {t : Term} {C n d : String} {v : Int32} {x : Addr} (h : (Cond.eq (Term.field t C n d) (Term.int v)).value args Z none Z [] = some true) (ht : t.eval args Z none [] Z = some (.ref x)) : Fld Z Z.heap x C n d (.int v) :=
  Fld.start ((fld_at ht).symm.trans (eqv_i (Term.int_eval v) h))
theorem own_fldN {Z : State} {args : Array Value} {t : Term} {C n d : String} {x : Addr} (h : (Cond.eq (Term.field t C n d) Term.null).value args Z none Z [] = some true) (ht : t.eval args Z none [] Z = some (.ref x)) : Fld Z Z.heap x C n d .null :=
  Fld.start ((fld_at ht).symm.trans (null_v h))
theorem own_eqvR {Z : State} {args : Array Value} {X F : Term} {y : Addr} (hF : F.eval args Z none [] Z = some (.ref y)) (h : (Cond.eq X F).value args Z none Z [] = some true) : X.eval args Z none [] Z = some (.ref y) := by
  obtain ⟨x, y', e1, e2, k1, k2⟩ := cmp_v (Or.inl h)
  cases hF.symm.trans e2
  have hx : x.isRef = true := k2.2
  exact e1.trans (congrArg some (gotT (eq_R e1 hF hx rfl) h))
theorem own_fldR {Z : State} {args : Array Value} {t F : Term} {C n d : String} {x y : Addr} (h : (Cond.eq (Term.field t C n d) F).value args Z none Z [] = some true) (ht : t.eval args Z none [] Z = some (.ref x)) (hF : F.eval args Z none [] Z = some (.ref y)) : Fld Z Z.heap x C n d (.ref y) :=
  Fld.start ((fld_at ht).symm.trans (own_eqvR hF h))
theorem own_len_at {Z : State} {args : Array Value} {t : Term} {z : Int32} {a : Addr} {cl : Cell} (h : (Term.length t).eval args Z none [] Z = some (.int z)) (ht : t.eval args Z none [] Z = some (.ref a)) (ha : Z.arrayAt? a = some cl) : cl.slots.size < 2 ^ 31 ∧ cl.slots.size.toInt32 = z := by
  by_cases q : cl.slots.size < 2 ^ 31
  · refine ⟨q, ?_⟩
    rw [len_f ht ha q] at h
    exact Value.int.inj (Option.some.inj h)
  · exfalso
    simp [Term.eval, ht, ha, q] at h
/-- what a callee that writes nothing leaves -/
def own_Q (r : Option Value) (n0 : Nat) (h0 : Heap) (v : Option Value) (h : Heap) (L : List Loc) : Prop := v = r ∧ Fr n0 L ∧ h = h0
/-- what the law leaves -/
def own_Q1 (n0 : Nat) (v : Option Value) (h : Heap) (L : List Loc) : Prop := v = some (.int 1) ∧ Fr n0 L
end Own
section Own2
variable {p : Program} {l : Launch} {e : Env} {R : Room} {s : State} {m : MethodId} {args : Array Value} {below : List Frame} {meth : Method} {c : Code} {T : State} {locs : List Loc} {cells slots : Nat} {P : State → Outcome → Prop} {pc : Nat} {ls : Array Slot} {st : List Value} {Z : State} {a0 : Array Value} {h : Heap} {bytes : ByteArray}
/-! objects -/
theorem own_new (pc' : Nat) (k : Nat) (X : Stand p l e R s m args below meth c T locs cells slots) (hx : p.tables.exec = Jvm.exec) (hby : c.code = bytes) (hZ : Z.Warmed39 s.vm) {own C : String} {index : Nat} (hown : s.vm.findClass own = some m.cls) (w : (Cond.classLink own index C).before a0 Z = true) (wi : (Cond.instantiable C k).before a0 Z = true) (wz : (Cond.initialized C).before a0 Z = true) (eT : T.heap = h)
    (hd : decode bytes pc = .ok (.new index, 3)) (hp : pc + 3 = pc') (hc : cells + 1 ≤ R.cells) (hl : slots + k ≤ R.slots)
    (r : ∀ T' h' b, Stand p l e R s m args below meth c T' locs (cells + 1) (slots + k) → T'.heap = h' → Ext h h' → b = h.size → Exa Z h' b C → (∀ {O nm d : String} {ty : FieldType}, Laid Z a0 C O nm d → parseFieldDescriptor d = some ty → Fld Z h' b O nm d (defaultValue ty)) → Go p e below P (T'.setTop (mkF m pc' ls (.ref b :: st)))) : Go p e below P (T.setTop (mkF m pc ls st)) := by
  subst hp
  obtain ⟨T', h', X', e', E', A', D', -, q⟩ := newO X hx hZ hown w wi wz eT (g := mkF m pc ls st) rfl (hb hby hd) hc hl
  exact own_go q (r T' h' h.size X' e' E' rfl A' D')
theorem own_putF (pc' : Nat) (X : Stand p l e R s m args below meth c T locs cells slots) (hx : p.tables.exec = Jvm.exec) (hby : c.code = bytes) (hZ : Z.Warmed39 s.vm) {own O n d C : String} {index kk : Nat} (ty : FieldType) (hown : s.vm.findClass own = some m.cls) (w : (Cond.fieldLink own index O n d).before a0 Z = true) (eT : T.heap = h) {a : Addr} {v old : Value} (F : Fld Z h a O n d old) (E : Exa Z h a C) (L : (Cond.lays C O n d).before a0 Z = true ∨ ((Cond.laysFinal C O n d).before a0 Z = true ∧ own = O ∧ meth.name = "<init>")) (wi : (Cond.instantiable C kk).before a0 Z = true)
    (hty : parseFieldDescriptor d = some ty) (hn : narrow ty v = v) (hf : fits ty v = true) (hd : decode bytes pc = .ok (.putfield index, 3)) (hp : pc + 3 = pc')
    (r : ∀ T' h', Stand p l e R s m args below meth c T' (locs ++ [⟨a, Jvm.RoadKit.slotOf Z O n d⟩]) cells slots → T'.heap = h' → Wr h h' a (Jvm.RoadKit.slotOf Z O n d) v → Go p e below P (T'.setTop (mkF m pc' ls st))) : Go p e below P (T.setTop (mkF m pc ls (v :: .ref a :: st))) := by
  subst hp
  obtain ⟨T', h', X', e', W', q⟩ := putF X hx hZ hown (host := "") (Or.inl w) Via.refl eT F E L wi hty hn hf (g := mkF m pc ls (v :: .ref a :: st)) rfl rfl (hb hby hd)
  exact own_go q (r T' h' X' e' W')
theorem own_initO (pc' : Nat) (W : Nat) (X : Stand p l e R s m args below meth c T locs cells slots) (hx : p.tables.exec = Jvm.exec) (hby : c.code = bytes) (hZ : Z.Warmed39 s.vm) {own : String} {idx : Nat} (hown : s.vm.findClass own = some m.cls) (w1 : (Cond.methodLink own idx Lib.objectInit).before a0 Z = true) (w2 : (Cond.instanceMethod Lib.objectInit).before a0 Z = true)
    (w3 : (Cond.code Lib.objectInit object_method_1_code 1 none).before a0 Z = true) (hsz : ls.size = c.maxLocals) {a : Addr} (hd : decode bytes pc = .ok (.invokespecial idx, 3)) (hp : pc + 3 = pc') (eT : T.heap = h) (hW : (st.map fun v => v.category).sum = W) (hf : 1 ≤ R.frames) (hl : W + 12 ≤ R.locals)
    (r : ∀ T', Stand p l e R s m args below meth c T' locs cells slots → T'.heap = h → Go p e below P (T'.setTop (mkF m pc' ls st))) : Go p e below P (T.setTop (mkF m pc ls (.ref a :: st))) := by
  subst hp
  obtain ⟨T', X', e', q⟩ := initO X hx hZ hown w1 w2 w3 eT (g := mkF m pc ls (.ref a :: st)) rfl hsz rfl (hb hby hd) hf (W := W) (by show 2 * 0 + _ ≤ _; omega) hl
  exact own_go q (r T' X' e')
theorem own_cast (pc' : Nat) (X : Stand p l e R s m args below meth c T locs cells slots) (hx : p.tables.exec = Jvm.exec) (hby : c.code = bytes) (hZ : Z.Warmed39 s.vm) {own K : String} {index : Nat} (hown : s.vm.findClass own = some m.cls) (w : (Cond.classLink own index K).before a0 Z = true) (eT : T.heap = h) {a : Addr} (F : Ins Z h a K true) (hd : decode bytes pc = .ok (.checkcast index, 3)) (hp : pc + 3 = pc')
    (r : ∀ T', Stand p l e R s m args below meth c T' locs cells slots → T'.heap = h → Go p e below P (T'.setTop (mkF m pc' ls (.ref a :: st)))) : Go p e below P (T.setTop (mkF m pc ls (.ref a :: st))) := by
  subst hp
  obtain ⟨T', X', e', q⟩ := castY X hx hZ hown w eT F (g := mkF m pc ls (.ref a :: st)) rfl rfl (hb hby hd)
  exact own_go q (r T' X' e')
theorem own_instY (pc' : Nat) (X : Stand p l e R s m args below meth c T locs cells slots) (hx : p.tables.exec = Jvm.exec) (hby : c.code = bytes) (hZ : Z.Warmed39 s.vm) {own K : String} {index : Nat} (hown : s.vm.findClass own = some m.cls) (w : (Cond.classLink own index K).before a0 Z = true) (eT : T.heap = h) {a : Addr} (F : Ins Z h a K true) (hd : decode bytes pc = .ok (.instanceof index, 3)) (hp : pc + 3 = pc')
    (r : ∀ T', Stand p l e R s m args below meth c T' locs cells slots → T'.heap = h → Go p e below P (T'.setTop (mkF m pc' ls (.int 1 :: st)))) : Go p e below P (T.setTop (mkF m pc ls (.ref a :: st))) := by
  subst hp
  obtain ⟨T', X', e', q⟩ := instY X hx hZ hown w eT F (g := mkF m pc ls (.ref a :: st)) rfl rfl (hb hby hd)
  exact own_go q (r T' X' e')
theorem own_instN (pc' : Nat) (X : Stand p l e R s m args below meth c T locs cells slots) (hx : p.tables.exec = Jvm.exec) (hby : c.code = bytes) (hZ : Z.Warmed39 s.vm) {own K C : String} {index : Nat} (hown : s.vm.findClass own = some m.cls) (w : (Cond.classLink own index K).before a0 Z = true) (eT : T.heap = h) {a : Addr} (E : Exa Z h a C) (F : ∃ c t, Z.vm.findClass C = some c ∧ Z.vm.findClass K = some t ∧ Z.vm.assignable c t = false) (hd : decode bytes pc = .ok (.instanceof index, 3)) (hp : pc + 3 = pc')
    (r : ∀ T', Stand p l e R s m args below meth c T' locs cells slots → T'.heap = h → Go p e below P (T'.setTop (mkF m pc' ls (.int 0 :: st)))) : Go p e below P (T.setTop (mkF m pc ls (.ref a :: st))) := by
  subst hp
  obtain ⟨T', X', e', q⟩ := instNo X hx hZ hown w eT E F (g := mkF m pc ls (.ref a :: st)) rfl rfl (hb hby hd)
  exact own_go q (r T' X' e')
theorem own_inst0 (pc' : Nat) (X : Stand p l e R s m args below meth c T locs cells slots) (hx : p.tables.exec = Jvm.exec) (hby : c.code = bytes) {index : Nat} (hd : decode bytes pc = .ok (.instanceof index, 3)) (hp : pc + 3 = pc')
    (r : Go p e below P (T.setTop (mkF m pc' ls (.int 0 :: st)))) : Go p e below P (T.setTop (mkF m pc ls (.null :: st))) := by
  subst hp
  exact own_go (fun t q => X.instanceofNull hx (g := mkF m pc ls (.null :: st)) rfl rfl (hb hby hd) t q) r
theorem own_lsw (pc' : Nat) (X : Stand p l e R s m args below meth c T locs cells slots) (hx : p.tables.exec = Jvm.exec) (hby : c.code = bytes) {k : Int32} {dflt : Int} {pairs : Array (Int × Int)} {len : Nat} (hd : decode bytes pc = .ok (.lookupswitch dflt pairs, len)) (hsorted : (pairs.toList.zip (pairs.toList.drop 1)).all (fun (a, next) => a.1 < next.1) = true) {a off : Int} (hfind : pairs.find? (·.1 == k.toInt) = some (a, off)) (ho : 0 ≤ (pc : Int) + off) (hp : ((pc : Int) + off).toNat = pc')
    (r : Go p e below P (T.setTop (mkF m pc' ls st))) : Go p e below P (T.setTop (mkF m pc ls (.int k :: st))) := by
  subst hp
  exact own_go (fun t q => X.lookupswitchHit hx (g := mkF m pc ls (.int k :: st)) rfl rfl (hb hby hd) hsorted hfind ho t q) r
/-! arrays of longs -/
theorem own_stJ (pc' : Nat) (i : Nat) (X : Stand p l e R s m args below meth c T locs cells slots) (hx : p.tables.exec = Jvm.exec) (hby : c.code = bytes) (hZ : Z.Warmed39 s.vm) (eT : T.heap = h) {a : Addr} {cA : ClassId} {n j : Int32} {x : Int64} {vs : List Value} {dv : Value} (V : Arv Z h a cA .long n vs dv)
    (hd : decode bytes pc = .ok (.lastore, 1)) (hp : pc + 1 = pc') (hj : ¬ j < 0 ∧ j < n) (hi : j.toNatClampNeg = i) (hv : i < vs.length)
    (r : ∀ T' h', Stand p l e R s m args below meth c T' (locs ++ [⟨a, j.toNatClampNeg⟩]) cells slots → T'.heap = h' → Wr h h' a j.toNatClampNeg (.long x) → Arv Z h' a cA .long n (vs.set i (.long x)) dv → Go p e below P (T'.setTop (mkF m pc' ls st))) : Go p e below P (T.setTop (mkF m pc ls (.long x :: .int j :: .ref a :: st))) := by
  subst hp
  obtain ⟨cl, A, q1, S, q3, H, G⟩ := V
  obtain ⟨T', h', X', e', W', q⟩ := stJ X hx hZ eT A (j := j) (inb_of S hj) (g := mkF m pc ls (.long x :: .int j :: .ref a :: st)) rfl rfl (hb hby hd)
  exact own_go q (r T' h' X' e' W' (Arv.set A q1 S q3 H G rfl W' i hi hv))
theorem own_shrink {a : Addr} {k : ClassId} {ty : FieldType} {z : Int32} {d : Value} {N : Nat} (M : Nat) (V : Arv Z h a k ty z (List.replicate N d) d) : Arv Z h a k ty z (List.replicate M d) d := V.pad fun i => (pad_rep [] d M i).trans (pad_rep [] d N i).symm
theorem own_laload (pc' : Nat) (v : Value) (X : Stand p l e R s m args below meth c T locs cells slots) (hx : p.tables.exec = Jvm.exec) (hby : c.code = bytes) (hZ : Z.Warmed39 s.vm) (eT : T.heap = h) {a : Addr} {cA : ClassId} {n j : Int32} {vs : List Value} {dv : Value} (V : Arv Z h a cA .long n vs dv)
    (hd : decode bytes pc = .ok (.laload, 1)) (hp : pc + 1 = pc') (hj : ¬ j < 0 ∧ j < n) (hv : vs.getD j.toNatClampNeg dv = v)
    (r : Go p e below P (T.setTop (mkF m pc' ls (v :: st)))) : Go p e below P (T.setTop (mkF m pc ls (.int j :: .ref a :: st))) := by
  subst hp
  obtain ⟨cl, A, q1, S, q3, H, G⟩ := V
  exact own_go (fun t q => X.laload hx (j := j) (v := v) (by rw [eT]; exact A.1) (State.isArrayOf_alike hZ.alike A.2.1) A.2.2 (inb_of S hj) (H.at (inb_of S hj) hv) (g := mkF m pc ls (.int j :: .ref a :: st)) rfl rfl (hb hby hd) t q) r
/-- System.arraycopy of no element at all -/
theorem own_cp0 (pc' : Nat) (W : Nat) (X : Stand p l e R s m args below meth c T locs cells slots) (hx : p.tables.exec = Jvm.exec) (hby : c.code = bytes) (hZ : Z.Warmed39 s.vm) {own : String} {index : Nat} (hown : s.vm.findClass own = some m.cls)
    (w1 : (Cond.methodLink own index Jvm.Stand.acN).before a0 Z = true) (w2 : (Cond.native Jvm.Stand.acN).before a0 Z = true) (w3 : (Cond.static Jvm.Stand.acN).before a0 Z = true) (w4 : (Cond.initialized "java/lang/System").before a0 Z = true) (eT : T.heap = h)
    {a b : Addr} {k k' : ClassId} {z z' : Int32} {vs vd : List Value} {dv dd : Value} (A : Arv Z h a k .long z vs dv) (B : Arv Z h b k' .long z' vd dd) {n0 : Nat} (N : Fr n0 locs) (ge : n0 ≤ b) (hsz : ls.size = c.maxLocals) (hd : decode bytes pc = .ok (.invokestatic index, 3)) (hp : pc + 3 = pc') (hW : (st.map fun v => v.category).sum = W)
    (hf : 1 ≤ R.frames) (hlo : W + (nativeFrameWords "java/lang/System" "arraycopy" 5 + 11) ≤ R.locals)
    (r : ∀ T' h' L, Stand p l e R s m args below meth c T' L cells slots → T'.heap = h' → Fr n0 L → Keep h h' [b] → Arv Z h' b k' .long z' vd dd → Go p e below P (T'.setTop (mkF m pc' ls st))) : Go p e below P (T.setTop (mkF m pc ls (.int 0 :: .int 0 :: .ref b :: .int 0 :: .ref a :: st))) := by
  subst hp
  obtain ⟨T', h', L, X', e', N', K', V', q⟩ := cpA X hx hZ hown w1 w2 w3 w4 eT A B (us := []) (sp := 0) (dp := 0) (nn := 0) (Or.inl ⟨rfl, rfl⟩) (by decide) (by decide) (by decide) (Nat.zero_le _) (Nat.zero_le _) rfl (Nat.zero_le _) N ge (g := mkF m pc ls (.int 0 :: .int 0 :: .ref b :: .int 0 :: .ref a :: st)) rfl hsz rfl (hb hby hd) hf (W := W) (by show 2 * 0 + _ ≤ _; omega) hlo
  exact own_go q (r T' h' L X' e' N' K' V')
/-! calls -/
theorem own_spec (pc' : Nat) {h : Heap} {as' : Array Value} {rm : Room} {Q : Option Value → Heap → List Loc → Prop} {y : MethodName} {code' : ByteArray} {maxL : Nat}
    (hM : MetFree l y (head1 [Cond.code y code' maxL none] rm) (fun a U => a = as' ∧ Z.Warmed39 U.vm ∧ U.heap = h) (fun _ _ _ _ _ => True) (fun _ U o U' => ∃ v L, o = .returned v ∧ Q v U'.heap L ∧ FrameEnd U o U' L rm.cells rm.slots))
    (X : Stand p l e R s m args below meth c T locs cells slots) (hx : p.tables.exec = Jvm.exec) (hby : c.code = bytes) (hZ : Z.Warmed39 s.vm) {own : String} {index W : Nat} (hown : s.vm.findClass own = some m.cls)
    (hn : y.name = "<init>") (w1 : (Cond.methodLink own index y).before a0 Z = true) (w4 : (Cond.instanceMethod y).before a0 Z = true) (w5 : (Cond.initialized y.cls).before a0 Z = true) (w6 : (Cond.code y code' maxL none).before a0 Z = true)
    (hy : y.cls ≠ "java/lang/invoke/MethodHandle" ∧ y.cls ≠ "java/lang/invoke/VarHandle") (hsz : ls.size = c.maxLocals) (b : Addr) (argsL rest : List Value) {ps : List FieldType} {rt : Option FieldType} (hps : parseMethodDescriptor y.desc = some ⟨ps, rt⟩) (hlen : argsL.length = ps.length)
    (hd : decode bytes pc = .ok (.invokespecial index, 3)) (hp : pc + 3 = pc') (eT : T.heap = h) (hst : st = argsL.reverse ++ .ref b :: rest) (has : (.ref b :: argsL).toArray = as') (hW : (rest.map fun v => v.category).sum = W)
    (hf : rm.frames + 1 ≤ R.frames) (hl : W + (maxL + 11) + rm.locals ≤ R.locals) (hc : cells + rm.cells ≤ R.cells) (hs : slots + rm.slots ≤ R.slots)
    (r : ∀ v T' L, Stand p l e R s m args below meth c T' (locs ++ L) (cells + rm.cells) (slots + rm.slots) → Q v T'.heap L → Go p e below P (T'.setTop (mkF m pc' ls (v.toList ++ rest)))) : Go p e below P (T.setTop (mkF m pc ls st)) := by
  subst hp
  obtain ⟨v, _, ⟨T', L', k', n'⟩, -, X', ⟨L, hQ, l1, l2, l3⟩, q⟩ := X.specialBack hx hn hown (mvT hZ w1) (mvT hZ w4) (mvT hZ w6) hy (backOf (W := W) hM hZ w6 w5 hf hl) (g := mkF m pc ls st) rfl hsz (Steps.refl _) (a := b) (argsL := argsL) (rest := rest) (lenOf hps hlen) hst (by show 2 * 0 + _ ≤ _; omega) (hb hby hd) (fun _ _ => ⟨has, eT, hc, hs⟩)
  dsimp only [Pt.U, Pt.locs, Pt.cells, Pt.slots] at X' l1 l2 l3 q hQ
  subst l1 l2 l3
  exact own_go (fun t k => q.trans k) (r v T' L X' hQ)
theorem own_priv (pc' : Nat) {h : Heap} {as' : Array Value} {rm : Room} {Q : Option Value → Heap → List Loc → Prop} {y : MethodName} {code' : ByteArray} {maxL : Nat} {ret' : Option FieldType}
    (hM : MetFree l y (head1 [Cond.code y code' maxL ret'] rm) (fun a U => a = as' ∧ Z.Warmed39 U.vm ∧ U.heap = h) (fun _ _ _ _ _ => True) (fun _ U o U' => ∃ v L, o = .returned v ∧ Q v U'.heap L ∧ FrameEnd U o U' L rm.cells rm.slots))
    (X : Stand p l e R s m args below meth c T locs cells slots) (hx : p.tables.exec = Jvm.exec) (hby : c.code = bytes) (hZ : Z.Warmed39 s.vm) {own : String} {index W : Nat} (hown : s.vm.findClass own = some m.cls)
    (w1 : (Cond.methodLink own index y).before a0 Z = true) (w4 : (Cond.instanceMethod y).before a0 Z = true) (wp : (Cond.privateMethod y).before a0 Z = true) {y2 : MethodName} {C2 : String} (wsel : (Cond.selects C2 y2 y2).before a0 Z = true) (w5 : (Cond.initialized y.cls).before a0 Z = true) (w6 : (Cond.code y code' maxL ret').before a0 Z = true)
    (hy2 : y2.cls = y.cls) (hy : y.cls ≠ "java/lang/invoke/MethodHandle" ∧ y.cls ≠ "java/lang/invoke/VarHandle") (hsz : ls.size = c.maxLocals) (b : Addr) (argsL rest : List Value) {ps : List FieldType} {rt : Option FieldType} (hps : parseMethodDescriptor y.desc = some ⟨ps, rt⟩) (hlen : argsL.length = ps.length)
    (hd : decode bytes pc = .ok (.invokevirtual index, 3)) (hp : pc + 3 = pc') (eT : T.heap = h) {C : String} (E : Exa Z h b C) (hst : st = argsL.reverse ++ .ref b :: rest) (has : (.ref b :: argsL).toArray = as') (hW : (rest.map fun v => v.category).sum = W)
    (hf : rm.frames + 1 ≤ R.frames) (hl : W + (maxL + 11) + rm.locals ≤ R.locals) (hc : cells + rm.cells ≤ R.cells) (hs : slots + rm.slots ≤ R.slots)
    (r : ∀ v T' L, Stand p l e R s m args below meth c T' (locs ++ L) (cells + rm.cells) (slots + rm.slots) → Q v T'.heap L → Go p e below P (T'.setTop (mkF m pc' ls (v.toList ++ rest)))) : Go p e below P (T.setTop (mkF m pc ls st)) := by
  subst hp
  have hpa : s.PrivateAt y := Cond.privateMethod_at (mvP hZ wp (args := #[]))
  have hsel : (Cond.selects y.cls y y).before args s = true := by
    obtain ⟨c2, r2, m2, q1, q2, q3, q4, kP, hkP, hkPi⟩ := Cond.selects_spec (mvT (args := args) hZ wsel)
    obtain ⟨kr, hkr, hni⟩ := notFace_of_selects (mvT (args := args) hZ wsel) _ q3
    have hc2 := findClass_of_methodNamed q3
    rw [hy2] at hc2
    exact selects_self_of_private hc2 hkr hni hpa (mvT hZ w4) hy
  obtain ⟨cq, q1, q2⟩ := E.cell
  obtain ⟨v, _, ⟨T', L', k', n'⟩, -, X', ⟨L, hQ, l1, l2, l3⟩, q⟩ := X.privateBack hx hown (mvT hZ w1) (mvT hZ w4) hsel hpa (mvT hZ w6) hy (backOf (W := W) hM hZ w6 w5 hf hl) (g := mkF m pc ls st) rfl hsz (Steps.refl _) (a := b) (by rw [eT]; exact q1) q2 (argsL := argsL) (rest := rest) (lenOf hps hlen) hst (by show 2 * 0 + _ ≤ _; omega) (hb hby hd) (fun _ _ => ⟨has, eT, hc, hs⟩)
  dsimp only [Pt.U, Pt.locs, Pt.cells, Pt.slots] at X' l1 l2 l3 q hQ
  subst l1 l2 l3
  exact own_go (fun t k => q.trans k) (r v T' L X' hQ)
theorem own_face (pc' : Nat) {h : Heap} {as' : Array Value} {rm : Room} {Q : Option Value → Heap → List Loc → Prop} {xi y : MethodName} {code' : ByteArray} {maxL : Nat} {ret' : Option FieldType}
    (hM : MetFree l y (head1 [Cond.code y code' maxL ret'] rm) (fun a U => a = as' ∧ Z.Warmed39 U.vm ∧ U.heap = h) (fun _ _ _ _ _ => True) (fun _ U o U' => ∃ v L, o = .returned v ∧ Q v U'.heap L ∧ FrameEnd U o U' L rm.cells rm.slots))
    (X : Stand p l e R s m args below meth c T locs cells slots) (hx : p.tables.exec = Jvm.exec) (hby : c.code = bytes) (hZ : Z.Warmed39 s.vm) {own C : String} {index count W : Nat} (hown : s.vm.findClass own = some m.cls)
    (w1 : (Cond.methodLink own index xi).before a0 Z = true) (w2 : (Cond.declares xi).before a0 Z = true) (w3 : ∀ A, (Cond.interfaceMethod xi.cls xi.cls xi.name xi.desc).before A s = true) (w4 : (Cond.selects C xi y).before a0 Z = true) (w5 : (Cond.instanceMethod y).before a0 Z = true) (w6 : (Cond.publicMethod y).before a0 Z = true) (w7 : (Cond.unhidden C xi.name xi.desc).before a0 Z = true) (w8 : (Cond.castable C xi.cls).before a0 Z = true) (w9 : (Cond.initialized y.cls).before a0 Z = true) (w10 : (Cond.code y code' maxL ret').before a0 Z = true)
    (hy : xi.cls ≠ "java/lang/invoke/MethodHandle" ∧ xi.cls ≠ "java/lang/invoke/VarHandle") (hsz : ls.size = c.maxLocals) (b : Addr) (argsL rest : List Value) {ps : List FieldType} {rt : Option FieldType} (hps : parseMethodDescriptor xi.desc = some ⟨ps, rt⟩) (hlen : argsL.length = ps.length)
    (hd : decode bytes pc = .ok (.invokeinterface index count, 5)) (hp : pc + 5 = pc') (eT : T.heap = h) (E : Exa Z h b C) (hst : st = argsL.reverse ++ .ref b :: rest) (has : (.ref b :: argsL).toArray = as') (hW : (rest.map fun v => v.category).sum = W)
    (hf : rm.frames + 1 ≤ R.frames) (hl : W + (maxL + 11) + rm.locals ≤ R.locals) (hc : cells + rm.cells ≤ R.cells) (hs : slots + rm.slots ≤ R.slots)
    (r : ∀ v T' L, Stand p l e R s m args below meth c T' (locs ++ L) (cells + rm.cells) (slots + rm.slots) → Q v T'.heap L → Go p e below P (T'.setTop (mkF m pc' ls (v.toList ++ rest)))) : Go p e below P (T.setTop (mkF m pc ls st)) := by
  subst hp
  obtain ⟨cq, kq, q1, q2, q3⟩ := isOf (s := s) (T := T) hZ eT E
  obtain ⟨v, _, ⟨T', L', k', n'⟩, -, X', ⟨L, hQ, l1, l2, l3⟩, q⟩ := X.interfaceBack hx hown (mvT hZ w1) (mvT hZ w2) (w3 args) (mvT hZ w4) (mvT hZ w5) (mvT hZ w6) (mvT hZ w7) (mvT hZ w8) hy (backOf (W := W) hM hZ w10 w9 hf hl) q1 q2 q3 (g := mkF m pc ls st) rfl hsz (Steps.refl _) (argsL := argsL) (rest := rest) (lenOf hps hlen) hst (by show 2 * 0 + _ ≤ _; omega) (hb hby hd) (fun _ _ => ⟨has, eT, hc, hs⟩)
  dsimp only [Pt.U, Pt.locs, Pt.cells, Pt.slots] at X' l1 l2 l3 q hQ
  subst l1 l2 l3
  exact own_go (fun t k => q.trans k) (r v T' L X' hQ)
theorem own_virtUp (pc' : Nat) {h : Heap} {as' : Array Value} {rm : Room} {Q : Option Value → Heap → List Loc → Prop} {y z : MethodName} {code' : ByteArray} {maxL : Nat} {ret' : Option FieldType} (owner : String)
    (hM : MetFree l z (head1 [Cond.code z code' maxL ret'] rm) (fun a U => a = as' ∧ Z.Warmed39 U.vm ∧ U.heap = h) (fun _ _ _ _ _ => True) (fun _ U o U' => ∃ v L, o = .returned v ∧ Q v U'.heap L ∧ FrameEnd U o U' L rm.cells rm.slots))
    (X : Stand p l e R s m args below meth c T locs cells slots) (hx : p.tables.exec = Jvm.exec) (hby : c.code = bytes) (hZ : Z.Warmed39 s.vm) {own C : String} {index W : Nat} (hown : s.vm.findClass own = some m.cls)
    (w1 : (Cond.methodLink own index y).before a0 Z = true) (wsm : (Cond.sameMethod y.cls owner y.name y.desc).before a0 Z = true) (w2 : (Cond.declares ⟨owner, y.name, y.desc⟩).before a0 Z = true) (ho : owner ≠ "java/lang/invoke/MethodHandle" ∧ owner ≠ "java/lang/invoke/VarHandle") (w3 : (Cond.selects C y z).before a0 Z = true) (w4 : (Cond.instanceMethod z).before a0 Z = true) (w5 : (Cond.initialized z.cls).before a0 Z = true) (w6 : (Cond.code z code' maxL ret').before a0 Z = true)
    (hsz : ls.size = c.maxLocals) (b : Addr) (argsL rest : List Value) {ps : List FieldType} {rt : Option FieldType} (hps : parseMethodDescriptor y.desc = some ⟨ps, rt⟩) (hlen : argsL.length = ps.length)
    (hd : decode bytes pc = .ok (.invokevirtual index, 3)) (hp : pc + 3 = pc') (eT : T.heap = h) (E : Exa Z h b C) (hst : st = argsL.reverse ++ .ref b :: rest) (has : (.ref b :: argsL).toArray = as') (hW : (rest.map fun v => v.category).sum = W)
    (hf : rm.frames + 1 ≤ R.frames) (hl : W + (maxL + 11) + rm.locals ≤ R.locals) (hc : cells + rm.cells ≤ R.cells) (hs : slots + rm.slots ≤ R.slots)
    (r : ∀ v T' L, Stand p l e R s m args below meth c T' (locs ++ L) (cells + rm.cells) (slots + rm.slots) → Q v T'.heap L → Go p e below P (T'.setTop (mkF m pc' ls (v.toList ++ rest)))) : Go p e below P (T.setTop (mkF m pc ls st)) := by
  subst hp
  obtain ⟨cq, kq, q1, q2, q3⟩ := isOf (s := s) (T := T) hZ eT E
  obtain ⟨v, _, ⟨T', L', k', n'⟩, -, X', ⟨L, hQ, l1, l2, l3⟩, q⟩ := X.virtualBackUp hx hown (mvT hZ w1) (mvT hZ wsm) (mvT hZ w2) ho (mvT hZ w3) (mvT hZ w4) (backOf (W := W) hM hZ w6 w5 hf hl) q1 q3 (g := mkF m pc ls st) rfl hsz (Steps.refl _) (argsL := argsL) (rest := rest) (lenOf hps hlen) hst (by show 2 * 0 + _ ≤ _; omega) (hb hby hd) (fun _ _ => ⟨has, eT, hc, hs⟩)
  dsimp only [Pt.U, Pt.locs, Pt.cells, Pt.slots] at X' l1 l2 l3 q hQ
  subst l1 l2 l3
  exact own_go (fun t k => q.trans k) (r v T' L X' hQ)
/-! the wide frame: a String constant may be booked -/
theorem own_ldcS (pc' : Nat) (n : Nat) {vm0 : Vm} (X : Stand p l e R (s.setVm vm0) m args below meth c T locs cells slots) (hx : p.tables.exec = Jvm.exec) (hby : c.code = bytes) (hZ : Z.Warmed39 (s.setVm vm0).vm) {own text : String} {index : Nat} (hown : (s.setVm vm0).vm.findClass own = some m.cls) (w : (Cond.stringLink own index text).before a0 Z = true) (wS : ∀ a ∈ Bundle.stringAtoms, a.before a0 Z = true)
    (eT : T.heap = h) {k0 : Nat} (hS : s.Since vm0 k0) (hk : k0 ≤ h.size) (hd : decode bytes pc = .ok (.ldc index, 2)) (hp : pc + 2 = pc') (hn : 4 * text.toList.length ≤ n) (hbig : n ≤ 536870912) (hc : cells + 2 ≤ R.cells) (hl : slots + (n + 4) ≤ R.slots)
    (r : ∀ (a : Addr) (T' : State) (h' : Heap) (k1 : Nat), Stand p l e R (s.setVm T'.vm) m args below meth c T' locs (cells + 2) (slots + (n + 4)) → T'.heap = h' → Ext h h' → s.Since T'.vm k1 → k1 ≤ h'.size → Z.Warmed39 (s.setVm T'.vm).vm → (s.setVm T'.vm).vm.findClass own = some m.cls → Go p e below P (T'.setTop (mkF m pc' ls (.ref a :: st)))) : Go p e below P (T.setTop (mkF m pc ls st)) := by
  subst hp
  obtain ⟨a, T', h', k1, X', e', E', S', k', Z', o', q⟩ := ldcS X hx hZ hown w wS eT hS hk (g := mkF m pc ls st) rfl (hb hby hd) hn hbig hc hl
  exact own_go q (r a T' h' k1 X' e' E' S' k' Z' o')
theorem own_specS (pc' : Nat) {vm0 : Vm} {h : Heap} {as' : Array Value} {rm : Room} {Q : Option Value → Heap → List Loc → Prop} {y : MethodName} {code' : ByteArray} {maxL : Nat}
    (hM : MetFree l y (head1 [Cond.code y code' maxL none] rm) (fun a U => a = as' ∧ Z.Warmed39 U.vm ∧ U.heap = h) (fun _ _ _ _ _ => True) (fun _ U o U' => ∃ v L, o = .returned v ∧ Q v U'.heap L ∧ ReturnedEndW U o U' L rm.cells rm.slots))
    (X : Stand p l e R (s.setVm vm0) m args below meth c T locs cells slots) (hx : p.tables.exec = Jvm.exec) (hby : c.code = bytes) (hZ : Z.Warmed39 (s.setVm vm0).vm) {own : String} {index W : Nat} (hown : (s.setVm vm0).vm.findClass own = some m.cls)
    (hn : y.name = "<init>") (w1 : (Cond.methodLink own index y).before a0 Z = true) (w4 : (Cond.instanceMethod y).before a0 Z = true) (w5 : (Cond.initialized y.cls).before a0 Z = true) (w6 : (Cond.code y code' maxL none).before a0 Z = true)
    (hy : y.cls ≠ "java/lang/invoke/MethodHandle" ∧ y.cls ≠ "java/lang/invoke/VarHandle") (hsz : ls.size = c.maxLocals) (b : Addr) (argsL rest : List Value) {ps : List FieldType} {rt : Option FieldType} (hps : parseMethodDescriptor y.desc = some ⟨ps, rt⟩) (hlen : argsL.length = ps.length)
    (hd : decode bytes pc = .ok (.invokespecial index, 3)) (hp : pc + 3 = pc') (eT : T.heap = h) (hst : st = argsL.reverse ++ .ref b :: rest) (has : (.ref b :: argsL).toArray = as') (hW : (rest.map fun v => v.category).sum = W)
    (hf : rm.frames + 1 ≤ R.frames) (hl : W + (maxL + 11) + rm.locals ≤ R.locals) (hc : cells + rm.cells ≤ R.cells) (hs : slots + rm.slots ≤ R.slots) {k0 : Nat} (hS : s.Since vm0 k0) (hk : k0 ≤ h.size)
    (r : ∀ v T' L, Stand p l e R (s.setVm T'.vm) m args below meth c T' (locs ++ L) (cells + rm.cells) (slots + rm.slots) → Q v T'.heap L → s.Since T'.vm T'.heap.size → Z.Warmed39 (s.setVm T'.vm).vm → (s.setVm T'.vm).vm.findClass own = some m.cls → Go p e below P (T'.setTop (mkF m pc' ls (v.toList ++ rest)))) : Go p e below P (T.setTop (mkF m pc ls st)) := by
  subst hp
  obtain ⟨v, _, ⟨T', L', k', n'⟩, -, X', S', g', ⟨L, hQ, l1, l2, l3⟩, q⟩ := X.specialBackS hx hn hown (mvT hZ w1) (mvT hZ w4) (mvT hZ w6) hy (backOfS (W := W) hM hZ w6 w5 hf hl) (g := mkF m pc ls st) rfl hsz (Steps.refl _) (a := b) (argsL := argsL) (rest := rest) (lenOf hps hlen) hst (by show 2 * 0 + _ ≤ _; omega) (hb hby hd) (fun _ _ => ⟨has, eT, hc, hs⟩)
  dsimp only [Pt.U, Pt.locs, Pt.cells, Pt.slots] at X' l1 l2 l3 q hQ S' g'
  subst l1 l2 l3
  have hk' : k0 ≤ T.heap.size := by rw [eT]; exact hk
  have S2 : s.Since T'.vm T'.heap.size := foldS hS hk' S' g'
  refine own_go (fun t k => q.trans k) (r v T' L X' hQ S2 (State.Warmed39.trans (t := s.setVm vm0) hZ S'.1) ?_)
  rw [show (s.setVm T'.vm).vm = T'.vm from rfl, S'.1.alike.findClass]; exact hown
theorem own_retW {Q : Option Value → Heap → List Loc → Prop} {K N : Nat} {vm0 : Vm} {t : FieldType} {w : Value} {i : Instr} (X : Stand p l e R (s.setVm vm0) m args below meth c T locs cells slots) (hx : p.tables.exec = Jvm.exec) (hby : c.code = bytes) (hret : meth.sig.returnType = some t) (hlocks : meth.locks = false) {k0 : Nat} (hS : s.Since vm0 k0) (hk : k0 ≤ T.heap.size)
    (hd : decode bytes pc = .ok (i, 1)) (hn : narrow t w = w)
    (hi : (i = .ireturn ∧ (t = .int ∨ t = .boolean ∨ t = .byte ∨ t = .char ∨ t = .short) ∧ ∃ z, w = .int z) ∨ (i = .lreturn ∧ t = .long ∧ ∃ z, w = .long z) ∨ (i = .dreturn ∧ t = .double ∧ ∃ z, w = .double z) ∨ (i = .freturn ∧ t = .float ∧ ∃ z, w = .float z) ∨ (i = .areturn ∧ t.isReference = true ∧ w.isRef = true))
    (hK : cells ≤ K) (hN : slots ≤ N) (hQ : Q (some w) T.heap locs) :
    Go p e below (fun s₂ o => s₂.status = .running ∧ Ended s₂ below o ∧ ∃ v L, o = .returned v ∧ Q v s₂.heap L ∧ ReturnedEndW s o s₂ L K N) (T.setTop (mkF m pc ls (w :: st))) := by
  obtain ⟨fs, hr, hrun, hended, r1, r2, r3, r4⟩ := X.leaveW hS hk (v := some w) (fun h => by rw [hret] at h; cases h) hlocks
  exact ⟨_, _, retOut X hx hret hn hi (hb hby hd) hr, hrun, hended, _, _, rfl, hQ, r1, r2, r3, r4.mono hK hN⟩
theorem own_ret0W {Q : Option Value → Heap → List Loc → Prop} {K N : Nat} {vm0 : Vm} (X : Stand p l e R (s.setVm vm0) m args below meth c T locs cells slots) (hx : p.tables.exec = Jvm.exec) (hby : c.code = bytes) (hret : meth.sig.returnType = none) (hlocks : meth.locks = false) {k0 : Nat} (hS : s.Since vm0 k0) (hk : k0 ≤ T.heap.size)
    (hd : decode bytes pc = .ok (.return_, 1)) (hK : cells ≤ K) (hN : slots ≤ N) (hQ : Q none T.heap locs) :
    Go p e below (fun s₂ o => s₂.status = .running ∧ Ended s₂ below o ∧ ∃ v L, o = .returned v ∧ Q v s₂.heap L ∧ ReturnedEndW s o s₂ L K N) (T.setTop (mkF m pc ls [])) := by
  obtain ⟨fs, hr, hrun, hended, r1, r2, r3, r4⟩ := X.leaveW hS hk (v := none) (fun _ => rfl) hlocks
  exact ⟨_, _, X.returnOut hx hret (hb hby hd) hr, hrun, hended, _, _, rfl, hQ, r1, r2, r3, r4.mono hK hN⟩
end Own2
/-! small facts on ints -/
theorem own_mask_nn (x : Int32) : 0 ≤ (x &&& 2147483647).toInt := by
  have h : (x &&& 2147483647).toInt = x.toInt % 2 ^ 31 := Jvm.Kit.i32_mask x 2147483647 (k := 31) (by decide) (by decide)
  omega
theorem own_mod_toInt (x y : Int32) (hy : 0 < y.toInt) (hx : 0 ≤ x.toInt) : (x % y).toInt = x.toInt % y.toInt := Jvm.Kit.i32_rem_nonneg hx
theorem own_and_toInt1 (x : Int32) : (x &&& 1).toInt = x.toInt % 2 := Jvm.Kit.i32_mask x 1 (k := 1) (by decide) (by decide)
theorem own_and_toInt3 (x : Int32) : (x &&& 3).toInt = x.toInt % 4 := Jvm.Kit.i32_mask x 3 (k := 2) (by decide) (by decide)
theorem own_and_toInt7 (x : Int32) : (x &&& 7).toInt = x.toInt % 8 := Jvm.Kit.i32_mask x 7 (k := 3) (by decide) (by decide)
theorem own_mkI (x m : Int32) (k : Nat) (hk : k < 32) (hm : m.toBitVec.toNat = 2 ^ k - 1) : 0 ≤ (x &&& m).toInt ∧ (x &&& m).toInt ≤ m.toInt := by
  have h1 := Jvm.Kit.i32_mask x m hk hm
  have h2 : m.toInt = 2 ^ k - 1 := by
    have h3 : m.toInt = (m.toBitVec).toInt := rfl
    have h4 : (2 : Nat) ^ k ≤ 2 ^ 31 := Nat.pow_le_pow_right (by decide) (by omega)
    rw [h3, BitVec.toInt_eq_toNat_cond, hm]
    have h5 : 0 < (2 : Nat) ^ k := Nat.pow_pos (by decide)
    have h6 : ((2 ^ k - 1 : Nat) : Int) = (2 : Int) ^ k - 1 := by
      rw [Int.natCast_sub h5]; simp
    split
    · exact h6
    · omega
  have h7 : (0 : Int) < 2 ^ k := Int.pow_pos (by decide)
  have h8 := Int.emod_nonneg x.toInt (Int.ne_of_gt h7)
  have h9 := Int.emod_lt_of_pos x.toInt h7
  omega
theorem own_mkJ (x m : Int64) (k : Nat) (hk : k < 64) (hm : m.toBitVec.toNat = 2 ^ k - 1) : 0 ≤ (x &&& m).toInt ∧ (x &&& m).toInt ≤ m.toInt := by
  have h1 := Jvm.Kit.i64_mask x m hk hm
  have h2 : m.toInt = 2 ^ k - 1 := by
    have h3 : m.toInt = (m.toBitVec).toInt := rfl
    have h4 : (2 : Nat) ^ k ≤ 2 ^ 63 := Nat.pow_le_pow_right (by decide) (by omega)
    rw [h3, BitVec.toInt_eq_toNat_cond, hm]
    have h5 : 0 < (2 : Nat) ^ k := Nat.pow_pos (by decide)
    have h6 : ((2 ^ k - 1 : Nat) : Int) = (2 : Int) ^ k - 1 := by
      rw [Int.natCast_sub h5]; simp
    split
    · exact h6
    · omega
  have h7 : (0 : Int) < 2 ^ k := Int.pow_pos (by decide)
  have h8 := Int.emod_nonneg x.toInt (Int.ne_of_gt h7)
  have h9 := Int.emod_lt_of_pos x.toInt h7
  omega
theorem own_rngI (x : Int32) : -2 ^ 31 ≤ x.toInt ∧ x.toInt < 2 ^ 31 := ⟨Int32.le_toInt x, Int32.toInt_lt x⟩
theorem own_rngJ (x : Int64) : -2 ^ 63 ≤ x.toInt ∧ x.toInt < 2 ^ 63 := ⟨Int64.le_toInt x, Int64.toInt_lt x⟩
theorem own_rmI {x : Int32} (hx : 0 ≤ x.toInt) (y : Int32) (hy : 0 < y.toInt) : 0 ≤ (x % y).toInt ∧ (x % y).toInt ≤ y.toInt - 1 := by
  rw [Jvm.Kit.i32_rem_nonneg hx]
  have h8 := Int.emod_nonneg x.toInt (Int.ne_of_gt hy)
  have h9 := Int.emod_lt_of_pos x.toInt hy
  omega
theorem own_rmJ (x y : Int64) (hy : 0 < y.toInt) : -(y.toInt - 1) ≤ (x - (x / y) * y).toInt ∧ (x - (x / y) * y).toInt ≤ y.toInt - 1 := by
  rw [Jvm.Kit.i64_rem]
  have h1 := Int.tmod_lt_of_pos x.toInt hy
  have h2 := Int.lt_tmod_of_pos x.toInt hy
  omega
theorem own_dvI {x : Int32} (hx : 0 ≤ x.toInt) (y : Int32) (hy : 0 < y.toInt) : (x / y).toInt = x.toInt / y.toInt := by
  rw [Jvm.Kit.i32_div (by omega), Int.tdiv_eq_ediv_of_nonneg hx]
theorem own_bdI {x a b : Int32} (h1 : ¬ (x < a)) (h2 : ¬ (b < x)) : a.toInt ≤ x.toInt ∧ x.toInt ≤ b.toInt := by
  rw [Int32.lt_iff_toInt_lt] at h1 h2
  omega
theorem own_bdJ {x a b : Int64} (h1 : ¬ (x < a)) (h2 : ¬ (b < x)) : a.toInt ≤ x.toInt ∧ x.toInt ≤ b.toInt := by
  rw [Int64.lt_iff_toInt_lt] at h1 h2
  omega
theorem own_and1 (x : Int32) : x &&& 1 = 0 ∨ x &&& 1 = 1 := by
  have h1 : (x &&& 1).toInt = x.toInt % 2 := own_and_toInt1 x
  have h3 : ∀ y : Int32, ∀ k : Int32, y.toInt = k.toInt → y = k := fun _ _ q => Int32.toInt_inj.mp q
  have h4 : x.toInt % 2 = 0 ∨ x.toInt % 2 = 1 := by omega
  rcases h4 with h4 | h4
  · exact Or.inl (h3 _ _ (h1.trans h4))
  · exact Or.inr (h3 _ _ (h1.trans h4))
def own_W (Z : State) (w_EXCLUSIVE w_SHARED : Addr) : Prop := Sta Z Z.heap "com/example/bare_turnstile/bareturnstile/EntryMode" "EXCLUSIVE" "Lcom/example/bare_turnstile/bareturnstile/EntryMode;" (.ref w_EXCLUSIVE) ∧ Exa Z Z.heap w_EXCLUSIVE "com/example/bare_turnstile/bareturnstile/EntryMode" ∧ Sta Z Z.heap "com/example/bare_turnstile/bareturnstile/EntryMode" "SHARED" "Lcom/example/bare_turnstile/bareturnstile/EntryMode;" (.ref w_SHARED) ∧ Exa Z Z.heap w_SHARED "com/example/bare_turnstile/bareturnstile/EntryMode"
theorem own_wS {Z : State} {a0 : Array Value} (hw : ∀ d ∈ tables_1, d.before a0 Z = true) : ∀ a ∈ Bundle.stringAtoms, a.before a0 Z = true := by
  intro d hd
  simp only [Bundle.stringAtoms, List.mem_cons, List.not_mem_nil, or_false] at hd
  rcases hd with rfl | rfl | rfl | rfl | rfl | rfl | rfl
  · exact (own_w hw 19 rfl)
  · exact (own_w hw 20 rfl)
  · exact (own_w hw 21 rfl)
  · exact (own_w hw 22 rfl)
  · exact (own_w hw 23 rfl)
  · exact (own_w hw 24 rfl)
  · exact (own_w hw 25 rfl)
theorem d1_0 : decode prog_19_method_1_code 0 = .ok (.aload_n 0, 1) := by decide +kernel
theorem d1_1 : decode prog_19_method_1_code 1 = .ok (.invokespecial 1, 3) := by decide +kernel
theorem d1_4 : decode prog_19_method_1_code 4 = .ok (.lload_n 1, 1) := by decide +kernel
theorem d1_5 : decode prog_19_method_1_code 5 = .ok (.lconst 1, 1) := by decide +kernel
theorem d1_6 : decode prog_19_method_1_code 6 = .ok (.lcmp, 1) := by decide +kernel
theorem d1_7 : decode prog_19_method_1_code 7 = .ok (.ifCond .ge 17, 3) := by decide +kernel
theorem d1_10 : decode prog_19_method_1_code 10 = .ok (.new 7, 3) := by decide +kernel
theorem d1_24 : decode prog_19_method_1_code 24 = .ok (.iload_n 3, 1) := by decide +kernel
theorem d1_25 : decode prog_19_method_1_code 25 = .ok (.ifCond .ge 17, 3) := by decide +kernel
theorem d1_28 : decode prog_19_method_1_code 28 = .ok (.new 7, 3) := by decide +kernel
theorem d1_42 : decode prog_19_method_1_code 42 = .ok (.aload_n 0, 1) := by decide +kernel
theorem d1_43 : decode prog_19_method_1_code 43 = .ok (.lload_n 1, 1) := by decide +kernel
theorem d1_44 : decode prog_19_method_1_code 44 = .ok (.putfield 19, 3) := by decide +kernel
theorem d1_47 : decode prog_19_method_1_code 47 = .ok (.aload_n 0, 1) := by decide +kernel
theorem d1_48 : decode prog_19_method_1_code 48 = .ok (.iload_n 3, 1) := by decide +kernel
theorem d1_49 : decode prog_19_method_1_code 49 = .ok (.putfield 25, 3) := by decide +kernel
theorem d1_52 : decode prog_19_method_1_code 52 = .ok (.aload_n 0, 1) := by decide +kernel
theorem d1_53 : decode prog_19_method_1_code 53 = .ok (.aload 4, 2) := by decide +kernel
theorem d1_55 : decode prog_19_method_1_code 55 = .ok (.ldc 29, 2) := by decide +kernel
theorem d1_57 : decode prog_19_method_1_code 57 = .ok (.invokestatic 31, 3) := by decide +kernel
theorem d3_0 : decode jdk_31_method_11_code 0 = .ok (.aload_n 0, 1) := by decide +kernel
theorem d3_1 : decode jdk_31_method_11_code 1 = .ok (.ifnonnull 12, 3) := by decide +kernel
theorem d3_13 : decode jdk_31_method_11_code 13 = .ok (.aload_n 0, 1) := by decide +kernel
theorem d3_14 : decode jdk_31_method_11_code 14 = .ok (.areturn, 1) := by decide +kernel
theorem ef_3 (m : MethodId) (r0 : Addr) (r1 : Addr) : entryFrame m #[(.ref r0), (.ref r1)] 2 = mkF m 0 #[oA r0, oA r1] [] := by first | (simp [entryFrame, mkF, argsToLocals, Value.category]; done) | rfl
theorem pn_0 : plainName "java/util/Objects" = true := by first | (simp [plainName, overriddenIn]; done) | decide +kernel
theorem pd_0 : parseMethodDescriptor "(Ljava/lang/Object;Ljava/lang/String;)Ljava/lang/Object;" = some ⟨[(.object "java/lang/Object"), (.object "java/lang/String")], some (.object "java/lang/Object")⟩ := by decide +kernel
theorem d1_60 : decode prog_19_method_1_code 60 = .ok (.checkcast 37, 3) := by decide +kernel
theorem d1_63 : decode prog_19_method_1_code 63 = .ok (.putfield 39, 3) := by decide +kernel
theorem d1_66 : decode prog_19_method_1_code 66 = .ok (.return_, 1) := by decide +kernel
theorem ef_1 (m : MethodId) (r0 : Addr) (q1 : Int64) (x2 : Int32) (r3 : Addr) : entryFrame m #[(.ref r0), (.long q1), (.int x2), (.ref r3)] 5 = mkF m 0 #[oA r0, oJ q1, oS, oI x2, oA r3] [] := by first | (simp [entryFrame, mkF, argsToLocals, Value.category]; done) | rfl
theorem pn_1 : plainName "com/example/bare_turnstile/bareturnstile/Ticket" = true := by first | (simp [plainName, overriddenIn]; done) | decide +kernel
theorem pd_1 : parseMethodDescriptor "(JILcom/example/bare_turnstile/bareturnstile/EntryMode;)V" = some ⟨[.long, .int, (.object "com/example/bare_turnstile/bareturnstile/EntryMode")], none⟩ := by decide +kernel
theorem d4_0 : decode prog_19_method_5_code 0 = .ok (.aload_n 0, 1) := by decide +kernel
theorem d4_1 : decode prog_19_method_5_code 1 = .ok (.getfield 19, 3) := by decide +kernel
theorem d4_4 : decode prog_19_method_5_code 4 = .ok (.aload_n 1, 1) := by decide +kernel
theorem d4_5 : decode prog_19_method_5_code 5 = .ok (.getfield 19, 3) := by decide +kernel
theorem d4_8 : decode prog_19_method_5_code 8 = .ok (.lcmp, 1) := by decide +kernel
theorem d4_9 : decode prog_19_method_5_code 9 = .ok (.ifCond .lt 26, 3) := by decide +kernel
theorem d4_35 : decode prog_19_method_5_code 35 = .ok (.iconst 1, 1) := by decide +kernel
theorem d4_36 : decode prog_19_method_5_code 36 = .ok (.goto 4, 3) := by decide +kernel
theorem d4_40 : decode prog_19_method_5_code 40 = .ok (.ireturn, 1) := by decide +kernel
theorem ef_4 (m : MethodId) (r0 : Addr) (r1 : Addr) : entryFrame m #[(.ref r0), (.ref r1)] 2 = mkF m 0 #[oA r0, oA r1] [] := by first | (simp [entryFrame, mkF, argsToLocals, Value.category]; done) | rfl
theorem d4_12 : decode prog_19_method_5_code 12 = .ok (.aload_n 0, 1) := by decide +kernel
theorem d4_13 : decode prog_19_method_5_code 13 = .ok (.getfield 19, 3) := by decide +kernel
theorem d4_16 : decode prog_19_method_5_code 16 = .ok (.aload_n 1, 1) := by decide +kernel
theorem d4_17 : decode prog_19_method_5_code 17 = .ok (.getfield 19, 3) := by decide +kernel
theorem d4_20 : decode prog_19_method_5_code 20 = .ok (.lcmp, 1) := by decide +kernel
theorem d4_21 : decode prog_19_method_5_code 21 = .ok (.ifCond .ne 18, 3) := by decide +kernel
theorem d4_24 : decode prog_19_method_5_code 24 = .ok (.aload_n 0, 1) := by decide +kernel
theorem d4_25 : decode prog_19_method_5_code 25 = .ok (.getfield 25, 3) := by decide +kernel
theorem d4_28 : decode prog_19_method_5_code 28 = .ok (.aload_n 1, 1) := by decide +kernel
theorem d4_29 : decode prog_19_method_5_code 29 = .ok (.getfield 25, 3) := by decide +kernel
theorem d4_32 : decode prog_19_method_5_code 32 = .ok (.if_icmp .ge 7, 3) := by decide +kernel
theorem d4_39 : decode prog_19_method_5_code 39 = .ok (.iconst 0, 1) := by decide +kernel
theorem pd_2 : parseMethodDescriptor "(Lcom/example/bare_turnstile/bareturnstile/Ticket;)Z" = some ⟨[(.object "com/example/bare_turnstile/bareturnstile/Ticket")], some .boolean⟩ := by decide +kernel
theorem d5_0 : decode method_2_code 0 = .ok (.lload_n 0, 1) := by decide +kernel
theorem d5_1 : decode method_2_code 1 = .ok (.lload_n 3, 1) := by decide +kernel
theorem d5_2 : decode method_2_code 2 = .ok (.lcmp, 1) := by decide +kernel
theorem d5_3 : decode method_2_code 3 = .ok (.ifCond .ge 5, 3) := by decide +kernel
theorem d5_6 : decode method_2_code 6 = .ok (.iconst 1, 1) := by decide +kernel
theorem d5_7 : decode method_2_code 7 = .ok (.ireturn, 1) := by decide +kernel
theorem ef_5 (m : MethodId) (q0 : Int64) (x1 : Int32) (q2 : Int64) (x3 : Int32) : entryFrame m #[(.long q0), (.int x1), (.long q2), (.int x3)] 6 = mkF m 0 #[oJ q0, oS, oI x1, oJ q2, oS, oI x3] [] := by first | (simp [entryFrame, mkF, argsToLocals, Value.category]; done) | rfl
theorem pn_2 : plainName "com/example/bare_turnstile/bareturnstile/TicketIsBeforePinLaw" = true := by first | (simp [plainName, overriddenIn]; done) | decide +kernel
theorem d5_8 : decode method_2_code 8 = .ok (.lload_n 0, 1) := by decide +kernel
theorem d5_9 : decode method_2_code 9 = .ok (.lload_n 3, 1) := by decide +kernel
theorem d5_10 : decode method_2_code 10 = .ok (.lcmp, 1) := by decide +kernel
theorem d5_11 : decode method_2_code 11 = .ok (.ifCond .le 5, 3) := by decide +kernel
theorem d5_14 : decode method_2_code 14 = .ok (.iconst 0, 1) := by decide +kernel
theorem d5_15 : decode method_2_code 15 = .ok (.ireturn, 1) := by decide +kernel
theorem d5_16 : decode method_2_code 16 = .ok (.iload_n 2, 1) := by decide +kernel
theorem d5_17 : decode method_2_code 17 = .ok (.iload 5, 2) := by decide +kernel
theorem d5_19 : decode method_2_code 19 = .ok (.if_icmp .ge 5, 3) := by decide +kernel
theorem d5_22 : decode method_2_code 22 = .ok (.iconst 1, 1) := by decide +kernel
theorem d5_23 : decode method_2_code 23 = .ok (.ireturn, 1) := by decide +kernel
theorem d5_24 : decode method_2_code 24 = .ok (.iconst 0, 1) := by decide +kernel
theorem d5_25 : decode method_2_code 25 = .ok (.ireturn, 1) := by decide +kernel
theorem pd_3 : parseMethodDescriptor "(JIJI)Z" = some ⟨[.long, .int, .long, .int], some .boolean⟩ := by decide +kernel
theorem ef_0 (m : MethodId) (q0 : Int64) (x1 : Int32) (q2 : Int64) (x3 : Int32) (x4 : Int32) : entryFrame m #[(.long q0), (.int x1), (.long q2), (.int x3), (.int x4)] maxLocals = mkF m 0 #[oJ q0, oS, oI x1, oJ q2, oS, oI x3, oI x4, oU, oU, oU, oU, oU, oU, oU, oU, oU, oU, oU, oU] [] := by first | (simp [entryFrame, mkF, argsToLocals, Value.category, maxLocals]; done) | rfl
set_option maxRecDepth 65536 in
set_option maxHeartbeats 40000000 in
theorem rm3_1 (l : Launch) (Z : State) (a0 : Array Value) (hw : ∀ d ∈ tables_1, d.before a0 Z = true) (ws : List Jvm.Cond) (w_EXCLUSIVE w_SHARED : Addr) (W : own_W Z w_EXCLUSIVE w_SHARED) (c0 : Addr) (z0 : Addr) (h0 : Heap) (n0 : Nat) (O0 : Old Z n0 h0) (EZ_c0 : Exa Z Z.heap c0 "com/example/bare_turnstile/bareturnstile/EntryMode") :
    MetFree l (⟨"java/util/Objects", "requireNonNull", "(Ljava/lang/Object;Ljava/lang/String;)Ljava/lang/Object;"⟩ : MethodName) (head1 (Jvm.Cond.code (⟨"java/util/Objects", "requireNonNull", "(Ljava/lang/Object;Ljava/lang/String;)Ljava/lang/Object;"⟩ : MethodName) jdk_31_method_11_code 2 (some (.object "java/lang/Object")) :: ws) ({ frames := 0, cells := 0, slots := 0, locals := 0 } : Room)) (fun a U => a = #[(.ref c0), (.ref z0)] ∧ Z.Warmed39 U.vm ∧ U.heap = h0) (fun _ _ _ _ _ => True) (fun _ U o U' => ∃ v L, o = .returned v ∧ own_Q (some (.ref c0)) n0 h0 v U'.heap L ∧ FrameEnd U o U' L ({ frames := 0, cells := 0, slots := 0, locals := 0 } : Room).cells ({ frames := 0, cells := 0, slots := 0, locals := 0 } : Room).slots) := by
  refine MetFree.of_bodySF (plainFor_of_name pn_0) hisR ?_
  intro p e s m args below meth c s₁ Bd hml0 hP hK
  obtain ⟨rfl, hZ, hh⟩ := hP
  have hx := Bd.exec
  have hby := Bd.bytes
  have hml : c.maxLocals = 2 := hml0
  have hlk := BodyLoose.notSynchronized Bd
  have hret := Bd.returns
  have hown : s.vm.findClass "java/util/Objects" = some m.cls := findClass_of_methodNamed Bd.named
  have hnm := (name_of_methodNamed Bd.named Bd.method).1
  have X0 : Stand p l e ({ frames := 0, cells := 0, slots := 0, locals := 0 } : Room) s m #[(.ref c0), (.ref z0)] below meth c s₁ [] 0 0 := Stand.of_body Bd
  have e0 : s₁.heap = h0 := by rw [← hh, Bd.state]; rfl
  have N0 := Fr.nil n0
  rw [ef_3 m c0 z0]
  show Go p e below _ (s₁.setTop (mkF m 0 #[oA c0, oA z0] []))
  refine own_aload_n 1 X0 hx hby d3_0 rfl rfl rfl ?_
  refine own_nnY 13 X0 hx hby d3_1 (by decide) (by decide) ?_
  refine own_aload_n 14 X0 hx hby d3_13 rfl rfl rfl ?_
  exact own_ret (Q := own_Q (some (.ref c0)) n0 h0) X0 hx hby hret hlk d3_14 rfl (Or.inr (Or.inr (Or.inr (Or.inr ⟨rfl, rfl, rfl⟩)))) (by decide) (by decide) ⟨rfl, N0, e0⟩
def Q_rm1_2 (Z : State) (w_EXCLUSIVE w_SHARED : Addr) (c0 : Addr) (c1 : Addr) (y0 : Int64) (x1 : Int32) (h0 : Heap) (n0 : Nat) (v : Option Value) (h : Heap) (L : List Loc) : Prop := v = none ∧ Fr n0 L ∧ Keep h0 h [c0] ∧ Exa Z h c0 "com/example/bare_turnstile/bareturnstile/Ticket" ∧ Fld Z h c0 "com/example/bare_turnstile/bareturnstile/Ticket" "mode" "Lcom/example/bare_turnstile/bareturnstile/EntryMode;" (.ref c1) ∧ Fld Z h c0 "com/example/bare_turnstile/bareturnstile/Ticket" "number" "J" (.long y0) ∧ Fld Z h c0 "com/example/bare_turnstile/bareturnstile/Ticket" "participant" "I" (.int x1)
set_option maxRecDepth 65536 in
set_option maxHeartbeats 40000000 in
theorem rm1_2 (l : Launch) (Z : State) (a0 : Array Value) (hw : ∀ d ∈ tables_1, d.before a0 Z = true) (ws : List Jvm.Cond) (w_EXCLUSIVE w_SHARED : Addr) (W : own_W Z w_EXCLUSIVE w_SHARED) (c0 : Addr) (c1 : Addr) (y0 : Int64) (x1 : Int32) (h0 : Heap) (n0 : Nat) (O0 : Old Z n0 h0) (E_c0 : Exa Z h0 c0 "com/example/bare_turnstile/bareturnstile/Ticket") (F_c0_mode : Fld Z h0 c0 "com/example/bare_turnstile/bareturnstile/Ticket" "mode" "Lcom/example/bare_turnstile/bareturnstile/EntryMode;" .null) (F_c0_number : Fld Z h0 c0 "com/example/bare_turnstile/bareturnstile/Ticket" "number" "J" (.long (0 : Int64))) (F_c0_participant : Fld Z h0 c0 "com/example/bare_turnstile/bareturnstile/Ticket" "participant" "I" (.int (0 : Int32))) (n_c0 : n0 ≤ c0) (EZ_c1 : Exa Z Z.heap c1 "com/example/bare_turnstile/bareturnstile/EntryMode") (hc16 : ¬ (y0 < (1 : Int64))) (hc18 : ¬ (x1 < (0 : Int32))) :
    MetFree l (⟨"com/example/bare_turnstile/bareturnstile/Ticket", "<init>", "(JILcom/example/bare_turnstile/bareturnstile/EntryMode;)V"⟩ : MethodName) (head1 (Jvm.Cond.code (⟨"com/example/bare_turnstile/bareturnstile/Ticket", "<init>", "(JILcom/example/bare_turnstile/bareturnstile/EntryMode;)V"⟩ : MethodName) prog_19_method_1_code 5 none :: ws) ({ frames := 1, cells := 2, slots := 20, locals := 14 } : Room)) (fun a U => a = #[(.ref c0), (.long y0), (.int x1), (.ref c1)] ∧ Z.Warmed39 U.vm ∧ U.heap = h0) (fun _ _ _ _ _ => True) (fun _ U o U' => ∃ v L, o = .returned v ∧ Q_rm1_2 Z w_EXCLUSIVE w_SHARED c0 c1 y0 x1 h0 n0 v U'.heap L ∧ ReturnedEndW U o U' L ({ frames := 1, cells := 2, slots := 20, locals := 14 } : Room).cells ({ frames := 1, cells := 2, slots := 20, locals := 14 } : Room).slots) := by
  refine MetFree.of_bodySF (plainFor_of_name pn_1) hisR ?_
  intro p e s m args below meth c s₁ Bd hml0 hP hK
  obtain ⟨rfl, hZ, hh⟩ := hP
  have hx := Bd.exec
  have hby := Bd.bytes
  have hml : c.maxLocals = 5 := hml0
  have hlk := BodyLoose.notSynchronized Bd
  have hret := Bd.returns
  have hown : s.vm.findClass "com/example/bare_turnstile/bareturnstile/Ticket" = some m.cls := findClass_of_methodNamed Bd.named
  have hnm := (name_of_methodNamed Bd.named Bd.method).1
  have X0 : Stand p l e ({ frames := 1, cells := 2, slots := 20, locals := 14 } : Room) (s.setVm s.vm) m #[(.ref c0), (.long y0), (.int x1), (.ref c1)] below meth c s₁ [] 0 0 := Stand.of_body Bd
  have e0 : s₁.heap = h0 := by rw [← hh, Bd.state]; rfl
  have N0 := Fr.nil n0
  have hZ : Z.Warmed39 (s.setVm s.vm).vm := hZ
  have hown : (s.setVm s.vm).vm.findClass "com/example/bare_turnstile/bareturnstile/Ticket" = some m.cls := hown
  rw [ef_1 m c0 y0 x1 c1]
  show Go p e below _ (s₁.setTop (mkF m 0 #[oA c0, oJ y0, oS, oI x1, oA c1] []))
  have hS := (State.WarmedH.refl s).since 0
  have hk : 0 ≤ h0.size := Nat.zero_le _
  refine own_aload_n 1 X0 hx hby d1_0 rfl rfl rfl ?_
  refine own_initO 4 0 X0 hx hby hZ hown (own_w hw 11 rfl) (own_w hw 12 rfl) (own_w hw 13 rfl) (by rw [hml]; rfl) d1_1 rfl e0 rfl (by decide) (by decide) ?_
  intro T15 X15 e15
  refine own_lload_n 5 X15 hx hby d1_4 rfl rfl ?_
  refine own_lconst 6 (1 : Int64) X15 hx hby d1_5 rfl (by decide) ?_
  refine own_lcmp 7 (XT.cmpL y0 (1 : Int64)) X15 hx hby d1_6 rfl rfl ?_
  refine own_ifY 24 X15 hx hby d1_7 (by decide) (by decide) (own_fltL hc16).2.1 ?_
  refine own_iload_n 25 X15 hx hby d1_24 rfl rfl ?_
  refine own_ifY 42 X15 hx hby d1_25 (by decide) (by decide) ((if0 _ _).trans (flt hc18).2.1) ?_
  refine own_aload_n 43 X15 hx hby d1_42 rfl rfl rfl ?_
  refine own_lload_n 44 X15 hx hby d1_43 rfl rfl ?_
  refine own_putF 47 X15 hx hby hZ .long hown (own_w hw 14 rfl) e15 F_c0_number E_c0 (Or.inr ⟨(own_w hw 15 rfl), rfl, hnm⟩) (own_w hw 6 rfl) (by decide) rfl rfl d1_44 rfl ?_
  intro T20 h20 X20 e20 W20
  have E_c0_20 := E_c0.wr W20
  have F_c0_mode_20 := F_c0_mode.other W20 (Or.inr (slot_ne (Or.inr (own_w hw 33 rfl)) (Or.inr (own_w hw 15 rfl)) (by decide) (t := (.object "com/example/bare_turnstile/bareturnstile/EntryMode")) (t' := .long) (by decide) (by decide)))
  have F_c0_number_20 := F_c0_number.same W20
  have F_c0_participant_20 := F_c0_participant.other W20 (Or.inr (slot_ne (Or.inr (own_w hw 17 rfl)) (Or.inr (own_w hw 15 rfl)) (by decide) (t := .int) (t' := .long) (by decide) (by decide)))
  have K20 : Keep h0 h20 [c0] := (Keep.refl h0 [c0]).wr W20 (Or.inl (List.mem_of_getElem? (i := 0) rfl))
  have O20 := O0.wr W20 n_c0
  have N20 := Fr.snoc X20 N0 n_c0
  have hk := Nat.le_trans hk (Keep.of_wr W20).1
  refine own_aload_n 48 X20 hx hby d1_47 rfl rfl rfl ?_
  refine own_iload_n 49 X20 hx hby d1_48 rfl rfl ?_
  refine own_putF 52 X20 hx hby hZ .int hown (own_w hw 16 rfl) e20 F_c0_participant_20 E_c0_20 (Or.inr ⟨(own_w hw 17 rfl), rfl, hnm⟩) (own_w hw 6 rfl) (by decide) rfl rfl d1_49 rfl ?_
  intro T21 h21 X21 e21 W21
  have E_c0_21 := E_c0_20.wr W21
  have F_c0_mode_21 := F_c0_mode_20.other W21 (Or.inr (slot_ne (Or.inr (own_w hw 33 rfl)) (Or.inr (own_w hw 17 rfl)) (by decide) (t := (.object "com/example/bare_turnstile/bareturnstile/EntryMode")) (t' := .int) (by decide) (by decide)))
  have F_c0_number_21 := F_c0_number_20.other W21 (Or.inr (slot_ne (Or.inr (own_w hw 15 rfl)) (Or.inr (own_w hw 17 rfl)) (by decide) (t := .long) (t' := .int) (by decide) (by decide)))
  have F_c0_participant_21 := F_c0_participant_20.same W21
  have K21 : Keep h0 h21 [c0] := K20.wr W21 (Or.inl (List.mem_of_getElem? (i := 0) rfl))
  have O21 := O20.wr W21 n_c0
  have N21 := Fr.snoc X21 N20 n_c0
  have hk := Nat.le_trans hk (Keep.of_wr W21).1
  refine own_aload_n 53 X21 hx hby d1_52 rfl rfl rfl ?_
  refine own_aload 55 X21 hx hby d1_53 rfl rfl rfl ?_
  refine own_ldcS 57 16 X21 hx hby hZ hown (own_w hw 18 rfl) (own_wS hw) e21 hS hk d1_55 rfl (by decide) (by decide) (by decide) (by decide) ?_
  intro b22 T22 h22 q22 X22 e22 E22 hS hk' hZ hown
  have E_c0_22 := E_c0_21.ext E22
  have F_c0_mode_22 := F_c0_mode_21.ext E22
  have F_c0_number_22 := F_c0_number_21.ext E22
  have F_c0_participant_22 := F_c0_participant_21.ext E22
  have K22 : Keep h0 h22 [c0] := K21.ext E22
  have O22 := O21.ext E22
  have hk := Nat.le_trans hk E22.1
  have hk := hk'
  refine own_callS (W := 1) 60 (rm3_1 l Z a0 hw [] w_EXCLUSIVE w_SHARED W c1 b22 h22 n0 O22 EZ_c1) X22 hx hby hZ hown (own_w hw 26 rfl) (own_w hw 27 rfl) (own_w hw 28 rfl) (own_w hw 29 rfl) (by decide) (by rw [hml]; rfl) [(.ref c1), (.ref b22)] [(.ref c0)] pd_0 rfl d1_57 rfl e22 rfl rfl rfl (by decide) (by decide) (by decide) (by decide) ?_
  rintro _ T23 L23 X23 ⟨rfl, N23, e23⟩
  have N23 := Fr.app N21 N23
  show Go p e below _ (T23.setTop (mkF m 60 _ [(.ref c1), (.ref c0)]))
  refine own_cast 63 X23 hx hby hZ hown (own_w hw 30 rfl) e23 (Ins.self (EZ_c1.ext O22.2)) d1_60 rfl ?_
  intro T24 X24 e24
  refine own_putF 66 X24 hx hby hZ (.object "com/example/bare_turnstile/bareturnstile/EntryMode") hown (own_w hw 32 rfl) e24 F_c0_mode_22 E_c0_22 (Or.inr ⟨(own_w hw 33 rfl), rfl, hnm⟩) (own_w hw 6 rfl) (by decide) rfl rfl d1_63 rfl ?_
  intro T25 h25 X25 e25 W25
  have E_c0_25 := E_c0_22.wr W25
  have F_c0_mode_25 := F_c0_mode_22.same W25
  have F_c0_number_25 := F_c0_number_22.other W25 (Or.inr (slot_ne (Or.inr (own_w hw 15 rfl)) (Or.inr (own_w hw 33 rfl)) (by decide) (t := .long) (t' := (.object "com/example/bare_turnstile/bareturnstile/EntryMode")) (by decide) (by decide)))
  have F_c0_participant_25 := F_c0_participant_22.other W25 (Or.inr (slot_ne (Or.inr (own_w hw 17 rfl)) (Or.inr (own_w hw 33 rfl)) (by decide) (t := .int) (t' := (.object "com/example/bare_turnstile/bareturnstile/EntryMode")) (by decide) (by decide)))
  have K25 : Keep h0 h25 [c0] := K22.wr W25 (Or.inl (List.mem_of_getElem? (i := 0) rfl))
  have O25 := O22.wr W25 n_c0
  have N25 := Fr.snoc X25 N23 n_c0
  have hk := Nat.le_trans hk (Keep.of_wr W25).1
  exact own_ret0W (Q := Q_rm1_2 Z w_EXCLUSIVE w_SHARED c0 c1 y0 x1 h0 n0) X25 hx hby hret hlk hS (by rw [e25]; exact hk) d1_66 (by decide) (by decide) (by rw [e25]; exact ⟨rfl, N25, K25, E_c0_25, F_c0_mode_25, F_c0_number_25, F_c0_participant_25⟩)
set_option maxRecDepth 65536 in
set_option maxHeartbeats 40000000 in
theorem rm4_3 (l : Launch) (Z : State) (a0 : Array Value) (hw : ∀ d ∈ tables_1, d.before a0 Z = true) (ws : List Jvm.Cond) (w_EXCLUSIVE w_SHARED : Addr) (W : own_W Z w_EXCLUSIVE w_SHARED) (c0 : Addr) (c1 : Addr) (c2 : Addr) (c3 : Addr) (y0 : Int64) (x1 : Int32) (y2 : Int64) (x3 : Int32) (h0 : Heap) (n0 : Nat) (O0 : Old Z n0 h0) (E_c0 : Exa Z h0 c0 "com/example/bare_turnstile/bareturnstile/Ticket") (F_c0_mode : Fld Z h0 c0 "com/example/bare_turnstile/bareturnstile/Ticket" "mode" "Lcom/example/bare_turnstile/bareturnstile/EntryMode;" (.ref c1)) (F_c0_number : Fld Z h0 c0 "com/example/bare_turnstile/bareturnstile/Ticket" "number" "J" (.long y0)) (F_c0_participant : Fld Z h0 c0 "com/example/bare_turnstile/bareturnstile/Ticket" "participant" "I" (.int x1)) (n_c0 : n0 ≤ c0) (EZ_c1 : Exa Z Z.heap c1 "com/example/bare_turnstile/bareturnstile/EntryMode") (E_c2 : Exa Z h0 c2 "com/example/bare_turnstile/bareturnstile/Ticket") (F_c2_mode : Fld Z h0 c2 "com/example/bare_turnstile/bareturnstile/Ticket" "mode" "Lcom/example/bare_turnstile/bareturnstile/EntryMode;" (.ref c3)) (F_c2_number : Fld Z h0 c2 "com/example/bare_turnstile/bareturnstile/Ticket" "number" "J" (.long y2)) (F_c2_participant : Fld Z h0 c2 "com/example/bare_turnstile/bareturnstile/Ticket" "participant" "I" (.int x3)) (n_c2 : n0 ≤ c2) (EZ_c3 : Exa Z Z.heap c3 "com/example/bare_turnstile/bareturnstile/EntryMode") (ne_c0_c2 : c0 ≠ c2) (hc31 : y0 < y2) :
    MetFree l (⟨"com/example/bare_turnstile/bareturnstile/Ticket", "isBefore", "(Lcom/example/bare_turnstile/bareturnstile/Ticket;)Z"⟩ : MethodName) (head1 (Jvm.Cond.code (⟨"com/example/bare_turnstile/bareturnstile/Ticket", "isBefore", "(Lcom/example/bare_turnstile/bareturnstile/Ticket;)Z"⟩ : MethodName) prog_19_method_5_code 2 (some .boolean) :: ws) ({ frames := 0, cells := 0, slots := 0, locals := 0 } : Room)) (fun a U => a = #[(.ref c0), (.ref c2)] ∧ Z.Warmed39 U.vm ∧ U.heap = h0) (fun _ _ _ _ _ => True) (fun _ U o U' => ∃ v L, o = .returned v ∧ own_Q (some (.int (1 : Int32))) n0 h0 v U'.heap L ∧ FrameEnd U o U' L ({ frames := 0, cells := 0, slots := 0, locals := 0 } : Room).cells ({ frames := 0, cells := 0, slots := 0, locals := 0 } : Room).slots) := by
  refine MetFree.of_bodySF (plainFor_of_name pn_1) hisR ?_
  intro p e s m args below meth c s₁ Bd hml0 hP hK
  obtain ⟨rfl, hZ, hh⟩ := hP
  have hx := Bd.exec
  have hby := Bd.bytes
  have hml : c.maxLocals = 2 := hml0
  have hlk := BodyLoose.notSynchronized Bd
  have hret := Bd.returns
  have hown : s.vm.findClass "com/example/bare_turnstile/bareturnstile/Ticket" = some m.cls := findClass_of_methodNamed Bd.named
  have hnm := (name_of_methodNamed Bd.named Bd.method).1
  have X0 : Stand p l e ({ frames := 0, cells := 0, slots := 0, locals := 0 } : Room) s m #[(.ref c0), (.ref c2)] below meth c s₁ [] 0 0 := Stand.of_body Bd
  have e0 : s₁.heap = h0 := by rw [← hh, Bd.state]; rfl
  have N0 := Fr.nil n0
  rw [ef_4 m c0 c2]
  show Go p e below _ (s₁.setTop (mkF m 0 #[oA c0, oA c2] []))
  refine own_aload_n 1 X0 hx hby d4_0 rfl rfl rfl ?_
  refine own_getF 4 X0 hx hby hZ hown (own_w hw 14 rfl) e0 F_c0_number d4_1 rfl ?_
  intro T29 X29 e29
  refine own_aload_n 5 X29 hx hby d4_4 rfl rfl rfl ?_
  refine own_getF 8 X29 hx hby hZ hown (own_w hw 14 rfl) e29 F_c2_number d4_5 rfl ?_
  intro T30 X30 e30
  refine own_lcmp 9 (XT.cmpL y0 y2) X30 hx hby d4_8 rfl rfl ?_
  refine own_ifY 35 X30 hx hby d4_9 (by decide) (by decide) (own_tltL hc31).1 ?_
  refine own_iconst 36 (1 : Int32) X30 hx hby d4_35 rfl (by decide) ?_
  refine own_goto 40 X30 hx hby d4_36 (by decide) (by decide) ?_
  exact own_ret (Q := own_Q (some (.int (1 : Int32))) n0 h0) X30 hx hby hret hlk d4_40 rfl (Or.inl ⟨rfl, by simp, _, rfl⟩) (by decide) (by decide) ⟨rfl, N0, e30⟩
set_option maxRecDepth 65536 in
set_option maxHeartbeats 40000000 in
theorem rm4_4 (l : Launch) (Z : State) (a0 : Array Value) (hw : ∀ d ∈ tables_1, d.before a0 Z = true) (ws : List Jvm.Cond) (w_EXCLUSIVE w_SHARED : Addr) (W : own_W Z w_EXCLUSIVE w_SHARED) (c0 : Addr) (c1 : Addr) (c2 : Addr) (c3 : Addr) (y0 : Int64) (x1 : Int32) (y2 : Int64) (x3 : Int32) (h0 : Heap) (n0 : Nat) (O0 : Old Z n0 h0) (E_c0 : Exa Z h0 c0 "com/example/bare_turnstile/bareturnstile/Ticket") (F_c0_mode : Fld Z h0 c0 "com/example/bare_turnstile/bareturnstile/Ticket" "mode" "Lcom/example/bare_turnstile/bareturnstile/EntryMode;" (.ref c1)) (F_c0_number : Fld Z h0 c0 "com/example/bare_turnstile/bareturnstile/Ticket" "number" "J" (.long y0)) (F_c0_participant : Fld Z h0 c0 "com/example/bare_turnstile/bareturnstile/Ticket" "participant" "I" (.int x1)) (n_c0 : n0 ≤ c0) (EZ_c1 : Exa Z Z.heap c1 "com/example/bare_turnstile/bareturnstile/EntryMode") (E_c2 : Exa Z h0 c2 "com/example/bare_turnstile/bareturnstile/Ticket") (F_c2_mode : Fld Z h0 c2 "com/example/bare_turnstile/bareturnstile/Ticket" "mode" "Lcom/example/bare_turnstile/bareturnstile/EntryMode;" (.ref c3)) (F_c2_number : Fld Z h0 c2 "com/example/bare_turnstile/bareturnstile/Ticket" "number" "J" (.long y2)) (F_c2_participant : Fld Z h0 c2 "com/example/bare_turnstile/bareturnstile/Ticket" "participant" "I" (.int x3)) (n_c2 : n0 ≤ c2) (EZ_c3 : Exa Z Z.heap c3 "com/example/bare_turnstile/bareturnstile/EntryMode") (ne_c0_c2 : c0 ≠ c2) (hc31 : ¬ (y0 < y2)) (hc34 : y0 = y2) (hc37 : x1 < x3) :
    MetFree l (⟨"com/example/bare_turnstile/bareturnstile/Ticket", "isBefore", "(Lcom/example/bare_turnstile/bareturnstile/Ticket;)Z"⟩ : MethodName) (head1 (Jvm.Cond.code (⟨"com/example/bare_turnstile/bareturnstile/Ticket", "isBefore", "(Lcom/example/bare_turnstile/bareturnstile/Ticket;)Z"⟩ : MethodName) prog_19_method_5_code 2 (some .boolean) :: ws) ({ frames := 0, cells := 0, slots := 0, locals := 0 } : Room)) (fun a U => a = #[(.ref c0), (.ref c2)] ∧ Z.Warmed39 U.vm ∧ U.heap = h0) (fun _ _ _ _ _ => True) (fun _ U o U' => ∃ v L, o = .returned v ∧ own_Q (some (.int (1 : Int32))) n0 h0 v U'.heap L ∧ FrameEnd U o U' L ({ frames := 0, cells := 0, slots := 0, locals := 0 } : Room).cells ({ frames := 0, cells := 0, slots := 0, locals := 0 } : Room).slots) := by
  refine MetFree.of_bodySF (plainFor_of_name pn_1) hisR ?_
  intro p e s m args below meth c s₁ Bd hml0 hP hK
  obtain ⟨rfl, hZ, hh⟩ := hP
  have hx := Bd.exec
  have hby := Bd.bytes
  have hml : c.maxLocals = 2 := hml0
  have hlk := BodyLoose.notSynchronized Bd
  have hret := Bd.returns
  have hown : s.vm.findClass "com/example/bare_turnstile/bareturnstile/Ticket" = some m.cls := findClass_of_methodNamed Bd.named
  have hnm := (name_of_methodNamed Bd.named Bd.method).1
  have X0 : Stand p l e ({ frames := 0, cells := 0, slots := 0, locals := 0 } : Room) s m #[(.ref c0), (.ref c2)] below meth c s₁ [] 0 0 := Stand.of_body Bd
  have e0 : s₁.heap = h0 := by rw [← hh, Bd.state]; rfl
  have N0 := Fr.nil n0
  rw [ef_4 m c0 c2]
  show Go p e below _ (s₁.setTop (mkF m 0 #[oA c0, oA c2] []))
  refine own_aload_n 1 X0 hx hby d4_0 rfl rfl rfl ?_
  refine own_getF 4 X0 hx hby hZ hown (own_w hw 14 rfl) e0 F_c0_number d4_1 rfl ?_
  intro T29 X29 e29
  refine own_aload_n 5 X29 hx hby d4_4 rfl rfl rfl ?_
  refine own_getF 8 X29 hx hby hZ hown (own_w hw 14 rfl) e29 F_c2_number d4_5 rfl ?_
  intro T30 X30 e30
  refine own_lcmp 9 (XT.cmpL y0 y2) X30 hx hby d4_8 rfl rfl ?_
  refine own_ifN 12 X30 hx hby d4_9 rfl (own_fltL hc31).1 ?_
  refine own_aload_n 13 X30 hx hby d4_12 rfl rfl rfl ?_
  refine own_getF 16 X30 hx hby hZ hown (own_w hw 14 rfl) e30 F_c0_number d4_13 rfl ?_
  intro T32 X32 e32
  refine own_aload_n 17 X32 hx hby d4_16 rfl rfl rfl ?_
  refine own_getF 20 X32 hx hby hZ hown (own_w hw 14 rfl) e32 F_c2_number d4_17 rfl ?_
  intro T33 X33 e33
  refine own_lcmp 21 (XT.cmpL y0 y2) X33 hx hby d4_20 rfl rfl ?_
  refine own_ifN 24 X33 hx hby d4_21 rfl (own_teqL hc34).2 ?_
  refine own_aload_n 25 X33 hx hby d4_24 rfl rfl rfl ?_
  refine own_getF 28 X33 hx hby hZ hown (own_w hw 16 rfl) e33 F_c0_participant d4_25 rfl ?_
  intro T35 X35 e35
  refine own_aload_n 29 X35 hx hby d4_28 rfl rfl rfl ?_
  refine own_getF 32 X35 hx hby hZ hown (own_w hw 16 rfl) e35 F_c2_participant d4_29 rfl ?_
  intro T36 X36 e36
  refine own_icN 35 X36 hx hby d4_32 rfl (tlt hc37).2.1 ?_
  refine own_iconst 36 (1 : Int32) X36 hx hby d4_35 rfl (by decide) ?_
  refine own_goto 40 X36 hx hby d4_36 (by decide) (by decide) ?_
  exact own_ret (Q := own_Q (some (.int (1 : Int32))) n0 h0) X36 hx hby hret hlk d4_40 rfl (Or.inl ⟨rfl, by simp, _, rfl⟩) (by decide) (by decide) ⟨rfl, N0, e36⟩
set_option maxRecDepth 65536 in
set_option maxHeartbeats 40000000 in
theorem rm4_5 (l : Launch) (Z : State) (a0 : Array Value) (hw : ∀ d ∈ tables_1, d.before a0 Z = true) (ws : List Jvm.Cond) (w_EXCLUSIVE w_SHARED : Addr) (W : own_W Z w_EXCLUSIVE w_SHARED) (c0 : Addr) (c1 : Addr) (c2 : Addr) (c3 : Addr) (y0 : Int64) (x1 : Int32) (y2 : Int64) (x3 : Int32) (h0 : Heap) (n0 : Nat) (O0 : Old Z n0 h0) (E_c0 : Exa Z h0 c0 "com/example/bare_turnstile/bareturnstile/Ticket") (F_c0_mode : Fld Z h0 c0 "com/example/bare_turnstile/bareturnstile/Ticket" "mode" "Lcom/example/bare_turnstile/bareturnstile/EntryMode;" (.ref c1)) (F_c0_number : Fld Z h0 c0 "com/example/bare_turnstile/bareturnstile/Ticket" "number" "J" (.long y0)) (F_c0_participant : Fld Z h0 c0 "com/example/bare_turnstile/bareturnstile/Ticket" "participant" "I" (.int x1)) (n_c0 : n0 ≤ c0) (EZ_c1 : Exa Z Z.heap c1 "com/example/bare_turnstile/bareturnstile/EntryMode") (E_c2 : Exa Z h0 c2 "com/example/bare_turnstile/bareturnstile/Ticket") (F_c2_mode : Fld Z h0 c2 "com/example/bare_turnstile/bareturnstile/Ticket" "mode" "Lcom/example/bare_turnstile/bareturnstile/EntryMode;" (.ref c3)) (F_c2_number : Fld Z h0 c2 "com/example/bare_turnstile/bareturnstile/Ticket" "number" "J" (.long y2)) (F_c2_participant : Fld Z h0 c2 "com/example/bare_turnstile/bareturnstile/Ticket" "participant" "I" (.int x3)) (n_c2 : n0 ≤ c2) (EZ_c3 : Exa Z Z.heap c3 "com/example/bare_turnstile/bareturnstile/EntryMode") (ne_c0_c2 : c0 ≠ c2) (hc31 : ¬ (y0 < y2)) (hc34 : y0 = y2) (hc37 : ¬ (x1 < x3)) :
    MetFree l (⟨"com/example/bare_turnstile/bareturnstile/Ticket", "isBefore", "(Lcom/example/bare_turnstile/bareturnstile/Ticket;)Z"⟩ : MethodName) (head1 (Jvm.Cond.code (⟨"com/example/bare_turnstile/bareturnstile/Ticket", "isBefore", "(Lcom/example/bare_turnstile/bareturnstile/Ticket;)Z"⟩ : MethodName) prog_19_method_5_code 2 (some .boolean) :: ws) ({ frames := 0, cells := 0, slots := 0, locals := 0 } : Room)) (fun a U => a = #[(.ref c0), (.ref c2)] ∧ Z.Warmed39 U.vm ∧ U.heap = h0) (fun _ _ _ _ _ => True) (fun _ U o U' => ∃ v L, o = .returned v ∧ own_Q (some (.int (0 : Int32))) n0 h0 v U'.heap L ∧ FrameEnd U o U' L ({ frames := 0, cells := 0, slots := 0, locals := 0 } : Room).cells ({ frames := 0, cells := 0, slots := 0, locals := 0 } : Room).slots) := by
  refine MetFree.of_bodySF (plainFor_of_name pn_1) hisR ?_
  intro p e s m args below meth c s₁ Bd hml0 hP hK
  obtain ⟨rfl, hZ, hh⟩ := hP
  have hx := Bd.exec
  have hby := Bd.bytes
  have hml : c.maxLocals = 2 := hml0
  have hlk := BodyLoose.notSynchronized Bd
  have hret := Bd.returns
  have hown : s.vm.findClass "com/example/bare_turnstile/bareturnstile/Ticket" = some m.cls := findClass_of_methodNamed Bd.named
  have hnm := (name_of_methodNamed Bd.named Bd.method).1
  have X0 : Stand p l e ({ frames := 0, cells := 0, slots := 0, locals := 0 } : Room) s m #[(.ref c0), (.ref c2)] below meth c s₁ [] 0 0 := Stand.of_body Bd
  have e0 : s₁.heap = h0 := by rw [← hh, Bd.state]; rfl
  have N0 := Fr.nil n0
  rw [ef_4 m c0 c2]
  show Go p e below _ (s₁.setTop (mkF m 0 #[oA c0, oA c2] []))
  refine own_aload_n 1 X0 hx hby d4_0 rfl rfl rfl ?_
  refine own_getF 4 X0 hx hby hZ hown (own_w hw 14 rfl) e0 F_c0_number d4_1 rfl ?_
  intro T29 X29 e29
  refine own_aload_n 5 X29 hx hby d4_4 rfl rfl rfl ?_
  refine own_getF 8 X29 hx hby hZ hown (own_w hw 14 rfl) e29 F_c2_number d4_5 rfl ?_
  intro T30 X30 e30
  refine own_lcmp 9 (XT.cmpL y0 y2) X30 hx hby d4_8 rfl rfl ?_
  refine own_ifN 12 X30 hx hby d4_9 rfl (own_fltL hc31).1 ?_
  refine own_aload_n 13 X30 hx hby d4_12 rfl rfl rfl ?_
  refine own_getF 16 X30 hx hby hZ hown (own_w hw 14 rfl) e30 F_c0_number d4_13 rfl ?_
  intro T32 X32 e32
  refine own_aload_n 17 X32 hx hby d4_16 rfl rfl rfl ?_
  refine own_getF 20 X32 hx hby hZ hown (own_w hw 14 rfl) e32 F_c2_number d4_17 rfl ?_
  intro T33 X33 e33
  refine own_lcmp 21 (XT.cmpL y0 y2) X33 hx hby d4_20 rfl rfl ?_
  refine own_ifN 24 X33 hx hby d4_21 rfl (own_teqL hc34).2 ?_
  refine own_aload_n 25 X33 hx hby d4_24 rfl rfl rfl ?_
  refine own_getF 28 X33 hx hby hZ hown (own_w hw 16 rfl) e33 F_c0_participant d4_25 rfl ?_
  intro T35 X35 e35
  refine own_aload_n 29 X35 hx hby d4_28 rfl rfl rfl ?_
  refine own_getF 32 X35 hx hby hZ hown (own_w hw 16 rfl) e35 F_c2_participant d4_29 rfl ?_
  intro T36 X36 e36
  refine own_icY 39 X36 hx hby d4_32 (by decide) (by decide) (flt hc37).2.1 ?_
  refine own_iconst 40 (0 : Int32) X36 hx hby d4_39 rfl (by decide) ?_
  exact own_ret (Q := own_Q (some (.int (0 : Int32))) n0 h0) X36 hx hby hret hlk d4_40 rfl (Or.inl ⟨rfl, by simp, _, rfl⟩) (by decide) (by decide) ⟨rfl, N0, e36⟩
set_option maxRecDepth 65536 in
set_option maxHeartbeats 40000000 in
theorem rm4_6 (l : Launch) (Z : State) (a0 : Array Value) (hw : ∀ d ∈ tables_1, d.before a0 Z = true) (ws : List Jvm.Cond) (w_EXCLUSIVE w_SHARED : Addr) (W : own_W Z w_EXCLUSIVE w_SHARED) (c0 : Addr) (c1 : Addr) (c2 : Addr) (c3 : Addr) (y0 : Int64) (x1 : Int32) (y2 : Int64) (x3 : Int32) (h0 : Heap) (n0 : Nat) (O0 : Old Z n0 h0) (E_c0 : Exa Z h0 c0 "com/example/bare_turnstile/bareturnstile/Ticket") (F_c0_mode : Fld Z h0 c0 "com/example/bare_turnstile/bareturnstile/Ticket" "mode" "Lcom/example/bare_turnstile/bareturnstile/EntryMode;" (.ref c1)) (F_c0_number : Fld Z h0 c0 "com/example/bare_turnstile/bareturnstile/Ticket" "number" "J" (.long y0)) (F_c0_participant : Fld Z h0 c0 "com/example/bare_turnstile/bareturnstile/Ticket" "participant" "I" (.int x1)) (n_c0 : n0 ≤ c0) (EZ_c1 : Exa Z Z.heap c1 "com/example/bare_turnstile/bareturnstile/EntryMode") (E_c2 : Exa Z h0 c2 "com/example/bare_turnstile/bareturnstile/Ticket") (F_c2_mode : Fld Z h0 c2 "com/example/bare_turnstile/bareturnstile/Ticket" "mode" "Lcom/example/bare_turnstile/bareturnstile/EntryMode;" (.ref c3)) (F_c2_number : Fld Z h0 c2 "com/example/bare_turnstile/bareturnstile/Ticket" "number" "J" (.long y2)) (F_c2_participant : Fld Z h0 c2 "com/example/bare_turnstile/bareturnstile/Ticket" "participant" "I" (.int x3)) (n_c2 : n0 ≤ c2) (EZ_c3 : Exa Z Z.heap c3 "com/example/bare_turnstile/bareturnstile/EntryMode") (ne_c0_c2 : c0 ≠ c2) (hc31 : ¬ (y0 < y2)) (hc34 : ¬ (y0 = y2)) :
    MetFree l (⟨"com/example/bare_turnstile/bareturnstile/Ticket", "isBefore", "(Lcom/example/bare_turnstile/bareturnstile/Ticket;)Z"⟩ : MethodName) (head1 (Jvm.Cond.code (⟨"com/example/bare_turnstile/bareturnstile/Ticket", "isBefore", "(Lcom/example/bare_turnstile/bareturnstile/Ticket;)Z"⟩ : MethodName) prog_19_method_5_code 2 (some .boolean) :: ws) ({ frames := 0, cells := 0, slots := 0, locals := 0 } : Room)) (fun a U => a = #[(.ref c0), (.ref c2)] ∧ Z.Warmed39 U.vm ∧ U.heap = h0) (fun _ _ _ _ _ => True) (fun _ U o U' => ∃ v L, o = .returned v ∧ own_Q (some (.int (0 : Int32))) n0 h0 v U'.heap L ∧ FrameEnd U o U' L ({ frames := 0, cells := 0, slots := 0, locals := 0 } : Room).cells ({ frames := 0, cells := 0, slots := 0, locals := 0 } : Room).slots) := by
  refine MetFree.of_bodySF (plainFor_of_name pn_1) hisR ?_
  intro p e s m args below meth c s₁ Bd hml0 hP hK
  obtain ⟨rfl, hZ, hh⟩ := hP
  have hx := Bd.exec
  have hby := Bd.bytes
  have hml : c.maxLocals = 2 := hml0
  have hlk := BodyLoose.notSynchronized Bd
  have hret := Bd.returns
  have hown : s.vm.findClass "com/example/bare_turnstile/bareturnstile/Ticket" = some m.cls := findClass_of_methodNamed Bd.named
  have hnm := (name_of_methodNamed Bd.named Bd.method).1
  have X0 : Stand p l e ({ frames := 0, cells := 0, slots := 0, locals := 0 } : Room) s m #[(.ref c0), (.ref c2)] below meth c s₁ [] 0 0 := Stand.of_body Bd
  have e0 : s₁.heap = h0 := by rw [← hh, Bd.state]; rfl
  have N0 := Fr.nil n0
  rw [ef_4 m c0 c2]
  show Go p e below _ (s₁.setTop (mkF m 0 #[oA c0, oA c2] []))
  refine own_aload_n 1 X0 hx hby d4_0 rfl rfl rfl ?_
  refine own_getF 4 X0 hx hby hZ hown (own_w hw 14 rfl) e0 F_c0_number d4_1 rfl ?_
  intro T29 X29 e29
  refine own_aload_n 5 X29 hx hby d4_4 rfl rfl rfl ?_
  refine own_getF 8 X29 hx hby hZ hown (own_w hw 14 rfl) e29 F_c2_number d4_5 rfl ?_
  intro T30 X30 e30
  refine own_lcmp 9 (XT.cmpL y0 y2) X30 hx hby d4_8 rfl rfl ?_
  refine own_ifN 12 X30 hx hby d4_9 rfl (own_fltL hc31).1 ?_
  refine own_aload_n 13 X30 hx hby d4_12 rfl rfl rfl ?_
  refine own_getF 16 X30 hx hby hZ hown (own_w hw 14 rfl) e30 F_c0_number d4_13 rfl ?_
  intro T32 X32 e32
  refine own_aload_n 17 X32 hx hby d4_16 rfl rfl rfl ?_
  refine own_getF 20 X32 hx hby hZ hown (own_w hw 14 rfl) e32 F_c2_number d4_17 rfl ?_
  intro T33 X33 e33
  refine own_lcmp 21 (XT.cmpL y0 y2) X33 hx hby d4_20 rfl rfl ?_
  refine own_ifY 39 X33 hx hby d4_21 (by decide) (by decide) (own_feqL hc34).2 ?_
  refine own_iconst 40 (0 : Int32) X33 hx hby d4_39 rfl (by decide) ?_
  exact own_ret (Q := own_Q (some (.int (0 : Int32))) n0 h0) X33 hx hby hret hlk d4_40 rfl (Or.inl ⟨rfl, by simp, _, rfl⟩) (by decide) (by decide) ⟨rfl, N0, e33⟩
set_option maxRecDepth 65536 in
set_option maxHeartbeats 40000000 in
theorem rm5_7 (l : Launch) (Z : State) (a0 : Array Value) (hw : ∀ d ∈ tables_1, d.before a0 Z = true) (ws : List Jvm.Cond) (w_EXCLUSIVE w_SHARED : Addr) (W : own_W Z w_EXCLUSIVE w_SHARED) (y0 : Int64) (x1 : Int32) (y2 : Int64) (x3 : Int32) (h0 : Heap) (n0 : Nat) (O0 : Old Z n0 h0) (hc41 : y0 < y2) :
    MetFree l (⟨"com/example/bare_turnstile/bareturnstile/TicketIsBeforePinLaw", "reference", "(JIJI)Z"⟩ : MethodName) (head1 (Jvm.Cond.code (⟨"com/example/bare_turnstile/bareturnstile/TicketIsBeforePinLaw", "reference", "(JIJI)Z"⟩ : MethodName) method_2_code 6 (some .boolean) :: ws) ({ frames := 0, cells := 0, slots := 0, locals := 0 } : Room)) (fun a U => a = #[(.long y0), (.int x1), (.long y2), (.int x3)] ∧ Z.Warmed39 U.vm ∧ U.heap = h0) (fun _ _ _ _ _ => True) (fun _ U o U' => ∃ v L, o = .returned v ∧ own_Q (some (.int (1 : Int32))) n0 h0 v U'.heap L ∧ FrameEnd U o U' L ({ frames := 0, cells := 0, slots := 0, locals := 0 } : Room).cells ({ frames := 0, cells := 0, slots := 0, locals := 0 } : Room).slots) := by
  refine MetFree.of_bodySF (plainFor_of_name pn_2) hisR ?_
  intro p e s m args below meth c s₁ Bd hml0 hP hK
  obtain ⟨rfl, hZ, hh⟩ := hP
  have hx := Bd.exec
  have hby := Bd.bytes
  have hml : c.maxLocals = 6 := hml0
  have hlk := BodyLoose.notSynchronized Bd
  have hret := Bd.returns
  have hown : s.vm.findClass "com/example/bare_turnstile/bareturnstile/TicketIsBeforePinLaw" = some m.cls := findClass_of_methodNamed Bd.named
  have hnm := (name_of_methodNamed Bd.named Bd.method).1
  have X0 : Stand p l e ({ frames := 0, cells := 0, slots := 0, locals := 0 } : Room) s m #[(.long y0), (.int x1), (.long y2), (.int x3)] below meth c s₁ [] 0 0 := Stand.of_body Bd
  have e0 : s₁.heap = h0 := by rw [← hh, Bd.state]; rfl
  have N0 := Fr.nil n0
  rw [ef_5 m y0 x1 y2 x3]
  show Go p e below _ (s₁.setTop (mkF m 0 #[oJ y0, oS, oI x1, oJ y2, oS, oI x3] []))
  refine own_lload_n 1 X0 hx hby d5_0 rfl rfl ?_
  refine own_lload_n 2 X0 hx hby d5_1 rfl rfl ?_
  refine own_lcmp 3 (XT.cmpL y0 y2) X0 hx hby d5_2 rfl rfl ?_
  refine own_ifN 6 X0 hx hby d5_3 rfl (own_tltL hc41).2.1 ?_
  refine own_iconst 7 (1 : Int32) X0 hx hby d5_6 rfl (by decide) ?_
  exact own_ret (Q := own_Q (some (.int (1 : Int32))) n0 h0) X0 hx hby hret hlk d5_7 rfl (Or.inl ⟨rfl, by simp, _, rfl⟩) (by decide) (by decide) ⟨rfl, N0, e0⟩
set_option maxRecDepth 65536 in
set_option maxHeartbeats 40000000 in
theorem rm5_8 (l : Launch) (Z : State) (a0 : Array Value) (hw : ∀ d ∈ tables_1, d.before a0 Z = true) (ws : List Jvm.Cond) (w_EXCLUSIVE w_SHARED : Addr) (W : own_W Z w_EXCLUSIVE w_SHARED) (y0 : Int64) (x1 : Int32) (y2 : Int64) (x3 : Int32) (h0 : Heap) (n0 : Nat) (O0 : Old Z n0 h0) (hc41 : ¬ (y0 < y2)) (hc42 : y2 < y0) :
    MetFree l (⟨"com/example/bare_turnstile/bareturnstile/TicketIsBeforePinLaw", "reference", "(JIJI)Z"⟩ : MethodName) (head1 (Jvm.Cond.code (⟨"com/example/bare_turnstile/bareturnstile/TicketIsBeforePinLaw", "reference", "(JIJI)Z"⟩ : MethodName) method_2_code 6 (some .boolean) :: ws) ({ frames := 0, cells := 0, slots := 0, locals := 0 } : Room)) (fun a U => a = #[(.long y0), (.int x1), (.long y2), (.int x3)] ∧ Z.Warmed39 U.vm ∧ U.heap = h0) (fun _ _ _ _ _ => True) (fun _ U o U' => ∃ v L, o = .returned v ∧ own_Q (some (.int (0 : Int32))) n0 h0 v U'.heap L ∧ FrameEnd U o U' L ({ frames := 0, cells := 0, slots := 0, locals := 0 } : Room).cells ({ frames := 0, cells := 0, slots := 0, locals := 0 } : Room).slots) := by
  refine MetFree.of_bodySF (plainFor_of_name pn_2) hisR ?_
  intro p e s m args below meth c s₁ Bd hml0 hP hK
  obtain ⟨rfl, hZ, hh⟩ := hP
  have hx := Bd.exec
  have hby := Bd.bytes
  have hml : c.maxLocals = 6 := hml0
  have hlk := BodyLoose.notSynchronized Bd
  have hret := Bd.returns
  have hown : s.vm.findClass "com/example/bare_turnstile/bareturnstile/TicketIsBeforePinLaw" = some m.cls := findClass_of_methodNamed Bd.named
  have hnm := (name_of_methodNamed Bd.named Bd.method).1
  have X0 : Stand p l e ({ frames := 0, cells := 0, slots := 0, locals := 0 } : Room) s m #[(.long y0), (.int x1), (.long y2), (.int x3)] below meth c s₁ [] 0 0 := Stand.of_body Bd
  have e0 : s₁.heap = h0 := by rw [← hh, Bd.state]; rfl
  have N0 := Fr.nil n0
  rw [ef_5 m y0 x1 y2 x3]
  show Go p e below _ (s₁.setTop (mkF m 0 #[oJ y0, oS, oI x1, oJ y2, oS, oI x3] []))
  refine own_lload_n 1 X0 hx hby d5_0 rfl rfl ?_
  refine own_lload_n 2 X0 hx hby d5_1 rfl rfl ?_
  refine own_lcmp 3 (XT.cmpL y0 y2) X0 hx hby d5_2 rfl rfl ?_
  refine own_ifY 8 X0 hx hby d5_3 (by decide) (by decide) (own_fltL hc41).2.1 ?_
  refine own_lload_n 9 X0 hx hby d5_8 rfl rfl ?_
  refine own_lload_n 10 X0 hx hby d5_9 rfl rfl ?_
  refine own_lcmp 11 (XT.cmpL y0 y2) X0 hx hby d5_10 rfl rfl ?_
  refine own_ifN 14 X0 hx hby d5_11 rfl (own_tltL hc42).2.2.2 ?_
  refine own_iconst 15 (0 : Int32) X0 hx hby d5_14 rfl (by decide) ?_
  exact own_ret (Q := own_Q (some (.int (0 : Int32))) n0 h0) X0 hx hby hret hlk d5_15 rfl (Or.inl ⟨rfl, by simp, _, rfl⟩) (by decide) (by decide) ⟨rfl, N0, e0⟩
set_option maxRecDepth 65536 in
set_option maxHeartbeats 40000000 in
theorem rm5_9 (l : Launch) (Z : State) (a0 : Array Value) (hw : ∀ d ∈ tables_1, d.before a0 Z = true) (ws : List Jvm.Cond) (w_EXCLUSIVE w_SHARED : Addr) (W : own_W Z w_EXCLUSIVE w_SHARED) (y0 : Int64) (x1 : Int32) (y2 : Int64) (x3 : Int32) (h0 : Heap) (n0 : Nat) (O0 : Old Z n0 h0) (hc41 : ¬ (y0 < y2)) (hc42 : ¬ (y2 < y0)) (hc43 : x1 < x3) :
    MetFree l (⟨"com/example/bare_turnstile/bareturnstile/TicketIsBeforePinLaw", "reference", "(JIJI)Z"⟩ : MethodName) (head1 (Jvm.Cond.code (⟨"com/example/bare_turnstile/bareturnstile/TicketIsBeforePinLaw", "reference", "(JIJI)Z"⟩ : MethodName) method_2_code 6 (some .boolean) :: ws) ({ frames := 0, cells := 0, slots := 0, locals := 0 } : Room)) (fun a U => a = #[(.long y0), (.int x1), (.long y2), (.int x3)] ∧ Z.Warmed39 U.vm ∧ U.heap = h0) (fun _ _ _ _ _ => True) (fun _ U o U' => ∃ v L, o = .returned v ∧ own_Q (some (.int (1 : Int32))) n0 h0 v U'.heap L ∧ FrameEnd U o U' L ({ frames := 0, cells := 0, slots := 0, locals := 0 } : Room).cells ({ frames := 0, cells := 0, slots := 0, locals := 0 } : Room).slots) := by
  refine MetFree.of_bodySF (plainFor_of_name pn_2) hisR ?_
  intro p e s m args below meth c s₁ Bd hml0 hP hK
  obtain ⟨rfl, hZ, hh⟩ := hP
  have hx := Bd.exec
  have hby := Bd.bytes
  have hml : c.maxLocals = 6 := hml0
  have hlk := BodyLoose.notSynchronized Bd
  have hret := Bd.returns
  have hown : s.vm.findClass "com/example/bare_turnstile/bareturnstile/TicketIsBeforePinLaw" = some m.cls := findClass_of_methodNamed Bd.named
  have hnm := (name_of_methodNamed Bd.named Bd.method).1
  have X0 : Stand p l e ({ frames := 0, cells := 0, slots := 0, locals := 0 } : Room) s m #[(.long y0), (.int x1), (.long y2), (.int x3)] below meth c s₁ [] 0 0 := Stand.of_body Bd
  have e0 : s₁.heap = h0 := by rw [← hh, Bd.state]; rfl
  have N0 := Fr.nil n0
  rw [ef_5 m y0 x1 y2 x3]
  show Go p e below _ (s₁.setTop (mkF m 0 #[oJ y0, oS, oI x1, oJ y2, oS, oI x3] []))
  refine own_lload_n 1 X0 hx hby d5_0 rfl rfl ?_
  refine own_lload_n 2 X0 hx hby d5_1 rfl rfl ?_
  refine own_lcmp 3 (XT.cmpL y0 y2) X0 hx hby d5_2 rfl rfl ?_
  refine own_ifY 8 X0 hx hby d5_3 (by decide) (by decide) (own_fltL hc41).2.1 ?_
  refine own_lload_n 9 X0 hx hby d5_8 rfl rfl ?_
  refine own_lload_n 10 X0 hx hby d5_9 rfl rfl ?_
  refine own_lcmp 11 (XT.cmpL y0 y2) X0 hx hby d5_10 rfl rfl ?_
  refine own_ifY 16 X0 hx hby d5_11 (by decide) (by decide) (own_fltL hc42).2.2.2 ?_
  refine own_iload_n 17 X0 hx hby d5_16 rfl rfl ?_
  refine own_iload 19 X0 hx hby d5_17 rfl rfl ?_
  refine own_icN 22 X0 hx hby d5_19 rfl (tlt hc43).2.1 ?_
  refine own_iconst 23 (1 : Int32) X0 hx hby d5_22 rfl (by decide) ?_
  exact own_ret (Q := own_Q (some (.int (1 : Int32))) n0 h0) X0 hx hby hret hlk d5_23 rfl (Or.inl ⟨rfl, by simp, _, rfl⟩) (by decide) (by decide) ⟨rfl, N0, e0⟩
set_option maxRecDepth 65536 in
set_option maxHeartbeats 40000000 in
theorem rm5_10 (l : Launch) (Z : State) (a0 : Array Value) (hw : ∀ d ∈ tables_1, d.before a0 Z = true) (ws : List Jvm.Cond) (w_EXCLUSIVE w_SHARED : Addr) (W : own_W Z w_EXCLUSIVE w_SHARED) (y0 : Int64) (x1 : Int32) (y2 : Int64) (x3 : Int32) (h0 : Heap) (n0 : Nat) (O0 : Old Z n0 h0) (hc41 : ¬ (y0 < y2)) (hc42 : ¬ (y2 < y0)) (hc43 : ¬ (x1 < x3)) :
    MetFree l (⟨"com/example/bare_turnstile/bareturnstile/TicketIsBeforePinLaw", "reference", "(JIJI)Z"⟩ : MethodName) (head1 (Jvm.Cond.code (⟨"com/example/bare_turnstile/bareturnstile/TicketIsBeforePinLaw", "reference", "(JIJI)Z"⟩ : MethodName) method_2_code 6 (some .boolean) :: ws) ({ frames := 0, cells := 0, slots := 0, locals := 0 } : Room)) (fun a U => a = #[(.long y0), (.int x1), (.long y2), (.int x3)] ∧ Z.Warmed39 U.vm ∧ U.heap = h0) (fun _ _ _ _ _ => True) (fun _ U o U' => ∃ v L, o = .returned v ∧ own_Q (some (.int (0 : Int32))) n0 h0 v U'.heap L ∧ FrameEnd U o U' L ({ frames := 0, cells := 0, slots := 0, locals := 0 } : Room).cells ({ frames := 0, cells := 0, slots := 0, locals := 0 } : Room).slots) := by
  refine MetFree.of_bodySF (plainFor_of_name pn_2) hisR ?_
  intro p e s m args below meth c s₁ Bd hml0 hP hK
  obtain ⟨rfl, hZ, hh⟩ := hP
  have hx := Bd.exec
  have hby := Bd.bytes
  have hml : c.maxLocals = 6 := hml0
  have hlk := BodyLoose.notSynchronized Bd
  have hret := Bd.returns
  have hown : s.vm.findClass "com/example/bare_turnstile/bareturnstile/TicketIsBeforePinLaw" = some m.cls := findClass_of_methodNamed Bd.named
  have hnm := (name_of_methodNamed Bd.named Bd.method).1
  have X0 : Stand p l e ({ frames := 0, cells := 0, slots := 0, locals := 0 } : Room) s m #[(.long y0), (.int x1), (.long y2), (.int x3)] below meth c s₁ [] 0 0 := Stand.of_body Bd
  have e0 : s₁.heap = h0 := by rw [← hh, Bd.state]; rfl
  have N0 := Fr.nil n0
  rw [ef_5 m y0 x1 y2 x3]
  show Go p e below _ (s₁.setTop (mkF m 0 #[oJ y0, oS, oI x1, oJ y2, oS, oI x3] []))
  refine own_lload_n 1 X0 hx hby d5_0 rfl rfl ?_
  refine own_lload_n 2 X0 hx hby d5_1 rfl rfl ?_
  refine own_lcmp 3 (XT.cmpL y0 y2) X0 hx hby d5_2 rfl rfl ?_
  refine own_ifY 8 X0 hx hby d5_3 (by decide) (by decide) (own_fltL hc41).2.1 ?_
  refine own_lload_n 9 X0 hx hby d5_8 rfl rfl ?_
  refine own_lload_n 10 X0 hx hby d5_9 rfl rfl ?_
  refine own_lcmp 11 (XT.cmpL y0 y2) X0 hx hby d5_10 rfl rfl ?_
  refine own_ifY 16 X0 hx hby d5_11 (by decide) (by decide) (own_fltL hc42).2.2.2 ?_
  refine own_iload_n 17 X0 hx hby d5_16 rfl rfl ?_
  refine own_iload 19 X0 hx hby d5_17 rfl rfl ?_
  refine own_icY 24 X0 hx hby d5_19 (by decide) (by decide) (flt hc43).2.1 ?_
  refine own_iconst 25 (0 : Int32) X0 hx hby d5_24 rfl (by decide) ?_
  exact own_ret (Q := own_Q (some (.int (0 : Int32))) n0 h0) X0 hx hby hret hlk d5_25 rfl (Or.inl ⟨rfl, by simp, _, rfl⟩) (by decide) (by decide) ⟨rfl, N0, e0⟩
set_option maxRecDepth 65536 in
set_option maxHeartbeats 40000000 in
theorem cut_112_2 (l : Launch) (Z : State) (a0 : Array Value) (hw : ∀ d ∈ tables_1, d.before a0 Z = true) (w_EXCLUSIVE w_SHARED : Addr) (W : own_W Z w_EXCLUSIVE w_SHARED) (y0 : Int64) (x2 : Int32) (y3 : Int64) (x5 : Int32) (x6 : Int32) (y7 : Int64) (y9 : Int64) (x11 : Int32) (x12 : Int32) (m13 : Addr) (m14 : Addr) (h0 : Heap) (n0 : Nat) (O0 : Old Z n0 h0) (EZ_m13 : Exa Z Z.heap m13 "com/example/bare_turnstile/bareturnstile/EntryMode") (EZ_m14 : Exa Z Z.heap m14 "com/example/bare_turnstile/bareturnstile/EntryMode") (hq0 : ¬ (y7 < (1 : Int64))) (hq1 : ¬ (y9 < (1 : Int64))) (hq2 : ¬ (x11 < (0 : Int32))) (hq3 : ¬ (x12 < (0 : Int32))) {p : Program} {e : Env} {s : State} {m : MethodId} {args : Array Value} {below : List Frame} {meth : Method} {c : Code} {T : State} {vm0 : Vm} {locs : List Loc} {k0 : Nat}
    (X0 : Stand p l e room_1 (s.setVm vm0) m args below meth c T locs 0 0) (hx : p.tables.exec = Jvm.exec) (hby : c.code = code) (hml : c.maxLocals = 19) (hret : meth.sig.returnType = some .boolean) (hlk : meth.locks = false) (hZ : Z.Warmed39 (s.setVm vm0).vm) (hown : (s.setVm vm0).vm.findClass "com/example/bare_turnstile/bareturnstile/TicketIsBeforePinLaw" = some m.cls) (e0 : T.heap = h0) (N0 : Fr n0 locs) (hS : s.Since vm0 k0) (hk : k0 ≤ h0.size) :
    Go p e below (fun s₂ o => s₂.status = .running ∧ Ended s₂ below o ∧ ∃ v L, o = .returned v ∧ own_Q1 n0 v s₂.heap L ∧ ReturnedEndW s o s₂ L 16 1152) (T.setTop (mkF m 112 #[oJ y0, oS, oI x2, oJ y3, oS, oI x5, oI x6, oJ y7, oS, oJ y9, oS, oI x11, oI x12, oA m13, oA m14, oU, oU, oU, oU] [])) := by
  refine own_new 115 3 X0 hx hby hZ hown (own_w hw 5 rfl) (own_w hw 6 rfl) (own_w hw 7 rfl) e0 at_112 rfl (by decide) (by decide) ?_
  intro T14 h14 b14 X14 e14 E14 g14 A14 D14
  have n_b14 : n0 ≤ b14 := Nat.le_trans (own_n0 O0) (Nat.le_of_eq g14.symm)
  have O14 := O0.ext E14
  have hk := Nat.le_trans hk E14.1
  have F_b14_number : Fld Z h14 b14 "com/example/bare_turnstile/bareturnstile/Ticket" "number" "J" (.long (0 : Int64)) := D14 (Or.inr (own_w hw 15 rfl)) (ty := .long) (by decide)
  have F_b14_participant : Fld Z h14 b14 "com/example/bare_turnstile/bareturnstile/Ticket" "participant" "I" (.int (0 : Int32)) := D14 (Or.inr (own_w hw 17 rfl)) (ty := .int) (by decide)
  have F_b14_mode : Fld Z h14 b14 "com/example/bare_turnstile/bareturnstile/Ticket" "mode" "Lcom/example/bare_turnstile/bareturnstile/EntryMode;" .null := D14 (Or.inr (own_w hw 33 rfl)) (ty := (.object "com/example/bare_turnstile/bareturnstile/EntryMode")) (by decide)
  refine own_dup 116 X14 hx hby at_115 rfl rfl ?_
  refine own_lload 118 X14 hx hby at_116 rfl rfl ?_
  refine own_iload 120 X14 hx hby at_118 rfl rfl ?_
  refine own_aload 122 X14 hx hby at_120 rfl rfl rfl ?_
  refine own_specS (W := 1) 125 (rm1_2 l Z a0 hw [] w_EXCLUSIVE w_SHARED W b14 m13 y7 x11 h14 n0 O14 A14 F_b14_mode F_b14_number F_b14_participant n_b14 EZ_m13 hq0 hq2) X14 hx hby hZ hown rfl (own_w hw 8 rfl) (own_w hw 9 rfl) (own_w hw 7 rfl) (own_w hw 10 rfl) (by decide) (by rw [hml]; rfl) b14 [(.long y7), (.int x11), (.ref m13)] [(.ref b14)] pd_1 rfl at_122 rfl e14 rfl rfl rfl (by decide) (by decide) (by decide) (by decide) hS hk ?_
  rintro _ T26 L26 X26 ⟨rfl, N26, Kc26, E_b14_26, F_b14_mode_26, F_b14_number_26, F_b14_participant_26⟩ hS hZ hown
  have N26 := Fr.app N0 N26
  have O26 := O14.keep Kc26 (allS n_b14 all0)
  have hk := Nat.le_refl T26.heap.size
  show Go p e below _ (T26.setTop (mkF m 125 _ [(.ref b14)]))
  refine own_astore 127 #[oJ y0, oS, oI x2, oJ y3, oS, oI x5, oI x6, oJ y7, oS, oJ y9, oS, oI x11, oI x12, oA m13, oA m14, oA b14, oU, oU, oU] X26 hx hby at_125 rfl rfl rfl ?_
  refine own_new 130 3 X26 hx hby hZ hown (own_w hw 5 rfl) (own_w hw 6 rfl) (own_w hw 7 rfl) rfl at_127 rfl (by decide) (by decide) ?_
  intro T27 h27 b27 X27 e27 E27 g27 A27 D27
  have ne_b14_b27 : b14 ≠ b27 := Nat.ne_of_lt (Nat.lt_of_lt_of_le E_b14_26.lt (Nat.le_of_eq g27.symm))
  have n_b27 : n0 ≤ b27 := Nat.le_trans (own_n0 O26) (Nat.le_of_eq g27.symm)
  have E_b14_27 := E_b14_26.ext E27
  have F_b14_mode_27 := F_b14_mode_26.ext E27
  have F_b14_number_27 := F_b14_number_26.ext E27
  have F_b14_participant_27 := F_b14_participant_26.ext E27
  have O27 := O26.ext E27
  have hk := Nat.le_trans hk E27.1
  have F_b27_number : Fld Z h27 b27 "com/example/bare_turnstile/bareturnstile/Ticket" "number" "J" (.long (0 : Int64)) := D27 (Or.inr (own_w hw 15 rfl)) (ty := .long) (by decide)
  have F_b27_participant : Fld Z h27 b27 "com/example/bare_turnstile/bareturnstile/Ticket" "participant" "I" (.int (0 : Int32)) := D27 (Or.inr (own_w hw 17 rfl)) (ty := .int) (by decide)
  have F_b27_mode : Fld Z h27 b27 "com/example/bare_turnstile/bareturnstile/Ticket" "mode" "Lcom/example/bare_turnstile/bareturnstile/EntryMode;" .null := D27 (Or.inr (own_w hw 33 rfl)) (ty := (.object "com/example/bare_turnstile/bareturnstile/EntryMode")) (by decide)
  refine own_dup 131 X27 hx hby at_130 rfl rfl ?_
  refine own_lload 133 X27 hx hby at_131 rfl rfl ?_
  refine own_iload 135 X27 hx hby at_133 rfl rfl ?_
  refine own_aload 137 X27 hx hby at_135 rfl rfl rfl ?_
  refine own_specS (W := 1) 140 (rm1_2 l Z a0 hw [] w_EXCLUSIVE w_SHARED W b27 m14 y9 x12 h27 n0 O27 A27 F_b27_mode F_b27_number F_b27_participant n_b27 EZ_m14 hq1 hq3) X27 hx hby hZ hown rfl (own_w hw 8 rfl) (own_w hw 9 rfl) (own_w hw 7 rfl) (own_w hw 10 rfl) (by decide) (by rw [hml]; rfl) b27 [(.long y9), (.int x12), (.ref m14)] [(.ref b27)] pd_1 rfl at_137 rfl e27 rfl rfl rfl (by decide) (by decide) (by decide) (by decide) hS hk ?_
  rintro _ T28 L28 X28 ⟨rfl, N28, Kc28, E_b27_28, F_b27_mode_28, F_b27_number_28, F_b27_participant_28⟩ hS hZ hown
  have N28 := Fr.app N26 N28
  have E_b14_28 := E_b14_27.keep Kc28
  have F_b14_mode_28 := F_b14_mode_27.keep Kc28 (ninS ne_b14_b27 nin0)
  have F_b14_number_28 := F_b14_number_27.keep Kc28 (ninS ne_b14_b27 nin0)
  have F_b14_participant_28 := F_b14_participant_27.keep Kc28 (ninS ne_b14_b27 nin0)
  have O28 := O27.keep Kc28 (allS n_b27 all0)
  have hk := Nat.le_refl T28.heap.size
  show Go p e below _ (T28.setTop (mkF m 140 _ [(.ref b27)]))
  refine own_astore 142 #[oJ y0, oS, oI x2, oJ y3, oS, oI x5, oI x6, oJ y7, oS, oJ y9, oS, oI x11, oI x12, oA m13, oA m14, oA b14, oA b27, oU, oU] X28 hx hby at_140 rfl rfl rfl ?_
  refine own_aload 144 X28 hx hby at_142 rfl rfl rfl ?_
  refine own_aload 146 X28 hx hby at_144 rfl rfl rfl ?_
  by_cases hc38 : y7 < y9
  · refine own_virt (W := 0) 149 (rm4_3 l Z a0 hw [] w_EXCLUSIVE w_SHARED W b14 m13 b27 m14 y7 x11 y9 x12 T28.heap n0 O28 E_b14_28 F_b14_mode_28 F_b14_number_28 F_b14_participant_28 n_b14 EZ_m13 E_b27_28 F_b27_mode_28 F_b27_number_28 F_b27_participant_28 n_b27 EZ_m14 ne_b14_b27 hc38) X28 hx hby hZ hown (own_w hw 34 rfl) (own_w hw 35 rfl) (notFace_of_selects (args := #[]) (mvT hZ (own_w hw 37 rfl))) (own_w hw 37 rfl) (own_w hw 36 rfl) (own_w hw 7 rfl) (own_w hw 38 rfl) (by decide) (by rw [hml]; rfl) b14 [(.ref b27)] [] pd_2 rfl at_146 rfl rfl E_b14_28 rfl rfl rfl (by decide) (by decide) (by decide) (by decide) ?_
    rintro _ T39 L39 X39 ⟨rfl, N39, e39⟩
    have N39 := Fr.app N28 N39
    show Go p e below _ (T39.setTop (mkF m 149 _ [(.int (1 : Int32))]))
    refine own_istore 151 #[oJ y0, oS, oI x2, oJ y3, oS, oI x5, oI x6, oJ y7, oS, oJ y9, oS, oI x11, oI x12, oA m13, oA m14, oA b14, oA b27, oI (1 : Int32), oU] X39 hx hby at_149 rfl rfl ?_
    refine own_aload 153 X39 hx hby at_151 rfl rfl rfl ?_
    refine own_aload 155 X39 hx hby at_153 rfl rfl rfl ?_
    refine own_virt (W := 0) 158 (rm4_6 l Z a0 hw [] w_EXCLUSIVE w_SHARED W b27 m14 b14 m13 y9 x12 y7 x11 T28.heap n0 O28 E_b27_28 F_b27_mode_28 F_b27_number_28 F_b27_participant_28 n_b27 EZ_m14 E_b14_28 F_b14_mode_28 F_b14_number_28 F_b14_participant_28 n_b14 EZ_m13 (Ne.symm ne_b14_b27) (by have : -2 ^ 63 ≤ (y9).toInt ∧ (y9).toInt < 2 ^ 63 := own_rngJ y9; have : -2 ^ 63 ≤ (y7).toInt ∧ (y7).toInt < 2 ^ 63 := own_rngJ y7; have : (y7).toInt < (y9).toInt := Int64.lt_iff_toInt_lt.mp hc38; exact fun q => absurd (Int64.lt_iff_toInt_lt.mp q) (by omega)) (by have : -2 ^ 63 ≤ (y9).toInt ∧ (y9).toInt < 2 ^ 63 := own_rngJ y9; have : -2 ^ 63 ≤ (y7).toInt ∧ (y7).toInt < 2 ^ 63 := own_rngJ y7; have : (y7).toInt < (y9).toInt := Int64.lt_iff_toInt_lt.mp hc38; exact fun q => absurd (congrArg Int64.toInt q) (by omega))) X39 hx hby hZ hown (own_w hw 34 rfl) (own_w hw 35 rfl) (notFace_of_selects (args := #[]) (mvT hZ (own_w hw 37 rfl))) (own_w hw 37 rfl) (own_w hw 36 rfl) (own_w hw 7 rfl) (own_w hw 38 rfl) (by decide) (by rw [hml]; rfl) b27 [(.ref b14)] [] pd_2 rfl at_155 rfl e39 E_b27_28 rfl rfl rfl (by decide) (by decide) (by decide) (by decide) ?_
    rintro _ T40 L40 X40 ⟨rfl, N40, e40⟩
    have N40 := Fr.app N39 N40
    show Go p e below _ (T40.setTop (mkF m 158 _ [(.int (0 : Int32))]))
    refine own_istore 160 #[oJ y0, oS, oI x2, oJ y3, oS, oI x5, oI x6, oJ y7, oS, oJ y9, oS, oI x11, oI x12, oA m13, oA m14, oA b14, oA b27, oI (1 : Int32), oI (0 : Int32)] X40 hx hby at_158 rfl rfl ?_
    refine own_iload 162 X40 hx hby at_160 rfl rfl ?_
    refine own_lload 164 X40 hx hby at_162 rfl rfl ?_
    refine own_iload 166 X40 hx hby at_164 rfl rfl ?_
    refine own_lload 168 X40 hx hby at_166 rfl rfl ?_
    refine own_iload 170 X40 hx hby at_168 rfl rfl ?_
    refine own_callS (W := 1) 173 (rm5_7 l Z a0 hw [] w_EXCLUSIVE w_SHARED W y7 x11 y9 x12 T28.heap n0 O28 hc38) X40 hx hby hZ hown (own_w hw 39 rfl) (own_w hw 40 rfl) (own_w hw 41 rfl) (own_w hw 42 rfl) (by decide) (by rw [hml]; rfl) [(.long y7), (.int x11), (.long y9), (.int x12)] [(.int (1 : Int32))] pd_3 rfl at_170 rfl e40 rfl rfl rfl (by decide) (by decide) (by decide) (by decide) ?_
    rintro _ T44 L44 X44 ⟨rfl, N44, e44⟩
    have N44 := Fr.app N40 N44
    show Go p e below _ (T44.setTop (mkF m 173 _ [(.int (1 : Int32)), (.int (1 : Int32))]))
    refine own_icN 176 X44 hx hby at_173 rfl (by decide) ?_
    refine own_iload 178 X44 hx hby at_176 rfl rfl ?_
    refine own_lload 180 X44 hx hby at_178 rfl rfl ?_
    refine own_iload 182 X44 hx hby at_180 rfl rfl ?_
    refine own_lload 184 X44 hx hby at_182 rfl rfl ?_
    refine own_iload 186 X44 hx hby at_184 rfl rfl ?_
    refine own_callS (W := 1) 189 (rm5_8 l Z a0 hw [] w_EXCLUSIVE w_SHARED W y9 x12 y7 x11 T28.heap n0 O28 (by have : -2 ^ 63 ≤ (y9).toInt ∧ (y9).toInt < 2 ^ 63 := own_rngJ y9; have : -2 ^ 63 ≤ (y7).toInt ∧ (y7).toInt < 2 ^ 63 := own_rngJ y7; have : (y7).toInt < (y9).toInt := Int64.lt_iff_toInt_lt.mp hc38; exact fun q => absurd (Int64.lt_iff_toInt_lt.mp q) (by omega)) hc38) X44 hx hby hZ hown (own_w hw 39 rfl) (own_w hw 40 rfl) (own_w hw 41 rfl) (own_w hw 42 rfl) (by decide) (by rw [hml]; rfl) [(.long y9), (.int x12), (.long y7), (.int x11)] [(.int (0 : Int32))] pd_3 rfl at_186 rfl e44 rfl rfl rfl (by decide) (by decide) (by decide) (by decide) ?_
    rintro _ T45 L45 X45 ⟨rfl, N45, e45⟩
    have N45 := Fr.app N44 N45
    show Go p e below _ (T45.setTop (mkF m 189 _ [(.int (0 : Int32)), (.int (0 : Int32))]))
    refine own_icN 192 X45 hx hby at_189 rfl (by decide) ?_
    refine own_iconst 193 (1 : Int32) X45 hx hby at_192 rfl (by decide) ?_
    refine own_goto 197 X45 hx hby at_193 (by decide) (by decide) ?_
    exact own_retW (Q := own_Q1 n0) X45 hx hby hret hlk hS (by rw [e45]; exact hk) at_197 rfl (Or.inl ⟨rfl, by simp, _, rfl⟩) (by decide) (by decide) ⟨rfl, N45⟩
  by_cases hc46 : y7 = y9
  · by_cases hc47 : x11 < x12
    · refine own_virt (W := 0) 149 (rm4_4 l Z a0 hw [] w_EXCLUSIVE w_SHARED W b14 m13 b27 m14 y7 x11 y9 x12 T28.heap n0 O28 E_b14_28 F_b14_mode_28 F_b14_number_28 F_b14_participant_28 n_b14 EZ_m13 E_b27_28 F_b27_mode_28 F_b27_number_28 F_b27_participant_28 n_b27 EZ_m14 ne_b14_b27 hc38 hc46 hc47) X28 hx hby hZ hown (own_w hw 34 rfl) (own_w hw 35 rfl) (notFace_of_selects (args := #[]) (mvT hZ (own_w hw 37 rfl))) (own_w hw 37 rfl) (own_w hw 36 rfl) (own_w hw 7 rfl) (own_w hw 38 rfl) (by decide) (by rw [hml]; rfl) b14 [(.ref b27)] [] pd_2 rfl at_146 rfl rfl E_b14_28 rfl rfl rfl (by decide) (by decide) (by decide) (by decide) ?_
      rintro _ T48 L48 X48 ⟨rfl, N48, e48⟩
      have N48 := Fr.app N28 N48
      show Go p e below _ (T48.setTop (mkF m 149 _ [(.int (1 : Int32))]))
      refine own_istore 151 #[oJ y0, oS, oI x2, oJ y3, oS, oI x5, oI x6, oJ y7, oS, oJ y9, oS, oI x11, oI x12, oA m13, oA m14, oA b14, oA b27, oI (1 : Int32), oU] X48 hx hby at_149 rfl rfl ?_
      refine own_aload 153 X48 hx hby at_151 rfl rfl rfl ?_
      refine own_aload 155 X48 hx hby at_153 rfl rfl rfl ?_
      refine own_virt (W := 0) 158 (rm4_5 l Z a0 hw [] w_EXCLUSIVE w_SHARED W b27 m14 b14 m13 y9 x12 y7 x11 T28.heap n0 O28 E_b27_28 F_b27_mode_28 F_b27_number_28 F_b27_participant_28 n_b27 EZ_m14 E_b14_28 F_b14_mode_28 F_b14_number_28 F_b14_participant_28 n_b14 EZ_m13 (Ne.symm ne_b14_b27) (by have : -2 ^ 63 ≤ (y9).toInt ∧ (y9).toInt < 2 ^ 63 := own_rngJ y9; have : -2 ^ 63 ≤ (y7).toInt ∧ (y7).toInt < 2 ^ 63 := own_rngJ y7; have : (y7).toInt = (y9).toInt := congrArg Int64.toInt hc46; exact fun q => absurd (Int64.lt_iff_toInt_lt.mp q) (by omega)) hc46.symm (by have : -2 ^ 31 ≤ (x12).toInt ∧ (x12).toInt < 2 ^ 31 := own_rngI x12; have : -2 ^ 31 ≤ (x11).toInt ∧ (x11).toInt < 2 ^ 31 := own_rngI x11; have : (x11).toInt < (x12).toInt := Int32.lt_iff_toInt_lt.mp hc47; exact fun q => absurd (Int32.lt_iff_toInt_lt.mp q) (by omega))) X48 hx hby hZ hown (own_w hw 34 rfl) (own_w hw 35 rfl) (notFace_of_selects (args := #[]) (mvT hZ (own_w hw 37 rfl))) (own_w hw 37 rfl) (own_w hw 36 rfl) (own_w hw 7 rfl) (own_w hw 38 rfl) (by decide) (by rw [hml]; rfl) b27 [(.ref b14)] [] pd_2 rfl at_155 rfl e48 E_b27_28 rfl rfl rfl (by decide) (by decide) (by decide) (by decide) ?_
      rintro _ T49 L49 X49 ⟨rfl, N49, e49⟩
      have N49 := Fr.app N48 N49
      show Go p e below _ (T49.setTop (mkF m 158 _ [(.int (0 : Int32))]))
      refine own_istore 160 #[oJ y0, oS, oI x2, oJ y3, oS, oI x5, oI x6, oJ y7, oS, oJ y9, oS, oI x11, oI x12, oA m13, oA m14, oA b14, oA b27, oI (1 : Int32), oI (0 : Int32)] X49 hx hby at_158 rfl rfl ?_
      refine own_iload 162 X49 hx hby at_160 rfl rfl ?_
      refine own_lload 164 X49 hx hby at_162 rfl rfl ?_
      refine own_iload 166 X49 hx hby at_164 rfl rfl ?_
      refine own_lload 168 X49 hx hby at_166 rfl rfl ?_
      refine own_iload 170 X49 hx hby at_168 rfl rfl ?_
      refine own_callS (W := 1) 173 (rm5_9 l Z a0 hw [] w_EXCLUSIVE w_SHARED W y7 x11 y9 x12 T28.heap n0 O28 hc38 (by have : -2 ^ 63 ≤ (y9).toInt ∧ (y9).toInt < 2 ^ 63 := own_rngJ y9; have : -2 ^ 63 ≤ (y7).toInt ∧ (y7).toInt < 2 ^ 63 := own_rngJ y7; have : (y7).toInt = (y9).toInt := congrArg Int64.toInt hc46; exact fun q => absurd (Int64.lt_iff_toInt_lt.mp q) (by omega)) hc47) X49 hx hby hZ hown (own_w hw 39 rfl) (own_w hw 40 rfl) (own_w hw 41 rfl) (own_w hw 42 rfl) (by decide) (by rw [hml]; rfl) [(.long y7), (.int x11), (.long y9), (.int x12)] [(.int (1 : Int32))] pd_3 rfl at_170 rfl e49 rfl rfl rfl (by decide) (by decide) (by decide) (by decide) ?_
      rintro _ T50 L50 X50 ⟨rfl, N50, e50⟩
      have N50 := Fr.app N49 N50
      show Go p e below _ (T50.setTop (mkF m 173 _ [(.int (1 : Int32)), (.int (1 : Int32))]))
      refine own_icN 176 X50 hx hby at_173 rfl (by decide) ?_
      refine own_iload 178 X50 hx hby at_176 rfl rfl ?_
      refine own_lload 180 X50 hx hby at_178 rfl rfl ?_
      refine own_iload 182 X50 hx hby at_180 rfl rfl ?_
      refine own_lload 184 X50 hx hby at_182 rfl rfl ?_
      refine own_iload 186 X50 hx hby at_184 rfl rfl ?_
      refine own_callS (W := 1) 189 (rm5_10 l Z a0 hw [] w_EXCLUSIVE w_SHARED W y9 x12 y7 x11 T28.heap n0 O28 (by have : -2 ^ 63 ≤ (y9).toInt ∧ (y9).toInt < 2 ^ 63 := own_rngJ y9; have : -2 ^ 63 ≤ (y7).toInt ∧ (y7).toInt < 2 ^ 63 := own_rngJ y7; have : (y7).toInt = (y9).toInt := congrArg Int64.toInt hc46; exact fun q => absurd (Int64.lt_iff_toInt_lt.mp q) (by omega)) hc38 (by have : -2 ^ 31 ≤ (x12).toInt ∧ (x12).toInt < 2 ^ 31 := own_rngI x12; have : -2 ^ 31 ≤ (x11).toInt ∧ (x11).toInt < 2 ^ 31 := own_rngI x11; have : (x11).toInt < (x12).toInt := Int32.lt_iff_toInt_lt.mp hc47; exact fun q => absurd (Int32.lt_iff_toInt_lt.mp q) (by omega))) X50 hx hby hZ hown (own_w hw 39 rfl) (own_w hw 40 rfl) (own_w hw 41 rfl) (own_w hw 42 rfl) (by decide) (by rw [hml]; rfl) [(.long y9), (.int x12), (.long y7), (.int x11)] [(.int (0 : Int32))] pd_3 rfl at_186 rfl e50 rfl rfl rfl (by decide) (by decide) (by decide) (by decide) ?_
      rintro _ T51 L51 X51 ⟨rfl, N51, e51⟩
      have N51 := Fr.app N50 N51
      show Go p e below _ (T51.setTop (mkF m 189 _ [(.int (0 : Int32)), (.int (0 : Int32))]))
      refine own_icN 192 X51 hx hby at_189 rfl (by decide) ?_
      refine own_iconst 193 (1 : Int32) X51 hx hby at_192 rfl (by decide) ?_
      refine own_goto 197 X51 hx hby at_193 (by decide) (by decide) ?_
      exact own_retW (Q := own_Q1 n0) X51 hx hby hret hlk hS (by rw [e51]; exact hk) at_197 rfl (Or.inl ⟨rfl, by simp, _, rfl⟩) (by decide) (by decide) ⟨rfl, N51⟩
    refine own_virt (W := 0) 149 (rm4_5 l Z a0 hw [] w_EXCLUSIVE w_SHARED W b14 m13 b27 m14 y7 x11 y9 x12 T28.heap n0 O28 E_b14_28 F_b14_mode_28 F_b14_number_28 F_b14_participant_28 n_b14 EZ_m13 E_b27_28 F_b27_mode_28 F_b27_number_28 F_b27_participant_28 n_b27 EZ_m14 ne_b14_b27 hc38 hc46 hc47) X28 hx hby hZ hown (own_w hw 34 rfl) (own_w hw 35 rfl) (notFace_of_selects (args := #[]) (mvT hZ (own_w hw 37 rfl))) (own_w hw 37 rfl) (own_w hw 36 rfl) (own_w hw 7 rfl) (own_w hw 38 rfl) (by decide) (by rw [hml]; rfl) b14 [(.ref b27)] [] pd_2 rfl at_146 rfl rfl E_b14_28 rfl rfl rfl (by decide) (by decide) (by decide) (by decide) ?_
    rintro _ T52 L52 X52 ⟨rfl, N52, e52⟩
    have N52 := Fr.app N28 N52
    show Go p e below _ (T52.setTop (mkF m 149 _ [(.int (0 : Int32))]))
    refine own_istore 151 #[oJ y0, oS, oI x2, oJ y3, oS, oI x5, oI x6, oJ y7, oS, oJ y9, oS, oI x11, oI x12, oA m13, oA m14, oA b14, oA b27, oI (0 : Int32), oU] X52 hx hby at_149 rfl rfl ?_
    refine own_aload 153 X52 hx hby at_151 rfl rfl rfl ?_
    refine own_aload 155 X52 hx hby at_153 rfl rfl rfl ?_
    by_cases hc53 : x12 < x11
    · refine own_virt (W := 0) 158 (rm4_4 l Z a0 hw [] w_EXCLUSIVE w_SHARED W b27 m14 b14 m13 y9 x12 y7 x11 T28.heap n0 O28 E_b27_28 F_b27_mode_28 F_b27_number_28 F_b27_participant_28 n_b27 EZ_m14 E_b14_28 F_b14_mode_28 F_b14_number_28 F_b14_participant_28 n_b14 EZ_m13 (Ne.symm ne_b14_b27) (by have : -2 ^ 63 ≤ (y9).toInt ∧ (y9).toInt < 2 ^ 63 := own_rngJ y9; have : -2 ^ 63 ≤ (y7).toInt ∧ (y7).toInt < 2 ^ 63 := own_rngJ y7; have : (y7).toInt = (y9).toInt := congrArg Int64.toInt hc46; exact fun q => absurd (Int64.lt_iff_toInt_lt.mp q) (by omega)) hc46.symm hc53) X52 hx hby hZ hown (own_w hw 34 rfl) (own_w hw 35 rfl) (notFace_of_selects (args := #[]) (mvT hZ (own_w hw 37 rfl))) (own_w hw 37 rfl) (own_w hw 36 rfl) (own_w hw 7 rfl) (own_w hw 38 rfl) (by decide) (by rw [hml]; rfl) b27 [(.ref b14)] [] pd_2 rfl at_155 rfl e52 E_b27_28 rfl rfl rfl (by decide) (by decide) (by decide) (by decide) ?_
      rintro _ T54 L54 X54 ⟨rfl, N54, e54⟩
      have N54 := Fr.app N52 N54
      show Go p e below _ (T54.setTop (mkF m 158 _ [(.int (1 : Int32))]))
      refine own_istore 160 #[oJ y0, oS, oI x2, oJ y3, oS, oI x5, oI x6, oJ y7, oS, oJ y9, oS, oI x11, oI x12, oA m13, oA m14, oA b14, oA b27, oI (0 : Int32), oI (1 : Int32)] X54 hx hby at_158 rfl rfl ?_
      refine own_iload 162 X54 hx hby at_160 rfl rfl ?_
      refine own_lload 164 X54 hx hby at_162 rfl rfl ?_
      refine own_iload 166 X54 hx hby at_164 rfl rfl ?_
      refine own_lload 168 X54 hx hby at_166 rfl rfl ?_
      refine own_iload 170 X54 hx hby at_168 rfl rfl ?_
      refine own_callS (W := 1) 173 (rm5_10 l Z a0 hw [] w_EXCLUSIVE w_SHARED W y7 x11 y9 x12 T28.heap n0 O28 hc38 (by have : -2 ^ 63 ≤ (y9).toInt ∧ (y9).toInt < 2 ^ 63 := own_rngJ y9; have : -2 ^ 63 ≤ (y7).toInt ∧ (y7).toInt < 2 ^ 63 := own_rngJ y7; have : (y7).toInt = (y9).toInt := congrArg Int64.toInt hc46; exact fun q => absurd (Int64.lt_iff_toInt_lt.mp q) (by omega)) hc47) X54 hx hby hZ hown (own_w hw 39 rfl) (own_w hw 40 rfl) (own_w hw 41 rfl) (own_w hw 42 rfl) (by decide) (by rw [hml]; rfl) [(.long y7), (.int x11), (.long y9), (.int x12)] [(.int (0 : Int32))] pd_3 rfl at_170 rfl e54 rfl rfl rfl (by decide) (by decide) (by decide) (by decide) ?_
      rintro _ T55 L55 X55 ⟨rfl, N55, e55⟩
      have N55 := Fr.app N54 N55
      show Go p e below _ (T55.setTop (mkF m 173 _ [(.int (0 : Int32)), (.int (0 : Int32))]))
      refine own_icN 176 X55 hx hby at_173 rfl (by decide) ?_
      refine own_iload 178 X55 hx hby at_176 rfl rfl ?_
      refine own_lload 180 X55 hx hby at_178 rfl rfl ?_
      refine own_iload 182 X55 hx hby at_180 rfl rfl ?_
      refine own_lload 184 X55 hx hby at_182 rfl rfl ?_
      refine own_iload 186 X55 hx hby at_184 rfl rfl ?_
      refine own_callS (W := 1) 189 (rm5_9 l Z a0 hw [] w_EXCLUSIVE w_SHARED W y9 x12 y7 x11 T28.heap n0 O28 (by have : -2 ^ 63 ≤ (y9).toInt ∧ (y9).toInt < 2 ^ 63 := own_rngJ y9; have : -2 ^ 63 ≤ (y7).toInt ∧ (y7).toInt < 2 ^ 63 := own_rngJ y7; have : (y7).toInt = (y9).toInt := congrArg Int64.toInt hc46; exact fun q => absurd (Int64.lt_iff_toInt_lt.mp q) (by omega)) hc38 hc53) X55 hx hby hZ hown (own_w hw 39 rfl) (own_w hw 40 rfl) (own_w hw 41 rfl) (own_w hw 42 rfl) (by decide) (by rw [hml]; rfl) [(.long y9), (.int x12), (.long y7), (.int x11)] [(.int (1 : Int32))] pd_3 rfl at_186 rfl e55 rfl rfl rfl (by decide) (by decide) (by decide) (by decide) ?_
      rintro _ T56 L56 X56 ⟨rfl, N56, e56⟩
      have N56 := Fr.app N55 N56
      show Go p e below _ (T56.setTop (mkF m 189 _ [(.int (1 : Int32)), (.int (1 : Int32))]))
      refine own_icN 192 X56 hx hby at_189 rfl (by decide) ?_
      refine own_iconst 193 (1 : Int32) X56 hx hby at_192 rfl (by decide) ?_
      refine own_goto 197 X56 hx hby at_193 (by decide) (by decide) ?_
      exact own_retW (Q := own_Q1 n0) X56 hx hby hret hlk hS (by rw [e56]; exact hk) at_197 rfl (Or.inl ⟨rfl, by simp, _, rfl⟩) (by decide) (by decide) ⟨rfl, N56⟩
    refine own_virt (W := 0) 158 (rm4_5 l Z a0 hw [] w_EXCLUSIVE w_SHARED W b27 m14 b14 m13 y9 x12 y7 x11 T28.heap n0 O28 E_b27_28 F_b27_mode_28 F_b27_number_28 F_b27_participant_28 n_b27 EZ_m14 E_b14_28 F_b14_mode_28 F_b14_number_28 F_b14_participant_28 n_b14 EZ_m13 (Ne.symm ne_b14_b27) (by have : -2 ^ 63 ≤ (y9).toInt ∧ (y9).toInt < 2 ^ 63 := own_rngJ y9; have : -2 ^ 63 ≤ (y7).toInt ∧ (y7).toInt < 2 ^ 63 := own_rngJ y7; have : (y7).toInt = (y9).toInt := congrArg Int64.toInt hc46; exact fun q => absurd (Int64.lt_iff_toInt_lt.mp q) (by omega)) hc46.symm hc53) X52 hx hby hZ hown (own_w hw 34 rfl) (own_w hw 35 rfl) (notFace_of_selects (args := #[]) (mvT hZ (own_w hw 37 rfl))) (own_w hw 37 rfl) (own_w hw 36 rfl) (own_w hw 7 rfl) (own_w hw 38 rfl) (by decide) (by rw [hml]; rfl) b27 [(.ref b14)] [] pd_2 rfl at_155 rfl e52 E_b27_28 rfl rfl rfl (by decide) (by decide) (by decide) (by decide) ?_
    rintro _ T57 L57 X57 ⟨rfl, N57, e57⟩
    have N57 := Fr.app N52 N57
    show Go p e below _ (T57.setTop (mkF m 158 _ [(.int (0 : Int32))]))
    refine own_istore 160 #[oJ y0, oS, oI x2, oJ y3, oS, oI x5, oI x6, oJ y7, oS, oJ y9, oS, oI x11, oI x12, oA m13, oA m14, oA b14, oA b27, oI (0 : Int32), oI (0 : Int32)] X57 hx hby at_158 rfl rfl ?_
    refine own_iload 162 X57 hx hby at_160 rfl rfl ?_
    refine own_lload 164 X57 hx hby at_162 rfl rfl ?_
    refine own_iload 166 X57 hx hby at_164 rfl rfl ?_
    refine own_lload 168 X57 hx hby at_166 rfl rfl ?_
    refine own_iload 170 X57 hx hby at_168 rfl rfl ?_
    refine own_callS (W := 1) 173 (rm5_10 l Z a0 hw [] w_EXCLUSIVE w_SHARED W y7 x11 y9 x12 T28.heap n0 O28 hc38 (by have : -2 ^ 63 ≤ (y9).toInt ∧ (y9).toInt < 2 ^ 63 := own_rngJ y9; have : -2 ^ 63 ≤ (y7).toInt ∧ (y7).toInt < 2 ^ 63 := own_rngJ y7; have : (y7).toInt = (y9).toInt := congrArg Int64.toInt hc46; exact fun q => absurd (Int64.lt_iff_toInt_lt.mp q) (by omega)) hc47) X57 hx hby hZ hown (own_w hw 39 rfl) (own_w hw 40 rfl) (own_w hw 41 rfl) (own_w hw 42 rfl) (by decide) (by rw [hml]; rfl) [(.long y7), (.int x11), (.long y9), (.int x12)] [(.int (0 : Int32))] pd_3 rfl at_170 rfl e57 rfl rfl rfl (by decide) (by decide) (by decide) (by decide) ?_
    rintro _ T58 L58 X58 ⟨rfl, N58, e58⟩
    have N58 := Fr.app N57 N58
    show Go p e below _ (T58.setTop (mkF m 173 _ [(.int (0 : Int32)), (.int (0 : Int32))]))
    refine own_icN 176 X58 hx hby at_173 rfl (by decide) ?_
    refine own_iload 178 X58 hx hby at_176 rfl rfl ?_
    refine own_lload 180 X58 hx hby at_178 rfl rfl ?_
    refine own_iload 182 X58 hx hby at_180 rfl rfl ?_
    refine own_lload 184 X58 hx hby at_182 rfl rfl ?_
    refine own_iload 186 X58 hx hby at_184 rfl rfl ?_
    refine own_callS (W := 1) 189 (rm5_10 l Z a0 hw [] w_EXCLUSIVE w_SHARED W y9 x12 y7 x11 T28.heap n0 O28 (by have : -2 ^ 63 ≤ (y9).toInt ∧ (y9).toInt < 2 ^ 63 := own_rngJ y9; have : -2 ^ 63 ≤ (y7).toInt ∧ (y7).toInt < 2 ^ 63 := own_rngJ y7; have : (y7).toInt = (y9).toInt := congrArg Int64.toInt hc46; exact fun q => absurd (Int64.lt_iff_toInt_lt.mp q) (by omega)) hc38 hc53) X58 hx hby hZ hown (own_w hw 39 rfl) (own_w hw 40 rfl) (own_w hw 41 rfl) (own_w hw 42 rfl) (by decide) (by rw [hml]; rfl) [(.long y9), (.int x12), (.long y7), (.int x11)] [(.int (0 : Int32))] pd_3 rfl at_186 rfl e58 rfl rfl rfl (by decide) (by decide) (by decide) (by decide) ?_
    rintro _ T59 L59 X59 ⟨rfl, N59, e59⟩
    have N59 := Fr.app N58 N59
    show Go p e below _ (T59.setTop (mkF m 189 _ [(.int (0 : Int32)), (.int (0 : Int32))]))
    refine own_icN 192 X59 hx hby at_189 rfl (by decide) ?_
    refine own_iconst 193 (1 : Int32) X59 hx hby at_192 rfl (by decide) ?_
    refine own_goto 197 X59 hx hby at_193 (by decide) (by decide) ?_
    exact own_retW (Q := own_Q1 n0) X59 hx hby hret hlk hS (by rw [e59]; exact hk) at_197 rfl (Or.inl ⟨rfl, by simp, _, rfl⟩) (by decide) (by decide) ⟨rfl, N59⟩
  refine own_virt (W := 0) 149 (rm4_6 l Z a0 hw [] w_EXCLUSIVE w_SHARED W b14 m13 b27 m14 y7 x11 y9 x12 T28.heap n0 O28 E_b14_28 F_b14_mode_28 F_b14_number_28 F_b14_participant_28 n_b14 EZ_m13 E_b27_28 F_b27_mode_28 F_b27_number_28 F_b27_participant_28 n_b27 EZ_m14 ne_b14_b27 hc38 hc46) X28 hx hby hZ hown (own_w hw 34 rfl) (own_w hw 35 rfl) (notFace_of_selects (args := #[]) (mvT hZ (own_w hw 37 rfl))) (own_w hw 37 rfl) (own_w hw 36 rfl) (own_w hw 7 rfl) (own_w hw 38 rfl) (by decide) (by rw [hml]; rfl) b14 [(.ref b27)] [] pd_2 rfl at_146 rfl rfl E_b14_28 rfl rfl rfl (by decide) (by decide) (by decide) (by decide) ?_
  rintro _ T60 L60 X60 ⟨rfl, N60, e60⟩
  have N60 := Fr.app N28 N60
  show Go p e below _ (T60.setTop (mkF m 149 _ [(.int (0 : Int32))]))
  refine own_istore 151 #[oJ y0, oS, oI x2, oJ y3, oS, oI x5, oI x6, oJ y7, oS, oJ y9, oS, oI x11, oI x12, oA m13, oA m14, oA b14, oA b27, oI (0 : Int32), oU] X60 hx hby at_149 rfl rfl ?_
  refine own_aload 153 X60 hx hby at_151 rfl rfl rfl ?_
  refine own_aload 155 X60 hx hby at_153 rfl rfl rfl ?_
  refine own_virt (W := 0) 158 (rm4_3 l Z a0 hw [] w_EXCLUSIVE w_SHARED W b27 m14 b14 m13 y9 x12 y7 x11 T28.heap n0 O28 E_b27_28 F_b27_mode_28 F_b27_number_28 F_b27_participant_28 n_b27 EZ_m14 E_b14_28 F_b14_mode_28 F_b14_number_28 F_b14_participant_28 n_b14 EZ_m13 (Ne.symm ne_b14_b27) (by have : -2 ^ 63 ≤ (y9).toInt ∧ (y9).toInt < 2 ^ 63 := own_rngJ y9; have : -2 ^ 63 ≤ (y7).toInt ∧ (y7).toInt < 2 ^ 63 := own_rngJ y7; have : ¬ ((y7).toInt < (y9).toInt) := fun q => hc38 (Int64.lt_iff_toInt_lt.mpr q); have : ¬ ((y7).toInt = (y9).toInt) := fun q => hc46 (Int64.toInt_inj.mp q); exact Int64.lt_iff_toInt_lt.mpr (by omega))) X60 hx hby hZ hown (own_w hw 34 rfl) (own_w hw 35 rfl) (notFace_of_selects (args := #[]) (mvT hZ (own_w hw 37 rfl))) (own_w hw 37 rfl) (own_w hw 36 rfl) (own_w hw 7 rfl) (own_w hw 38 rfl) (by decide) (by rw [hml]; rfl) b27 [(.ref b14)] [] pd_2 rfl at_155 rfl e60 E_b27_28 rfl rfl rfl (by decide) (by decide) (by decide) (by decide) ?_
  rintro _ T61 L61 X61 ⟨rfl, N61, e61⟩
  have N61 := Fr.app N60 N61
  show Go p e below _ (T61.setTop (mkF m 158 _ [(.int (1 : Int32))]))
  refine own_istore 160 #[oJ y0, oS, oI x2, oJ y3, oS, oI x5, oI x6, oJ y7, oS, oJ y9, oS, oI x11, oI x12, oA m13, oA m14, oA b14, oA b27, oI (0 : Int32), oI (1 : Int32)] X61 hx hby at_158 rfl rfl ?_
  refine own_iload 162 X61 hx hby at_160 rfl rfl ?_
  refine own_lload 164 X61 hx hby at_162 rfl rfl ?_
  refine own_iload 166 X61 hx hby at_164 rfl rfl ?_
  refine own_lload 168 X61 hx hby at_166 rfl rfl ?_
  refine own_iload 170 X61 hx hby at_168 rfl rfl ?_
  refine own_callS (W := 1) 173 (rm5_8 l Z a0 hw [] w_EXCLUSIVE w_SHARED W y7 x11 y9 x12 T28.heap n0 O28 hc38 (by have : -2 ^ 63 ≤ (y9).toInt ∧ (y9).toInt < 2 ^ 63 := own_rngJ y9; have : -2 ^ 63 ≤ (y7).toInt ∧ (y7).toInt < 2 ^ 63 := own_rngJ y7; have : ¬ ((y7).toInt < (y9).toInt) := fun q => hc38 (Int64.lt_iff_toInt_lt.mpr q); have : ¬ ((y7).toInt = (y9).toInt) := fun q => hc46 (Int64.toInt_inj.mp q); exact Int64.lt_iff_toInt_lt.mpr (by omega))) X61 hx hby hZ hown (own_w hw 39 rfl) (own_w hw 40 rfl) (own_w hw 41 rfl) (own_w hw 42 rfl) (by decide) (by rw [hml]; rfl) [(.long y7), (.int x11), (.long y9), (.int x12)] [(.int (0 : Int32))] pd_3 rfl at_170 rfl e61 rfl rfl rfl (by decide) (by decide) (by decide) (by decide) ?_
  rintro _ T62 L62 X62 ⟨rfl, N62, e62⟩
  have N62 := Fr.app N61 N62
  show Go p e below _ (T62.setTop (mkF m 173 _ [(.int (0 : Int32)), (.int (0 : Int32))]))
  refine own_icN 176 X62 hx hby at_173 rfl (by decide) ?_
  refine own_iload 178 X62 hx hby at_176 rfl rfl ?_
  refine own_lload 180 X62 hx hby at_178 rfl rfl ?_
  refine own_iload 182 X62 hx hby at_180 rfl rfl ?_
  refine own_lload 184 X62 hx hby at_182 rfl rfl ?_
  refine own_iload 186 X62 hx hby at_184 rfl rfl ?_
  refine own_callS (W := 1) 189 (rm5_7 l Z a0 hw [] w_EXCLUSIVE w_SHARED W y9 x12 y7 x11 T28.heap n0 O28 (by have : -2 ^ 63 ≤ (y9).toInt ∧ (y9).toInt < 2 ^ 63 := own_rngJ y9; have : -2 ^ 63 ≤ (y7).toInt ∧ (y7).toInt < 2 ^ 63 := own_rngJ y7; have : ¬ ((y7).toInt < (y9).toInt) := fun q => hc38 (Int64.lt_iff_toInt_lt.mpr q); have : ¬ ((y7).toInt = (y9).toInt) := fun q => hc46 (Int64.toInt_inj.mp q); exact Int64.lt_iff_toInt_lt.mpr (by omega))) X62 hx hby hZ hown (own_w hw 39 rfl) (own_w hw 40 rfl) (own_w hw 41 rfl) (own_w hw 42 rfl) (by decide) (by rw [hml]; rfl) [(.long y9), (.int x12), (.long y7), (.int x11)] [(.int (1 : Int32))] pd_3 rfl at_186 rfl e62 rfl rfl rfl (by decide) (by decide) (by decide) (by decide) ?_
  rintro _ T63 L63 X63 ⟨rfl, N63, e63⟩
  have N63 := Fr.app N62 N63
  show Go p e below _ (T63.setTop (mkF m 189 _ [(.int (1 : Int32)), (.int (1 : Int32))]))
  refine own_icN 192 X63 hx hby at_189 rfl (by decide) ?_
  refine own_iconst 193 (1 : Int32) X63 hx hby at_192 rfl (by decide) ?_
  refine own_goto 197 X63 hx hby at_193 (by decide) (by decide) ?_
  exact own_retW (Q := own_Q1 n0) X63 hx hby hret hlk hS (by rw [e63]; exact hk) at_197 rfl (Or.inl ⟨rfl, by simp, _, rfl⟩) (by decide) (by decide) ⟨rfl, N63⟩
set_option maxRecDepth 65536 in
set_option maxHeartbeats 40000000 in
theorem cut_75_1 (l : Launch) (Z : State) (a0 : Array Value) (hw : ∀ d ∈ tables_1, d.before a0 Z = true) (w_EXCLUSIVE w_SHARED : Addr) (W : own_W Z w_EXCLUSIVE w_SHARED) (y0 : Int64) (x2 : Int32) (y3 : Int64) (x5 : Int32) (x6 : Int32) (y7 : Int64) (y9 : Int64) (x11 : Int32) (x12 : Int32) (h0 : Heap) (n0 : Nat) (O0 : Old Z n0 h0) (hq0 : ¬ (y7 < (1 : Int64))) (hq1 : ¬ (y9 < (1 : Int64))) (hq2 : ¬ (x11 < (0 : Int32))) (hq3 : ¬ (x12 < (0 : Int32))) {p : Program} {e : Env} {s : State} {m : MethodId} {args : Array Value} {below : List Frame} {meth : Method} {c : Code} {T : State} {vm0 : Vm} {locs : List Loc} {k0 : Nat}
    (X0 : Stand p l e room_1 (s.setVm vm0) m args below meth c T locs 0 0) (hx : p.tables.exec = Jvm.exec) (hby : c.code = code) (hml : c.maxLocals = 19) (hret : meth.sig.returnType = some .boolean) (hlk : meth.locks = false) (hZ : Z.Warmed39 (s.setVm vm0).vm) (hown : (s.setVm vm0).vm.findClass "com/example/bare_turnstile/bareturnstile/TicketIsBeforePinLaw" = some m.cls) (e0 : T.heap = h0) (N0 : Fr n0 locs) (hS : s.Since vm0 k0) (hk : k0 ≤ h0.size) :
    Go p e below (fun s₂ o => s₂.status = .running ∧ Ended s₂ below o ∧ ∃ v L, o = .returned v ∧ own_Q1 n0 v s₂.heap L ∧ ReturnedEndW s o s₂ L 16 1152) (T.setTop (mkF m 75 #[oJ y0, oS, oI x2, oJ y3, oS, oI x5, oI x6, oJ y7, oS, oJ y9, oS, oI x11, oI x12, oU, oU, oU, oU, oU, oU] [])) := by
  refine own_iload 77 X0 hx hby at_75 rfl rfl ?_
  refine own_iconst 78 (4 : Int32) X0 hx hby at_77 rfl (by decide) ?_
  obtain ⟨v8, dv8⟩ : ∃ z, z = (x6 &&& (4 : Int32)) := ⟨_, rfl⟩
  refine own_iand 79 v8 X0 hx hby at_78 rfl dv8.symm ?_
  by_cases hc9 : v8 = (0 : Int32)
  · refine own_ifY 88 X0 hx hby at_79 (by decide) (by decide) ((if0 _ _).trans (teq hc9).1) ?_
    refine own_getS 91 X0 hx hby hZ hown (own_w hw 2 rfl) e0 (W.1.ext O0.2) at_88 rfl ?_
    intro T10 X10 e10
    refine own_astore 93 #[oJ y0, oS, oI x2, oJ y3, oS, oI x5, oI x6, oJ y7, oS, oJ y9, oS, oI x11, oI x12, oA w_EXCLUSIVE, oU, oU, oU, oU, oU] X10 hx hby at_91 rfl rfl rfl ?_
    refine own_iload 95 X10 hx hby at_93 rfl rfl ?_
    refine own_bipush 97 (8 : Int32) X10 hx hby at_95 rfl (by decide) ?_
    obtain ⟨v11, dv11⟩ : ∃ z, z = (x6 &&& (8 : Int32)) := ⟨_, rfl⟩
    refine own_iand 98 v11 X10 hx hby at_97 rfl dv11.symm ?_
    by_cases hc12 : v11 = (0 : Int32)
    · refine own_ifY 107 X10 hx hby at_98 (by decide) (by decide) ((if0 _ _).trans (teq hc12).1) ?_
      refine own_getS 110 X10 hx hby hZ hown (own_w hw 2 rfl) e10 (W.1.ext O0.2) at_107 rfl ?_
      intro T13 X13 e13
      refine own_astore 112 #[oJ y0, oS, oI x2, oJ y3, oS, oI x5, oI x6, oJ y7, oS, oJ y9, oS, oI x11, oI x12, oA w_EXCLUSIVE, oA w_EXCLUSIVE, oU, oU, oU, oU] X13 hx hby at_110 rfl rfl rfl ?_
      exact cut_112_2 l Z a0 hw w_EXCLUSIVE w_SHARED W y0 x2 y3 x5 x6 y7 y9 x11 x12 w_EXCLUSIVE w_EXCLUSIVE h0 n0 O0 W.2.1 W.2.1 hq0 hq1 hq2 hq3 X13 hx hby hml hret hlk hZ hown e13 N0 hS hk
    refine own_ifN 101 X10 hx hby at_98 rfl ((if0 _ _).trans (feq hc12).1) ?_
    refine own_getS 104 X10 hx hby hZ hown (own_w hw 43 rfl) e10 (W.2.2.1.ext O0.2) at_101 rfl ?_
    intro T64 X64 e64
    refine own_goto 110 X64 hx hby at_104 (by decide) (by decide) ?_
    refine own_astore 112 #[oJ y0, oS, oI x2, oJ y3, oS, oI x5, oI x6, oJ y7, oS, oJ y9, oS, oI x11, oI x12, oA w_EXCLUSIVE, oA w_SHARED, oU, oU, oU, oU] X64 hx hby at_110 rfl rfl rfl ?_
    exact cut_112_2 l Z a0 hw w_EXCLUSIVE w_SHARED W y0 x2 y3 x5 x6 y7 y9 x11 x12 w_EXCLUSIVE w_SHARED h0 n0 O0 W.2.1 W.2.2.2 hq0 hq1 hq2 hq3 X64 hx hby hml hret hlk hZ hown e64 N0 hS hk
  refine own_ifN 82 X0 hx hby at_79 rfl ((if0 _ _).trans (feq hc9).1) ?_
  refine own_getS 85 X0 hx hby hZ hown (own_w hw 43 rfl) e0 (W.2.2.1.ext O0.2) at_82 rfl ?_
  intro T65 X65 e65
  refine own_goto 91 X65 hx hby at_85 (by decide) (by decide) ?_
  refine own_astore 93 #[oJ y0, oS, oI x2, oJ y3, oS, oI x5, oI x6, oJ y7, oS, oJ y9, oS, oI x11, oI x12, oA w_SHARED, oU, oU, oU, oU, oU] X65 hx hby at_91 rfl rfl rfl ?_
  refine own_iload 95 X65 hx hby at_93 rfl rfl ?_
  refine own_bipush 97 (8 : Int32) X65 hx hby at_95 rfl (by decide) ?_
  obtain ⟨v66, dv66⟩ : ∃ z, z = (x6 &&& (8 : Int32)) := ⟨_, rfl⟩
  refine own_iand 98 v66 X65 hx hby at_97 rfl dv66.symm ?_
  by_cases hc67 : v66 = (0 : Int32)
  · refine own_ifY 107 X65 hx hby at_98 (by decide) (by decide) ((if0 _ _).trans (teq hc67).1) ?_
    refine own_getS 110 X65 hx hby hZ hown (own_w hw 2 rfl) e65 (W.1.ext O0.2) at_107 rfl ?_
    intro T68 X68 e68
    refine own_astore 112 #[oJ y0, oS, oI x2, oJ y3, oS, oI x5, oI x6, oJ y7, oS, oJ y9, oS, oI x11, oI x12, oA w_SHARED, oA w_EXCLUSIVE, oU, oU, oU, oU] X68 hx hby at_110 rfl rfl rfl ?_
    exact cut_112_2 l Z a0 hw w_EXCLUSIVE w_SHARED W y0 x2 y3 x5 x6 y7 y9 x11 x12 w_SHARED w_EXCLUSIVE h0 n0 O0 W.2.2.2 W.2.1 hq0 hq1 hq2 hq3 X68 hx hby hml hret hlk hZ hown e68 N0 hS hk
  refine own_ifN 101 X65 hx hby at_98 rfl ((if0 _ _).trans (feq hc67).1) ?_
  refine own_getS 104 X65 hx hby hZ hown (own_w hw 43 rfl) e65 (W.2.2.1.ext O0.2) at_101 rfl ?_
  intro T69 X69 e69
  refine own_goto 110 X69 hx hby at_104 (by decide) (by decide) ?_
  refine own_astore 112 #[oJ y0, oS, oI x2, oJ y3, oS, oI x5, oI x6, oJ y7, oS, oJ y9, oS, oI x11, oI x12, oA w_SHARED, oA w_SHARED, oU, oU, oU, oU] X69 hx hby at_110 rfl rfl rfl ?_
  exact cut_112_2 l Z a0 hw w_EXCLUSIVE w_SHARED W y0 x2 y3 x5 x6 y7 y9 x11 x12 w_SHARED w_SHARED h0 n0 O0 W.2.2.2 W.2.2.2 hq0 hq1 hq2 hq3 X69 hx hby hml hret hlk hZ hown e69 N0 hS hk
set_option maxRecDepth 65536 in
set_option maxHeartbeats 40000000 in
theorem cut_48_0 (l : Launch) (Z : State) (a0 : Array Value) (hw : ∀ d ∈ tables_1, d.before a0 Z = true) (w_EXCLUSIVE w_SHARED : Addr) (W : own_W Z w_EXCLUSIVE w_SHARED) (y0 : Int64) (x2 : Int32) (y3 : Int64) (x5 : Int32) (x6 : Int32) (y7 : Int64) (y9 : Int64) (h0 : Heap) (n0 : Nat) (O0 : Old Z n0 h0) (hq0 : ¬ (y7 < (1 : Int64))) (hq1 : ¬ (y9 < (1 : Int64))) {p : Program} {e : Env} {s : State} {m : MethodId} {args : Array Value} {below : List Frame} {meth : Method} {c : Code} {T : State} {vm0 : Vm} {locs : List Loc} {k0 : Nat}
    (X0 : Stand p l e room_1 (s.setVm vm0) m args below meth c T locs 0 0) (hx : p.tables.exec = Jvm.exec) (hby : c.code = code) (hml : c.maxLocals = 19) (hret : meth.sig.returnType = some .boolean) (hlk : meth.locks = false) (hZ : Z.Warmed39 (s.setVm vm0).vm) (hown : (s.setVm vm0).vm.findClass "com/example/bare_turnstile/bareturnstile/TicketIsBeforePinLaw" = some m.cls) (e0 : T.heap = h0) (N0 : Fr n0 locs) (hS : s.Since vm0 k0) (hk : k0 ≤ h0.size) :
    Go p e below (fun s₂ o => s₂.status = .running ∧ Ended s₂ below o ∧ ∃ v L, o = .returned v ∧ own_Q1 n0 v s₂.heap L ∧ ReturnedEndW s o s₂ L 16 1152) (T.setTop (mkF m 48 #[oJ y0, oS, oI x2, oJ y3, oS, oI x5, oI x6, oJ y7, oS, oJ y9, oS, oU, oU, oU, oU, oU, oU, oU, oU] [])) := by
  refine own_iload_n 49 X0 hx hby at_48 rfl rfl ?_
  refine own_ldc 51 X0 hx hby hZ hown (own_w hw 1 rfl) at_49 rfl ?_
  refine own_iand 52 (x2 &&& (2147483647 : Int32)) X0 hx hby at_51 rfl rfl ?_
  refine own_istore 54 #[oJ y0, oS, oI x2, oJ y3, oS, oI x5, oI x6, oJ y7, oS, oJ y9, oS, oI (x2 &&& (2147483647 : Int32)), oU, oU, oU, oU, oU, oU, oU] X0 hx hby at_52 rfl rfl ?_
  refine own_iload 56 X0 hx hby at_54 rfl rfl ?_
  refine own_iconst 57 (2 : Int32) X0 hx hby at_56 rfl (by decide) ?_
  obtain ⟨v6, dv6⟩ : ∃ z, z = (x6 &&& (2 : Int32)) := ⟨_, rfl⟩
  refine own_iand 58 v6 X0 hx hby at_57 rfl dv6.symm ?_
  by_cases hc7 : v6 = (0 : Int32)
  · refine own_ifY 68 X0 hx hby at_58 (by decide) (by decide) ((if0 _ _).trans (teq hc7).1) ?_
    refine own_iload 70 X0 hx hby at_68 rfl rfl ?_
    refine own_ldc 72 X0 hx hby hZ hown (own_w hw 1 rfl) at_70 rfl ?_
    refine own_iand 73 (x5 &&& (2147483647 : Int32)) X0 hx hby at_72 rfl rfl ?_
    refine own_istore 75 #[oJ y0, oS, oI x2, oJ y3, oS, oI x5, oI x6, oJ y7, oS, oJ y9, oS, oI (x2 &&& (2147483647 : Int32)), oI (x5 &&& (2147483647 : Int32)), oU, oU, oU, oU, oU, oU] X0 hx hby at_73 rfl rfl ?_
    exact cut_75_1 l Z a0 hw w_EXCLUSIVE w_SHARED W y0 x2 y3 x5 x6 y7 y9 (x2 &&& (2147483647 : Int32)) (x5 &&& (2147483647 : Int32)) h0 n0 O0 hq0 hq1 (by have : 0 ≤ ((x2 &&& (2147483647 : Int32))).toInt ∧ ((x2 &&& (2147483647 : Int32))).toInt ≤ 2147483647 := own_mkI x2 (2147483647 : Int32) 31 (by decide) (by decide); have : ((0 : Int32)).toInt = 0 := rfl; exact fun q => absurd (Int32.lt_iff_toInt_lt.mp q) (by omega)) (by have : 0 ≤ ((x5 &&& (2147483647 : Int32))).toInt ∧ ((x5 &&& (2147483647 : Int32))).toInt ≤ 2147483647 := own_mkI x5 (2147483647 : Int32) 31 (by decide) (by decide); have : ((0 : Int32)).toInt = 0 := rfl; exact fun q => absurd (Int32.lt_iff_toInt_lt.mp q) (by omega)) X0 hx hby hml hret hlk hZ hown e0 N0 hS hk
  refine own_ifN 61 X0 hx hby at_58 rfl ((if0 _ _).trans (feq hc7).1) ?_
  refine own_iload 63 X0 hx hby at_61 rfl rfl ?_
  refine own_istore 65 #[oJ y0, oS, oI x2, oJ y3, oS, oI x5, oI x6, oJ y7, oS, oJ y9, oS, oI (x2 &&& (2147483647 : Int32)), oI (x2 &&& (2147483647 : Int32)), oU, oU, oU, oU, oU, oU] X0 hx hby at_63 rfl rfl ?_
  refine own_goto 75 X0 hx hby at_65 (by decide) (by decide) ?_
  exact cut_75_1 l Z a0 hw w_EXCLUSIVE w_SHARED W y0 x2 y3 x5 x6 y7 y9 (x2 &&& (2147483647 : Int32)) (x2 &&& (2147483647 : Int32)) h0 n0 O0 hq0 hq1 (by have : 0 ≤ ((x2 &&& (2147483647 : Int32))).toInt ∧ ((x2 &&& (2147483647 : Int32))).toInt ≤ 2147483647 := own_mkI x2 (2147483647 : Int32) 31 (by decide) (by decide); have : ((0 : Int32)).toInt = 0 := rfl; exact fun q => absurd (Int32.lt_iff_toInt_lt.mp q) (by omega)) (by have : 0 ≤ ((x2 &&& (2147483647 : Int32))).toInt ∧ ((x2 &&& (2147483647 : Int32))).toInt ≤ 2147483647 := own_mkI x2 (2147483647 : Int32) 31 (by decide) (by decide); have : ((0 : Int32)).toInt = 0 := rfl; exact fun q => absurd (Int32.lt_iff_toInt_lt.mp q) (by omega)) X0 hx hby hml hret hlk hZ hown e0 N0 hS hk
set_option maxRecDepth 65536 in
set_option maxHeartbeats 40000000 in
theorem rm0 (l : Launch) (Z : State) (a0 : Array Value) (hw : ∀ d ∈ tables_1, d.before a0 Z = true) (ws : List Jvm.Cond) (w_EXCLUSIVE w_SHARED : Addr) (W : own_W Z w_EXCLUSIVE w_SHARED) (q0 : Int64) (x1 : Int32) (q2 : Int64) (x3 : Int32) (x4 : Int32) (h0 : Heap) (n0 : Nat) (O0 : Old Z n0 h0)  :
    MetFree l x (head1 (Jvm.Cond.code x code maxLocals ret :: ws) room_1) (fun a U => a = #[(.long q0), (.int x1), (.long q2), (.int x3), (.int x4)] ∧ Z.Warmed39 U.vm ∧ U.heap = h0) (fun _ _ _ _ _ => True) (fun _ U o U' => ∃ v L, o = .returned v ∧ own_Q1 n0 v U'.heap L ∧ ReturnedEndW U o U' L 16 1152) := by
  refine MetFree.of_bodySF (plainFor_of_name pn_2) hisR ?_
  intro p e s m args below meth c s₁ Bd hml0 hP hK
  obtain ⟨rfl, hZ, hh⟩ := hP
  have hx := Bd.exec
  have hby := Bd.bytes
  have hml : c.maxLocals = 19 := hml0
  have hlk := BodyLoose.notSynchronized Bd
  have hret := Bd.returns
  have hown : s.vm.findClass "com/example/bare_turnstile/bareturnstile/TicketIsBeforePinLaw" = some m.cls := findClass_of_methodNamed Bd.named
  have hnm := (name_of_methodNamed Bd.named Bd.method).1
  have X0 : Stand p l e room_1 (s.setVm s.vm) m #[(.long q0), (.int x1), (.long q2), (.int x3), (.int x4)] below meth c s₁ [] 0 0 := Stand.of_body Bd
  have e0 : s₁.heap = h0 := by rw [← hh, Bd.state]; rfl
  have N0 := Fr.nil n0
  have hZ : Z.Warmed39 (s.setVm s.vm).vm := hZ
  have hown : (s.setVm s.vm).vm.findClass "com/example/bare_turnstile/bareturnstile/TicketIsBeforePinLaw" = some m.cls := hown
  rw [ef_0 m q0 x1 q2 x3 x4]
  show Go p e below _ (s₁.setTop (mkF m 0 #[oJ q0, oS, oI x1, oJ q2, oS, oI x3, oI x4, oU, oU, oU, oU, oU, oU, oU, oU, oU, oU, oU, oU] []))
  have hS := (State.WarmedH.refl s).since 0
  have hk : 0 ≤ h0.size := Nat.zero_le _
  refine own_lload_n 1 X0 hx hby at_0 rfl rfl ?_
  refine own_ldc2 4 X0 hx hby hZ hown (own_w hw 0 rfl) at_1 rfl ?_
  obtain ⟨v1, dv1⟩ : ∃ z, z = (q0 &&& (9223372036854775807 : Int64)) := ⟨_, rfl⟩
  refine own_land 5 v1 X0 hx hby at_4 rfl dv1.symm ?_
  refine own_lstore 7 #[oJ q0, oS, oI x1, oJ q2, oS, oI x3, oI x4, oJ v1, oS, oU, oU, oU, oU, oU, oU, oU, oU, oU, oU] X0 hx hby at_5 rfl rfl ?_
  refine own_lload 9 X0 hx hby at_7 rfl rfl ?_
  refine own_lconst 10 (0 : Int64) X0 hx hby at_9 rfl (by decide) ?_
  refine own_lcmp 11 (XT.cmpL v1 (0 : Int64)) X0 hx hby at_10 rfl rfl ?_
  by_cases hc2 : v1 = (0 : Int64)
  · refine own_ifN 14 X0 hx hby at_11 rfl (own_teqL hc2).2 ?_
    refine own_lconst 15 (1 : Int64) X0 hx hby at_14 rfl (by decide) ?_
    refine own_lstore 17 #[oJ q0, oS, oI x1, oJ q2, oS, oI x3, oI x4, oJ (1 : Int64), oS, oU, oU, oU, oU, oU, oU, oU, oU, oU, oU] X0 hx hby at_15 rfl rfl ?_
    refine own_iload 19 X0 hx hby at_17 rfl rfl ?_
    refine own_iconst 20 (1 : Int32) X0 hx hby at_19 rfl (by decide) ?_
    rcases own_and1 x4 with hv3 | hv3
    · refine own_iand 21 (0 : Int32) X0 hx hby at_20 rfl hv3 ?_
      refine own_ifY 31 X0 hx hby at_21 (by decide) (by decide) (by decide) ?_
      refine own_lload_n 32 X0 hx hby at_31 rfl rfl ?_
      refine own_ldc2 35 X0 hx hby hZ hown (own_w hw 0 rfl) at_32 rfl ?_
      obtain ⟨v4, dv4⟩ : ∃ z, z = (q2 &&& (9223372036854775807 : Int64)) := ⟨_, rfl⟩
      refine own_land 36 v4 X0 hx hby at_35 rfl dv4.symm ?_
      refine own_lstore 38 #[oJ q0, oS, oI x1, oJ q2, oS, oI x3, oI x4, oJ (1 : Int64), oS, oJ v4, oS, oU, oU, oU, oU, oU, oU, oU, oU] X0 hx hby at_36 rfl rfl ?_
      refine own_lload 40 X0 hx hby at_38 rfl rfl ?_
      refine own_lconst 41 (0 : Int64) X0 hx hby at_40 rfl (by decide) ?_
      refine own_lcmp 42 (XT.cmpL v4 (0 : Int64)) X0 hx hby at_41 rfl rfl ?_
      by_cases hc5 : v4 = (0 : Int64)
      · refine own_ifN 45 X0 hx hby at_42 rfl (own_teqL hc5).2 ?_
        refine own_lconst 46 (1 : Int64) X0 hx hby at_45 rfl (by decide) ?_
        refine own_lstore 48 #[oJ q0, oS, oI x1, oJ q2, oS, oI x3, oI x4, oJ (1 : Int64), oS, oJ (1 : Int64), oS, oU, oU, oU, oU, oU, oU, oU, oU] X0 hx hby at_46 rfl rfl ?_
        exact cut_48_0 l Z a0 hw w_EXCLUSIVE w_SHARED W q0 x1 q2 x3 x4 (1 : Int64) (1 : Int64) h0 n0 O0 (by decide) (by decide) X0 hx hby hml hret hlk hZ hown e0 N0 hS hk
      refine own_ifY 48 X0 hx hby at_42 (by decide) (by decide) (own_feqL hc5).2 ?_
      exact cut_48_0 l Z a0 hw w_EXCLUSIVE w_SHARED W q0 x1 q2 x3 x4 (1 : Int64) v4 h0 n0 O0 (by decide) (by have : 0 ≤ ((q2 &&& (9223372036854775807 : Int64))).toInt ∧ ((q2 &&& (9223372036854775807 : Int64))).toInt ≤ 9223372036854775807 := own_mkJ q2 (9223372036854775807 : Int64) 63 (by decide) (by decide); have : (v4).toInt = ((q2 &&& (9223372036854775807 : Int64))).toInt := congrArg Int64.toInt dv4; have : ((1 : Int64)).toInt = 1 := rfl; have : ((0 : Int64)).toInt = 0 := rfl; have : ¬ ((v4).toInt = ((0 : Int64)).toInt) := fun q => hc5 (Int64.toInt_inj.mp q); exact fun q => absurd (Int64.lt_iff_toInt_lt.mp q) (by omega)) X0 hx hby hml hret hlk hZ hown e0 N0 hS hk
    · refine own_iand 21 (1 : Int32) X0 hx hby at_20 rfl hv3 ?_
      refine own_ifN 24 X0 hx hby at_21 rfl (by decide) ?_
      refine own_lload 26 X0 hx hby at_24 rfl rfl ?_
      refine own_lstore 28 #[oJ q0, oS, oI x1, oJ q2, oS, oI x3, oI x4, oJ (1 : Int64), oS, oJ (1 : Int64), oS, oU, oU, oU, oU, oU, oU, oU, oU] X0 hx hby at_26 rfl rfl ?_
      refine own_goto 48 X0 hx hby at_28 (by decide) (by decide) ?_
      exact cut_48_0 l Z a0 hw w_EXCLUSIVE w_SHARED W q0 x1 q2 x3 x4 (1 : Int64) (1 : Int64) h0 n0 O0 (by decide) (by decide) X0 hx hby hml hret hlk hZ hown e0 N0 hS hk
  refine own_ifY 17 X0 hx hby at_11 (by decide) (by decide) (own_feqL hc2).2 ?_
  refine own_iload 19 X0 hx hby at_17 rfl rfl ?_
  refine own_iconst 20 (1 : Int32) X0 hx hby at_19 rfl (by decide) ?_
  rcases own_and1 x4 with hv70 | hv70
  · refine own_iand 21 (0 : Int32) X0 hx hby at_20 rfl hv70 ?_
    refine own_ifY 31 X0 hx hby at_21 (by decide) (by decide) (by decide) ?_
    refine own_lload_n 32 X0 hx hby at_31 rfl rfl ?_
    refine own_ldc2 35 X0 hx hby hZ hown (own_w hw 0 rfl) at_32 rfl ?_
    obtain ⟨v71, dv71⟩ : ∃ z, z = (q2 &&& (9223372036854775807 : Int64)) := ⟨_, rfl⟩
    refine own_land 36 v71 X0 hx hby at_35 rfl dv71.symm ?_
    refine own_lstore 38 #[oJ q0, oS, oI x1, oJ q2, oS, oI x3, oI x4, oJ v1, oS, oJ v71, oS, oU, oU, oU, oU, oU, oU, oU, oU] X0 hx hby at_36 rfl rfl ?_
    refine own_lload 40 X0 hx hby at_38 rfl rfl ?_
    refine own_lconst 41 (0 : Int64) X0 hx hby at_40 rfl (by decide) ?_
    refine own_lcmp 42 (XT.cmpL v71 (0 : Int64)) X0 hx hby at_41 rfl rfl ?_
    by_cases hc72 : v71 = (0 : Int64)
    · refine own_ifN 45 X0 hx hby at_42 rfl (own_teqL hc72).2 ?_
      refine own_lconst 46 (1 : Int64) X0 hx hby at_45 rfl (by decide) ?_
      refine own_lstore 48 #[oJ q0, oS, oI x1, oJ q2, oS, oI x3, oI x4, oJ v1, oS, oJ (1 : Int64), oS, oU, oU, oU, oU, oU, oU, oU, oU] X0 hx hby at_46 rfl rfl ?_
      exact cut_48_0 l Z a0 hw w_EXCLUSIVE w_SHARED W q0 x1 q2 x3 x4 v1 (1 : Int64) h0 n0 O0 (by have : 0 ≤ ((q0 &&& (9223372036854775807 : Int64))).toInt ∧ ((q0 &&& (9223372036854775807 : Int64))).toInt ≤ 9223372036854775807 := own_mkJ q0 (9223372036854775807 : Int64) 63 (by decide) (by decide); have : (v1).toInt = ((q0 &&& (9223372036854775807 : Int64))).toInt := congrArg Int64.toInt dv1; have : ((1 : Int64)).toInt = 1 := rfl; have : ((0 : Int64)).toInt = 0 := rfl; have : ¬ ((v1).toInt = ((0 : Int64)).toInt) := fun q => hc2 (Int64.toInt_inj.mp q); exact fun q => absurd (Int64.lt_iff_toInt_lt.mp q) (by omega)) (by decide) X0 hx hby hml hret hlk hZ hown e0 N0 hS hk
    refine own_ifY 48 X0 hx hby at_42 (by decide) (by decide) (own_feqL hc72).2 ?_
    exact cut_48_0 l Z a0 hw w_EXCLUSIVE w_SHARED W q0 x1 q2 x3 x4 v1 v71 h0 n0 O0 (by have : 0 ≤ ((q0 &&& (9223372036854775807 : Int64))).toInt ∧ ((q0 &&& (9223372036854775807 : Int64))).toInt ≤ 9223372036854775807 := own_mkJ q0 (9223372036854775807 : Int64) 63 (by decide) (by decide); have : (v1).toInt = ((q0 &&& (9223372036854775807 : Int64))).toInt := congrArg Int64.toInt dv1; have : ((1 : Int64)).toInt = 1 := rfl; have : ((0 : Int64)).toInt = 0 := rfl; have : ¬ ((v1).toInt = ((0 : Int64)).toInt) := fun q => hc2 (Int64.toInt_inj.mp q); exact fun q => absurd (Int64.lt_iff_toInt_lt.mp q) (by omega)) (by have : 0 ≤ ((q2 &&& (9223372036854775807 : Int64))).toInt ∧ ((q2 &&& (9223372036854775807 : Int64))).toInt ≤ 9223372036854775807 := own_mkJ q2 (9223372036854775807 : Int64) 63 (by decide) (by decide); have : (v71).toInt = ((q2 &&& (9223372036854775807 : Int64))).toInt := congrArg Int64.toInt dv71; have : ((1 : Int64)).toInt = 1 := rfl; have : ((0 : Int64)).toInt = 0 := rfl; have : ¬ ((v71).toInt = ((0 : Int64)).toInt) := fun q => hc72 (Int64.toInt_inj.mp q); exact fun q => absurd (Int64.lt_iff_toInt_lt.mp q) (by omega)) X0 hx hby hml hret hlk hZ hown e0 N0 hS hk
  · refine own_iand 21 (1 : Int32) X0 hx hby at_20 rfl hv70 ?_
    refine own_ifN 24 X0 hx hby at_21 rfl (by decide) ?_
    refine own_lload 26 X0 hx hby at_24 rfl rfl ?_
    refine own_lstore 28 #[oJ q0, oS, oI x1, oJ q2, oS, oI x3, oI x4, oJ v1, oS, oJ v1, oS, oU, oU, oU, oU, oU, oU, oU, oU] X0 hx hby at_26 rfl rfl ?_
    refine own_goto 48 X0 hx hby at_28 (by decide) (by decide) ?_
    exact cut_48_0 l Z a0 hw w_EXCLUSIVE w_SHARED W q0 x1 q2 x3 x4 v1 v1 h0 n0 O0 (by have : 0 ≤ ((q0 &&& (9223372036854775807 : Int64))).toInt ∧ ((q0 &&& (9223372036854775807 : Int64))).toInt ≤ 9223372036854775807 := own_mkJ q0 (9223372036854775807 : Int64) 63 (by decide) (by decide); have : (v1).toInt = ((q0 &&& (9223372036854775807 : Int64))).toInt := congrArg Int64.toInt dv1; have : ((1 : Int64)).toInt = 1 := rfl; have : ((0 : Int64)).toInt = 0 := rfl; have : ¬ ((v1).toInt = ((0 : Int64)).toInt) := fun q => hc2 (Int64.toInt_inj.mp q); exact fun q => absurd (Int64.lt_iff_toInt_lt.mp q) (by omega)) (by have : 0 ≤ ((q0 &&& (9223372036854775807 : Int64))).toInt ∧ ((q0 &&& (9223372036854775807 : Int64))).toInt ≤ 9223372036854775807 := own_mkJ q0 (9223372036854775807 : Int64) 63 (by decide) (by decide); have : (v1).toInt = ((q0 &&& (9223372036854775807 : Int64))).toInt := congrArg Int64.toInt dv1; have : ((1 : Int64)).toInt = 1 := rfl; have : ((0 : Int64)).toInt = 0 := rfl; have : ¬ ((v1).toInt = ((0 : Int64)).toInt) := fun q => hc2 (Int64.toInt_inj.mp q); exact fun q => absurd (Int64.lt_iff_toInt_lt.mp q) (by omega)) X0 hx hby hml hret hlk hZ hown e0 N0 hS hk
set_option maxRecDepth 65536 in
set_option maxHeartbeats 40000000 in
theorem comes_1 {Post : Tables → Env → Array Value → State → Outcome → State → Prop} (hpost : ∀ tb e args s v u, (limb_1_1.after args s (.returned v) u = true ∧ limb_1_2.after args s (.returned v) u = true) → ReturnedEndW s (.returned v) u (Jvm.fieldLocs frame_1_writes args s ++ Jvm.arrayLocs frame_1_arrays args s ++ Jvm.staticLocs frame_1_statics s) 16 1152 → Post tb e args s (.returned v) u) :
    ArmFor flags0 classFile x code maxLocals ret World_1 tables_1 room_1 Calls_1 rest_1 Pre_1 Post := by
  intro l hfl _ _ p e ha hc hk s m args below hf hA hF happ hP
  obtain ⟨hcalls, hrest, hpre⟩ := hP
  obtain ⟨-, -, -, hnamed, -, -, -, hat⟩ := (Spec.applies_iff hf).mp happ
  obtain ⟨hg, hn⟩ := and_e (Cond.before_iff.mp (show (Jvm.Cond.and given_1 narrow_1).before args s = true from hpre))
  obtain ⟨ga0, gb0⟩ := and_e hg
  obtain ⟨ga1, gb1⟩ := and_e gb0
  obtain ⟨ga2, gb2⟩ := and_e gb1
  obtain ⟨ga3, gb3⟩ := and_e gb2
  obtain ⟨ga4, ga5⟩ := and_e gb3
  obtain ⟨u0, u1, u2, u3, u4, rfl⟩ : ∃ u0 u1 u2 u3 u4 : Value, args = #[u0, u1, u2, u3, u4] := by
    have hs : args.size = 5 := by simpa [Cond.value, given_1] using ga0
    obtain ⟨L⟩ := args
    match L, hs with
    | [u0, u1, u2, u3, u4], _ => exact ⟨u0, u1, u2, u3, u4, rfl⟩
  have hw := fun d (hd : d ∈ tables_1) => atoms_spec (ws := Jvm.Cond.code x code maxLocals ret :: tables_1) hat d (List.mem_cons_of_mem _ hd)
  have hfit : Fit s := fun {y c} hc i hi => by
    obtain ⟨ha, rfl⟩ := Array.getElem?_eq_some_iff.mp hc
    have q := List.all_eq_true.mp ((Array.all_eq_true_iff_forall_mem.mp hF) _ (Array.getElem_mem ha)) i (List.mem_range.mpr hi)
    simpa [Array.getElem?_eq_getElem hi] using q
  obtain ⟨i0, ei0⟩ := isL_v ga1
  obtain rfl : u0 = (.long i0) := Option.some.inj ei0
  obtain ⟨i1, ei1⟩ := is_v ga2
  obtain rfl : u1 = (.int i1) := Option.some.inj ei1
  obtain ⟨i2, ei2⟩ := isL_v ga3
  obtain rfl : u2 = (.long i2) := Option.some.inj ei2
  obtain ⟨i3, ei3⟩ := is_v ga4
  obtain rfl : u3 = (.int i3) := Option.some.inj ei3
  obtain ⟨i4, ei4⟩ := is_v ga5
  obtain rfl : u4 = (.int i4) := Option.some.inj ei4
  obtain ⟨na0, na1⟩ := and_e hn
  obtain ⟨w_EXCLUSIVE, v_w_EXCLUSIVE⟩ := exa_v na0
  have S_w_EXCLUSIVE := Sta.start v_w_EXCLUSIVE (Or.inr ⟨(own_w hw 3 rfl), (own_w hw 4 rfl)⟩)
  have E_w_EXCLUSIVE := Exa.start v_w_EXCLUSIVE na0
  obtain ⟨w_SHARED, v_w_SHARED⟩ := exa_v na1
  have S_w_SHARED := Sta.start v_w_SHARED (Or.inr ⟨(own_w hw 3 rfl), (own_w hw 44 rfl)⟩)
  have E_w_SHARED := Exa.start v_w_SHARED na1
  obtain ⟨n, o, h1, h2, h3, _, L, rfl, ⟨rfl, N⟩, hq⟩ := rm0 l s _ hw tables_1 w_EXCLUSIVE w_SHARED ⟨S_w_EXCLUSIVE, E_w_EXCLUSIVE, S_w_SHARED, E_w_SHARED⟩ i0 i1 i2 i3 i4 s.heap s.heap.size (Old.start s) p e ha hc hk s m _ below hf ((Spec.applies_iff_loose hf).mp happ).1 ⟨rfl, State.Warmed39.refl s, rfl⟩ trivial
  refine ⟨n, _, h1, h2, h3, hpost _ _ _ _ _ _ ⟨Cond.after_iff.mpr rfl, Cond.after_iff.mpr (eq_i res_at (Term.int_eval (1)) rfl)⟩ ⟨hq.1, hq.2.1, hq.2.2.1, (hq.2.2.2.sift fun y hy => Or.inr (N y hy)).mono (by decide) (by decide)⟩⟩
theorem main_1_1 : Claimed_1_1 := comes_1 fun _ _ _ _ _ _ h hF => ⟨h.1, hF⟩
theorem main_1_2 : Claimed_1_2 := comes_1 fun _ _ _ _ _ _ h hF => ⟨h.2, hF⟩
end Jvm.Pilot.@@N@@
namespace Jvm.Pilot.@@N@@
open Jvm Jvm.ClassFile Sem Op Lib Jvm.Free Jvm.Stand Jvm.Pilot.@@N@@.Jvm.D
/-! MADE BY PROGRAM (witnessworld.py) out of the Statement's table words and the real class files: 17 classes; the members and pool entries that the words name. The judged class is class 1, her method 2. -/
namespace start1
open Jvm.ClassFile
def u (s : String) : CpInfo := .utf8 (stringToUtf16 s)
/-- a pool by its gaps: so many unusable entries, then the entry; so many at the end -/
def gap : Nat → List CpInfo → List CpInfo
  | 0, r => r
  | n + 1, r => .unusable :: gap n r
def poolList (es : List (Nat × CpInfo)) (last : Nat) : List CpInfo := es.foldr (fun e r => gap e.1 (e.2 :: r)) (gap last [])
def pool (es : List (Nat × CpInfo)) (last : Nat) : Array CpInfo := ⟨poolList es last⟩
def fileOf (pool : Array CpInfo) (this : Nat) (attrs : Array Attribute := #[]) (ms : Array MethodInfo := #[]) (fl : Nat := 33) (sup : Nat := 0) (ifs : Array Nat := #[]) (fds : Array FieldInfo := #[]) : ClassFile where
  minorVersion := 0
  majorVersion := 65
  constantPool := pool
  accessFlags := fl
  thisClass := this
  superClass := sup
  interfaces := ifs
  fields := fds
  methods := ms
  attributes := attrs
def plain (name : String) (sup : Option ClassId) : Class where
  name := name
  kind := .ordinary
  loader := none
  accessFlags := 33
  super := sup
  interfaces := #[]
  cf := none
  fields := #[]
  methods := #[]
  instanceTypes := #[]
  staticTypes := #[]
  resolved := #[]
  callSites := []
  init := .initialized
  statics := none
  mirror := none

def pool0 : Array CpInfo := pool [(5, u "<init>"), (0, u "()V"), (1, .class_ 10), (1, u "java/lang/Object")] 113

def k0c0 : Code := { maxStack := 0, maxLocals := 1, code := object_method_1_code, exceptionTable := #[], attributes := #[] }
def k0m0 : Method := { name := "<init>", desc := "()V", sig := { parameters := [], returnType := none }, accessFlags := 1, code := some k0c0 }
/-- java/lang/Object -/
def k0 : Class := { plain "java/lang/Object" none with
  accessFlags := 33
  interfaces := #[]
  cf := some (fileOf pool0 8 #[] #[{ accessFlags := 1, nameIndex := 5, descriptorIndex := 6, attributes := #[] }] 33 0 #[] #[])
  fields := #[]
  methods := #[k0m0]
  instanceTypes := #[]
  staticTypes := #[]
  resolved := Array.replicate 124 none
  statics := none }

def pool1 : Array CpInfo := pool [(2, .class_ 4), (1, u "java/lang/Object"), (0, u "<init>"), (0, u "()V"), (2, .long 9223372036854775807), (3, .integer 2147483647), (0, .fieldref 15 16), (0, .class_ 17), (0, .nameAndType 18 19), (0, u "com/example/bare_turnstile/bareturnstile/EntryMode"), (0, u "SHARED"), (0, u "Lcom/example/bare_turnstile/bareturnstile/EntryMode;"), (0, .fieldref 15 21), (0, .nameAndType 22 19), (0, u "EXCLUSIVE"), (0, .class_ 24), (0, u "com/example/bare_turnstile/bareturnstile/Ticket"), (0, .methodref 23 26), (0, .nameAndType 5 27), (0, u "(JILcom/example/bare_turnstile/bareturnstile/EntryMode;)V"), (0, .methodref 23 29), (0, .nameAndType 30 31), (0, u "isBefore"), (0, u "(Lcom/example/bare_turnstile/bareturnstile/Ticket;)Z"), (0, .methodref 33 34), (0, .class_ 35), (0, .nameAndType 36 37), (0, u "com/example/bare_turnstile/bareturnstile/TicketIsBeforePinLaw"), (0, u "reference"), (0, u "(JIJI)Z"), (3, u "law"), (0, u "(JIJII)Z")] 2

def k1m0 : Method := { name := "<init>", desc := "()V", sig := { parameters := [], returnType := none }, accessFlags := 1, code := none }
def k1c1 : Code := { maxStack := 4, maxLocals := 6, code := method_2_code, exceptionTable := #[], attributes := #[] }
def k1m1 : Method := { name := "reference", desc := "(JIJI)Z", sig := { parameters := [.long, .int, .long, .int], returnType := some .boolean }, accessFlags := 10, code := some k1c1 }
def k1c2 : Code := { maxStack := 7, maxLocals := 19, code := code, exceptionTable := #[], attributes := #[] }
def k1m2 : Method := { name := "law", desc := "(JIJII)Z", sig := { parameters := [.long, .int, .long, .int, .int], returnType := some .boolean }, accessFlags := 9, code := some k1c2 }
/-- com/example/bare_turnstile/bareturnstile/TicketIsBeforePinLaw -/
def k1 : Class := { plain "com/example/bare_turnstile/bareturnstile/TicketIsBeforePinLaw" (some 0) with
  accessFlags := 49
  interfaces := #[]
  cf := some (fileOf pool1 33 #[] #[{ accessFlags := 1, nameIndex := 5, descriptorIndex := 6, attributes := #[] }, { accessFlags := 10, nameIndex := 36, descriptorIndex := 37, attributes := #[] }, { accessFlags := 9, nameIndex := 41, descriptorIndex := 42, attributes := #[] }] 49 2 #[] #[])
  fields := #[]
  methods := #[k1m0, k1m1, k1m2]
  instanceTypes := #[]
  staticTypes := #[]
  resolved := Array.replicate 45 none
  statics := none }

def pool2 : Array CpInfo := pool [(1, .class_ 2), (0, u "java/lang/constant/Constable"), (0, .class_ 4), (0, u "java/lang/Object")] 6

/-- java/lang/constant/Constable -/
def k2 : Class := { plain "java/lang/constant/Constable" (some 0) with
  accessFlags := 1537
  interfaces := #[]
  cf := some (fileOf pool2 1 #[] #[] 1537 3 #[] #[])
  fields := #[]
  methods := #[]
  instanceTypes := #[]
  staticTypes := #[]
  resolved := Array.replicate 11 none
  statics := none }

def pool3 : Array CpInfo := pool [(1, .class_ 2), (0, u "java/lang/Comparable"), (0, .class_ 4), (0, u "java/lang/Object")] 7

/-- java/lang/Comparable -/
def k3 : Class := { plain "java/lang/Comparable" (some 0) with
  accessFlags := 1537
  interfaces := #[]
  cf := some (fileOf pool3 1 #[] #[] 1537 3 #[] #[])
  fields := #[]
  methods := #[]
  instanceTypes := #[]
  staticTypes := #[]
  resolved := Array.replicate 12 none
  statics := none }

def pool4 : Array CpInfo := pool [(1, .class_ 2), (0, u "java/io/Serializable"), (0, .class_ 4), (0, u "java/lang/Object")] 2

/-- java/io/Serializable -/
def k4 : Class := { plain "java/io/Serializable" (some 0) with
  accessFlags := 1537
  interfaces := #[]
  cf := some (fileOf pool4 1 #[] #[] 1537 3 #[] #[])
  fields := #[]
  methods := #[]
  instanceTypes := #[]
  staticTypes := #[]
  resolved := Array.replicate 7 none
  statics := none }

def pool5 : Array CpInfo := pool [(2, .class_ 4), (1, u "java/lang/Enum"), (0, u "name"), (0, u "Ljava/lang/String;"), (2, u "ordinal"), (0, u "I"), (1, .class_ 14), (1, u "java/lang/Object"), (4, u "hash"), (86, .class_ 108), (1, u "java/lang/Enum$EnumDesc"), (2, .class_ 112), (0, u "java/lang/constant/Constable"), (0, .class_ 114), (0, u "java/lang/Comparable"), (0, .class_ 116), (0, u "java/io/Serializable")] 87

/-- java/lang/Enum -/
def k5 : Class := { plain "java/lang/Enum" (some 0) with
  accessFlags := 1057
  interfaces := #[2, 3, 4]
  cf := some (fileOf pool5 2 #[.nestMembers #[106]] #[] 1057 12 #[111, 113, 115] #[{ accessFlags := 18, nameIndex := 5, descriptorIndex := 6, attributes := #[] }, { accessFlags := 18, nameIndex := 9, descriptorIndex := 10, attributes := #[] }, { accessFlags := 2, nameIndex := 19, descriptorIndex := 10, attributes := #[] }])
  fields := #[{ name := "name", type := (.object "java/lang/String"), accessFlags := 18, slot := 0, constantValue := 0 }, { name := "ordinal", type := .int, accessFlags := 18, slot := 1, constantValue := 0 }, { name := "hash", type := .int, accessFlags := 2, slot := 2, constantValue := 0 }]
  methods := #[]
  instanceTypes := #[(.object "java/lang/String"), .int, .int]
  staticTypes := #[]
  resolved := Array.replicate 204 none
  statics := none }

def pool6 : Array CpInfo := pool [(1, .class_ 2), (0, u "com/example/bare_turnstile/bareturnstile/EntryMode"), (2, u "EXCLUSIVE"), (0, u "Lcom/example/bare_turnstile/bareturnstile/EntryMode;"), (2, u "SHARED"), (2, u "$VALUES"), (0, u "[Lcom/example/bare_turnstile/bareturnstile/EntryMode;"), (6, .class_ 22), (1, u "java/lang/Enum")] 27

/-- com/example/bare_turnstile/bareturnstile/EntryMode -/
def k6 : Class := { plain "com/example/bare_turnstile/bareturnstile/EntryMode" (some 5) with
  accessFlags := 16433
  interfaces := #[]
  cf := some (fileOf pool6 1 #[] #[] 16433 20 #[] #[{ accessFlags := 16409, nameIndex := 5, descriptorIndex := 6, attributes := #[] }, { accessFlags := 16409, nameIndex := 9, descriptorIndex := 6, attributes := #[] }, { accessFlags := 4122, nameIndex := 12, descriptorIndex := 13, attributes := #[] }])
  fields := #[{ name := "EXCLUSIVE", type := (.object "com/example/bare_turnstile/bareturnstile/EntryMode"), accessFlags := 16409, slot := 0, constantValue := 0 }, { name := "SHARED", type := (.object "com/example/bare_turnstile/bareturnstile/EntryMode"), accessFlags := 16409, slot := 1, constantValue := 0 }, { name := "$VALUES", type := (.array (.object "com/example/bare_turnstile/bareturnstile/EntryMode")), accessFlags := 4122, slot := 2, constantValue := 0 }]
  methods := #[]
  instanceTypes := #[(.object "java/lang/String"), .int, .int]
  staticTypes := #[(.object "com/example/bare_turnstile/bareturnstile/EntryMode"), (.object "com/example/bare_turnstile/bareturnstile/EntryMode"), (.array (.object "com/example/bare_turnstile/bareturnstile/EntryMode"))]
  resolved := Array.replicate 50 none
  statics := some 0 }

def pool7 : Array CpInfo := pool [(1, .methodref 2 3), (0, .class_ 4), (0, .nameAndType 5 6), (0, u "java/lang/Object"), (0, u "<init>"), (0, u "()V"), (12, .fieldref 20 21), (0, .class_ 22), (0, .nameAndType 23 24), (0, u "com/example/bare_turnstile/bareturnstile/Ticket"), (0, u "number"), (0, u "J"), (0, .fieldref 20 26), (0, .nameAndType 27 28), (0, u "participant"), (0, u "I"), (0, .string 30), (0, u "mode"), (0, .methodref 32 33), (0, .class_ 34), (0, .nameAndType 35 36), (0, u "java/util/Objects"), (0, u "requireNonNull"), (0, u "(Ljava/lang/Object;Ljava/lang/String;)Ljava/lang/Object;"), (0, .class_ 38), (0, u "com/example/bare_turnstile/bareturnstile/EntryMode"), (0, .fieldref 20 40), (0, .nameAndType 30 41), (0, u "Lcom/example/bare_turnstile/bareturnstile/EntryMode;"), (2, u "isBefore"), (0, u "(Lcom/example/bare_turnstile/bareturnstile/Ticket;)Z"), (40, .class_ 87), (0, u "java/lang/Comparable"), (0, u "(JILcom/example/bare_turnstile/bareturnstile/EntryMode;)V")] 36

def k7c0 : Code := { maxStack := 4, maxLocals := 5, code := prog_19_method_1_code, exceptionTable := #[], attributes := #[] }
def k7m0 : Method := { name := "<init>", desc := "(JILcom/example/bare_turnstile/bareturnstile/EntryMode;)V", sig := { parameters := [.long, .int, (.object "com/example/bare_turnstile/bareturnstile/EntryMode")], returnType := none }, accessFlags := 1, code := some k7c0 }
def k7c1 : Code := { maxStack := 4, maxLocals := 2, code := prog_19_method_5_code, exceptionTable := #[], attributes := #[] }
def k7m1 : Method := { name := "isBefore", desc := "(Lcom/example/bare_turnstile/bareturnstile/Ticket;)Z", sig := { parameters := [(.object "com/example/bare_turnstile/bareturnstile/Ticket")], returnType := some .boolean }, accessFlags := 1, code := some k7c1 }
/-- com/example/bare_turnstile/bareturnstile/Ticket -/
def k7 : Class := { plain "com/example/bare_turnstile/bareturnstile/Ticket" (some 0) with
  accessFlags := 33
  interfaces := #[3]
  cf := some (fileOf pool7 20 #[] #[{ accessFlags := 1, nameIndex := 5, descriptorIndex := 88, attributes := #[] }, { accessFlags := 1, nameIndex := 44, descriptorIndex := 45, attributes := #[] }] 33 2 #[86] #[{ accessFlags := 18, nameIndex := 23, descriptorIndex := 24, attributes := #[] }, { accessFlags := 18, nameIndex := 27, descriptorIndex := 28, attributes := #[] }, { accessFlags := 18, nameIndex := 30, descriptorIndex := 41, attributes := #[] }])
  fields := #[{ name := "number", type := .long, accessFlags := 18, slot := 0, constantValue := 0 }, { name := "participant", type := .int, accessFlags := 18, slot := 1, constantValue := 0 }, { name := "mode", type := (.object "com/example/bare_turnstile/bareturnstile/EntryMode"), accessFlags := 18, slot := 2, constantValue := 0 }]
  methods := #[k7m0, k7m1]
  instanceTypes := #[.long, .int, (.object "com/example/bare_turnstile/bareturnstile/EntryMode")]
  staticTypes := #[]
  resolved := Array.replicate 125 none
  statics := none }

def pool8 : Array CpInfo := pool [(2, .class_ 4), (1, u "java/lang/CharSequence"), (42, .class_ 48), (0, u "java/lang/CharSequence$1CodePointIterator"), (10, .class_ 60), (0, u "java/lang/CharSequence$1CharIterator"), (5, .class_ 67), (0, u "java/lang/Object")] 63

/-- java/lang/CharSequence -/
def k8 : Class := { plain "java/lang/CharSequence" (some 0) with
  accessFlags := 1537
  interfaces := #[]
  cf := some (fileOf pool8 2 #[.nestMembers #[47, 59]] #[] 1537 66 #[] #[])
  fields := #[]
  methods := #[]
  instanceTypes := #[]
  staticTypes := #[]
  resolved := Array.replicate 131 none
  statics := none }

def pool9 : Array CpInfo := pool [(1, .class_ 2), (0, u "java/lang/constant/ConstantDesc"), (0, .class_ 4), (0, u "java/lang/Object")] 32

/-- java/lang/constant/ConstantDesc -/
def k9 : Class := { plain "java/lang/constant/ConstantDesc" (some 0) with
  accessFlags := 1537
  interfaces := #[]
  cf := some (fileOf pool9 1 #[] #[] 1537 3 #[] #[])
  fields := #[]
  methods := #[]
  instanceTypes := #[]
  staticTypes := #[]
  resolved := Array.replicate 37 none
  statics := none }

def pool10 : Array CpInfo := pool [(2, .class_ 4), (1, u "java/lang/Object"), (0, u "<init>"), (0, u "()V"), (3, .class_ 12), (1, u "java/lang/String"), (0, u "value"), (0, u "[B"), (2, u "coder"), (0, u "B"), (2, u "hash"), (0, u "I"), (2, u "hashIsZero"), (0, u "Z"), (13, u "COMPACT_STRINGS"), (534, .class_ 576), (0, u "java/lang/CharSequence"), (22, u "CASE_INSENSITIVE_ORDER"), (0, u "Ljava/util/Comparator;"), (500, u "serialPersistentFields"), (0, u "[Ljava/io/ObjectStreamField;"), (0, .class_ 1104), (0, u "java/lang/String$CaseInsensitiveComparator"), (1, .class_ 1107), (0, u "java/io/Serializable"), (0, .class_ 1109), (0, u "java/lang/Comparable"), (0, .class_ 1111), (0, u "java/lang/constant/Constable"), (0, .class_ 1113), (0, u "java/lang/constant/ConstantDesc"), (2, u "serialVersionUID"), (0, u "J"), (3, u "REPL"), (0, u "C"), (2, u "LATIN1"), (1, u "UTF16")] 323

def k10m0 : Method := { name := "<init>", desc := "()V", sig := { parameters := [], returnType := none }, accessFlags := 1, code := none }
/-- java/lang/String -/
def k10 : Class := { plain "java/lang/String" (some 0) with
  accessFlags := 49
  interfaces := #[4, 3, 8, 2, 9]
  cf := some (fileOf pool10 10 #[.nestMembers #[1103]] #[{ accessFlags := 1, nameIndex := 5, descriptorIndex := 6, attributes := #[] }] 49 2 #[1106, 1108, 575, 1110, 1112] #[{ accessFlags := 18, nameIndex := 13, descriptorIndex := 14, attributes := #[] }, { accessFlags := 18, nameIndex := 17, descriptorIndex := 18, attributes := #[] }, { accessFlags := 2, nameIndex := 21, descriptorIndex := 22, attributes := #[] }, { accessFlags := 2, nameIndex := 25, descriptorIndex := 26, attributes := #[] }, { accessFlags := 26, nameIndex := 1116, descriptorIndex := 1117, attributes := #[] }, { accessFlags := 24, nameIndex := 40, descriptorIndex := 26, attributes := #[] }, { accessFlags := 26, nameIndex := 1101, descriptorIndex := 1102, attributes := #[] }, { accessFlags := 26, nameIndex := 1121, descriptorIndex := 1122, attributes := #[] }, { accessFlags := 25, nameIndex := 599, descriptorIndex := 600, attributes := #[] }, { accessFlags := 24, nameIndex := 1125, descriptorIndex := 18, attributes := #[] }, { accessFlags := 24, nameIndex := 1127, descriptorIndex := 18, attributes := #[] }])
  fields := #[{ name := "value", type := (.array .byte), accessFlags := 18, slot := 0, constantValue := 0 }, { name := "coder", type := .byte, accessFlags := 18, slot := 1, constantValue := 0 }, { name := "hash", type := .int, accessFlags := 2, slot := 2, constantValue := 0 }, { name := "hashIsZero", type := .boolean, accessFlags := 2, slot := 3, constantValue := 0 }, { name := "serialVersionUID", type := .long, accessFlags := 26, slot := 0, constantValue := 0 }, { name := "COMPACT_STRINGS", type := .boolean, accessFlags := 24, slot := 1, constantValue := 0 }, { name := "serialPersistentFields", type := (.array (.object "java/io/ObjectStreamField")), accessFlags := 26, slot := 2, constantValue := 0 }, { name := "REPL", type := .char, accessFlags := 26, slot := 3, constantValue := 0 }, { name := "CASE_INSENSITIVE_ORDER", type := (.object "java/util/Comparator"), accessFlags := 25, slot := 4, constantValue := 0 }, { name := "LATIN1", type := .byte, accessFlags := 24, slot := 5, constantValue := 0 }, { name := "UTF16", type := .byte, accessFlags := 24, slot := 6, constantValue := 0 }]
  methods := #[k10m0]
  instanceTypes := #[(.array .byte), .byte, .int, .boolean]
  staticTypes := #[.long, .boolean, (.array (.object "java/io/ObjectStreamField")), .char, (.object "java/util/Comparator"), .byte, .byte]
  resolved := Array.replicate 1451 none
  statics := none }

def pool11 : Array CpInfo := pool [(2, .class_ 4), (1, u "java/lang/Object"), (0, u "<init>"), (0, u "()V"), (35, .class_ 44), (1, u "java/util/Objects"), (0, u "requireNonNull"), (48, u "(Ljava/lang/Object;Ljava/lang/String;)Ljava/lang/Object;")] 89

def k11m0 : Method := { name := "<init>", desc := "()V", sig := { parameters := [], returnType := none }, accessFlags := 2, code := none }
def k11c1 : Code := { maxStack := 3, maxLocals := 2, code := jdk_31_method_11_code, exceptionTable := #[], attributes := #[] }
def k11m1 : Method := { name := "requireNonNull", desc := "(Ljava/lang/Object;Ljava/lang/String;)Ljava/lang/Object;", sig := { parameters := [(.object "java/lang/Object"), (.object "java/lang/String")], returnType := some (.object "java/lang/Object") }, accessFlags := 9, code := some k11c1 }
/-- java/util/Objects -/
def k11 : Class := { plain "java/util/Objects" (some 0) with
  accessFlags := 49
  interfaces := #[]
  cf := some (fileOf pool11 42 #[] #[{ accessFlags := 2, nameIndex := 5, descriptorIndex := 6, attributes := #[] }, { accessFlags := 9, nameIndex := 45, descriptorIndex := 94, attributes := #[] }] 49 2 #[] #[])
  fields := #[]
  methods := #[k11m0, k11m1]
  instanceTypes := #[]
  staticTypes := #[]
  resolved := Array.replicate 184 none
  statics := none }

def pool12 : Array CpInfo := pool [(1, u "java/lang/Cloneable"), (0, .class_ 1), (0, u "java/lang/Object"), (0, .class_ 3)] 3

/-- java/lang/Cloneable -/
def k12 : Class := { plain "java/lang/Cloneable" (some 0) with
  accessFlags := 1537
  interfaces := #[]
  cf := some (fileOf pool12 2 #[] #[] 1537 4 #[] #[])
  fields := #[]
  methods := #[]
  instanceTypes := #[]
  staticTypes := #[]
  resolved := Array.replicate 8 none
  statics := none }

/-- the primitive byte -/
def k13 : Class := { plain "byte" none with kind := .primitive 'B', accessFlags := 0x411 }
/-- [B -/
def k14 : Class := { plain "[B" (some 0) with kind := .array 13 .byte, interfaces := #[12, 4], accessFlags := 1041 }

/-- the primitive int -/
def k15 : Class := { plain "int" none with kind := .primitive 'I', accessFlags := 0x411 }
/-- [I -/
def k16 : Class := { plain "[I" (some 0) with kind := .array 15 .int, interfaces := #[12, 4], accessFlags := 1041 }

def heap : Heap := #[{ cls := 6, slots := #[.ref 1, .ref 2, .null], vm := .statics 6 },
  { cls := 6, slots := #[.null, .int 0, .int 0], vm := .none },
  { cls := 6, slots := #[.null, .int 0, .int 0], vm := .none }]
def classes : Array Class := #[k0, k1, k2, k3, k4, k5, k6, k7, k8, k9, k10, k11, k12, k13, k14, k15, k16]
def interned : List (Array UInt16 × Addr) := []
def slotsUsed : Nat := 9
def theMethod : MethodId := ⟨1, 2⟩
def args0 : Array Value := #[.long 5, .int 5, .long 5, .int 5, .int 5]
def aboutOver (below : List Frame) : State where
  vm := { classes := classes, interned := interned.toArray }
  heap := heap
  slotsUsed := slotsUsed
  threads := #[{ frames := .invoking theMethod args0 :: below }]
def below0 : List Frame := [.native { method := ⟨0, 0⟩, args := #[] }]
def about1 : State := aboutOver below0
def p0 : Program := .bare "" "" ""
def e0 : Env := launch0.env 0 0 0
theorem w_frames : about1.frames = Frame.invoking theMethod args0 :: below0 := rfl
set_option maxRecDepth 65536 in
theorem w_args : argsFit about1.vm theMethod args0 = true := by decide +kernel
set_option maxRecDepth 65536 in
theorem w_heap : heapFits about1 = true := by decide +kernel
set_option maxRecDepth 65536 in
theorem w_runnable : about1.curStatus? = some .runnable := by decide +kernel
set_option maxRecDepth 65536 in
theorem w_alone : about1.alone = true := by decide +kernel
set_option maxRecDepth 65536 in
theorem w_named : about1.methodNamed? x = some theMethod := by decide +kernel
set_option maxRecDepth 65536 in
theorem w_hears : about1.hears theMethod below0 = true := by decide +kernel
set_option maxRecDepth 65536 in
theorem w_ripe : about1.ripe theMethod args0 below0 = true := by decide +kernel
theorem w_running : about1.status = .running := rfl
set_option maxRecDepth 65536 in
theorem w_room : about1.hasRoom e0.platform room_1 = true :=
  launch0.hasRoom_least _ room_1 (by decide +kernel) (by decide +kernel) (by decide +kernel) (by decide +kernel) (by decide +kernel) (by decide +kernel)
theorem allAtoms_all (ts : List Jvm.Cond) (a : Array Jvm.Value) (st : Jvm.State) : (allAtoms ts).before a st = ts.all (fun c => c.before a st) := by
  induction ts with
  | nil => rfl
  | cons c t ih =>
    show (Jvm.Cond.and c (allAtoms t)).before a st = _
    rw [Jvm.Cond.before_and, ih, List.all_cons]
def words1 : List Jvm.Cond := Jvm.Cond.code x code maxLocals ret :: tables_1
/-- a 'code' word, met by the world's own term for the bytes: nothing is compared byte by byte -/
theorem code_word {y : MethodName} {bytes : ByteArray} {mx : Nat} {rt : Option FieldType} {a : Array Value} {s : State} {m : MethodId} {meth : Method} {c : Code} (h1 : s.methodNamed? y = some m) (h2 : s.vm.method? m = some meth) (h3 : meth.code = some c) (h4 : c.code = bytes)
    (h5 : (c.maxLocals == mx && c.exceptionTable.isEmpty && decide (c.maxStack ≤ mostOperands) && decide (meth.sig.returnType = rt) && !meth.locks && decide (parseMethodDescriptor y.desc = some meth.sig)) = true) : (Jvm.Cond.code y bytes mx rt).before a s = true := by
  simp only [Bool.and_eq_true, beq_iff_eq, Bool.not_eq_true', decide_eq_true_eq] at h5
  obtain ⟨⟨⟨⟨⟨g1, g2⟩, g3⟩, g4⟩, g5⟩, g6⟩ := h5
  simp [Cond.before, Cond.holds, Cond.value, h1, h2, h3, h4, g1, g2, g3, g4, g5, g6]
def isCode : Jvm.Cond → Bool
  | .code _ _ _ _ => true
  | _ => false
theorem all_split {L : List Jvm.Cond} {P : Jvm.Cond → Bool} (h1 : L.all (fun c => isCode c || P c) = true) (h2 : ∀ c ∈ L.filter isCode, P c = true) : L.all P = true := by
  refine List.all_eq_true.mpr fun c hc => ?_
  have h := List.all_eq_true.mp h1 c hc
  rcases Bool.eq_false_or_eq_true (isCode c) with hi | hi
  · exact h2 c (List.mem_filter.mpr ⟨hc, hi⟩)
  · simpa [hi] using h
set_option maxRecDepth 65536 in
theorem w_c0 : (Jvm.Cond.code x code maxLocals ret).before args0 about1 = true := code_word (m := ⟨1, 2⟩) (meth := k1m2) (c := k1c2) (by decide +kernel) rfl rfl rfl (by decide +kernel)
set_option maxRecDepth 65536 in
theorem w_c1 : (Jvm.Cond.code ({ cls := "com/example/bare_turnstile/bareturnstile/Ticket", name := "<init>", desc := "(JILcom/example/bare_turnstile/bareturnstile/EntryMode;)V" } : Jvm.MethodName) prog_19_method_1_code (5 : Nat) (Option.none : Option Jvm.ClassFile.FieldType)).before args0 about1 = true := code_word (m := ⟨7, 0⟩) (meth := k7m0) (c := k7c0) (by decide +kernel) rfl rfl rfl (by decide +kernel)
set_option maxRecDepth 65536 in
theorem w_c2 : (Jvm.Cond.code ({ cls := "java/lang/Object", name := "<init>", desc := "()V" } : Jvm.MethodName) object_method_1_code (1 : Nat) (Option.none : Option Jvm.ClassFile.FieldType)).before args0 about1 = true := code_word (m := ⟨0, 0⟩) (meth := k0m0) (c := k0c0) (by decide +kernel) rfl rfl rfl (by decide +kernel)
set_option maxRecDepth 65536 in
theorem w_c3 : (Jvm.Cond.code ({ cls := "java/util/Objects", name := "requireNonNull", desc := "(Ljava/lang/Object;Ljava/lang/String;)Ljava/lang/Object;" } : Jvm.MethodName) jdk_31_method_11_code (2 : Nat) (Option.some (Jvm.ClassFile.FieldType.object "java/lang/Object"))).before args0 about1 = true := code_word (m := ⟨11, 1⟩) (meth := k11m1) (c := k11c1) (by decide +kernel) rfl rfl rfl (by decide +kernel)
set_option maxRecDepth 65536 in
theorem w_c4 : (Jvm.Cond.code ({ cls := "com/example/bare_turnstile/bareturnstile/Ticket", name := "isBefore", desc := "(Lcom/example/bare_turnstile/bareturnstile/Ticket;)Z" } : Jvm.MethodName) prog_19_method_5_code (2 : Nat) (Option.some Jvm.ClassFile.FieldType.boolean)).before args0 about1 = true := code_word (m := ⟨7, 1⟩) (meth := k7m1) (c := k7c1) (by decide +kernel) rfl rfl rfl (by decide +kernel)
set_option maxRecDepth 65536 in
theorem w_c5 : (Jvm.Cond.code ({ cls := "com/example/bare_turnstile/bareturnstile/TicketIsBeforePinLaw", name := "reference", desc := "(JIJI)Z" } : Jvm.MethodName) method_2_code (6 : Nat) (Option.some Jvm.ClassFile.FieldType.boolean)).before args0 about1 = true := code_word (m := ⟨1, 1⟩) (meth := k1m1) (c := k1c1) (by decide +kernel) rfl rfl rfl (by decide +kernel)
def codes1 : List Jvm.Cond := [Jvm.Cond.code x code maxLocals ret, Jvm.Cond.code ({ cls := "com/example/bare_turnstile/bareturnstile/Ticket", name := "<init>", desc := "(JILcom/example/bare_turnstile/bareturnstile/EntryMode;)V" } : Jvm.MethodName) prog_19_method_1_code (5 : Nat) (Option.none : Option Jvm.ClassFile.FieldType), Jvm.Cond.code ({ cls := "java/lang/Object", name := "<init>", desc := "()V" } : Jvm.MethodName) object_method_1_code (1 : Nat) (Option.none : Option Jvm.ClassFile.FieldType), Jvm.Cond.code ({ cls := "java/util/Objects", name := "requireNonNull", desc := "(Ljava/lang/Object;Ljava/lang/String;)Ljava/lang/Object;" } : Jvm.MethodName) jdk_31_method_11_code (2 : Nat) (Option.some (Jvm.ClassFile.FieldType.object "java/lang/Object")), Jvm.Cond.code ({ cls := "com/example/bare_turnstile/bareturnstile/Ticket", name := "isBefore", desc := "(Lcom/example/bare_turnstile/bareturnstile/Ticket;)Z" } : Jvm.MethodName) prog_19_method_5_code (2 : Nat) (Option.some Jvm.ClassFile.FieldType.boolean), Jvm.Cond.code ({ cls := "com/example/bare_turnstile/bareturnstile/TicketIsBeforePinLaw", name := "reference", desc := "(JIJI)Z" } : Jvm.MethodName) method_2_code (6 : Nat) (Option.some Jvm.ClassFile.FieldType.boolean)]
set_option maxRecDepth 65536 in
theorem codes_eq : words1.filter isCode = codes1 := rfl
theorem w_codes : ∀ c ∈ words1.filter isCode, c.before args0 about1 = true := by
  rw [codes_eq]
  intro c hc
  simp only [codes1, List.mem_cons, List.not_mem_nil, or_false] at hc
  rcases hc with rfl | rfl | rfl | rfl | rfl | rfl
  · exact w_c0
  · exact w_c1
  · exact w_c2
  · exact w_c3
  · exact w_c4
  · exact w_c5
set_option maxRecDepth 65536 in
theorem w_t1 : (words1.take 24).all (fun c => isCode c || c.before args0 about1) = true := by decide +kernel
set_option maxRecDepth 65536 in
theorem w_t2 : (words1.drop 24).all (fun c => isCode c || c.before args0 about1) = true := by decide +kernel
theorem w_tables : (allAtoms (Jvm.Cond.code x code maxLocals ret :: tables_1)).before args0 about1 = true := by
  rw [allAtoms_all]
  show words1.all (fun c => c.before args0 about1) = true
  refine all_split ?_ w_codes
  rw [← List.take_append_drop 24 words1, List.all_append, w_t1, w_t2]
  rfl
set_option maxRecDepth 65536 in
theorem w_case : (Jvm.Cond.and given_1 narrow_1).before args0 about1 = true := by decide +kernel
theorem w_applies : (headSpec (Jvm.Cond.code x code maxLocals ret :: tables_1) room_1).applies x e0.platform about1 = true :=
  (Spec.applies_iff w_frames).mpr ⟨w_running, w_runnable, w_alone, w_named, w_hears, w_ripe, w_room, w_tables⟩
theorem atStart : AtStart classFile x code maxLocals ret World_1 tables_1 room_1 Calls_1 rest_1 Pre_1 launch0 p0 e0 about1 theMethod args0 below0 :=
  ⟨lists_1, trivial, launch0.admits_env _ _ _, launch0.least_env, fairChoices_fair.cas, fairChoices_fair.clock, w_frames, w_args, w_heap, w_applies, trivial, trivial, w_case⟩
end start1
theorem witness_1 : WitnessClaimed_1 := ⟨start1.p0, start1.e0, start1.about1, start1.theMethod, start1.args0, start1.below0, start1.atStart⟩
end Jvm.Pilot.@@N@@
